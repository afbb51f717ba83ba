import PyProof.Rows.All
import Wide.All
import OpenK.AllK
import Wide.FinOn
import Lean
import PySem.Challenge.RW_fq5005_01

section
open PySem PySem.W PyProof.Rows
set_option Elab.async false
namespace Mine
open PySem.Sem (wp)

/-- what `exported` says of one activation on the stack -/
def hit (self : Value) (x : Code × Pos) : Bool :=
  match Builtin.Bytes.exported self with
  | .stack k => (match k [x] with | .pure b => b | _ => true)
  | _ => true
/-- an activation that holds no bytes memory, whatever is asked -/
def Idle (c : Code) : Prop := ∀ self p, hit self (c, p) = false
def IdleAll (l : List (Code × Pos)) : Prop := ∀ x ∈ l, Idle x.1
def Clean (Γ : Ctx) : Prop := Idle Γ.code ∧ IdleAll Γ.below

theorem exported_eq (self : Value) : Builtin.Bytes.exported self = Sem.stack (fun st => Sem.pure (st.any (hit self))) := by
  have h : ∀ st : List (Code × Pos), st.any (hit self) = st.any (fun x => hit self x) := fun _ => rfl
  unfold Builtin.Bytes.exported
  show Sem.stack _ = _
  congr 1
  funext st
  show Sem.pure _ = _
  congr 1
  refine congrArg (fun f => st.any f) ?_
  funext x
  exact (Bool.or_false _).symm

theorem Clean.no {Γ : Ctx} (h : Clean Γ) (self : Value) (p : Pos) : ((Γ.code, p) :: Γ.below).any (hit self) = false := by
  rw [List.any_eq_false]
  intro x hx
  rcases List.mem_cons.mp hx with rfl | hx
  · rw [h.1 self p]; exact Bool.false_ne_true
  · rw [show x = (x.1, x.2) from rfl, h.2 x hx self x.2]; exact Bool.false_ne_true

theorem idle_call (f : Value) (a : Args) : Idle (.call f a) := fun _ _ => rfl
theorem idle_func (b : List Stmt) (e : Env) : Idle (.func b e) := fun _ _ => rfl
theorem idle_while (t : Expr) (b o : List Stmt) (e : Env) : Idle (.whileLoop t b o e) := fun _ _ => rfl
theorem idle_for (t : Expr) (i : Value) (b o : List Stmt) (e : Env) : Idle (.forLoop t i b o e) := fun _ _ => rfl
theorem idle_caller : Idle (.builtin "claim.caller" {}) := fun _ _ => rfl
theorem idle_append (a : Args) : Idle (.builtin "bytearray.append" a) := fun self p => by
  obtain ⟨pos, kw⟩ := a
  cases pos with
  | nil => rfl
  | cons v r => show ((Builtin.Bytes.sameRef v self && _) || false) = false; simp [Builtin.Bytes.decodersThatHold]

/-- as wpAny, but only over contexts whose activations hold no bytes memory -/
def wpS {α : Type} (M : Model) (A : Around) (t : Sem α) (Q : α → Shared → Prop) (E : Value → Shared → Prop) (s : Shared) : Prop :=
  ∀ Γ p, Γ.In A → Clean Γ → wp M Γ t (fun a _ s' => Q a s') (fun e _ s' => E e s') p s
def codeS (M : Model) (A : Around) (c : Code) (R : Result → Shared → Prop) (s : Shared) : Prop :=
  ∀ Γ p, Γ.code = c → Γ.Below A → IdleAll Γ.below → wpCode M Γ R p s

section
variable {α β : Type} {M : Model} {A : Around} {E : Value → Shared → Prop} {s : Shared}
theorem wpS.any {t : Sem α} {Q : α → Shared → Prop} (h : wpAny M A t Q E s) : wpS M A t Q E s := fun Γ p hΓ _ => h Γ p hΓ
theorem codeS.any {c : Code} {R : Result → Shared → Prop} (h : codeAny M A c R s) : codeS M A c R s := fun Γ p hc hΓ _ => h Γ p hc hΓ
theorem wpS.mono {t : Sem α} {Q Q' : α → Shared → Prop} {E' : Value → Shared → Prop} (h : wpS M A t Q E s) (hQ : ∀ a s, Q a s → Q' a s) (hE : ∀ e s, E e s → E' e s) : wpS M A t Q' E' s :=
  fun Γ p hΓ hc => Sem.wp_mono M Γ t (fun a _ s => hQ a s) (fun e _ s => hE e s) p s (h Γ p hΓ hc)
theorem codeS.mono {c : Code} {R R' : Result → Shared → Prop} (h : codeS M A c R s) (hR : ∀ r s, R r s → R' r s) : codeS M A c R' s :=
  fun Γ p hc hΓ hb => wpCode_mono hR (h Γ p hc hΓ hb)
theorem wpS.bind {m : Sem α} {f : α → Sem β} {Q : β → Shared → Prop} (h : wpS M A m (fun a s' => wpS M A (f a) Q E s') E s) : wpS M A (m >>= f) Q E s := fun Γ p hΓ hc => by
  rw [Sem.wp_bind']
  exact Sem.wp_mono M Γ m (fun a p' s' h' => h' Γ p' hΓ hc) (fun _ _ _ h' => h') p s (h Γ p hΓ hc)
theorem wpS.bindA {m : Sem α} {f : α → Sem β} {Q : β → Shared → Prop} (h : wpAny M A m (fun a s' => wpS M A (f a) Q E s') E s) : wpS M A (m >>= f) Q E s := wpS.bind (.any h)
theorem wpS.pure {a : α} {Q : α → Shared → Prop} (h : Q a s) : wpS M A (Pure.pure a) Q E s := .any (wpAny_pure h)
theorem wpS.onRaise {m : Sem α} {k : Value → Sem Unit} {Q : α → Shared → Prop} (h : wpS M A m Q (fun e s' => wpS M A (k e) (fun _ s'' => E e s'') E s') s) : wpS M A (m.onRaise k) Q E s := fun Γ p hΓ hc => by
  rw [Sem.wp_onRaise]
  exact Sem.wp_mono M Γ m (fun _ _ _ h' => h') (fun e p' s' h' => h' Γ p' hΓ hc) p s (h Γ p hΓ hc)
theorem wpS.keep {vs : List Value} {m : Sem α} {Q : α → Shared → Prop} (h : wpS M A m Q E s) : wpS M A (m.keep vs) Q E s := fun Γ p hΓ hc => by
  rw [Sem.wp_keep]; exact h Γ p hΓ hc
theorem wpS.holding {vs : List Value} {m : Sem α} {Q : α → Shared → Prop} (h : wpS M A m Q E s) : wpS M A (PySem.holding vs m) Q E s := fun Γ p hΓ hc => by
  rw [Sem.wp_holding]; exact h Γ p hΓ hc
theorem wpS.run {c : Code} {h : Option Value} {Q : Flow → Shared → Prop}
    (hc : codeS M (A.mark h) c (fun r s' => match r with | .ok f => Q f s' | .error e => E e s') s) (hnb : h ≠ some byPass := by intro x; cases x) : wpS M A (PySem.run c h) Q E s :=
  fun Γ p hΓ hi => by rw [Sem.wp_run]; exact hc _ p rfl (hΓ.enter c h p hnb) (fun x hx => by
    rcases List.mem_cons.mp hx with rfl | hx
    · exact hi.1
    · exact hi.2 x hx)
theorem wpS.call {f : Value} {pos : List Value} {kw : List (Str × Value)} {Q : Value → Shared → Prop}
    (hc : codeS M A (.call f ⟨pos, kw⟩) (fun r s' => match r with | .ok (.ret v) => Q v s' | .ok _ => False | .error e => E e s') s) : wpS M A (PySem.call f pos kw) Q E s := fun Γ p hΓ hi => by
  show wp M Γ (runValue (.call f ⟨pos, kw⟩)) _ _ p s
  rw [Sem.wp_runValue]
  exact hc _ p rfl (hΓ.enter _ none p (by intro x; cases x)) (fun x hx => by
    rcases List.mem_cons.mp hx with rfl | hx
    · exact hi.1
    · exact hi.2 x hx)
theorem codeS.tree {c : Code} {R : Result → Shared → Prop} (hq : Idle c)
    (h : wpS M (A.under c) (M.den c) (fun fin s' => match fin with | .done f => R (.ok f) s' | .again c' => c'.quiet = true ∧ codeS M A c' R s') (fun e s' => R (.error e) s') s) : codeS M A c R s := fun Γ p hc hΓ hb => by
  rw [wpCode_iff_wp, hc]
  refine Sem.wp_mono M Γ _ (fun fin p' s' h' => ?_) (fun _ _ _ h' => h') p s (h Γ p (hc ▸ hΓ.in) ⟨hc ▸ hq, hb⟩)
  cases fin with
  | done f => exact h'
  | again c' => exact ⟨h'.1, h'.2 (Γ.goto c') p' rfl (hΓ.goto c') hb⟩
theorem wpS.exported {self : Value} {Q : Bool → Shared → Prop} (h : Q false s) : wpS M A (Builtin.Bytes.exported self) Q E s := fun Γ p hΓ hi => by
  rw [exported_eq, Sem.wp_stack]
  show Q (((Γ.code, p) :: Γ.below).any (hit self)) s
  rw [hi.no self p]
  exact h
end
end Mine
end

section
open PySem PySem.W PySem.Calls PyProof.Rows
set_option Elab.async false
namespace Mine
open PySem.Sem (wp)

open Classical in
/-- look at the stack first: where some activation holds bytes memory, answer at once -/
noncomputable def lookFirst {α : Type} (v : α) (t : Sem α) : Sem α := Sem.stack fun st => if IdleAll st then t else Sem.pure v

theorem idleAll_iff {Γ : Ctx} {p : Pos} : IdleAll ((Γ.code, p) :: Γ.below) ↔ Clean Γ :=
  ⟨fun h => ⟨h _ (.head _), fun x hx => h x (.tail _ hx)⟩, fun h x hx => by
    rcases List.mem_cons.mp hx with rfl | hx
    · exact h.1
    · exact h.2 x hx⟩
theorem lookFirst_clean {α : Type} {M : Model} {Γ : Ctx} {v : α} {t : Sem α} {Q E p s} (h : Clean Γ) : wp M Γ (lookFirst v t) Q E p s = wp M Γ t Q E p s := by
  unfold lookFirst
  rw [Sem.wp_stack, if_pos (idleAll_iff.mpr h)]
theorem lookFirst_else {α : Type} {M : Model} {Γ : Ctx} {v : α} {t : Sem α} {Q E p s} (h : ¬ Clean Γ) : wp M Γ (lookFirst v t) Q E p s = Q v p s := by
  unfold lookFirst
  rw [Sem.wp_stack, if_neg (fun x => h (idleAll_iff.mp x)), Sem.wp_pure]
theorem wpAny_lookFirst {α : Type} {M : Model} {A : Around} {v : α} {t : Sem α} {Q E s} (h : wpS M A t Q E s) (hv : Q v s) : wpAny M A (lookFirst v t) Q E s := fun Γ p hΓ => by
  by_cases hc : Clean Γ
  · rw [lookFirst_clean hc]; exact h Γ p hΓ hc
  · rw [lookFirst_else hc]; exact hv

/-- the look costs the caller's thread one step -/
theorem look_step {prog : Program} {w : World} {s : Shared} {v : Fin} {t : Sem Fin} (hz : s.asleep) :
    sstep (denote table) prog w (.single s ⟨lookFirst v t, .builtin "claim.caller" {}, default, []⟩) = .go (.single s ⟨t, .builtin "claim.caller" {}, default, []⟩) := by
  have e : step (denote table) prog w s ⟨lookFirst v t, .builtin "claim.caller" {}, default, []⟩ = .go s ⟨t, .builtin "claim.caller" {}, default, []⟩ := by
    obtain ⟨k, hk, hk2⟩ : ∃ k, lookFirst v t = Sem.stack k ∧ ∀ st, IdleAll st → k st = t := ⟨_, rfl, fun st h => if_pos h⟩
    rw [hk]
    obtain ⟨heap, gens, drawn, toks, os⟩ := s
    show Step.go _ ⟨k _, _, _, _⟩ = _
    rw [hk2]
    intro x hx
    rcases List.mem_cons.mp hx with rfl | hx
    · exact idle_caller
    · cases hx
  rcases sstep_single (denote table) prog w s ⟨lookFirst v t, .builtin "claim.caller" {}, default, []⟩ rfl hz with h | h
  · rw [h, e]; rfl
  · rw [e] at h; cases h
theorem look_run {prog : Program} {w : World} {s s' : Shared} {v : Fin} {t : Sem Fin} {n : Nat} {o : Outcome} (hz : s.asleep)
    (h : schedN (denote table) prog w n (.single s ⟨lookFirst v t, .builtin "claim.caller" {}, default, []⟩) = .halted o s') :
    ∃ m, schedN (denote table) prog w m (.single s ⟨t, .builtin "claim.caller" {}, default, []⟩) = .halted o s' := by
  cases n with
  | zero => cases h
  | succ n =>
    unfold schedN at h
    rw [look_step hz] at h
    exact ⟨n, h⟩

theorem holdsOpen_look {c : ClaimW} {tree : List Value → Sem Fin} {v : Fin} {defs keeps : List Str} {writes : Bool}
    (h : c.HoldsOpenBy (fun vs => ⟨lookFirst v (tree vs), .builtin "claim.caller" {}, default, []⟩) defs keeps writes) :
    c.HoldsOpenBy (fun vs => ⟨tree vs, .builtin "claim.caller" {}, default, []⟩) defs keeps writes := by
  refine ⟨h.1, h.2.1, fun w => ⟨(h.2.2 w).1, fun s hs => ?_⟩⟩
  obtain ⟨s₀, hf, hg, s₁, hT, d1, d2, d3, hC⟩ := (h.2.2 w).2 s hs
  refine ⟨s₀, hf, hg, s₁, hT, d1, d2, d3, fun args a1 a2 ord a3 => ?_⟩
  obtain ⟨vs, s₂, hl, n, o, s', hr, rest⟩ := hC args a1 a2 ord a3
  have hs' : AfterImport (opening c.prog) w s := hs
  have z0 : s₀.asleep := Shared.asleep_of_life (fence_lifeW hf) hs'.life
  have z1 : s₁.asleep := Shared.asleep_of_life hT.2.1 z0
  have z2 : s₂.asleep := Shared.asleep_of_life (layAllW_rest _ _ _ hl).2.2.2 z1
  obtain ⟨m, hm⟩ := look_run z2 hr
  exact ⟨vs, s₂, hl, m, o, s', hm, rest⟩

/-- the walk that is owed, over the restricted contexts; and True is an answer that the row takes -/
abbrev WalkS (q : Program) (loose : List Str) (XP : (Str → Option Value) → Heap → Prop) (YP : World → Heap → Prop) (r : RowW) (d : DefRec) (kwd : List (Str × Expr)) : Prop :=
  (∀ args, (∀ cls, r.claim.raises args cls = false) ∧ (r.claim.pre args = true → r.claim.post args (.bool true) args = true)) ∧
  ∀ (w : World) (s₀ s₁ : Shared) (mg mb : Str → Option Value), Ground q loose r.records XP w s₀ mg mb s₁.heap → YP w s₁.heap → ∀ (a : Addr) (o : Obj) (pm cd doc dV kV : Value), s₁.heap.get? a = some o →
    o.data = .func { docDef d.name d.params d.body d.scope pm cd doc with defaults := dV, kwdefaults := kV } → s₁.heap.CodeRec cd d.name → Dflts mg s₁.heap d.params kwd dV kV → mg d.name = some (.ref a) → s₁.gens = #[] →
    ∀ (args : List WData) (vals : List Value) (as : List Addr), r.claim.pre args = true → WData.layableAll args = true → ReadsAllW r.records (classAt s₀.heap) s₁.heap vals args as → WellAll w.params s₁.heap vals args → (∀ a ∈ as, (a == sysModules) = false) →
      wpS (model r.prog w) callerA (PySem.call (.ref a) vals) (fun v s' => GoodWG r.claim (classAt s₀.heap) (ExcName.means s₀.heap) args s₁ (.ok (.ret v)) s')
        (fun e s' => GoodWG r.claim (classAt s₀.heap) (ExcName.means s₀.heap) args s₁ (.error e) s') s₁

theorem good_true {c : ClaimW} {cl : Str → Option Addr} {mean : ExcName → Option Value} {args : List WData} {s₁ : Shared} (hg : s₁.gens = #[]) (hr : ∀ cls, c.raises args cls = false) (hp : c.post args (.bool true) args = true) :
    GoodWG c cl mean args s₁ (.ok (.ret (.bool true))) s₁ :=
  ⟨.inl ⟨.bool true, .bool true, [], rfl, hr, .bool _, hp, fun _ => ⟨List.nodup_nil, fun _ h => nomatch h⟩⟩, OldK.refl _, rfl, .of_eq hg⟩

/-- The library's tactic for the top names its rule `PySem.W.holds_open`; within this namespace that name is this theorem: the same rule, but the walk is owed over the restricted contexts alone. -/
theorem PySem.W.holds_open {r : OpenRow} {q : Program} {loose : List Str} {Xt : Shared → Bool} {XP : (Str → Option Value) → Heap → Prop} {α : Type} {Yf : Shared → α} {Ya : World → α} {YP : World → Heap → Prop} {d : DefRec} {kwd : List (Str × Expr)} {N : Nat}
    (left : LeftO r.prog q loose Xt Yf Ya N) (hY : ∀ w s, Yf s = Ya w → YP w s.heap) (hYk : ∀ w h h', YP w h → (∀ b o, h.get? b = some o → h'.get? b = some o) → YP w h')
    (hX : ∀ s, Xt s = true → XP (s.heap.nsMap mainGlobals) s.heap) (hXk : ∀ mg h h', XP mg h → (∀ b o, h.get? b = some o → h'.get? b = some o) → XP mg h')
    (hdef : defOf q r.name = some (d, kwd)) (hp : r.prog.theDef r.name = some (d.params, d.body, d.scope)) (hk : kwWritten? d.params.kwonlyargs d.params.kw_defaults = some kwd) (hRf : ∀ s, Xt s = true → RecFacts r.records s.heap) (hwr : (!r.writes || r.records.isEmpty) = true)
    (k1 : r.wellSaid = true) (ok : (chainsOk q && opensWell r.prog && (frees r.toRowW && r.within.isEmpty)) = true) (hb : r.prog.bare) (hw : r.toRowW.promised)
    (call : WalkS q loose XP YP r.toRowW d kwd) : r.Holds := by
  refine ⟨k1, hw, holdsOpen_look (v := .done (.ret (.bool true))) (open_anyG (r := r.toRowW) (run := fun f vs => lookFirst (.bool true) (PySem.call f vs)) left hY hYk hX hXk hRf hwr ok hb hw
    (fun vs w s mg f Q E hg hf h => ?_) (fun w s hg G n hn => ?_) fun w s₀ s₁ mg mb G Y args vs as hpre hlay L low => ?_)⟩
  · intro Γ p hΓ
    have h1 := h Γ p hΓ
    by_cases hc : Clean Γ
    · rw [lookFirst_clean hc] at h1 ⊢
      have hn : s.heap.Ns mainNs mg := hg
      rw [Sem.wp_bind', Sem.wp_nsGet _ _ _ _ _ hn, show mg r.name = some f from hf]
      show wp _ Γ (PySem.call f vs >>= fun x => ret x) _ _ p s
      rw [Sem.wp_bind']
      exact Sem.wp_mono _ Γ _ (fun _ _ _ x => x) (fun _ _ _ x => x) p s h1
    · rw [lookFirst_else hc] at h1 ⊢
      exact h1
  · obtain rfl : n = r.name := by split at hn <;> simp_all
    exact pinned_of_view hg G hdef hp hk
  · obtain ⟨a, o, pm, cd, doc, dV, kV, h1, h2, h3, h4, h5⟩ := G.fn hdef
    refine ⟨.ref a, h1, wpAny_lookFirst (call.2 w s₀ s₁ mg mb G Y a o pm cd doc dV kV h2 h3 h4 h5 (defOf_name hdef ▸ h1) L.gens args vs as hpre hlay L.reads L.well (L.low low)) ?_⟩
    exact good_true L.gens (call.1 args).1 ((call.1 args).2 hpre)
end Mine
end

section
open PySem PySem.W PyProof.Rows
set_option Elab.async false
namespace Mine
set_option maxRecDepth 100000 in
set_option maxHeartbeats 8000000 in
open_top hd for PySem.Challenge.rw_fq5005_01
end Mine
end

section
open PySem PySem.W PySem.Calls PyProof.Rows
set_option Elab.async false
namespace Mine
open PySem.Sem (wp)

section
variable {prog : Program} {w : World} {A : Around} {E : Value → Shared → Prop} {R : Result → Shared → Prop} {s : Shared}
theorem codeS_func {body : List Stmt} {env : Env}
    (h : wpS (model prog w) (A.deeper env) (execs body env) (fun f s' => R (.ok (.ret (match f with | .ret v => v | _ => .none))) s')
      (fun e s' => wpAny (model prog w) (A.deeper env) (leaving env e) (fun _ s'' => R (.error e) s'') (fun e' s'' => R (.error e') s'') s') s) :
    codeS (model prog w) A (.func body env) R s := by
  refine codeS.tree (idle_func _ _) ?_
  show wpS _ (A.deeper env) (do point; match ← (execs body env).onRaise (leaving env) with | .ret v => ret v | _ => ret .none) _ _ s
  refine wpS.bindA (wpAny_point (wpS.bind (wpS.onRaise (wpS.mono h (fun f s' h' => ?_) fun _ _ h' => .any h'))))
  cases f <;> exact wpS.pure h'
theorem codeS_call_function {a : Addr} {args : Args} {o : Obj} {fd : FuncData} {body : List Stmt} (hroom : A.depth < recursionLimit)
    (ho : s.heap.get? a = some o) (hd' : o.data = .func fd) (hco : fd.scope.isCoroutine = false) (hgen : fd.scope.isGenerator = false) (hbody : fd.body = .stmts body) (hcd : s.heap.CodeRec fd.code fd.qualname)
    (h : wpAny (model prog w) A.in1 (bindArgs fd args) (fun binds s₁ =>
      wpAny (model prog w) A.in1 (newFunctionEnv fd.scope fd.globals fd.closure binds (fd.qualname ++ ".<locals>.") (some a) fd.code none fd.builtins)
        (fun env s₂ => s₂.heap.NoLimit ∧ codeS (model prog w) A (.func body env) R s₂) (fun e s' => R (.error e) s') s₁) (fun e s' => R (.error e) s') s) :
    codeS (model prog w) A (.call (.ref a) args) R s := by
  refine codeS.tree (idle_call _ _) (.any ?_)
  show wpAny _ A.in1 (callAny (.ref a) args) _ _ s
  unfold callAny
  refine wpAny_bind (wpAny_load ho ?_)
  obtain ⟨c, oc, vs, tq, hc, hoc, hdc, hq⟩ := hcd
  simp only [hd', callFunction, hco, hgen, hbody, hc]
  rw [hc] at h
  refine wpAny_bind (m := field (.ref c) 1) (wpAny_field hoc hdc hq (wpAny_bind (wpAny_pure ?_)))
  refine wpAny_bind (wpAny_mono h (fun binds s₁ h₁ => ?_) fun _ _ e => e)
  refine wpAny_bind (wpAny_mono h₁ (fun env s₂ h₂ => ?_) fun _ _ e => e)
  exact wpAny_bind (wpAny_enterFrame h₂.1 hroom (wpAny_pure ⟨rfl, h₂.2⟩))
end

/-- a def with cells of its own, called from outside any frame -/
theorem callS_cells {prog : Program} {w : World} {A : Around} {R : Result → Shared → Prop} {s : Shared} {name : Str} {params : Arguments} {body : List Stmt} {scope : Scope}
    {pm cd doc : Value} {a : Addr} {o : Obj} {args : List Value} {binds : List (Str × Value)}
    (hroom : A.depth < recursionLimit) (ho : s.heap.get? a = some o) (hdata : o.data = .func (Calls.docDef name params body scope pm cd doc)) (hlim : s.heap.NoLimit) (hcd : s.heap.CodeRec cd name)
    (hbind : bindArgs (Calls.docDef name params body scope pm cd doc) ⟨args, []⟩ = pure binds)
    (hkind : ∀ x ∈ binds, scope.names.lookup x.1 = some .local ∨ (scope.names.lookup x.1 = some .cell ∧ ((cellsFrom (s.heap.objs.size + 1) scope.names []).lookup x.1).isSome = true))
    (hnd : ((cellsFrom 0 scope.names []).map (·.1)).Nodup)
    (h : ∀ h₁ tk cells, Fr s.heap s.heap.objs.size h₁ (bindL (envOfC name scope s.heap.objs.size a cd).kindOf binds fun _ => none) → News s.heap s.heap.objs.size h₁ cells →
      CellsAre (bindC (envOfC name scope s.heap.objs.size a cd).kindOf binds fun _ => none) (cellsFrom (s.heap.objs.size + 1) scope.names []) cells →
      wpS (model prog w) (A.deeper (envOfC name scope s.heap.objs.size a cd)) (execs body (envOfC name scope s.heap.objs.size a cd))
        (fun f s' => R (.ok (.ret (match f with | .ret v => v | _ => .none))) s')
        (fun e s' => wpAny (model prog w) (A.deeper (envOfC name scope s.heap.objs.size a cd)) (leaving (envOfC name scope s.heap.objs.size a cd) e)
          (fun _ s'' => R (.error e) s'') (fun e' s'' => R (.error e') s'') s')
        { s with heap := h₁, toks := tk })
    (hco : scope.isCoroutine = false := by rfl) (hgen : scope.isGenerator = false := by rfl) (hk : scope.kind = .function := by rfl) :
    codeS (model prog w) A (.call (.ref a) ⟨args, []⟩) R s := by
  refine codeS_call_function (fd := Calls.docDef name params body scope pm cd doc) hroom ho hdata hco hgen rfl hcd (wpAny_of_eq hbind ?_)
  refine wpAny_newFunctionEnv_cells hk hkind fun env' he s' X => ?_
  subst he
  refine ⟨hlim.keeps X.toInCall.keep, codeS_func ?_⟩
  obtain ⟨h₁, tk, rfl, _⟩ := X.done
  obtain ⟨cells, N, Y⟩ := Cl.news (h₀ := s.heap) (Nat.le_refl _) fun n c hm => ⟨X.cell n c (lookup_of_mem_nodup (cellsFrom_names scope.names 0 (s.heap.objs.size + 1) [] [] rfl ▸ hnd) hm), X.above n c hm⟩
  exact h h₁ tk cells ⟨X.toInCall.ns, X.toInCall.keep, X.toInCall.fresh⟩ N Y

section
variable {prog : Program} {w : World} {A₀ A : Around} {s : Shared} {base h₀ : Heap} {outer : List Env} {L : Addr} {m : Str → Option Value} {env : Env} {news : List (Addr × Obj)} {K : Frag}
  {R : Result → Shared → Prop} {name qual : Str} {params : Arguments} {body : List Stmt} {scope : Scope} {dV kV doc pm cdv ct oc : Value} {an od : Option Addr} {osl : Array (Option Value)} {f : Addr} {args : Args} {binds : List (Str × Value)}
  {p : Program} {loose : List Str} {mean : ExcName → Option Value} {mg mb : Str → Option Value}
/-- a plain def of the written part, called from a frame -/
theorem codeS_def (B : Below A₀ base outer h₀) (F : Fr h₀ L s.heap m) (X₀ : K.In h₀) (N : News h₀ L s.heap news) (T : Top p loose mean mg mb h₀) (hA : A.frames = some (env :: outer)) (hf : env.frame = some L) (hke : env.scope.kind = .function)
    (ho : K.lookup f = some ⟨oc, od, .func (fnOf name qual params body scope dV kV doc pm an cdv ct), osl⟩) (hcd : codeIn K cdv qual = true) (hroom : A.depth < recursionLimit)
    (hbind : BindsTo s (fnOf name qual params body scope dV kV doc pm an cdv ct) args binds) (hloc : ∀ y ∈ binds, scope.names.lookup y.1 = some .local)
    (h : ∀ g L' h₁, Fr h₀ L g m → Fr g L' h₁ (fun y => binds.reverse.lookup y) → News g L' h₁ news → Below A base (env :: outer) g → K.In g → Top p loose mean mg mb g →
      wpS (model prog w) (A.deeper (envOf qual scope L' f cdv)) (execs body (envOf qual scope L' f cdv))
        (fun fl s' => LeaveK h₀ L m g R (match fl with | .ret v => v | _ => .none) s')
        (fun e s' => wpAny (model prog w) (A.deeper (envOf qual scope L' f cdv)) (leaving (envOf qual scope L' f cdv) e) (fun _ s'' => R (.error e) s'') (fun e' s'' => R (.error e') s'') s')
        { s with heap := h₁, toks := s.toks + binds.length })
    (hco : scope.isCoroutine = false) (hgen : scope.isGenerator = false) (hk : scope.kind = .function)
    (hcell : ∀ x ∈ scope.names, x.2 ≠ .cell) : codeS (model prog w) A (.call (.ref f) args) R s := by
  obtain ⟨FG, BG, st, lv⟩ := groundX (R := R) B F N hA hf hke
  refine codeS_call_function (fd := fnOf name qual params body scope dV kV doc pm an cdv ct) hroom ((X₀.keeps F.keep) _ _ ho) rfl hco hgen rfl (codeRec_of (X₀.keeps F.keep) hcd) (hbind _ _ _ _ ?_)
  refine wpAny_newFunctionEnv hcell hloc (fun h₁ hns hsb => ⟨(T.nolimit.keeps F.keep).fresh _ hsb, codeS_func ?_⟩) hk
  have hk₁ : ∀ b o, s.heap.get? b = some o → h₁.get? b = some o := fun b o e => hsb.extBut b o (Nat.ne_of_lt (Heap.lt_size e)) (Heap.get?_push_of_some _ e)
  exact wpS.mono (h _ s.heap.objs.size h₁ FG ⟨hns, fun b o e => hk₁ b o (of_hideAll _ e), Nat.le_of_eq (hideAll_size _ _)⟩
    (fun q hq => ⟨hk₁ _ _ (N q hq).1, Nat.ne_of_lt (Heap.lt_size (N q hq).1), hideAll_none _ (List.mem_map_of_mem hq)⟩) BG (X₀.keeps st) (T.keeps st)) (fun fl s' hl => lv _ _ hl) fun _ _ y => y
end
end Mine
end

section
open PySem PySem.W PySem.Calls PyProof.Rows
set_option Elab.async false
namespace Mine
open PySem.Sem (wp)
abbrev Never : Value → Shared → Prop := fun _ _ => False

section
variable {M : Model} {A : Around} {E : Value → Shared → Prop} {s : Shared} {env : Env}
theorem wp_execs_append {Γ : Ctx} {pre rest : List Stmt} {Q : Flow → Pos → Shared → Prop} {E : Value → Pos → Shared → Prop} : ∀ {p : Pos} {s : Shared},
    wp M Γ (execs pre env) (fun f p' s' => match f with | .next => wp M Γ (execs rest env) Q E p' s' | f => Q f p' s') E p s → wp M Γ (execs (pre ++ rest) env) Q E p s := by
  induction pre with
  | nil => exact fun h => h
  | cons st pre ih =>
    intro p s h
    rw [execs_cons, Sem.wp_bind'] at h
    rw [List.cons_append, execs_cons, Sem.wp_bind']
    refine Sem.wp_mono M Γ _ (fun f p' s' h' => ?_) (fun _ _ _ x => x) p s h
    cases f with
    | next => exact ih h'
    | brk => exact h'
    | cont => exact h'
    | ret v => exact h'
/-- a block's first part walks by the library's rules, its rest over the restricted contexts -/
theorem wpS.block (pre : List Stmt) {rest : List Stmt} {Q : Flow → Shared → Prop}
    (h : wpAny M A (execs pre env) (fun f s' => match f with | .next => wpS M A (execs rest env) Q E s' | f => Q f s') E s) : wpS M A (execs (pre ++ rest) env) Q E s := fun Γ p hΓ hc =>
  wp_execs_append (Sem.wp_mono M Γ _ (fun f p' s' h' => by cases f <;> first | exact h' Γ p' hΓ hc | exact h') (fun _ _ _ x => x) p s (h Γ p hΓ))
theorem wpS.cons {st : Stmt} {rest : List Stmt} {Q : Flow → Shared → Prop}
    (h : wpS M A (exec st env) (fun f s' => match f with | .next => wpS M A (execs rest env) Q E s' | f => Q f s') E s) : wpS M A (execs (st :: rest) env) Q E s := by
  rw [execs_cons]
  refine wpS.bind (wpS.mono h (fun f s' h' => ?_) fun _ _ x => x)
  cases f <;> first | exact h' | exact wpS.pure h'
theorem wpS.nil {Q : Flow → Shared → Prop} (h : Q .next s) : wpS M A (execs [] env) Q E s := .any (wpAny_execs_nil h)
theorem wpS.IfSt {test : Expr} {body orelse : List Stmt} {pos : Pos} {Q : Flow → Shared → Prop}
    (h : wpAny M A (isTrue test env (eval test env)) (fun b s₂ => if b = true then wpS M A (execs body env) Q E s₂ else wpS M A (execs orelse env) Q E s₂) E s) : wpS M A (exec (.If test body orelse pos) env) Q E s := by
  rw [exec_If]
  refine wpS.bindA (wpAny_standAt (wpS.bindA (wpAny_mono h (fun b s₂ h₂ => ?_) fun _ _ x => x)))
  cases b with
  | true => simpa using h₂
  | false => simpa using h₂
theorem wpS.runOwn {c : Code} {Q : Flow → Shared → Prop} (hc : codeS M A c (fun r s' => match r with | .ok f => Q f s' | .error _ => False) s) : wpS M A (PySem.runOwn c env none) Q Never s := by
  unfold PySem.runOwn
  refine wpS.onRaise (wpS.run (h := none) (codeS.mono hc fun r s' h => ?_))
  cases r with
  | ok f => exact h
  | error e => exact h.elim
theorem wpS.AssignSt {x : Str} {pos' : Pos} {value : Expr} {pos : Pos} {Q : Flow → Shared → Prop}
    (h : wpS M A (eval value env) (fun v s₁ => wpAny M A (storeName env x v) (fun _ => Q .next) E s₁) E s)
    (hs : swapsWith value (some (.Name x pos')) pos.line env = Pure.pure false := by rfl) : wpS M A (exec (.Assign [.Name x pos'] value pos) env) Q E s := by
  rw [exec_Assign_Name env x pos' value pos hs]
  refine wpS.bindA (wpAny_standAt (wpS.bind (wpS.mono h (fun v s₁ h₁ => ?_) fun _ _ x => x)))
  exact wpS.bindA (wpAny_standAt (wpS.bindA (wpAny_bindName (wpAny_mono h₁ (fun _ _ h₂ => wpS.pure h₂) fun _ _ x => x))))
theorem wpS.ExprSt {e : Expr} {pos : Pos} {Q : Flow → Shared → Prop} (h : wpS M A (eval e env) (fun v s' => v = .none ∧ Q .next s') E s)
    (hi : interactive env = false := by rfl) (hs : swapsWith e none pos.line env = Pure.pure false := by rfl) : wpS M A (exec (.Expr e pos) env) Q E s := by
  rw [exec_Expr env e pos hi hs]
  refine wpS.bindA (wpAny_standAt (wpS.bind (wpS.mono h (fun v s' h' => ?_) fun _ _ x => x)))
  obtain ⟨rfl, h'⟩ := h'
  rw [dropValue_plain (fun a e => by cases e)]
  exact wpS.pure h'
theorem wpS.ReturnSt {e : Expr} {pos : Pos} {Q : Flow → Shared → Prop} (h : wpS M A (eval e env) (fun v => Q (.ret v)) E s) : wpS M A (exec (.Return (some e) pos) env) Q E s := by
  rw [exec_Return_some]
  exact wpS.bindA (wpAny_standAt (wpS.bind (wpS.mono h (fun _ _ x => wpS.pure x) fun _ _ x => x)))
theorem wpS.callWith_builtin {pos : Pos} {id : String} {first : List Value} {args : List (Bool × Sem Value)} {Q : Value → Shared → Prop} (hplain : args.any (·.1) = false)
    (h : wpAny M A (evalArgs (.builtin id) true args []) (fun a s₁ => wpS M A (PySem.call (.builtin id) (first ++ a.pos) a.kw) Q E s₁) E s) : wpS M A (callWith pos (.builtin id) first args []) Q E s := by
  unfold callWith
  refine wpS.bindA (wpAny_holding (wpAny_mono h (fun a s₁ h₁ => wpS.bindA (wpAny_standAt ?_)) fun _ _ x => x))
  simp only [hplain, List.any_nil, Bool.or_false]
  refine wpS.bindA (wpAny_pure ?_)
  exact wpS.bind (wpS.mono h₁ (fun r s₂ hr => wpS.bindA (wpAny_holding (wpAny_point (wpS.pure hr)))) fun _ _ x => x)
theorem wpS.callWith_type {pos : Pos} {T : String} {first : List Value} {args : List (Bool × Sem Value)} {Q : Value → Shared → Prop} (hplain : args.any (·.1) = false)
    (h : wpAny M A (evalArgs (.type T) true args []) (fun a s₁ => wpS M A (PySem.call (.type T) (first ++ a.pos) a.kw) Q E s₁) E s) : wpS M A (callWith pos (.type T) first args []) Q E s := by
  unfold callWith
  refine wpS.bindA (wpAny_holding (wpAny_mono h (fun a s₁ h₁ => wpS.bindA (wpAny_standAt ?_)) fun _ _ x => x))
  simp only [hplain, List.any_nil, Bool.or_false]
  refine wpS.bindA (wpAny_pure ?_)
  exact wpS.bind (wpS.mono h₁ (fun r s₂ hr => wpS.bindA (wpAny_holding (wpAny_point (wpS.pure hr)))) fun _ _ x => x)
/-- `o.name(arg)`, the method a built-in's -/
theorem wpS.method {o e : Expr} {name : Str} {apos pos : Pos} {pl : Sem Bool} {id : String} {Q : Value → Shared → Prop}
    (h : wpAny M A (eval o env) (fun ov s₁ => wpAny M A (getMethod ov name pl) (fun fx s₂ => fx = (.builtin id, [ov]) ∧ wpAny M A (eval e env) (fun v s₃ => wpS M A (PySem.call (.builtin id) [ov, v]) Q E s₃) E s₂) E s₁) E s)
    (he : eval (.Call (.Attribute o name apos) [e] [] pos) env = (do
      let ov ← eval o env
      standAt apos.atName
      let (f, first) ← PySem.holding [ov] (getMethod ov name pl)
      callWith pos f first (backTo pos (starEach [e] env)) []) := by rfl)
    (hst : starEach [e] env = [(false, eval e env)] := by rfl) : wpS M A (eval (.Call (.Attribute o name apos) [e] [] pos) env) Q E s := by
  rw [he]
  refine wpS.bindA (wpAny_mono h (fun ov s₁ h₁ => wpS.bindA (wpAny_standAt (wpS.bindA (wpAny_holding (wpAny_mono h₁ (fun fx s₂ h₂ => ?_) fun _ _ x => x))))) fun _ _ x => x)
  obtain ⟨rfl, h₂⟩ := h₂
  rw [hst]
  refine wpS.callWith_builtin rfl ?_
  refine evalArgs_plain (spliced_cons (wpAny_mono ?_ (fun v s₃ h₃ => spliced_nil h₃) fun _ _ x => x))
  exact h₂
end

section
variable {prog : Program} {w : World} {A : Around} {R : Result → Shared → Prop} {s : Shared} {env : Env}
theorem codeS_loop {c : Code} (hq : c.quiet = true) (hi : Idle c) (I : Nat → Shared → Prop)
    (turn : ∀ n s, I n s → wpS (model prog w) (A.under c) ((model prog w).den c)
      (fun fin s' => match fin with | .done f => R (.ok f) s' | .again c' => (c' = c ∧ ∃ m, m < n ∧ I m s') ∨ (c'.quiet = true ∧ codeS (model prog w) A c' R s')) (fun e s' => R (.error e) s') s)
    (n : Nat) (h : I n s) : codeS (model prog w) A c R s := by
  induction n using Nat.strongRecOn generalizing s with
  | ind n ih =>
    refine codeS.tree hi (wpS.mono (turn n s h) (fun fin s' hf => ?_) fun _ _ x => x)
    cases fin with
    | done f => exact hf
    | again c' =>
      rcases hf with ⟨rfl, m, hm, hI⟩ | hf
      · exact ⟨hq, ih m hm hI⟩
      · exact hf
theorem wpS.noted {α : Type} {M : Model} {m : Sem α} {Q : α → Shared → Prop} {k : Value → Sem Unit} {E : Value → Shared → Prop} (h : wpS M A m Q Never s) : wpS M A (m.onRaise k) Q E s :=
  wpS.onRaise (wpS.mono h (fun _ _ x => x) fun _ _ x => x.elim)
theorem codeS_while {test : Expr} {body : List Stmt} (I : Nat → Shared → Prop)
    (turn : ∀ n s, I n s → wpAny (model prog w) A (isTrue test env (eval test env)) (fun b s₂ =>
        if b = true then wpS (model prog w) A (execs body env) (fun f s₃ => f = .next ∧ ∃ m, m < n ∧ I m s₃) Never s₂ else R (.ok .next) s₂) Never s)
    (n : Nat) (h : I n s) : codeS (model prog w) A (.whileLoop test body [] env) R s := by
  refine codeS_loop rfl (idle_while _ _ _ _) I (fun n s hI => ?_) n h
  show wpS _ A ((whileTurn test body [] env).onRaise _) _ _ s
  refine wpS.noted ?_
  unfold whileTurn
  refine wpS.bindA (wpAny_mono (turn n s hI) (fun b s₂ h₂ => ?_) fun _ _ x => x)
  cases b with
  | false =>
    simp only [Bool.false_eq_true, if_false] at h₂ ⊢
    exact wpS.bind (wpS.nil (wpS.pure h₂))
  | true =>
    simp only [if_true] at h₂ ⊢
    refine wpS.bind (wpS.mono h₂ (fun f s₃ h₃ => ?_) fun _ _ x => x)
    obtain ⟨rfl, h₃⟩ := h₃
    exact wpS.pure (.inl ⟨rfl, h₃⟩)
theorem wpS.WhileSt {test : Expr} {body : List Stmt} {pos : Pos} {Q : Flow → Shared → Prop} (I : Nat → Shared → Prop)
    (turn : ∀ n s, I n s → wpAny (model prog w) A (isTrue test env (eval test env)) (fun b s₂ =>
        if b = true then wpS (model prog w) A (execs body env) (fun f s₃ => f = .next ∧ ∃ m, m < n ∧ I m s₃) Never s₂ else Q .next s₂) Never s)
    (n : Nat) (h : I n s) : wpS (model prog w) A (exec (.While test body [] pos) env) Q Never s := by
  rw [exec_While]
  exact wpS.bindA (wpAny_standAt (wpS.runOwn (codeS_while I turn n h)))
theorem codeS_for {target : Expr} {it : Value} {body : List Stmt} (I : Nat → Shared → Prop)
    (turn : ∀ n s, I n s → wpAny (model prog w) A (pyNext it) (fun r s₁ => match r with
      | none => R (.ok .next) s₁
      | some v => wpAny (model prog w) A (assign target env v) (fun _ s₂ => wpS (model prog w) A (execs body env) (fun f s₃ => f = .next ∧ ∃ m, m < n ∧ I m s₃) Never s₂) Never s₁) Never s)
    (n : Nat) (h : I n s) (ht : ∀ v, letOwnedTupleGo target it v = Pure.pure () := by intro _; rfl) : codeS (model prog w) A (.forLoop target it body [] env) R s := by
  refine codeS_loop rfl (idle_for _ _ _ _ _) I (fun n s hI => ?_) n h
  show wpS _ _ ((forTurn target it body [] env).onRaise _) _ _ s
  refine wpS.noted ?_
  unfold forTurn
  refine wpS.bindA (wpAny_standAt (wpS.bindA (wpAny_onRaise (wpAny_mono (turn n s hI) (fun r s₁ h₁ => ?_) fun _ _ x => x.elim))))
  cases r with
  | none => exact wpS.pure (.inr ⟨rfl, .any (codeAny_block (wpAny_execs_nil h₁))⟩)
  | some v =>
    refine wpS.bindA (wpAny_of_eq (ht v) ?_)
    refine wpS.bindA (wpAny_mono h₁ (fun _ s₂ h₂ => wpS.bind (wpS.mono h₂ (fun f s₃ h₃ => ?_) fun _ _ x => x)) fun _ _ x => x)
    obtain ⟨rfl, h₃⟩ := h₃
    exact wpS.pure (.inl ⟨rfl, h₃⟩)
theorem wpS.ForSt {target iter : Expr} {body : List Stmt} {pos : Pos} {Q : Flow → Shared → Prop}
    (h : wpAny (model prog w) A (eval iter env) (fun x s₁ => wpAny (model prog w) A (pyIter x) (fun it s₂ =>
      codeS (model prog w) A (.forLoop target it body [] env) (fun r s' => match r with | .ok f => Q f s' | .error _ => False) s₂) Never s₁) Never s)
    (hs : ∀ x, foldedSetIterable iter env x = Pure.pure x := by intro _; rfl) : wpS (model prog w) A (exec (.For target iter body [] pos) env) Q Never s := by
  rw [exec_For]
  refine wpS.bindA (wpAny_standAt (wpS.bindA (wpAny_mono h (fun x s₁ h₁ => ?_) fun _ _ x => x)))
  refine wpS.bindA (wpAny_of_eq (hs x) (wpS.bindA (wpAny_standAt (wpS.bindA (wpAny_holding (wpAny_mono h₁ (fun it s₂ h₂ => wpS.runOwn h₂) fun _ _ x => x))))))
end
end Mine
end

section
open PySem PySem.W PySem.Calls PyProof.Rows
set_option Elab.async false
set_option maxRecDepth 100000
namespace Mine
open PySem.Sem (wp)
abbrev baObj (b : Array UInt8) : Obj := { cls := .type "bytearray", data := .bytearray b }

theorem ba_plainAttrs : PlainAttrs "bytearray" :=
  ⟨⟨"bytearray.__getattribute__", by rw [typeLookup_type, builtinLookup_eq_fast]; kernel_rfl, by decide +kernel⟩, by rw [typeLookup_type, builtinLookup_eq_fast]; kernel_rfl⟩
theorem ba_slot_append : Slot "bytearray" "append" "bytearray.append" :=
  .of (owner := "bytearray") (n := "append") (by rw [typeLookup_type, builtinLookup_eq_fast]; kernel_rfl) (by decide +kernel) (by decide +kernel) (by decide +kernel)
    (by first | exact .inl (by decide +kernel) | exact .inr (by decide +kernel)) (by rw [isSubtype_type]; kernel_rfl)
theorem ba_type_append : typeOf (.builtin "bytearray.append") = pure (.type "method_descriptor") := by show builtinType _ = _; rw [builtinType_eq_fast]; kernel_rfl
theorem ba_entry_append : entryFor table "bytearray.append" = some Builtin.«bytearray.append» := entryFor_of_tree (by kernel_rfl)
theorem ba_owner : Manifest.owners.lookup (String.ofList ['y', 'a', 'r', 'r', 'a', 'e', 't', 'y', 'b'].reverse) = some Manifest.sig_bytearray := by kernel_rfl
theorem ba_args_append (a b : Value) : argsOk "bytearray.append" ⟨[a, b], []⟩ := by
  unfold argsOk; rw [signature?_of (id := "bytearray.append") (n := ['d', 'n', 'e', 'p', 'p', 'a']) (o := ['y', 'a', 'r', 'r', 'a', 'e', 't', 'y', 'b']) (by kernel_rfl) ba_owner]; kernel_rfl
theorem ba_slot_reverse : Slot "bytearray" "reverse" "bytearray.reverse" :=
  .of (owner := "bytearray") (n := "reverse") (by rw [typeLookup_type, builtinLookup_eq_fast]; kernel_rfl) (by decide +kernel) (by decide +kernel) (by decide +kernel)
    (by first | exact .inl (by decide +kernel) | exact .inr (by decide +kernel)) (by rw [isSubtype_type]; kernel_rfl)
theorem ba_type_reverse : typeOf (.builtin "bytearray.reverse") = pure (.type "method_descriptor") := by show builtinType _ = _; rw [builtinType_eq_fast]; kernel_rfl
theorem ba_entry_reverse : entryFor table "bytearray.reverse" = some Builtin.«bytearray.reverse» := entryFor_of_tree (by kernel_rfl)
theorem ba_args_reverse (a : Value) : argsOk "bytearray.reverse" ⟨[a], []⟩ := by
  unfold argsOk; rw [signature?_of (id := "bytearray.reverse") (n := ['e', 's', 'r', 'e', 'v', 'e', 'r']) (o := ['y', 'a', 'r', 'r', 'a', 'e', 't', 'y', 'b']) (by kernel_rfl) ba_owner]; kernel_rfl
theorem ba_mro : mroOf (.type "bytearray") = pure [.type "bytearray", .type "object"] := by rw [mroOf_type]; kernel_rfl
theorem ba_lookup_new : typeLookup (.type "bytearray") "__new__" = pure (some (.builtin "bytearray.__new__")) := by rw [typeLookup_type, builtinLookup_eq_fast]; kernel_rfl
theorem ba_slot_init : Slot "bytearray" "__init__" "bytearray.__init__" :=
  .of (owner := "bytearray") (n := "__init__") (by rw [typeLookup_type, builtinLookup_eq_fast]; kernel_rfl) (by decide +kernel) (by decide +kernel) (by decide +kernel)
    (by first | exact .inl (by decide +kernel) | exact .inr (by decide +kernel)) (by rw [isSubtype_type]; kernel_rfl)
theorem ba_called : TypeCalled "bytearray" "bytearray.__new__" "bytearray.__init__" :=
  ⟨by decide +kernel, by decide +kernel, ⟨_, _, ba_mro⟩, madeBy_type ba_mro ba_lookup_new (by decide +kernel), by decide +kernel, by rw [isSubtype_type]; kernel_rfl, ba_slot_init⟩
theorem ba_typeCall : checkTypeCall "bytearray" ⟨[], []⟩ = pure () := by kernel_rfl
theorem ba_newCall : checkBuiltinCall "bytearray.__new__" ⟨[.type "bytearray"], []⟩ = pure () := by kernel_rfl
theorem ba_entry_new : entryFor table "bytearray.__new__" = some Builtin.«list.__new__» := entryFor_alias (id' := "list.__new__") (by rw [fastTable_eq_tree]; kernel_rfl) (by decide +kernel) (by decide +kernel) (by rw [fastTable_eq_tree]; kernel_rfl)
theorem ba_plain_new : plainId "bytearray.__new__" = true := by decide +kernel
theorem ba_entry_init : entryFor table "bytearray.__init__" = some Builtin.«bytearray.__init__» := by first | exact entryFor_of_tree (by kernel_rfl) | exact entryFor_of_fast (by kernel_rfl)
theorem ba_args_init (a : Value) : argsOk "bytearray.__init__" ⟨[a], []⟩ := by
  unfold argsOk; rw [signature?_of (id := "bytearray.__init__") (n := ['_', '_', 't', 'i', 'n', 'i', '_', '_']) (o := ['y', 'a', 'r', 'r', 'a', 'e', 't', 'y', 'b']) (by kernel_rfl) ba_owner]; kernel_rfl
theorem ba_sub : isSubtype (.type "bytearray") (.type "bytearray") = pure true := by rw [isSubtype_type]; kernel_rfl
set_option maxRecDepth 1000000 in
set_option maxHeartbeats 4000000 in
theorem ba_owner_new : ("bytearray.__new__".splitOn ".__new__").headD "" = "bytearray" := by simp +decide [String.splitOn, String.splitOnAux]
theorem ba_no_release : typeLookup (.type "bytearray") "__release_buffer__" = pure (some (.builtin "bytearray.__release_buffer__")) := by rw [typeLookup_type, builtinLookup_eq_fast]; kernel_rfl
theorem ba_buffer : typeLookup (.type "bytearray") "__buffer__" = pure (some (.builtin "bytearray.__buffer__")) := by rw [typeLookup_type, builtinLookup_eq_fast]; kernel_rfl
theorem ba_no_bytes : typeLookup (.type "bytearray") "__bytes__" = pure none := by rw [typeLookup_type, builtinLookup_eq_fast]; kernel_rfl
theorem ba_no_index : typeLookup (.type "bytearray") "__index__" = pure none := by rw [typeLookup_type, builtinLookup_eq_fast]; kernel_rfl
theorem ba_init_bind : Builtin.Bytes.bindOptional "bytearray.__init__" "bytearray" ["source", "encoding", "errors"] [] [] = pure [none, none, none] := by kernel_rfl
end Mine
end

section
open PySem PySem.W PySem.Calls PyProof.Rows
set_option Elab.async false
set_option maxRecDepth 100000
namespace Mine
open PySem.Sem (wp)

section
variable {prog : Program} {w : World} {A : Around} {E : Value → Shared → Prop} {s : Shared}
theorem codeS_builtin {R : Result → Shared → Prop} {id : String} {args : Args} {b : Builtin} (hi : Idle (.builtin id args)) (hp : plainId id = true) (hb : entryFor table id = some b)
    (h : wpS (model prog w) A.in1 (b args) (fun fin s' => match fin with | .done f => R (.ok f) s' | .again c' => c'.quiet = true ∧ codeS (model prog w) A c' R s') (fun e s' => R (.error e) s') s) :
    codeS (model prog w) A (.builtin id args) R s := by
  refine codeS.tree hi ?_
  rw [Around.under_plainId hp args]
  show wpS _ _ (match entryFor table id with | some b => b args | none => unsupported ((withoutEnding? id "#data").getD id)) _ _ s
  rw [hb]; exact h
theorem wpS.call_entry {T : String} {name : Str} {id : String} {b : Builtin} {self : Value} {rest : List Value} {Q : Value → Shared → Prop} (h : Slot T name id) (hT : s.TypeIs self T)
    (hb : entryFor table id = some b) (hi : Idle (.builtin id ⟨self :: rest, []⟩))
    (hc : wpS (model prog w) A.in1 (b ⟨self :: rest, []⟩) (fun fin s' => ∃ v, fin = .done (.ret v) ∧ Q v s') E s)
    (ha : argsOk id ⟨self :: rest, []⟩) : wpS (model prog w) A (PySem.call (.builtin id) (self :: rest)) Q E s := by
  refine wpS.call (codeS.tree (idle_call _ _) (.any ?_))
  show wpAny _ A.in1 (do checkBuiltinCall id ⟨self :: rest, []⟩; again (.builtin id ⟨self :: rest, []⟩)) _ _ s
  refine wpAny_bind (h.check _ _ _ _ _ _ _ _ hT ha (wpAny_pure ⟨plainId_quiet h.plain _, codeS_builtin hi h.plain hb (wpS.mono hc (fun fin s' h' => ?_) fun _ _ h' => h')⟩))
  obtain ⟨v, rfl, hv⟩ := h'
  exact hv

theorem wpS.checkResize {D : Addr} {b : Array UInt8} {Q : Unit → Shared → Prop} (ho : s.heap.get? D = some (baObj b)) (h : Q () s) : wpS (model prog w) A (Builtin.Bytes.checkResize (.ref D)) Q E s := by
  unfold Builtin.Bytes.checkResize
  refine wpS.bind (wpS.bind (wpS.exported ?_))
  refine wpS.bindA ?_
  unfold Builtin.Bytes.exportsOf
  refine wpAny_bind (wpAny_load ho (wpAny_pure ?_))
  exact wpS.pure (wpS.pure h)

theorem wpAny_write {D : Addr} {b : Array UInt8} {f : Array UInt8 → Array UInt8} {Q : Unit → Shared → Prop} (ho : s.heap.get? D = some (baObj b)) (hz : (f b).size ≤ sizeLine)
    (h : ∀ h', Heap.SameBut D s.heap h' → h'.get? D = some (baObj (f b)) → Q () { s with heap := h' }) : wpAny (model prog w) A (Builtin.Bytes.write (.ref D) f) Q E s := by
  show wpAny _ _ (updateBytearray D f) _ _ _
  unfold updateBytearray
  refine wpAny_bind (wpAny_load ho ?_)
  show wpAny _ _ (update D (Obj.mapBytearray f) >>= fun _ => lookBehind D) _ _ _
  refine wpAny_bind (wpAny_update ho ?_)
  have h2 : (s.heap.update D (Obj.mapBytearray f)).get? D = some (baObj (f b)) := Heap.get?_update_self (Obj.mapBytearray f) ho rfl
  refine wpAny_lookBehind h2 ?_ (h _ (Heap.SameBut.update ..) h2)
  show (if (f b).size > sizeLine then some "bytearray:memory" else none) = none
  rw [if_neg (Nat.not_lt.mpr hz)]

theorem ba_append_at {D : Addr} {b : Array UInt8} {i : Int} {t : Tok} {Q : Value → Shared → Prop} (ho : s.heap.get? D = some (baObj b)) (h0 : 0 ≤ i) (h1 : i < 256) (hz : b.size < sizeLine)
    (h : ∀ h', Heap.SameBut D s.heap h' → h'.get? D = some (baObj (b.push i.toNat.toUInt8)) → Q .none { s with heap := h' }) :
    wpS (model prog w) A (PySem.call (.builtin "bytearray.append") [.ref D, .int i t]) Q E s := by
  refine wpS.call_entry ba_slot_append ⟨_, ho, rfl⟩ ba_entry_append (idle_append _) ?_ (ba_args_append _ _)
  show wpS _ _ (Builtin.Bytes.byteValue (.int i t) >>= fun c => Builtin.Bytes.checkResize (.ref D) >>= fun _ => Builtin.Bytes.write (.ref D) (·.push c) >>= fun _ => ret .none) _ _ s
  refine wpS.bindA ?_
  show wpAny _ _ (asIndex (.int i t) >>= _) _ _ _
  refine wpAny_bind (wpAny_of_eq (rfl : asIndex (.int i t) = pure i) ?_)
  refine bm_if_false (by simp only [Bool.or_eq_false_iff, decide_eq_false_iff_not]; omega) ?_
  refine wpAny_pure (wpS.bind (wpS.checkResize ho ?_))
  refine wpS.bindA (wpAny_write ho (by rw [Array.size_push]; exact hz) fun h' hs ho' => ?_)
  exact wpS.pure ⟨.none, rfl, h h' hs ho'⟩
theorem ba_reverse_at {D : Addr} {b : Array UInt8} {Q : Value → Shared → Prop} (ho : s.heap.get? D = some (baObj b)) (hz : b.size ≤ sizeLine)
    (h : ∀ h', Heap.SameBut D s.heap h' → h'.get? D = some (baObj b.reverse) → Q .none { s with heap := h' }) :
    wpAny (model prog w) A (PySem.call (.builtin "bytearray.reverse") [.ref D]) Q E s := by
  refine wpAny_call_entry ba_slot_reverse ⟨_, ho, rfl⟩ ba_entry_reverse ?_ (ba_args_reverse _)
  show wpAny _ _ (Builtin.Bytes.write (.ref D) (·.reverse) >>= fun _ => ret .none) _ _ s
  refine wpAny_bind (wpAny_write ho (by rw [Array.size_reverse]; exact hz) fun h' hs ho' => ?_)
  exact wpAny_pure ⟨.none, rfl, h h' hs ho'⟩
end
section
variable {prog : Program} {w : World} {A : Around} {E : Value → Shared → Prop} {s : Shared} {h₀ : Heap} {L D : Addr} {m : Str → Option Value} {news news' : List (Addr × Obj)}
theorem ba_append_K {b : Array UInt8} {i : Int} {t : Tok} {Q : Value → Shared → Prop} (F : Fr h₀ L s.heap m) (N : News h₀ L s.heap news) (U : Upd D (baObj b) (baObj (b.push i.toNat.toUInt8)) news news')
    (h0 : 0 ≤ i) (h1 : i < 256) (hz : b.size < sizeLine) (h : ∀ h', Fr h₀ L h' m → News h₀ L h' news' → Q .none { s with heap := h' }) :
    wpS (model prog w) A (PySem.call (.builtin "bytearray.append") [.ref D, .int i t]) Q E s := by
  obtain ⟨pre, post, rfl, rfl, a, b⟩ := U.split
  have z := N (D, _) (List.mem_append.mpr (.inr (.head _)))
  exact ba_append_at z.1 h0 h1 hz fun h' hs ho' => h h' (F.change hs z.2.1 z.2.2) (news_set N a b hs ho')
theorem ba_reverse_K {b : Array UInt8} {Q : Value → Shared → Prop} (F : Fr h₀ L s.heap m) (N : News h₀ L s.heap news) (U : Upd D (baObj b) (baObj b.reverse) news news')
    (hz : b.size ≤ sizeLine) (h : ∀ h', Fr h₀ L h' m → News h₀ L h' news' → Q .none { s with heap := h' }) :
    wpAny (model prog w) A (PySem.call (.builtin "bytearray.reverse") [.ref D]) Q E s := by
  obtain ⟨pre, post, rfl, rfl, a, b⟩ := U.split
  have z := N (D, _) (List.mem_append.mpr (.inr (.head _)))
  exact ba_reverse_at z.1 hz fun h' hs ho' => h h' (F.change hs z.2.1 z.2.2) (news_set N a b hs ho')
theorem ba_method {b : Array UInt8} {name : Str} {id : String} {pl : Sem Bool} {Q : Value × List Value → Shared → Prop} (N : News h₀ L s.heap news) (hm : (D, baObj b) ∈ news) (slot : Slot "bytearray" name id) (hty : typeOf (.builtin id) = pure (.type "method_descriptor"))
    (h : Q (.builtin id, [.ref D]) s) : wpAny (model prog w) A (getMethod (.ref D) name pl) Q E s :=
  getMethod_builtin ⟨_, (N _ hm).1, rfl⟩ ba_plainAttrs slot hty (fun a e => by cases e; exact ⟨_, (N _ hm).1, rfl⟩) h
end
end Mine
end

section
open PySem PySem.W PySem.Calls PyProof.Rows
set_option Elab.async false
set_option maxRecDepth 100000
namespace Mine
open PySem.Sem (wp)

section
variable {prog : Program} {w : World} {A : Around} {E : Value → Shared → Prop} {s : Shared}
theorem ba_isBA {D : Addr} {b : Array UInt8} {Q : Bool → Shared → Prop} (ho : s.heap.get? D = some (baObj b)) (h : Q true s) : wpAny (model prog w) A (isInstance (.ref D) (.type "bytearray")) Q E s :=
  wpAny_isInstance (T := "bytearray") ⟨_, ho, rfl⟩ ba_sub h
theorem ba_ownBuffer {D : Addr} {b : Array UInt8} {Q : Bool → Shared → Prop} (ho : s.heap.get? D = some (baObj b)) (h : Q true s) : wpAny (model prog w) A (Builtin.Bytes.slotIsOwn (.ref D) "__buffer__") Q E s := by
  have key : ∀ x : String, x = "bytearray" → wpAny (model prog w) A (isInstance (.ref D) (.type x)) Q E s := fun x hx => by rw [hx]; exact ba_isBA ho h
  unfold Builtin.Bytes.slotIsOwn
  refine wpAny_bind (wpAny_specialOf (T := "bytearray") ⟨_, ho, rfl⟩ ba_buffer ?_)
  dsimp only
  refine bm_if_false (by decide +kernel) ?_
  exact key _ (by decide +kernel)
theorem ba_ownRelease {D : Addr} {b : Array UInt8} {Q : Bool → Shared → Prop} (ho : s.heap.get? D = some (baObj b)) (h : Q false s) : wpAny (model prog w) A (Builtin.Bytes.ownRelease (.ref D)) Q E s := by
  unfold Builtin.Bytes.ownRelease
  refine wpAny_bind ?_
  have key : ∀ (x : String) (Q' : Bool → Shared → Prop), x = "bytearray" → Q' true s → wpAny (model prog w) A (isInstance (.ref D) (.type x)) Q' E s := fun x Q' hx h' => by rw [hx]; exact ba_isBA ho h'
  unfold Builtin.Bytes.slotIsOwn
  refine wpAny_bind (wpAny_specialOf (T := "bytearray") ⟨_, ho, rfl⟩ ba_no_release ?_)
  dsimp only
  refine bm_if_false (by decide +kernel) ?_
  exact key _ _ (by decide +kernel) (wpAny_pure h)
theorem ba_payload {D : Addr} {b : Array UInt8} {Q : Array UInt8 → Shared → Prop} (ho : s.heap.get? D = some (baObj b)) (h : Q b s) : wpAny (model prog w) A (Builtin.Bytes.payload (.ref D)) Q E s := by
  unfold Builtin.Bytes.payload Builtin.Bytes.payload?
  refine wpAny_bind (wpAny_bind (wpAny_load ho ?_))
  exact wpAny_pure (wpAny_pure h)
theorem ba_buffer? {D : Addr} {b : Array UInt8} {id : String} {f : Bool} {Q : Option (Array UInt8) → Shared → Prop} (ho : s.heap.get? D = some (baObj b)) (h : Q (some b) s) : wpAny (model prog w) A (Builtin.Bytes.buffer? id (.ref D) f) Q E s := by
  unfold Builtin.Bytes.buffer?
  refine wpAny_bind (wpAny_specialOf (T := "bytearray") ⟨_, ho, rfl⟩ ba_buffer ?_)
  dsimp only
  refine wpAny_bind (ba_ownBuffer ho ?_)
  refine bm_if_false rfl ?_
  refine wpAny_bind (wpAny_specialOf (T := "bytearray") ⟨_, ho, rfl⟩ ba_buffer ?_)
  refine wpAny_bind (ba_ownRelease ho ?_)
  refine bm_if_false rfl ?_
  refine wpAny_bind (ba_payload ho ?_)
  exact wpAny_pure h

theorem bytes_of_ba_at {D : Addr} {b : Array UInt8} {Q : Value → Shared → Prop} (ho : s.heap.get? D = some (baObj b)) (hz : b.size ≤ sizeLine)
    (h : ∀ t k, Q (.bytes b t) { s with toks := k }) : wpAny (model prog w) A (PySem.call (.type "bytes") [.ref D]) Q E s := by
  refine callType_codes (Q₁ := fun obj s₁ => s₁.TypeIs obj "bytes" ∧ Q obj s₁) F.bm_called (F.bm_typeCall _) F.entry_object_init ?_ fun obj s₁ h₁ => ?_
  · refine codeAny_of_tree ?_
    show wpAny _ A.in1.in1 (do checkBuiltinCall "bytes.__new__" ⟨[.type "bytes", .ref D], []⟩; again (.builtin "bytes.__new__" ⟨[.type "bytes", .ref D], []⟩)) _ _ s
    refine wpAny_bind (wpAny_of_eq (F.bm_newCall _) (wpAny_pure ⟨plainId_quiet F.bm_plain _, codeAny_builtin F.bm_entry ?_⟩))
    rw [Around.under_plainId F.bm_plain _]
    have hT : s.TypeIs (.ref D) "bytearray" := ⟨_, ho, rfl⟩
    unfold Builtin.«bytes.__new__»
    refine wpAny_bind (wpAny_of_eq (a := true) rfl ?_)
    refine bm_if_false rfl ?_
    refine wpAny_bind (wpAny_of_eq F.bm_sub ?_)
    refine bm_if_false rfl ?_
    refine wpAny_bind (wpAny_of_eq (F.bm_bind _) ?_)
    refine wpAny_bind (wpAny_of_eq (a := ()) rfl ?_)
    refine wpAny_bind (wpAny_of_eq (a := ()) rfl ?_)
    refine bm_if_false rfl ?_
    refine wpAny_bind (wpAny_specialOf hT ba_no_bytes ?_)
    refine wpAny_bind (wpAny_bind ?_)
    show wpAny _ _ (load D >>= _) _ _ _
    refine wpAny_bind (wpAny_load ho ?_)
    refine wpAny_pure (wpAny_pure ?_)
    refine bm_if_false rfl ?_
    refine wpAny_bind (wpAny_specialOf hT ba_no_index ?_)
    refine bm_if_true rfl ?_
    show wpAny _ _ (Builtin.Bytes.buffer? "bytes.__new__" (.ref D) true >>= _) _ _ _
    refine wpAny_bind (ba_buffer? ho ?_)
    refine wpAny_bind (wpAny_rule ?_)
    refine wpAny_bind (wpAny_mkBytes ?_ hz)
    show wpAny _ _ (if (Value.type "bytes" == Value.type "bytes") = true then _ else _) _ _ _
    refine bm_if_true (by decide) ?_
    exact wpAny_bind (wpAny_pure (wpAny_pure ⟨PySem.W.typeIs_bytes _ _ _, h _ _⟩))
  · exact ⟨h₁.1, F.args_object_init_2 obj _, object_init_meets F.bm_called.init.lookup F.bm_called.made (by decide) prog w A.in1 _ s₁ ⟨h₁.1, rfl, h₁.2⟩⟩
end
end Mine
end

section
open PySem PySem.W PySem.Calls PyProof.Rows
set_option Elab.async false
set_option maxRecDepth 100000
namespace Mine
open PySem.Sem (wp)

theorem idle_id (id : String) (a : Args) (h1 : Builtin.Bytes.decodersThatHold.contains id = false) (h2 : ∀ self p, hit self (.builtin id a, p) = (match a.pos with | v :: _ => (Builtin.Bytes.sameRef v self && Builtin.Bytes.decodersThatHold.contains id) | [] => false)) : Idle (.builtin id a) := fun self p => by
  rw [h2, h1]
  cases a.pos with
  | nil => rfl
  | cons v r => simp
theorem idle_typeCall (a : Args) : Idle (.builtin "type.__call__" a) := idle_id _ a (by decide +kernel) fun self p => by
  obtain ⟨pos, kw⟩ := a
  cases pos with
  | nil => rfl
  | cons v r => exact Bool.or_false _
theorem idle_init (a : Args) : Idle (.builtin "bytearray.__init__" a) := idle_id _ a (by decide +kernel) fun self p => by
  obtain ⟨pos, kw⟩ := a
  cases pos with
  | nil => rfl
  | cons v r => exact Bool.or_false _

section
variable {prog : Program} {w : World} {A : Around} {E : Value → Shared → Prop} {s : Shared}
theorem code_ba_new {Q₁ : Value → Shared → Prop}
    (h : Q₁ (.ref s.heap.objs.size) { s with heap := s.heap.push (baObj #[]) }) :
    codeAny (model prog w) A (.call (.builtin "bytearray.__new__") ⟨[.type "bytearray"], []⟩) (wants Q₁ E) s := by
  refine codeAny_of_tree ?_
  show wpAny _ A.in1 (do checkBuiltinCall "bytearray.__new__" ⟨[.type "bytearray"], []⟩; again (.builtin "bytearray.__new__" ⟨[.type "bytearray"], []⟩)) _ _ s
  refine wpAny_bind (wpAny_of_eq ba_newCall (wpAny_pure ⟨plainId_quiet ba_plain_new _, codeAny_builtin_stack ba_entry_new rfl fun p st => ?_⟩))
  rw [Around.under_plainId ba_plain_new _]
  have hown := ba_owner_new
  obtain ⟨hp, g, d, tk, os⟩ := s
  simp only [hown]
  refine wpAny_bind (wpAny_of_eq (a := true) rfl ?_)
  refine bm_if_false rfl ?_
  refine wpAny_bind (wpAny_of_eq ba_sub ?_)
  refine bm_if_false rfl ?_
  refine wpAny_bind (wpAny_pure ?_)
  refine bm_if_true (by decide +kernel) ?_
  refine wpAny_bind (wpAny_newObj_type ?_ (Nat.zero_le _))
  first | exact h | exact wpAny_pure h | exact wpAny_pure (wpAny_pure h)

theorem codeS_builtinW {R : Result → Shared → Prop} {id : String} {args : Args} {b : Builtin} (hi : Idle (.builtin id args)) (hb : entryFor table id = some b)
    (h : wpS (model prog w) (A.under (.builtin id args)) (b args) (fun fin s' => match fin with | .done f => R (.ok f) s' | .again c' => c'.quiet = true ∧ codeS (model prog w) A c' R s') (fun e s' => R (.error e) s') s) :
    codeS (model prog w) A (.builtin id args) R s := by
  refine codeS.tree hi ?_
  show wpS _ _ (match entryFor table id with | some b => b args | none => unsupported ((withoutEnding? id "#data").getD id)) _ _ s
  rw [hb]; exact h

theorem ba_make {Q : Value → Shared → Prop} (h : ∀ h', Heap.SameBut s.heap.objs.size (s.heap.push (baObj #[])) h' → h'.get? s.heap.objs.size = some (baObj #[]) → Q (.ref s.heap.objs.size) { s with heap := h' }) :
    wpS (model prog w) A (PySem.call (.type "bytearray") []) Q E s := by
  have ho : (s.heap.push (baObj #[])).get? s.heap.objs.size = some (baObj #[]) := Heap.get?_push_size _ rfl
  refine wpS.call (codeS.tree (idle_call _ _) ?_)
  show wpS _ _ (Sem.pure (Fin.again (.builtin "type.__call__" ⟨[.type "bytearray"], []⟩))) _ _ _
  refine wpS.pure ⟨Code.quiet_builtin _ (by decide +kernel), codeS_builtinW (idle_typeCall _) F.entry_type_call ?_⟩
  rw [Around.under_plain (weight_type_call_type "bytearray" [] []) rfl]
  unfold Builtin.«type.__call__»
  dsimp only
  have ifF : ∀ {α : Type} {c : Bool} {a b : Sem α} {Q : α → Shared → Prop} {A' : Around} {E' : Value → Shared → Prop} {s' : Shared}, c = false → wpS (model prog w) A' b Q E' s' → wpS (model prog w) A' (if c = true then a else b) Q E' s' := fun hc h => by subst hc; exact h
  refine ifF (by decide) ?_
  refine ifF ba_called.canCreate ?_
  refine wpS.bindA (wpAny_of_eq ba_typeCall ?_)
  refine wpS.bindA (wpAny_of_eq ba_mro ?_)
  refine ifF rfl ?_
  refine wpS.bindA (wpAny_of_eq ba_called.made ?_)
  refine wpS.bindA (wpAny_pure ?_)
  refine wpS.bindA (wpAny_holding (wpAny_call (codeAny_mono (code_ba_new (Q₁ := fun v s' => v = .ref s.heap.objs.size ∧ s' = { s with heap := s.heap.push (baObj #[]) }) (E := fun e s' => False) ⟨rfl, rfl⟩) fun r s' hr => ?_)))
  cases r with
  | error e => exact hr.elim
  | ok fl =>
    cases fl with
    | ret v =>
      obtain ⟨rfl, rfl⟩ := hr
      dsimp only
      refine wpS.bindA (ba_isBA ho ?_)
      refine ifF rfl ?_
      refine wpS.bind (wpS.holding ?_)
      unfold callSpecial?
      refine wpS.bindA (wpAny_specialOf (T := "bytearray") ⟨_, ho, rfl⟩ ba_slot_init.lookup ?_)
      dsimp only
      refine wpS.holding ?_
      refine wpS.bindA (wpAny_of_eq (ba_slot_init.bind _) ?_)
      refine wpS.bind (wpS.call_entry ba_slot_init ⟨_, ho, rfl⟩ ba_entry_init (idle_init _) ?_ (ba_args_init _))
      unfold Builtin.«bytearray.__init__»
      dsimp only
      refine wpS.bindA (ba_ownRelease ho ?_)
      refine ifF rfl ?_
      refine wpS.bindA (wpAny_of_eq ba_init_bind ?_)
      dsimp only
      refine wpS.bindA (wpAny_of_eq (a := ()) rfl ?_)
      refine wpS.bindA (wpAny_of_eq (a := ()) rfl ?_)
      refine wpS.bind (wpS.bind (wpS.exported ?_))
      refine wpS.bindA ?_
      unfold Builtin.Bytes.exportsOf
      refine wpAny_bind (wpAny_load ho (wpAny_pure ?_))
      refine wpS.pure (ifF rfl ?_)
      refine wpS.bindA (wpAny_write ho (Nat.zero_le _) fun h' hs ho' => ?_)
      refine wpS.bindA (wpAny_of_eq (a := ()) rfl ?_)
      refine wpS.pure ⟨.none, rfl, wpS.pure ?_⟩
      refine ifF (by decide) ?_
      exact wpS.pure (h h' hs ho')
    | next => exact hr.elim
    | brk => exact hr.elim
    | cont => exact hr.elim
end
end Mine
end

section
open PySem PySem.W PySem.Calls PyProof.Rows
set_option Elab.async false
set_option maxRecDepth 100000
namespace Mine
open PySem.Sem (wp)
theorem wpS.never {α : Type} {M : Model} {A : Around} {t : Sem α} {Q : α → Shared → Prop} {E : Value → Shared → Prop} {s : Shared} (h : wpS M A t Q Never s) : wpS M A t Q E s := wpS.mono h (fun _ _ x => x) fun _ _ x => x.elim
section
variable {prog : Program} {w : World} {A : Around} {E : Value → Shared → Prop} {s : Shared} {h₀ : Heap} {L : Addr} {m : Str → Option Value} {news : List (Addr × Obj)}
theorem ba_make_K {Q : Value → Shared → Prop} (F : Fr h₀ L s.heap m) (N : News h₀ L s.heap news)
    (h : ∀ D h', Fr h₀ L h' m → News h₀ L h' ((D, baObj #[]) :: news) → (∀ q ∈ news, q.1 < D) → Q (.ref D) { s with heap := h' }) :
    wpS (model prog w) A (PySem.call (.type "bytearray") []) Q E s := by
  refine ba_make fun h' hs ho => h _ h' ?_ ?_ fun q hq => Heap.lt_size (N q hq).1
  · have F1 := F.push (baObj #[])
    have N1 := News.push F N (baObj #[])
    exact F1.change hs (N1 _ (.head _)).2.1 (N1 _ (.head _)).2.2
  · have N1 := News.push F N (baObj #[])
    exact news_set (pre := []) N1 (fun _ hp => nomatch hp) (fun q hq => Nat.ne_of_lt (Heap.lt_size (N q hq).1)) hs ho
/-- `bytearray()` named -/
theorem S_make {x fn : Str} {p1 p2 p3 p4 : Pos} {env : Env} {Q : Flow → Shared → Prop}
    (h : wpAny (model prog w) A (eval (.Name fn p2) env) (fun f s₁ => f = .type "bytearray" ∧ s₁ = s) Never s)
    (F : Fr h₀ L s.heap m) (N : News h₀ L s.heap news)
    (hn : ∀ D h', Fr h₀ L h' m → News h₀ L h' ((D, baObj #[]) :: news) → (∀ q ∈ news, q.1 < D) → wpAny (model prog w) A (storeName env x (.ref D)) (fun _ => Q .next) Never { s with heap := h' })
    (hs : swapsWith (.Call (.Name fn p2) [] [] p3) (some (.Name x p1)) p4.line env = pure false := by rfl) :
    wpS (model prog w) A (exec (.Assign [.Name x p1] (.Call (.Name fn p2) [] [] p3) p4) env) Q Never s := by
  refine wpS.AssignSt ?_ hs
  show wpS _ _ (do callWith p3 (← eval (.Name fn p2) env) [] (backTo p3 (starEach [] env)) (backToKw p3 (keywordEach [] env))) _ _ _
  refine wpS.bindA (wpAny_mono h (fun f s₁ h₁ => ?_) fun _ _ x => x)
  obtain ⟨rfl, rfl⟩ := h₁
  refine wpS.callWith_type rfl (PySem.evalArgs_none ?_)
  exact ba_make_K F N hn
/-- `b.append(e)` as a statement -/
theorem S_append {b name : Str} {e : Expr} {p1 p2 p3 p4 : Pos} {D : Addr} {bs : Array UInt8} {pl : Sem Bool} {env : Env} {Q : Flow → Shared → Prop}
    (h : wpAny (model prog w) A (eval (.Name b p1) env) (fun ov s₁ => ov = .ref D ∧ s₁ = s) Never s) (N : News h₀ L s.heap news) (hm : (D, baObj bs) ∈ news)
    (ha : wpAny (model prog w) A (eval e env) (fun v s₁ => ∃ i t h₁ m₁ news₁ news₂ tk, v = .int i t ∧ s₁ = { s with heap := h₁, toks := tk } ∧ Fr h₀ L h₁ m₁ ∧ News h₀ L h₁ news₁ ∧ Upd D (baObj bs) (baObj (bs.push i.toNat.toUInt8)) news₁ news₂ ∧ 0 ≤ i ∧ i < 256 ∧
      ∀ h', Fr h₀ L h' m₁ → News h₀ L h' news₂ → Q .next { s with heap := h', toks := tk }) Never s) (hz : bs.size < sizeLine) (hname : name = "append")
    (he : eval (.Call (.Attribute (.Name b p1) name p2) [e] [] p3) env = (do
      let ov ← eval (.Name b p1) env
      standAt p2.atName
      let (f, first) ← PySem.holding [ov] (getMethod ov name pl)
      callWith p3 f first (backTo p3 (starEach [e] env)) []) := by rfl)
    (hst : starEach [e] env = [(false, eval e env)] := by rfl) (hi : interactive env = false := by rfl)
    (hs : swapsWith (.Call (.Attribute (.Name b p1) name p2) [e] [] p3) none p4.line env = pure false := by rfl) :
    wpS (model prog w) A (exec (.Expr (.Call (.Attribute (.Name b p1) name p2) [e] [] p3) p4) env) Q Never s := by
  subst hname
  refine wpS.ExprSt ?_ hi hs
  refine wpS.method (id := "bytearray.append") (pl := pl) ?_ he hst
  refine wpAny_mono h (fun ov s₁ h₁ => ?_) fun _ _ x => x
  obtain ⟨rfl, rfl⟩ := h₁
  refine ba_method N hm ba_slot_append ba_type_append ⟨rfl, ?_⟩
  refine wpAny_mono ha (fun v s₃ h₃ => ?_) fun _ _ x => x
  obtain ⟨i, t, h₁, m₁, news₁, news₂, tk, rfl, rfl, F₁, N₁, U, h0, h1, k⟩ := h₃
  exact ba_append_K F₁ N₁ U h0 h1 hz fun h' F' N' => ⟨rfl, k h' F' N'⟩
theorem bytes_of_ba {D : Addr} {b : Array UInt8} {Q : Value → Shared → Prop} (N : News h₀ L s.heap news) (hm : (D, baObj b) ∈ news) (hz : b.size ≤ sizeLine)
    (h : ∀ t k, Q (.bytes b t) { s with toks := k }) : wpAny (model prog w) A (PySem.call (.type "bytes") [.ref D]) Q E s := bytes_of_ba_at (N _ hm).1 hz h
end
end Mine
end

section
open PySem PySem.W PySem.Calls PyProof.Rows PySem.NumText
set_option Elab.async false
set_option maxRecDepth 100000
namespace Mine
theorem text_len {x : Int} (h : -(2 ^ 63) ≤ x ∧ x < 2 ^ 63) : (Str.ofString (toString x)).length ≤ 21 := by
  rw [PySem.ofString_length]
  exact int_text_length_le10 (k := 20) (by decide) (by omega)
theorem digits_all (m : Nat) : AllDigits ((Nat.toDigits 10 m).map Char.toNat) := by
  intro c hc
  obtain ⟨ch, hch, e⟩ := List.mem_map.mp hc
  have r := digit_range (Nat.isDigit_of_mem_toDigits (by decide) (by decide) hch)
  rw [← e]
  exact r
theorem digits_ne (m : Nat) : (Nat.toDigits 10 m).map Char.toNat ≠ [] := by
  intro e
  have h := toDigits_len_ge 10 m
  rw [List.map_eq_nil_iff.mp e] at h
  exact absurd h (by decide)
/-- a number's text reads as the number -/
theorem text_reads {x : Int} (h : -(2 ^ 63) ≤ x ∧ x < 2 ^ 63) : PySem.intText? (Str.ofString (toString x)) = some x := by
  have hl : (Str.ofString (toString x)).length ≤ 4300 := Nat.le_trans (text_len h) (by decide)
  cases x with
  | ofNat m =>
    have e : (Str.ofString (toString (Int.ofNat m))).cps.toList = (Nat.toDigits 10 m).map Char.toNat := KIN.signs_num m
    have r := intText_digits (x := Str.ofString (toString (Int.ofNat m))) (by rw [e]; exact digits_all m) (by rw [e]; exact digits_ne m) hl
    rw [e, KIN.val_back] at r
    exact r
  | negSucc m =>
    have e : (Str.ofString (toString (Int.negSucc m))).cps.toList = 45 :: (Nat.toDigits 10 (m + 1)).map Char.toNat := by
      rw [signs_ofString]
      show (("-" ++ Nat.repr (m + 1)).toList).map Char.toNat = _
      rw [String.toList_append, Nat.toList_repr]
      rfl
    have r := intText_neg e (digits_all _) (digits_ne _) hl
    rw [KIN.val_back] at r
    exact r
end Mine
end

section
open PySem PySem.W PySem.Calls PyProof.Rows
set_option Elab.async false
set_option maxRecDepth 100000
namespace Mine
theorem Fr_named {h₀ h : Heap} {L : Addr} {m : Str → Option Value} {x : Str} {v : Value} (F : Fr h₀ L h m) (e : m x = some v) : Fr h₀ L h (fun y => if y = x then some v else m y) := by
  have em : (fun y => if y = x then some v else m y) = m := by
    funext y
    by_cases hy : y = x
    · rw [if_pos hy, hy, e]
    · rw [if_neg hy]
  rw [em]; exact F
theorem Fr_int {h₀ h : Heap} {L : Addr} {m : Str → Option Value} {x : Str} {i j : Int} {t : Tok} (F : Fr h₀ L h m) (e : m x = some (.int i t)) (hij : i = j) : Fr h₀ L h (fun y => if y = x then some (.int j t) else m y) := by
  subst hij; exact Fr_named F e
section
variable {prog : Program} {w : World} {A : Around} {s : Shared} {h₀ : Heap} {L : Addr}
theorem S_for {x rv src name : Str} {xp sp pos : Pos} {scope : Scope} {a V : Addr} {cd bv : Value} {body : List Stmt} {vs : List Value} {nv : Nat} {m : Str → Option Value} {Led : Nat → List (Addr × Obj)} {Q : Flow → Shared → Prop}
    (hh : A.handled = none)
    (hsrc : wpAny (model prog w) A (eval (.Name src sp) (envOf name scope L a cd)) (fun v s₁ => v = .ref V ∧ s₁ = s) Never s)
    (F : Fr h₀ L s.heap (fun y => if y = rv then some bv else m y)) (N : News h₀ L s.heap (Led 0)) (hV : ∀ i, (V, listOf vs.toArray nv) ∈ Led i) (hA : ∀ i, (Led i).map (·.1) = (Led 0).map (·.1))
    (hxr : x ≠ rv)
    (turn : ∀ (i : Nat) (v : Value) (it : Addr) (o : Obj) (m₁ : Str → Option Value) (h : Heap) (tk : Nat), vs[i]? = some v → (∀ q ∈ Led i, q.1 < it) → Fr h₀ L h (fun y => if y = x then some v else if y = rv then some bv else m₁ y) → News h₀ L h ((it, o) :: Led i) →
      wpS (model prog w) A (execs body (envOf name scope L a cd)) (fun f s₃ => f = .next ∧ ∃ (h' : Heap) (tk' : Nat) (m₂ : Str → Option Value), s₃ = { s with heap := h', toks := tk' } ∧ Fr h₀ L h' (fun y => if y = rv then some bv else m₂ y) ∧ News h₀ L h' ((it, o) :: Led (i + 1))) Never { s with heap := h, toks := tk })
    (done : ∀ (h : Heap) (tk : Nat) (m₁ : Str → Option Value), Fr h₀ L h (fun y => if y = rv then some bv else m₁ y) → News h₀ L h (Led vs.length) → Q .next { s with heap := h, toks := tk })
    (hk : scope.kind = .function := by rfl) (hl : (envOf name scope L a cd).kindOf x = some .local := by rfl) (hs : ∀ z, foldedSetIterable (.Name src sp) (envOf name scope L a cd) z = Pure.pure z := by intro _; rfl) :
    wpS (model prog w) A (exec (.For (.Name x xp) (.Name src sp) body [] pos) (envOf name scope L a cd)) Q Never s := by
  refine wpS.ForSt ?_ hs
  refine wpAny_mono hsrc (fun v s₁ hv => ?_) fun _ _ e => e
  obtain ⟨rfl, rfl⟩ := hv
  have hol : s₁.heap.get? V = some (listOf vs.toArray nv) := (N _ (hV 0)).1
  refine wpAny_pyIter_list (items := vs.toArray) ⟨_, hol, rfl, nv, rfl⟩ ?_
  have F0 := F.push ({ cls := .type "list_iterator", data := .fields #[.ref V, .int 0 0] } : Obj)
  have N0 := News.push F N ({ cls := .type "list_iterator", data := .fields #[.ref V, .int 0 0] } : Obj)
  have lt0 : ∀ i, ∀ q ∈ Led i, q.1 < s₁.heap.objs.size := fun i q hq => by
    have h1 : q.1 ∈ (Led 0).map (·.1) := hA i ▸ List.mem_map_of_mem hq
    obtain ⟨r, hr, e⟩ := List.mem_map.mp h1
    rw [← e]; exact Heap.lt_size (N r hr).1
  refine codeS_for (fun n s' => ∃ i h tk m₁ o, n = vs.length - i ∧ i ≤ vs.length ∧ s' = { s₁ with heap := h, toks := tk } ∧ Fr h₀ L h (fun y => if y = rv then some bv else m₁ y) ∧ News h₀ L h ((s₁.heap.objs.size, o) :: Led i) ∧ o.cls = .type "list_iterator" ∧ o.data = .fields #[.ref V, .int i 0])
    ?_ vs.length ⟨0, _, _, m, _, rfl, Nat.zero_le _, rfl, F0, N0, rfl, rfl⟩
  rintro n s' ⟨i, h, tk, m₁, o, rfl, hi, rfl, F₁, N₁, hc, hd⟩
  have hit : h.IsListIter s₁.heap.objs.size V i := ⟨o, (N₁ _ (.head _)).1, hc, hd⟩
  have hls : h.IsList V vs.toArray := ⟨_, (N₁ _ (.tail _ (hV i))).1, rfl, nv, rfl⟩
  have zI := N₁ _ (.head _)
  cases hv : vs[i]? with
  | none =>
    have e : i = vs.length := by have := List.getElem?_eq_none_iff.mp hv; omega
    subst e
    refine wpAny_pyNext_list_end hh hit hls (by simpa using hv) fun h' he => ?_
    refine done h' tk m₁ ⟨F₁.ns.extBut he (Ne.symm zI.2.1), fun b ob eb => he b ob (fun q => ?_) (F₁.keep b ob eb), F₁.above⟩ fun q hq => ?_
    · rw [q] at eb
      have := zI.2.2
      rw [show h₀.get? s₁.heap.objs.size = none from this] at eb
      cases eb
    · have z := N₁ q (.tail _ hq)
      exact ⟨he _ _ (Nat.ne_of_lt (lt0 _ q hq)) z.1, z.2⟩
  | some v =>
    refine wpAny_pyNext_list_item hit hls (by simpa using hv) fun h' hit' hsame => ?_
    obtain ⟨o', ho', hc', hd'⟩ := hit'
    have F₂ := F₁.change hsame zI.2.1 zI.2.2
    have N₂ : News h₀ L h' ((s₁.heap.objs.size, o') :: Led i) := news_set (pre := []) N₁ (fun _ hp => nomatch hp) (fun q hq => Nat.ne_of_lt (lt0 i q hq)) hsame ho'
    refine wpAny_assign_Name (stN F₂ N₂ (fun h'' F₃ N₃ => ?_) hk hl)
    have hlt : i < vs.length := (List.getElem?_eq_some_iff.mp hv).1
    refine wpS.mono (turn i v _ o' m₁ h'' _ hv (lt0 i) F₃ N₃) (fun f s₃ hf => ?_) fun _ _ e => e
    obtain ⟨rfl, h3, tk3, m₂, rfl, F₄, N₄⟩ := hf
    exact ⟨rfl, vs.length - (i + 1), by omega, i + 1, h3, tk3, m₂, o', rfl, hlt, rfl, F₄, N₄, hc', hd'⟩
end
end Mine
end

section
open PySem PySem.W PySem.Calls PyProof.Rows
set_option Elab.async false
set_option maxRecDepth 100000
namespace Mine
/-- the place of a number in the row 0, -1, 1, -2, 2 .. -/
def zz (a : Int) : Nat := if 0 ≤ a then 2 * a.toNat else 2 * (-a - 1).toNat + 1
theorem zz_lt {a : Int} (h : -(2 ^ 63) ≤ a ∧ a < 2 ^ 63) : zz a < 2 ^ 64 := by unfold zz; split <;> omega
/-- how many bytes stand behind the first -/
def nx (u : Nat) : Nat :=
  if u < 2 ^ 7 then 0 else if u < 2 ^ 14 then 1 else if u < 2 ^ 21 then 2 else if u < 2 ^ 28 then 3 else if u < 2 ^ 35 then 4 else if u < 2 ^ 42 then 5 else if u < 2 ^ 49 then 6 else if u < 2 ^ 56 then 7 else 8
theorem nx_le (u : Nat) : nx u ≤ 8 := by unfold nx; repeat' split
                                         all_goals omega
def hdr (k : Nat) : Nat := 256 - 2 ^ (8 - k)
/-- the bytes of one number in the order in which they are laid down, the last first -/
def lowBytes (u k : Nat) : List UInt8 := (List.range k).map fun i => (u / 2 ^ (8 * i)).toUInt8
def laid (u : Nat) : List UInt8 := lowBytes u (nx u) ++ [(hdr (nx u) + u / 2 ^ (8 * nx u)).toUInt8]
theorem laid_length (u : Nat) : (laid u).length = nx u + 1 := by simp [laid, lowBytes]
def laidAll (as : List Int) : List UInt8 := as.flatMap fun a => laid (zz a)
theorem laidAll_length : ∀ as : List Int, (laidAll as).length ≤ 9 * as.length
  | [] => by simp [laidAll]
  | a :: r => by
    have h := laidAll_length r
    have h1 := laid_length (zz a)
    have h2 := nx_le (zz a)
    simp only [laidAll, List.flatMap_cons, List.length_append, List.length_cons] at h ⊢
    omega
theorem laidAll_snoc (as : List Int) (a : Int) : laidAll (as ++ [a]) = laidAll as ++ laid (zz a) := by simp [laidAll]
end Mine
end

section
open PySem PySem.W PySem.Calls PyProof.Rows
set_option Elab.async false
set_option maxRecDepth 100000
namespace Mine
theorem and_neg1 (a : Int) : Builtin.bitAnd a (-1) = a := by
  have h := bitAnd_not a 0
  rw [bitAnd_zero] at h
  have e : Builtin.bitNot 0 = -1 := rfl
  rw [e] at h
  omega
theorem xor_neg1 (a : Int) : Builtin.bitXor a (-1) = -a - 1 := by rw [bitXor_and, and_neg1]; omega
theorem xor_one {a : Int} (h : a % 2 = 0) : Builtin.bitXor a 1 = a + 1 := by rw [bitXor_and, bitAnd_m1]; omega
theorem xor_neg2 {a : Int} (h : a % 2 = 0) : Builtin.bitXor a (-2) = -a - 2 := by
  have h1 := bitAnd_not a 1
  rw [bitAnd_m1] at h1
  have e : Builtin.bitNot 1 = -2 := rfl
  rw [e] at h1
  rw [bitXor_and, h1]; omega
/-- what encode_zig_zag tells, in its own range and in the bands beside it -/
def encF (n : Int) : Int := if 0 ≤ n then (if n < 2 ^ 63 then 2 * n else 2 * n + 1) else if -(2 ^ 63) ≤ n then -(2 * n) - 1 else -(2 * n) - 2
theorem enc_val {n : Int} (h : -(2 ^ 64) ≤ n ∧ n < 2 ^ 64) : Builtin.bitXor (n * 2) (n / 2 ^ 63) = encF n := by
  unfold encF
  have e2 : n * 2 % 2 = 0 := by omega
  by_cases h0 : 0 ≤ n
  · rw [if_pos h0]
    by_cases h1 : n < 2 ^ 63
    · rw [if_pos h1, show n / 2 ^ 63 = 0 by omega, bitXor_zero]; omega
    · rw [if_neg h1, show n / 2 ^ 63 = 1 by omega, xor_one e2]; omega
  · rw [if_neg h0]
    by_cases h1 : -(2 ^ 63) ≤ n
    · rw [if_pos h1, show n / 2 ^ 63 = -1 by omega, xor_neg1]; omega
    · rw [if_neg h1, show n / 2 ^ 63 = -2 by omega, xor_neg2 e2]; omega
def decF (n : Int) : Int := if n % 2 = 0 then n / 2 else -(n / 2) - 1
theorem dec_val (n : Int) : Builtin.bitXor (n / 2) (-(Builtin.bitAnd n 1)) = decF n := by
  unfold decF
  rw [bitAnd_m1]
  by_cases h : n % 2 = 0
  · rw [if_pos h, h]; exact bitXor_zero _
  · rw [if_neg h, show n % 2 = 1 by omega]; exact xor_neg1 _
theorem encF_zz {n : Int} (h : -(2 ^ 63) ≤ n ∧ n < 2 ^ 63) : encF n = (zz n : Int) := by
  unfold encF zz
  by_cases h0 : 0 ≤ n
  · rw [if_pos h0, if_pos h0, if_pos h.2]; omega
  · rw [if_neg h0, if_neg h0, if_pos h.1]; omega
theorem decF_zz (n : Int) : decF (zz n : Int) = n := by
  unfold decF zz
  by_cases h0 : 0 ≤ n
  · rw [if_pos h0]; split <;> omega
  · rw [if_neg h0]; split <;> omega
theorem laid_small {u : Nat} (h : u < 128) : laid u = [u.toUInt8] := by
  have e : nx u = 0 := by unfold nx; rw [if_pos (by omega)]
  unfold laid
  rw [e]
  simp [lowBytes, hdr]
theorem push_laid_small {u : Nat} {bs : List UInt8} (h : ((u : Nat) : Int) < 128) : bs.toArray.push ((u : Int).toNat).toUInt8 = (bs ++ laid u).toArray := by
  rw [laid_small (by omega), List.push_toArray, Int.toNat_natCast]
theorem lt_bits {u m : Nat} : (m : Int) < (Builtin.Int.intBits (u : Int) : Int) ↔ 2 ^ m ≤ u := by
  unfold Builtin.Int.intBits
  by_cases h : u = 0
  · subst h
    have := Nat.two_pow_pos m
    simp
  · rw [if_neg (by simp; omega), Int.natAbs_natCast, ← Nat.le_log2 h]
    omega
theorem turn_true {u k : Nat} (hu : u < 2 ^ 64) (hk : k ≤ 8) (h : 8 - min ((k : Int) + 1) 8 < (Builtin.Int.intBits (u : Int) : Int) - 8 * k) : k < 8 ∧ 2 ^ (7 * (k + 1)) ≤ u := by
  have h64 : ¬ ((64 : Nat) : Int) < (Builtin.Int.intBits (u : Int) : Int) := fun x => absurd (lt_bits.mp x) (by omega)
  have hk8 : k < 8 := by omega
  refine ⟨hk8, lt_bits.mp ?_⟩
  omega
theorem turn_false {u k : Nat} (hk : k ≤ 8) (hku : k = 0 ∨ 2 ^ (7 * k) ≤ u) (h : ¬ 8 - min ((k : Int) + 1) 8 < (Builtin.Int.intBits (u : Int) : Int) - 8 * k) : nx u = k := by
  have h1 : k < 8 → u < 2 ^ (7 * (k + 1)) := fun hk8 => by
    refine Nat.lt_of_not_le fun x => ?_
    have := lt_bits.mpr x
    omega
  have hc : k = 0 ∨ k = 1 ∨ k = 2 ∨ k = 3 ∨ k = 4 ∨ k = 5 ∨ k = 6 ∨ k = 7 ∨ k = 8 := by omega
  unfold nx
  rcases hc with rfl | rfl | rfl | rfl | rfl | rfl | rfl | rfl | rfl <;> (try simp only [Nat.reduceMul, Nat.reduceAdd, Nat.reducePow, Nat.reduceLT, forall_const] at h1 hku ⊢) <;> (repeat' split) <;> omega
theorem lowBytes_succ (u k : Nat) : lowBytes u (k + 1) = lowBytes u k ++ [(u / 2 ^ (8 * k)).toUInt8] := by simp [lowBytes, List.range_succ]
theorem lowBytes_length (u k : Nat) : (lowBytes u k).length = k := by simp [lowBytes]
theorem low_step {u k : Nat} {bs : List UInt8} : ((bs ++ lowBytes u k).toArray).push ((Builtin.bitAnd ((u / 2 ^ (8 * k) : Nat) : Int) 255).toNat).toUInt8 = (bs ++ lowBytes u (k + 1)).toArray := by
  rw [lowBytes_succ, List.push_toArray, List.append_assoc, bitAnd_m8]
  congr 3
  have e : (((u / 2 ^ (8 * k) : Nat) : Int) % 256).toNat = (u / 2 ^ (8 * k)) % 256 := by omega
  rw [e]
  have e8 : (u / 2 ^ (8 * k) % 256).toUInt8 = (u / 2 ^ (8 * k)).toUInt8 := by
    apply UInt8.toNat_inj.mp
    simp [Nat.toUInt8]
  rw [e8]
theorem and_255 (a : Int) : 0 ≤ Builtin.bitAnd a 255 ∧ Builtin.bitAnd a 255 < 256 := by rw [bitAnd_m8]; omega
theorem shift_step {u k : Nat} : ((u / 2 ^ (8 * k) : Nat) : Int).fdiv (2 ^ (8 : Int).toNat) = ((u / 2 ^ (8 * (k + 1)) : Nat) : Int) := by
  have e : ((u / 2 ^ (8 * k) : Nat) : Int).fdiv (2 ^ (8 : Int).toNat) = ((u / 2 ^ (8 * k) : Nat) : Int) / ((2 ^ 8 : Nat) : Int) := Int.fdiv_eq_ediv_of_nonneg _ (by decide)
  rw [e, ← Int.natCast_ediv, Nat.div_div_eq_div_mul, ← Nat.pow_add, show 8 * (k + 1) = 8 * k + 8 by omega]
theorem nine {k : Nat} (h : k ≤ 8) : k = 0 ∨ k = 1 ∨ k = 2 ∨ k = 3 ∨ k = 4 ∨ k = 5 ∨ k = 6 ∨ k = 7 ∨ k = 8 := by omega
theorem top_lt {u k : Nat} (hu : u < 2 ^ 64) (h : nx u = k) : u / 2 ^ (8 * k) < 2 ^ (7 - k) := by
  have hk : k ≤ 8 := h ▸ nx_le u
  unfold nx at h
  rcases nine hk with rfl | rfl | rfl | rfl | rfl | rfl | rfl | rfl | rfl <;> simp only [Nat.reduceMul, Nat.reduceSub, Nat.reducePow] at h ⊢ <;> (repeat' split at h) <;> omega
theorem hdr_all : ∀ k : Fin 9, ∀ v : Fin 128, v.val < 2 ^ (7 - k.val) → Builtin.bitOr ((v.val : Nat) : Int) (Int.fdiv 255 (2 ^ (8 - (k.val : Int)).toNat) * 2 ^ (8 - (k.val : Int)).toNat) = ((hdr k.val + v.val : Nat) : Int) ∧ hdr k.val + v.val < 256 := by decide +kernel
theorem hdr_val {u k : Nat} (hu : u < 2 ^ 64) (h : nx u = k) : Builtin.bitOr ((u / 2 ^ (8 * k) : Nat) : Int) (Int.fdiv 255 (2 ^ (8 - (k : Int)).toNat) * 2 ^ (8 - (k : Int)).toNat) = ((hdr k + u / 2 ^ (8 * k) : Nat) : Int) ∧ hdr k + u / 2 ^ (8 * k) < 256 := by
  have ht := top_lt hu h
  have h2 : 2 ^ (7 - k) ≤ 2 ^ 7 := Nat.pow_le_pow_right (by decide) (by omega)
  have hk : k ≤ 8 := h ▸ nx_le u
  exact hdr_all ⟨k, by omega⟩ ⟨u / 2 ^ (8 * k), by omega⟩ ht
theorem hdr_abs {W : Int} {j : Nat} (h : W = (j : Int)) (hj : j < 256) : 0 ≤ (if W < 0 then -W else W) ∧ (if W < 0 then -W else W) < 256 ∧ (if W < 0 then -W else W) = (j : Int) := by
  subst h
  rw [if_neg (by omega)]
  omega
theorem push_hdr {u k : Nat} {bs : List UInt8} {W : Int} (hnx : nx u = k) (h : W = ((hdr k + u / 2 ^ (8 * k) : Nat) : Int)) : ((bs ++ lowBytes u k).toArray).push W.toNat.toUInt8 = (bs ++ laid u).toArray := by
  subst h
  unfold laid
  rw [hnx, List.push_toArray, Int.toNat_natCast, List.append_assoc]
end Mine
end

section
open PySem PySem.W PySem.Calls PyProof.Rows
set_option Elab.async false
set_option maxRecDepth 100000
namespace Mine
theorem enc_walk {n : Int} (h : -(2 ^ 64) ≤ n ∧ n < 2 ^ 64) : Builtin.bitXor (n * 2 ^ (1 : Int).toNat) (n.fdiv (2 ^ (63 : Int).toNat)) = encF n := by
  have e : n.fdiv (2 ^ (63 : Int).toNat) = n / 2 ^ 63 := Int.fdiv_eq_ediv_of_nonneg _ (by decide)
  have e2 : n * 2 ^ (1 : Int).toNat = n * 2 := rfl
  rw [e, e2, enc_val h]
theorem dec_walk {n : Int} : Builtin.bitXor (n.fdiv (2 ^ (1 : Int).toNat)) (-(Builtin.bitAnd n 1)) = decF n := by
  have e : n.fdiv (2 ^ (1 : Int).toNat) = n / 2 := Int.fdiv_eq_ediv_of_nonneg _ (by decide)
  rw [e, dec_val]
abbrev pr : Program := PySem.Challenge.rw_fq5005_01.row.toRowW.prog
set_option maxHeartbeats 8000000 in
theorem call_enc {w : World} {mean : ExcName → Option Value} {mg mb : Str → Option Value} {dp un : Nat} {gd : Option (List Code)} {cn : Str} {cs : Scope} {a : Addr} {ccd : Value} {cl : List (Str × Addr)} {outer : List Env} {A₀ : Around} {base h₀ : Heap} {L : Addr} {m : Str → Option Value} {s : Shared} {news : List (Addr × Obj)} {Q E : Value → Shared → Prop} {av : Int} {ta : Tok}
    (B : Below A₀ base outer h₀) (F : Fr h₀ L s.heap m) (X : (hd.heap_39 w.params).In h₀) (N : News h₀ L s.heap news) (T : Top hd.view_39 (looseW hd.view_39 []) mean mg mb h₀) (hk : cs.kind = .function) (hp : -(2 ^ 64) ≤ av ∧ av < 2 ^ 64) (hdp : dp + 1 < recursionLimit) (hu : un + 8 < cLine)
    (hret : ∀ (t : Tok) (h' : Heap) (tk' : Nat), Fr h₀ L h' m → News h₀ L h' news → Q (.int (encF av) t) { s with heap := h', toks := tk' }) :
    wpAny (model pr w) (ktrTop dp un gd cn cs L a ccd cl outer) (PySem.call (.ref 28) [.int av ta]) Q E s := by
  have kf : PySem.Challenge.rw_fq5005_01 = PySem.Challenge.rw_fq5005_01 ∧ hd.heap_39 = hd.heap_39 := by (k_fill; exact ⟨rfl, rfl⟩)
  clear kf
  w_top on
  refine wpAny_call ?_
  k_dflt cell_enter
  repeat' ((fail_if_success (with_reducible show wpAny _ _ (binaryOp Operator.LShift _ _) _ _ _)); (first | (k_unfold; (try dsimp only)) | (k_end; kc_close) | walk1 | (dsimp only; walk1) | (leave1; walk_say "STEP leave1"; (try dsimp only)) | fail "no step"))
  refine lshift_int (by decide) ?_ ?_
  · have : Builtin.Int.intBits av ≤ 65 := by
      unfold Builtin.Int.intBits
      split
      · omega
      · have := (Nat.log2_lt (n := av.natAbs) (k := 65) (by simp_all)).mpr (by omega)
        omega
    show (Builtin.Int.intBits av : Int) + 1 ≤ 2 ^ 27
    omega
  repeat' (first | (k_unfold; (try dsimp only)) | (k_end; kc_close) | walk1 | (dsimp only; walk1) | (leave1; walk_say "STEP leave1"; (try dsimp only)) | fail "no step")
  rw [enc_walk hp]
  exact hret _ _ _ (by k_asm) (by k_asm)
set_option maxHeartbeats 8000000 in
theorem call_dec {w : World} {mean : ExcName → Option Value} {mg mb : Str → Option Value} {dp un : Nat} {gd : Option (List Code)} {cn : Str} {cs : Scope} {a : Addr} {ccd : Value} {cl : List (Str × Addr)} {outer : List Env} {A₀ : Around} {base h₀ : Heap} {L : Addr} {m : Str → Option Value} {s : Shared} {news : List (Addr × Obj)} {Q E : Value → Shared → Prop} {av : Int} {ta : Tok}
    (B : Below A₀ base outer h₀) (F : Fr h₀ L s.heap m) (X : (hd.heap_39 w.params).In h₀) (N : News h₀ L s.heap news) (T : Top hd.view_39 (looseW hd.view_39 []) mean mg mb h₀) (hk : cs.kind = .function) (hdp : dp + 1 < recursionLimit)
    (hret : ∀ (t : Tok) (h' : Heap) (tk' : Nat), Fr h₀ L h' m → News h₀ L h' news → Q (.int (decF av) t) { s with heap := h', toks := tk' }) :
    wpAny (model pr w) (ktrTop dp un gd cn cs L a ccd cl outer) (PySem.call (.ref 35) [.int av ta]) Q E s := by
  have kf : PySem.Challenge.rw_fq5005_01 = PySem.Challenge.rw_fq5005_01 ∧ hd.heap_39 = hd.heap_39 := by (k_fill; exact ⟨rfl, rfl⟩)
  clear kf
  w_top on
  refine wpAny_call ?_
  k_dflt cell_enter
  repeat' (first | (k_unfold; (try dsimp only)) | (k_end; kc_close) | walk1 | (dsimp only; walk1) | (leave1; walk_say "STEP leave1"; (try dsimp only)) | fail "no step")
  rw [dec_walk]
  exact hret _ _ _ (by k_asm) (by k_asm)
set_option maxHeartbeats 8000000 in
theorem call_bits {w : World} {mean : ExcName → Option Value} {mg mb : Str → Option Value} {dp un : Nat} {gd : Option (List Code)} {cn : Str} {cs : Scope} {a : Addr} {ccd : Value} {cl : List (Str × Addr)} {outer : List Env} {A₀ : Around} {base h₀ : Heap} {L : Addr} {m : Str → Option Value} {s : Shared} {news : List (Addr × Obj)} {Q E : Value → Shared → Prop} {av : Int} {ta : Tok}
    (B : Below A₀ base outer h₀) (F : Fr h₀ L s.heap m) (X : (hd.heap_39 w.params).In h₀) (N : News h₀ L s.heap news) (T : Top hd.view_39 (looseW hd.view_39 []) mean mg mb h₀) (hk : cs.kind = .function) (hdp : dp + 1 < recursionLimit)
    (hret : ∀ (t : Tok) (h' : Heap) (tk' : Nat), Fr h₀ L h' m → News h₀ L h' news → Q (.int (Builtin.Int.intBits av) t) { s with heap := h', toks := tk' }) :
    wpAny (model pr w) (ktrTop dp un gd cn cs L a ccd cl outer) (PySem.call (.ref 21) [.int av ta]) Q E s := by
  have kf : PySem.Challenge.rw_fq5005_01 = PySem.Challenge.rw_fq5005_01 ∧ hd.heap_39 = hd.heap_39 := by (k_fill; exact ⟨rfl, rfl⟩)
  clear kf
  w_top on
  refine wpAny_call ?_
  k_dflt cell_enter
  repeat' (first | (k_unfold; (try dsimp only)) | (k_end; kc_close) | walk1 | (dsimp only; walk1) | (leave1; walk_say "STEP leave1"; (try dsimp only)) | fail "no step")
  exact hret _ _ _ (by k_asm) (by k_asm)
end Mine
end

section
open PySem PySem.W PySem.Calls PyProof.Rows
set_option Elab.async false
set_option maxRecDepth 100000
namespace Mine
theorem bits_half {x : Int} (h : 0 < x) : (Builtin.Int.intBits x : Int) = Builtin.Int.intBits (x / 2) + 1 := by
  unfold Builtin.Int.intBits
  rw [if_neg (by simp; omega)]
  by_cases h1 : x = 1
  · subst h1; decide
  · have h2 : x / 2 ≠ 0 := by omega
    rw [if_neg (by simpa using h2)]
    have e : (x / 2).natAbs = x.natAbs / 2 := by omega
    rw [e]
    have h3 : 2 ≤ x.natAbs := by omega
    rw [Nat.log2_def x.natAbs, if_pos h3]
    omega
theorem halv_turn {x c b : Int} (h0 : 0 < x) (h : 0 ≤ x ∧ c + (Builtin.Int.intBits x : Int) = b) : 0 ≤ x.fdiv 2 ∧ c + 1 + (Builtin.Int.intBits (x.fdiv 2) : Int) = b := by
  have e : x.fdiv 2 = x / 2 := Int.fdiv_eq_ediv_of_nonneg _ (by decide)
  rw [e]
  have := bits_half h0
  omega
theorem halv_less {x : Int} (h0 : 0 < x) : (x.fdiv 2).toNat < x.toNat := by
  have e : x.fdiv 2 = x / 2 := Int.fdiv_eq_ediv_of_nonneg _ (by decide)
  rw [e]; omega
theorem halv_end {x c b : Int} (h0 : ¬ 0 < x) (hx : 0 ≤ x) (h : c + (Builtin.Int.intBits x : Int) = b) : c = b := by
  have e : x = 0 := by omega
  subst e
  have : (Builtin.Int.intBits 0 : Int) = 0 := rfl
  omega
set_option maxHeartbeats 8000000 in
theorem call_halv {w : World} {mean : ExcName → Option Value} {mg mb : Str → Option Value} {dp un : Nat} {gd : Option (List Code)} {cn : Str} {cs : Scope} {a : Addr} {ccd : Value} {cl : List (Str × Addr)} {outer : List Env} {A₀ : Around} {base h₀ : Heap} {L : Addr} {m : Str → Option Value} {s : Shared} {news : List (Addr × Obj)} {Q E : Value → Shared → Prop} {av : Int} {ta : Tok}
    (B : Below A₀ base outer h₀) (F : Fr h₀ L s.heap m) (X : (hd.heap_39 w.params).In h₀) (N : News h₀ L s.heap news) (T : Top hd.view_39 (looseW hd.view_39 []) mean mg mb h₀) (hk : cs.kind = .function) (hp : 0 ≤ av) (hdp : dp + 1 < recursionLimit)
    (hret : ∀ (t : Tok) (h' : Heap) (tk' : Nat), Fr h₀ L h' m → News h₀ L h' news → Q (.int (Builtin.Int.intBits av) t) { s with heap := h', toks := tk' }) :
    wpAny (model pr w) (ktrTop dp un gd cn cs L a ccd cl outer) (PySem.call (.ref 54) [.int av ta]) Q E s := by
  have kf : PySem.Challenge.rw_fq5005_01 = PySem.Challenge.rw_fq5005_01 ∧ hd.heap_39 = hd.heap_39 := by (k_fill; exact ⟨rfl, rfl⟩)
  clear kf
  w_top on
  refine wpAny_call ?_
  k_dflt cell_enter
  repeat' ((fail_if_success (with_reducible show wpAny _ _ (exec (Stmt.While _ _ _ _) _) _ _ _)); (first | (k_unfold; (try dsimp only)) | (k_end; kc_close) | walk1 | (dsimp only; walk1) | (leave1; walk_say "STEP leave1"; (try dsimp only)) | fail "no step"))
  k_while_given ["x!"] (fun (x₀ : Int) (_ : List Int) (x c : Int) => 0 ≤ x ∧ c + (Builtin.Int.intBits x : Int) = Builtin.Int.intBits x₀) (fun (_ : Int) (_ : List Int) (x _ : Int) => x.toNat) "x" "count"
  k_with "state" => exact halv_turn (by omega) ⟨by assumption, by assumption⟩
  k_with "measure" => exact halv_less (by assumption)
  repeat' (first | (k_unfold; (try dsimp only)) | (k_end; kc_close) | walk1 | (dsimp only; walk1) | (leave1; walk_say "STEP leave1"; (try dsimp only)) | fail "no step")
  · refine cb_retI hret ?_ (by k_asm) (by k_asm)
    exact halv_end (by assumption) (by assumption) (by assumption)
end Mine
end

section
open PySem PySem.W PySem.Calls PyProof.Rows
set_option Elab.async false
set_option maxRecDepth 100000
namespace Mine
local macro_rules | `(tactic| walk_at "getMethod ref") => `(tactic| (k_here; (with_reducible show wpAny _ _ (getMethod (Value.ref _) (PySem.Str.ofString "reverse") _) _ _ _); k_dflt (refine' ba_method ?N ?m ba_slot_reverse ba_type_reverse ?_; (case N => k_asm); (case m => k_mem))))
local macro_rules | `(tactic| walk_at "call builtin:bytearray.reverse") => `(tactic| (k_here; k_dflt (refine' ba_reverse_K ?F ?N ?U ?z ?_; (case F => k_asm); (case N => k_asm); (case U => k_upd); (case z => assumption); k_whole); intro h' F' N'))
local macro_rules | `(tactic| walk_at "call type:bytes") => `(tactic| (k_here; (with_reducible show wpAny _ _ (call (Value.type _) [Value.ref _]) _ _ _); k_dflt (refine' bytes_of_ba ?N ?m ?z ?_; (case N => k_asm); (case m => k_mem); (case z => (rw [Array.size_reverse]; assumption)); k_whole); intro t' k'))
local macro_rules | `(tactic| walk_at "call ref") => `(tactic| (k_here; k_dflt (refine' call_enc ?k1 ?k2 ?k3 ?k4 ?k5 ?kK ?kp ?kd ?ku ?_; (case k1 => k_asm); (case k2 => k_asm); (case k3 => k_asm); (case k4 => k_asm); (case k5 => k_asm); (case kK => first | exact rfl | assumption); (case kp => omega); (case kd => ktr_room); (case ku => ktr_units); k_whole); intro t9 h9 tk9 F9 N9; (try dsimp only); (try k_fold)))
set_option maxHeartbeats 8000000 in
theorem pack_ok {w : World} {mean : ExcName → Option Value} {mg mb : Str → Option Value} {dp un : Nat} {cn : Str} {cs : Scope} {a : Addr} {ccd : Value} {cl : List (Str × Addr)} {outer : List Env} {A₀ : Around} {base h₀ : Heap} {L : Addr} {m : Str → Option Value} {s : Shared} {Q : Value → Shared → Prop}
    (B : Below A₀ base outer h₀) (F : Fr h₀ L s.heap m) (X : (hd.heap_39 w.params).In h₀) (T : Top hd.view_39 (looseW hd.view_39 []) mean mg mb h₀) (hk : cs.kind = .function) (hdp : dp + 2 < recursionLimit) (hu : un + 20 < cLine)
    (x y : Int) (t1 t2 : Tok) (n : Nat) (D I : Addr) (oI : Obj) (hDI : @Ne Nat D I) (N : News h₀ L s.heap [(D, listOf #[.str (Str.ofString (toString x)) t1, .int y t2, .bool true] n), (I, oI)]) (hx : -(2 ^ 63) ≤ x ∧ x < 2 ^ 63) (hy : -(2 ^ 63) ≤ y ∧ y < 2 ^ 63)
    (hret : ∀ t h' tk', Fr h₀ L h' m → News h₀ L h' [(D, listOf #[.str (Str.ofString (toString x)) t1, .int y t2, .bool true] n), (I, oI)] → Q (.bytes (laidAll [1, y, x]).toArray.reverse t) { s with heap := h', toks := tk' })
    : wpS (model pr w) (ktrTop dp un (some []) cn cs L a ccd cl outer) (PySem.call (.ref 47) [.ref D]) Q Never s := by
  have kf : PySem.Challenge.rw_fq5005_01 = PySem.Challenge.rw_fq5005_01 ∧ hd.heap_39 = hd.heap_39 := by (k_fill; exact ⟨rfl, rfl⟩)
  clear kf
  w_top on
  refine wpS.call ?_
  k_dflt (refine' codeS_def ?k1 ?k2 ?k3 ?k4 ?k5 ?kA ?kF ?kK ?k6 ?k7 ?k8 ?k9 ?kB ?_ ?c2 ?c3 ?c4 ?c5; (case kA => exact rfl); (case kF => exact rfl); (case kK => assumption); (case k1 => k_asm); (case k2 => k_asm); (case k3 => k_asm); (case k4 => k_asm); (case k5 => k_asm); (case k6 => k_is); (case k7 => k_is); (case k8 => ktr_room); (case k9 => exact BindsTo.of_eq rfl); (case c5 => decide); (case kB => exact locs rfl); (case c2 => exact rfl); (case c3 => exact rfl); (case c4 => exact rfl); k_whole)
  intro g' L' h' FG' F' N' B' X' T'
  (try dsimp only)
  (try k_lift B')
  refine wpS.never ?_
  refine' wpS.cons (S_make ?a ?F ?N ?hn)
  case F => exact F'
  case N => exact N'
  case a =>
    (first | (k_unfold; (try dsimp only)) | (k_end; kc_close) | walk1 | (dsimp only; walk1) | (leave1; walk_say "STEP leave1"; (try dsimp only)) | fail "no step")
    exact ⟨rfl, rfl⟩
  case hn =>
    intro D1 h1 F1 N1 hlt1
    clear F' N'
    (first | (k_unfold; (try dsimp only)) | (k_end; kc_close) | walk1 | (dsimp only; walk1) | (leave1; walk_say "STEP leave1"; (try dsimp only)) | fail "no step")
    show wpS _ _ (execs ([_] ++ _) _) _ _ _
    refine wpS.block _ ?_
    k_fold
    have hrd := text_reads hx
    have hln := Nat.le_trans (text_len hx) (by decide : 21 ≤ 640)
    repeat' ((fail_if_success (with_reducible show wpS _ _ _ _ _ _)); (first | (k_unfold; (try dsimp only)) | (k_end; kc_close) | walk1 | (dsimp only; walk1) | (leave1; walk_say "STEP leave1"; (try dsimp only)) | fail "no step"))
    k_unfold
    dsimp only
    (rename Fr g' L' _ _ => F2)
    (rename News g' L' _ _ => N2)
    (rename _ ∧ _ => O2)
    simp only [if_true] at N2
    clear hrd hln
    rename_i D2 h2 tk2
    generalize (List.filterMap _ _ : List (Str × Value)) = bnds at F2
    have F3 := Fr_named (x := Str.ofString "revbytes") (v := .ref D1) F2 rfl
    obtain ⟨tA, tB, N3⟩ : ∃ tA tB, News g' L' h2 [(D2, LCg.lst [Value.int 1 tA, Value.int y t2, Value.int x tB]), (D1, baObj #[]), (D, listOf #[.str (Str.ofString (toString x)) t1, .int y t2, .bool true] n), (I, oI)] := ⟨_, _, cb_drop N2 (by kcj_all)⟩
    clear F2 N2
    have hD1 : @LT.lt Nat _ D D1 ∧ @LT.lt Nat _ I D1 := ⟨hlt1 _ (.head _), hlt1 _ (.tail _ (.head _))⟩
    have hD2 : @Ne Nat D1 D2 ∧ @Ne Nat D D2 ∧ @Ne Nat I D2 := O2.2
    clear O2
    refine' wpS.cons (S_for (V := D2) (vs := [Value.int 1 tA, Value.int y t2, Value.int x tB]) (nv := 3) (Led := fun i => [(D2, LCg.lst [Value.int 1 tA, Value.int y t2, Value.int x tB]), (D1, baObj (laidAll (([1, y, x] : List Int).take i)).toArray), (D, listOf #[.str (Str.ofString (toString x)) t1, .int y t2, .bool true] n), (I, oI)]) ?hh ?hsrc F3 ?hN ?hV ?hA ?hxr ?turn ?done)
    case hh => rfl
    case hN => exact N3
    case hV => intro i; exact .head _
    case hA => intro i; rfl
    case hxr => decide
    case hsrc => (first | (k_unfold; (try dsimp only)) | (k_end; kc_close) | walk1 | (dsimp only; walk1) | (leave1; walk_say "STEP leave1"; (try dsimp only)) | fail "no step"); exact ⟨rfl, rfl⟩
    case turn =>
      intro i v it o m₁ h tk hv hlt F₁ N₁
      obtain ⟨av, ta, rfl, hav, hab⟩ : ∃ av ta, v = .int av ta ∧ ([1, y, x] : List Int)[i]? = some av ∧ (-(2 ^ 63) ≤ av ∧ av < 2 ^ 63) := by
        rcases i with _ | _ | _ | i
        · cases hv; exact ⟨1, _, rfl, rfl, by decide⟩
        · cases hv; exact ⟨y, _, rfl, rfl, hy⟩
        · cases hv; exact ⟨x, _, rfl, rfl, hx⟩
        · cases hv
      have htk : ([1, y, x] : List Int).take (i + 1) = ([1, y, x] : List Int).take i ++ [av] := by rw [List.take_add_one, hav]; rfl
      have hzb : (laidAll (([1, y, x] : List Int).take i)).length ≤ 27 := Nat.le_trans (laidAll_length _) (by rw [List.length_take]; show 9 * min i 3 ≤ 27; omega)
      rw [htk, laidAll_snoc]
      generalize laidAll (([1, y, x] : List Int).take i) = bs at *
      have hit : @LT.lt Nat _ D2 it ∧ @LT.lt Nat _ D1 it ∧ @LT.lt Nat _ D it ∧ @LT.lt Nat _ I it := ⟨hlt _ (.head _), hlt _ (.tail _ (.head _)), hlt _ (.tail _ (.tail _ (.head _))), hlt _ (.tail _ (.tail _ (.tail _ (.head _))))⟩
      show wpS _ _ (execs ([_] ++ _) _) _ _ _
      refine wpS.block _ ?_
      k_fold
      repeat' ((fail_if_success (with_reducible show wpS _ _ _ _ _ _)); (first | (k_unfold; (try dsimp only)) | (k_end; kc_close) | walk1 | (dsimp only; walk1) | (leave1; walk_say "STEP leave1"; (try dsimp only)) | fail "no step"))
      k_unfold
      dsimp only
      (rename Fr g' L' _ _ => F5)
      (rename News g' L' _ _ => N5)
      rw [encF_zz hab] at F5
      have hu := zz_lt hab
      generalize zz av = u at *
      clear hav hab htk
      refine wpS.cons (wpS.IfSt ?_)
      k_fold
      repeat' ((fail_if_success (with_reducible show wpS _ _ _ _ _ _)); (first | (k_unfold; (try dsimp only)) | (k_end; kc_close) | walk1 | (dsimp only; walk1) | (leave1; walk_say "STEP leave1"; (try dsimp only)) | fail "no step"))
      · (rename ((u : Nat) : Int) < 128 => hsm)
        refine' wpS.cons (S_append ?qa ?qN ?qm ?qh ?qz ?qn)
        case qN => exact N5
        case qm => k_mem
        case qz => rw [List.size_toArray, sizeLine_eq]; omega
        case qn => rfl
        case qa => (first | (k_unfold; (try dsimp only)) | (k_end; kc_close) | walk1 | (dsimp only; walk1) | (leave1; walk_say "STEP leave1"; (try dsimp only)) | fail "no step"); exact ⟨rfl, rfl⟩
        case qh =>
          (first | (k_unfold; (try dsimp only)) | (k_end; kc_close) | walk1 | (dsimp only; walk1) | (leave1; walk_say "STEP leave1"; (try dsimp only)) | fail "no step")
          refine ⟨_, _, _, _, _, _, _, rfl, rfl, F5, N5, by k_upd, by omega, by omega, fun h' F' N' => ?_⟩
          rw [push_laid_small hsm] at N'
          exact wpS.nil (wpS.nil ⟨rfl, h', _, _, rfl, Fr_named (x := Str.ofString "revbytes") (v := .ref D1) F' rfl, N'⟩)
      · (rename ¬ ((u : Nat) : Int) < 128 => hbg)
        show wpS _ _ (execs ([_, _, _] ++ _) _) _ _ _
        refine wpS.block _ ?_
        k_fold
        repeat' ((fail_if_success (with_reducible show wpS _ _ _ _ _ _)); (first | (k_unfold; (try dsimp only)) | (k_end; kc_close) | walk1 | (dsimp only; walk1) | (leave1; walk_say "STEP leave1"; (try dsimp only)) | fail "no step"))
        k_unfold
        dsimp only
        (rename Fr g' L' _ _ => F6)
        (rename News g' L' _ _ => N6)
        refine wpS.cons ?_
        refine' wpS.WhileSt (fun fuel s' => ∃ (k : Nat) (h : Heap) (tk : Nat) (m₂ : Str → Option Value) (q1 q2 q3 q4 : Tok), fuel = 8 - k ∧ k ≤ 8 ∧ (k = 0 ∨ 2 ^ (7 * k) ≤ u) ∧ s' = { s with heap := h, toks := tk } ∧
          Fr g' L' h (fun y => if y = Str.ofString "num_extra_bytes" then some (.int (k : Int) q1) else if y = Str.ofString "num_bits" then some (.int ((Builtin.Int.intBits u : Int) - 8 * k) q2)
            else if y = Str.ofString "reserved_bits" then some (.int (min ((k : Int) + 1) 8) q3) else if y = Str.ofString "v" then some (.int ((u / 2 ^ (8 * k) : Nat) : Int) q4) else if y = Str.ofString "revbytes" then some (.ref D1) else m₂ y) ∧
          News g' L' h [(it, o), (D2, LCg.lst [Value.int 1 tA, Value.int y t2, Value.int x tB]), (D1, baObj (bs ++ lowBytes u k).toArray), (D, listOf #[.str (Str.ofString (toString x)) t1, .int y t2, .bool true] n), (I, oI)]) ?qturn 8 ?q0
        case q0 =>
          refine ⟨0, _, _, _, _, _, _, _, rfl, Nat.zero_le _, .inl rfl, rfl, Fr_int (Fr_int (Fr_int (Fr_int (Fr_named F6 rfl) rfl ?_) rfl ?_) rfl ?_) rfl ?_, ?_⟩
          · rw [Nat.mul_zero, Nat.pow_zero, Nat.div_one]
          · rfl
          · omega
          · rfl
          · have e0 : bs ++ lowBytes u 0 = bs := by simp [lowBytes]
            rw [e0]; exact N6
        case qturn =>
          rintro n1 s1 ⟨k, h, tk, m₂, u1, u2, u3, u4, rfl, hk8, hku, rfl, F7, N7⟩
          k_fold
          repeat' ((fail_if_success (with_reducible show wpS _ _ _ _ _ _)); (first | (k_unfold; (try dsimp only)) | (k_end; kc_close) | walk1 | (dsimp only; walk1) | (leave1; walk_say "STEP leave1"; (try dsimp only)) | fail "no step"))
          · (rename 8 - min ((k : Int) + 1) 8 < _ => hc)
            obtain ⟨hk7, hku'⟩ := turn_true hu hk8 hc
            show wpS _ _ (execs ([_, _, _] ++ _) _) _ _ _
            refine wpS.block _ ?_
            k_fold
            repeat' ((fail_if_success (with_reducible show wpS _ _ _ _ _ _)); (first | (k_unfold; (try dsimp only)) | (k_end; kc_close) | walk1 | (dsimp only; walk1) | (leave1; walk_say "STEP leave1"; (try dsimp only)) | fail "no step"))
            k_unfold
            dsimp only
            (rename Fr g' L' _ _ => F8)
            (rename News g' L' _ _ => N8)
            refine' wpS.cons (S_append ?qa ?qN ?qm ?qh ?qz ?qn)
            case qN => exact N8
            case qm => k_mem
            case qz => rw [List.size_toArray, List.length_append, lowBytes_length, sizeLine_eq]; omega
            case qn => rfl
            case qa => (first | (k_unfold; (try dsimp only)) | (k_end; kc_close) | walk1 | (dsimp only; walk1) | (leave1; walk_say "STEP leave1"; (try dsimp only)) | fail "no step"); exact ⟨rfl, rfl⟩
            case qh =>
              repeat' ((fail_if_success (with_reducible show Exists _)); (first | (k_unfold; (try dsimp only)) | (k_end; kc_close) | walk1 | (dsimp only; walk1) | (leave1; walk_say "STEP leave1"; (try dsimp only)) | fail "no step"))
              refine ⟨_, _, _, _, _, _, _, rfl, rfl, F8, N8, by k_upd, (and_255 _).1, (and_255 _).2, fun h' F' N' => ?_⟩
              rw [low_step] at N'
              clear F8 N8
              refine wpS.any ?_
              k_fold
              repeat' ((fail_if_success (with_reducible show _ ∧ _)); (first | (k_unfold; (try dsimp only)) | (k_end; kc_close) | walk1 | (dsimp only; walk1) | (leave1; walk_say "STEP leave1"; (try dsimp only)) | fail "no step"))
              k_unfold
              (rename Fr g' L' _ _ => F9)
              (rename News g' L' _ _ => N9)
              refine ⟨rfl, 8 - (k + 1), by omega, k + 1, _, _, _, _, _, _, _, rfl, by omega, .inr hku', rfl, Fr_int (Fr_int (Fr_int (Fr_int (Fr_named F9 rfl) rfl ?_) rfl ?_) rfl ?_) rfl ?_, N9⟩
              · exact shift_step
              · split <;> omega
              · omega
              · omega
          · (rename ¬ 8 - min ((k : Int) + 1) 8 < _ => hc)
            have hnx := turn_false hk8 hku hc
            show wpS _ _ (execs ([_, _, _] ++ _) _) _ _ _
            refine wpS.block _ ?_
            k_fold
            repeat' ((fail_if_success (with_reducible show wpS _ _ _ _ _ _)); (first | (k_unfold; (try dsimp only)) | (k_end; kc_close) | walk1 | (dsimp only; walk1) | (leave1; walk_say "STEP leave1"; (try dsimp only)) | fail "no step"))
            k_unfold
            dsimp only
            (rename Fr g' L' _ _ => F8)
            (rename News g' L' _ _ => N8)
            refine' wpS.cons (S_append ?qa ?qN ?qm ?qh ?qz ?qn)
            case qN => exact N8
            case qm => k_mem
            case qz => rw [List.size_toArray, List.length_append, lowBytes_length, sizeLine_eq]; omega
            case qn => rfl
            case qa => (first | (k_unfold; (try dsimp only)) | (k_end; kc_close) | walk1 | (dsimp only; walk1) | (leave1; walk_say "STEP leave1"; (try dsimp only)) | fail "no step"); exact ⟨rfl, rfl⟩
            case qh =>
              repeat' ((fail_if_success (with_reducible show Exists _)); (first | (k_unfold; (try dsimp only)) | (k_end; kc_close) | walk1 | (dsimp only; walk1) | (leave1; walk_say "STEP leave1"; (try dsimp only)) | fail "no step"))
              have hv := hdr_val hu hnx
              have ha := hdr_abs hv.1 hv.2
              refine ⟨_, _, _, _, _, _, _, rfl, rfl, F8, N8, by k_upd, ha.1, ha.2.1, fun h' F' N' => ?_⟩
              rw [push_hdr hnx ha.2.2] at N'
              exact wpS.nil (wpS.nil ⟨rfl, h', _, _, rfl, Fr_named (x := Str.ofString "revbytes") (v := .ref D1) F' rfl, N'⟩)
    case done =>
      intro h tk m₁ F₁ N₁
      have N₂ : News g' L' h [(D2, LCg.lst [Value.int 1 tA, Value.int y t2, Value.int x tB]), (D1, baObj (laidAll [1, y, x]).toArray), (D, listOf #[.str (Str.ofString (toString x)) t1, .int y t2, .bool true] n), (I, oI)] := N₁
      clear N₁
      have hz1 : (laidAll [1, y, x]).toArray.size ≤ sizeLine := by
        rw [List.size_toArray, sizeLine_eq]
        exact Nat.le_trans (laidAll_length _) (show 9 * 3 ≤ 16777216 by decide)
      refine wpS.any ?_
      repeat' ((fail_if_success (with_reducible show LeaveK _ _ _ _ _ _ _)); (first | (k_unfold; (try dsimp only)) | (k_end; kc_close) | walk1 | (dsimp only; walk1) | (leave1; walk_say "STEP leave1"; (try dsimp only)) | fail "no step"))
      walk1
      exact hret _ _ _ (by assumption) (cb_drop (by assumption) (by kcj_all))
end Mine
end

section
open PySem PySem.W PySem.Calls PyProof.Rows
set_option Elab.async false
set_option maxRecDepth 100000
namespace Mine
/-- one number as it lies in the bytes -/
def wire (u : Nat) : List UInt8 := (laid u).reverse
theorem wire_length (u : Nat) : (wire u).length = nx u + 1 := by rw [wire, List.length_reverse, laid_length]
theorem wire_zero (u : Nat) : (wire u).getD 0 0 = (hdr (nx u) + u / 2 ^ (8 * nx u)).toUInt8 := by simp [wire, laid]
theorem wire_succ {u j : Nat} (h : j < nx u) : (wire u).getD (j + 1) 0 = (u / 2 ^ (8 * (nx u - 1 - j))).toUInt8 := by
  unfold wire laid
  rw [List.reverse_append, List.reverse_singleton, List.singleton_append, List.getD_cons_succ]
  have hl : j < (lowBytes u (nx u)).reverse.length := by rw [List.length_reverse, lowBytes_length]; exact h
  rw [List.getD_eq_getElem?_getD, List.getElem?_eq_getElem hl, List.getElem_reverse]
  simp [lowBytes]
theorem byte_nat {n : Nat} : (n.toUInt8).toNat = n % 256 := by simp [Nat.toUInt8]
theorem laidAll_wire (as : List Int) : (laidAll as).reverse = (as.reverse.map zz).flatMap wire := by
  induction as with
  | nil => rfl
  | cons a r ih =>
    rw [show laidAll (a :: r) = laid (zz a) ++ laidAll r from rfl, List.reverse_append, ih, List.reverse_cons, List.map_append, List.flatMap_append]
    simp [wire]
theorem first_byte {u : Nat} (hu : u < 2 ^ 64) : (((wire u).getD 0 0).toNat : Int) = ((hdr (nx u) + u / 2 ^ (8 * nx u) : Nat) : Int) := by
  rw [wire_zero, byte_nat, Nat.mod_eq_of_lt (hdr_val hu rfl).2]
theorem fb_all : ∀ k : Fin 9, ∀ v : Fin 128, v.val < 2 ^ (7 - k.val) →
    (Builtin.bitAnd ((hdr k.val + v.val : Nat) : Int) 128 = 0 ↔ k.val = 0) ∧
    8 - (Builtin.Int.intBits (Builtin.bitAnd (Builtin.bitNot ((hdr k.val + v.val : Nat) : Int)) 255) : Int) = (k.val : Int) ∧
    Builtin.bitAnd ((hdr k.val + v.val : Nat) : Int) (Int.fdiv 255 (2 ^ (k.val : Int).toNat)) = ((v.val : Nat) : Int) := by decide +kernel
theorem fb_at {u : Nat} (hu : u < 2 ^ 64) :
    (Builtin.bitAnd ((hdr (nx u) + u / 2 ^ (8 * nx u) : Nat) : Int) 128 = 0 ↔ nx u = 0) ∧
    8 - (Builtin.Int.intBits (Builtin.bitAnd (Builtin.bitNot ((hdr (nx u) + u / 2 ^ (8 * nx u) : Nat) : Int)) 255) : Int) = (nx u : Int) ∧
    Builtin.bitAnd ((hdr (nx u) + u / 2 ^ (8 * nx u) : Nat) : Int) (Int.fdiv 255 (2 ^ (nx u : Int).toNat)) = ((u / 2 ^ (8 * nx u) : Nat) : Int) := by
  have ht := top_lt hu rfl
  have h2 : 2 ^ (7 - nx u) ≤ 2 ^ 7 := Nat.pow_le_pow_right (by decide) (by omega)
  have hk := nx_le u
  exact fb_all ⟨nx u, by omega⟩ ⟨u / 2 ^ (8 * nx u), by omega⟩ ht
theorem and_even (x y : Int) : Builtin.bitAnd (2 * x) y = 2 * Builtin.bitAnd x (y / 2) := by
  rw [kbt_halves, if_neg (by omega), show 2 * x / 2 = x by omega]
  omega
theorem or_low {a b : Int} (h0 : 0 ≤ b) (h1 : b < 256) : Builtin.bitOr (a * 256) b = a * 256 + b := by
  have e : a * 256 = 2 * (2 * (2 * (2 * (2 * (2 * (2 * (2 * a))))))) := by omega
  have z : Builtin.bitAnd (a * 256) b = 0 := by
    rw [e, and_even, and_even, and_even, and_even, and_even, and_even, and_even, and_even, show b / 2 / 2 / 2 / 2 / 2 / 2 / 2 / 2 = 0 by omega, bitAnd_zero]
    rfl
  rw [bitOr_and, z]; omega
/-- one more byte of a number -/
theorem val_step {u k j : Nat} (hj : j < k) : Builtin.bitOr (((u / 2 ^ (8 * (k - j)) : Nat) : Int) * 2 ^ (8 : Int).toNat) (Builtin.bitAnd (((u / 2 ^ (8 * (k - 1 - j))).toUInt8.toNat : Nat) : Int) 255) = ((u / 2 ^ (8 * (k - (j + 1))) : Nat) : Int) := by
  rw [bitAnd_m8, byte_nat]
  have e0 : (((u / 2 ^ (8 * (k - j)) : Nat) : Int) * 2 ^ (8 : Int).toNat) = ((u / 2 ^ (8 * (k - j)) : Nat) : Int) * 256 := rfl
  rw [e0, or_low (by omega) (by omega)]
  have e1 : u / 2 ^ (8 * (k - j)) = u / 2 ^ (8 * (k - 1 - j)) / 256 := by
    rw [Nat.div_div_eq_div_mul, show (256 : Nat) = 2 ^ 8 from rfl, ← Nat.pow_add, show 8 * (k - 1 - j) + 8 = 8 * (k - j) by omega]
  rw [e1, show k - (j + 1) = k - 1 - j by omega]
  omega
theorem div_lt {u n : Nat} (hu : u < 2 ^ 64) : u / n < 2 ^ 64 := Nat.lt_of_le_of_lt (Nat.div_le_self u n) hu
end Mine
end

section
open PySem PySem.W PySem.Calls PyProof.Rows
set_option Elab.async false
set_option maxRecDepth 100000
namespace Mine
def off (us : List Nat) (i : Nat) : Nat := ((us.take i).flatMap wire).length
theorem take_succ' {us : List Nat} {i u : Nat} (h : us[i]? = some u) : us.take (i + 1) = us.take i ++ [u] := by rw [List.take_add_one, h]; rfl
theorem off_succ {us : List Nat} {i u : Nat} (h : us[i]? = some u) : off us (i + 1) = off us i + nx u + 1 := by
  unfold off
  rw [take_succ' h, List.flatMap_append, List.length_append]
  simp [wire_length]; omega
theorem wires_split {us : List Nat} {i u : Nat} (h : us[i]? = some u) : us.flatMap wire = (us.take i).flatMap wire ++ (wire u ++ (us.drop (i + 1)).flatMap wire) := by
  have hlt : i < us.length := (List.getElem?_eq_some_iff.mp h).1
  have e : us = us.take i ++ u :: us.drop (i + 1) := by
    have h1 := List.take_append_drop (i + 1) us
    rw [take_succ' h, List.append_assoc] at h1
    exact h1.symm
  calc us.flatMap wire = (us.take i ++ u :: us.drop (i + 1)).flatMap wire := by rw [← e]
    _ = _ := by rw [List.flatMap_append, List.flatMap_cons]
theorem at_wire {us : List Nat} {i u j : Nat} (h : us[i]? = some u) (hj : j ≤ nx u) :
    (us.flatMap wire).getD (off us i + j) 0 = (wire u).getD j 0 ∧ off us i + j < (us.flatMap wire).length := by
  have hw := wire_length u
  rw [wires_split h]
  constructor
  · unfold off
    rw [List.getD_eq_getElem?_getD, List.getElem?_append_right (by omega), Nat.add_sub_cancel_left, List.getElem?_append_left (by omega), ← List.getD_eq_getElem?_getD]
  · simp only [List.length_append, off]; omega
theorem off_all (us : List Nat) : off us us.length = (us.flatMap wire).length := by unfold off; rw [List.take_length]
theorem wires_length : ∀ us : List Nat, (us.flatMap wire).length ≤ 9 * us.length
  | [] => by simp
  | u :: r => by
    have h := wires_length r
    have h1 := wire_length u
    have h2 := nx_le u
    simp only [List.flatMap_cons, List.length_append, List.length_cons] at h ⊢
    omega
section
variable {prog : Program} {w : World} {A : Around} {s : Shared} {env : Env}
theorem wpAny_never {α : Type} {M : Model} {t : Sem α} {Q : α → Shared → Prop} {E : Value → Shared → Prop} (h : wpAny M A t Q Never s) : wpAny M A t Q E s := wpAny_mono h (fun _ _ x => x) fun _ _ x => x.elim
theorem A_While {test : Expr} {body : List Stmt} {pos : Pos} {Q : Flow → Shared → Prop} (I : Nat → Shared → Prop)
    (turn : ∀ n s, I n s → wpAny (model prog w) A (isTrue test env (eval test env)) (fun b s₂ =>
        if b = true then wpAny (model prog w) A (execs body env) (fun f s₃ => f = .next ∧ ∃ m, m < n ∧ I m s₃) Never s₂ else Q .next s₂) Never s)
    (n : Nat) (h : I n s) : wpAny (model prog w) A (exec (.While test body [] pos) env) Q Never s := by
  refine wpAny_While (codeAny_whileLoop I (fun n s hI => ?_) n h)
  refine wpAny_mono (turn n s hI) (fun b s₂ h₂ => ?_) fun _ _ x => x.elim
  cases b with
  | false =>
    simp only [Bool.false_eq_true, if_false] at h₂ ⊢
    exact wpAny_execs_nil h₂
  | true =>
    simp only [if_true] at h₂ ⊢
    refine wpAny_mono h₂ (fun f s₃ h₃ => ?_) fun _ _ x => x.elim
    obtain ⟨rfl, h₃⟩ := h₃
    exact h₃
theorem A_cons {M : Model} {st : Stmt} {rest : List Stmt} {Q : Flow → Shared → Prop}
    (h : wpAny M A (exec st env) (fun f s' => match f with | .next => wpAny M A (execs rest env) Q Never s' | f => Q f s') Never s) : wpAny M A (execs (st :: rest) env) Q Never s := wpAny_execs_cons h
end
end Mine
end

section
open PySem PySem.W PySem.Calls PyProof.Rows
set_option Elab.async false
set_option maxRecDepth 100000
namespace Mine
local macro_rules | `(tactic| walk_at "call ref") => `(tactic| (k_here; k_dflt (refine' call_dec ?k1 ?k2 ?k3 ?k4 ?k5 ?kK ?kd ?_; (case k1 => k_asm); (case k2 => k_asm); (case k3 => k_asm); (case k4 => k_asm); (case k5 => k_asm); (case kK => first | exact rfl | assumption); (case kd => ktr_room); k_whole); intro t9 h9 tk9 F9 N9; (try dsimp only); (try k_fold)))
theorem bits_room {u : Nat} (hu : u < 2 ^ 64) : (Builtin.Int.intBits ((u : Nat) : Int) : Int) + 8 ≤ 2 ^ 27 := by
  have : Builtin.Int.intBits ((u : Nat) : Int) ≤ 65 := by
    unfold Builtin.Int.intBits
    split
    · omega
    · have := (Nat.log2_lt (n := ((u : Nat) : Int).natAbs) (k := 65) (by simp_all)).mpr (by omega)
      omega
  omega
set_option maxHeartbeats 8000000 in
theorem unpack_ok {w : World} {mean : ExcName → Option Value} {mg mb : Str → Option Value} {dp un : Nat} {gd : Option (List Code)} {cn : Str} {cs : Scope} {a : Addr} {ccd : Value} {cl : List (Str × Addr)} {outer : List Env} {A₀ : Around} {base h₀ : Heap} {L : Addr} {m : Str → Option Value} {s : Shared} {Q : Value → Shared → Prop}
    (B : Below A₀ base outer h₀) (F : Fr h₀ L s.heap m) (X : (hd.heap_39 w.params).In h₀) (T : Top hd.view_39 (looseW hd.view_39 []) mean mg mb h₀) (hk : cs.kind = .function) (hdp : dp + 2 < recursionLimit)
    (x y : Int) (tt : Tok) (D I : Addr) (oD oI : Obj) (hDI : @Ne Nat D I) (N : News h₀ L s.heap [(D, oD), (I, oI)]) (W : List UInt8) (hW : W = (([x, y, 1] : List Int).map zz).flatMap wire)
    (hx : -(2 ^ 63) ≤ x ∧ x < 2 ^ 63) (hy : -(2 ^ 63) ≤ y ∧ y < 2 ^ 63)
    (hret : ∀ (P : Addr) (vs : List Value) (h' : Heap) (tk' : Nat), IntsAre vs [x, y, 1] → Fr h₀ L h' m → News h₀ L h' [(P, { cls := .type "tuple", data := .seq vs.toArray }), (D, oD), (I, oI)] → Q (.ref P) { s with heap := h', toks := tk' })
    : wpAny (model pr w) (ktrTop dp un gd cn cs L a ccd cl outer) (PySem.call (.ref 42) [.bytes W.toArray tt]) Q Never s := by
  have kf : PySem.Challenge.rw_fq5005_01 = PySem.Challenge.rw_fq5005_01 ∧ hd.heap_39 = hd.heap_39 := by (k_fill; exact ⟨rfl, rfl⟩)
  clear kf
  w_top on
  have hWl : W.length ≤ 27 := by rw [hW]; exact Nat.le_trans (wires_length _) (by simp)
  have hWz : W.toArray.size ≤ 1099511627776 := by rw [List.size_toArray]; omega
  have hWl' : W.length ≤ 1099511627776 := by omega
  refine wpAny_call ?_
  k_dflt (refine' code_def ?k1 ?k2 ?k3 ?k4 ?k5 ?kA ?kF ?kK ?k6 ?k7 ?k8 ?k9 ?kB ?_ ?c2 ?c3 ?c4 ?c5; (case kA => exact rfl); (case kF => exact rfl); (case kK => assumption); (case k1 => k_asm); (case k2 => k_asm); (case k3 => k_asm); (case k4 => k_asm); (case k5 => k_asm); (case k6 => k_is); (case k7 => k_is); (case k8 => ktr_room); (case k9 => exact BindsTo.of_eq rfl); (case c5 => decide); (case kB => exact locs rfl); (case c2 => exact rfl); (case c3 => exact rfl); (case c4 => exact rfl); k_whole)
  intro g' L' h' FG' F' N' B' X' T'
  (try dsimp only)
  (try k_lift B')
  refine wpAny_never ?_
  repeat' ((fail_if_success (with_reducible show wpAny _ _ (exec (Stmt.While _ _ _ _) _) _ _ _)); (first | (k_unfold; (try dsimp only)) | (k_end; kc_close) | walk1 | (dsimp only; walk1) | (leave1; walk_say "STEP leave1"; (try dsimp only)) | fail "no step"))
  (rename Fr g' L' _ _ => F1)
  (rename News g' L' _ ((_ : Addr × Obj) :: _ :: _) => N1)
  rename_i V h1a l1 h1b h1
  have hV : @LT.lt Nat _ D V ∧ @LT.lt Nat _ I V := l1
  generalize hus : ([x, y, 1] : List Int).map zz = us at hW
  have hub : ∀ i u, us[i]? = some u → i < 3 ∧ ∃ av, u = zz av ∧ ([x, y, 1] : List Int)[i]? = some av ∧ (-(2 ^ 63) ≤ av ∧ av < 2 ^ 63) := by
    intro i u hu
    rw [← hus] at hu
    rcases i with _ | _ | _ | i
    · cases hu; exact ⟨by decide, x, rfl, rfl, hx⟩
    · cases hu; exact ⟨by decide, y, rfl, rfl, hy⟩
    · cases hu; exact ⟨by decide, 1, rfl, rfl, by decide⟩
    · cases hu
  have hul : us.length = 3 := by rw [← hus]; rfl
  have hoa := off_all us
  rw [hul, ← hW] at hoa
  clear hus
  refine' A_While (fun fuel s' => ∃ (i : Nat) (h : Heap) (tk : Nat) (m₂ : Str → Option Value) (q1 : Tok) (vs : List Value), fuel = 3 - i ∧ i ≤ 3 ∧ s' = { s with heap := h, toks := tk } ∧ IntsAre vs (([x, y, 1] : List Int).take i) ∧
    Fr g' L' h (fun z => if z = Str.ofString "n" then some (.int (off us i : Int) q1) else if z = Str.ofString "values" then some (.ref V) else if z = Str.ofString "term" then some (.bytes W.toArray tt) else m₂ z) ∧
    News g' L' h [(V, listOf vs.toArray vs.length), (D, oD), (I, oI)]) ?turn 3 ?q0
  case q0 =>
    refine ⟨0, _, _, _, _, [], rfl, by decide, rfl, .nil, Fr_int (Fr_named (Fr_named F1 rfl) rfl) rfl ?_, N1⟩
    simp [off]
  case turn =>
    rintro n1 s1 ⟨i, h, tk, m₂, q1, vs, rfl, hi3, rfl, hia, F2, N2⟩
    clear F1 N1
    k_fold
    repeat' ((fail_if_success (with_reducible show wpAny _ _ (exec (Stmt.Assign _ _ _) _) _ _ _)); (first | (k_unfold; (try dsimp only)) | (k_end; kc_close) | walk1 | (dsimp only; walk1) | (leave1; walk_say "STEP leave1"; (try dsimp only)) | fail "no step"))
    rotate_left 0
    (rename ((off us i : Nat) : Int) < _ => hlt)
    rw [List.size_toArray] at hlt
    have hi : i < 3 := by
      rcases Nat.lt_or_ge i 3 with h3 | h3
      · exact h3
      · have : i = 3 := by omega
        subst this; omega
    obtain ⟨u, hu⟩ : ∃ u, us[i]? = some u := ⟨_, List.getElem?_eq_getElem (by omega)⟩
    obtain ⟨-, av, hua, hav, hab⟩ := hub i u hu
    have hu64 := zz_lt hab
    rw [← hua] at hu64
    repeat' ((fail_if_success (with_reducible show wpAny _ _ (exec (Stmt.If _ _ _ _) _) _ _ _)); (first | (k_unfold; (try dsimp only)) | (k_end; kc_close) | walk1 | (dsimp only; walk1) | (leave1; walk_say "STEP leave1"; (try dsimp only)) | fail "no step"))
    (rename Fr g' L' _ _ => F3)
    (rename News g' L' _ _ => N3)
    have hat0 := at_wire hu (Nat.zero_le _)
    have hfb := first_byte hu64
    have hfa := fb_at hu64
    have F4 := Fr_int (x := Str.ofString "first_byte") (j := ((hdr (nx u) + u / 2 ^ (8 * nx u) : Nat) : Int)) F3 rfl (by
      rw [Int.toNat_natCast, hW, ← hfb, ← hat0.1, Nat.add_zero])
    clear F3
    refine wpAny_mono (Q := fun f s' => f = .next ∧ ∃ (h : Heap) (tk : Nat) (m₂ : Str → Option Value) (q1 q2 : Tok), s' = { s with heap := h, toks := tk } ∧
      Fr g' L' h (fun z => if z = Str.ofString "n" then some (.int ((off us i + nx u : Nat) : Int) q1) else if z = Str.ofString "val" then some (.int (u : Int) q2) else if z = Str.ofString "values" then some (.ref V) else if z = Str.ofString "term" then some (.bytes W.toArray tt) else m₂ z) ∧
      News g' L' h [(V, listOf vs.toArray vs.length), (D, oD), (I, oI)]) ?_ ?_ (fun _ _ e => e)
    · refine wpAny_If ?_
      k_fold
      repeat' ((fail_if_success (with_reducible show wpAny _ _ (exec (Stmt.Assign _ _ _) _) _ _ _)); (first | (k_unfold; (try dsimp only)) | (k_end; kc_close) | walk1 | (dsimp only; walk1) | (leave1; walk_say "STEP leave1"; (try dsimp only)) | fail "no step"))
      · (rename Builtin.bitAnd _ 128 = 0 => hz)
        have hk0 := hfa.1.mp hz
        repeat' ((fail_if_success (with_reducible show _ ∧ _)); (first | (k_unfold; (try dsimp only)) | (k_end; kc_close) | walk1 | (dsimp only; walk1) | (leave1; walk_say "STEP leave1"; (try dsimp only)) | fail "no step"))
        (rename Fr g' L' _ _ => F5)
        (rename News g' L' _ _ => N5)
        refine ⟨rfl, _, _, _, _, _, rfl, Fr_int (Fr_int (Fr_named (Fr_named F5 rfl) rfl) rfl ?_) rfl ?_, N5⟩
        · rw [hk0]; simp [hdr]
        · rw [hk0]; rfl
      · (rename ¬ Builtin.bitAnd _ 128 = 0 => hz)
        have hk0 : nx u ≠ 0 := fun q => hz (hfa.1.mpr q)
        have hk8 := nx_le u
        repeat' ((fail_if_success (with_reducible show wpAny _ _ (exec (Stmt.While _ _ _ _) _) _ _ _)); (first | (k_unfold; (try dsimp only)) | (k_end; kc_close) | walk1 | (dsimp only; walk1) | (leave1; walk_say "STEP leave1"; (try dsimp only)) | fail "no step"))
        (rename Fr g' L' _ _ => F5)
        (rename News g' L' _ _ => N5)
        refine' A_While (fun fuel s' => ∃ (j : Nat) (h : Heap) (tk : Nat) (m₃ : Str → Option Value) (q1 q2 q3 : Tok), fuel = nx u - j ∧ j ≤ nx u ∧ s' = { s with heap := h, toks := tk } ∧
          Fr g' L' h (fun z => if z = Str.ofString "n" then some (.int ((off us i + j : Nat) : Int) q1) else if z = Str.ofString "val" then some (.int ((u / 2 ^ (8 * (nx u - j)) : Nat) : Int) q2) else if z = Str.ofString "end" then some (.int ((off us i + nx u : Nat) : Int) q3) else if z = Str.ofString "values" then some (.ref V) else if z = Str.ofString "term" then some (.bytes W.toArray tt) else m₃ z) ∧
          News g' L' h [(V, listOf vs.toArray vs.length), (D, oD), (I, oI)]) ?turn (nx u) ?q0
        case q0 =>
          refine ⟨0, _, _, _, _, _, _, rfl, Nat.zero_le _, rfl, Fr_int (Fr_int (Fr_int (Fr_named (Fr_named F5 rfl) rfl) rfl ?_) rfl ?_) rfl ?_, N5⟩
          · rw [hfa.2.1]; omega
          · rw [hfa.2.1]; exact hfa.2.2
          · omega
        case turn =>
          rintro n1 s1 ⟨j, h, tk, m₃, u1, u2, u3, rfl, hjk, rfl, F6, N6⟩
          clear F5 N5
          k_fold
          repeat' ((fail_if_success (with_reducible show wpAny _ _ (exec (Stmt.AugAssign _ _ _ _) _) _ _ _)); (fail_if_success (with_reducible show _ ∧ _)); (first | (k_unfold; (try dsimp only)) | (k_end; kc_close) | walk1 | (dsimp only; walk1) | (leave1; walk_say "STEP leave1"; (try dsimp only)) | fail "no step"))
          · (rename ((off us i + j : Nat) : Int) < _ => hjl)
            have hj : j < nx u := by omega
            have hat := at_wire hu (show j + 1 ≤ nx u from hj)
            rw [wire_succ hj, ← hW] at hat
            repeat' ((fail_if_success (with_reducible show wpAny _ _ (inplaceOp Operator.LShift _ _) _ _ _)); (first | (k_unfold; (try dsimp only)) | (k_end; kc_close) | walk1 | (dsimp only; walk1) | (leave1; walk_say "STEP leave1"; (try dsimp only)) | fail "no step"))
            refine ilshift_int (by decide) (bits_room (div_lt hu64)) ?_
            repeat' ((fail_if_success (with_reducible show _ ∧ _)); (first | (k_unfold; (try dsimp only)) | (k_end; kc_close) | walk1 | (dsimp only; walk1) | (leave1; walk_say "STEP leave1"; (try dsimp only)) | fail "no step"))
            (rename Fr g' L' _ _ => F7)
            (rename News g' L' _ _ => N7)
            refine ⟨rfl, nx u - (j + 1), by omega, j + 1, _, _, _, _, _, _, rfl, by omega, rfl, Fr_int (Fr_int (Fr_int (Fr_named (Fr_named F7 rfl) rfl) rfl rfl) rfl ?_) rfl ?_, N7⟩
            · have e1 : (((off us i + j : Nat) : Int) + 1).toNat = off us i + (j + 1) := by omega
              rw [← val_step hj, e1, hat.1]
            · omega
          · (rename ¬ ((off us i + j : Nat) : Int) < _ => hjl)
            have hj : j = nx u := by omega
            subst hj
            refine ⟨rfl, _, _, _, _, _, rfl, Fr_int (Fr_int (Fr_named (Fr_named F6 rfl) rfl) rfl ?_) rfl rfl, N6⟩
            rw [Nat.sub_self, Nat.mul_zero, Nat.pow_zero, Nat.div_one]
    · rintro f s' ⟨rfl, h, tk, m₂, q1, q2, rfl, F5, N5⟩
      clear F4 N3
      dsimp only
      repeat' ((fail_if_success (with_reducible show _ ∧ _)); (first | (k_unfold; (try dsimp only)) | (k_end; kc_close) | walk1 | (dsimp only; walk1) | (leave1; walk_say "STEP leave1"; (try dsimp only)) | fail "no step"))
      (first | (k_unfold; (try dsimp only)) | (k_end; kc_close) | walk1 | (dsimp only; walk1) | (leave1; walk_say "STEP leave1"; (try dsimp only)) | fail "no step")
      repeat' ((fail_if_success (with_reducible show _ ∧ _)); (first | (k_unfold; (try dsimp only)) | (k_end; kc_close) | walk1 | (dsimp only; walk1) | (leave1; walk_say "STEP leave1"; (try dsimp only)) | fail "no step"))
      (rename Fr g' L' _ _ => F6)
      (rename News g' L' _ _ => N6)
      rw [hua, decF_zz] at N6
      obtain ⟨t9, N7⟩ : ∃ t9, News g' L' _ [(V, listOf (vs.toArray.push (.int av t9)) (vs.length + 1)), (D, oD), (I, oI)] := ⟨_, N6⟩
      clear N6
      have hia' : IntsAre (vs ++ [.int av t9]) (([x, y, 1] : List Int).take (i + 1)) := by
        rw [List.take_add_one, hav]
        have := intsAre_push (its := vs.toArray) (n := av) (t := t9) hia
        rw [List.push_toArray] at this
        exact this
      refine ⟨rfl, 3 - (i + 1), by omega, i + 1, _, _, _, _, vs ++ [.int av t9], rfl, by omega, rfl, hia', Fr_int (Fr_named (Fr_named F6 rfl) rfl) rfl ?hn, ?news⟩
      case hn => rw [off_succ hu]; omega
      case news =>
        rw [List.push_toArray] at N7
        rw [List.length_append]
        exact N7
    rename Fr h₀ L _ _ => F6
    rename News h₀ L _ _ => N6
    rename ¬ ((off us i : Nat) : Int) < _ => hge
    have hi : i = 3 := by
      rcases Nat.lt_or_ge i 3 with h3 | h3
      · exfalso
        have hu := List.getElem?_eq_getElem (l := us) (i := i) (by omega)
        have := (at_wire hu (Nat.zero_le _)).2
        rw [← hW] at this
        rw [List.size_toArray] at hge
        omega
      · omega
    subst hi
    exact hret _ _ _ _ hia F6 (cb_drop N6 (by kcj_all))
end Mine
end

section
open PySem PySem.W PySem.Calls PyProof.Rows
set_option Elab.async false
set_option maxRecDepth 100000
namespace Mine
section
variable {prog : Program} {w : World} {A : Around} {s : Shared} {h₀ : Heap} {env : Env}
/-- a for over a list that stays, in any frame; the ledger by what holds of it -/
theorem S_forG {x src : Str} {xp sp pos : Pos} {V : Addr} {body : List Stmt} {vs : List Value} {nv : Nat} {m : Str → Option Value} {J : (Str → Option Value) → Str → Option Value} {P : Nat → List (Addr × Obj) → Prop} {adr : List Addr} {led : List (Addr × Obj)} {Q : Flow → Shared → Prop}
    (hh : A.handled = none)
    (hsrc : wpAny (model prog w) A (eval (.Name src sp) env) (fun v s₁ => v = .ref V ∧ s₁ = s) Never s)
    (F : Fr h₀ env.locals s.heap (J m)) (N : News h₀ env.locals s.heap led) (h0 : P 0 led) (hV : ∀ i led, P i led → (V, listOf vs.toArray nv) ∈ led) (hA : ∀ i led, P i led → led.map (·.1) = adr)
    (turn : ∀ (i : Nat) (v : Value) (it : Addr) (o : Obj) (m₁ : Str → Option Value) (h : Heap) (tk : Nat) (led : List (Addr × Obj)), vs[i]? = some v → P i led → (∀ q ∈ led, q.1 < it) → Fr h₀ env.locals h (fun y => if y = x then some v else J m₁ y) → News h₀ env.locals h ((it, o) :: led) →
      wpS (model prog w) A (execs body env) (fun f s₃ => f = .next ∧ ∃ (h' : Heap) (tk' : Nat) (m₂ : Str → Option Value) (led' : List (Addr × Obj)), s₃ = { s with heap := h', toks := tk' } ∧ P (i + 1) led' ∧ Fr h₀ env.locals h' (J m₂) ∧ News h₀ env.locals h' ((it, o) :: led')) Never { s with heap := h, toks := tk })
    (done : ∀ (h : Heap) (tk : Nat) (m₁ : Str → Option Value) (led : List (Addr × Obj)), P vs.length led → Fr h₀ env.locals h (J m₁) → News h₀ env.locals h led → Q .next { s with heap := h, toks := tk })
    (hl : env.kindOf x = some .local) (hp : (env.scope.kind == .class || (env.scope.kind == .module && env.locals != env.globals)) = false) (hs : ∀ z, foldedSetIterable (.Name src sp) env z = Pure.pure z := by intro _; rfl) :
    wpS (model prog w) A (exec (.For (.Name x xp) (.Name src sp) body [] pos) env) Q Never s := by
  refine wpS.ForSt ?_ hs
  refine wpAny_mono hsrc (fun v s₁ hv => ?_) fun _ _ e => e
  obtain ⟨rfl, rfl⟩ := hv
  have hol : s₁.heap.get? V = some (listOf vs.toArray nv) := (N _ (hV _ _ h0)).1
  refine wpAny_pyIter_list (items := vs.toArray) ⟨_, hol, rfl, nv, rfl⟩ ?_
  have F0 := F.push ({ cls := .type "list_iterator", data := .fields #[.ref V, .int 0 0] } : Obj)
  have N0 := News.push F N ({ cls := .type "list_iterator", data := .fields #[.ref V, .int 0 0] } : Obj)
  have lt0 : ∀ i led', P i led' → ∀ q ∈ led', q.1 < s₁.heap.objs.size := fun i led' hP q hq => by
    have h1 : q.1 ∈ led.map (·.1) := hA _ _ h0 ▸ hA _ _ hP ▸ List.mem_map_of_mem hq
    obtain ⟨r, hr, e⟩ := List.mem_map.mp h1
    rw [← e]; exact Heap.lt_size (N r hr).1
  refine codeS_for (fun n s' => ∃ i h tk m₁ o led, n = vs.length - i ∧ i ≤ vs.length ∧ P i led ∧ s' = { s₁ with heap := h, toks := tk } ∧ Fr h₀ env.locals h (J m₁) ∧ News h₀ env.locals h ((s₁.heap.objs.size, o) :: led) ∧ o.cls = .type "list_iterator" ∧ o.data = .fields #[.ref V, .int i 0])
    ?_ vs.length ⟨0, _, _, m, _, led, rfl, Nat.zero_le _, h0, rfl, F0, N0, rfl, rfl⟩
  rintro n s' ⟨i, h, tk, m₁, o, led₁, rfl, hi, hP, rfl, F₁, N₁, hc, hd⟩
  have hit : h.IsListIter s₁.heap.objs.size V i := ⟨o, (N₁ _ (.head _)).1, hc, hd⟩
  have hls : h.IsList V vs.toArray := ⟨_, (N₁ _ (.tail _ (hV _ _ hP))).1, rfl, nv, rfl⟩
  have zI := N₁ _ (.head _)
  cases hv : vs[i]? with
  | none =>
    have e : i = vs.length := by have := List.getElem?_eq_none_iff.mp hv; omega
    subst e
    refine wpAny_pyNext_list_end hh hit hls (by simpa using hv) fun h' he => ?_
    refine done h' tk m₁ led₁ hP ⟨F₁.ns.extBut he (Ne.symm zI.2.1), fun b ob eb => he b ob (fun q => ?_) (F₁.keep b ob eb), F₁.above⟩ fun q hq => ?_
    · rw [q] at eb
      have := zI.2.2
      rw [show h₀.get? s₁.heap.objs.size = none from this] at eb
      cases eb
    · have z := N₁ q (.tail _ hq)
      exact ⟨he _ _ (Nat.ne_of_lt (lt0 _ _ hP q hq)) z.1, z.2⟩
  | some v =>
    refine wpAny_pyNext_list_item hit hls (by simpa using hv) fun h' hit' hsame => ?_
    obtain ⟨o', ho', hc', hd'⟩ := hit'
    have F₂ := F₁.change hsame zI.2.1 zI.2.2
    have N₂ : News h₀ env.locals h' ((s₁.heap.objs.size, o') :: led₁) := news_set (pre := []) N₁ (fun _ hp => nomatch hp) (fun q hq => Nat.ne_of_lt (lt0 i _ hP q hq)) hsame ho'
    refine wpAny_assign_Name (wpAny_storeName_local hl F₂.ns (fun h'' hn hs => ?_) hp)
    have hlt : i < vs.length := (List.getElem?_eq_some_iff.mp hv).1
    refine wpS.mono (turn i v _ o' m₁ h'' _ led₁ hv hP (lt0 i _ hP) (F₂.set hn hs) (N₂.set hs)) (fun f s₃ hf => ?_) fun _ _ e => e
    obtain ⟨rfl, h3, tk3, m₂, led₂, rfl, hP', F₄, N₄⟩ := hf
    exact ⟨rfl, vs.length - (i + 1), by omega, i + 1, h3, tk3, m₂, o', led₂, rfl, hlt, hP', rfl, F₄, N₄, hc', hd'⟩
end
theorem wpS.blockP {M : Model} {A : Around} {E : Value → Shared → Prop} {s : Shared} {env : Env} (pre : List Stmt) {rest : List Stmt} {Q : Flow → Shared → Prop} (P : Shared → Prop)
    (h₁ : wpAny M A (execs pre env) (fun f s' => f = .next ∧ P s') Never s) (h₂ : ∀ s', P s' → wpS M A (execs rest env) Q E s') : wpS M A (execs (pre ++ rest) env) Q E s := by
  refine wpS.block pre (wpAny_mono h₁ (fun f s' hf => ?_) fun _ _ e => e.elim)
  obtain ⟨rfl, hP⟩ := hf
  exact h₂ s' hP
theorem ints_cons {i n : Int} {t : Tok} {vs : List Value} {ns : List Int} (e : i = n) (h : IntsAre vs ns) : IntsAre (.int i t :: vs) (n :: ns) := by subst e; exact .cons _ _ h
theorem ints_get {vs : List Value} {ns : List Int} (h : IntsAre vs ns) : ∀ {i : Nat} {v : Value}, vs[i]? = some v → ∃ n t, v = .int n t ∧ ns[i]? = some n := by
  induction h with
  | nil => intro i v h; cases h
  | cons n t h ih =>
    intro i v hv
    cases i with
    | zero => cases hv; exact ⟨n, t, rfl, rfl⟩
    | succ i => exact ih hv
abbrev rowInts : List Int := [0, -1, 1, -2, 2, -3, 3, -4, 4, -5, 5, -6, 6, -7, 7, -8, 8, -9, 9, -10, 10, -11, 11, -12, 12]
abbrev plainF (x : Int) : Int := x % 2 ^ 64 - 2 ^ 63
end Mine
end

section
open PySem PySem.W PySem.Calls PyProof.Rows
set_option Elab.async false
set_option maxRecDepth 100000
namespace Mine
section
variable {prog : Program} {w : World} {A : Around} {s : Shared} {h₀ : Heap} {env : Env} {L : Addr} {m : Str → Option Value} {led : List (Addr × Obj)} {Q : Flow → Shared → Prop}
/-- `if test: ..` whose test is false -/
theorem A_check (s : Shared) {h0 : Heap} {tk0 : Nat} {test : Expr} {body rest : List Stmt} {pos : Pos} (_ : Fr h₀ L h0 m) (_ : News h₀ L h0 led)
    (h₁ : wpAny (model prog w) A (isTrue test env (eval test env)) (fun b s' => b = false ∧ ∃ h tk, s' = { s with heap := h, toks := tk } ∧ Fr h₀ L h m ∧ News h₀ L h led) Never { s with heap := h0, toks := tk0 })
    (h₂ : ∀ h tk, Fr h₀ L h m → News h₀ L h led → wpAny (model prog w) A (execs rest env) Q Never { s with heap := h, toks := tk }) :
    wpAny (model prog w) A (execs (.If test body [] pos :: rest) env) Q Never { s with heap := h0, toks := tk0 } := by
  refine A_cons (wpAny_If (wpAny_mono h₁ (fun b s' hb => ?_) fun _ _ e => e))
  obtain ⟨rfl, h, tk, rfl, F, N⟩ := hb
  exact wpAny_execs_nil (h₂ h tk F N)
theorem A_seq {st : Stmt} {rest : List Stmt} (P : Shared → Prop) (h₁ : wpAny (model prog w) A (exec st env) (fun f s' => f = .next ∧ P s') Never s) (h₂ : ∀ s', P s' → wpAny (model prog w) A (execs rest env) Q Never s') :
    wpAny (model prog w) A (execs (st :: rest) env) Q Never s := by
  refine A_cons (wpAny_mono h₁ (fun f s' hf => ?_) fun _ _ e => e)
  obtain ⟨rfl, hP⟩ := hf
  exact h₂ s' hP
/-- a name is set to an int -/
theorem A_let (s : Shared) {h0 : Heap} {tk0 : Nat} {st : Stmt} {rest : List Stmt} {x : Str} {i : Int} (_ : Fr h₀ L h0 m) (_ : News h₀ L h0 led)
    (h₁ : wpAny (model prog w) A (exec st env) (fun f s' => f = .next ∧ ∃ h tk t, s' = { s with heap := h, toks := tk } ∧ Fr h₀ L h (fun y => if y = x then some (.int i t) else m y) ∧ News h₀ L h led) Never { s with heap := h0, toks := tk0 })
    (h₂ : ∀ h tk t, Fr h₀ L h (fun y => if y = x then some (.int i t) else m y) → News h₀ L h led → wpAny (model prog w) A (execs rest env) Q Never { s with heap := h, toks := tk }) :
    wpAny (model prog w) A (execs (st :: rest) env) Q Never { s with heap := h0, toks := tk0 } := by
  refine A_seq _ h₁ ?_
  rintro s' ⟨h, tk, t, rfl, F, N⟩
  exact h₂ h tk t F N
end
theorem bits_abs (g : Int) : Builtin.Int.intBits g = Builtin.Int.intBits (if g < 0 then -g else g) := by
  by_cases h : g < 0
  · rw [if_pos h]
    unfold Builtin.Int.intBits
    rw [Int.natAbs_neg]
    by_cases h0 : g = 0
    · omega
    · rw [if_neg (by simpa using h0), if_neg (by simp; omega)]
  · rw [if_neg h]
theorem Fr_val {h₀ h : Heap} {L : Addr} {m : Str → Option Value} {x : Str} {i j : Int} {t : Tok} (F : Fr h₀ L h (fun y => if y = x then some (.int i t) else m y)) (e : i = j) : Fr h₀ L h (fun y => if y = x then some (.int j t) else m y) := by subst e; exact F
theorem fm (a : Int) {b : Int} (h : 0 ≤ b) : a.fmod b = a % b := Int.fmod_eq_emod_of_nonneg a h
theorem fd (a : Int) {b : Int} (h : 0 ≤ b) : a.fdiv b = a / b := Int.fdiv_eq_ediv_of_nonneg a h
theorem ne_no {a b : Int} (h : a = b) : (a != b) = false := by subst h; simp
theorem dec_even {g : Int} (h : g.fmod 2 = 0) : decF g = g.fdiv 2 := by
  rw [fm _ (by decide)] at h
  rw [fd _ (by decide)]
  unfold decF
  split <;> omega
theorem dec_odd {g : Int} (h : g.fmod 2 ≠ 0) : decF g = (-(g + 1)).fdiv 2 := by
  rw [fm _ (by decide)] at h
  rw [fd _ (by decide)]
  unfold decF
  split <;> omega
theorem row_all : ∀ k : Fin 25, decF ((k.val : Nat) : Int) = rowInts.getD k.val 0 ∧ encF (rowInts.getD k.val 0) = ((k.val : Nat) : Int) ∧ -12 ≤ rowInts.getD k.val 0 ∧ rowInts.getD k.val 0 ≤ 12 := by decide +kernel
theorem row_facts {k : Int} (h0 : 0 ≤ k) (h1 : k < 25) : decF k = rowInts.getD k.toNat 0 ∧ encF (rowInts.getD k.toNat 0) = k ∧ -12 ≤ rowInts.getD k.toNat 0 ∧ rowInts.getD k.toNat 0 ≤ 12 := by
  obtain ⟨j, rfl⟩ := Int.eq_ofNat_of_zero_le h0
  exact row_all ⟨j, by omega⟩
theorem plain_in (x : Int) : -(2 ^ 63) ≤ plainF x ∧ plainF x < 2 ^ 63 := by unfold plainF; omega
theorem enc_plain {p : Int} (h : -(2 ^ 63) ≤ p ∧ p < 2 ^ 63) : encF p = (if 0 ≤ p then 2 * p else -2 * p - 1) := by
  unfold encF
  by_cases h0 : 0 ≤ p
  · rw [if_pos h0, if_pos h0, if_pos h.2]
  · rw [if_neg h0, if_neg h0, if_pos h.1]; omega
theorem dec_due (p : Int) : decF (if 0 ≤ p then 2 * p else -2 * p - 1) = p := by
  unfold decF
  by_cases h0 : 0 ≤ p
  · rw [if_pos h0, if_pos (by omega)]; omega
  · rw [if_neg h0, if_neg (by omega)]; omega
theorem enc_up {u : Int} (h : 2 ^ 63 ≤ u ∧ u < 2 ^ 64) : encF u = 2 * u + 1 := by
  unfold encF
  rw [if_pos (by omega), if_neg (by omega)]
theorem dec_up (u : Int) : decF (2 * u + 1) = -u - 1 := by
  unfold decF
  rw [if_neg (by omega)]; omega
theorem enc_lo {l : Int} (h : -(2 ^ 64) ≤ l ∧ l < -(2 ^ 63)) : encF l = -2 * l - 2 := by
  unfold encF
  rw [if_neg (by omega), if_neg (by omega)]; omega
theorem dec_lo (l : Int) : decF (-2 * l - 2) = -l - 1 := by
  unfold decF
  rw [if_pos (by omega)]; omega
theorem no_big {p : Int} (h : -(2 ^ 63) ≤ p ∧ p < 2 ^ 63) (hb : 10 ^ 4300 ≤ p.natAbs) : False := by
  have h1 : (10 : Nat) ^ 19 ≤ 10 ^ 4300 := Nat.pow_le_pow_right (by decide) (by decide)
  generalize (10 : Nat) ^ 4300 = B at *
  have h2 : (10 : Nat) ^ 19 = 10000000000000000000 := by decide
  omega
theorem ints_three {vs : List Value} {a b c : Int} (h : IntsAre vs [a, b, c]) : ∃ t1 t2 t3, vs = [.int a t1, .int b t2, .int c t3] := by
  cases h with
  | cons _ t1 h => cases h with
    | cons _ t2 h => cases h with
      | cons _ t3 h => cases h; exact ⟨t1, t2, t3, rfl⟩
theorem pack_wire (p q : Int) : (laidAll [1, q, p]).reverse = (([p, q, 1] : List Int).map zz).flatMap wire := laidAll_wire _
theorem strOk_of (x : String) : PyData.strOk (Str.ofString x) = true := by
  unfold PyData.strOk
  rw [← Array.all_toList, signs_ofString, List.all_eq_true]
  intro c hc
  obtain ⟨ch, _, rfl⟩ := List.mem_map.mp hc
  have h := ch.valid
  unfold UInt32.isValidChar Nat.isValidChar at h
  have e : ch.toNat = ch.val.toNat := rfl
  simp only [decide_eq_true_eq]
  omega
theorem shaped_handed (x : String) (q : Int) : SeqAt.shaped (.list [.str (Str.ofString x), .int q, .bool true]) = true := by
  simp [SeqAt.shaped, PyData.canLay0, PyData.canLayAll0, PyData.depth, PyData.depthAll, strOk_of]
theorem eqv_handed (x : String) (q : Int) : PyData.eqv (.list [.str (Str.ofString x), .int q, .bool true]) (.list [.str (Str.ofString x), .int q, .bool true]) = true := by
  simp [PyData.eqv, PyData.eqvAll]
theorem reads_handed (h : Heap) (x : String) (q : Int) (t7 t8 : Tok) : ReadsAll h [.str (Str.ofString x) t7, .int q t8, .bool true] [PyData.str (Str.ofString x), .int q, .bool true] [] :=
  ReadsAll.cons (Reads.str _ _) (ReadsAll.cons (Reads.int _ _) (ReadsAll.cons (Reads.bool _) ReadsAll.nil))
end Mine
end

section
open PySem PySem.W PySem.Calls PyProof.Rows
set_option Elab.async false
set_option maxRecDepth 100000
namespace Mine
section
variable {M : Model} {A : Around} {E : Value → Shared → Prop} {s : Shared} {env : Env} {K : Frag}
theorem wpS.spliced_cons {x : Sem Value} {rest : List (Bool × Sem Value)} {Q : List Value → Shared → Prop}
    (h : wpS M A x (fun v s₁ => wpS M A (spliced rest) (fun vs s₂ => Q (v :: vs) s₂) E s₁) E s) : wpS M A (spliced ((false, x) :: rest)) Q E s := by
  rw [spliced]
  refine wpS.bind (wpS.mono h (fun v s₁ h₁ => ?_) fun _ _ x => x)
  simp only [Bool.false_eq_true, if_false]
  exact wpS.bindA (wpAny_pure (wpS.bind (wpS.holding (wpS.mono h₁ (fun vs s₂ h₂ => wpS.pure h₂) fun _ _ x => x))))
theorem wpS.evalArgs_plain {f : Value} {x : Sem Value} {rest : List (Bool × Sem Value)} {Q : Args → Shared → Prop}
    (h : wpS M A (spliced ((false, x) :: rest)) (fun vs s' => Q ⟨vs, []⟩ s') E s) : wpS M A (evalArgs f true ((false, x) :: rest) []) Q E s := by
  unfold evalArgs
  show wpS M A (spliced ((false, x) :: rest) >>= _) Q E s
  refine wpS.bind (wpS.mono h (fun vs s' h' => ?_) fun _ _ x => x)
  refine wpS.holding ?_
  exact wpS.bindA (wpAny_pure (wpS.bindA (wpAny_pure (wpS.pure h'))))
/-- `f(e)`, f a def of the written part -/
theorem wpS.callName {fn : Str} {p pos : Pos} {e : Expr} {f : Value} {Q : Value → Shared → Prop}
    (hf : wpAny M A (eval (.Name fn p) env) (fun v s₁ => v = f ∧ s₁ = s) E s) (hk : keepIn K f = true)
    (h : wpS M A (eval e env) (fun v s₁ => K.In s₁.heap ∧ wpS M A (PySem.call f [v]) Q E s₁) E s)
    (hst : starEach [e] env = [(false, eval e env)] := by rfl) : wpS M A (eval (.Call (.Name fn p) [e] [] pos) env) Q E s := by
  show wpS M A (do callWith pos (← eval (.Name fn p) env) [] (backTo pos (starEach [e] env)) (backToKw pos (keywordEach [] env))) Q E s
  refine wpS.bindA (wpAny_mono hf (fun v s₁ h₁ => ?_) fun _ _ x => x)
  obtain ⟨rfl, rfl⟩ := h₁
  rw [hst]
  show wpS M A (callWith pos v [] [(false, eval e env)] []) Q E _
  unfold callWith
  have h2 : wpS M A (evalArgs v true [(false, eval e env)] []) (fun a s₁ => K.In s₁.heap ∧ wpS M A (PySem.call v ([] ++ a.pos) a.kw) Q E s₁) E s₁ :=
    wpS.evalArgs_plain (wpS.spliced_cons (wpS.mono h (fun x s₂ hx => wpS.any (Calls.spliced_nil hx)) fun _ _ x => x))
  refine wpS.bind (wpS.holding (wpS.mono h2 (fun a s₂ h₁ => wpS.bindA (wpAny_standAt ?_)) fun _ _ x => x))
  obtain ⟨k, hk', L⟩ := keeps_K (M := M) hk _ h₁.1
  have hp : ([(false, eval e env)].any (·.1) || ([] : List (Option Str × Sem Value)).any (·.1.isNone)) = false := rfl
  simp only [hp]
  refine wpS.bindA (L.here ?_)
  have tail : ∀ {t : Sem Value}, wpS M A t Q E s₂ → wpS M A (t >>= fun r => PySem.holding [r] point >>= fun _ => Pure.pure r) Q E s₂ :=
    fun ht => wpS.bind (wpS.mono ht (fun r s₂ hr => wpS.bindA (wpAny_holding (wpAny_point (wpS.pure hr)))) fun _ _ x => x)
  have marked (mk : Value) : wpS M A (callMarked mk v ([] ++ a.pos) a.kw) Q E s₂ := by unfold callMarked; exact wpS.keep h₁.2
  rcases hk' with rfl | rfl | rfl <;> dsimp only <;> first | exact tail h₁.2 | (split <;> first | exact tail h₁.2 | exact tail (marked _))
theorem wpS.Compare1 {l r : Expr} {op : CmpOp} {pos : Pos} {Q : Value → Shared → Prop}
    (h : wpS M A (eval l env) (fun a s₁ => wpAny M A (eval r env) (fun b s₂ => wpAny M A (compareOp op a b) Q E s₂) E s₁) E s)
    (hm : behindInMarks op r = false := by with_unfolding_all rfl) : wpS M A (eval (.Compare l [op] [r] pos) env) Q E s := fun Γ p hΓ hc => by
  simp only [eval_Compare1, markedBehindIn_of_false hm, Sem.wp_bind', Sem.wp_holding, Sem.wp_cmd_standAt, Sem.wp_operate]
  exact Sem.wp_mono M Γ _ (fun a p₁ s₁ h₁ => Sem.wp_mono M Γ _ (fun b _ s₂ h₂ => h₂ Γ _ hΓ) (fun _ _ _ h' => h') _ _ (h₁ Γ p₁ hΓ))
    (fun _ _ _ h' => h') _ _ (h Γ p hΓ hc)
theorem wpS.And2 {x y : Expr} {pos : Pos} {Q : Value → Shared → Prop}
    (h : wpS M A (eval x env) (fun v s₁ => wpAny M A (truthy v) (fun t s₂ => if t then wpAny M A (eval y env) Q E s₂ else Q v s₂) E s₁) E s) :
    wpS M A (eval (.BoolOp .And [x, y] pos) env) Q E s := by
  show wpS M A (do
    let v ← eval x env
    standAt pos
    let t ← PySem.holding [v] (truthy v)
    match BoolOp.And, t with
    | .And, false | .Or, true => Pure.pure v
    | _, _ => boolOp pos .And [eval y env]) Q E s
  refine wpS.bind (wpS.mono h (fun v s₁ h₁ => wpS.bindA (wpAny_standAt (wpS.bindA (wpAny_holding (wpAny_mono h₁ (fun t s₂ h₂ => ?_) fun _ _ x => x))))) fun _ _ x => x)
  cases t with
  | false => exact wpS.pure h₂
  | true => exact wpS.any h₂
end
end Mine
end

section
open PySem PySem.W PySem.Calls PyProof.Rows
set_option Elab.async false
set_option maxRecDepth 100000
namespace Mine
local macro_rules | `(tactic| walk_at "call ref") => `(tactic| (k_here; k_dflt (refine' call_enc ?k1 ?k2 ?k3 ?k4 ?k5 ?kK ?kp ?kd ?ku ?_; (case k1 => assumption); (case k2 => k_asm); (case k3 => assumption); (case k4 => k_asm); (case k5 => assumption); (case kK => exact rfl); (case kp => first | omega | (split <;> omega)); (case kd => ktr_room); (case ku => ktr_units); k_whole); intro t9 h9 tk9 F9 N9; (try dsimp only); (try k_fold)))
local macro_rules | `(tactic| walk_at "call ref") => `(tactic| (k_here; k_dflt (refine' call_dec ?k1 ?k2 ?k3 ?k4 ?k5 ?kK ?kd ?_; (case k1 => assumption); (case k2 => k_asm); (case k3 => assumption); (case k4 => k_asm); (case k5 => assumption); (case kK => exact rfl); (case kd => ktr_room); k_whole); intro t9 h9 tk9 F9 N9; (try dsimp only); (try k_fold)))
local macro_rules | `(tactic| walk_at "call ref") => `(tactic| (k_here; k_dflt (refine' call_bits ?k1 ?k2 ?k3 ?k4 ?k5 ?kK ?kd ?_; (case k1 => assumption); (case k2 => k_asm); (case k3 => assumption); (case k4 => k_asm); (case k5 => assumption); (case kK => exact rfl); (case kd => ktr_room); k_whole); intro t9 h9 tk9 F9 N9; (try dsimp only); (try k_fold)))
local macro_rules | `(tactic| walk_at "call ref") => `(tactic| (k_here; k_dflt (refine' call_halv ?k1 ?k2 ?k3 ?k4 ?k5 ?kK ?kp ?kd ?_; (case k1 => assumption); (case k2 => k_asm); (case k3 => assumption); (case k4 => k_asm); (case k5 => assumption); (case kK => exact rfl); (case kp => first | omega | (split <;> omega)); (case kd => ktr_room); k_whole); intro t9 h9 tk9 F9 N9; (try dsimp only); (try k_fold)))
theorem post_true (args : List WData) : PySem.Challenge.rw_fq5005_01.row.toRowW.claim.post args (.bool true) args = true := postW_of (by rfl) (by wtm_val) (by w_fin)
set_option maxHeartbeats 8000000 in
theorem law_ok : PySem.Challenge.rw_fq5005_01.Holds := by
  refine hd ⟨fun args => ⟨fun _ => ?a, ?b⟩, ?c⟩
  case a => rfl
  case b => exact fun _ => post_true args
  case c =>
    k_fill
    intro w s₀ s₁ mg mb G Y fa o pm cd doc dV kV ho hd hcd hD hmg hg args vals as hpre hlay hrd hwl hlo
    have KX := kIn_of Y
    have X := (Ground.X G).1
    have V := (Ground.X G).2
    have GL := glob_more (Ground.glob G (by first | k_qdec | decide +kernel) (by first | k_qdec | decide +kernel)) V
    refine Ground.open G ?_
    intro T B D TE TW
    try (refine guard_noD D (by decide +kernel) ?_; clear D)
    obtain ⟨_, _, M⟩ := bmod_of_top T
    have TA := at_of_top T
    obtain ⟨_, _, he, B0⟩ := based_of_top T rfl hmg ho hd; have he' : cd = _ := he; subst he'; clear he
    clear hmg
    wrow_args hpre hlay hrd hwl hlo
    refine wpS.call (codeS.mono (R := GoodWG _ _ _ _ _) ?_ (fun res s' g => by rcases g.1 with ⟨v, _, _, rfl, _⟩ | ⟨e, _, _, rfl, _⟩ <;> exact g))
    w_top on
    refine codeS.mono ?_ (fun _ _ g => GoodW.toG g)
    have K0 : Below callerA s₁.heap [] s₁.heap := below_caller (Top.heap T)
    have he := Dflts.none hD rfl; subst he; have he := Dflts.noKw hD; subst he
    refine callS_cells (by decide) ho (fd_plain hd) (Top.nolimit T) hcd rfl (kinds_of (by kinds_ok)) (by decide) fun h₁ tk₁ cells F N0 X0 => ?_
    cells_open X0
    clear hd TA
    k_drop
    refine wpS.mono (Q := fun f s' => f = .ret (.bool true) ∧ ∃ h m tk, s' = { s₁ with heap := h, toks := tk } ∧ Fr s₁.heap s₁.heap.objs.size h m) (E := Never) ?_ (fun f s' hf => ?_) (fun _ _ e => e.elim)
    rotate_left
    · obtain ⟨rfl, h, m, tk, rfl, F₁⟩ := hf
      exact goodW_bool F₁ hg (fun _ => rfl) (post_true _)
    clear G Y X V B TE TW hD hg ho
    show wpS _ _ (execs ([_, _, _, _] ++ _) _) _ _ _
    refine wpS.blockP _ (fun s' => ∃ (h : Heap) (tk : Nat) (m₀ : Str → Option Value) (Inner Row Nn : Addr) (rv ys : List Value) (nr : Nat) (ns : List Int), s' = { s₁ with heap := h, toks := tk } ∧ ns.length = 6 ∧ IntsAre ys ns ∧ IntsAre rv rowInts ∧
      Fr s₁.heap s₁.heap.objs.size h (fun y => if y = Str.ofString "inner" then some (.ref Inner) else if y = Str.ofString "row" then some (.ref Row) else if y = Str.ofString "n" then some (.ref Nn) else m₀ y) ∧
      News s₁.heap s₁.heap.objs.size h [(Inner, listOf #[] 0), (Row, listOf rv.toArray nr), (Nn, listOf ys.toArray ys.length)] ∧ @Ne Nat Inner Row ∧ @Ne Nat Inner Nn ∧ @Ne Nat Row Nn) ?first ?second
    case first =>
      k_fold
      repeat' ((fail_if_success (with_reducible show _ ∧ _)); (first | (k_unfold; (try dsimp only)) | (k_end; kc_close) | walk1 | (dsimp only; walk1) | (leave1; walk_say "STEP leave1"; (try dsimp only)) | fail "no step"))
      (rename Fr _ _ _ _ => F1)
      (rename News _ _ _ _ => N1)
      refine ⟨rfl, ?_⟩
      refine ⟨_, _, _, _, _, _, _, _, _, _, rfl, ?_, by assumption, ?_, Fr_named (Fr_named (Fr_named F1 rfl) rfl) rfl, cb_drop N1 (by kcj_all), ?_, ?_, ?_⟩
      · rfl
      · repeat' (first | exact .nil | refine ints_cons (by omega) ?_)
      all_goals k_ne
    case second =>
      rintro s' ⟨h, tk, m₀, Inner, Row, Nn, rv, ys, nr, ns, rfl, hns, hys, hrv, F1, N1, d1, d2, d3⟩
      have hyl : ys.length = 6 := by rw [IntsAre.length hys, hns]
      refine' wpS.cons (S_forG (V := Nn) (vs := ys) (nv := ys.length) (J := fun m y => if y = Str.ofString "inner" then some (.ref Inner) else if y = Str.ofString "row" then some (.ref Row) else if y = Str.ofString "n" then some (.ref Nn) else m y) (adr := [Inner, Row, Nn])
        (P := fun i led => ∃ vs, IntsAre vs ((ns.take i).map plainF) ∧ led = [(Inner, listOf vs.toArray vs.length), (Row, listOf rv.toArray nr), (Nn, listOf ys.toArray ys.length)]) ?hh ?hsrc F1 N1 ?h0 ?hV ?hA ?turn ?done ?hl ?hp)
      case hh => rfl
      case hl => rfl
      case hp => rfl
      case h0 => exact ⟨[], .nil, rfl⟩
      case hV =>
        rintro i _ ⟨vs, -, rfl⟩
        exact .tail _ (.tail _ (.head _))
      case hA =>
        rintro i _ ⟨vs, -, rfl⟩
        rfl
      case hsrc =>
        k_fold
        (first | (k_unfold; (try dsimp only)) | (k_end; kc_close) | walk1 | (dsimp only; walk1) | (leave1; walk_say "STEP leave1"; (try dsimp only)) | fail "no step")
        exact ⟨rfl, rfl⟩
      case turn =>
        rintro i v it o m₁ h tk _ hv ⟨vs, hvs, rfl⟩ hit F2 N2
        change Fr s₁.heap s₁.heap.objs.size h _ at F2
        change News s₁.heap s₁.heap.objs.size h _ at N2
        obtain ⟨x, tx, rfl, hx⟩ := ints_get hys hv
        refine .any ?_
        clear F N0 X0 F1 N1 hv
        k_fold
        refine' A_let s₁ (x := Str.ofString "great") (i := x % 2 ^ 131 - 2 ^ 130) F2 N2 ?s1 fun h tk t F3 N3 => ?_
        case s1 =>
          repeat' ((fail_if_success (with_reducible show (Eq (α := Flow) _ _) ∧ _)); (first | (k_unfold; (try dsimp only)) | (k_end; kc_close) | walk1 | (dsimp only; walk1) | (leave1; walk_say "STEP leave1"; (try dsimp only)) | fail "no step"); (try dsimp only))
          (rename Fr _ _ _ _ => F8)
          exact ⟨rfl, _, _, _, rfl, Fr_val F8 (by rw [fm _ (by decide)]; rfl), by assumption⟩
        clear F2 N2
        generalize x % 2 ^ 131 - 2 ^ 130 = g at *
        refine' A_check s₁ F3 N3 ?s1 fun h tk F4 N4 => ?_
        case s1 =>
          repeat' ((fail_if_success (with_reducible show (Eq (α := Bool) _ _) ∧ _)); (first | (k_unfold; (try dsimp only)) | (k_end; kc_close) | walk1 | (dsimp only; walk1) | (leave1; walk_say "STEP leave1"; (try dsimp only)) | fail "no step"); (try dsimp only))
          exact ⟨ne_no (by rw [← bits_abs]), _, _, rfl, by assumption, by assumption⟩
        clear F3 N3
        refine' A_check s₁ F4 N4 ?s1 fun h tk F5 N5 => ?_
        case s1 =>
          repeat' ((fail_if_success (with_reducible show (Eq (α := Bool) _ _) ∧ _)); (first | (k_unfold; (try dsimp only)) | (k_end; kc_close) | walk1 | (dsimp only; walk1) | (leave1; walk_say "STEP leave1"; (try dsimp only)) | fail "no step"); (try dsimp only))
          · exact ⟨ne_no (dec_even (by assumption)), _, _, rfl, by assumption, by assumption⟩
          · exact ⟨ne_no (dec_odd (by assumption)), _, _, rfl, by assumption, by assumption⟩
        clear F4 N4
        refine' A_let s₁ (x := Str.ofString "place") (i := x % 25) F5 N5 ?s1 fun h tk t F6 N6 => ?_
        case s1 =>
          repeat' ((fail_if_success (with_reducible show (Eq (α := Flow) _ _) ∧ _)); (first | (k_unfold; (try dsimp only)) | (k_end; kc_close) | walk1 | (dsimp only; walk1) | (leave1; walk_say "STEP leave1"; (try dsimp only)) | fail "no step"); (try dsimp only))
          (rename Fr _ _ _ _ => F8)
          exact ⟨rfl, _, _, _, rfl, Fr_val F8 (by rw [fm _ (by decide)]), by assumption⟩
        clear F5 N5
        have hplc : 0 ≤ x % 25 ∧ x % 25 < 25 := by omega
        obtain ⟨r1, r2, r3, r4⟩ := row_facts hplc.1 hplc.2
        generalize hpl : x % 25 = plc at *
        clear hpl
        have hrl : rowInts.length = 25 := rfl
        generalize rowInts = rs at *
        refine' A_check s₁ F6 N6 ?s1 fun h tk F7 N7 => ?_
        case s1 =>
          repeat' ((fail_if_success (with_reducible show (Eq (α := Bool) _ _) ∧ _)); (first | (k_unfold; (try dsimp only)) | (k_end; kc_close) | walk1 | (dsimp only; walk1) | (leave1; walk_say "STEP leave1"; (try dsimp only)) | fail "no step"); (try dsimp only))
          all_goals first | exact ⟨rfl, _, _, rfl, by assumption, by assumption⟩ | (exfalso; first | contradiction | omega)
        clear F6 N6
        clear r1 r2 r3 r4 hplc hrl
        refine' A_let s₁ (x := Str.ofString "plain") (i := plainF x) F7 N7 ?s1 fun h tk t F8 N8 => ?_
        case s1 =>
          repeat' ((fail_if_success (with_reducible show (Eq (α := Flow) _ _) ∧ _)); (first | (k_unfold; (try dsimp only)) | (k_end; kc_close) | walk1 | (dsimp only; walk1) | (leave1; walk_say "STEP leave1"; (try dsimp only)) | fail "no step"); (try dsimp only))
          (rename Fr _ _ _ _ => F8)
          exact ⟨rfl, _, _, _, rfl, Fr_val F8 (by rw [fm _ (by decide)]; rfl), by assumption⟩
        clear F7 N7
        have hp := plain_in x
        generalize hpx : plainF x = p at *
        refine' A_let s₁ (x := Str.ofString "due") (i := if 0 ≤ p then 2 * p else -2 * p - 1) F8 N8 ?s1 fun h tk t F9 N9 => ?_
        case s1 =>
          repeat' ((fail_if_success (with_reducible show (Eq (α := Flow) _ _) ∧ _)); (first | (k_unfold; (try dsimp only)) | (k_end; kc_close) | walk1 | (dsimp only; walk1) | (leave1; walk_say "STEP leave1"; (try dsimp only)) | fail "no step"); (try dsimp only))
          all_goals (rename Fr _ _ _ _ => F8)
          · exact ⟨rfl, _, _, _, rfl, Fr_val F8 (if_pos (by omega)).symm, by assumption⟩
          · exact ⟨rfl, _, _, _, rfl, Fr_val F8 (if_neg (by omega)).symm, by assumption⟩
        clear F8 N8
        have r1 := enc_plain hp
        have r2 := dec_due p
        generalize (if 0 ≤ p then 2 * p else -2 * p - 1) = due at *
        refine' A_check s₁ F9 N9 ?s1 fun h tk F10 N10 => ?_
        case s1 =>
          repeat' ((fail_if_success (with_reducible show (Eq (α := Bool) _ _) ∧ _)); (first | (k_unfold; (try dsimp only)) | (k_end; kc_close) | walk1 | (dsimp only; walk1) | (leave1; walk_say "STEP leave1"; (try dsimp only)) | fail "no step"); (try dsimp only))
          all_goals first | exact ⟨rfl, _, _, rfl, by assumption, by assumption⟩ | (exfalso; first | contradiction | omega)
        clear F9 N9
        clear r1 r2
        have hu : 2 ^ 63 ≤ 2 ^ 63 + x % 2 ^ 63 ∧ 2 ^ 63 + x % 2 ^ 63 < 2 ^ 64 := by omega
        have hlo : -(2 ^ 64) ≤ -2 ^ 63 - 1 - x % 2 ^ 63 ∧ -2 ^ 63 - 1 - x % 2 ^ 63 < -(2 ^ 63) := by omega
        refine' A_seq (fun s' => ∃ (h : Heap) (tk : Nat) (t1 t2 t : Tok) (m₂ : Str → Option Value), s' = { s₁ with heap := h, toks := tk } ∧ Fr s₁.heap s₁.heap.objs.size h (fun y => if y = Str.ofString "lower" then some (.int (-2 ^ 63 - 1 - x % 2 ^ 63) t1) else if y = Str.ofString "upper" then some (.int (2 ^ 63 + x % 2 ^ 63) t2) else if y = Str.ofString "plain" then some (.int p t) else if y = Str.ofString "inner" then some (.ref Inner) else if y = Str.ofString "row" then some (.ref Row) else if y = Str.ofString "n" then some (.ref Nn) else m₂ y) ∧
          News s₁.heap s₁.heap.objs.size h [(it, o), (Inner, listOf vs.toArray vs.length), (Row, listOf rv.toArray nr), (Nn, listOf ys.toArray ys.length)]) ?s1 ?_
        case s1 =>
          repeat' ((fail_if_success (with_reducible show (Eq (α := Flow) _ _) ∧ _)); (first | (k_unfold; (try dsimp only)) | (k_end; kc_close) | walk1 | (dsimp only; walk1) | (leave1; walk_say "STEP leave1"; (try dsimp only)) | fail "no step"); (try dsimp only))
          (rename Fr _ _ _ _ => F8)
          (rename News _ _ _ _ => N8)
          refine ⟨rfl, _, _, _, _, _, _, rfl, Fr_int (Fr_int (Fr_named (Fr_named (Fr_named (Fr_named F8 rfl) rfl) rfl) rfl) rfl ?_) rfl ?_, cb_drop N8 (by kcj_all)⟩
          · rw [fm _ (by decide)]; rfl
          · rw [fm _ (by decide)]; rfl
        clear F10 N10
        rintro s' ⟨h, tk, t1, t2, t, m₂, rfl, F11, N11⟩
        generalize 2 ^ 63 + x % 2 ^ 63 = up at *
        generalize -2 ^ 63 - 1 - x % 2 ^ 63 = low at *
        have r1 := enc_up hu
        have r2 := dec_up up
        have r3 := enc_lo hlo
        have r4 := dec_lo low
        refine' A_check s₁ F11 N11 ?s1 fun h tk F12 N12 => ?_
        case s1 =>
          repeat' ((fail_if_success (with_reducible show (Eq (α := Bool) _ _) ∧ _)); (first | (k_unfold; (try dsimp only)) | (k_end; kc_close) | walk1 | (dsimp only; walk1) | (leave1; walk_say "STEP leave1"; (try dsimp only)) | fail "no step"); (try dsimp only))
          all_goals first | exact ⟨rfl, _, _, rfl, by assumption, by assumption⟩ | (exfalso; first | contradiction | omega)
        clear F11 N11
        refine' A_check s₁ F12 N12 ?s1 fun h tk F13 N13 => ?_
        case s1 =>
          repeat' ((fail_if_success (with_reducible show (Eq (α := Bool) _ _) ∧ _)); (first | (k_unfold; (try dsimp only)) | (k_end; kc_close) | walk1 | (dsimp only; walk1) | (leave1; walk_say "STEP leave1"; (try dsimp only)) | fail "no step"); (try dsimp only))
          all_goals first | exact ⟨rfl, _, _, rfl, by assumption, by assumption⟩ | (exfalso; first | contradiction | omega)
        clear F12 N12
        clear r1 r2 r3 r4 hu hlo
        have hitn : @LT.lt Nat _ Inner it ∧ @LT.lt Nat _ Row it ∧ @LT.lt Nat _ Nn it := ⟨hit _ (.head _), hit _ (.tail _ (.head _)), hit _ (.tail _ (.tail _ (.head _)))⟩
        have hvl : vs.length ≤ 6 := by rw [IntsAre.length hvs, List.length_map, List.length_take]; omega
        have hvz : vs.toArray.size ≤ 6 := by rw [List.size_toArray]; exact hvl
        repeat' ((fail_if_success (with_reducible show (Eq (α := Flow) _ _) ∧ _)); (first | (k_unfold; (try dsimp only)) | (k_end; kc_close) | walk1 | (dsimp only; walk1) | (leave1; walk_say "STEP leave1"; (try dsimp only)) | fail "no step"); (try dsimp only))
        show wpAny _ _ (call (Value.builtin "list.append") [.ref Inner, .int p t]) _ _ _
        refine' append_K ?k1 ?k2 ?k3 ?_ ?z
        case k1 => k_asm
        case k2 => k_asm
        case k3 => k_upd
        case z => size_fits
        repeat' ((fail_if_success (with_reducible show (Eq (α := Flow) _ _) ∧ _)); (first | (k_unfold; (try dsimp only)) | (k_end; kc_close) | walk1 | (dsimp only; walk1) | (leave1; walk_say "STEP leave1"; (try dsimp only)) | fail "no step"); (try dsimp only))
        (rename Fr _ _ _ _ => F8)
        (rename News _ _ _ _ => N8)
        obtain ⟨t9, N9⟩ : ∃ t9, News s₁.heap s₁.heap.objs.size _ [(it, o), (Inner, listOf (vs.toArray.push (.int p t9)) (vs.length + 1)), (Row, listOf rv.toArray nr), (Nn, listOf ys.toArray ys.length)] := ⟨_, N8⟩
        clear N8
        have hia : IntsAre (vs ++ [.int p t9]) ((ns.take (i + 1)).map plainF) := by
          rw [List.take_add_one, hx, ← hpx, List.map_append]
          have := intsAre_push (its := vs.toArray) (n := plainF x) (t := t9) hvs
          rw [List.push_toArray] at this
          exact this
        refine ⟨rfl, _, _, _, _, rfl, ⟨vs ++ [.int p t9], hia, rfl⟩, Fr_named (Fr_named (Fr_named F8 rfl) rfl) rfl, ?_⟩
        rw [List.push_toArray] at N9
        rw [List.length_append]
        exact N9
      case done =>
        rintro h tk m₁ _ ⟨vs, hvs, rfl⟩ F2 N2
        change Fr s₁.heap s₁.heap.objs.size h _ at F2
        change News s₁.heap s₁.heap.objs.size h _ at N2
        clear F N0 X0 F1 N1
        obtain ⟨x, y, zs, hxy⟩ : ∃ x y zs, ns = x :: y :: zs := by
          match ns, hns with
          | x :: y :: zs, _ => exact ⟨x, y, zs, rfl⟩
        subst hxy
        rw [hyl] at hvs
        have hvs' : IntsAre vs (plainF x :: plainF y :: (zs.take 4).map plainF) := hvs
        have hp := plain_in x
        have hq := plain_in y
        have hvl : vs.length ≤ 6 := by rw [IntsAre.length hvs, List.length_map, List.length_take]; omega
        clear hvs hrv
        generalize plainF x = p at *
        generalize plainF y = q at *
        generalize List.map plainF (zs.take 4) = rest at *
        show wpS _ _ (execs ([_] ++ _) _) _ _ _
        refine wpS.blockP _ (fun s' => ∃ (h : Heap) (tk : Nat) (m₀ : Str → Option Value) (Hd : Addr) (t1 t2 : Tok) (nh : Nat), s' = { s₁ with heap := h, toks := tk } ∧
          Fr s₁.heap s₁.heap.objs.size h (fun y => if y = Str.ofString "handed" then some (.ref Hd) else if y = Str.ofString "inner" then some (.ref Inner) else m₀ y) ∧
          News s₁.heap s₁.heap.objs.size h [(Hd, listOf #[.str (Str.ofString (toString p)) t1, .int q t2, .bool true] nh), (Inner, listOf vs.toArray vs.length)] ∧ @Ne Nat Hd Inner) ?first ?second
        case first =>
          k_fold
          repeat' ((fail_if_success (with_reducible show (Eq (α := Flow) _ _) ∧ _)); (first | (k_unfold; (try dsimp only)) | (k_end; kc_close) | walk1 | (dsimp only; walk1) | (leave1; walk_say "STEP leave1"; (try dsimp only)) | fail "no step"); (try dsimp only))
          · exact no_big hp (by assumption)
          · show Flow.next = Flow.next ∧ _
            (rename Fr _ _ _ _ => F8)
            (rename News _ _ _ _ => N8)
            obtain ⟨Hd, t1, t2, nh, N9, d4, hHd⟩ : ∃ Hd t1 t2 nh, News s₁.heap s₁.heap.objs.size _ [(Hd, listOf #[.str (Str.ofString (toString p)) t1, .int q t2, .bool true] nh), (Inner, listOf vs.toArray vs.length), (Row, listOf rv.toArray nr), (Nn, listOf ys.toArray ys.length)] ∧ @Ne Nat Hd Inner ∧ _ = Hd := ⟨_, _, _, _, N8, by k_ne, rfl⟩
            refine ⟨rfl, _, _, _, Hd, t1, t2, nh, rfl, Fr_named (Fr_named F8 rfl) ?_, cb_drop N9 (by kcj_all), d4⟩
            rw [← hHd]; rfl
        case second =>
          rintro s' ⟨h, tk, m₀, Hd, t1, t2, nh, rfl, F3, N3, d4⟩
          clear F2 N2
          refine wpS.cons (wpS.ReturnSt (wpS.And2 (wpS.Compare1 ?_)))
          refine' wpS.callName (K := hd.heap_39 w.params) (f := .ref 42) ?hf ?hk ?hh
          case hf =>
            k_fold
            (first | (k_unfold; (try dsimp only)) | (k_end; kc_close) | walk1 | (dsimp only; walk1) | (leave1; walk_say "STEP leave1"; (try dsimp only)) | fail "no step")
            exact ⟨rfl, rfl⟩
          case hk => k_is
          case hh =>
            refine' wpS.callName (K := hd.heap_39 w.params) (f := .ref 47) ?hf ?hk ?hh
            case hf =>
              k_fold
              (first | (k_unfold; (try dsimp only)) | (k_end; kc_close) | walk1 | (dsimp only; walk1) | (leave1; walk_say "STEP leave1"; (try dsimp only)) | fail "no step")
              exact ⟨rfl, rfl⟩
            case hk => k_is
            case hh =>
              refine .any ?_
              k_fold
              (first | (k_unfold; (try dsimp only)) | (k_end; kc_close) | walk1 | (dsimp only; walk1) | (leave1; walk_say "STEP leave1"; (try dsimp only)) | fail "no step")
              refine ⟨KX.keeps F3.keep, ?_⟩
              (try dsimp only)
              refine pack_ok K0 F3 KX T rfl (by decide) (by decide) p q t1 t2 nh Hd Inner _ d4 N3 hp hq ?_
              intro t h' tk' F4 N4
              refine ⟨KX.keeps F4.keep, .any ?_⟩
              rw [List.reverse_toArray]
              refine unpack_ok K0 F4 KX T rfl (by decide) p q t Hd Inner _ _ d4 N4 _ (pack_wire p q) hp hq ?_
              intro P ws h'' tk'' hws F5 N5
              obtain ⟨u1, u2, u3, rfl⟩ := ints_three hws
              clear F4 N4 F3 N3
              k_fold
              repeat' ((fail_if_success (with_reducible show (Eq (α := Flow) _ _) ∧ _)); (first | (k_unfold; (try dsimp only)) | (k_end; kc_close) | walk1 | (dsimp only; walk1) | (leave1; walk_say "STEP leave1"; (try dsimp only)) | fail "no step"); (try dsimp only))
              · (rename Fr _ _ _ _ => F8)
                (rename News _ _ _ _ => N8)
                obtain ⟨t5, t6, N9⟩ : ∃ t5 t6, News s₁.heap s₁.heap.objs.size _ [(_, listOf #[.str (Str.ofString (toString p)) t5, .int q t6, .bool true] 0), (Hd, listOf #[.str (Str.ofString (toString p)) t1, .int q t2, .bool true] nh)] := ⟨_, _, cb_drop (show News _ _ _ [(_, listOf #[.str (Str.ofString (toString p)) _, .int q _, .bool true] 0), _, _, _, _] from N8) (by kcj_all)⟩
                refine eq_dataH (reads_list_at (News.get N9 (.tail _ (.head _))) rfl rfl (reads_handed _ _ _ _ _)) (reads_list_at (News.get N9 (.head _)) rfl rfl (reads_handed _ _ _ _ _)) (shaped_handed _ _) (shaped_handed _ _) (by ke_room) ?_
                rw [eqv_handed]
                show Flow.ret _ = Flow.ret _ ∧ _
                exact ⟨rfl, _, _, _, rfl, F8⟩
              · exfalso
                (rename (_ && _) = false => hf)
                change (p == p && q == q) = false at hf
                simp at hf
end Mine
end

theorem PySem.Challenge.cw_fq5005_01_holds : PySem.Challenge.rw_fq5005_01.Holds := by
  exact Mine.law_ok
