import PyProof.Rows.All
import Wide.All
import OpenK.AllK
import Wide.FinOn
import PySem.Challenge.RW_mq0022_01
open PySem PySem.W PyProof.Rows
set_option Elab.async false
set_option maxRecDepth 100000
set_option linter.unusedVariables false
set_option maxHeartbeats 8000000
namespace Mine
open PySem.Calls PySem.Spec
/-- the built-in codes that may hold a bytearray's memory while they run -/
def holders : List String := ["bytearray.__contains__", "bytearray.__mod__", "bytearray.__rmod__", "_struct.pack_into.held", "bytearray.find.held"] ++ Builtin.Bytes.decodersThatHold
/-- a code that holds no bytearray's memory -/
def plainC : Code → Bool
  | .builtin id _ => !holders.contains id
  | _ => true
/-- a stack of such codes alone -/
def CleanB (l : List (Code × Pos)) : Prop := ∀ x ∈ l, plainC x.1 = true
/-- wpAny over clean stacks alone, and without a raise -/
def wpC {α : Type} (M : Model) (A : Around) (t : Sem α) (Q : α → Shared → Prop) (s : Shared) : Prop :=
  ∀ Γ p, Γ.In A → plainC Γ.code = true → CleanB Γ.below → Sem.wp M Γ t (fun a _ s' => Q a s') (fun _ _ _ => False) p s
abbrev WalkC (q : Program) (loose : List Str) (XP : (Str → Option Value) → Heap → Prop) (YP : World → Heap → Prop) (r : RowW) (d : DefRec) (kwd : List (Str × Expr)) : Prop :=
  ∀ (w : World) (s₀ s₁ : Shared) (mg mb : Str → Option Value), Ground q loose r.records XP w s₀ mg mb s₁.heap → YP w s₁.heap → ∀ (a : Addr) (o : Obj) (pm cd doc dV kV : Value), s₁.heap.get? a = some o →
    o.data = .func { docDef d.name d.params d.body d.scope pm cd doc with defaults := dV, kwdefaults := kV } → s₁.heap.CodeRec cd d.name → Dflts mg s₁.heap d.params kwd dV kV → mg d.name = some (.ref a) → s₁.gens = #[] →
    ∀ (args : List WData) (vals : List Value) (as : List Addr), r.claim.pre args = true → WData.layableAll args = true → ReadsAllW r.records (classAt s₀.heap) s₁.heap vals args as → WellAll w.params s₁.heap vals args → (∀ a ∈ as, (a == sysModules) = false) →
      wpC (model r.prog w) callerA (PySem.call (.ref a) vals) (fun v s' => GoodWG r.claim (classAt s₀.heap) (ExcName.means s₀.heap) args s₁ (.ok (.ret v)) s') s₁
/-- the head over WalkC: the thread of the claim runs under the claim's caller and nothing else -/
theorem PySem.W.holds_open {r : OpenRow} {q : Program} {loose : List Str} {Xt : Shared → Bool} {XP : (Str → Option Value) → Heap → Prop} {α : Type} {Yf : Shared → α} {Ya : World → α} {YP : World → Heap → Prop} {d : DefRec} {kwd : List (Str × Expr)} {N : Nat}
    (left : LeftO r.prog q loose Xt Yf Ya N) (hY : ∀ w s, Yf s = Ya w → YP w s.heap) (hYk : ∀ w h h', YP w h → (∀ b o, h.get? b = some o → h'.get? b = some o) → YP w h')
    (hX : ∀ s, Xt s = true → XP (s.heap.nsMap mainGlobals) s.heap) (hXk : ∀ mg h h', XP mg h → (∀ b o, h.get? b = some o → h'.get? b = some o) → XP mg h')
    (hdef : defOf q r.name = some (d, kwd)) (hp : r.prog.theDef r.name = some (d.params, d.body, d.scope)) (hk : kwWritten? d.params.kwonlyargs d.params.kw_defaults = some kwd) (hRf : ∀ s, Xt s = true → RecFacts r.records s.heap) (hwr : (!r.writes || r.records.isEmpty) = true)
    (k1 : r.wellSaid = true) (ok : (chainsOk q && opensWell r.prog && (frees r.toRowW && r.within.isEmpty)) = true) (hb : r.prog.bare) (hw : r.toRowW.promised)
    (call : WalkC q loose XP YP r.toRowW d kwd) : r.Holds := by
  simp only [Bool.and_eq_true] at ok
  obtain ⟨⟨hch, o1⟩, k5, k6⟩ := ok
  obtain ⟨hsame, hu, ha, hap, hm⟩ := frees_parts k5
  have hwi : r.toRowW.claim.within = [] := List.isEmpty_iff.mp k6
  have hi := ident_freeW hu ha hap
  have top := left.behind (XP := fun mg h => XP mg h ∧ RecFacts r.records h) (fun s hs => ⟨hX s hs, hRf s hs⟩) hch
  refine ⟨k1, hw, ⟨hb, o1, by show r.makers.map _ = []; rw [hm]; rfl⟩, hw.witness, fun w => ⟨(top w).1, fun s' hs' => ?_⟩⟩
  obtain ⟨s₀, hf, hg0, s, hT, hz, hgens, hg, G1, y⟩ := (top w).2 s' hs'
  have hgens : s.gens = #[] := Array.eq_empty_of_size_eq_zero (beq_iff_eq.mp hgens)
  obtain ⟨gX, RF⟩ := G1.X
  have G0 : Ground q loose [] XP w s (s.heap.nsMap mainGlobals) (s.heap.nsMap builtinsNs) s.heap := { G1 with X := gX }
  have G : Ground q loose r.records XP w s (s.heap.nsMap mainGlobals) (s.heap.nsMap builtinsNs) s.heap := RF.ground G0
  refine ⟨s₀, hf, hg0, s, hT, fun n hn => ?_, RF.1, RF.2.1, fun args hpre hlay ord hord => ?_⟩
  · obtain rfl : n = r.name := by split at hn <;> simp_all
    exact pinned_of_view hg G0 hdef hp hk
  obtain ⟨⟨vs, s₁⟩, hlaid⟩ := Option.isSome_iff_exists.mp (layAllW_isSome (P := w.params) (ord := ord) G.has args r.args s (pre_splitW hpre).1)
  have keeps := layAllW_keeps _ _ _ hlaid
  obtain ⟨hal1, _, hal3, hal4⟩ := layAllW_rest _ _ _ hlaid
  obtain ⟨as, hrd, hin, hold⟩ := reads_layAllW hord _ _ _ hlaid hlay s₁.heap (fun _ _ e => e)
  have L : Laid r.records w s s₁ args vs as := ⟨⟨ord, hord, hlaid⟩, hrd, hin, hold, keeps, hal1.trans hgens, hal3⟩
  have G₁ := G.keeps hXk keeps
  obtain ⟨a, o, pm, cd, doc, dV, kV, h1, h2, h3, h4, h5⟩ := G₁.fn hdef
  have walk := call w s s₁ _ _ G₁ (hYk _ _ _ (hY w s y) keeps) a o pm cd doc dV kV h2 h3 h4 h5 (defOf_name hdef ▸ h1) L.gens args vs as hpre hlay L.reads L.well (L.low G.low)
  let Γ₀ : _root_.PySem.Ctx := ⟨.builtin "claim.caller" {}, none, none, [], none⟩
  let R : Result → Shared → Prop := fun res s' => GoodWG r.toRowW.claim (classAt s.heap) (ExcName.means s.heap) args s₁ res s'
  have run : Sem.wp (model r.prog w) Γ₀ (callStub r.name vs).cur (Sem.finPost (model r.prog w) Γ₀ fun res s' => R res s' ∧ leftWithCleanup s'.gens = false)
      (fun e _ s' => R (.error e) s' ∧ leftWithCleanup s'.gens = false) default s₁ := by
    show Sem.wp (model r.prog w) Γ₀ (nsGet mainNs r.name >>= _) _ _ default s₁
    rw [Sem.wp_bind']
    refine (Sem.wp_nsGet (model r.prog w) Γ₀ _ default s₁ G₁.T.g r.name _).mpr ?_
    rw [h1]
    dsimp only
    rw [Sem.wp_bind']
    refine Sem.wp_mono _ _ _ (fun v p' s' g => ?_) (fun _ _ _ x => x.elim) _ _ (walk Γ₀ default caller_in (by decide +kernel) (fun _ hx => by cases hx))
    exact ⟨g, leftWithCleanup_false_of_bare g.2.2.2⟩
  obtain ⟨k, res, s₂, s₃, hsched, hrun, hfo, hR⟩ := wp_halts_full (M := model r.prog w) (Shared.asleep_of_life hal4 hz) run
  obtain ⟨eh, _, _, eo, _⟩ := Shared.forget_eq hfo
  have E := hR.laid (c := r.toRowW.claim) hsame hwi hi L
  have hcase := E.1.congr eh
  have hlife : s₃.heap.life = s.heap.life := (runN_life _ _ _ hrun).trans hal4
  refine ⟨vs, s₁, hlaid, k, _, s₃, hsched, ?_, (fun _ i x hx => by rw [hgens] at hx; simp at hx), fun qw => ⟨?_, noTable hwr qw⟩, by rw [hlife], Shared.rest_eq (eo.trans E.2.1)⟩
  · rcases hcase with ⟨v, rfl, d1, d2, d3, d4, d5⟩ | ⟨e, ob, cls, rfl, d1, d2, d3, d4, d5⟩
    · exact .inl ⟨v, rfl, d1, d2, d3, fun b o y _ => d4 b o y, d5⟩
    · exact .inr ⟨e, ob, cls, rfl, d1, d2, d3, d4, fun b o y _ => d5 b o y⟩
  · rw [eh]
    exact namesKept_of hT hg r.keeps keeps hR.2.1.old
open_top hd for PySem.Challenge.rw_mq0022_01
end Mine
namespace Mine
open PySem.Calls PySem.Spec
section
variable {α β : Type} {M : Model} {A : Around} {s : Shared} {env : Env}
theorem wpC_of_any {t : Sem α} {Q : α → Shared → Prop} (h : wpAny M A t Q (fun _ _ => False) s) : wpC M A t Q s := fun Γ p h1 _ _ => h Γ p h1
theorem wpC_mono {t : Sem α} {Q Q' : α → Shared → Prop} (h : wpC M A t Q s) (hQ : ∀ a s, Q a s → Q' a s) : wpC M A t Q' s :=
  fun Γ p h1 h2 h3 => Sem.wp_mono M Γ t (fun a _ s => hQ a s) (fun _ _ _ x => x) p s (h Γ p h1 h2 h3)
theorem wpC_bind {m : Sem α} {f : α → Sem β} {Q : β → Shared → Prop} (h : wpC M A m (fun a s' => wpC M A (f a) Q s') s) : wpC M A (m >>= f) Q s := fun Γ p h1 h2 h3 => by
  rw [Sem.wp_bind']
  exact Sem.wp_mono M Γ m (fun a p' s' h' => h' Γ p' h1 h2 h3) (fun _ _ _ x => x) p s (h Γ p h1 h2 h3)
theorem wpC_pure {a : α} {Q : α → Shared → Prop} (h : Q a s) : wpC M A (pure a) Q s := fun _ _ _ _ _ => h
theorem wpC_standAt {pos : Pos} {Q : Unit → Shared → Prop} (h : Q () s) : wpC M A (standAt pos) Q s := fun _ _ _ _ _ => h
theorem wpC_holding {vs : List Value} {m : Sem α} {Q : α → Shared → Prop} (h : wpC M A m Q s) : wpC M A (holding vs m) Q s :=
  fun Γ p h1 h2 h3 => by rw [Sem.wp_holding]; exact h Γ p h1 h2 h3
theorem wpC_keep {vs : List Value} {m : Sem α} {Q : α → Shared → Prop} (h : wpC M A m Q s) : wpC M A (m.keep vs) Q s :=
  fun Γ p h1 h2 h3 => by rw [Sem.wp_keep]; exact h Γ p h1 h2 h3
theorem wpC_onRaise {m : Sem α} {k : Value → Sem Unit} {Q : α → Shared → Prop} (h : wpC M A m Q s) : wpC M A (m.onRaise k) Q s :=
  fun Γ p h1 h2 h3 => by
    rw [Sem.wp_onRaise]
    exact Sem.wp_mono M Γ m (fun _ _ _ x => x) (fun _ _ _ x => x.elim) p s (h Γ p h1 h2 h3)
theorem wpC_operate {vs : List Value} {m : Sem Value} {Q : Value → Shared → Prop} (h : wpC M A m Q s) : wpC M A (operate vs m) Q s :=
  fun Γ p h1 h2 h3 => by rw [Sem.wp_operate]; exact h Γ p h1 h2 h3
/-- a code run over clean stacks, ending without a raise -/
def codeC (M : Model) (A : Around) (c : Code) (R : Flow → Shared → Prop) (s : Shared) : Prop :=
  ∀ Γ p, Γ.code = c → Γ.Below A → CleanB Γ.below → wpCode M Γ (fun r s' => match r with | .ok f => R f s' | .error _ => False) p s
theorem codeC_of_tree {c : Code} {R : Flow → Shared → Prop} (hc : plainC c = true)
    (h : wpC M (A.under c) (M.den c) (fun fin s' => match fin with | .done f => R f s' | .again c' => c'.quiet = true ∧ codeC M A c' R s') s) : codeC M A c R s := fun Γ p hcode hΓ hb => by
  rw [wpCode_iff_wp, hcode]
  refine Sem.wp_mono M Γ _ (fun fin p' s' h' => ?_) (fun _ _ _ x => x) p s (h Γ p (hcode ▸ hΓ.in) (by rw [hcode]; exact hc) hb)
  cases fin with
  | done f => exact h'
  | again c' => exact ⟨h'.1, h'.2 (Γ.goto c') p' rfl (hΓ.goto c') hb⟩
theorem codeC_loop {c : Code} {R : Flow → Shared → Prop} (hc : plainC c = true) (hq : c.quiet = true) (I : Nat → Shared → Prop)
    (turn : ∀ n s, I n s → wpC M (A.under c) (M.den c) (fun fin s' => match fin with | .done f => R f s' | .again c' => (c' = c ∧ ∃ m, m < n ∧ I m s') ∨ (c'.quiet = true ∧ codeC M A c' R s')) s)
    (n : Nat) (h : I n s) : codeC M A c R s := by
  induction n using Nat.strongRecOn generalizing s with
  | ind n ih =>
    refine codeC_of_tree hc (wpC_mono (turn n s h) fun fin s' hf => ?_)
    cases fin with
    | done f => exact hf
    | again c' =>
      rcases hf with ⟨rfl, m, hm, hI⟩ | hf
      · exact ⟨hq, ih m hm hI⟩
      · exact hf
theorem wpC_run {c : Code} {Q : Flow → Shared → Prop} (h : codeC M A c Q s) : wpC M A (run c) Q s := fun Γ p h1 h2 h3 => by
  rw [Sem.wp_run]
  refine wpCode_mono (fun r s' hr => ?_) (h (Γ.enter c none p) p rfl (h1.enter c none p (by intro x; cases x)) ?_)
  · cases r with
    | ok f => exact hr
    | error e => exact hr
  · intro x hx
    rcases List.mem_cons.mp hx with rfl | hx
    · exact h2
    · exact h3 x hx
theorem wpC_call {f : Value} {pos : List Value} {kw : List (Str × Value)} {Q : Value → Shared → Prop}
    (h : codeC M A (.call f ⟨pos, kw⟩) (fun fl s' => match fl with | .ret v => Q v s' | _ => False) s) : wpC M A (call f pos kw) Q s := by
  show wpC M A (run (.call f ⟨pos, kw⟩) >>= _) Q s
  refine wpC_bind (wpC_mono (wpC_run h) fun fl s' hf => ?_)
  cases fl with
  | ret v => exact wpC_pure hf
  | next => exact hf.elim
  | brk => exact hf.elim
  | cont => exact hf.elim
theorem wpC_runOwn {c : Code} {Q : Flow → Shared → Prop} (h : codeC M A c Q s) : wpC M A (runOwn c env) Q s := by
  unfold runOwn
  exact wpC_onRaise (wpC_run h)
theorem wpC_execs_nil {Q : Flow → Shared → Prop} (h : Q .next s) : wpC M A (execs [] env) Q s := fun _ _ _ _ _ => h
theorem wpC_execs_cons {st : Stmt} {rest : List Stmt} {Q : Flow → Shared → Prop}
    (h : wpC M A (exec st env) (fun f s' => match f with | .next => wpC M A (execs rest env) Q s' | f => Q f s') s) : wpC M A (execs (st :: rest) env) Q s := by
  rw [execs_cons]
  refine wpC_bind (wpC_mono h fun f s' hf => ?_)
  cases f <;> first | exact hf | exact wpC_pure hf
theorem wpC_Assign_Name {x : Str} {pos' pos : Pos} {value : Expr} {Q : Flow → Shared → Prop}
    (h : wpC M A (eval value env) (fun v s₁ => wpAny M A (storeName env x v) (fun _ => Q .next) (fun _ _ => False) s₁) s)
    (hs : swapsWith value (some (.Name x pos')) pos.line env = pure false := by rfl) : wpC M A (exec (.Assign [.Name x pos'] value pos) env) Q s := by
  rw [exec_Assign_Name env x pos' value pos hs]
  exact wpC_bind (wpC_standAt (wpC_bind (wpC_mono h fun v s₁ h₁ => wpC_bind (wpC_standAt (wpC_bind (wpC_of_any (wpAny_bindName (wpAny_mono h₁ (fun _ _ h₂ => wpC_pure h₂) fun _ _ x => x))))))))
theorem wpC_If {test : Expr} {body orelse : List Stmt} {pos : Pos} {Q : Flow → Shared → Prop}
    (h : wpC M A (isTrue test env (eval test env)) (fun b s₂ => if b = true then wpC M A (execs body env) Q s₂ else wpC M A (execs orelse env) Q s₂) s) :
    wpC M A (exec (.If test body orelse pos) env) Q s := by
  rw [exec_If]
  refine wpC_bind (wpC_standAt (wpC_bind (wpC_mono h fun b s₂ h₂ => ?_)))
  cases b <;> simpa using h₂
theorem wpC_isTrue_Compare1 {l r : Expr} {op : CmpOp} {pos : Pos} {whole : Sem Value} {Q : Bool → Shared → Prop}
    (h : wpC M A (eval l env) (fun a s₁ => wpC M A (eval r env) (fun b s₂ => wpAny M A (compareOp op a b) (fun c s₃ => wpAny M A (truthy c) Q (fun _ _ => False) s₃) (fun _ _ => False) s₂) s₁) s)
    (hm : behindInMarks op r = false := by with_unfolding_all rfl) : wpC M A (isTrue (.Compare l [op] [r] pos) env whole) Q s := by
  rw [isTrue_Compare1, markedBehindIn_of_false hm]
  refine wpC_bind (wpC_mono h fun a s₁ h₁ => wpC_bind (wpC_holding (wpC_mono h₁ fun b s₂ h₂ => wpC_bind (wpC_standAt (wpC_bind (wpC_operate (wpC_of_any ?_)))))))
  exact wpAny_mono h₂ (fun c s₃ h₃ => wpC_holding (wpC_of_any h₃)) fun _ _ x => x
theorem wpC_isTrue_not {x : Expr} {pos : Pos} {whole : Sem Value} {Q : Bool → Shared → Prop} (h : wpC M A (isTrue x env (eval x env)) (fun b s' => Q (!b) s') s) : wpC M A (isTrue (.UnaryOp .Not x pos) env whole) Q s := by
  show wpC M A (isTrue x env (eval x env) >>= fun b => pure (!b)) Q s
  exact wpC_bind (wpC_mono h fun b s' hb => wpC_pure hb)
theorem wpC_isTrue_call {f : Expr} {as : List Expr} {ks : List Keyword} {pos : Pos} {whole : Sem Value} {Q : Bool → Shared → Prop}
    (h : wpC M A whole (fun v s₁ => wpAny M A (truthy v) Q (fun _ _ => False) s₁) s) : wpC M A (isTrue (.Call f as ks pos) env whole) Q s := by
  show wpC M A (whole >>= fun v => standAt pos >>= fun _ => holding [v] (truthy v)) Q s
  exact wpC_bind (wpC_mono h fun v s₁ h₁ => wpC_bind (wpC_standAt (wpC_holding (wpC_of_any h₁))))
theorem wpC_spliced_nil {Q : List Value → Shared → Prop} (h : Q [] s) : wpC M A (spliced []) Q s := wpC_pure h
theorem wpC_spliced_cons {x : Sem Value} {rest : List (Bool × Sem Value)} {Q : List Value → Shared → Prop}
    (h : wpC M A x (fun v s₁ => wpC M A (spliced rest) (fun vs s₂ => Q (v :: vs) s₂) s₁) s) : wpC M A (spliced ((false, x) :: rest)) Q s := by
  rw [spliced]
  refine wpC_bind (wpC_mono h fun v s₁ h₁ => ?_)
  simp only [Bool.false_eq_true, if_false]
  exact wpC_bind (wpC_pure (wpC_bind (wpC_holding (wpC_mono h₁ fun vs s₂ h₂ => wpC_pure h₂))))
theorem wpC_evalArgs {f : Value} {x : Sem Value} {rest : List (Bool × Sem Value)} {Q : Args → Shared → Prop}
    (h : wpC M A (spliced ((false, x) :: rest)) (fun vs s' => Q ⟨vs, []⟩ s') s) : wpC M A (evalArgs f true ((false, x) :: rest) []) Q s := by
  unfold evalArgs
  show wpC M A (spliced ((false, x) :: rest) >>= _) Q s
  refine wpC_bind (wpC_mono h fun vs s' h' => wpC_holding ?_)
  exact wpC_bind (wpC_pure (wpC_bind (wpC_pure (wpC_pure h'))))
/-- the call of a written def: its arguments, then itself -/
theorem wpC_callWith_K {K : Frag} {pos : Pos} {f : Value} {e : Expr} {rest : List Expr} {Q : Value → Shared → Prop} (hk : keepIn K f = true)
    (h : wpC M A (spliced (backTo pos (starEach (e :: rest) env))) (fun vs s₁ => K.In s₁.heap ∧ wpC M A (call f vs) Q s₁) s)
    (he : starEach (e :: rest) env = (false, eval e env) :: starEach rest env := by rfl) (hplain : (backTo pos (starEach rest env)).any (·.1) = false := by rfl) :
    wpC M A (callWith pos f [] (backTo pos (starEach (e :: rest) env)) []) Q s := by
  rw [he] at h ⊢
  have h : wpC M A (spliced ((false, eval e env) :: backTo pos (starEach rest env))) (fun vs s₁ => K.In s₁.heap ∧ wpC M A (call f vs) Q s₁) s := h
  show wpC M A (callWith pos f [] ((false, eval e env) :: backTo pos (starEach rest env)) []) Q s
  generalize backTo pos (starEach rest env) = tl at *
  unfold callWith
  refine wpC_bind (wpC_holding (wpC_mono (wpC_evalArgs (Q := fun a s₁ => K.In s₁.heap ∧ wpC M A (call f a.pos a.kw) Q s₁) h) fun a s₁ h₁ => wpC_bind (wpC_standAt ?_)))
  obtain ⟨k, hk', L⟩ := looks_keep (M := M) hk h₁.1
  have tail : ∀ {t : Sem Value}, wpC M A t Q s₁ → wpC M A (t >>= fun r => holding [r] point >>= fun _ => pure r) Q s₁ :=
    fun ht => wpC_bind (wpC_mono ht fun r s₂ hr => wpC_bind (wpC_holding (wpC_of_any (wpAny_point (wpC_pure hr)))))
  have marked (mk : Value) : wpC M A (callMarked mk f ([] ++ a.pos) a.kw) Q s₁ := by unfold callMarked; exact wpC_keep h₁.2
  have e' : (((false, eval e env) :: tl).any (·.1) || ([] : List (Option Str × Sem Value)).any (·.1.isNone)) = false := by
    show ((false || tl.any (·.1)) || false) = false
    rw [hplain]; rfl
  simp only [e']
  refine wpC_bind (wpC_of_any (L.here ?_))
  rcases hk' with rfl | rfl <;> dsimp only <;> first | exact tail h₁.2 | (split <;> first | exact tail h₁.2 | exact tail (marked _))
theorem wpC_Call_Name {x : Str} {p pos : Pos} {args : List Expr} {Q : Value → Shared → Prop}
    (h : wpAny M A (eval (.Name x p) env) (fun f s₁ => wpC M A (callWith pos f [] (backTo pos (starEach args env)) []) Q s₁) (fun _ _ => False) s) : wpC M A (eval (.Call (.Name x p) args [] pos) env) Q s := by
  show wpC M A (eval (.Name x p) env >>= fun f => callWith pos f [] (backTo pos (starEach args env)) []) Q s
  exact wpC_bind (wpC_of_any h)
theorem wpC_args_nil {pos : Pos} {Q : List Value → Shared → Prop} (h : Q [] s) : wpC M A (spliced (backTo pos (starEach [] env))) Q s := wpC_pure h
theorem wpC_args_cons {e : Expr} {rest : List Expr} {pos : Pos} {Q : List Value → Shared → Prop}
    (h : wpC M A (eval e env) (fun v s₁ => wpC M A (spliced (backTo pos (starEach rest env))) (fun vs s₂ => Q (v :: vs) s₂) s₁) s)
    (he : starEach (e :: rest) env = (false, eval e env) :: starEach rest env := by rfl) : wpC M A (spliced (backTo pos (starEach (e :: rest) env))) Q s := by
  rw [he]; exact wpC_spliced_cons h
end
section
variable {prog : Program} {w : World} {A A₀ : Around} {s : Shared} {env : Env}
/-- a while loop: what holds ahead of each turn, and a measure -/
theorem wpC_While {test : Expr} {body : List Stmt} {pos : Pos} {Q : Flow → Shared → Prop} (I : Nat → Shared → Prop)
    (turn : ∀ n s, I n s → wpAny (model prog w) A (isTrue test env (eval test env)) (fun b s₂ => b = true ∧ wpC (model prog w) A (execs body env) (fun f s₃ => match f with
        | .next | .cont => ∃ m, m < n ∧ I m s₃
        | .brk => Q .next s₃
        | .ret v => Q (.ret v) s₃) s₂) (fun _ _ => False) s)
    (n : Nat) (h : I n s) : wpC (model prog w) A (exec (.While test body [] pos) env) Q s := by
  rw [exec_While]
  refine wpC_bind (wpC_standAt (wpC_runOwn (codeC_loop rfl rfl I (fun n s hI => ?_) n h)))
  show wpC _ A ((whileTurn test body [] env).onRaise (fun x => do noteFrame x env; theTreesLotGoes x)) _ s
  refine wpC_onRaise ?_
  simp only [whileTurn]
  refine wpC_bind (wpC_of_any (wpAny_mono (turn n s hI) (fun b s₂ h₂ => ?_) fun _ _ x => x))
  obtain ⟨rfl, h₂⟩ := h₂
  simp only [if_true]
  refine wpC_bind (wpC_mono h₂ fun f s₃ h₃ => ?_)
  cases f with
  | next => exact wpC_pure (.inl ⟨rfl, h₃⟩)
  | cont => exact wpC_pure (.inl ⟨rfl, h₃⟩)
  | brk => exact wpC_pure h₃
  | ret v => exact wpC_pure h₃
/-- a for loop over a name, without an else -/
theorem wpC_forLoop {x : Str} {px : Pos} {it : Value} {body : List Stmt} {Q : Flow → Shared → Prop} (I : Nat → Shared → Prop)
    (turn : ∀ n s, I n s → wpAny (model prog w) A (pyNext it) (fun r s₁ => match r with
        | none => Q .next s₁
        | some v => wpAny (model prog w) A (assign (.Name x px) env v) (fun _ s₂ => wpC (model prog w) A (execs body env) (fun f s₃ => match f with
            | .next | .cont => ∃ m, m < n ∧ I m s₃
            | .brk => Q .next s₃
            | .ret v => Q (.ret v) s₃) s₂) (fun _ _ => False) s₁) (fun _ _ => False) s)
    (n : Nat) (h : I n s) : codeC (model prog w) A (.forLoop (.Name x px) it body [] env) Q s := by
  refine codeC_loop rfl rfl I (fun n s hI => ?_) n h
  show wpC _ A ((forTurn (.Name x px) it body [] env).onRaise (fun x => do noteFrame x env; theTreesLotGoes x)) _ s
  refine wpC_onRaise ?_
  simp only [forTurn]
  refine wpC_bind (wpC_standAt (wpC_bind (wpC_onRaise (wpC_of_any (wpAny_mono (turn n s hI) (fun r s₁ h₁ => ?_) fun _ _ x => x)))))
  cases r with
  | none =>
    refine wpC_pure (.inr ⟨rfl, codeC_of_tree rfl ?_⟩)
    show wpC _ A (((execs [] env).onRaise (fun x => do noteFrame x env; theTreesLotGoes x)) >>= fun f => pure (Fin.done f)) _ _
    exact wpC_bind (wpC_onRaise (wpC_execs_nil (wpC_pure h₁)))
  | some v =>
    show wpC _ A (assign (.Name x px) env v >>= _) _ _
    refine wpC_bind (wpC_of_any (wpAny_mono h₁ (fun _ s₂ h₂ => ?_) fun _ _ x => x))
    refine wpC_bind (wpC_mono h₂ fun f s₃ h₃ => ?_)
    cases f with
    | next => exact wpC_pure (.inl ⟨rfl, h₃⟩)
    | cont => exact wpC_pure (.inl ⟨rfl, h₃⟩)
    | brk => exact wpC_pure h₃
    | ret v => exact wpC_pure h₃
/-- a def is entered -/
theorem codeC_func {body : List Stmt} {R : Flow → Shared → Prop} (h : wpC (model prog w) (A.deeper env) (execs body env) (fun f s' => R (.ret (match f with | .ret v => v | _ => .none)) s') s) :
    codeC (model prog w) A (.func body env) R s := by
  refine codeC_of_tree rfl ?_
  show wpC _ (A.deeper env) (do point; match ← (execs body env).onRaise (leaving env) with | .ret v => ret v | _ => ret .none) _ s
  refine wpC_bind (wpC_of_any (wpAny_point (wpC_bind (wpC_onRaise (wpC_mono h fun f s' h' => ?_)))))
  cases f <;> exact wpC_pure h'
variable {K : Frag} {L : Addr} {h₀ base : Heap} {m mg mb : Str → Option Value} {news : List (Addr × Obj)} {p : Program} {loose : List Str} {mean : ExcName → Option Value}
theorem codeC_def {outer : List Env} {Q : Value → Shared → Prop} {name qual : Str} {params : Arguments} {body : List Stmt} {scope : Scope} {dV kV doc pm cdv ct oc : Value} {an od : Option Addr} {osl : Array (Option Value)} {f : Addr} {args : Args} {binds : List (Str × Value)}
    (B : Below A₀ base outer h₀) (F : Fr h₀ L s.heap m) (X₀ : K.In h₀) (N : News h₀ L s.heap news) (T : Top p loose mean mg mb h₀) (hA : A.frames = some (env :: outer)) (hf : env.frame = some L) (hke : env.scope.kind = .function)
    (ho : K.lookup f = some ⟨oc, od, .func (fnOf name qual params body scope dV kV doc pm an cdv ct), osl⟩) (hcd : codeIn K cdv qual = true) (hroom : A.depth < recursionLimit)
    (hbind : BindsTo s (fnOf name qual params body scope dV kV doc pm an cdv ct) args binds) (hloc : ∀ y ∈ binds, scope.names.lookup y.1 = some .local)
    (h : ∀ g L' h₁, Fr h₀ L g m → Fr g L' h₁ (fun y => binds.reverse.lookup y) → News g L' h₁ news → Below A base (env :: outer) g → K.In g → Top p loose mean mg mb g →
      wpC (model prog w) (A.deeper (envOf qual scope L' f cdv)) (execs body (envOf qual scope L' f cdv))
        (fun fl s' => LeaveK h₀ L m g (fun r s' => match r with | .ok (.ret v) => Q v s' | .ok _ => False | .error _ => False) (match fl with | .ret v => v | _ => .none) s') { s with heap := h₁, toks := s.toks + binds.length })
    (hco : scope.isCoroutine = false) (hgen : scope.isGenerator = false) (hk : scope.kind = .function)
    (hcell : ∀ x ∈ scope.names, x.2 ≠ .cell) : codeC (model prog w) A (.call (.ref f) args) (fun fl s' => match fl with | .ret v => Q v s' | _ => False) s := by
  obtain ⟨FG, BG, st, lv⟩ := groundX (R := fun r s' => match r with | .ok (.ret v) => Q v s' | .ok _ => False | .error _ => False) B F N hA hf hke
  have X := X₀.keeps F.keep
  obtain ⟨c, oc', vs', tq, hc, hoc, hdc, hq⟩ := codeRec_of X hcd
  have hlim := T.nolimit.keeps F.keep
  refine codeC_of_tree rfl ?_
  show wpC _ A.in1 (callAny (.ref f) args) _ s
  simp only [callAny]
  refine wpC_bind (wpC_of_any (wpAny_load (X _ _ ho) ?_))
  simp only [callFunction, hco, hgen, hc]
  refine wpC_bind (m := field (.ref c) 1) (wpC_of_any (wpAny_field hoc hdc hq (wpC_bind (wpC_pure ?_))))
  rw [← hc]
  refine wpC_bind (wpC_of_any (hbind _ _ _ _ (wpC_bind (wpC_of_any (wpAny_newFunctionEnv hcell hloc (fun h₁ hns hsb => ?_) hk)))))
  refine wpC_bind (wpC_of_any (wpAny_enterFrame (hlim.fresh _ hsb) hroom (wpC_pure ⟨rfl, codeC_func ?_⟩)))
  have hk₁ : ∀ b o, s.heap.get? b = some o → h₁.get? b = some o := fun b o e => hsb.extBut b o (Nat.ne_of_lt (Heap.lt_size e)) (Heap.get?_push_of_some _ e)
  exact wpC_mono (h _ s.heap.objs.size h₁ FG ⟨hns, fun b o e => hk₁ b o (of_hideAll _ e), Nat.le_of_eq (hideAll_size _ _)⟩
    (fun p hp => ⟨hk₁ _ _ (N p hp).1, Nat.ne_of_lt (Heap.lt_size (N p hp).1), hideAll_none _ (List.mem_map_of_mem hp)⟩) BG (X₀.keeps st) (T.keeps st)) fun fl s' hl => lv _ _ hl
end
end Mine
namespace Mine
open PySem.Calls PySem.Spec
theorem slot_ba_init : Slot "bytearray" "__init__" "bytearray.__init__" :=
  .of (owner := "bytearray") (n := "__init__") (by rw [typeLookup_type, builtinLookup_eq_fast]; kernel_rfl) (by decide +kernel) (by decide +kernel) (by decide +kernel)
    (by first | exact .inl (by decide +kernel) | exact .inr (by decide +kernel)) (by rw [isSubtype_type]; kernel_rfl)
theorem slot_ba_append : Slot "bytearray" "append" "bytearray.append" :=
  .of (owner := "bytearray") (n := "append") (by rw [typeLookup_type, builtinLookup_eq_fast]; kernel_rfl) (by decide +kernel) (by decide +kernel) (by decide +kernel)
    (by first | exact .inl (by decide +kernel) | exact .inr (by decide +kernel)) (by rw [isSubtype_type]; kernel_rfl)
theorem ba_mro : mroOf (.type "bytearray") = pure [.type "bytearray", .type "object"] := by rw [mroOf_type]; kernel_rfl
theorem ba_lookup_new : typeLookup (.type "bytearray") "__new__" = pure (some (.builtin "bytearray.__new__")) := by rw [typeLookup_type, builtinLookup_eq_fast]; kernel_rfl
theorem ba_called : TypeCalled "bytearray" "bytearray.__new__" "bytearray.__init__" :=
  ⟨by decide +kernel, by decide +kernel, ⟨_, _, ba_mro⟩, madeBy_type ba_mro ba_lookup_new (by decide +kernel), by decide +kernel, by rw [isSubtype_type]; kernel_rfl, slot_ba_init⟩
theorem ba_typeCall : checkTypeCall "bytearray" ⟨[], []⟩ = pure () := by kernel_rfl
theorem ba_newCall : checkBuiltinCall "bytearray.__new__" ⟨[.type "bytearray"], []⟩ = pure () := by kernel_rfl
theorem ba_plain_new : plainId "bytearray.__new__" = true := by decide +kernel
theorem ba_entry_new : entryFor table "bytearray.__new__" = some Builtin.«list.__new__» := entryFor_alias (id' := "list.__new__") (by kernel_rfl) rfl (by decide +kernel) (by kernel_rfl)
theorem ba_entry_init : entryFor table "bytearray.__init__" = some Builtin.«bytearray.__init__» := by first | exact entryFor_of_fast (by kernel_rfl) | exact entryFor_of_tree (by kernel_rfl)
theorem ba_entry_append : entryFor table "bytearray.append" = some Builtin.«bytearray.append» := by first | exact entryFor_of_fast (by kernel_rfl) | exact entryFor_of_tree (by kernel_rfl)
theorem ba_args_init (a : Value) : argsOk "bytearray.__init__" ⟨[a], []⟩ := by unfold argsOk; kernel_rfl
theorem ba_args_append (a b : Value) : argsOk "bytearray.append" ⟨[a, b], []⟩ := by unfold argsOk; kernel_rfl
theorem ba_no_release : typeLookup (.type "bytearray") "__release_buffer__" = pure (some (.builtin "bytearray.__release_buffer__")) := by rw [typeLookup_type, builtinLookup_eq_fast]; kernel_rfl
theorem ba_sub : isSubtype (.type "bytearray") (.type "bytearray") = pure true := by rw [isSubtype_type]; kernel_rfl
set_option maxRecDepth 1000000 in
set_option maxHeartbeats 4000000 in
theorem ba_owner : ("bytearray.__new__".splitOn ".__new__").headD "" = "bytearray" := by simp +decide [String.splitOn, String.splitOnAux]
end Mine
namespace Mine
open PySem.Calls PySem.Spec
theorem plainC_builtin {id : String} (h : holders.contains id = false) (args : Args) : plainC (.builtin id args) = true := by
  show (!holders.contains id) = true
  rw [h]; rfl
section
variable {M : Model} {A : Around} {s : Shared}
theorem not_held {self : Value} : ∀ (c : Code) (p : Pos), plainC c = true → (match ((c, p) : Code × Pos) with
    | (.builtin "bytearray.__contains__" ⟨v :: _, _⟩, _) | (.builtin "bytearray.__mod__" ⟨v :: _, _⟩, _)
    | (.builtin "bytearray.__rmod__" ⟨_ :: v :: _, _⟩, _) | (.builtin "_struct.pack_into.held" ⟨v :: _, _⟩, _) => Builtin.Bytes.sameRef v self
    | (.builtin "bytearray.find.held" ⟨_ :: _ :: held, _⟩, _) => held.any (Builtin.Bytes.sameRef self)
    | (.builtin id ⟨v :: _, _⟩, _) => Builtin.Bytes.sameRef v self && Builtin.Bytes.decodersThatHold.contains id
    | _ => false) = false := by
  intro c p hc
  split
  · rename_i heq
    cases heq
    exact absurd hc (by show ¬ ((!holders.contains "bytearray.__contains__") = true); decide +kernel)
  · rename_i heq
    cases heq
    exact absurd hc (by show ¬ ((!holders.contains "bytearray.__mod__") = true); decide +kernel)
  · rename_i heq
    cases heq
    exact absurd hc (by show ¬ ((!holders.contains "bytearray.__rmod__") = true); decide +kernel)
  · rename_i heq
    cases heq
    exact absurd hc (by show ¬ ((!holders.contains "_struct.pack_into.held") = true); decide +kernel)
  · rename_i heq
    cases heq
    exact absurd hc (by show ¬ ((!holders.contains "bytearray.find.held") = true); decide +kernel)
  · rename_i id v tl kw p' _ _ _ _ _ heq
    cases heq
    have h1 : holders.contains id = false := by
      have h2 : (!holders.contains id) = true := hc
      simpa using h2
    have h3 : Builtin.Bytes.decodersThatHold.contains id = false := by
      cases hd : Builtin.Bytes.decodersThatHold.contains id with
      | false => rfl
      | true =>
        have : holders.contains id = true := by
          unfold holders
          rw [List.contains_iff_mem] at hd ⊢
          exact List.mem_append_right _ hd
        rw [this] at h1; cases h1
    rw [h3, Bool.and_false]
  · rfl
theorem wpC_exported {self : Value} {Q : Bool → Shared → Prop} (h : Q false s) : wpC M A (Builtin.Bytes.exported self) Q s := fun Γ p h1 h2 h3 => by
  show Q (((Γ.code, p) :: Γ.below).any _) s
  rw [show ∀ f : Code × Pos → Bool, (∀ c p, plainC c = true → f (c, p) = false) → ((Γ.code, p) :: Γ.below).any f = false from fun f hf => by
    rw [List.any_eq_false]
    intro x hx
    rcases List.mem_cons.mp hx with rfl | hx
    · rw [hf _ _ h2]; exact Bool.false_ne_true
    · obtain ⟨c, q⟩ := x
      rw [hf _ _ (h3 (c, q) hx)]; exact Bool.false_ne_true]
  · exact h
  · exact fun c p hc => not_held c p hc
end
abbrev baObj (b : Array UInt8) : Obj := { cls := .type "bytearray", data := .bytearray b }
section
variable {prog : Program} {w : World} {A : Around} {s : Shared}
theorem codeC_builtin {id : String} {args : Args} {b : Builtin} {R : Flow → Shared → Prop} (hc : holders.contains id = false) (hb : entryFor table id = some b)
    (h : wpC (model prog w) (A.under (.builtin id args)) (b args) (fun fin s' => match fin with | .done f => R f s' | .again c' => c'.quiet = true ∧ codeC (model prog w) A c' R s') s) :
    codeC (model prog w) A (.builtin id args) R s := by
  refine codeC_of_tree (plainC_builtin hc args) ?_
  show wpC _ _ (match entryFor table id with | some b => b args | none => unsupported ((withoutEnding? id "#data").getD id)) _ s
  rw [hb]; exact h
theorem codeC_call_builtin {id : String} {args : Args} {b : Builtin} {R : Flow → Shared → Prop} (hq : plainId id = true) (hc : holders.contains id = false) (hb : entryFor table id = some b)
    (h : wpAny (model prog w) A.in1 (checkBuiltinCall id args) (fun _ s₁ => wpC (model prog w) A.in1 (b args) (fun fin s' => match fin with | .done f => R f s' | .again c' => c'.quiet = true ∧ codeC (model prog w) A c' R s') s₁) (fun _ _ => False) s) :
    codeC (model prog w) A (.call (.builtin id) args) R s := by
  refine codeC_of_tree rfl ?_
  show wpC _ A.in1 (do checkBuiltinCall id args; again (.builtin id args)) _ s
  refine wpC_bind (wpC_of_any (wpAny_mono h (fun _ s₁ h₁ => wpC_pure ⟨plainId_quiet hq args, codeC_builtin hc hb ?_⟩) fun _ _ x => x))
  rw [Around.under_plainId hq args]
  exact h₁
theorem ba_typeIs {a : Addr} {b : Array UInt8} (h : s.heap.get? a = some (baObj b)) : s.TypeIs (.ref a) "bytearray" := ⟨_, h, rfl⟩
theorem wpC_checkResize {a : Addr} {b : Array UInt8} {Q : Unit → Shared → Prop} (ho : s.heap.get? a = some (baObj b)) (h : Q () s) : wpC (model prog w) A (Builtin.Bytes.checkResize (.ref a)) Q s := by
  unfold Builtin.Bytes.checkResize
  refine wpC_bind (wpC_bind (wpC_exported ?_))
  show wpC _ _ (do let x ← Builtin.Bytes.exportsOf (.ref a); pure (decide (x > 0))) _ s
  refine wpC_bind ?_
  unfold Builtin.Bytes.exportsOf
  exact wpC_bind (wpC_of_any (wpAny_load ho (wpC_pure (wpC_pure (wpC_pure h)))))
theorem wpAny_write {a : Addr} {b : Array UInt8} {f : Array UInt8 → Array UInt8} {E : Value → Shared → Prop} {Q : Unit → Shared → Prop} (ho : s.heap.get? a = some (baObj b)) (hz : (f b).size ≤ sizeLine)
    (h : ∀ h', Heap.SameBut a s.heap h' → h'.get? a = some (baObj (f b)) → Q () { s with heap := h' }) : wpAny (model prog w) A (Builtin.Bytes.write (.ref a) f) Q E s := by
  show wpAny _ _ (updateBytearray a f) _ _ _
  unfold updateBytearray
  refine wpAny_bind (wpAny_load ho ?_)
  show wpAny _ _ (update a (Obj.mapBytearray f) >>= fun _ => lookBehind a) _ _ _
  have ho₂ : (s.heap.update a (Obj.mapBytearray f)).get? a = some (baObj (f b)) := Heap.get?_update_self (Obj.mapBytearray f) ho rfl
  refine wpAny_bind (wpAny_update ho (wpAny_lookBehind ho₂ ?_ (h _ (Heap.SameBut.update ..) ho₂)))
  show (if (f b).size > sizeLine then some "bytearray:memory" else none) = none
  rw [if_neg (Nat.not_lt.mpr hz)]
/-- result.append(c), c from 0 to 255 -/
theorem append_at_C {a : Addr} {b : Array UInt8} {c : Int} {t : Tok} {Q : Value → Shared → Prop} (ho : s.heap.get? a = some (baObj b)) (h0 : 0 ≤ c) (h1 : c < 256) (hz : b.size < sizeLine)
    (h : ∀ h', Heap.SameBut a s.heap h' → h'.get? a = some (baObj (b.push c.toNat.toUInt8)) → Q .none { s with heap := h' }) :
    wpC (model prog w) A (call (.builtin "bytearray.append") [.ref a, .int c t]) Q s := by
  refine wpC_call (codeC_call_builtin slot_ba_append.plain (by decide +kernel) ba_entry_append (slot_ba_append.check _ _ _ _ _ _ _ _ (ba_typeIs ho) (ba_args_append _ _) ?_))
  unfold Builtin.«bytearray.append»
  refine wpC_bind (wpC_of_any (wpAny_of_eq (a := (.ref a, .int c t)) rfl ?_))
  dsimp only
  refine wpC_bind ?_
  unfold Builtin.Bytes.byteValue
  refine wpC_bind (wpC_of_any (wpAny_of_eq (rfl : asIndex (.int c t) = pure c) ?_))
  have hr : (decide (c < 0) || decide (c ≥ 256)) = false := by simp only [Bool.or_eq_false_iff, decide_eq_false_iff_not]; omega
  simp only [hr, Bool.false_eq_true, if_false]
  refine wpC_bind (wpC_of_any (wpAny_pure (wpC_pure ?_)))
  refine wpC_bind (wpC_checkResize ho ?_)
  refine wpC_bind (wpC_of_any (wpAny_write ho (by rw [Array.size_push]; exact hz) fun h' hs ho' => ?_))
  exact wpC_pure (h h' hs ho')
theorem ba_bind : Builtin.Bytes.bindOptional "bytearray.__init__" "bytearray" ["source", "encoding", "errors"] [] [] = pure [none, none, none] := by kernel_rfl
theorem ba_release {a : Addr} {Q : Bool → Shared → Prop} {E : Value → Shared → Prop} (hT : s.TypeIs (.ref a) "bytearray") (h : Q false s) : wpAny (model prog w) A (Builtin.Bytes.ownRelease (.ref a)) Q E s := by
  unfold Builtin.Bytes.ownRelease Builtin.Bytes.slotIsOwn
  refine wpAny_bind (wpAny_bind (wpAny_specialOf hT ba_no_release ?_))
  dsimp only
  have key : ∀ x : String, x = "bytearray" → wpAny (model prog w) A (isInstance (.ref a) (.type x)) (fun b s' => wpAny (model prog w) A (pure (!b)) Q E s') E s := fun x hx => by
    subst hx
    exact wpAny_isInstance hT ba_sub (wpAny_pure h)
  split
  · rename_i hx
    exact absurd hx (by decide +kernel)
  · exact key _ (by decide +kernel)
/-- bytearray() -/
theorem new_ba_C {Q : Value → Shared → Prop} (h : ∀ h', (∀ b o, s.heap.get? b = some o → h'.get? b = some o) → h'.objs.size = s.heap.objs.size + 1 → h'.get? s.heap.objs.size = some (baObj #[]) → Q (.ref s.heap.objs.size) { s with heap := h' }) :
    wpC (model prog w) A (call (.type "bytearray") []) Q s := by
  refine wpC_call (codeC_of_tree rfl ?_)
  show wpC _ _ (callAny (.type "bytearray") _) _ _
  refine wpC_pure ⟨Code.quiet_builtin _ (by decide +kernel), codeC_builtin (by decide +kernel) F.entry_type_call ?_⟩
  rw [Around.under_plain (weight_type_call_type "bytearray" [] []) rfl]
  have h2 := ba_called.canCreate
  have new : codeAny (model prog w) A.in1 (.call (.builtin "bytearray.__new__") ⟨[.type "bytearray"], []⟩) (wants (fun v s₁ => v = .ref s.heap.objs.size ∧ s₁ = { s with heap := s.heap.push (baObj #[]) }) (fun _ _ => False)) s := by
    refine codeAny_of_tree ?_
    show wpAny _ A.in1.in1 (do checkBuiltinCall "bytearray.__new__" ⟨[.type "bytearray"], []⟩; again (.builtin "bytearray.__new__" ⟨[.type "bytearray"], []⟩)) _ _ s
    refine wpAny_bind (wpAny_of_eq ba_newCall (wpAny_pure ⟨plainId_quiet ba_plain_new _, codeAny_builtin_stack ba_entry_new rfl fun p st => ?_⟩))
    rw [Around.under_plainId ba_plain_new _]
    have hsub := ba_sub
    have hown := ba_owner
    obtain ⟨hp, g, d, tk, os⟩ := s
    simp only [hown]
    wp_walk
    exact ⟨rfl, rfl⟩
  have hst : ({ s with heap := s.heap.push (baObj #[]) } : Shared).heap.get? s.heap.objs.size = some (baObj #[]) := Heap.get?_push_size _ rfl
  have init : wpC (model prog w) A.in1 (call (.builtin "bytearray.__init__") [.ref s.heap.objs.size]) (fun v s' => v = .none ∧ Q (.ref s.heap.objs.size) s') { s with heap := s.heap.push (baObj #[]) } := by
    refine wpC_call (codeC_call_builtin slot_ba_init.plain (by decide +kernel) ba_entry_init (slot_ba_init.check _ _ _ _ _ _ _ _ (ba_typeIs hst) (ba_args_init _) ?_))
    unfold Builtin.«bytearray.__init__»
    refine wpC_bind (wpC_of_any (ba_release (ba_typeIs hst) ?_))
    simp only [Bool.false_eq_true, if_false]
    refine wpC_bind (wpC_of_any (wpAny_of_eq ba_bind ?_))
    refine wpC_bind (wpC_of_any (wpAny_of_eq (a := ()) rfl ?_))
    refine wpC_bind (wpC_of_any (wpAny_of_eq (a := ()) rfl ?_))
    refine wpC_bind (wpC_bind (wpC_exported ?_))
    show wpC _ _ (do let x ← Builtin.Bytes.exportsOf (.ref s.heap.objs.size); pure (decide (x > 0))) _ _
    refine wpC_bind ?_
    unfold Builtin.Bytes.exportsOf
    refine wpC_bind (wpC_of_any (wpAny_load hst (wpC_pure (wpC_pure ?_))))
    simp only [Nat.lt_irrefl, gt_iff_lt, decide_false, Bool.false_eq_true, if_false]
    refine wpC_bind (wpC_of_any (wpAny_write hst (Nat.zero_le _) fun h' hs ho' => ?_))
    refine wpC_bind (wpC_of_any (wpAny_of_eq (a := ()) rfl (wpC_pure ⟨rfl, h h' (fun b o e => ?_) ?_ ho'⟩)))
    · exact (hs.2 b (Nat.ne_of_lt (Heap.lt_size e))).trans (Heap.get?_push_of_some _ e)
    · rw [hs.1, Heap.size_push]
  unfold Builtin.«type.__call__»
  dsimp only
  rw [if_neg (show ¬ ((Value.type "bytearray" == Value.type "type") = true) by decide)]
  simp only [h2, Bool.false_eq_true, if_false]
  refine wpC_bind (wpC_of_any (wpAny_of_eq ba_typeCall ?_))
  refine wpC_bind (wpC_of_any (wpAny_of_eq ba_mro ?_))
  simp only [List.isEmpty_cons, Bool.false_eq_true, if_false]
  refine wpC_bind (wpC_of_any (wpAny_of_eq ba_called.made ?_))
  dsimp only
  refine wpC_bind (wpC_pure ?_)
  refine wpC_bind (wpC_holding (wpC_of_any (wpAny_call (codeAny_mono new fun r s₁ hr => ?_))))
  match r, hr with
  | .ok (.ret v), hr =>
    obtain ⟨rfl, rfl⟩ := hr
    refine wpC_bind (wpC_of_any (wpAny_isInstance (ba_typeIs hst) ba_sub ?_))
    simp only [Bool.not_true, Bool.false_eq_true, if_false]
    refine wpC_bind (wpC_holding ?_)
    simp only [callSpecial?]
    refine wpC_bind (wpC_of_any (wpAny_specialOf (ba_typeIs hst) slot_ba_init.lookup ?_))
    simp only [slot_ba_init.bind]
    refine wpC_holding (wpC_bind (wpC_pure (wpC_bind (wpC_mono init fun v s' hv => ?_))))
    obtain ⟨rfl, hq⟩ := hv
    exact wpC_pure (wpC_pure hq)
  | .ok .next, hr => exact hr.elim
  | .ok .brk, hr => exact hr.elim
  | .ok .cont, hr => exact hr.elim
  | .error e, hr => exact hr.elim
end
end Mine
namespace Mine
open PySem.Calls PySem.Spec
theorem ba_no_bytes : typeLookup (.type "bytearray") "__bytes__" = pure none := by rw [typeLookup_type, builtinLookup_eq_fast]; kernel_rfl
theorem ba_no_index : typeLookup (.type "bytearray") "__index__" = pure none := by rw [typeLookup_type, builtinLookup_eq_fast]; kernel_rfl
theorem ba_buffer : typeLookup (.type "bytearray") "__buffer__" = pure (some (.builtin "bytearray.__buffer__")) := by rw [typeLookup_type, builtinLookup_eq_fast]; kernel_rfl
theorem ba_plainAttrs : PlainAttrs "bytearray" := ⟨⟨"bytearray.__getattribute__", by rw [typeLookup_type, builtinLookup_eq_fast]; kernel_rfl, by decide +kernel⟩, by rw [typeLookup_type, builtinLookup_eq_fast]; kernel_rfl⟩
theorem ba_append_type : typeOf (.builtin "bytearray.append") = pure (.type "method_descriptor") := by kernel_rfl
section
variable {prog : Program} {w : World} {A : Around} {E : Value → Shared → Prop} {s : Shared}
theorem ba_ownBuffer {a : Addr} {Q : Bool → Shared → Prop} (hT : s.TypeIs (.ref a) "bytearray") (h : Q true s) : wpAny (model prog w) A (Builtin.Bytes.slotIsOwn (.ref a) "__buffer__") Q E s := by
  unfold Builtin.Bytes.slotIsOwn
  refine wpAny_bind (wpAny_specialOf hT ba_buffer ?_)
  dsimp only
  have key : ∀ x : String, x = "bytearray" → wpAny (model prog w) A (isInstance (.ref a) (.type x)) Q E s := fun x hx => by
    subst hx
    exact wpAny_isInstance hT ba_sub h
  split
  · rename_i hx
    exact absurd hx (by decide +kernel)
  · exact key _ (by decide +kernel)
theorem ba_bufferOf {id : String} {full : Bool} {a : Addr} {b : Array UInt8} {Q : Option (Array UInt8) → Shared → Prop} (ho : s.heap.get? a = some (baObj b)) (h : Q (some b) s) : wpAny (model prog w) A (Builtin.Bytes.buffer? id (.ref a) full) Q E s := by
  have hT := ba_typeIs ho
  unfold Builtin.Bytes.buffer?
  refine wpAny_bind (wpAny_specialOf hT ba_buffer ?_)
  dsimp only
  refine wpAny_bind (ba_ownBuffer hT ?_)
  simp only [Bool.not_true, Bool.false_eq_true, if_false]
  refine wpAny_bind (wpAny_specialOf hT ba_buffer ?_)
  refine wpAny_bind (ba_release hT ?_)
  simp only [Bool.false_eq_true, if_false]
  refine wpAny_bind ?_
  unfold Builtin.Bytes.payload Builtin.Bytes.payload?
  exact wpAny_bind (wpAny_bind (wpAny_load ho (wpAny_pure (wpAny_pure (wpAny_pure h)))))
theorem bytes_of_ba {a : Addr} {b : Array UInt8} {Q : Value → Shared → Prop} (ho : s.heap.get? a = some (baObj b)) (hz : b.size ≤ sizeLine)
    (h : ∀ t k, Q (.bytes b t) { s with toks := k }) : wpAny (model prog w) A (call (.type "bytes") [.ref a]) Q E s := by
  have hT := ba_typeIs ho
  refine callType_codes (Q₁ := fun obj s₁ => s₁.TypeIs obj "bytes" ∧ Q obj s₁) F.bm_called (F.bm_typeCall _) F.entry_object_init ?_ fun obj s₁ h₁ =>
    ⟨h₁.1, F.args_object_init_2 obj _, object_init_meets F.bm_called.init.lookup F.bm_called.made (by decide) prog w A.in1 _ s₁ ⟨h₁.1, rfl, h₁.2⟩⟩
  refine codeAny_of_tree ?_
  show wpAny _ A.in1.in1 (do checkBuiltinCall "bytes.__new__" ⟨[.type "bytes", .ref a], []⟩; again (.builtin "bytes.__new__" ⟨[.type "bytes", .ref a], []⟩)) _ _ s
  refine wpAny_bind (wpAny_of_eq (F.bm_newCall _) (wpAny_pure ⟨plainId_quiet F.bm_plain _, codeAny_builtin F.bm_entry ?_⟩))
  rw [Around.under_plainId F.bm_plain _]
  unfold Builtin.«bytes.__new__»
  refine wpAny_bind (wpAny_of_eq (a := true) rfl ?_)
  refine bm_if_false rfl ?_
  refine wpAny_bind (wpAny_of_eq F.bm_sub ?_)
  refine bm_if_false rfl ?_
  refine wpAny_bind (wpAny_of_eq (F.bm_bind _) ?_)
  refine wpAny_bind (wpAny_of_eq (a := ()) rfl ?_)
  refine wpAny_bind (wpAny_of_eq (a := ()) rfl ?_)
  refine bm_if_false rfl ?_
  refine wpAny_bind (wpAny_specialOf hT ba_no_bytes ?_)
  refine wpAny_bind (wpAny_bind ?_)
  show wpAny _ _ (load a >>= _) _ _ _
  refine wpAny_bind (wpAny_load ho ?_)
  refine wpAny_pure (wpAny_pure ?_)
  refine bm_if_false rfl ?_
  refine wpAny_bind (wpAny_specialOf hT ba_no_index ?_)
  refine bm_if_true rfl ?_
  first
    | show wpAny _ _ (Builtin.Bytes.buffer? "bytes.__new__" (.ref a) true >>= _) _ _ _
    | (refine wpAny_bind ?_; show wpAny _ _ (Builtin.Bytes.buffer? "bytes.__new__" (.ref a) true >>= _) _ _ _)
  refine wpAny_bind (ba_bufferOf ho ?_)
  refine wpAny_bind (wpAny_rule ?_)
  refine wpAny_bind (wpAny_mkBytes ?_ hz)
  show wpAny _ _ (if (Value.type "bytes" == Value.type "bytes") = true then _ else _) _ _ _
  refine bm_if_true (by decide) ?_
  first
    | exact wpAny_pure ⟨PySem.W.typeIs_bytes _ _ _, h _ _⟩
    | exact wpAny_bind (wpAny_pure (wpAny_pure ⟨PySem.W.typeIs_bytes _ _ _, h _ _⟩))
    | exact wpAny_pure (wpAny_pure ⟨PySem.W.typeIs_bytes _ _ _, h _ _⟩)
variable {h₀ : Heap} {L D : Addr} {m : Str → Option Value} {news news' : List (Addr × Obj)} {b : Array UInt8} {t : Tok}
theorem bytes_of_ba_K {Q : Value → Shared → Prop} (N : News h₀ L s.heap news) (hm : (D, baObj b) ∈ news) (hz : b.size ≤ sizeLine)
    (h : ∀ t k, Q (.bytes b t) { s with toks := k }) : wpAny (model prog w) A (call (.type "bytes") [.ref D]) Q E s := bytes_of_ba (N.get hm) hz h
theorem getMethod_ba_append {pl : Sem Bool} {Q : Value × List Value → Shared → Prop} (N : News h₀ L s.heap news) (hm : (D, baObj b) ∈ news) (h : Q (.builtin "bytearray.append", [.ref D]) s) :
    wpAny (model prog w) A (getMethod (.ref D) "append" pl) Q E s :=
  getMethod_builtin (ba_typeIs (N.get hm)) ba_plainAttrs slot_ba_append ba_append_type (fun a e => by cases e; exact ⟨_, N.get hm, rfl⟩) h
theorem append_ba_K {c : Int} {Q : Value → Shared → Prop} (F : Fr h₀ L s.heap m) (N : News h₀ L s.heap news) (U : Upd D (baObj b) (baObj (b.push c.toNat.toUInt8)) news news') (h0 : 0 ≤ c) (h1 : c < 256) (hz : b.size < sizeLine)
    (h : ∀ h', Fr h₀ L h' m → News h₀ L h' news' → Q .none { s with heap := h' }) : wpC (model prog w) A (call (.builtin "bytearray.append") [.ref D, .int c t]) Q s := by
  obtain ⟨pre, post, rfl, rfl, a, b'⟩ := U.split
  have z := N (D, baObj b) (List.mem_append.mpr (.inr (.head _)))
  exact append_at_C z.1 h0 h1 hz fun h' hs ho' => h h' (F.change hs z.2.1 z.2.2) (news_set N a b' hs ho')
theorem new_ba_K {Q : Value → Shared → Prop} (F : Fr h₀ L s.heap m) (N : News h₀ L s.heap news)
    (h : ∀ D h', Fr h₀ L h' m → News h₀ L h' ((D, baObj #[]) :: news) → (∀ p ∈ news, p.1 < D) → Q (.ref D) { s with heap := h' }) : wpC (model prog w) A (call (.type "bytearray") []) Q s := by
  refine new_ba_C fun h' hk _ ho => h _ h' (F.keptAll hk) (fun p hp => ?_) fun p hp => Heap.lt_size (N p hp).1
  rcases List.mem_cons.mp hp with rfl | hp
  · refine ⟨ho, Nat.ne_of_gt F.ns.lt, ?_⟩
    cases hq : h₀.get? s.heap.objs.size with
    | none => rfl
    | some o' => exact absurd (Heap.lt_size (F.keep _ _ hq)) (Nat.lt_irrefl _)
  · exact ⟨hk _ _ (N p hp).1, (N p hp).2⟩
end
section
variable {M : Model} {A : Around} {s : Shared} {env : Env}
/-- a statement that is a method's call on a built-in object, one argument, giving None -/
theorem wpC_Expr_method {o e : Expr} {name : Str} {apos pos spos : Pos} {pl : Sem Bool} {id : String} {Q : Flow → Shared → Prop}
    (h : wpAny M A (eval o env) (fun ov s₁ => wpAny M A (getMethod ov name pl) (fun fx s₂ => fx.1 = .builtin id ∧ wpAny M A (eval e env) (fun v s₃ => wpC M A (call (.builtin id) (fx.2 ++ [v])) (fun r s₄ => r = .none ∧ Q .next s₄) s₃) (fun _ _ => False) s₂) (fun _ _ => False) s₁) (fun _ _ => False) s)
    (hi : interactive env = false := by rfl) (hs : swapsWith (.Call (.Attribute o name apos) [e] [] pos) none spos.line env = pure false := by rfl)
    (he : eval (.Call (.Attribute o name apos) [e] [] pos) env = (do
      let ov ← eval o env
      standAt apos.atName
      let (f, first) ← holding [ov] (getMethod ov name pl)
      callWith pos f first (backTo pos (starEach [e] env)) []) := by rfl)
    (hst : starEach [e] env = [(false, eval e env)] := by rfl) : wpC M A (exec (.Expr (.Call (.Attribute o name apos) [e] [] pos) spos) env) Q s := by
  rw [exec_Expr env _ spos hi hs, he, hst]
  refine wpC_bind (wpC_standAt (wpC_bind (wpC_bind (wpC_of_any (wpAny_mono h (fun ov s₁ h₁ => wpC_bind (wpC_standAt (wpC_bind (wpC_holding (wpC_of_any (wpAny_mono h₁ (fun fx s₂ h₂ => ?_) fun _ _ x => x)))))) fun _ _ x => x)))))
  obtain ⟨f, first⟩ := fx
  obtain ⟨rfl, h₂⟩ := h₂
  show wpC M A (callWith pos (.builtin id) first [(false, eval e env)] []) _ _
  unfold callWith
  refine wpC_bind (wpC_holding (wpC_evalArgs (wpC_spliced_cons (wpC_of_any (wpAny_mono h₂ (fun v s₃ h₃ => wpC_spliced_nil (wpC_bind (wpC_standAt ?_))) fun _ _ x => x)))))
  refine wpC_bind (wpC_of_any (wpAny_of_eq (a := Keeper.machine) rfl ?_))
  show wpC M A (call (.builtin id) (first ++ [v]) [] >>= fun r => holding [r] point >>= fun _ => pure r) _ _
  refine wpC_bind (wpC_mono h₃ fun r s₄ hr => ?_)
  obtain ⟨rfl, hq⟩ := hr
  refine wpC_bind (wpC_holding (wpC_of_any (wpAny_point (wpC_pure ?_))))
  rw [dropValue_plain (fun a ha => by cases ha)]
  exact wpC_pure hq
/-- x = C() of a built-in class without arguments -/
theorem wpC_Assign_class0 {x y : Str} {px py pos spos : Pos} {n : String} {Q : Flow → Shared → Prop}
    (h : wpAny M A (eval (.Name y py) env) (fun f s₁ => f = .type n ∧ wpC M A (call (.type n) []) (fun v s₂ => wpAny M A (storeName env x v) (fun _ => Q .next) (fun _ _ => False) s₂) s₁) (fun _ _ => False) s)
    (hs : swapsWith (.Call (.Name y py) [] [] pos) (some (.Name x px)) spos.line env = pure false := by rfl) : wpC M A (exec (.Assign [.Name x px] (.Call (.Name y py) [] [] pos) spos) env) Q s := by
  refine wpC_Assign_Name ?_ hs
  show wpC M A (eval (.Name y py) env >>= fun f => callWith pos f [] [] []) _ s
  refine wpC_bind (wpC_of_any (wpAny_mono h (fun f s₁ h₁ => ?_) fun _ _ x => x))
  obtain ⟨rfl, h₁⟩ := h₁
  unfold callWith
  refine wpC_bind (wpC_holding (wpC_of_any (evalArgs_nil3 ?_)))
  refine wpC_bind (wpC_standAt (wpC_bind (wpC_of_any (wpAny_of_eq (a := Keeper.machine) rfl ?_))))
  show wpC M A (call (.type n) [] [] >>= fun r => holding [r] point >>= fun _ => pure r) _ _
  exact wpC_bind (wpC_mono h₁ fun r s₄ hr => wpC_bind (wpC_holding (wpC_of_any (wpAny_point (wpC_pure hr)))))
end
end Mine
namespace Mine
/-- the threshold at place j under bias b -/
def thr (j b : Int) : Int := if 36 * (j + 1) - b < 1 then 1 else if 26 < 36 * (j + 1) - b then 26 else 36 * (j + 1) - b
theorem thr_lo (j b : Int) : 1 ≤ thr j b := by unfold thr; split <;> (try split) <;> omega
theorem thr_hi (j b : Int) : thr j b ≤ 26 := by unfold thr; split <;> (try split) <;> omega
theorem div_lt {N t : Int} (h1 : 1 ≤ t) (h2 : t ≤ 26) (h : ¬ N < t) : 0 ≤ (N - t) / (36 - t) ∧ (N - t) / (36 - t) + 1 ≤ N := by
  have hB : 0 < 36 - t := by omega
  have h3 : 0 ≤ (N - t) / (36 - t) := Int.ediv_nonneg (by omega) (by omega)
  refine ⟨h3, ?_⟩
  have h4 : (N - t) / (36 - t) ≤ N - t := Int.ediv_le_self _ (by omega)
  omega
/-- the figures of N from place j on, under bias b -/
def gen (b : Int) (j : Int) (N : Int) : List Int :=
  if N < thr j b then [N] else (thr j b + (N - thr j b) % (36 - thr j b)) :: gen b (j + 1) ((N - thr j b) / (36 - thr j b))
termination_by N.toNat
decreasing_by
  rename_i h
  have := div_lt (thr_lo j b) (thr_hi j b) h
  have := thr_lo j b
  omega
theorem gen_last {b j N : Int} (h : N < thr j b) : gen b j N = [N] := by rw [gen, if_pos h]
theorem gen_more {b j N : Int} (h : ¬ N < thr j b) : gen b j N = (thr j b + (N - thr j b) % (36 - thr j b)) :: gen b (j + 1) ((N - thr j b) / (36 - thr j b)) := by rw [gen, if_neg h]
/-- the value of figures from place j on -/
def val (b : Int) : Int → List Int → Int
  | _, [] => 0
  | j, d :: ds => d + (36 - thr j b) * val b (j + 1) ds
/-- a numeral: every figure but the last at its threshold or above, the last below -/
def Num (b : Int) : Int → List Int → Prop
  | _, [] => False
  | j, [d] => 0 ≤ d ∧ d < thr j b
  | j, d :: e :: ds => (thr j b ≤ d ∧ d ≤ 35) ∧ Num b (j + 1) (e :: ds)
theorem Num.cons {b j d : Int} : ∀ {ds : List Int}, thr j b ≤ d → d ≤ 35 → Num b (j + 1) ds → Num b j (d :: ds)
  | [], _, _, h => h.elim
  | _ :: _, h1, h2, h => ⟨⟨h1, h2⟩, h⟩
theorem gen_good (b : Int) : ∀ (n : Nat) (j N : Int), 0 ≤ N → N.toNat ≤ n → Num b j (gen b j N) ∧ val b j (gen b j N) = N ∧ ((gen b j N).length : Int) ≤ N + 1 := by
  intro n
  induction n with
  | zero =>
    intro j N h0 hn
    have h1 := thr_lo j b
    have h : N < thr j b := by omega
    rw [gen_last h]
    refine ⟨⟨h0, h⟩, by simp [val], ?_⟩
    simp only [List.length_cons, List.length_nil]; omega
  | succ n ih =>
    intro j N h0 hn
    have h1 := thr_lo j b
    have h2 := thr_hi j b
    by_cases h : N < thr j b
    · rw [gen_last h]
      refine ⟨⟨h0, h⟩, by simp [val], ?_⟩
      simp only [List.length_cons, List.length_nil]; omega
    · rw [gen_more h]
      obtain ⟨d1, d2⟩ := div_lt h1 h2 h
      obtain ⟨i1, i2, i3⟩ := ih (j + 1) _ d1 (by omega)
      have hB : (0 : Int) < 36 - thr j b := by omega
      have m1 := Int.emod_nonneg (N - thr j b) (show (36 - thr j b) ≠ 0 by omega)
      have m2 := Int.emod_lt_of_pos (N - thr j b) hB
      have m3 := Int.mul_ediv_add_emod (N - thr j b) (36 - thr j b)
      refine ⟨Num.cons (by omega) (by omega) i1, ?_, ?_⟩
      · rw [val, i2]; omega
      · simp only [List.length_cons]; omega
theorem gen_num {b j N : Int} (h : 0 ≤ N) : Num b j (gen b j N) := (gen_good b N.toNat j N h (Nat.le_refl _)).1
theorem gen_val {b j N : Int} (h : 0 ≤ N) : val b j (gen b j N) = N := (gen_good b N.toNat j N h (Nat.le_refl _)).2.1
theorem gen_len {b j N : Int} (h : 0 ≤ N) : ((gen b j N).length : Int) ≤ N + 1 := (gen_good b N.toNat j N h (Nat.le_refl _)).2.2
theorem Num.figs {b : Int} : ∀ {j : Int} {ds : List Int}, Num b j ds → ∀ d ∈ ds, 0 ≤ d ∧ d ≤ 35
  | _, [], h => h.elim
  | j, [d], h => by
    intro x hx
    have := thr_hi j b
    rw [List.mem_singleton.mp hx]
    exact ⟨h.1, by have := h.2; omega⟩
  | j, d :: e :: ds, h => by
    intro x hx
    have := thr_lo j b
    rcases List.mem_cons.mp hx with rfl | hx
    · exact ⟨by have := h.1.1; omega, h.1.2⟩
    · exact Num.figs h.2 x hx
theorem val_nonneg {b : Int} : ∀ {j : Int} {ds : List Int}, (∀ d ∈ ds, 0 ≤ d ∧ d ≤ 35) → 0 ≤ val b j ds
  | _, [], _ => Int.le_refl _
  | j, d :: ds, h => by
    have h1 := thr_hi j b
    have h2 := val_nonneg (b := b) (j := j + 1) fun x hx => h x (List.mem_cons_of_mem _ hx)
    have h3 := h d (List.mem_cons_self ..)
    have h4 : 0 ≤ (36 - thr j b) * val b (j + 1) ds := Int.mul_nonneg (by omega) h2
    rw [val]; omega
theorem Num.ne {b j : Int} {ds : List Int} (h : Num b j ds) : ds ≠ [] := by rintro rfl; exact h
/-- a tail of a numeral is one, or is empty -/
theorem Num.drop {b : Int} : ∀ (i : Nat) {j : Int} {ds : List Int}, Num b j ds → i < ds.length → Num b (j + (i : Int)) (ds.drop i)
  | 0, j, ds, h, _ => by simpa using h
  | i + 1, j, [], h, _ => h.elim
  | i + 1, j, [d], h, hl => by simp at hl
  | i + 1, j, d :: e :: ds, h, hl => by
    have := Num.drop i h.2 (by simpa using hl)
    rw [show j + ((i + 1 : Nat) : Int) = j + 1 + (i : Int) by omega]
    simpa using this
/-- the figure at a place: below the threshold just at the last one -/
theorem Num.at {b : Int} {j : Int} {ds : List Int} (h : Num b j ds) {i : Nat} (hi : i < ds.length) : 0 ≤ ds.getD i 0 ∧ ds.getD i 0 ≤ 35 ∧ (ds.getD i 0 < thr (j + i) b → i + 1 = ds.length) ∧ (¬ ds.getD i 0 < thr (j + i) b → i + 1 < ds.length) := by
  have hd := h.drop i hi
  have hg : ds.getD i 0 = (ds.drop i).headD 0 := by
    rw [List.getD_eq_getElem?_getD, List.getElem?_eq_getElem hi]
    rw [List.drop_eq_getElem_cons hi]; rfl
  have hl : (ds.drop i).length = ds.length - i := List.length_drop ..
  have hf := hd.figs
  rw [hg]
  generalize hx : ds.drop i = x at hd hl hf ⊢
  match x, hd with
  | [d], hd =>
    have := hf d (List.mem_cons_self ..)
    simp only [List.headD_cons, List.length_cons, List.length_nil] at hl ⊢
    refine ⟨this.1, this.2, fun _ => by omega, fun hn => absurd hd.2 hn⟩
  | d :: e :: r, hd =>
    have := hf d (List.mem_cons_self ..)
    simp only [List.headD_cons, List.length_cons] at hl ⊢
    refine ⟨this.1, this.2, fun hn => ?_, fun _ => by omega⟩
    have := hd.1.1; omega
theorem val_step {b : Int} {j : Int} {ds : List Int} {i : Nat} (hi : i < ds.length) : val b (j + (i : Int)) (ds.drop i) = ds.getD i 0 + (36 - thr (j + i) b) * val b (j + ((i + 1 : Nat) : Int)) (ds.drop (i + 1)) := by
  rw [List.drop_eq_getElem_cons hi, val, List.getD_eq_getElem?_getD, List.getElem?_eq_getElem hi]
  simp only [Option.getD_some]
  rw [show j + ((i + 1 : Nat) : Int) = j + (i : Int) + 1 by omega]
theorem val_end {b j : Int} {ds : List Int} {i : Nat} (h : ds.length ≤ i) : val b j (ds.drop i) = 0 := by
  rw [List.drop_eq_nil_of_le h]; rfl
/-- one column: the figure that is kept, and what is carried -/
theorem column_step {t B c R V : Int} (h1 : 1 ≤ t) (h2 : t ≤ 26) (hB : B = 36 - t) (hc : t ≤ c) (hV : V = c + B * R) :
    35 - (35 - c) % B = t + (V - t) % B ∧ (V - t) / B = (c - (35 - (35 - c) % B)) / B + R ∧ 0 ≤ (c - (35 - (35 - c) % B)) / B := by
  have hBp : 0 < B := by omega
  have e := Int.mul_ediv_add_emod (35 - c) B
  have m1 := Int.emod_nonneg (35 - c) (show B ≠ 0 by omega)
  have m2 := Int.emod_lt_of_pos (35 - c) hBp
  generalize (35 - c) % B = r at *
  generalize (35 - c) / B = q at *
  have k1 : c - (35 - r) = B * (-q) := by rw [Int.mul_neg]; omega
  have k2 : (c - (35 - r)) / B = -q := by rw [k1]; exact Int.mul_ediv_cancel_left _ (by omega)
  have k3 : V - t = (35 - r - t) + B * (R - q) := by rw [Int.mul_sub]; omega
  have k4 : (V - t) % B = 35 - r - t := by
    rw [k3, Int.add_mul_emod_self_left]
    exact Int.emod_eq_of_lt (by omega) (by omega)
  have k5 : (V - t) / B = R - q := by
    rw [k3, Int.add_mul_ediv_left _ _ (by omega), Int.ediv_eq_zero_of_lt (by omega) (by omega)]; omega
  refine ⟨by omega, by omega, ?_⟩
  rw [k2]
  have : q ≤ 0 := by
    apply Int.not_lt.mp
    intro hq
    have : B ≤ B * q := by
      have := Int.mul_le_mul_of_nonneg_left (show (1 : Int) ≤ q by omega) (show (0 : Int) ≤ B by omega)
      omega
    omega
  omega
end Mine
namespace Mine
theorem fill : PySem.Challenge.rw_mq0022_01 = PySem.Challenge.rw_mq0022_01 ∧ Mine.hd.heap_39 = Mine.hd.heap_39 := by
  w_top off
  k_fill
  exact ⟨rfl, rfl⟩
theorem perm_sum {l l' : List Int} (h : l.Perm l') : l.sum = l'.sum := by
  induction h with
  | nil => rfl
  | cons x _ ih => simp only [List.sum_cons]; omega
  | swap x y l => simp only [List.sum_cons]; omega
  | trans _ _ h1 h2 => exact h1.trans h2
theorem mid_of_sorted {n : List Int} {x : Int} (hp : n.Perm [1, 26, x]) (hs : List.Pairwise (fun a b => a ≤ b) n) : n.getD (Int.toNat 1) 0 = if x < 1 then 1 else if 26 < x then 26 else x := by
  have hl : n.length = 3 := hp.length_eq
  match n, hl with
  | [a, b, c], _ =>
    have h1 : ∀ y, y ∈ [1, 26, x] ↔ y ∈ [a, b, c] := fun y => hp.mem_iff.symm
    have e1 := (h1 1).mp (by simp)
    have e2 := (h1 26).mp (by simp)
    have e3 := (h1 x).mp (by simp)
    have hsum : ([a, b, c] : List Int).sum = ([1, 26, x] : List Int).sum := perm_sum hp
    have a1 := (h1 a).mpr (by simp)
    have c1 := (h1 c).mpr (by simp)
    simp only [List.pairwise_cons, List.mem_cons, List.not_mem_nil, or_false, List.sum_cons, List.sum_nil, forall_eq_or_imp, forall_eq, false_implies, implies_true, List.Pairwise.nil, and_true] at *
    show b = _
    split <;> (try split) <;> omega
section
variable {prog : Program} {w : World} {p : Program} {loose : List Str} {mean : ExcName → Option Value} {mg mb : Str → Option Value}
    {dp un : Nat} {gd : Option (List Code)} {cn : Str} {cs : Scope} {a : Addr} {ccd : Value} {cl : List (Str × Addr)} {outer : List Env} {A₀ : Around} {base h₀ : Heap} {L : Addr} {m : Str → Option Value} {s : Shared} {Q E : Value → Shared → Prop} {news : List (Addr × Obj)}
    (B : Below A₀ base outer h₀) (F : Fr h₀ L s.heap m) (X : (Mine.hd.heap_39 w.params).In h₀) (N : News h₀ L s.heap news) (T : Top p loose mean mg mb h₀) (hk : cs.kind = .function)
include B F X N T hk
set_option maxHeartbeats 4000000 in
theorem T_c {j b : Int} {tj tb : Tok} (hd : dp + 1 < recursionLimit) (hu : un + 8 < cLine)
    (ret : ∀ (t : Tok) (h' : Heap) (tk' : Nat), Fr h₀ L h' m → News h₀ L h' news → Q (.int (thr j b) t) { s with heap := h', toks := tk' }) :
    wpAny (model prog w) (ktrTop dp un gd cn cs L a ccd cl outer) (call (.ref 21) [.int j tj, .int b tb]) Q E s := by
  refine wpAny_call ?_
  k_dflt cell_enter
  k_steps
  all_goals (refine cb_retI ret ?e (by k_asm) (by k_asm); case e => unfold thr; split <;> (try split) <;> omega)
set_option maxHeartbeats 4000000 in
theorem bound_c {j b : Int} {tj tb : Tok} (hd : dp + 1 < recursionLimit) (hu : un + 8 < cLine)
    (ret : ∀ (t : Tok) (h' : Heap) (tk' : Nat), Fr h₀ L h' m → News h₀ L h' news → Q (.int (thr j b) t) { s with heap := h', toks := tk' }) :
    wpAny (model prog w) (ktrTop dp un gd cn cs L a ccd cl outer) (call (.ref 42) [.int j tj, .int b tb]) Q E s := by
  refine wpAny_call ?_
  k_dflt cell_enter
  k_steps
  all_goals ((rename News h₀ L _ _ => kN); (rename List.Perm _ _ => kP); (rename List.Pairwise _ _ => kS); refine cb_retI ret (by rw [mid_of_sorted kP kS]; rfl) (by k_asm) (cb_drop kN fun q hq => ?_); simp [hq])
end
end Mine
namespace Mine
/-- an octet's figure -/
def decF (o : Int) : Int := if o > 96 then o - 97 else o - 22
/-- a figure's octet -/
def encF (d : Int) : Int := if d < 26 then d + 97 else d + 22
section
variable {prog : Program} {w : World} {A : Around} {E : Value → Shared → Prop} {s : Shared} {env : Env} {h₀ : Heap} {L : Addr} {m : Str → Option Value} {news : List (Addr × Obj)}
theorem paired_ints {g : Int → Int} : ∀ {ks : List Int} {vs ys : List Value}, vs.length = ks.length → (∀ (i : Nat) v, vs[i]? = some v → ∃ k t, ks[i]? = some k ∧ v = .int k t) →
    Paired (fun v y => ∃ k t t', v = .int k t ∧ y = .int (g k) t') vs ys → IntsAre ys (ks.map g)
  | [], [], _, _, _, h => by cases h; exact .nil
  | k :: ks, v :: vs, _, hl, hi, .cons h₁ t => by
    obtain ⟨k', t', t'', hv, hy⟩ := h₁
    obtain ⟨k'', tt, hk, hv'⟩ := hi 0 v rfl
    cases hk
    rw [hv] at hv'
    cases hv'
    rw [hy]
    exact .cons _ _ (paired_ints (by simpa using hl) (fun i u hu => by simpa using hi (i + 1) u (by simpa using hu)) t)
theorem comp_ints {elt : Expr} {x : Str} {scope : Scope} {Q : Value → Shared → Prop} {I : Addr} {fp : List Addr} {n : Nat} {P : Nat → Value → Prop} {St : Nat → Heap → Prop} {ks : List Int} (g : Int → Int)
    (W : Walks prog w A I fp [I] n P St) (hfp : ∀ b ∈ fp, b < s.heap.objs.size) (hn : n = ks.length) (hP : ∀ i v, P i v → ∃ k t, ks[i]? = some k ∧ v = .int k t) (hsz : n ≤ sizeLine) (hst : St 0 s.heap) (F : Fr h₀ L s.heap m) (N : News h₀ L s.heap news)
    (hIL : I ≠ L) (hIn : ∀ q ∈ news, q.1 ≠ I) (hI0 : h₀.get? I = none)
    (helt : ∀ C k t s₃ m₃ E', k ∈ ks → s₃.heap.Ns C m₃ → m₃ x = some (.int k t) → wpAny (model prog w) A (eval elt (compEnv scope C env)) (fun y s₄ => (∃ t', y = .int (g k) t') ∧ Keeps s₃ s₄) E' s₃)
    (ret : ∀ (D : Addr) (vs : List Value) (c : Nat) (h' : Heap) (tk' : Nat), IntsAre vs (ks.map g) → Fr h₀ L h' m → News h₀ L h' ((D, listOf vs.toArray c) :: news) → (∀ q ∈ news, q.1 ≠ D) → Q (.ref D) { s with heap := h', toks := tk' }) :
    CompPost prog w A env scope x [] elt Q (.ref I) s := by
  refine ⟨fun _ => true, fun v y => ∃ k t t', v = .int k t ∧ y = .int (g k) t', I, fp, [I], n, P, St, rfl, W, hsz, hst, hfp, ⟨?_, ?_⟩, ?_⟩
  · intro C i v s₃ m₃ E' _ _ _ _ _
    rw [List.forIn_nil]
    exact wpAny_pure ⟨rfl, _, _, rfl, fun _ _ e => e⟩
  · intro C i v s₃ m₃ E' hv _ hC hx _ _
    obtain ⟨k, t, hk, rfl⟩ := hP i v hv
    refine wpAny_mono (helt C k t s₃ m₃ E' (List.mem_of_getElem? hk) hC hx) (fun y s₄ hy => ?_) fun _ _ e => e
    obtain ⟨⟨t', rfl⟩, hk'⟩ := hy
    exact ⟨⟨k, t, t', rfl, rfl⟩, hk'⟩
  · intro D h' tk ys vs hD hl hpl hlen hPv hF hk
    have hnone : ∀ q ∈ news, q.1 ≠ D := fun q hq e => by
      have := (N q hq).1
      rw [e, hD] at this; cases this
    obtain ⟨oL, es, ep, hL, hLd, hLk, hLf⟩ := F.ns
    have hF' : Fr h₀ L h' m := ⟨⟨oL, es, ep, hk L oL (fun e => hIL (List.mem_singleton.mp e).symm) hL, hLd, hLk, hLf⟩, fun b o e => hk b o (fun hb => by rw [List.mem_singleton.mp hb, hI0] at e; cases e) (F.keep b o e), F.above⟩
    obtain ⟨c, hc⟩ := hpl
    have hN' : News h₀ L h' ((D, listOf ys.toList.toArray c) :: news) := by
      intro q hq
      rcases List.mem_cons.mp hq with rfl | hq
      · refine ⟨by simpa using hc, fun e => ?_, ?_⟩
        · have e' : D = L := e
          rw [e', hL] at hD; cases hD
        · cases e : h₀.get? D with
          | none => rfl
          | some o => have := F.keep D o e; rw [hD] at this; cases this
      · exact ⟨hk _ _ (fun hb => hIn q hq (List.mem_singleton.mp hb)) (N q hq).1, (N q hq).2⟩
    refine ret D ys.toList c h' tk (paired_ints (by omega) (fun i v hv => hP i v (hPv i v hv)) ?_) hF' hN' hnone
    have : vs.filter (fun _ => true) = vs := List.filter_eq_self.mpr fun _ _ => rfl
    rw [this] at hF
    exact hF
theorem comp_bytes {elt : Expr} {x : Str} {scope : Scope} {Q : Value → Shared → Prop} {bs : Array UInt8} {tb : Tok} {ks : List Int} (g : Int → Int) (hh : A.handled = none) (hks : KBw.bInts bs = ks) (hsz : ks.length ≤ sizeLine) (F : Fr h₀ L s.heap m) (N : News h₀ L s.heap news)
    (helt : ∀ C k t s₃ m₃ E', k ∈ ks → s₃.heap.Ns C m₃ → m₃ x = some (.int k t) → wpAny (model prog w) A (eval elt (compEnv scope C env)) (fun y s₄ => (∃ t', y = .int (g k) t') ∧ Keeps s₃ s₄) E' s₃)
    (ret : ∀ (D : Addr) (vs : List Value) (c : Nat) (h' : Heap) (tk' : Nat), IntsAre vs (ks.map g) → Fr h₀ L h' m → News h₀ L h' ((D, listOf vs.toArray c) :: news) → (∀ q ∈ news, q.1 ≠ D) → Q (.ref D) { s with heap := h', toks := tk' }) :
    wpAny (model prog w) A (pyIter (.bytes bs tb)) (CompPost prog w A env scope x [] elt Q) E s := by
  subst hks
  refine KBw.pyIter_bytes ?_
  refine comp_ints g (KBw.walks hh s.heap.objs.size bs tb) (fun b hb => by rw [List.mem_singleton.mp hb]; exact Heap.lt_size (Heap.get?_push_size _ rfl)) (KBw.ints_length bs).symm (fun i v hv => ?_) (by rw [← KBw.ints_length bs]; exact hsz) ⟨_, Heap.get?_push_size _ rfl, rfl, rfl⟩ (F.push _) (fun p hp => ⟨Heap.get?_push_of_some _ (N p hp).1, (N p hp).2⟩)
    (Nat.ne_of_gt F.ns.lt) (fun q hq => Nat.ne_of_lt (Heap.lt_size (N q hq).1)) (next_is_new F) helt ret
  obtain ⟨c, u, hc, rfl⟩ := hv
  exact ⟨_, u, KBw.ints_get hc, rfl⟩
theorem comp_list {elt : Expr} {x : Str} {scope : Scope} {Q : Value → Shared → Prop} {l : Addr} {us : List Value} {ks : List Int} (g : Int → Int) (hh : A.handled = none) (hl : s.heap.IsList l us.toArray) (hi : IntsAre us ks) (hsz : ks.length ≤ sizeLine) (F : Fr h₀ L s.heap m) (N : News h₀ L s.heap news)
    (helt : ∀ C k t s₃ m₃ E', k ∈ ks → s₃.heap.Ns C m₃ → m₃ x = some (.int k t) → wpAny (model prog w) A (eval elt (compEnv scope C env)) (fun y s₄ => (∃ t', y = .int (g k) t') ∧ Keeps s₃ s₄) E' s₃)
    (ret : ∀ (D : Addr) (vs : List Value) (c : Nat) (h' : Heap) (tk' : Nat), IntsAre vs (ks.map g) → Fr h₀ L h' m → News h₀ L h' ((D, listOf vs.toArray c) :: news) → (∀ q ∈ news, q.1 ≠ D) → Q (.ref D) { s with heap := h', toks := tk' }) :
    wpAny (model prog w) A (pyIter (.ref l)) (CompPost prog w A env scope x [] elt Q) E s := by
  refine wpAny_pyIter_list hl ?_
  obtain ⟨ol, hol, _⟩ := id hl
  have hlt : l < s.heap.objs.size := Heap.lt_size hol
  have hI : (s.heap.push { cls := .type "list_iterator", data := .fields #[.ref l, .int 0 0] }).IsListIter s.heap.objs.size l 0 := ⟨_, Heap.get?_push_size _ rfl, rfl, rfl⟩
  refine comp_ints g (Walks.list hh s.heap.objs.size l (Nat.ne_of_lt hlt) us.toArray) (fun b hb => ?_) (by rw [List.size_toArray]; exact hi.length) (fun i v hv => ?_) (by rw [List.size_toArray, hi.length]; exact hsz) ⟨hI, hl.push _⟩ (F.push _) (fun p hp => ⟨Heap.get?_push_of_some _ (N p hp).1, (N p hp).2⟩)
    (Nat.ne_of_gt F.ns.lt) (fun q hq => Nat.ne_of_lt (Heap.lt_size (N q hq).1)) (next_is_new F) helt ret
  · have hs : (s.heap.push { cls := .type "list_iterator", data := .fields #[.ref l, .int 0 0] }).objs.size = s.heap.objs.size + 1 := Heap.size_push _ _
    show b < (s.heap.push { cls := .type "list_iterator", data := .fields #[.ref l, .int 0 0] }).objs.size
    rw [hs]
    rcases List.mem_cons.mp hb with rfl | hb
    · exact Nat.lt_succ_self _
    · rw [List.mem_singleton.mp hb]; exact Nat.lt_succ_of_lt hlt
  · obtain ⟨k, t, e, hk⟩ := IntsAre.at hi i v (by simpa using hv)
    exact ⟨k, t, hk, e⟩
end
end Mine
namespace Mine
theorem fill2 : PySem.Challenge.rw_mq0022_01 = PySem.Challenge.rw_mq0022_01 ∧ Mine.hd.heap_39 = Mine.hd.heap_39 := by
  w_top off
  k_fill
  exact ⟨rfl, rfl⟩
theorem keeps_toks (s : Shared) (k : Nat) : Keeps s { s with toks := k } := ⟨_, _, rfl, fun _ _ e => e⟩
section
variable {prog : Program} {w : World} {p : Program} {loose : List Str} {mean : ExcName → Option Value} {mg mb : Str → Option Value}
    {dp un : Nat} {gd : Option (List Code)} {cn : Str} {cs : Scope} {a : Addr} {ccd : Value} {cl : List (Str × Addr)} {outer : List Env} {A₀ : Around} {base h₀ : Heap} {L : Addr} {m : Str → Option Value} {s : Shared} {Q E : Value → Shared → Prop} {news : List (Addr × Obj)}
    (B : Below A₀ base outer h₀) (F : Fr h₀ L s.heap m) (X : (Mine.hd.heap_39 w.params).In h₀) (N : News h₀ L s.heap news) (T : Top p loose mean mg mb h₀) (hk : cs.kind = .function)
include B F X N T hk
set_option maxHeartbeats 4000000 in
theorem figures_c {bs : Array UInt8} {ks : List Int} {tb : Tok} (hd : dp + 1 < recursionLimit) (hu : un + 8 < cLine) (hks : KBw.bInts bs = ks) (hlen : ks.length ≤ 2000001)
    (ret : ∀ (D : Addr) (vs : List Value) (n : Nat) (h' : Heap) (tk' : Nat), IntsAre vs (ks.map decF) → Fr h₀ L h' m → News h₀ L h' ((D, listOf vs.toArray n) :: news) → (∀ q ∈ news, q.1 ≠ D) → Q (.ref D) { s with heap := h', toks := tk' }) :
    wpAny (model prog w) (ktrTop dp un gd cn cs L a ccd cl outer) (call (.ref 47) [.bytes bs tb]) Q E s := by
  refine wpAny_call ?_
  k_dflt cell_enter
  k_steps
  refine comp_bytes decF rfl hks (by rw [sizeLine_eq]; omega) (by k_asm) (by k_asm) ?_ ?_
  · intro C k t s₃ m₃ E' hk' hC hx
    refine wpAny_IfExp (wpAny_isTrue_Compare1 (wpAny_Name (wpAny_loadName_local rfl rfl hC hx (wpAny_Constant_int (gt_int (wpAny_truthy_bool ?_)))) rfl))
    have hd' : (decide (96 < k) = true ∧ decF k = k - 97) ∨ (decide (96 < k) = false ∧ decF k = k - 22) := by
      unfold decF
      by_cases h : 96 < k
      · exact .inl ⟨by simp [h], by rw [if_pos h]⟩
      · exact .inr ⟨by simp [h], by rw [if_neg h]⟩
    rcases hd' with ⟨e1, e2⟩ | ⟨e1, e2⟩
    · rw [e1, e2]
      exact wpAny_BinOp (wpAny_Name (wpAny_loadName_local rfl rfl hC hx (wpAny_Constant_int (sub_int ⟨⟨_, rfl⟩, keeps_toks _ _⟩))) rfl)
    · rw [e1, e2]
      exact wpAny_BinOp (wpAny_Name (wpAny_loadName_local rfl rfl hC hx (wpAny_Constant_int (sub_int ⟨⟨_, rfl⟩, keeps_toks _ _⟩))) rfl)
  · intro D vs c h' tk' hI F' N' hne
    k_steps
    exact ret D vs c _ _ hI (by k_asm) (by k_asm) hne
set_option maxHeartbeats 4000000 in
theorem numeral_c {D : Addr} {vs : List Value} {n : Nat} {ds : List Int} (hd : dp + 1 < recursionLimit) (hu : un + 8 < cLine) (hD : (D, listOf vs.toArray n) ∈ news) (hI : IntsAre vs ds) (hlen : ds.length ≤ 2000001) (hds : ∀ d ∈ ds, 0 ≤ d ∧ d ≤ 35)
    (ret : ∀ (bs : Array UInt8) (t : Tok) (h' : Heap) (tk' : Nat), KBw.bInts bs = ds.map encF → Fr h₀ L h' m → News h₀ L h' news → Q (.bytes bs t) { s with heap := h', toks := tk' }) :
    wpAny (model prog w) (ktrTop dp un gd cn cs L a ccd cl outer) (call (.ref 52) [.ref D]) Q E s := by
  refine wpAny_call ?_
  k_dflt cell_enter
  k_steps
  refine comp_list encF rfl (News.isList (by k_asm) hD) hI (by rw [sizeLine_eq]; omega) (by k_asm) (by k_asm) ?_ ?_
  · intro C k t s₃ m₃ E' hk' hC hx
    refine wpAny_IfExp (wpAny_isTrue_Compare1 (wpAny_Name (wpAny_loadName_local rfl rfl hC hx (wpAny_Constant_int (lt_int (wpAny_truthy_bool ?_)))) rfl))
    have hd' : (decide (k < 26) = true ∧ encF k = k + 97) ∨ (decide (k < 26) = false ∧ encF k = k + 22) := by
      unfold encF
      by_cases h : k < 26
      · exact .inl ⟨by simp [h], by rw [if_pos h]⟩
      · exact .inr ⟨by simp [h], by rw [if_neg h]⟩
    rcases hd' with ⟨e1, e2⟩ | ⟨e1, e2⟩
    · rw [e1, e2]
      exact wpAny_BinOp (wpAny_Name (wpAny_loadName_local rfl rfl hC hx (wpAny_Constant_int (add_int ⟨⟨_, rfl⟩, keeps_toks _ _⟩))) rfl)
    · rw [e1, e2]
      exact wpAny_BinOp (wpAny_Name (wpAny_loadName_local rfl rfl hC hx (wpAny_Constant_int (add_int ⟨⟨_, rfl⟩, keeps_toks _ _⟩))) rfl)
  · intro D' vs' c' h' tk' hI' F' N' hne
    have hIn : KBa.In (ds.map encF) := fun k hk9 => by
      obtain ⟨d, hd9, rfl⟩ := List.mem_map.mp hk9
      have := hds d hd9
      unfold encF; split <;> omega
    have hl9 : (ds.map encF).length ≤ 16777216 := by rw [List.length_map]; omega
    k_steps
    rename News h₀ L _ _ => kN
    exact ret _ _ _ _ (KBa.ints_make hIn) (by k_asm) (cb_drop kN fun q hq => by simp [hq])
end
end Mine
namespace Mine
/-- where the walk is to wait -/
def Stop (q : Prop) : Prop := q
theorem Stop.out {q : Prop} (h : Stop q) : q := h
section
variable {prog : Program} {w : World} {A : Around} {E : Value → Shared → Prop} {s : Shared} {h₀ : Heap} {L D : Addr} {m : Str → Option Value} {news : List (Addr × Obj)} {vs : List Value} {n : Nat} {ns : List Int}
theorem len_led {Q : Value → Shared → Prop} (N : News h₀ L s.heap news) (hm : (D, listOf vs.toArray n) ∈ news) (hI : IntsAre vs ns) (hfit : ns.length ≤ 16777216) (h : ∀ t k, Q (.int (ns.length : Int) t) { s with toks := k }) :
    wpAny (model prog w) A (call (.builtin "len") [.ref D]) Q E s := by
  have e : vs.toArray.size = ns.length := by rw [List.size_toArray]; exact hI.length
  refine PySem.Calls.call_len_list (News.isList N hm) (by rw [e]; omega) ?_
  rw [e]; exact h _ _
theorem item_led {value slice : PySem.Expr} {k : Int} {u : Tok} {Q : Value → Shared → Prop} (N : News h₀ L s.heap news) (hm : (D, listOf vs.toArray n) ∈ news) (hI : IntsAre vs ns) (h0 : 0 ≤ k) (h1 : k < (ns.length : Int)) (hfit : ns.length ≤ 16777216)
    (h : ∀ t, Q (.int (ns.getD k.toNat 0) t) s)
    (hs : subscripted slice false (.ref D) (.int k u) = operate [.ref D, .int k u] (getItem (.ref D) (.int k u)) := by with_unfolding_all rfl) :
    wpAny (model prog w) A (subscriptTail value slice (.ref D) (.int k u)) Q E s := by
  have hl := News.isList N hm
  have hlt : k.toNat < vs.length := by rw [hI.length]; omega
  obtain ⟨x, hx⟩ : ∃ x, vs[k.toNat]? = some x := ⟨vs[k.toNat], List.getElem?_eq_getElem hlt⟩
  obtain ⟨n', t, rfl, hn⟩ := IntsAre.at hI k.toNat x hx
  have e : ns.getD k.toNat 0 = n' := by rw [List.getD_eq_getElem?_getD, hn]; rfl
  refine tail_any hl.typeIs slot_list_getitem.lookup (wpAny_getItem_list hl h0 (by omega) (by simpa using hx) ?_) hs
  rw [← e]; exact h t
end
end Mine
namespace Mine
theorem getD_out {ds : List Int} {i : Nat} (h : ds.length ≤ i) : ds.getD i 0 = 0 := by
  rw [List.getD_eq_getElem?_getD, List.getElem?_eq_none h]; rfl
theorem val_step' {b : Int} {ds : List Int} {i : Nat} : val b i (ds.drop i) = ds.getD i 0 + (36 - thr i b) * val b ((i + 1 : Nat) : Int) (ds.drop (i + 1)) := by
  by_cases hi : i < ds.length
  · have := val_step (b := b) (j := 0) hi
    simpa using this
  · rw [val_end (by omega), val_end (by omega), getD_out (by omega)]; omega
theorem figs_at {b : Int} {ds : List Int} (h : Num b 0 ds) (i : Nat) : 0 ≤ ds.getD i 0 ∧ ds.getD i 0 ≤ 35 := by
  by_cases hi : i < ds.length
  · have := h.at hi; exact ⟨this.1, this.2.1⟩
  · rw [getD_out (by omega)]; omega
theorem drop_figs {b : Int} {ds : List Int} (h : Num b 0 ds) (i : Nat) : ∀ d ∈ ds.drop i, 0 ≤ d ∧ d ≤ 35 := fun d hd => h.figs d (List.mem_of_mem_drop hd)
/-- what is still to be written from place i on -/
def colV (b we fi : Int) (hs os : List Int) (ca : Int) (i : Nat) : Int := ca + we * val b i (hs.drop i) + fi * val b i (os.drop i)
theorem colV_split {b we fi ca c : Int} {hs os : List Int} {i : Nat} (hc : c = ca + we * hs.getD i 0 + fi * os.getD i 0) :
    colV b we fi hs os ca i = c + (36 - thr i b) * (we * val b ((i + 1 : Nat) : Int) (hs.drop (i + 1)) + fi * val b ((i + 1 : Nat) : Int) (os.drop (i + 1))) := by
  unfold colV
  rw [val_step' (ds := hs), val_step' (ds := os), hc]
  generalize val b ((i + 1 : Nat) : Int) (hs.drop (i + 1)) = x
  generalize val b ((i + 1 : Nat) : Int) (os.drop (i + 1)) = y
  generalize 36 - thr i b = B
  rw [Int.mul_add, Int.mul_add, Int.mul_add]
  have e1 : we * (B * x) = B * (we * x) := by rw [← Int.mul_assoc, Int.mul_comm we B, Int.mul_assoc]
  have e2 : fi * (B * y) = B * (fi * y) := by rw [← Int.mul_assoc, Int.mul_comm fi B, Int.mul_assoc]
  rw [e1, e2]; omega
theorem rest_nonneg {b we fi : Int} {hs os : List Int} (hh : Num b 0 hs) (ho : Num b 0 os) (hw : 1 ≤ we) (hf : 0 ≤ fi) (i : Nat) :
    0 ≤ we * val b (i : Int) (hs.drop i) ∧ 0 ≤ fi * val b (i : Int) (os.drop i) :=
  ⟨Int.mul_nonneg (by omega) (val_nonneg (drop_figs hh i)), Int.mul_nonneg hf (val_nonneg (drop_figs ho i))⟩
theorem le_mul_of_one_le {a k t : Int} (ha : 1 ≤ a) (hk : t ≤ k) (h0 : 0 ≤ k) : t ≤ a * k := by
  have : 1 * k ≤ a * k := Int.mul_le_mul_of_nonneg_right ha h0
  omega
theorem column_last {b we fi ca c : Int} {hs os : List Int} {i : Nat} (hh : Num b 0 hs) (ho : Num b 0 os) (hw : 1 ≤ we) (hf : 0 ≤ fi) (hca : 0 ≤ ca) (hc : c = ca + we * hs.getD i 0 + fi * os.getD i 0) (hlt : c < thr i b) :
    gen b i (colV b we fi hs os ca i) = [c] := by
  have h1 := figs_at hh i
  have h2 := figs_at ho i
  have n1 : 0 ≤ we * hs.getD i 0 := Int.mul_nonneg (by omega) h1.1
  have n2 : 0 ≤ fi * os.getD i 0 := Int.mul_nonneg hf h2.1
  have a1 : val b ((i + 1 : Nat) : Int) (hs.drop (i + 1)) = 0 := by
    by_cases hi : i + 1 < hs.length
    · exfalso
      have h3 := hh.at (i := i) (by omega)
      have h4 : thr i b ≤ hs.getD i 0 := by
        apply Int.not_lt.mp
        intro hx
        have := h3.2.2.1 (by simpa using hx)
        omega
      have := le_mul_of_one_le hw h4 h1.1
      omega
    · exact val_end (by omega)
  have a2 : fi * val b ((i + 1 : Nat) : Int) (os.drop (i + 1)) = 0 := by
    by_cases hi : i + 1 < os.length
    · by_cases hz : fi = 0
      · rw [hz]; simp
      · exfalso
        have h3 := ho.at (i := i) (by omega)
        have h4 : thr i b ≤ os.getD i 0 := by
          apply Int.not_lt.mp
          intro hx
          have := h3.2.2.1 (by simpa using hx)
          omega
        have := le_mul_of_one_le (a := fi) (by omega) h4 h2.1
        omega
    · rw [val_end (by omega)]; simp
  rw [colV_split hc, a1, a2, show (36 - thr (i : Int) b) * (we * 0 + 0) = 0 by simp, Int.add_zero]
  exact gen_last hlt
theorem column_more {b we fi ca c : Int} {hs os : List Int} {i : Nat} (hh : Num b 0 hs) (ho : Num b 0 os) (hw : 1 ≤ we) (hf : 0 ≤ fi) (hc : c = ca + we * hs.getD i 0 + fi * os.getD i 0) (hge : ¬ c < thr i b) {kept ca' : Int}
    (hk : kept = 35 - (35 - c).fmod (36 - thr i b)) (hca' : ca' = (c - kept).fdiv (36 - thr i b)) :
    gen b i (colV b we fi hs os ca i) = kept :: gen b ((i + 1 : Nat) : Int) (colV b we fi hs os ca' (i + 1)) ∧ 0 ≤ ca' ∧ 0 ≤ colV b we fi hs os ca' (i + 1) ∧ colV b we fi hs os ca' (i + 1) + 1 ≤ colV b we fi hs os ca i := by
  have t1 := thr_lo i b
  have t2 := thr_hi i b
  have r := rest_nonneg hh ho hw hf (i + 1)
  have hV := colV_split (b := b) hc
  generalize hR : we * val b ((i + 1 : Nat) : Int) (hs.drop (i + 1)) + fi * val b ((i + 1 : Nat) : Int) (os.drop (i + 1)) = R at hV
  have hR0 : 0 ≤ R := by omega
  rw [Int.fmod_eq_emod_of_nonneg _ (by omega)] at hk
  rw [Int.fdiv_eq_ediv_of_nonneg _ (by omega)] at hca'
  obtain ⟨s1, s2, s3⟩ := column_step (V := colV b we fi hs os ca i) (R := R) t1 t2 rfl (show thr i b ≤ c by omega) hV
  rw [← hk] at s1 s2 s3
  rw [← hca'] at s2 s3
  have hBR : 0 ≤ (36 - thr i b) * R := Int.mul_nonneg (by omega) hR0
  have hge' : ¬ colV b we fi hs os ca i < thr i b := by omega
  have hnext : colV b we fi hs os ca' (i + 1) = (colV b we fi hs os ca i - thr i b) / (36 - thr i b) := by
    rw [s2, ← hR]; unfold colV; omega
  have hd := div_lt t1 t2 hge'
  refine ⟨?_, s3, by omega, by omega⟩
  rw [gen_more hge', ← s1, hnext]
  congr 2 <;> omega
theorem col_ret {b we fi ca c V : Int} {hs os ms : List Int} {i : Nat} (hh : Num b 0 hs) (ho : Num b 0 os) (hw : 1 ≤ we) (hf : 0 ≤ fi) (hca : 0 ≤ ca) (hc : c = ca + we * hs.getD i 0 + fi * os.getD i 0) (hlt : c < thr i b)
    (p4 : ms ++ gen b i (colV b we fi hs os ca i) = gen b 0 V) : ms ++ [c] = gen b 0 V := by
  rw [← p4, column_last hh ho hw hf hca hc hlt]
theorem col_next {b we fi ca c V : Int} {hs os ms : List Int} {i : Nat} (hh : Num b 0 hs) (ho : Num b 0 os) (hw : 1 ≤ we) (hf : 0 ≤ fi) (hc : c = ca + we * hs.getD i 0 + fi * os.getD i 0) (hge : ¬ c < thr i b) {kept ca' : Int}
    (hk : kept = 35 - (35 - c).fmod (36 - thr i b)) (hca' : ca' = (c - kept).fdiv (36 - thr i b)) (p2 : ms.length = i) (p3 : (i : Int) + colV b we fi hs os ca i ≤ 2000000) (p4 : ms ++ gen b i (colV b we fi hs os ca i) = gen b 0 V) :
    ((i : Int) + 1 = ((i + 1 : Nat) : Int) ∧ 0 ≤ ca' ∧ (ms ++ [kept]).length = i + 1 ∧ ((i + 1 : Nat) : Int) + colV b we fi hs os ca' (i + 1) ≤ 2000000 ∧ (ms ++ [kept]) ++ gen b ((i + 1 : Nat) : Int) (colV b we fi hs os ca' (i + 1)) = gen b 0 V) ∧
      (colV b we fi hs os ca' (i + 1)).toNat < (colV b we fi hs os ca i).toNat := by
  obtain ⟨q1, q2, q3, q4⟩ := column_more (b := b) hh ho hw hf hc hge hk hca'
  refine ⟨⟨by omega, q2, by simp [p2], by omega, ?_⟩, by omega⟩
  rw [← p4, q1, List.append_assoc]; rfl
end Mine
namespace Mine
theorem fill3 : PySem.Challenge.rw_mq0022_01 = PySem.Challenge.rw_mq0022_01 ∧ Mine.hd.heap_39 = Mine.hd.heap_39 := by
  w_top off
  k_fill
  exact ⟨rfl, rfl⟩
local macro_rules | `(tactic| walk_at "exec While") => `(tactic| refine Stop.out ?_)
theorem allLt_at {d : Nat} {l : List (Addr × Obj)} (h : AllLt d l) : ∀ q ∈ l, q.1 < d := by
  induction l with
  | nil => intro q hq; cases hq
  | cons x r ih =>
    intro q hq
    rcases List.mem_cons.mp hq with e | hq
    · rw [e]; exact h.1
    · exact ih h.2 q hq
structure ColSt where
  mv : List Value
  ep : Nat
  ms : List Int
  ca : Int
  tc : Tok
  i : Nat
  pl : Int
  tp : Tok
local macro_rules | `(tactic| k_mem) => `(tactic| first | assumption | exact List.mem_cons_of_mem _ (by assumption))
local macro_rules | `(tactic| k_all) => `(tactic| assumption)
local macro_rules | `(tactic| walk_at "call builtin:len") => `(tactic| (k_here; (with_reducible show wpAny _ _ (call (Value.builtin "len") [Value.ref _]) _ _ _); k_dflt (refine' len_led ?k1 ?k2 ?k3 ?k4 ?_; (case k1 => k_asm); (case k2 => k_mem); (case k3 => assumption); (case k4 => omega)); intro _ _))
local macro_rules | `(tactic| walk_at "subscriptTail") => `(tactic| (k_here; (with_reducible show wpAny _ _ (subscriptTail _ _ (Value.ref _) (Value.int _ _)) _ _ _); k_dflt (refine' item_led ?k1 ?k2 ?k3 ?k4 ?k5 ?k6 ?_; (case k1 => k_asm); (case k2 => k_mem); (case k3 => assumption); (case k4 => omega); (case k5 => omega); (case k6 => omega)); intro _))
local macro_rules | `(tactic| walk_at "call ref") => `(tactic| (k_here; (with_reducible show wpAny _ _ (call (Value.ref 42) [Value.int _ _, Value.int _ _]) _ _ _); k_dflt (refine' bound_c ?k1 ?k2 ?k3 ?k4 ?k5 ?kK ?kd ?ku ?_; (case k1 => k_asm); (case k2 => k_asm); (case k3 => k_asm); (case k4 => k_asm); (case k5 => k_asm); (case kK => exact rfl); (case kd => ktr_room); (case ku => ktr_units)); intro t9 h9 tk9 F9 N9; (try dsimp only); (try k_fold)))
section
variable {prog : Program} {w : World} {p : Program} {loose : List Str} {mean : ExcName → Option Value} {mg mb : Str → Option Value}
    {dp un : Nat} {gd : Option (List Code)} {cn : Str} {cs : Scope} {a : Addr} {ccd : Value} {cl : List (Str × Addr)} {outer : List Env} {A₀ : Around} {base h₀ : Heap} {L : Addr} {m : Str → Option Value} {s : Shared} {Q E : Value → Shared → Prop} {news : List (Addr × Obj)}
    (B : Below A₀ base outer h₀) (F : Fr h₀ L s.heap m) (X : (Mine.hd.heap_39 w.params).In h₀) (N : News h₀ L s.heap news) (T : Top p loose mean mg mb h₀) (hk : cs.kind = .function)
include B F X N T hk
set_option maxHeartbeats 4000000 in
theorem columns_c {H O : Addr} {hv ov : List Value} {n1 n2 : Nat} {hs os : List Int} {we fi b : Int} {t1 t2 t3 : Tok} (hd : dp + 2 < recursionLimit) (hu : un + 16 < cLine) (hH : (H, listOf hv.toArray n1) ∈ news) (hO : (O, listOf ov.toArray n2) ∈ news)
    (hIh : IntsAre hv hs) (hIo : IntsAre ov os) (hnh : Num b 0 hs) (hno : Num b 0 os) (hw1 : 1 ≤ we) (hw2 : we ≤ 35) (hf1 : 0 ≤ fi) (hf2 : fi ≤ 35) (hV : we * val b 0 hs + fi * val b 0 os ≤ 2000000) (hl1 : hs.length ≤ 2000001) (hl2 : os.length ≤ 2000001)
    (ret : ∀ (D : Addr) (vs : List Value) (n : Nat) (h' : Heap) (tk' : Nat), IntsAre vs (gen b 0 (we * val b 0 hs + fi * val b 0 os)) → Fr h₀ L h' m → News h₀ L h' ((D, listOf vs.toArray n) :: news) → (∀ q ∈ news, q.1 ≠ D) → Q (.ref D) { s with heap := h', toks := tk' }) :
    wpAny (model prog w) (ktrTop dp un gd cn cs L a ccd cl outer) (call (.ref 59) [.ref H, .int we t1, .int fi t2, .ref O, .int b t3]) Q E s := by
  refine wpAny_call ?_
  k_dflt cell_enter
  k_steps
  rename_i Dm hA lW hB hC hE fW nW
  have hne : ∀ q ∈ news, q.1 ≠ Dm := fun q hq => Nat.ne_of_lt (lW q hq)
  refine' ksw_while (σ := ColSt) (fun c => (Dm, listOf c.mv.toArray c.ep) :: news) (fun c => [(Str.ofString "carried", .int c.ca c.tc), (Str.ofString "place", .int c.pl c.tp)]) (fun c => IntsAre c.mv c.ms) [Str.ofString "column", Str.ofString "bound", Str.ofString "kept"]
    (fun c => c.pl = (c.i : Int) ∧ 0 ≤ c.ca ∧ c.ms.length = c.i ∧ (c.i : Int) + colV b we fi hs os c.ca c.i ≤ 2000000 ∧ c.ms ++ gen b c.i (colV b we fi hs os c.ca c.i) = gen b 0 (we * val b 0 hs + fi * val b 0 os)) (fun c => (colV b we fi hs os c.ca c.i).toNat)
    ⟨[], 0, [], 0, _, 0, 0, _⟩ fW nW .nil ?hk ?hp ?turn
  case hk => kst_all
  case hp => exact ⟨rfl, Int.le_refl _, rfl, by simpa [colV] using hV, by simp [colV]⟩
  case turn =>
    rintro ⟨mv, ep, ms, ca, tc, i, pl, tp⟩ u h tk hFa ⟨p0, p1, p2, p3, p4⟩ fT nT
    dsimp only [kstB] at fT
    dsimp only at hFa p0 p1 p2 p3 p4 nT
    clear fW nW lW
    subst p0
    have t1' := thr_lo (i : Int) b
    have t2' := thr_hi (i : Int) b
    have hr := rest_nonneg hnh hno hw1 hf1 i
    have hVe : colV b we fi hs os ca i = ca + we * val b i (hs.drop i) + fi * val b i (os.drop i) := rfl
    k_steps
    all_goals
      have e1 : hs.length ≤ i → hs.getD i 0 = 0 := getD_out
      have e2 : os.length ≤ i → os.getD i 0 = 0 := getD_out
      simp only [Int.toNat_natCast] at *
    all_goals first
      | (rename IntsAre _ (ms ++ _) => hI9
         rename _ < thr _ _ => hlt
         rename News h₀ L _ _ => kN
         rename _ ∧ _ ∧ AllLt _ news => lD
         have hcc := col_ret hnh hno hw1 hf1 p1 (by first | rfl | (rw [e1 (by omega), e2 (by omega), Int.mul_zero, Int.mul_zero, Int.add_zero, Int.add_zero]) | (rw [e1 (by omega), Int.mul_zero, Int.add_zero]) | (rw [e2 (by omega), Int.mul_zero, Int.add_zero])) hlt p4
         rw [hcc] at hI9
         refine ret _ _ 0 _ _ hI9 (by k_asm) (cb_drop kN fun q hq => ?_) fun q hq => Nat.ne_of_lt (allLt_at lD.2.2 q hq)
         simp only [List.mem_cons] at hq ⊢
         rcases hq with hq | hq
         · exact .inl hq
         · exact .inr (.inr (.inr hq)))
      | (rename ¬ (_ < thr _ _) => hge
         rename News _ _ _ _ => nE
         simp only [List.push_toArray] at nE
         have hcn := col_next hnh hno hw1 hf1 (by first | rfl | (rw [e1 (by omega), e2 (by omega), Int.mul_zero, Int.mul_zero, Int.add_zero, Int.add_zero]) | (rw [e1 (by omega), Int.mul_zero, Int.add_zero]) | (rw [e2 (by omega), Int.mul_zero, Int.add_zero])) hge rfl rfl p2 p3 p4
         exact ksw_end ⟨_, _, ms ++ [_], _, _, i + 1, _, _⟩ (by assumption) nE (by kst_in) (IntsAre.append hFa (.cons _ _ .nil)) (by kst_all) (by ksw_same) hcn.1 hcn.2)
      | fail "an end is left"
end
end Mine
namespace Mine
section
variable {M : Model} {A : Around} {s : Shared} {env : Env}
theorem wpC_For {x : Str} {px pos : Pos} {iter : Expr} {body : List Stmt} {Q : Flow → Shared → Prop}
    (h : wpAny M A (eval iter env) (fun xv s₁ => wpAny M A (pyIter xv) (fun it s₂ => codeC M A (.forLoop (.Name x px) it body [] env) Q s₂) (fun _ _ => False) s₁) (fun _ _ => False) s)
    (hs : ∀ v, foldedSetIterable iter env v = pure v := by intro _; rfl) : wpC M A (exec (.For (.Name x px) iter body [] pos) env) Q s := by
  show wpC M A (standAt pos >>= fun _ => eval iter env >>= fun v => foldedSetIterable iter env v >>= fun x' => standAt iter.pos >>= fun _ => holding [x'] (pyIter x') >>= fun it => runOwn (.forLoop (.Name x px) it body [] env) env) Q s
  refine wpC_bind (wpC_standAt (wpC_bind (wpC_of_any (wpAny_mono h (fun v s₁ h₁ => ?_) fun _ _ x => x))))
  refine wpC_bind (wpC_of_any (wpAny_of_eq (hs v) (wpC_bind (wpC_standAt (wpC_bind (wpC_holding (wpC_of_any (wpAny_mono h₁ (fun it s₂ h₂ => ?_) fun _ _ x => x))))))))
  exact wpC_runOwn h₂
theorem wpC_Return {e : Expr} {pos : Pos} {Q : Flow → Shared → Prop} (h : wpC M A (eval e env) (fun v => Q (.ret v)) s) : wpC M A (exec (.Return (some e) pos) env) Q s := by
  rw [exec_Return_some]
  exact wpC_bind (wpC_standAt (wpC_bind (wpC_mono h fun v s' hv => wpC_pure hv)))
end
section
variable {prog : Program} {w : World} {A : Around} {s : Shared} {env : Env} {h₀ : Heap} {m₀ : Str → Option Value} {news₀ : List (Addr × Obj)}
/-- a loop over a range: what holds of the frame and the ledger ahead of turn i -/
theorem range_loop_C {x : Str} {px : Pos} {body : List Stmt} {Q : Flow → Shared → Prop} {r : Addr} {a b c : Int} {t u v : Tok} {n : Nat} (J : Nat → (Str → Option Value) → List (Addr × Obj) → Prop)
    (hh : A.handled = none) (hr : IsRange s.heap r a b c t u v) (hsmall : Builtin.Range.small a b c = true) (hn : Builtin.Range.rangeSize a b c = (n : Int)) (F : Fr h₀ env.locals s.heap m₀) (N : News h₀ env.locals s.heap news₀) (hJ : J 0 m₀ news₀)
    (hx : env.kindOf x = some .local) (hp : (env.scope.kind == .class || (env.scope.kind == .module && env.locals != env.globals)) = false)
    (turn : ∀ i k t m₁ news₁ h tk I oI, i < n → k = a + (i : Int) * c → J i m₁ news₁ → (∀ q ∈ news₁, q.1 ≠ I) → Fr h₀ env.locals h (fun y => if y = x then some (.int k t) else m₁ y) → News h₀ env.locals h ((I, oI) :: news₁) →
      wpC (model prog w) A (execs body env) (fun f s₃ => match f with
        | .next | .cont => ∃ h' tk' m' news', s₃ = { s with heap := h', toks := tk' } ∧ Fr h₀ env.locals h' m' ∧ News h₀ env.locals h' ((I, oI) :: news') ∧ (∀ q ∈ news', q.1 ≠ I) ∧ J (i + 1) m' news'
        | .brk => Q .next s₃
        | .ret v => Q (.ret v) s₃) { s with heap := h, toks := tk })
    (done : ∀ m₁ news₁ h tk, J n m₁ news₁ → Fr h₀ env.locals h m₁ → News h₀ env.locals h news₁ → Q .next { s with heap := h, toks := tk }) :
    wpAny (model prog w) A (pyIter (.ref r)) (fun it s₂ => codeC (model prog w) A (.forLoop (.Name x px) it body [] env) Q s₂) (fun _ _ => False) s := by
  refine wpAny_pyIter_range hr hsmall ?_
  have W := Walks.range (prog := prog) (w := w) (A := A) hh s.heap.objs.size a c n
  generalize hI : s.heap.objs.size = I at W ⊢
  have hIL : I ≠ env.locals := hI ▸ Nat.ne_of_gt F.ns.lt
  have hI0 : h₀.get? I = none := hI ▸ next_is_new F
  refine wpC_forLoop (fun k s' => ∃ i h tk m₁ news₁ oI, i + k = n ∧ s' = { s with heap := h, toks := tk } ∧ IsRangeIter h I (a + (i : Nat) * c) ((n : Int) - (i : Nat)) c ∧ Fr h₀ env.locals h m₁ ∧ News h₀ env.locals h ((I, oI) :: news₁) ∧ (∀ q ∈ news₁, q.1 ≠ I) ∧ J i m₁ news₁) ?_ n ?_
  · rintro k s' ⟨i, h, tk, m₁, news₁, oI, hik, rfl, hit, F₁, N₁, hne, hJ₁⟩
    have keepF : ∀ h', (∀ b o, b ∉ [I] → h.get? b = some o → h'.get? b = some o) → Fr h₀ env.locals h' m₁ := fun h' hk => by
      obtain ⟨oL, es, ep, hL, hLd, hLk, hLf⟩ := F₁.ns
      exact ⟨⟨oL, es, ep, hk _ _ (fun e => hIL (List.mem_singleton.mp e).symm) hL, hLd, hLk, hLf⟩, fun b o e => hk b o (fun hb => by rw [List.mem_singleton.mp hb, hI0] at e; cases e) (F₁.keep b o e), F₁.above⟩
    have keepN : ∀ h', (∀ b o, b ∉ [I] → h.get? b = some o → h'.get? b = some o) → News h₀ env.locals h' news₁ := fun h' hk q hq =>
      ⟨hk _ _ (fun hb => hne q hq (List.mem_singleton.mp hb)) (N₁ q (List.mem_cons_of_mem _ hq)).1, (N₁ q (List.mem_cons_of_mem _ hq)).2⟩
    by_cases hlt : i < n
    · refine W.item i _ _ _ hlt hit fun v h' tk' hv hst hk => ?_
      obtain ⟨t, rfl⟩ := hv
      have N₂ : News h₀ env.locals h' ((I, { cls := .type "range_iterator", dict := none, data := .fields #[rawInt (a + ((i + 1 : Nat) : Int) * c), rawInt ((n : Int) - ((i + 1 : Nat) : Int)), rawInt c], slots := #[] }) :: news₁) := by
        intro q hq
        rcases List.mem_cons.mp hq with rfl | hq
        · exact ⟨hst, hIL, hI0⟩
        · exact keepN h' hk q hq
      have F₂ := keepF h' hk
      refine wpAny_assign_Name (wpAny_storeName_local hx F₂.ns (fun h'' hn hs => ?_) hp)
      refine wpC_mono (turn i _ t m₁ news₁ h'' _ I _ hlt rfl hJ₁ hne (F₂.set hn hs) (N₂.set hs)) fun f s₃ hf => ?_
      cases f with
      | next =>
        obtain ⟨h3, tk3, m3, news3, rfl, F3, N3, hne3, hJ3⟩ := hf
        exact ⟨k - 1, by omega, i + 1, h3, tk3, m3, news3, _, by omega, rfl, (N3 _ (List.mem_cons_self ..)).1, F3, N3, hne3, hJ3⟩
      | cont =>
        obtain ⟨h3, tk3, m3, news3, rfl, F3, N3, hne3, hJ3⟩ := hf
        exact ⟨k - 1, by omega, i + 1, h3, tk3, m3, news3, _, by omega, rfl, (N3 _ (List.mem_cons_self ..)).1, F3, N3, hne3, hJ3⟩
      | brk => exact hf
      | ret v => exact hf
    · have hin : i = n := by omega
      subst hin
      refine W.done _ _ _ hit fun h' tk' hk => ?_
      exact done m₁ news₁ h' tk' hJ₁ (keepF h' hk) (keepN h' hk)
  · refine ⟨0, _, _, m₀, news₀, { cls := .type "range_iterator", data := .fields #[rawInt a, rawInt (Builtin.Range.rangeSize a b c), rawInt c] }, by omega, rfl, ?_, F.push _, fun q hq => ?_, fun q hq => hI ▸ Nat.ne_of_lt (Heap.lt_size (N q hq).1), hJ⟩
    · subst hI
      show IsRangeIter _ _ _ _ _
      rw [← hn]
      simpa using Heap.get?_push_size _ rfl
    · rcases List.mem_cons.mp hq with rfl | hq
      · subst hI
        exact ⟨Heap.get?_push_size _ rfl, hIL, hI0⟩
      · exact ⟨Heap.get?_push_of_some _ (N q hq).1, (N q hq).2⟩
end
theorem fr_congr {h₀ h : Heap} {L : Addr} {m m' : Str → Option Value} (F : Fr h₀ L h m) (e : ∀ y, m y = m' y) : Fr h₀ L h m' := (funext e : m = m') ▸ F
end Mine
namespace Mine
theorem fill4 : PySem.Challenge.rw_mq0022_01 = PySem.Challenge.rw_mq0022_01 ∧ Mine.hd.heap_39 = Mine.hd.heap_39 := by
  w_top off
  k_fill
  exact ⟨rfl, rfl⟩
theorem dec_enc {d : Int} (h0 : 0 ≤ d) (h1 : d ≤ 35) : decF (encF d) = d := by
  unfold encF decF; split <;> split <;> omega
theorem map_dec_enc {ds : List Int} (h : ∀ d ∈ ds, 0 ≤ d ∧ d ≤ 35) : (ds.map encF).map decF = ds := by
  rw [List.map_map]
  exact (List.map_congr_left (g := _root_.id) fun d hd => dec_enc (h d hd).1 (h d hd).2).trans (List.map_id _)
theorem val_drop_le {b : Int} {ds : List Int} (h : Num b 0 ds) : ∀ i : Nat, val b i (ds.drop i) ≤ val b 0 ds
  | 0 => by simp
  | i + 1 => by
    have ih := val_drop_le h i
    have h1 := thr_hi i b
    have h2 := figs_at h i
    have h3 := val_nonneg (b := b) (j := ((i + 1 : Nat) : Int)) (drop_figs h (i + 1))
    have h4 := le_mul_of_one_le (a := 36 - thr i b) (k := val b ((i + 1 : Nat) : Int) (ds.drop (i + 1))) (t := val b ((i + 1 : Nat) : Int) (ds.drop (i + 1))) (by omega) (Int.le_refl _) h3
    rw [val_step'] at ih
    omega
theorem product_step {near far : Int} {ds es : List Int} {i : Nat} {X : Int} (hX : X = val near ((i + 1 : Nat) : Int) (ds.drop (i + 1)) * val far 0 es) (hX0 : 0 ≤ X) :
    (36 - thr i near) * val far 0 (gen far 0 X) + ds.getD i 0 * val far 0 es = val near i (ds.drop i) * val far 0 es := by
  rw [gen_val hX0, hX, show val near i (ds.drop i) = _ from val_step', Int.add_mul, Int.mul_assoc, Int.add_comm]
theorem fr_look {h₀ h : Heap} {L : Addr} {m : Str → Option Value} {x : Str} {v : Value} (F : Fr h₀ L h m) (e : m x = some v) : Fr h₀ L h (fun y => if y = x then some v else m y) :=
  fr_congr F fun y => by
    by_cases hy : y = x
    · subst hy; rw [if_pos rfl]; exact e
    · rw [if_neg hy]
section
variable {prog : Program} {w : World} {p : Program} {loose : List Str} {mean : ExcName → Option Value} {mg mb : Str → Option Value}
    {dp un : Nat} {gd : Option (List Code)} {cn : Str} {cs : Scope} {a : Addr} {ccd : Value} {cl : List (Str × Addr)} {outer : List Env} {A₀ : Around} {base h₀ : Heap} {L : Addr} {m : Str → Option Value} {s : Shared} {Q E : Value → Shared → Prop} {news : List (Addr × Obj)}
    (B : Below A₀ base outer h₀) (F : Fr h₀ L s.heap m) (X : (Mine.hd.heap_39 w.params).In h₀) (N : News h₀ L s.heap news) (T : Top p loose mean mg mb h₀) (hk : cs.kind = .function)
include B F X N T hk
theorem figures_d {bs : Array UInt8} {ds : List Int} {tb : Tok} (hd : dp + 1 < recursionLimit) (hu : un + 8 < cLine) (hks : KBw.bInts bs = ds.map encF) (hlen : ds.length ≤ 2000001) (hds : ∀ d ∈ ds, 0 ≤ d ∧ d ≤ 35)
    (ret : ∀ (D : Addr) (vs : List Value) (n : Nat) (h' : Heap) (tk' : Nat), IntsAre vs ds → Fr h₀ L h' m → News h₀ L h' ((D, listOf vs.toArray n) :: news) → (∀ q ∈ news, q.1 ≠ D) → Q (.ref D) { s with heap := h', toks := tk' }) :
    wpAny (model prog w) (ktrTop dp un gd cn cs L a ccd cl outer) (call (.ref 47) [.bytes bs tb]) Q E s :=
  figures_c B F X N T hk hd hu hks (by rw [List.length_map]; exact hlen) fun D vs n h' tk' hI F' N' hne => ret D vs n h' tk' (map_dec_enc hds ▸ hI) F' N' hne
end
local macro_rules | `(tactic| walk_at "exec For") => `(tactic| refine Stop.out ?_)
local macro_rules | `(tactic| walk_at "call ref") => `(tactic| (k_here; (with_reducible show wpAny _ _ (call (Value.ref 59) _) _ _ _); refine Stop.out ?_))
local macro_rules | `(tactic| k_mem) => `(tactic| first | assumption | exact List.mem_cons_of_mem _ (by assumption) | exact List.mem_cons_of_mem _ (List.mem_cons_of_mem _ (by assumption)))
local macro_rules | `(tactic| k_all) => `(tactic| assumption)
local macro_rules | `(tactic| walk_at "call builtin:len") => `(tactic| (k_here; (with_reducible show wpAny _ _ (call (Value.builtin "len") [Value.ref _]) _ _ _); k_dflt (refine' len_led ?k1 ?k2 ?k3 ?k4 ?_; (case k1 => k_asm); (case k2 => k_mem); (case k3 => assumption); (case k4 => omega)); intro _ _))
local macro_rules | `(tactic| walk_at "subscriptTail") => `(tactic| (k_here; (with_reducible show wpAny _ _ (subscriptTail _ _ (Value.ref _) (Value.int _ _)) _ _ _); k_dflt (refine' item_led ?k1 ?k2 ?k3 ?k4 ?k5 ?k6 ?_; (case k1 => k_asm); (case k2 => k_mem); (case k3 => assumption); (case k4 => omega); (case k5 => omega); (case k6 => omega)); intro _))
local macro_rules | `(tactic| walk_at "call ref") => `(tactic| (k_here; (with_reducible show wpAny _ _ (call (Value.ref 42) [Value.int _ _, Value.int _ _]) _ _ _); k_dflt (refine' bound_c ?k1 ?k2 ?k3 ?k4 ?k5 ?kK ?kd ?ku ?_; (case k1 => k_asm); (case k2 => k_asm); (case k3 => k_asm); (case k4 => k_asm); (case k5 => k_asm); (case kK => exact rfl); (case kd => ktr_room); (case ku => ktr_units)); intro t9 h9 tk9 F9 N9; (try dsimp only); (try k_fold)))
local macro_rules | `(tactic| walk_at "call ref") => `(tactic| (k_here; (with_reducible show wpAny _ _ (call (Value.ref 47) [Value.bytes _ _]) _ _ _); k_dflt (refine' figures_d ?k1 ?k2 ?k3 ?k4 ?k5 ?kK ?kd ?ku ?kb ?kl ?kf ?_; (case k1 => k_asm); (case k2 => k_asm); (case k3 => k_asm); (case k4 => k_asm); (case k5 => k_asm); (case kK => exact rfl); (case kd => ktr_room); (case ku => ktr_units); (case kb => assumption); (case kl => assumption); (case kf => assumption)); intro D9 vs9 n9 h9 tk9 I9 F9 N9 ne9; (try dsimp only); (try k_fold)))
local macro_rules | `(tactic| walk_at "call ref") => `(tactic| (k_here; (with_reducible show wpAny _ _ (call (Value.ref 52) [Value.ref _]) _ _ _); k_dflt (refine' numeral_c ?k1 ?k2 ?k3 ?k4 ?k5 ?kK ?kd ?ku ?kb ?ki ?kl ?kf ?_; (case k1 => k_asm); (case k2 => k_asm); (case k3 => k_asm); (case k4 => k_asm); (case k5 => k_asm); (case kK => exact rfl); (case kd => ktr_room); (case ku => ktr_units); (case kb => k_mem); (case ki => assumption); (case kl => assumption); (case kf => assumption)); intro bs9 t9 h9 tk9 I9 F9 N9; (try dsimp only); (try k_fold)))
section
variable {prog : Program} {w : World} {p : Program} {loose : List Str} {mean : ExcName → Option Value} {mg mb : Str → Option Value}
    {dp un : Nat} {gd : Option (List Code)} {cn : Str} {cs : Scope} {a : Addr} {ccd : Value} {cl : List (Str × Addr)} {outer : List Env} {A₀ : Around} {base h₀ : Heap} {L : Addr} {m : Str → Option Value} {s : Shared} {Q E : Value → Shared → Prop} {news : List (Addr × Obj)}
    (B : Below A₀ base outer h₀) (F : Fr h₀ L s.heap m) (X : (Mine.hd.heap_39 w.params).In h₀) (N : News h₀ L s.heap news) (T : Top p loose mean mg mb h₀) (hk : cs.kind = .function)
include B F X N T hk
set_option maxHeartbeats 4000000 in
theorem product_c {b1 b2 : Array UInt8} {ds es : List Int} {near far : Int} {t1 t2 t3 t4 : Tok} (hd : dp + 4 < recursionLimit) (hu : un + 40 < cLine) (h1 : KBw.bInts b1 = ds.map encF) (h2 : KBw.bInts b2 = es.map encF) (hn1 : Num near 0 ds) (hn2 : Num far 0 es)
    (hV : val near 0 ds * val far 0 es ≤ 2000000) (hl1 : ds.length ≤ 2000001) (hl2 : es.length ≤ 2000001)
    (ret : ∀ (bs : Array UInt8) (t : Tok) (h' : Heap) (tk' : Nat), KBw.bInts bs = (gen far 0 (val near 0 ds * val far 0 es)).map encF → Fr h₀ L h' m → News h₀ L h' news → Q (.bytes bs t) { s with heap := h', toks := tk' }) :
    wpC (model prog w) (ktrTop dp un gd cn cs L a ccd cl outer) (call (.ref 66) [.bytes b1 t1, .int near t2, .bytes b2 t3, .int far t4]) Q s := by
  have hf1 := hn1.figs
  have hf2 := hn2.figs
  refine wpC_call ?_
  refine codeC_def B F X N T rfl rfl hk (by k_is) (by k_is) (by ktr_room) (BindsTo.of_eq rfl) (locs rfl) ?_ rfl rfl rfl (by decide)
  intro g L' h₁ FG F' N' B' X' T'
  dsimp only
  refine wpC_execs_cons (wpC_of_any ?_)
  k_fold
  k_steps
  refine wpC_execs_cons (wpC_of_any ?_)
  k_fold
  k_steps
  rename_i Dh hA lh hB qA eA Df fv fn h9 tk9 If nef hC fC nC
  refine wpC_execs_cons (wpC_For ?_)
  k_fold
  k_steps
  rename_i tR kR hR tkR t1R u1R v1R isR fR nR keepR
  have hlen0 : 0 < ds.length := List.length_pos_iff.mpr hn1.ne
  have hB0 : 0 ≤ val far 0 es := val_nonneg hf2
  refine range_loop_C (n := ds.length) (fun i m₁ news₁ => ∃ Dh vs c, (m₁ (Str.ofString "have") = some (.ref Dh) ∧ m₁ (Str.ofString "figures") = some (.ref Df) ∧ m₁ (Str.ofString "near") = some (.int near t2) ∧ m₁ (Str.ofString "other") = some (.bytes b2 t3) ∧ m₁ (Str.ofString "far") = some (.int far t4)) ∧
      (Dh, listOf vs.toArray c) ∈ news₁ ∧ (Df, listOf fv.toArray fn) ∈ news₁ ∧ (∀ q ∈ news, q ∈ news₁) ∧ IntsAre vs (gen far 0 (val near ((ds.length - i : Nat) : Int) (ds.drop (ds.length - i)) * val far 0 es)))
    rfl isR (small_down (by omega) (by omega) (by omega) (by omega)) (by rw [rangeSize_downNat]; omega) fR nR ?hJ rfl rfl ?turn ?done
  case hJ =>
    refine ⟨Dh, _, _, ⟨by with_unfolding_all rfl, by with_unfolding_all rfl, by with_unfolding_all rfl, by with_unfolding_all rfl, by with_unfolding_all rfl⟩, List.mem_cons_of_mem _ (List.mem_cons_self ..), List.mem_cons_self .., fun q hq => List.mem_cons_of_mem _ (List.mem_cons_of_mem _ hq), ?_⟩
    rw [Nat.sub_zero, val_end (Nat.le_refl _), Int.zero_mul, gen_last (by have := thr_lo 0 far; omega)]
    exact .cons _ _ .nil
  case turn =>
    rintro i k t m₁ news₁ h tk I oI hi hk' ⟨Dh', vs, c, ⟨m1, m2, m3, m4, m5⟩, hDh, hDf, hsub, hIv⟩ hne fT nT
    clear fR nR isR keepR
    dsimp only
    have fT1 := fr_look (x := Str.ofString "have") fT (by with_unfolding_all exact m1)
    have fT2 := fr_look (x := Str.ofString "figures") fT1 (by with_unfolding_all exact m2)
    have fT3 := fr_look (x := Str.ofString "near") fT2 (by with_unfolding_all exact m3)
    have fT4 := fr_look (x := Str.ofString "other") fT3 (by with_unfolding_all exact m4)
    have fT5 := fr_look (x := Str.ofString "far") fT4 (by with_unfolding_all exact m5)
    clear fT fT1 fT2 fT3 fT4
    obtain ⟨i', hi'⟩ : ∃ i' : Nat, ds.length - i = i' + 1 := ⟨ds.length - i - 1, by omega⟩
    have hki : k = (i' : Int) := by rw [hk']; omega
    subst hki
    rw [hi'] at hIv
    have hlen' : ds.length - (i + 1) = i' := by omega
    refine wpC_execs_cons (wpC_of_any ?_)
    k_fold
    k_steps
    have hv0 : 0 ≤ val near ((i' + 1 : Nat) : Int) (ds.drop (i' + 1)) := val_nonneg (drop_figs hn1 _)
    have hX0 : 0 ≤ val near ((i' + 1 : Nat) : Int) (ds.drop (i' + 1)) * val far 0 es := Int.mul_nonneg hv0 hB0
    have hle1 := Int.mul_le_mul_of_nonneg_right (val_drop_le hn1 (i' + 1)) hB0
    have hle2 := Int.mul_le_mul_of_nonneg_right (val_drop_le hn1 i') hB0
    have hst := product_step (near := near) (far := far) (ds := ds) (es := es) (i := i') rfl hX0
    have hlg := gen_len (b := far) (j := 0) hX0
    have ht1 := thr_lo (i' : Int) near
    have ht2 := thr_hi (i' : Int) near
    have hfa := figs_at hn1 i'
    simp only [Int.toNat_natCast]
    refine columns_c (by k_asm) (by k_asm) (by k_asm) (by k_asm) (by k_asm) rfl (by ktr_room) (by ktr_units) (List.mem_cons_of_mem _ (List.mem_cons_of_mem _ hDh)) (List.mem_cons_self ..) hIv (by assumption) (gen_num hX0) hn2 (by omega) (by omega) hfa.1 hfa.2 (by omega) (by omega) hl2 ?_
    intro D' vs' n' h' tk' hI' F' N' hne'
    rw [hst] at hI'
    dsimp only
    k_fold
    k_steps
    refine wpC_execs_nil ?_
    dsimp only
    rename News _ _ _ _ => nE
    refine ⟨_, _, _, (D', listOf vs'.toArray n') :: news₁, rfl, by assumption, cb_drop nE fun q hq => ?_, fun q hq => ?_, D', vs', n', ⟨by with_unfolding_all rfl, by with_unfolding_all rfl, by with_unfolding_all rfl, by with_unfolding_all rfl, by with_unfolding_all rfl⟩, List.mem_cons_self .., List.mem_cons_of_mem _ hDf, fun q hq => List.mem_cons_of_mem _ (hsub q hq), ?_⟩
    · simp only [List.mem_cons] at hq ⊢
      rcases hq with hq | hq | hq
      · exact .inr (.inr (.inl hq))
      · exact .inl hq
      · exact .inr (.inr (.inr hq))
    · rcases List.mem_cons.mp hq with e | hq
      · rw [e]
        exact Ne.symm (hne' _ (List.mem_cons_of_mem _ (List.mem_cons_self ..)))
      · exact hne q hq
    · rw [hlen']; exact hI'
  case done =>
    rintro m₁ news₁ h tk ⟨Dh', vs, c, ⟨m1, m2, m3, m4, m5⟩, hDh, hDf, hsub, hIv⟩ fT nT
    clear fR nR isR keepR
    dsimp only
    have fT1 := fr_look (x := Str.ofString "have") fT (by with_unfolding_all exact m1)
    clear fT
    rw [Nat.sub_self] at hIv
    have hIv' : IntsAre vs (gen far 0 (val near 0 ds * val far 0 es)) := hIv
    have hA0 : 0 ≤ val near 0 ds * val far 0 es := Int.mul_nonneg (val_nonneg hf1) hB0
    have hfg := (gen_num (b := far) (j := 0) hA0).figs
    have hlg : (gen far 0 (val near 0 ds * val far 0 es)).length ≤ 2000001 := by
      have := gen_len (b := far) (j := 0) hA0
      omega
    clear hIv
    refine wpC_execs_cons (wpC_of_any ?_)
    k_fold
    k_steps
    rename News h₀ L _ _ => kN
    rename KBw.bInts _ = _ => kB
    exact ret _ _ _ _ kB (by k_asm) (cb_drop kN fun q hq => hsub q hq)
end
end Mine
namespace Mine
theorem fill5 : PySem.Challenge.rw_mq0022_01 = PySem.Challenge.rw_mq0022_01 ∧ Mine.hd.heap_39 = Mine.hd.heap_39 := by
  w_top off
  k_fill
  exact ⟨rfl, rfl⟩
/-- a figure's octet in capitals -/
def upF (d : Int) : Int := if d < 26 then d + 65 else d + 22
theorem dec_next {b re we d V : Int} {ds : List Int} {i : Nat} (hV : re + we * val b i (ds.drop i) = V) (hd : d = ds.getD i 0) : (re + d * we) + we * (36 - thr i b) * val b ((i + 1 : Nat) : Int) (ds.drop (i + 1)) = V := by
  rw [← hV, show val b i (ds.drop i) = _ from val_step', hd, Int.mul_add, Int.mul_assoc, Int.mul_comm we (ds.getD i 0), Int.add_assoc]
theorem dec_last {b re we d V : Int} {ds : List Int} {i : Nat} (hV : re + we * val b i (ds.drop i) = V) (hd : d = ds.getD i 0) (hi : i + 1 = ds.length) : re + d * we = V := by
  have := dec_next (b := b) hV hd
  rw [val_end (by omega), Int.mul_zero, Int.add_zero] at this
  exact this
structure DecSt where
  i : Nat
  ep : Int
  te : Tok
  re : Int
  tr : Tok
  we : Int
  tw : Tok
  j : Int
  tj : Tok
local macro_rules | `(tactic| walk_at "exec While") => `(tactic| refine Stop.out ?_)
local macro_rules | `(tactic| walk_at "call ref") => `(tactic| (k_here; (with_reducible show wpAny _ _ (call (Value.ref 21) [Value.int _ _, Value.int _ _]) _ _ _); k_dflt (refine' T_c ?k1 ?k2 ?k3 ?k4 ?k5 ?kK ?kd ?ku ?_; (case k1 => k_asm); (case k2 => k_asm); (case k3 => k_asm); (case k4 => k_asm); (case k5 => k_asm); (case kK => exact rfl); (case kd => ktr_room); (case ku => ktr_units)); intro t9 h9 tk9 F9 N9; (try dsimp only); (try k_fold)))
section
variable {prog : Program} {w : World} {p : Program} {loose : List Str} {mean : ExcName → Option Value} {mg mb : Str → Option Value}
    {dp un : Nat} {gd : Option (List Code)} {cn : Str} {cs : Scope} {a : Addr} {ccd : Value} {cl : List (Str × Addr)} {outer : List Env} {A₀ : Around} {base h₀ : Heap} {L : Addr} {m : Str → Option Value} {s : Shared} {Q E : Value → Shared → Prop} {news : List (Addr × Obj)}
    (B : Below A₀ base outer h₀) (F : Fr h₀ L s.heap m) (X : (Mine.hd.heap_39 w.params).In h₀) (N : News h₀ L s.heap news) (T : Top p loose mean mg mb h₀) (hk : cs.kind = .function)
include B F X N T hk
set_option maxHeartbeats 4000000 in
theorem decode_c {e : Array UInt8} {ks ds : List Int} {po b : Int} {t1 t2 t3 t4 : Tok} (hd : dp + 2 < recursionLimit) (hu : un + 16 < cLine) (he : KBw.bInts e = ks) (hn : Num b 0 ds) (hp0 : 0 ≤ po) (hp1 : po + (ds.length : Int) ≤ (ks.length : Int)) (hl : ks.length ≤ 4000000)
    (hks : ∀ i : Nat, i < ds.length → ks.getD (po.toNat + i) 0 = upF (ds.getD i 0))
    (ret : ∀ (D : Addr) (u1 u2 : Tok) (h' : Heap) (tk' : Nat), Fr h₀ L h' m → News h₀ L h' ((D, { cls := .type "tuple", data := .seq #[.int (po + (ds.length : Int)) u1, .int (val b 0 ds) u2] 0 }) :: news) → (∀ q ∈ news, q.1 ≠ D) → Q (.ref D) { s with heap := h', toks := tk' }) :
    wpAny (model prog w) (ktrTop dp un gd cn cs L a ccd cl outer) (call (.ref 35) [.bytes e t1, .int po t2, .int b t3, .str (Str.ofString "strict") t4]) Q E s := by
  refine wpAny_call ?_
  k_dflt cell_enter
  k_steps
  rename_i fW nW
  refine' ksw_while (σ := DecSt) (fun c => news) (fun c => [(Str.ofString "extpos", .int c.ep c.te), (Str.ofString "result", .int c.re c.tr), (Str.ofString "w", .int c.we c.tw), (Str.ofString "j", .int c.j c.tj)]) (fun c => True) [Str.ofString "char", Str.ofString "digit", Str.ofString "t"]
    (fun c => c.ep = po + (c.i : Int) ∧ c.j = (c.i : Int) ∧ c.i < ds.length ∧ c.re + c.we * val b c.i (ds.drop c.i) = val b 0 ds) (fun c => ds.length - c.i)
    ⟨0, po, t2, 0, _, 1, _, 0, _⟩ fW nW True.intro ?hk ?hp ?turn
  case hk => kst_all
  case hp => exact ⟨by simp, rfl, List.length_pos_iff.mpr hn.ne, by simp⟩
  case turn =>
    rintro ⟨i, ep, te, re, tr, we, tw, j, tj⟩ u h tk hFa ⟨p0, p1, p2, p3⟩ fT nT
    dsimp only [kstB] at fT
    dsimp only at p0 p1 p2 p3 nT
    clear fW nW hFa
    subst p0 p1
    have t1' := thr_lo (i : Int) b
    have t2' := thr_hi (i : Int) b
    have hat := hn.at p2
    have hkc := hks i p2
    have hto : (po + (i : Int)).toNat = po.toNat + i := by omega
    rw [← hto] at hkc
    have hcase : (65 ≤ ks.getD (po + (i : Int)).toNat 0 ∧ ks.getD (po + (i : Int)).toNat 0 ≤ 90 ∧ ks.getD (po + (i : Int)).toNat 0 - 65 = ds.getD i 0) ∨
        (48 ≤ ks.getD (po + (i : Int)).toNat 0 ∧ ks.getD (po + (i : Int)).toNat 0 ≤ 57 ∧ ks.getD (po + (i : Int)).toNat 0 - 22 = ds.getD i 0) := by
      unfold upF at hkc; split at hkc <;> omega
    rcases hcase with ⟨c1, c2, c3⟩ | ⟨c1, c2, c3⟩
    all_goals k_steps
    all_goals first
      | (rename _ < thr _ _ => hlt
         rename News h₀ L _ _ => kN
         rename ∀ q ∈ news, q.1 < _ => lD
         have hi1 : i + 1 = ds.length := hat.2.2.1 (by rw [Int.zero_add, ← c3]; exact hlt)
         have e2 := dec_last p3 c3 hi1
         have e1 : po + (i : Int) + 1 = po + (ds.length : Int) := by omega
         rw [e1, e2] at kN
         exact ret _ _ _ _ _ (by k_asm) kN fun q hq => Nat.ne_of_lt (lD q hq))
      | (rename News _ _ _ _ => nE
         have hge : ¬ ds.getD i 0 < thr (0 + (i : Int)) b := by rw [Int.zero_add]; omega
         have hi1 : i + 1 < ds.length := hat.2.2.2 hge
         have e3 := dec_next p3 c3
         have e4 : po + (i : Int) + 1 = po + ((i + 1 : Nat) : Int) ∧ (i : Int) + 1 = ((i + 1 : Nat) : Int) := ⟨by omega, by omega⟩
         have e5 : ds.length - (i + 1) < ds.length - i := by omega
         exact ksw_end ⟨i + 1, _, _, _, _, _, _, _, _⟩ (by assumption) nE (fun q hq => hq) True.intro (by kst_all) (by ksw_same) ⟨e4.1, e4.2, hi1, e3⟩ e5)
      | fail "an end is left"
end
end Mine
namespace Mine
section
variable {prog : Program} {w : World} {A : Around} {Q : Flow → Shared → Prop} {s : Shared} {env : Env} {h₀ : Heap} {L : Addr}
theorem while_led_C {σ : Type} {test : Expr} {body : List Stmt} {pos : Pos} {m₀ : Str → Option Value} (Led : σ → List (Addr × Obj)) (ps : σ → List (Str × Value)) (Facts : σ → Prop) (stored : List Str) (P : σ → Prop) (μ : σ → Nat) (c₀ : σ)
    (F : Fr h₀ L s.heap m₀) (N : News h₀ L s.heap (Led c₀)) (hf : Facts c₀) (hk : ∀ p ∈ ps c₀, m₀ p.1 = some p.2) (hp : P c₀)
    (turn : ∀ (c : σ) (u : Str → Option Value) h tk, Facts c → P c → Fr h₀ L h (kstB (fun z => if stored.contains z then u z else m₀ z) (ps c)) → News h₀ L h (Led c) →
      wpAny (model prog w) A (isTrue test env (eval test env)) (fun b s₂ => b = true ∧ wpC (model prog w) A (execs body env) (fun f s₃ => match f with
          | .next | .cont => KswEnd h₀ L s Led ps Facts stored m₀ P μ c s₃
          | .brk => Q .next s₃
          | .ret v => Q (.ret v) s₃) s₂) (fun _ _ => False) { s with heap := h, toks := tk }) :
    wpC (model prog w) A (exec (.While test body [] pos) env) Q s := by
  refine wpC_While (fun n s' => ∃ (c : σ) (h : Heap) (tk : Nat) (m₁ : Str → Option Value), s' = { s with heap := h, toks := tk } ∧ μ c = n ∧ Facts c ∧ (∀ p ∈ ps c, m₁ p.1 = some p.2) ∧ (∀ z, (∀ p ∈ ps c, z ≠ p.1) → stored.contains z = false → m₁ z = m₀ z) ∧ P c ∧ Fr h₀ L h m₁ ∧ News h₀ L h (Led c)) ?_ (μ c₀)
    ⟨c₀, s.heap, s.toks, m₀, rfl, rfl, hf, hk, fun _ _ _ => rfl, hp, F, N⟩
  rintro n s' ⟨c, h, tk, m₁, rfl, rfl, hf', h1, h2, hp', F₁, N₁⟩
  refine wpAny_mono (turn c m₁ h tk hf' hp' (ksw_fr h1 h2 F₁) N₁) (fun b s₂ hb => ⟨hb.1, wpC_mono hb.2 fun f s₃ hq => ?_⟩) fun _ _ x => x
  cases f with
  | ret v => exact hq
  | brk => exact hq
  | next =>
    obtain ⟨c', h', tk', m', news', rfl, F', N', hn, hf9, hk9, hr9, hp9, hm9⟩ := hq
    exact ⟨μ c', hm9, c', h', tk', m', rfl, rfl, hf9, hk9, hr9, hp9, F', fun p hp => N' p (hn p hp)⟩
  | cont =>
    obtain ⟨c', h', tk', m', news', rfl, F', N', hn, hf9, hk9, hr9, hp9, hm9⟩ := hq
    exact ⟨μ c', hm9, c', h', tk', m', rfl, rfl, hf9, hk9, hr9, hp9, F', fun p hp => N' p (hn p hp)⟩
end
end Mine
namespace Mine
theorem fill6 : PySem.Challenge.rw_mq0022_01 = PySem.Challenge.rw_mq0022_01 ∧ Mine.hd.heap_39 = Mine.hd.heap_39 := by
  w_top off
  k_fill
  exact ⟨rfl, rfl⟩
abbrev digitsL : List UInt8 := [97, 98, 99, 100, 101, 102, 103, 104, 105, 106, 107, 108, 109, 110, 111, 112, 113, 114, 115, 116, 117, 118, 119, 120, 121, 122, 48, 49, 50, 51, 52, 53, 54, 55, 56, 57]
theorem dig_fin : ∀ n : Fin 36, (((digitsL.getD n.1 0).toNat : Nat) : Int) = encF (n.1 : Int) := by decide
theorem dig_at {d : Int} (h0 : 0 ≤ d) (h1 : d ≤ 35) : (((digitsL.getD d.toNat 0).toNat : Nat) : Int) = encF d := by
  have := dig_fin ⟨d.toNat, by omega⟩
  rw [this]
  show encF ((d.toNat : Nat) : Int) = encF d
  rw [Int.toNat_of_nonneg h0]
theorem encF_byte {d : Int} (h0 : 0 ≤ d) (h1 : d ≤ 35) : 0 ≤ encF d ∧ encF d < 256 := by unfold encF; split <;> omega
theorem ints_push {bs : Array UInt8} {ks : List Int} {v : Int} (hb : KBw.bInts bs = ks) (h0 : 0 ≤ v) (h1 : v < 256) : KBw.bInts (bs.push v.toNat.toUInt8) = ks ++ [v] := by
  have e : ((v.toNat.toUInt8).toNat : Int) = v := by
    have h2 : (v.toNat.toUInt8).toNat = v.toNat := by
      first
        | (show (UInt8.ofNat v.toNat).toNat = v.toNat; rw [UInt8.toNat_ofNat']; omega)
        | (simp; omega)
    rw [h2]; omega
  subst hb
  simp only [KBw.bInts, Array.toList_push, List.map_append, List.map_cons, List.map_nil, e]
theorem gen_fig {b i n : Int} (h : ¬ n < thr i b) : 0 ≤ (n - thr i b).fmod (36 - thr i b) ∧ (n - thr i b).fmod (36 - thr i b) < 36 - thr i b := by
  have h1 := thr_lo i b
  have h2 := thr_hi i b
  rw [Int.fmod_eq_emod_of_nonneg _ (by omega)]
  exact ⟨Int.emod_nonneg _ (by omega), Int.emod_lt_of_pos _ (by omega)⟩
theorem gen_turn {b n V : Int} {i : Nat} {ks : List Int} (h : ¬ n < thr i b) (p1 : ks.length = i) (p3 : (i : Int) + n ≤ 2000000) (p4 : ks ++ gen b i n = gen b 0 V) :
    ((i : Int) + 1 = ((i + 1 : Nat) : Int) ∧ (ks ++ [thr i b + (n - thr i b).fmod (36 - thr i b)]).length = i + 1 ∧ 0 ≤ (n - thr i b).fdiv (36 - thr i b) ∧ ((i + 1 : Nat) : Int) + (n - thr i b).fdiv (36 - thr i b) ≤ 2000000 ∧
      (ks ++ [thr i b + (n - thr i b).fmod (36 - thr i b)]) ++ gen b ((i + 1 : Nat) : Int) ((n - thr i b).fdiv (36 - thr i b)) = gen b 0 V) ∧ ((n - thr i b).fdiv (36 - thr i b)).toNat < n.toNat := by
  have h1 := thr_lo i b
  have h2 := thr_hi i b
  have hd := div_lt h1 h2 h
  rw [Int.fmod_eq_emod_of_nonneg _ (by omega), Int.fdiv_eq_ediv_of_nonneg _ (by omega)]
  refine ⟨⟨by omega, by simp [p1], hd.1, by omega, ?_⟩, by omega⟩
  rw [← p4, gen_more h, List.append_assoc]
  rfl
structure GenSt where
  bs : Array UInt8
  ks : List Int
  n : Int
  tn : Tok
  i : Nat
  j : Int
  tj : Tok
local macro_rules | `(tactic| walk_at "call ref") => `(tactic| (k_here; (with_reducible show wpAny _ _ (call (Value.ref 21) [Value.int _ _, Value.int _ _]) _ _ _); k_dflt (refine' T_c ?k1 ?k2 ?k3 ?k4 ?k5 ?kK ?kd ?ku ?_; (case k1 => k_asm); (case k2 => k_asm); (case k3 => k_asm); (case k4 => k_asm); (case k5 => k_asm); (case kK => exact rfl); (case kd => ktr_room); (case ku => ktr_units)); intro t9 h9 tk9 F9 N9; (try dsimp only); (try k_fold)))
local macro_rules | `(tactic| walk_at "call type:bytes") => `(tactic| (k_here; (with_reducible show wpAny _ _ (call (Value.type "bytes") [Value.ref _]) _ _ _); k_dflt (refine' bytes_of_ba_K ?k1 ?k2 ?k3 ?_; (case k1 => k_asm); (case k2 => exact List.mem_cons_self ..); (case k3 => assumption)); intro _ _))
section
variable {prog : Program} {w : World} {p : Program} {loose : List Str} {mean : ExcName → Option Value} {mg mb : Str → Option Value}
    {dp un : Nat} {gd : Option (List Code)} {cn : Str} {cs : Scope} {a : Addr} {ccd : Value} {cl : List (Str × Addr)} {outer : List Env} {A₀ : Around} {base h₀ : Heap} {L : Addr} {m : Str → Option Value} {s : Shared} {Q E : Value → Shared → Prop} {news : List (Addr × Obj)}
    (B : Below A₀ base outer h₀) (F : Fr h₀ L s.heap m) (X : (Mine.hd.heap_39 w.params).In h₀) (N : News h₀ L s.heap news) (T : Top p loose mean mg mb h₀) (hk : cs.kind = .function)
include B F X N T hk
set_option maxHeartbeats 4000000 in
theorem gen_c {n b : Int} {t1 t2 : Tok} (hd : dp + 2 < recursionLimit) (hu : un + 16 < cLine) (hn0 : 0 ≤ n) (hn1 : n ≤ 2000000)
    (ret : ∀ (bs : Array UInt8) (t : Tok) (h' : Heap) (tk' : Nat), KBw.bInts bs = (gen b 0 n).map encF → Fr h₀ L h' m → News h₀ L h' news → Q (.bytes bs t) { s with heap := h', toks := tk' }) :
    wpC (model prog w) (ktrTop dp un gd cn cs L a ccd cl outer) (call (.ref 28) [.int n t1, .int b t2]) Q s := by
  refine wpC_call ?_
  refine codeC_def B F X N T rfl rfl hk (by k_is) (by k_is) (by ktr_room) (BindsTo.of_eq rfl) (locs rfl) ?_ rfl rfl rfl (by decide)
  intro g L' h₁ FG F' N' B' X' T'
  dsimp only
  refine wpC_execs_cons (wpC_Assign_class0 (n := "bytearray") ?_)
  k_fold
  k_steps
  refine new_ba_K (by k_asm) (by k_asm) ?_
  intro D hA fA nA lA
  k_fold
  k_steps
  refine wpC_execs_cons (wpC_of_any ?_)
  k_fold
  k_steps
  rename News _ _ _ _ => nW
  rename Fr _ _ _ _ => fW
  have hneD : ∀ q ∈ news, q.1 ≠ D := fun q hq => Nat.ne_of_lt (lA q hq)
  refine wpC_execs_cons ?_
  refine' while_led_C (σ := GenSt) (fun c => (D, baObj c.bs) :: news) (fun c => [(Str.ofString "N", .int c.n c.tn), (Str.ofString "j", .int c.j c.tj)]) (fun c => KBw.bInts c.bs = c.ks.map encF) [Str.ofString "t"]
    (fun c => c.j = (c.i : Int) ∧ c.ks.length = c.i ∧ 0 ≤ c.n ∧ (c.i : Int) + c.n ≤ 2000000 ∧ c.ks ++ gen b c.i c.n = gen b 0 n) (fun c => c.n.toNat)
    ⟨#[], [], n, t1, 0, 0, _⟩ fW nW rfl ?hk ?hp ?turn
  case hk => kst_all
  case hp => exact ⟨rfl, rfl, hn0, by simpa using hn1, by simp⟩
  case turn =>
    rintro ⟨bs, ks, n', tn, i, j, tj⟩ u h tk hFa ⟨p0, p1, p2, p3, p4⟩ fT nT
    dsimp only [kstB] at fT
    dsimp only at hFa p0 p1 p2 p3 p4 nT
    clear fW nW
    subst p0
    have t1' := thr_lo (i : Int) b
    have t2' := thr_hi (i : Int) b
    with_reducible show wpAny _ _ _ _ _ _
    k_fold
    k_steps
    refine wpC_execs_cons (wpC_of_any ?_)
    k_fold
    k_steps
    refine wpC_execs_cons (wpC_If (wpC_of_any ?_))
    k_fold
    k_steps
    · refine wpC_execs_cons (wpC_Expr_method (id := "bytearray.append") ?_)
      k_fold
      k_steps
      refine getMethod_ba_append (by k_asm) (List.mem_cons_self ..) ⟨rfl, ?_⟩
      dsimp only
      k_fold
      k_steps
      rename News _ _ _ _ => nB
      have hb := encF_byte p2 (show n' ≤ 35 by omega)
      have hsz : bs.size = i := by rw [← KBw.ints_length bs, hFa, List.length_map, p1]
      rw [dig_at p2 (show n' ≤ 35 by omega)]
      refine append_ba_K (by k_asm) nB (Upd.head hneD) hb.1 hb.2 (by rw [hsz, sizeLine_eq]; omega) ?_
      intro hE fE nE
      refine ⟨rfl, ?_⟩
      have hBn := ints_push hFa hb.1 hb.2
      have hszn : (bs.push (encF n').toNat.toUInt8).size ≤ sizeLine := by rw [Array.size_push, hsz, sizeLine_eq]; omega
      clear nB
      refine wpC_execs_cons (wpC_of_any ?_)
      k_fold
      k_steps
      rename News h₀ L _ _ => kN
      refine ret _ _ _ _ ?_ (by k_asm) (cb_drop kN fun q hq => List.mem_cons_of_mem _ hq)
      rw [hBn, ← p4, gen_last (by assumption), List.map_append]
      rfl
    · refine wpC_execs_nil ?_
      dsimp only
      rename ¬ (_ < thr _ _) => hge
      have hfm := gen_fig hge
      refine wpC_execs_cons (wpC_Expr_method (id := "bytearray.append") ?_)
      k_fold
      k_steps
      refine getMethod_ba_append (by k_asm) (List.mem_cons_self ..) ⟨rfl, ?_⟩
      dsimp only
      k_fold
      k_steps
      rename News _ _ _ _ => nB
      have hb := encF_byte (d := thr (i : Int) b + (n' - thr (i : Int) b).fmod (36 - thr (i : Int) b)) (by omega) (by omega)
      have hsz : bs.size = i := by rw [← KBw.ints_length bs, hFa, List.length_map, p1]
      rw [dig_at (d := thr (i : Int) b + (n' - thr (i : Int) b).fmod (36 - thr (i : Int) b)) (by omega) (by omega)]
      refine append_ba_K (by k_asm) nB (Upd.head hneD) hb.1 hb.2 (by rw [hsz, sizeLine_eq]; omega) ?_
      intro hE fE nE
      refine ⟨rfl, ?_⟩
      have hBn := ints_push hFa hb.1 hb.2
      clear nB
      refine wpC_execs_cons (wpC_of_any ?_)
      k_fold
      k_steps
      refine wpC_execs_cons (wpC_of_any ?_)
      k_fold
      k_steps
      refine wpC_execs_nil ?_
      dsimp only
      rename News _ _ _ _ => nF
      have hgt := gen_turn hge p1 p3 p4
      have hBn' : KBw.bInts (bs.push (encF (thr (i : Int) b + (n' - thr (i : Int) b).fmod (36 - thr (i : Int) b))).toNat.toUInt8) = (ks ++ [thr (i : Int) b + (n' - thr (i : Int) b).fmod (36 - thr (i : Int) b)]).map encF := by
        rw [hBn, List.map_append]; rfl
      refine' ksw_end ⟨bs.push (encF (thr (i : Int) b + (n' - thr (i : Int) b).fmod (36 - thr (i : Int) b))).toNat.toUInt8, ks ++ [thr (i : Int) b + (n' - thr (i : Int) b).fmod (36 - thr (i : Int) b)], _, _, i + 1, _, _⟩ ?e1 nF (fun q hq => hq) hBn' ?e2 ?e3 hgt.1 hgt.2
      case e1 => assumption
      case e2 => kst_all
      case e3 => ksw_same
end
end Mine
namespace Mine
theorem slot_upper : Slot "bytes" "upper" "bytes.upper" :=
  .of (owner := "bytes") (n := "upper") (by rw [typeLookup_type, builtinLookup_eq_fast]; kernel_rfl) (by decide +kernel) (by decide +kernel) (by decide +kernel)
    (by first | exact .inl (by decide +kernel) | exact .inr (by decide +kernel)) (by rw [isSubtype_type]; kernel_rfl)
theorem upper_entry : entryFor table "bytes.upper" = some Builtin.«bytes.upper» := by first | exact entryFor_of_fast (by kernel_rfl) | exact entryFor_of_tree (by kernel_rfl)
theorem upper_args (a : Value) : argsOk "bytes.upper" ⟨[a], []⟩ := by unfold argsOk; kernel_rfl
theorem upper_type : typeOf (.builtin "bytes.upper") = pure (.type "method_descriptor") := by kernel_rfl
theorem bytes_plainAttrs : PlainAttrs "bytes" := ⟨⟨"bytes.__getattribute__", by rw [typeLookup_type, builtinLookup_eq_fast]; kernel_rfl, by decide +kernel⟩, by rw [typeLookup_type, builtinLookup_eq_fast]; kernel_rfl⟩
def upArr (b : Array UInt8) : Array UInt8 := (b.toList.map Builtin.Bytes.toUpper).toArray
section
variable {prog : Program} {w : World} {A : Around} {E : Value → Shared → Prop} {s : Shared} {b c : Array UInt8} {t u : Tok}
theorem getMethod_upper {pl : Sem Bool} {Q : Value × List Value → Shared → Prop} (h : Q (.builtin "bytes.upper", [.bytes b t]) s) : wpAny (model prog w) A (getMethod (.bytes b t) (Str.ofString "upper") pl) Q E s :=
  getMethod_builtin (typeIs_bytes s b t) bytes_plainAttrs slot_upper upper_type (fun a e => nomatch e) h
theorem call_upper {Q : Value → Shared → Prop} (hz : b.size ≤ sizeLine) (h : ∀ t' k, Q (.bytes (upArr b) t') { s with toks := k }) : wpAny (model prog w) A (call (.builtin "bytes.upper") [.bytes b t]) Q E s := by
  refine wpAny_call_entry slot_upper (typeIs_bytes s b t) upper_entry ?_ (upper_args _)
  show wpAny _ _ (do ret (← mkBytes (upArr b))) _ _ s
  exact wpAny_bind (wpAny_mkBytes (wpAny_pure ⟨_, rfl, h _ _⟩) (by rw [upArr, List.size_toArray, List.length_map, Array.length_toList]; exact hz))
theorem ints_inj (h : KBw.bInts b = KBw.bInts c) : b = c := by
  have key : ∀ l l' : List UInt8, l.map (fun x => (x.toNat : Int)) = l'.map (fun x => (x.toNat : Int)) → l = l' := by
    intro l
    induction l with
    | nil => intro l' h; cases l' with | nil => rfl | cons x r => simp at h
    | cons x r ih =>
      intro l' h
      cases l' with
      | nil => simp at h
      | cons y r' =>
        simp only [List.map_cons, List.cons.injEq] at h
        have h1 : x.toNat = y.toNat := by omega
        rw [UInt8.toNat_inj.mp h1, ih r' h.2]
  have := key _ _ h
  exact Array.toList_inj.mp this
theorem ne_same {Q : Value → Shared → Prop} (h : KBw.bInts b = KBw.bInts c) (hq : Q (.bool false) s) : wpAny (model prog w) A (compareOp .NotEq (.bytes b t) (.bytes c u)) Q E s := by
  refine ne_bytes ?_
  rw [ints_inj h]
  simpa using hq
end
theorem up_fin : ∀ n : Fin 36, ((Builtin.Bytes.toUpper (digitsL.getD n.1 0)).toNat : Int) = upF (n.1 : Int) := by decide
theorem up_of {c : UInt8} {d : Int} (h0 : 0 ≤ d) (h1 : d ≤ 35) (hc : (c.toNat : Int) = encF d) : ((Builtin.Bytes.toUpper c).toNat : Int) = upF d := by
  have h2 := dig_at h0 h1
  have h3 : c = digitsL.getD d.toNat 0 := UInt8.toNat_inj.mp (by omega)
  have h4 := up_fin ⟨d.toNat, by omega⟩
  rw [h3]
  rw [h4]
  show upF ((d.toNat : Nat) : Int) = upF d
  rw [Int.toNat_of_nonneg h0]
theorem ints_upper {b : Array UInt8} {ds : List Int} (hds : ∀ d ∈ ds, 0 ≤ d ∧ d ≤ 35) (h : KBw.bInts b = ds.map encF) : KBw.bInts (upArr b) = ds.map upF := by
  have key : ∀ (l : List UInt8) (ds : List Int), (∀ d ∈ ds, 0 ≤ d ∧ d ≤ 35) → l.map (fun x => (x.toNat : Int)) = ds.map encF → (l.map Builtin.Bytes.toUpper).map (fun x => (x.toNat : Int)) = ds.map upF := by
    intro l
    induction l with
    | nil => intro ds _ h; cases ds with | nil => rfl | cons x r => simp at h
    | cons x r ih =>
      intro ds hd h
      cases ds with
      | nil => simp at h
      | cons d ds =>
        simp only [List.map_cons, List.cons.injEq] at h ⊢
        have := hd d (List.mem_cons_self ..)
        exact ⟨up_of this.1 this.2 h.1, ih ds (fun e he => hd e (List.mem_cons_of_mem _ he)) h.2⟩
  exact key _ _ hds h
theorem map_getD {ds : List Int} {f : Int → Int} {i : Nat} (h : i < ds.length) : (ds.map f).getD i 0 = f (ds.getD i 0) := by
  rw [List.getD_eq_getElem?_getD, List.getD_eq_getElem?_getD, List.getElem?_map, List.getElem?_eq_getElem h]; rfl
end Mine
namespace Mine
theorem fill7 : PySem.Challenge.rw_mq0022_01 = PySem.Challenge.rw_mq0022_01 ∧ Mine.hd.heap_39 = Mine.hd.heap_39 := by
  w_top off
  k_fill
  exact ⟨rfl, rfl⟩
theorem thousand (x : Int) : 0 ≤ x.fmod (10 ^ Int.toNat 3) ∧ x.fmod (10 ^ Int.toNat 3) ≤ 999 := by
  have e : (10 : Int) ^ Int.toNat 3 = 1000 := by decide
  rw [e, Int.fmod_eq_emod_of_nonneg _ (by decide)]
  omega
local macro_rules | `(tactic| walk_at "compareOp NotEq bytes bytes") => `(tactic| (refine ne_same (Eq.trans (by assumption) (Eq.symm (by assumption))) ?_))
local macro_rules | `(tactic| walk_at "getMethod bytes") => `(tactic| refine getMethod_upper ?_)
local macro_rules | `(tactic| walk_at "call builtin:bytes.upper") => `(tactic| (refine call_upper (by assumption) ?_; intro t9 k9; dsimp only))
local macro_rules | `(tactic| walk_at "call ref") => `(tactic| refine Stop.out ?_)
theorem at0 {ds : List Int} : ∀ i : Nat, i < ds.length → (ds.map upF).getD ((0 : Int).toNat + i) 0 = upF (ds.getD i 0) := by
  intro i hi
  rw [show (0 : Int).toNat + i = i by omega]
  exact map_getD hi
theorem at1 {ds : List Int} {x : Int} {r : List Int} : ∀ i : Nat, i < ds.length → (x :: (ds.map upF ++ r)).getD ((1 : Int).toNat + i) 0 = upF (ds.getD i 0) := by
  intro i hi
  rw [show (1 : Int).toNat + i = i + 1 by omega, List.getD_cons_succ, List.getD_eq_getElem?_getD, List.getElem?_append_left (by rw [List.length_map]; exact hi), ← List.getD_eq_getElem?_getD]
  exact map_getD hi
theorem led_ne {D l : Addr} {o : Obj} {news : List (Addr × Obj)} (h : D < l ∧ AllLt l news) : ∀ p ∈ (D, o) :: news, p.1 ≠ l := by
  intro p hp
  rcases List.mem_cons.mp hp with rfl | hp
  · exact Nat.ne_of_lt h.1
  · exact Nat.ne_of_lt (allLt_at h.2 p hp)
section
variable {prog : Program} {w : World} {p : Program} {loose : List Str} {mean : ExcName → Option Value} {mg mb : Str → Option Value}
    {dp un : Nat} {gd : Option (List Code)} {cn : Str} {cs : Scope} {a : Addr} {ccd : Value} {cl : List (Str × Addr)} {outer : List Env} {A₀ : Around} {base h₀ : Heap} {L : Addr} {m : Str → Option Value} {s : Shared} {Q E : Value → Shared → Prop} {news : List (Addr × Obj)}
    (B : Below A₀ base outer h₀) (F : Fr h₀ L s.heap m) (X : (Mine.hd.heap_39 w.params).In h₀) (N : News h₀ L s.heap news) (T : Top p loose mean mg mb h₀) (hk : cs.kind = .function)
include B F X N T hk
set_option maxHeartbeats 8000000 in
theorem pair_c {one two : Int} {t1 t2 : Tok} (hd : dp + 8 < recursionLimit) (hu : un + 80 < cLine)
    (ret : ∀ (h' : Heap) (tk' : Nat), Fr h₀ L h' m → News h₀ L h' news → Q (.bool true) { s with heap := h', toks := tk' }) :
    wpC (model prog w) (ktrTop dp un gd cn cs L a ccd cl outer) (call (.ref 73) [.int one t1, .int two t2]) Q s := by
  refine wpC_call ?_
  refine codeC_def B F X N T rfl rfl hk (by k_is) (by k_is) (by ktr_room) (BindsTo.of_eq rfl) (locs rfl) ?_ rfl rfl rfl (by decide)
  intro g L' h₁ FG F' N' B' X' T'
  dsimp only
  refine wpC_execs_cons (wpC_of_any ?_)
  k_fold
  k_steps
  refine wpC_execs_cons (wpC_of_any ?_)
  k_fold
  k_steps
  refine wpC_execs_cons (wpC_of_any ?_)
  k_fold
  k_steps
  refine wpC_execs_cons (wpC_of_any ?_)
  k_fold
  k_steps
  rename Fr _ _ _ _ => fr
  have hl := thousand (if one < 0 then -one else one)
  have hr := thousand (if two < 0 then -two else two)
  generalize (if one < 0 then -one else one).fmod (10 ^ Int.toNat 3) = left at fr hl
  generalize (if two < 0 then -two else two).fmod (10 ^ Int.toNat 3) = ri at fr hr
  generalize one.fmod 320 - 32 = far at fr
  generalize two.fmod 320 - 32 = near at fr
  have hr' : 26 ≤ 26 + ri ∧ 26 + ri ≤ 1025 := by omega
  generalize 26 + ri = right at fr hr'
  clear hr ri
  have hlr0 : 0 ≤ left * right := Int.mul_nonneg (by omega) (by omega)
  have hlr1 : left * right ≤ 999 * 1025 := Int.mul_le_mul (by omega) (by omega) (by omega) (by omega)
  have hA0 : (0 : Int) ≤ left := hl.1
  have hB0 : (0 : Int) ≤ right := by omega
  -- the numerals
  have na := gen_num (b := near) (j := 0) hA0
  have nb := gen_num (b := far) (j := 0) hB0
  have va := gen_val (b := near) (j := 0) hA0
  have vb := gen_val (b := far) (j := 0) hB0
  have la := gen_len (b := near) (j := 0) hA0
  have lb := gen_len (b := far) (j := 0) hB0
  refine wpC_execs_cons (wpC_Assign_Name (wpC_Call_Name ?_))
  k_fold
  k_steps
  refine wpC_callWith_K (K := Mine.hd.heap_39 w.params) (by k_is) (wpC_of_any ?_)
  k_fold
  k_steps
  refine gen_c (by k_asm) (by k_asm) (by k_asm) (by k_asm) (by k_asm) rfl (by ktr_room) (by ktr_units) hA0 (by omega) ?_
  intro bA tA h9 tk9 iA F9 N9
  dsimp only
  k_fold
  k_steps
  -- there
  refine wpC_execs_cons (wpC_Assign_Name (wpC_Call_Name ?_))
  k_fold
  k_steps
  refine wpC_callWith_K (K := Mine.hd.heap_39 w.params) (by k_is) (wpC_of_any ?_)
  k_fold
  k_steps
  refine gen_c (by k_asm) (by k_asm) (by k_asm) (by k_asm) (by k_asm) rfl (by ktr_room) (by ktr_units) hB0 (by omega) ?_
  intro bB tB h9b tk9b iB F9b N9b
  dsimp only
  k_fold
  k_steps
  -- isinstance
  refine wpC_execs_cons (wpC_of_any ?_)
  k_fold
  k_steps
  -- both
  refine wpC_execs_cons (wpC_Assign_Name (wpC_Call_Name ?_))
  k_fold
  k_steps
  refine wpC_callWith_K (K := Mine.hd.heap_39 w.params) (by k_is) (wpC_of_any ?_)
  k_fold
  k_steps
  refine product_c (by k_asm) (by k_asm) (by k_asm) (by k_asm) (by k_asm) rfl (by ktr_room) (by ktr_units) iA iB na nb (by rw [va, vb]; omega) (by omega) (by omega) ?_
  intro bC tC h9c tk9c iC F9c N9c
  rw [va, vb] at iC
  dsimp only
  k_fold
  k_steps
  -- the product under the second bias
  refine wpC_execs_cons (wpC_If (wpC_isTrue_Compare1 (wpC_Call_Name ?_)))
  k_fold
  k_steps
  refine wpC_callWith_K (K := Mine.hd.heap_39 w.params) (by k_is) (wpC_of_any ?_)
  k_fold
  k_steps
  refine gen_c (by k_asm) (by k_asm) (by k_asm) (by k_asm) (by k_asm) rfl (by ktr_room) (by ktr_units) hlr0 (by omega) ?_
  intro bD tD h9d tk9d iD F9d N9d
  dsimp only
  refine wpC_of_any ?_
  k_fold
  k_steps
  refine wpC_execs_nil ?_
  dsimp only
  -- the other way about
  refine wpC_execs_cons (wpC_If (wpC_isTrue_Compare1 (wpC_Call_Name ?_)))
  k_fold
  k_steps
  refine wpC_callWith_K (K := Mine.hd.heap_39 w.params) (by k_is) (wpC_of_any ?_)
  k_fold
  k_steps
  refine gen_c (by k_asm) (by k_asm) (by k_asm) (by k_asm) (by k_asm) rfl (by ktr_room) (by ktr_units) hlr0 (by omega) ?_
  intro bE tE h9e tk9e iE F9e N9e
  dsimp only
  refine wpC_Call_Name ?_
  k_fold
  k_steps
  refine wpC_callWith_K (K := Mine.hd.heap_39 w.params) (by k_is) (wpC_of_any ?_)
  k_fold
  k_steps
  refine product_c (by k_asm) (by k_asm) (by k_asm) (by k_asm) (by k_asm) rfl (by ktr_room) (by ktr_units) iB iA nb na (by rw [va, vb, Int.mul_comm]; omega) (by omega) (by omega) ?_
  intro bF tF h9f tk9f iF F9f N9f
  rw [va, vb, Int.mul_comm] at iF
  dsimp only
  k_fold
  k_steps
  refine wpC_execs_nil ?_
  dsimp only
  -- by the numeral of 1
  have n1G := gen_num (b := far) (j := 0) (show (0 : Int) ≤ 1 by omega)
  have v1G := gen_val (b := far) (j := 0) (show (0 : Int) ≤ 1 by omega)
  have l1G := gen_len (b := far) (j := 0) (show (0 : Int) ≤ 1 by omega)
  refine wpC_execs_cons (wpC_If (wpC_isTrue_Compare1 (wpC_Call_Name ?_)))
  k_fold
  k_steps
  refine wpC_callWith_K (K := Mine.hd.heap_39 w.params) (by k_is) (wpC_of_any ?_)
  k_fold
  k_steps
  refine gen_c (by k_asm) (by k_asm) (by k_asm) (by k_asm) (by k_asm) rfl (by ktr_room) (by ktr_units) hA0 (by omega) ?_
  intro bG tG h9G tk9G iG F9G N9G
  dsimp only
  refine wpC_Call_Name ?_
  k_fold
  k_steps
  refine wpC_callWith_K (K := Mine.hd.heap_39 w.params) (by k_is) ?_
  refine wpC_args_cons (wpC_of_any ?_)
  k_fold
  k_steps
  refine wpC_args_cons (wpC_of_any ?_)
  k_fold
  k_steps
  refine wpC_args_cons (wpC_Call_Name ?_)
  k_fold
  k_steps
  refine wpC_callWith_K (K := Mine.hd.heap_39 w.params) (by k_is) (wpC_of_any ?_)
  k_fold
  k_steps
  refine gen_c (by k_asm) (by k_asm) (by k_asm) (by k_asm) (by k_asm) rfl (by ktr_room) (by ktr_units) (show (0 : Int) ≤ 1 by omega) (by omega) ?_
  intro cG uG g9G tg9G icG G9G M9G
  dsimp only
  refine wpC_args_cons (wpC_of_any ?_)
  k_fold
  k_steps
  refine wpC_args_nil ⟨by k_in, ?_⟩
  refine product_c (by k_asm) (by k_asm) (by k_asm) (by k_asm) (by k_asm) rfl (by ktr_room) (by ktr_units) iA icG na n1G (by rw [va, v1G, Int.mul_one]; omega) (by omega) (by omega) ?_
  intro dG wG f9G tf9G idG H9G O9G
  rw [va, v1G, Int.mul_one] at idG
  dsimp only
  k_fold
  k_steps
  refine wpC_execs_nil ?_
  dsimp only
  -- by the numeral of 1
  have n1H := gen_num (b := near) (j := 0) (show (0 : Int) ≤ 1 by omega)
  have v1H := gen_val (b := near) (j := 0) (show (0 : Int) ≤ 1 by omega)
  have l1H := gen_len (b := near) (j := 0) (show (0 : Int) ≤ 1 by omega)
  refine wpC_execs_cons (wpC_If (wpC_isTrue_Compare1 (wpC_Call_Name ?_)))
  k_fold
  k_steps
  refine wpC_callWith_K (K := Mine.hd.heap_39 w.params) (by k_is) (wpC_of_any ?_)
  k_fold
  k_steps
  refine gen_c (by k_asm) (by k_asm) (by k_asm) (by k_asm) (by k_asm) rfl (by ktr_room) (by ktr_units) hB0 (by omega) ?_
  intro bH tH h9H tk9H iH F9H N9H
  dsimp only
  refine wpC_Call_Name ?_
  k_fold
  k_steps
  refine wpC_callWith_K (K := Mine.hd.heap_39 w.params) (by k_is) ?_
  refine wpC_args_cons (wpC_of_any ?_)
  k_fold
  k_steps
  refine wpC_args_cons (wpC_of_any ?_)
  k_fold
  k_steps
  refine wpC_args_cons (wpC_Call_Name ?_)
  k_fold
  k_steps
  refine wpC_callWith_K (K := Mine.hd.heap_39 w.params) (by k_is) (wpC_of_any ?_)
  k_fold
  k_steps
  refine gen_c (by k_asm) (by k_asm) (by k_asm) (by k_asm) (by k_asm) rfl (by ktr_room) (by ktr_units) (show (0 : Int) ≤ 1 by omega) (by omega) ?_
  intro cH uH g9H tg9H icH G9H M9H
  dsimp only
  refine wpC_args_cons (wpC_of_any ?_)
  k_fold
  k_steps
  refine wpC_args_nil ⟨by k_in, ?_⟩
  refine product_c (by k_asm) (by k_asm) (by k_asm) (by k_asm) (by k_asm) rfl (by ktr_room) (by ktr_units) iB icH nb n1H (by rw [vb, v1H, Int.mul_one]; omega) (by omega) (by omega) ?_
  intro dH wH f9H tf9H idH H9H O9H
  rw [vb, v1H, Int.mul_one] at idH
  dsimp only
  k_fold
  k_steps
  refine wpC_execs_nil ?_
  dsimp only
  -- the readings
  have zA : bA.size ≤ sizeLine := by
    have := congrArg List.length iA
    rw [List.length_map, KBw.bInts, List.length_map, Array.length_toList] at this
    rw [this, sizeLine_eq]; omega
  have zB : bB.size ≤ sizeLine := by
    have := congrArg List.length iB
    rw [List.length_map, KBw.bInts, List.length_map, Array.length_toList] at this
    rw [this, sizeLine_eq]; omega
  have lc := gen_len (b := far) (j := 0) hlr0
  have zC : bC.size ≤ sizeLine := by
    have := congrArg List.length iC
    rw [List.length_map, KBw.bInts, List.length_map, Array.length_toList] at this
    rw [this, sizeLine_eq]; omega
  have uA := ints_upper na.figs iA
  have uB := ints_upper nb.figs iB
  have uC := ints_upper (gen_num (b := far) (j := 0) hlr0).figs iC
  refine wpC_execs_cons (wpC_of_any ?_)
  k_fold
  k_steps
  refine decode_c (by k_asm) (by k_asm) (by k_asm) (by k_asm) (by k_asm) rfl (by ktr_room) (by ktr_units) uA na (Int.le_refl 0) (by rw [List.length_map]; omega) (by rw [List.length_map]; omega) at0 ?_
  intro D1 v1 w1 h1 k1 fr1 nw1 ne1
  rw [va] at nw1
  dsimp only
  k_fold
  k_steps
  refine wpC_execs_cons (wpC_of_any ?_)
  k_fold
  k_steps
  refine decode_c (by k_asm) (by k_asm) (by k_asm) (by k_asm) (by k_asm) rfl (by ktr_room) (by ktr_units) uB nb (Int.le_refl 0) (by rw [List.length_map]; omega) (by rw [List.length_map]; omega) at0 ?_
  intro D2 v2 w2 h2 k2 fr2 nw2 ne2
  rw [vb] at nw2
  dsimp only
  k_fold
  k_steps
  rename _ < _ ∧ AllLt _ news => lt1
  refine append_K fr2 nw2 (Upd.tail (Ne.symm (ne2 _ (List.mem_cons_self ..))) (Upd.head (led_ne lt1))) ?_ (by show 1 ≤ sizeLine; rw [sizeLine_eq]; decide)
  intro h3 fr3 nw3
  dsimp only
  k_steps
  refine wpC_execs_cons (wpC_of_any ?_)
  k_fold
  k_steps
  have uC' : KBw.bInts (#[57] ++ upArr bC ++ #[57]) = 57 :: ((gen far 0 (left * right)).map upF ++ [57]) := by
    rw [← uC]; unfold KBw.bInts; simp
  have nc := gen_num (b := far) (j := 0) hlr0
  have vc := gen_val (b := far) (j := 0) hlr0
  refine decode_c (by k_asm) (by k_asm) (by k_asm) (by k_asm) (by k_asm) rfl (by ktr_room) (by ktr_units) uC' nc (by decide) (by rw [List.length_cons, List.length_append, List.length_map, List.length_singleton]; omega) (by rw [List.length_cons, List.length_append, List.length_map, List.length_singleton]; omega) at1 ?_
  intro D3 v3 w3 h4 k4 fr4 nw4 ne4
  rw [vc] at nw4
  dsimp only
  k_fold
  k_steps
  refine append_K fr4 nw4 (Upd.tail (Ne.symm (ne4 _ (List.mem_cons_of_mem _ (List.mem_cons_self ..)))) (Upd.tail (Ne.symm (ne2 _ (List.mem_cons_self ..))) (Upd.head (led_ne lt1)))) ?_ (by show 2 ≤ sizeLine; rw [sizeLine_eq]; decide)
  intro h5 fr5 nw5
  dsimp only
  k_steps
  refine wpC_execs_cons (wpC_of_any ?_)
  k_fold
  k_steps
  rename News h₀ L _ _ => kN
  have e1 : (0 + ((gen near 0 left).length : Int) == ((gen near 0 left).length : Int)) = true := by rw [Int.zero_add]; exact beq_self_eq_true _
  have e2 : (0 + ((gen far 0 right).length : Int) == ((gen far 0 right).length : Int)) = true := by rw [Int.zero_add]; exact beq_self_eq_true _
  rw [e1, e2]
  refine ret _ _ (by k_asm) (cb_drop kN fun q hq => ?_)
  simp only [List.mem_cons]
  exact .inr (.inr (.inr (.inr (.inr (.inr (.inr (.inr hq)))))))
end
end Mine
namespace Mine
open PySem.Calls PySem.Spec
/-- the law itself, called by the claim -/
theorem topC {prog : Program} {w : World} {A : Around} {Q : Value → Shared → Prop} {s : Shared} {name : Str} {params : Arguments} {body : List Stmt} {scope : Scope}
    {dV kV pm cd doc : Value} {a : Addr} {o : Obj} {vals : List Value} {binds : List (Str × Value)}
    (hroom : A.depth < recursionLimit) (ho : s.heap.get? a = some o) (hdata : o.data = .func { docDef name params body scope pm cd doc with defaults := dV, kwdefaults := kV }) (hlim : s.heap.NoLimit) (hcd : s.heap.CodeRec cd name)
    (hbind : BindsTo s { docDef name params body scope pm cd doc with defaults := dV, kwdefaults := kV } ⟨vals, []⟩ binds)
    (hloc : ∀ x ∈ binds, scope.names.lookup x.1 = some .local)
    (h : ∀ h₁, Fr s.heap s.heap.objs.size h₁ (fun x => binds.reverse.lookup x) →
      wpC (model prog w) (A.deeper (envOf name scope s.heap.objs.size a cd)) (execs body (envOf name scope s.heap.objs.size a cd))
        (fun f s' => Q (match f with | .ret v => v | _ => .none) s')
        { s with heap := h₁, toks := s.toks + binds.length })
    (hco : scope.isCoroutine = false := by rfl) (hgen : scope.isGenerator = false := by rfl) (hk : scope.kind = .function := by rfl)
    (hcell : ∀ x ∈ scope.names, x.2 ≠ .cell := by decide) :
    wpC (model prog w) A (PySem.call (.ref a) vals) Q s := by
  refine wpC_call ?_
  obtain ⟨c, oc', vs', tq, hc, hoc, hdc, hq⟩ := hcd
  refine codeC_of_tree rfl ?_
  show wpC _ A.in1 (callAny (.ref a) ⟨vals, []⟩) _ s
  simp only [callAny]
  obtain ⟨ocl, od, odata, osl⟩ := o
  subst hdata
  refine wpC_bind (wpC_of_any (wpAny_load ho ?_))
  simp only [callFunction, docDef, hco, hgen, hc]
  refine wpC_bind (m := field (.ref c) 1) (wpC_of_any (wpAny_field hoc hdc hq (wpC_bind (wpC_pure ?_))))
  rw [← hc]
  refine wpC_bind (wpC_of_any (hbind _ _ _ _ (wpC_bind (wpC_of_any (wpAny_newFunctionEnv hcell hloc (fun h₁ hns hsb => ?_) hk)))))
  refine wpC_bind (wpC_of_any (wpAny_enterFrame (hlim.fresh _ hsb) hroom (wpC_pure ⟨rfl, codeC_func ?_⟩)))
  have hk₁ : ∀ b o, s.heap.get? b = some o → h₁.get? b = some o := fun b o e => hsb.extBut b o (Nat.ne_of_lt (Heap.lt_size e)) (Heap.get?_push_of_some _ e)
  exact h h₁ ⟨hns, hk₁, Nat.le_refl _⟩
end Mine
namespace Mine
theorem fill8 : PySem.Challenge.rw_mq0022_01 = PySem.Challenge.rw_mq0022_01 ∧ Mine.hd.heap_39 = Mine.hd.heap_39 := by
  w_top off
  k_fill
  exact ⟨rfl, rfl⟩
theorem size_two {n : Nat} (h : n ≤ 4) : Builtin.Range.rangeSize 0 (n : Int) 2 = (((n + 1) / 2 : Nat) : Int) := by
  rw [rangeSize_pos (by decide) (by omega)]
  omega
theorem small_two {n : Nat} (h : n ≤ 4) : Builtin.Range.small 0 (n : Int) 2 = true := by
  have : n = 0 ∨ n = 1 ∨ n = 2 ∨ n = 3 ∨ n = 4 := by omega
  rcases this with rfl | rfl | rfl | rfl | rfl <;> decide
theorem mod_in {k : Int} {n : Nat} (h : 0 < n) : 0 ≤ (k + 1).fmod (n : Int) ∧ (k + 1).fmod (n : Int) < (n : Int) := by
  rw [Int.fmod_eq_emod_of_nonneg _ (by omega)]
  exact ⟨Int.emod_nonneg _ (by omega), Int.emod_lt_of_pos _ (by omega)⟩
/-- what the law has drawn -/
def Drawn (s₁ : Shared) (L : Addr) (fl : Flow) (s' : Shared) : Prop :=
  fl = .next ∧ ∃ (h : Heap) (tk : Nat) (m : Str → Option Value) (D : Addr) (vs : List Value) (ns : List Int) (r : List (Addr × Obj)), s' = { s₁ with heap := h, toks := tk } ∧ Fr s₁.heap L h m ∧ m (Str.ofString "drawn") = some (.ref D) ∧ News s₁.heap L h r ∧ (D, listOf vs.toArray 0) ∈ r ∧ IntsAre vs ns ∧ 0 < ns.length ∧ ns.length ≤ 4
theorem Drawn.mk {s₁ : Shared} {h : Heap} {tk : Nat} {L D : Addr} {m : Str → Option Value} {vs : List Value} {ns : List Int} {r : List (Addr × Obj)} (F : Fr s₁.heap L h m) (hm : m (Str.ofString "drawn") = some (.ref D)) (N : News s₁.heap L h ((D, listOf vs.toArray 0) :: r)) (hI : IntsAre vs ns) (h0 : 0 < ns.length) (h4 : ns.length ≤ 4) :
    Drawn s₁ L .next { s₁ with heap := h, toks := tk } :=
  ⟨rfl, h, tk, m, D, vs, ns, _, rfl, F, hm, N, List.mem_cons_self .., hI, h0, h4⟩
local macro_rules | `(tactic| walk_at "exec For") => `(tactic| refine Mine.Stop.out ?_)
local macro_rules | `(tactic| k_mem) => `(tactic| first | assumption | exact List.mem_cons_of_mem _ (by assumption) | exact List.mem_cons_of_mem _ (List.mem_cons_of_mem _ (by assumption)))
local macro_rules | `(tactic| k_all) => `(tactic| assumption)
local macro_rules | `(tactic| walk_at "call builtin:len") => `(tactic| (k_here; (with_reducible show wpAny _ _ (call (Value.builtin "len") [Value.ref _]) _ _ _); k_dflt (refine' Mine.len_led ?k1 ?k2 ?k3 ?k4 ?_; (case k1 => k_asm); (case k2 => k_mem); (case k3 => assumption); (case k4 => omega)); intro _ _))
local macro_rules | `(tactic| walk_at "subscriptTail") => `(tactic| (k_here; (with_reducible show wpAny _ _ (subscriptTail _ _ (Value.ref _) (Value.int _ _)) _ _ _); k_dflt (refine' Mine.item_led ?k1 ?k2 ?k3 ?k4 ?k5 ?k6 ?_; (case k1 => k_asm); (case k2 => k_mem); (case k3 => assumption); (case k4 => omega); (case k5 => omega); (case k6 => omega)); intro _))
set_option maxHeartbeats 8000000 in
theorem whole : PySem.Challenge.rw_mq0022_01.Holds := by
  refine Mine.hd ?_
  intro w s₀ s₁ mg mb G Y fa o pm cd doc dV kV ho hd hcd hD hmg hg args vals as hpre hlay hrd hwl hlo
  have KX := kIn_of Y
  have X := (Ground.X G).1
  have V := (Ground.X G).2
  refine Ground.open G ?_
  intro T B D TE TW
  try (refine guard_noD D (by decide +kernel) ?_; clear D)
  clear hmg
  wrow_args hpre hlay hrd hwl hlo
  w_top on
  have K0 := below_caller (Top.heap T)
  have he := Dflts.none hD rfl
  subst he
  refine Mine.topC (by decide) ho hd (Top.nolimit T) hcd (BindsTo.of_eq rfl) (locs rfl) fun h₁ F => ?_
  w_binds F
  have N0 := (News.nil : News _ _ _ []).at F
  clear hd
  k_drop
  refine Mine.wpC_execs_cons (Mine.wpC_mono (Q := Mine.Drawn s₁ s₁.heap.objs.size) (Mine.wpC_of_any ?first) ?rest)
  case first =>
    k_fold
    k_steps
    all_goals (rename Fr _ _ _ _ => fD; rename News _ _ _ _ => nD)
    · exact Mine.Drawn.mk fD (by with_unfolding_all rfl) nD (by assumption) (by assumption) (by rw [List.length_take]; omega)
    · exact Mine.Drawn.mk (vs := [_, _]) (ns := [798, 4]) fD (by with_unfolding_all rfl) nD (.cons _ _ (.cons _ _ .nil)) (by decide) (by decide)
  case rest =>
    rintro fl s' ⟨rfl, h, tk, m, D, vs, ns, news, rfl, fM, hm, nM, hDm, hI, h0, h4⟩
    clear F N0
    have fD := Mine.fr_look fM hm
    clear fM
    dsimp only
    refine Mine.wpC_execs_cons (Mine.wpC_For ?_)
    k_fold
    k_steps
    rename IsRange _ _ _ _ _ _ _ _ => isR
    rename Fr _ _ _ _ => fR
    rename News _ _ _ _ => nR
    refine Mine.range_loop_C (fun i m₁ news₁ => m₁ (Str.ofString "drawn") = some (.ref D) ∧ (D, PySem.W.listOf vs.toArray 0) ∈ news₁) rfl isR (Mine.small_two h4) (Mine.size_two h4) fR nR ⟨by with_unfolding_all rfl, hDm⟩ rfl rfl ?turn ?done
    case turn =>
      rintro i k t m₁ news₁ h tk I oI hi hk' ⟨m1, hDm1⟩ hne fT nT
      clear fR nR isR
      dsimp only
      have fT1 := Mine.fr_look (x := Str.ofString "drawn") fT (by with_unfolding_all exact m1)
      clear fT
      have hk0 : 0 ≤ k := by omega
      have hk1 : k < (ns.length : Int) := by omega
      obtain ⟨hm0, hm1⟩ := Mine.mod_in (k := k) h0
      have hlp : (0 : Int) < (ns.length : Int) := by omega
      refine Mine.wpC_execs_cons (Mine.wpC_If (Mine.wpC_isTrue_not (Mine.wpC_isTrue_call (Mine.wpC_Call_Name ?_))))
      k_fold
      k_steps
      refine Mine.wpC_callWith_K (K := Mine.hd.heap_39 w.params) (by k_is) (Mine.wpC_of_any ?_)
      k_fold
      k_steps
      refine pair_c (by k_asm) (by k_asm) (by k_asm) (by k_asm) (by k_asm) rfl (by ktr_room) (by ktr_units) ?_
      intro h9 tk9 F9 N9
      dsimp only
      k_fold
      k_steps
      refine wpC_execs_nil ?_
      dsimp only
      refine wpC_execs_nil ?_
      dsimp only
      exact ⟨_, _, _, news₁, rfl, F9, N9, hne, by with_unfolding_all rfl, hDm1⟩
    case done =>
      rintro m₁ news₁ h tk ⟨m1, hDm1⟩ fT nT
      clear fR nR isR
      dsimp only
      refine Mine.wpC_execs_cons (Mine.wpC_of_any ?_)
      k_fold
      k_steps
      refine GoodW.toG (goodW_bool fT hg (raisesW_false ?_) ?_ rfl)
      · wrow_none_raised
      · wrow_post
end Mine
set_option maxHeartbeats 4000000 in
theorem PySem.Challenge.cw_mq0022_01_holds : PySem.Challenge.rw_mq0022_01.Holds := by
  exact Mine.whole
