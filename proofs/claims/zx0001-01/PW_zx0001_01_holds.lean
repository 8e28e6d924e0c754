import PyProof.Rows.All
import Wide.All
import OpenK.AllK
import Wide.FinOn
import KE.BitLaws
import Lean
import PySem.Challenge.RW_zx0001_01
set_option Elab.async false
set_option linter.all false

section
open PySem PySem.W PyProof.Rows
set_option maxRecDepth 100000
namespace Mine
open Sem (wp)

def heldIds : List String := ["bytearray.__contains__", "bytearray.__mod__", "bytearray.__rmod__", "_struct.pack_into.held", "bytearray.find.held"] ++ Builtin.Bytes.decodersThatHold
def heldCode : Code → Bool
  | .builtin id _ => heldIds.contains id
  | _ => false
def Clean (Γ : Ctx) : Prop := heldCode Γ.code = false ∧ ∀ x ∈ Γ.below, heldCode x.1 = false

/-- the logic over the clean contexts alone: no builtin that holds a bytearray's buffer stands on the stack; nothing is raised -/
def wpC {α : Type} (M : Model) (A : Around) (t : Sem α) (Q : α → Shared → Prop) (s : Shared) : Prop :=
  ∀ Γ p, Γ.In A → Clean Γ → wp M Γ t (fun a _ s' => Q a s') (fun _ _ _ => False) p s
def CRes (R : Flow → Shared → Prop) (r : Result) (s : Shared) : Prop := match r with
  | .ok f => R f s
  | .error _ => False
def codeC (M : Model) (A : Around) (c : Code) (R : Flow → Shared → Prop) (s : Shared) : Prop :=
  ∀ Γ p, Γ.code = c → Γ.Below A → Clean Γ → wpCode M Γ (CRes R) p s

section
variable {α β : Type} {M : Model} {A : Around} {s : Shared}
theorem leafC {t : Sem α} {Q : α → Shared → Prop} (h : wpAny M A t Q (fun _ _ => False) s) : wpC M A t Q s := fun Γ p hΓ _ => h Γ p hΓ
theorem wpC_mono {t : Sem α} {Q Q' : α → Shared → Prop} (h : wpC M A t Q s) (k : ∀ a s', Q a s' → Q' a s') : wpC M A t Q' s :=
  fun Γ p a b => Sem.wp_mono M Γ t (fun x _ s' => k x s') (fun _ _ _ h' => h') p s (h Γ p a b)
theorem wpC_pure {a : α} {Q : α → Shared → Prop} (h : Q a s) : wpC M A (pure a) Q s := fun _ _ _ _ => h
theorem wpC_bind {m : Sem α} {f : α → Sem β} {Q : β → Shared → Prop} (h : wpC M A m (fun a s' => wpC M A (f a) Q s') s) : wpC M A (m >>= f) Q s := fun Γ p a b => by
  rw [Sem.wp_bind']
  exact Sem.wp_mono M Γ m (fun x p' s' h' => h' Γ p' a b) (fun _ _ _ h' => h') p s (h Γ p a b)
theorem wpC_bindL {m : Sem α} {f : α → Sem β} {Q : β → Shared → Prop} (h : wpAny M A m (fun a s' => wpC M A (f a) Q s') (fun _ _ => False) s) : wpC M A (m >>= f) Q s := wpC_bind (leafC h)
theorem wpC_holding {vs : List Value} {m : Sem α} {Q : α → Shared → Prop} (h : wpC M A m Q s) : wpC M A (holding vs m) Q s := fun Γ p a b => by rw [Sem.wp_holding]; exact h Γ p a b
theorem wpC_standAt {pos : Pos} {Q : Unit → Shared → Prop} (h : Q () s) : wpC M A (standAt pos) Q s := fun _ _ _ _ => h
theorem wpC_onRaise {m : Sem α} {k : Value → Sem Unit} {Q : α → Shared → Prop} (h : wpC M A m Q s) : wpC M A (m.onRaise k) Q s := fun Γ p a b => by
  rw [Sem.wp_onRaise]
  exact Sem.wp_mono M Γ m (fun _ _ _ h' => h') (fun _ _ _ h' => h'.elim) p s (h Γ p a b)
theorem wpC_operate {vs : List Value} {m : Sem Value} {Q : Value → Shared → Prop} (h : wpC M A m Q s) : wpC M A (operate vs m) Q s := fun Γ p a b => by rw [Sem.wp_operate]; exact h Γ p a b
theorem clean_enter {Γ : Ctx} (b : Clean Γ) {c : Code} {hd : Option Value} {p : Pos} (e : heldCode c = false) : Clean (Γ.enter c hd p) :=
  ⟨e, fun x hx => by
    cases hx with
    | head => exact b.1
    | tail _ hx => exact b.2 x hx⟩
theorem wpC_run {c : Code} {Q : Flow → Shared → Prop} (hc : codeC M A c Q s) (e : heldCode c = false := by rfl) : wpC M A (run c none) Q s := fun Γ p a b => by
  rw [Sem.wp_run]
  exact wpCode_mono (fun r s' hr => by cases r with | ok f => exact hr | error e => exact hr) (hc (Γ.enter c none p) p rfl (a.enter c none p (by intro x; cases x)) (clean_enter b e))
theorem wpC_runValue {c : Code} {Q : Value → Shared → Prop} (hc : codeC M A c (fun f s' => match f with | .ret v => Q v s' | _ => False) s) (e : heldCode c = false := by rfl) : wpC M A (runValue c) Q s := fun Γ p a b => by
  rw [Sem.wp_runValue]
  exact wpCode_mono (fun r s' hr => by
    cases r with
    | ok f => cases f <;> exact hr
    | error e => exact hr) (hc (Γ.enter c none p) p rfl (a.enter c none p (by intro x; cases x)) (clean_enter b e))
theorem wpC_call {f : Value} {pos : List Value} {kw : List (Str × Value)} {Q : Value → Shared → Prop} (hc : codeC M A (.call f ⟨pos, kw⟩) (fun f s' => match f with | .ret v => Q v s' | _ => False) s) : wpC M A (call f pos kw) Q s := wpC_runValue hc rfl
theorem codeC_mono {c : Code} {R R' : Flow → Shared → Prop} (h : codeC M A c R s) (k : ∀ f s', R f s' → R' f s') : codeC M A c R' s := fun Γ p a b d =>
  wpCode_mono (fun r s' hr => by cases r with | ok f => exact k f s' hr | error e => exact hr) (h Γ p a b d)
theorem leafC_code {c : Code} {R : Flow → Shared → Prop} (h : codeAny M A c (CRes R) s) : codeC M A c R s := fun Γ p a b _ => h Γ p a b
theorem codeC_of_tree {c : Code} {R : Flow → Shared → Prop}
    (h : wpC M (A.under c) (M.den c) (fun fin s' => match fin with | .done f => R f s' | .again c' => c'.quiet = true ∧ heldCode c' = false ∧ codeC M A c' R s') s) : codeC M A c R s := fun Γ p hc hΓ b => by
  rw [wpCode_iff_wp, hc]
  refine Sem.wp_mono M Γ _ (fun fin p' s' h' => ?_) (fun _ _ _ h' => h'.elim) p s (h Γ p (hc ▸ hΓ.in) b)
  cases fin with
  | done f => exact h'
  | again c' => exact ⟨h'.1, h'.2.2 (Γ.goto c') p' rfl (hΓ.goto c') ⟨h'.2.1, b.2⟩⟩
end

section
variable {prog : Program} {w : World} {A : Around} {s : Shared} {R : Flow → Shared → Prop}
theorem codeC_func {body : List Stmt} {env : Env} (h : wpC (model prog w) (A.deeper env) (execs body env) (fun f s' => R (.ret (match f with | .ret v => v | _ => .none)) s') s) : codeC (model prog w) A (.func body env) R s := by
  refine codeC_of_tree ?_
  show wpC _ (A.deeper env) (do point; match ← (execs body env).onRaise (leaving env) with | .ret v => ret v | _ => ret .none) _ s
  refine wpC_bind (leafC (wpAny_point (wpC_bind (wpC_onRaise (wpC_mono h fun f s' h' => ?_)))))
  cases f <;> exact wpC_pure h'
theorem codeC_call_function {a : Addr} {args : Args} {o : Obj} {fd : FuncData} {body : List Stmt} (hroom : A.depth < recursionLimit)
    (ho : s.heap.get? a = some o)
    (hd' : o.data = .func fd) (hco : fd.scope.isCoroutine = false) (hgen : fd.scope.isGenerator = false) (hbody : fd.body = .stmts body) (hcd : s.heap.CodeRec fd.code fd.qualname)
    (h : wpAny (model prog w) A.in1 (bindArgs fd args) (fun binds s₁ =>
      wpAny (model prog w) A.in1 (newFunctionEnv fd.scope fd.globals fd.closure binds (fd.qualname ++ ".<locals>.") (some a) fd.code none fd.builtins)
        (fun env s₂ => s₂.heap.NoLimit ∧ codeC (model prog w) A (.func body env) R s₂) (fun _ _ => False) s₁) (fun _ _ => False) s) :
    codeC (model prog w) A (.call (.ref a) args) R s := by
  refine codeC_of_tree (leafC ?_)
  show wpAny _ A.in1 (callAny (.ref a) args) _ _ s
  simp only [callAny]
  refine wpAny_bind (wpAny_load ho ?_)
  obtain ⟨c, oc, vs, tq, hc, hoc, hdc, hq⟩ := hcd
  simp only [hd', callFunction, hco, hgen, hbody, hc]
  rw [hc] at h
  refine wpAny_bind (m := field (.ref c) 1) (wpAny_field hoc hdc hq (wpAny_bind (wpAny_pure ?_)))
  exact wpAny_bind (wpAny_mono h (fun binds s₁ h₁ => wpAny_bind (wpAny_mono h₁ (fun env s₂ h₂ => wpAny_bind (wpAny_enterFrame h₂.1 hroom
    (wpAny_pure ⟨rfl, rfl, h₂.2⟩))) fun _ _ h' => h')) fun _ _ h' => h')
theorem codeC_call_def {a : Addr} {o : Obj} {fd : FuncData} {body : List Stmt} {args : Args} {binds : List (Str × Value)}
    (hroom : A.depth < recursionLimit) (ho : s.heap.get? a = some o) (hdata : o.data = .func fd) (hlim : s.heap.NoLimit) (hcd : s.heap.CodeRec fd.code fd.qualname)
    (hbody : fd.body = .stmts body) (hbind : BindsTo s fd args binds)
    (hcell : ∀ x ∈ fd.scope.names, x.2 ≠ .cell) (hloc : ∀ x ∈ binds, fd.scope.names.lookup x.1 = some .local)
    (h : ∀ h₀, h₀.Ns s.heap.objs.size (fun x => binds.reverse.lookup x) → (∀ b o, s.heap.get? b = some o → h₀.get? b = some o) →
      wpC (model prog w) (A.deeper (callEnv fd s.heap.objs.size a)) (execs body (callEnv fd s.heap.objs.size a)) (fun f s' => R (.ret (match f with | .ret v => v | _ => .none)) s')
        { s with heap := h₀, toks := s.toks + binds.length })
    (hco : fd.scope.isCoroutine = false := by rfl) (hgen : fd.scope.isGenerator = false := by rfl) (hk : fd.scope.kind = .function := by rfl) :
    codeC (model prog w) A (.call (.ref a) args) R s := by
  refine codeC_call_function hroom ho hdata hco hgen hbody hcd (hbind _ _ _ _ ?_)
  refine wpAny_newFunctionEnv hcell hloc (fun h₀ hns₀ hsb₀ => ⟨hlim.fresh _ hsb₀, codeC_func (h h₀ hns₀ fun b o e => ?_)⟩) hk
  exact hsb₀.extBut b o (Nat.ne_of_lt (Heap.lt_size e)) (Heap.get?_push_of_some _ e)
end
end Mine
end

section
open PySem PySem.W PySem.Calls PyProof.Rows
set_option maxRecDepth 100000
namespace Mine
open Sem (wp)
theorem clean_caller : Clean ⟨.builtin "claim.caller" {}, none, none, [], none⟩ := ⟨(show heldIds.contains "claim.caller" = false by decide +kernel), fun _ h => nomatch h⟩
/-- a tree that ends well in every clean context ends its thread -/
theorem thread_endsC {prog : Program} {w : World} {t : Sem Fin} {s : Shared} {R : Result → Shared → Prop} (hreg : s.asleep)
    (h : wpC (model prog w) callerA t (fun fin s' => ∃ f, fin = .done f ∧ (R (.ok f) s' ∧ leftWithCleanup s'.gens = false)) s) :
    ∃ n r s' s'', runN (denote table) prog w n s ⟨t, .builtin "claim.caller" {}, default, []⟩ = .halted (outcomeOf r) s' ∧
      schedN (denote table) prog w n (.single s ⟨t, .builtin "claim.caller" {}, default, []⟩) = .halted (outcomeOf r) s' ∧ s'.forget = s''.forget ∧ R r s'' := by
  have hw : wp (model prog w) ⟨.builtin "claim.caller" {}, none, none, [], none⟩ t (Sem.finPost (model prog w) ⟨.builtin "claim.caller" {}, none, none, [], none⟩ fun r s' => R r s' ∧ leftWithCleanup s'.gens = false)
      (fun e _ s' => R (.error e) s' ∧ leftWithCleanup s'.gens = false) default s :=
    Sem.wp_mono _ _ t (fun fin p' s' h' => by
      obtain ⟨f, rfl, hf⟩ := h'
      exact hf) (fun _ _ _ h' => h'.elim) default s (h _ default caller_in clean_caller)
  obtain ⟨n, r, s₁, s₂, hs, hn, hfo, hR⟩ := wp_halts_full (M := model prog w) (R := R) hreg hw
  exact ⟨n, r, s₂, s₁, hn, hs, hfo, hR⟩

abbrev WalkC (q : Program) (loose : List Str) (XP : (Str → Option Value) → Heap → Prop) (YP : World → Heap → Prop) (r : RowW) (d : DefRec) (kwd : List (Str × Expr)) : Prop :=
  ∀ (w : World) (s₀ s₁ : Shared) (mg mb : Str → Option Value), Ground q loose r.records XP w s₀ mg mb s₁.heap → YP w s₁.heap → ∀ (a : Addr) (o : Obj) (pm cd doc dV kV : Value), s₁.heap.get? a = some o →
    o.data = .func { docDef d.name d.params d.body d.scope pm cd doc with defaults := dV, kwdefaults := kV } → s₁.heap.CodeRec cd d.name → Dflts mg s₁.heap d.params kwd dV kV → mg d.name = some (.ref a) → s₁.gens = #[] →
    ∀ (args : List WData) (vals : List Value) (as : List Addr), r.claim.pre args = true → WData.layableAll args = true → ReadsAllW r.records (classAt s₀.heap) s₁.heap vals args as → WellAll w.params s₁.heap vals args → (∀ a ∈ as, (a == sysModules) = false) →
      codeC (model r.prog w) callerA (.call (.ref a) ⟨vals, []⟩) (fun f s' => ∃ v, f = .ret v ∧ GoodWG r.claim (classAt s₀.heap) (ExcName.means s₀.heap) args s₁ (.ok (.ret v)) s') s₁
end Mine
namespace Mine.PySem.W
/-- the head for a walk in the clean logic: k_head, used inside the namespace Mine, comes to this one -/
theorem holds_open {r : OpenRow} {q : Program} {loose : List Str} {Xt : Shared → Bool} {XP : (Str → Option Value) → Heap → Prop} {α : Type} {Yf : Shared → α} {Ya : World → α} {YP : World → Heap → Prop} {d : DefRec} {kwd : List (Str × Expr)} {N : Nat}
    (left : LeftO r.prog q loose Xt Yf Ya N) (hY : ∀ w s, Yf s = Ya w → YP w s.heap) (hYk : ∀ w h h', YP w h → (∀ b o, h.get? b = some o → h'.get? b = some o) → YP w h')
    (hX : ∀ s, Xt s = true → XP (s.heap.nsMap mainGlobals) s.heap) (hXk : ∀ mg h h', XP mg h → (∀ b o, h.get? b = some o → h'.get? b = some o) → XP mg h')
    (hdef : defOf q r.name = some (d, kwd)) (hp : r.prog.theDef r.name = some (d.params, d.body, d.scope)) (hk : kwWritten? d.params.kwonlyargs d.params.kw_defaults = some kwd) (hRf : ∀ s, Xt s = true → RecFacts r.records s.heap) (hwr : (!r.writes || r.records.isEmpty) = true)
    (k1 : r.wellSaid = true) (ok : (chainsOk q && opensWell r.prog && (frees r.toRowW && r.within.isEmpty)) = true) (hb : r.prog.bare) (hw : r.toRowW.promised)
    (call : WalkC q loose XP YP r.toRowW d kwd) : r.Holds := by
  refine ⟨k1, hw, ?_⟩
  have hall := ok
  obtain ⟨hall, k5⟩ := Bool.and_eq_true_iff.mp hall
  obtain ⟨hch, o1⟩ := Bool.and_eq_true_iff.mp hall
  obtain ⟨k5, k6⟩ := Bool.and_eq_true_iff.mp k5
  obtain ⟨hsame, hu, ha, _, hm⟩ := frees_parts k5
  have hi := ident_freeW hu ha ‹_›
  have hwi : r.toRowW.claim.within = [] := List.isEmpty_iff.mp k6
  refine ⟨⟨hb, o1, by show r.toRowW.makers.map _ = []; rw [hm]; rfl⟩, hw.witness, fun w => ⟨(left.behind hX hch w).1, fun s' hs' => ?_⟩⟩
  obtain ⟨s₀, hf, hg0, s, hT, hz, hgens, hg, G00, y⟩ := (left.behind (XP := fun mg h => XP mg h ∧ RecFacts r.records h) (fun s hs => ⟨hX s hs, hRf s hs⟩) hch w).2 s' hs'
  have G0 : Ground q loose [] XP w s (s.heap.nsMap mainGlobals) (s.heap.nsMap builtinsNs) s.heap := ⟨G00.T, G00.B, G00.D, G00.TE, G00.TD, G00.W, G00.X.1, G00.cls, G00.has, G00.apart, G00.once, G00.K⟩
  have RF := G00.X.2
  refine ⟨s₀, hf, hg0, s, hT, (fun n hn => ?_), RF.1, RF.2.1, ?_⟩
  · obtain rfl : n = r.name := by split at hn <;> simp_all
    exact pinned_of_view hg G0 hdef hp hk
  have hgens0 : s.gens = #[] := Array.eq_empty_of_size_eq_zero (beq_iff_eq.mp hgens)
  have G : Ground q loose r.records XP w s _ _ s.heap := RF.ground G0
  intro args hpre hlay ord hord
  obtain ⟨⟨vs, s₁⟩, hlaid⟩ := Option.isSome_iff_exists.mp (layAllW_isSome (P := w.params) (ord := ord) G.has args r.args s (pre_splitW hpre).1)
  have keeps := layAllW_keeps _ _ _ hlaid
  have hal := layAllW_rest _ _ _ hlaid
  obtain ⟨as, hrd, hin, hold⟩ := reads_layAllW hord _ _ _ hlaid hlay s₁.heap (fun _ _ e => e)
  have L : Laid r.records w s s₁ args vs as := ⟨⟨ord, hord, hlaid⟩, hrd, hin, hold, keeps, hal.1.trans hgens0, hal.2.2.1⟩
  have G₁ := G.keeps hXk keeps
  obtain ⟨a, o, pm, cd, doc, dV, kV, h1, h2, h3, h4, h5⟩ := G₁.fn hdef
  have walk := call w s s₁ _ _ G₁ (hYk _ _ _ (hY w s y) keeps) a o pm cd doc dV kV h2 h3 h4 h5 (defOf_name hdef ▸ h1) L.gens args vs as hpre hlay L.reads L.well (L.low G.low)
  obtain ⟨k, res, s', s'', hrun, hsched, hfo, hcase, hos, hkp⟩ := thread_endsC (prog := r.prog) (w := w) (s := s₁)
    (t := do match ← nsGet mainNs r.name with
      | some f => do ret (← PySem.call f vs)
      | none => unsupported "claim.caller:no-such-global")
    (R := fun res s' => r.toRowW.claim.Ends s args vs s₁ res s' ∧ s'.os = s.os ∧ (r.writes = true → namesKept r.prog r.keeps s.heap s'.heap ∧ ∀ x ∈ r.records, ∀ a, classAt s.heap x.1 = some a → recordClass s'.heap a x.1 (x.2.map (·.1)) = true))
    (Shared.asleep_of_life hal.2.2.2 hz)
    (wpC_bindL (wpAny_nsGet G₁.T.g (by
      rw [h1]
      refine wpC_bind (wpC_mono (wpC_call (codeC_mono walk fun f s' hf => ?_)) fun v s' hv => wpC_pure hv)
      obtain ⟨v, rfl, g⟩ := hf
      have z := g.laid (c := r.toRowW.claim) hsame hwi hi L
      exact ⟨_, rfl, ⟨z.1, z.2.1, fun q => ⟨namesKept_of hT hg r.keeps keeps g.2.1.old, noTable hwr q⟩⟩, leftWithCleanup_false_of_bare z.2.2⟩)))
  obtain ⟨eh, _, _, eo, _⟩ := Shared.forget_eq hfo
  have hcase := hcase.congr eh
  rw [← eh] at hkp
  rw [← eo] at hos
  have hlife : s'.heap.life = s.heap.life := (runN_life _ _ _ hrun).trans hal.2.2.2
  refine ⟨vs, s₁, hlaid, k, _, s', hsched, ?_, (fun _ i x hx => by rw [hgens0] at hx; simp at hx), hkp, by rw [hlife], Shared.rest_eq hos⟩
  rcases hcase with ⟨v, rfl, d1, d2, d3, d4, d5⟩ | ⟨e, ob, cls, rfl, d1, d2, d3, d4, d5⟩
  · exact .inl ⟨v, rfl, d1, d2, d3, fun b o y _ => d4 b o y, d5⟩
  · exact .inr ⟨e, ob, cls, rfl, d1, d2, d3, d4, fun b o y _ => d5 b o y⟩
end Mine.PySem.W
end

section
open PySem PySem.W PyProof.Rows
namespace Mine
set_option maxRecDepth 100000 in
set_option maxHeartbeats 8000000 in
open_top hd for PySem.Challenge.rw_zx0001_01
end Mine
end

section
open PySem PySem.W PyProof.Rows
namespace Mine
set_option maxRecDepth 100000
set_option maxHeartbeats 8000000

theorem fillF (P : Params) : PySem.Challenge.rw_zx0001_01 = PySem.Challenge.rw_zx0001_01 ∧ hd.heap_39 P = hd.heap_39 P := by
  k_fill
  exact ⟨rfl, rfl⟩

def josL : Nat → List Int → Int
  | 0, ns => ns.headD 0
  | k + 1, ns => if 1 < ns.length then josL k (ns.drop 2 ++ ns.take 1) else ns.headD 0
def josR (ns : List Int) : Int := josL ns.length ns
theorem josR_step {ns : List Int} (h : 1 < ns.length) : josR (ns.drop 2 ++ ns.take 1) = josR ns := by
  have e : (ns.drop 2 ++ ns.take 1).length + 1 = ns.length := by
    rw [List.length_append, List.length_drop, List.length_take]; omega
  unfold josR
  rw [← e]
  show _ = josL (_ + 1) ns
  rw [josL, if_pos h]
def josOf (n : Int) : Int := josR (rangeKs 1 n.toNat)

theorem news_hd3 {h₀ h : Heap} {L : Addr} {p q r u : Addr × Obj} {news : List (Addr × Obj)} (N : News h₀ L h (p :: q :: r :: u :: news)) : News h₀ L h (p :: news) := fun x hx => by
  rcases List.mem_cons.mp hx with rfl | hx
  · exact N _ (.head _)
  · exact N _ (.tail _ (.tail _ (.tail _ (.tail _ hx))))

theorem left_ok {w : World} {p : Program} {loose : List Str} {mean : ExcName → Option Value} {mg mb : Str → Option Value}
  (dp un : Nat) (gd : Option (List Code)) (cn : Str) (cs : Scope) (a : Addr) (ccd : Value) (cl : List (Str × Addr)) (outer : List Env) (A₀ : Around) (base h₀ : Heap) (L : Addr) (m : Str → Option Value) (news : List (Addr × Obj)) (s : Shared) (n : Int) (t : Tok)
    (Q E : Value → Shared → Prop) (B : Below A₀ base outer h₀) (F : Fr h₀ L s.heap m) (X : (hd.heap_39 w.params).In h₀) (N : News h₀ L s.heap news) (T : Top p loose mean mg mb h₀) (hk : cs.kind = .function)
    (hn : 1 ≤ n) (hn2 : n ≤ 300) (hd : dp + 1 < recursionLimit) (hu : un + 8 < cLine) (hret : CbRet h₀ L m news s Q (fun t => .int (josOf n) t)) :
    wpAny (model PySem.Challenge.rw_zx0001_01.row.prog w) (ktrTop dp un gd cn cs L a ccd cl outer) (call (.ref 42) [.int n t]) Q E s := by
  refine wpAny_call ?_
  k_dflt cell_enter
  repeat' ((fail_if_success (with_reducible show wpAny _ _ (exec (Stmt.While _ _ _ _) _) _ _ _)); first | (k_unfold; (try dsimp only)) | (k_end; wrow_close) | walk1 | (dsimp only; walk1) | (leave1; walk_say "STEP leave1"; try dsimp only) | fail "no step")
  rename Fr _ _ _ _ => lF'
  rename News _ _ _ _ => lN'
  rename IntsAre _ _ => lI'
  rename ∀ p : Addr × Obj, p ∈ news → p.1 < _ => lD'
  refine While_inv2 (n₀ := n.toNat) (fun k m₁ nx => ∃ (D : Addr) (vs : List Value) (c : Nat) (ns : List Int) (u : Str → Option Value), m₁ = (fun y => if y = Str.ofString "ring" then some (Value.ref D) else u y) ∧ nx = (D, PySem.W.listOf vs.toArray c) :: news ∧ IntsAre vs ns ∧ ns.length = k ∧ 1 ≤ k ∧ k ≤ 300 ∧ josR ns = josOf n ∧ (∀ p ∈ news, p.1 < D)) lF' lN' ?_ ?_
  · refine ⟨_, _, _, _, _, rfl, rfl, lI', ?_, ?_, ?_, ?_, lD'⟩
    · rw [rangeKs_length]; omega
    · omega
    · omega
    · unfold josOf; congr 2; omega
  · clear lF' lN' lI' lD'
    rintro k m₁ nx h₁ tk₁ F₁ N₁ ⟨D, vs, c, ns, u, rfl, rfl, hI, hlen, hk1, hk2, hj, hD⟩
    k_steps
    · rename Fr _ _ _ _ => F9
      rename News _ _ _ _ => N9
      rename IntsAre _ _ => I9
      rename _ < _ ∧ _ < _ ∧ _ < _ ∧ AllLt _ news => l9
      rename (1 : Int) < _ => h9
      refine ⟨_, _, _, _, k - 1, rfl, F9, news_hd3 N9, ?_, _, _, _, _, _, rfl, rfl, I9, ?_, ?_, ?_, ?_, ?_⟩
      · omega
      · rw [List.length_append, List.length_drop, List.length_take]; omega
      · omega
      · omega
      · rw [josR_step (by omega), hj]
      · exact kst_ltOf l9.2.2.2
    · rename ¬ (1 : Int) < _ => h9
      refine cb_retI hret ?_ (by k_asm) (cb_drop (by k_asm) fun q hq => .tail _ hq)
      rw [← hj]
      match ns, hlen with
      | [], h => simp at h; omega
      | [x], _ => rfl
      | x :: y :: r, _ => simp only [List.length_cons] at h9; omega
end Mine
end

section
namespace Mine
def bval : List Int → Int
  | [] => 0
  | d :: r => d + 2 * bval r
def seg (ds : List Int) (i j : Nat) : List Int := (ds.drop i).take (j - i)
def Bits (ds : List Int) : Prop := ∀ x ∈ ds, 0 ≤ x ∧ x ≤ 1

theorem bval_append (xs ys : List Int) : bval (xs ++ ys) = bval xs + 2 ^ xs.length * bval ys := by
  induction xs with
  | nil => simp [bval]
  | cons x r ih =>
    simp only [List.cons_append, bval, ih, List.length_cons]
    rw [Int.pow_succ, Int.mul_add, Int.mul_comm (2 ^ r.length) 2, Int.mul_assoc]
    omega
theorem bval_bounds {ds : List Int} (h : Bits ds) : 0 ≤ bval ds ∧ bval ds < 2 ^ ds.length := by
  induction ds with
  | nil => simp [bval]
  | cons x r ih =>
    have h1 := ih fun y hy => h y (.tail _ hy)
    have h2 := h x (.head _)
    simp only [bval, List.length_cons, Int.pow_succ]
    omega
theorem seg_append {ds : List Int} {i m j : Nat} (h1 : i ≤ m) (h2 : m ≤ j) : seg ds i m ++ seg ds m j = seg ds i j := by
  unfold seg
  have e1 : j - i = (m - i) + (j - m) := by omega
  rw [e1, List.take_add, List.drop_drop]
  congr 3
  omega
theorem seg_length {ds : List Int} {i j : Nat} (h2 : j ≤ ds.length) : (seg ds i j).length = j - i := by
  unfold seg
  rw [List.length_take, List.length_drop]; omega
theorem seg_bits {ds : List Int} {i j : Nat} (h : Bits ds) : Bits (seg ds i j) := fun x hx => h x (List.mem_of_mem_drop (List.mem_of_mem_take hx))
theorem bval_seg {ds : List Int} {i m j : Nat} (h1 : i ≤ m) (h2 : m ≤ j) (h3 : j ≤ ds.length) : bval (seg ds m j) * 2 ^ (m - i) + bval (seg ds i m) = bval (seg ds i j) := by
  rw [← seg_append h1 h2, bval_append, seg_length (Nat.le_trans h2 h3), Int.mul_comm, Int.add_comm]
theorem bval_seg_lt {ds : List Int} {i j : Nat} (h : Bits ds) (h2 : j ≤ ds.length) (h3 : ds.length ≤ 30) : 0 ≤ bval (seg ds i j) ∧ bval (seg ds i j) < 2 ^ 30 := by
  have h1 := bval_bounds (seg_bits (i := i) (j := j) h)
  refine ⟨h1.1, Int.lt_of_lt_of_le h1.2 ?_⟩
  rw [seg_length h2]
  exact_mod_cast Nat.pow_le_pow_right (n := 2) (by decide) (show j - i ≤ 30 by omega)
theorem bval_seg_one {ds : List Int} {i : Nat} (h : i < ds.length) : bval (seg ds i (i + 1)) = ds.getD i 0 := by
  have e : seg ds i (i + 1) = [ds[i]] := by
    unfold seg
    rw [List.drop_eq_getElem_cons h, show i + 1 - i = 1 by omega]
    rfl
  rw [e]
  simp [bval, h]
theorem seg_all (ds : List Int) : seg ds 0 ds.length = ds := by simp [seg]
end Mine
end

section
open PySem
namespace Mine
theorem land_high (y n : Nat) : y &&& (y / 2 ^ n * 2 ^ n) = y / 2 ^ n * 2 ^ n := by
  apply Nat.eq_of_testBit_eq
  intro i
  rw [Nat.testBit_and, Nat.testBit_mul_two_pow]
  by_cases h : n ≤ i
  · have : Nat.testBit (y / 2 ^ n) (i - n) = Nat.testBit y i := by
      rw [Nat.testBit_div_two_pow]; congr 1; omega
    simp [h, this]
  · simp [h]
theorem xor_low {y : Int} (n : Nat) (h0 : 0 ≤ y) : Builtin.bitXor y (y.fdiv (2 ^ n) * 2 ^ n) = y % 2 ^ n := by
  have hp : (0 : Int) < 2 ^ n := Int.pow_pos (by decide)
  rw [Int.fdiv_eq_ediv_of_nonneg _ (Int.le_of_lt hp)]
  have hq : 0 ≤ y / 2 ^ n := Int.ediv_nonneg h0 (Int.le_of_lt hp)
  have hb : 0 ≤ y / 2 ^ n * 2 ^ n := Int.mul_nonneg hq (Int.le_of_lt hp)
  rw [PyProof.Rows.bitXor_and, PyProof.Rows.bitAnd_pp h0 hb]
  obtain ⟨m, rfl⟩ : ∃ m : Nat, y = m := ⟨y.toNat, by omega⟩
  have e : ((m : Int) / 2 ^ n * 2 ^ n) = ((m / 2 ^ n * 2 ^ n : Nat) : Int) := by norm_cast
  have e2 : ((m : Int) % 2 ^ n) = ((m % 2 ^ n : Nat) : Int) := by norm_cast
  rw [e, e2, Int.toNat_natCast, Int.toNat_natCast, land_high]
  have := Nat.div_add_mod m (2 ^ n)
  rw [Nat.mul_comm] at this
  generalize m / 2 ^ n * 2 ^ n = z at *
  omega

theorem xor_low' {y : Int} (n : Nat) (h0 : 0 ≤ y) : Builtin.bitXor y (y / 2 ^ n * 2 ^ n) = y % 2 ^ n := by
  have h := xor_low n h0
  rwa [Int.fdiv_eq_ediv_of_nonneg _ (Int.le_of_lt (Int.pow_pos (by decide)))] at h
theorem low_bounds (y : Int) (n : Nat) : 0 ≤ y % 2 ^ n ∧ y % 2 ^ n < 2 ^ n :=
  ⟨Int.emod_nonneg _ (Int.ne_of_gt (Int.pow_pos (by decide))), Int.emod_lt_of_pos _ (Int.pow_pos (by decide))⟩
theorem high_bounds {y : Int} {p q : Nat} (h0 : 0 ≤ y) (h1 : y < 2 ^ (p + q)) : 0 ≤ y / 2 ^ p ∧ y / 2 ^ p < 2 ^ q := by
  refine ⟨Int.ediv_nonneg h0 (Int.le_of_lt (Int.pow_pos (by decide))), Int.ediv_lt_of_lt_mul (Int.pow_pos (by decide)) ?_⟩
  rwa [← Int.pow_add, Nat.add_comm]

def bitsOf : Nat → Int → List Int
  | 0, _ => []
  | k + 1, x => x % 2 :: bitsOf k (x / 2)
theorem bitsOf_length : ∀ (k : Nat) (x : Int), (bitsOf k x).length = k
  | 0, _ => rfl
  | k + 1, x => by rw [bitsOf, List.length_cons, bitsOf_length]
theorem bitsOf_bits : ∀ (k : Nat) (x : Int), Bits (bitsOf k x)
  | 0, _ => fun _ h => nomatch h
  | k + 1, x => by
    intro y hy
    rcases List.mem_cons.mp hy with rfl | hy
    · omega
    · exact bitsOf_bits k _ y hy
theorem bitsOf_val : ∀ (k : Nat) {x : Int}, 0 ≤ x → x < 2 ^ k → bval (bitsOf k x) = x
  | 0, x, h0, h1 => by simp at h1; simp [bitsOf, bval]; omega
  | k + 1, x, h0, h1 => by
    rw [bitsOf, bval, bitsOf_val k (by omega) (by rw [Int.pow_succ] at h1; omega)]
    omega
theorem bitsOf_append : ∀ (p q : Nat) (x : Int), bitsOf (p + q) x = bitsOf p (x % 2 ^ p) ++ bitsOf q (x / 2 ^ p)
  | 0, q, x => by simp [bitsOf]
  | p + 1, q, x => by
    have hp : (0 : Int) < 2 ^ p := Int.pow_pos (by decide)
    rw [show p + 1 + q = (p + q) + 1 by omega, bitsOf, bitsOf, bitsOf_append p q (x / 2), List.cons_append]
    have h2 : (2 : Int) ^ (p + 1) = 2 * 2 ^ p := by rw [Int.pow_succ, Int.mul_comm]
    rw [h2]
    generalize (2 : Int) ^ p = P at *
    have e1 : x % 2 = x % (2 * P) % 2 := (Int.emod_emod_of_dvd x (Int.dvd_mul_right 2 P)).symm
    have hd := Int.mul_ediv_add_emod x (2 * P)
    have hr0 := Int.emod_nonneg x (b := 2 * P) (by omega)
    have hr1 := Int.emod_lt_of_pos x (b := 2 * P) (by omega)
    have hx : x / 2 = P * (x / (2 * P)) + x % (2 * P) / 2 := by
      rw [Int.mul_assoc] at hd
      generalize P * (x / (2 * P)) = z at *
      omega
    have e2 : x / 2 % P = x % (2 * P) / 2 := by
      rw [hx, Int.add_comm, Int.add_mul_emod_self_left]
      exact Int.emod_eq_of_lt (by omega) (by omega)
    have e3 : x / 2 / P = x / (2 * P) := by
      rw [hx, Int.add_comm, Int.add_mul_ediv_left _ _ (by omega), Int.ediv_eq_zero_of_lt (by omega) (by omega)]
      omega
    rw [e1, e2, e3]

/-- the items from i on, as many as bs, become bs -/
def put (ds : List Int) (i : Nat) (bs : List Int) : List Int := ds.take i ++ bs ++ ds.drop (i + bs.length)
theorem put_length {ds bs : List Int} {i : Nat} (h : i + bs.length ≤ ds.length) : (put ds i bs).length = ds.length := by
  unfold put
  rw [List.length_append, List.length_append, List.length_take, List.length_drop]; omega
theorem put_put {ds as bs : List Int} {i : Nat} (h : i + as.length + bs.length ≤ ds.length) : put (put ds i as) (i + as.length) bs = put ds i (as ++ bs) := by
  unfold put
  have h1 : (ds.take i ++ as).length = i + as.length := by rw [List.length_append, List.length_take]; omega
  have h2 : (ds.take i ++ as ++ ds.drop (i + as.length)).take (i + as.length) = ds.take i ++ as := by
    rw [← h1, List.take_left]
  have h3 : (ds.take i ++ as ++ ds.drop (i + as.length)).drop (i + as.length + bs.length) = ds.drop (i + (as.length + bs.length)) := by
    rw [← List.drop_drop]
    have : (ds.take i ++ as ++ ds.drop (i + as.length)).drop (i + as.length) = ds.drop (i + as.length) := by
      rw [← h1, List.drop_left, h1]
    rw [this, List.drop_drop, Nat.add_assoc]
  rw [h2, h3, List.length_append, List.append_assoc (ds.take i)]
theorem put_one {ds : List Int} {i : Nat} {x : Int} (h : i < ds.length) : ds.set i x = put ds i [x] := by
  unfold put
  rw [List.set_eq_take_append_cons_drop, if_pos h]
  simp
theorem put_all {ds bs : List Int} (h : bs.length = ds.length) : put ds 0 bs = bs := by
  unfold put
  simp [h]
end Mine
end

section
open PySem PySem.W PyProof.Rows
namespace Mine
set_option maxRecDepth 100000

def Lo (news : List (Addr × Obj)) (d : Nat) : Prop := ∀ q ∈ news, @LT.lt Nat _ q.1 d
def Apart (xs ys : List (Addr × Obj)) : Prop := ∀ p ∈ xs, ∀ q ∈ ys, @Ne Nat q.1 p.1
def Off (news : List (Addr × Obj)) (d : Nat) : Prop := ∀ q ∈ news, @Ne Nat q.1 d

/-- the table of a maker's code: empty, or with the one code object that it has made -/
inductive Tab (P : Addr) (line col : Int) (qual : Str) : List (Addr × Obj) → Prop
  | new : Tab P line col qual [(P, tabObj #[])]
  | hit (c' : Addr) (oc : Obj) (vs : Array Value) (t : Tok) : oc.data = .fields vs → vs[1]? = some (.str qual t) → 56 < c' → Tab P line col qual [(P, tabObj (#[] ++ #[rawInt line, rawInt col, .ref c'])), (c', oc)]

theorem Tab.off {P d : Addr} {line col : Int} {qual : Str} {tab : List (Addr × Obj)} (h : Tab P line col qual tab) (hP : P ≠ d) (hd : d ≤ 56) : Off tab d := by
  cases h with
  | new => intro q hq; rw [List.mem_singleton.mp hq]; exact hP
  | hit c' oc vs t _ _ hc =>
    intro q hq
    rcases List.mem_cons.mp hq with rfl | hq
    · exact hP
    · rw [List.mem_singleton.mp hq]; show c' ≠ d; exact Nat.ne_of_gt (Nat.lt_of_le_of_lt hd hc)

theorem updF_app {d : Addr} {o : Obj} : ∀ {pre post : List (Addr × Obj)}, Off pre d → Off post d → UpdF d o (pre ++ (d, o) :: post) (fun o' => pre ++ (d, o') :: post)
  | [], _, _, h2 => .head h2
  | p :: r, _, h1, h2 => .tail (h1 p (.head _)) (updF_app (fun q hq => h1 q (.tail _ hq)) h2)

section
variable {M : Model} {A : Around} {E : Value → Shared → Prop} {s : Shared} {h₀ : Heap} {L a c P : Addr} {m mg mb : Str → Option Value} {cn : Str} {cs : Scope} {ccd : Value} {cl : List (Str × Addr)} {pre tab post : List (Addr × Obj)}
  {p : Program} {loose : List Str} {mean : ExcName → Option Value} {name qual : Str} {params : Arguments} {body : List Stmt} {scope : Scope} {pos : Pos} {firstLine : Nat} {clos : List (Str × Addr)}

theorem nest_Tab {Q : Value → Shared → Prop} (F : Fr h₀ L s.heap m) (N : News h₀ L s.heap (pre ++ (tab ++ post))) (T : Top p loose mean mg mb h₀) (C : CodeHd h₀ c P) (hcd : ccd = .ref c) (hT : Tab P pos.line pos.col qual tab)
    (hoff1 : Off pre P) (hoff2 : Off post P) (hap : Apart pre tab) (hbig : ∃ q ∈ pre, @LT.lt Nat _ 56 q.1)
    (hcl : closureFor scope (envX cn cs L a ccd cl) = pure clos)
    (h : ∀ f c' oc vs t ctv doc h' tk tab', Fr h₀ L h' m → Tab P pos.line pos.col qual tab' → Apart pre tab' →
      News h₀ L h' ((f, fnMade name qual params body scope clos doc ((mg "__name__").getD .none) c' ctv) :: (c', oc) :: (pre ++ (tab' ++ post))) →
      oc.data = .fields vs → vs[1]? = some (.str qual t) → Lo pre f → Off pre c' → Q (.ref f) { s with heap := h', toks := tk }) :
    wpAny M A (makeFunction name qual params (.stmts body) scope (envX cn cs L a ccd cl) [] [] [] pos firstLine) Q E s := by
  cases hT with
  | new =>
    refine nest_K (ps := #[]) F N T C hcd (updF_app hoff1 hoff2) trivial rfl hcl fun f c' oc vs t ctv doc h' tk F' N' hd hv l1 l2 => ?_
    have hc : 56 < c' := by
      obtain ⟨q, hq, h5⟩ := hbig
      exact Nat.lt_trans h5 (l1 q (List.mem_append_left _ hq))
    refine h f c' oc vs t ctv doc h' tk _ F' (.hit c' oc vs t hd hv hc) (fun x hx q hq => ?_) (fun q hq => N' q ?_) hd hv (fun q hq => Nat.lt_trans (l1 q (List.mem_append_left _ hq)) l2) (fun q hq => Nat.ne_of_lt (l1 q (List.mem_append_left _ hq)))
    · rcases List.mem_cons.mp hq with rfl | hq
      · exact (hoff1 x hx).symm
      · rw [List.mem_singleton.mp hq]; exact Nat.ne_of_gt (l1 x (List.mem_append_left _ hx))
    · simp only [List.mem_cons, List.mem_append, List.not_mem_nil, or_false] at hq ⊢
      rcases hq with hq | hq | hq | (hq | hq) | hq <;> simp [hq]
  | hit c' oc vs t hd hv hc =>
    have e9 : codeAmong pos (#[] ++ #[rawInt pos.line, rawInt pos.col, Value.ref c']).toList = some (.ref c') := by
      simp [codeAmong, rawInt]
    refine nestHit_K (c' := c') F N T C hcd (List.mem_append_right _ (.head _)) (by exact True.intro) e9 hcl fun f ctv doc h' tk F' N' l1 => ?_
    refine h f c' oc vs t ctv doc h' tk _ F' (.hit c' oc vs t hd hv hc) hap (fun q hq => N' q ?_) hd hv (fun q hq => l1 q (List.mem_append_left _ hq)) (fun q hq => (hap q hq _ (.tail _ (.head _))).symm)
    simp only [List.mem_cons, List.mem_append, List.not_mem_nil, or_false] at hq ⊢
    rcases hq with hq | hq | hq | (hq | hq) | hq <;> simp [hq]
end

theorem lt_of_K {K : Frag} {h₀ h : Heap} {L b : Addr} {o : Obj} {m : Str → Option Value} (X : K.In h₀) (F : Fr h₀ L h m) (e : K.lookup b = some o) : @LT.lt Nat _ b L :=
  Nat.lt_of_lt_of_le (Heap.lt_size (X _ _ e)) F.above
end Mine
end

section
open PySem PySem.W PyProof.Rows
namespace Mine
set_option maxRecDepth 100000
set_option maxHeartbeats 8000000

theorem fillF2 (P : Params) : PySem.Challenge.rw_zx0001_01 = PySem.Challenge.rw_zx0001_01 ∧ hd.heap_39 P = hd.heap_39 P := by
  k_fill
  exact ⟨rfl, rfl⟩
local macro_rules | `(tactic| k_all) => `(tactic| assumption)
local macro_rules | `(tactic| k_all) => `(tactic| (rename Lo _ _ => hz9; exact fun q hq => Nat.ne_of_lt (Nat.lt_of_lt_of_le (hz9 q hq) (by omega))))
local macro_rules | `(tactic| k_all) => `(tactic| (rename Apart _ _ => hz9; exact fun q hq => hz9 _ (by k_memK) q hq))
local macro_rules | `(tactic| k_all) => `(tactic| (refine List.forall_mem_append.mpr ⟨?kz1, ?kz2⟩; (case kz1 => k_all); (case kz2 => k_all)))

theorem news_mid {h₀ h : Heap} {L : Addr} {a b c d e x : Addr × Obj} {tab news : List (Addr × Obj)} (N : News h₀ L h (a :: b :: c :: d :: e :: (tab ++ x :: news))) : News h₀ L h (a :: b :: c :: d :: e :: x :: (tab ++ news)) := cb_drop N fun q hq => by
  simp only [List.mem_cons, List.mem_append] at hq ⊢
  rcases hq with hq | hq | hq | hq | hq | hq | hq | hq <;> simp [hq]
theorem news_mid2 {h₀ h : Heap} {L : Addr} {a b c d e x : Addr × Obj} {tab news : List (Addr × Obj)} (N : News h₀ L h (a :: b :: c :: d :: e :: x :: (tab ++ news))) : News h₀ L h (tab ++ x :: news) := cb_drop N fun q hq => by
  simp only [List.mem_cons, List.mem_append] at hq ⊢
  rcases hq with hq | hq | hq <;> simp [hq]

theorem with_obj {P : Prop} {h₀ h : Heap} {L f : Addr} {O : Obj} {r : List (Addr × Obj)} (_N : News h₀ L h ((f, O) :: r)) (k : ∀ O', O' = O → P) : P := k O rfl

theorem d2i_ok {w : World} {p : Program} {loose : List Str} {mean : ExcName → Option Value} {mg mb : Str → Option Value}
  (dp un : Nat) (gd : Option (List Code)) (cn : Str) (cs : Scope) (a : Addr) (ccd : Value) (cl : List (Str × Addr)) (outer : List Env) (A₀ : Around) (base h₀ : Heap) (L : Addr) (m : Str → Option Value) (tab news : List (Addr × Obj)) (s : Shared)
    (l : Addr) (vs : List Value) (c : Nat) (ds : List Int) (t : Tok)
    (Q E : Value → Shared → Prop) (B : Below A₀ base outer h₀) (F : Fr h₀ L s.heap m) (X : (hd.heap_39 w.params).In h₀) (N : News h₀ L s.heap (tab ++ (l, PySem.W.listOf vs.toArray c) :: news)) (hTab : Tab 23 (20 : Nat) (4 : Nat) (Str.ofString "_digits2int.<locals>.inner") tab) (hne : l ≠ 23) (hnn : Off news 23) (T : Top p loose mean mg mb h₀) (hk : cs.kind = .function)
    (hI : IntsAre vs ds) (hl1 : 1 ≤ ds.length) (hl2 : ds.length ≤ 30) (hds : Bits ds) (hC : CodeHd base 27 23)
    (hdp0 : dp + 40 < recursionLimit) (hu : un + 1000 < cLine) (hret : ∀ (tab' : List (Addr × Obj)) (t : Tok) (h' : Heap) (tk' : Nat), Tab 23 (20 : Nat) (4 : Nat) (Str.ofString "_digits2int.<locals>.inner") tab' → Fr h₀ L h' m → News h₀ L h' (tab' ++ (l, PySem.W.listOf vs.toArray c) :: news) → Q (.int (bval ds) t) { s with heap := h', toks := tk' }) :
    wpAny (model PySem.Challenge.rw_zx0001_01.row.prog w) (ktrTop dp un gd cn cs L a ccd cl outer) (call (.ref 28) [.ref l, .int 1 t]) Q E s := by
  refine wpAny_call ?_
  k_dflt (refine' code_defC ?k1 ?k2 ?k3 ?k4 ?k5 ?kA ?kF ?kK ?k6 ?k7 ?k8 ?k9 ?kB ?kD ?_ ?c2 ?c3 ?c4; (case kA => exact rfl); (case kF => exact rfl); (case kK => assumption); (case k1 => k_asm); (case k2 => k_asm); (case k3 => k_asm); (case k4 => k_asm); (case k5 => k_asm); (case k6 => k_is); (case k7 => k_is); (case k8 => ktr_room); (case k9 => first | exact BindsTo.of_eq rfl | exact binds_K (by k_in) rfl (by k_is) rfl rfl rfl | fail "k_enter: no rule for these arguments"); (case kB => exact rfl); (case kD => decide +kernel); (case c2 => exact rfl); (case c3 => exact rfl); (case c4 => exact rfl); k_whole; intro g' L' h' tk' cells' FG' F' N' Y' B' X' T' l1; k_cells Y'; (try simp only [List.cons_append, List.nil_append] at N'); (try dsimp only); (try k_lift B'); (try k_fold))
  rename_i oI oN oD dI dN dD
  replace dI : oI.data = Data.cell none := dI
  replace dN : oN.data = Data.cell (some (Value.int 1 t)) := dN
  replace dD : oD.data = Data.cell (some (Value.ref l)) := dD
  have hC' := CodeHd.keeps hC (Below.stays (by assumption : Below _ base (_ :: _) _))
  have h56 : @LT.lt Nat _ 56 L' := by
    refine' lt_of_K (b := 56) X' F' ?kq
    case kq => k_is
  have hl5 : @LT.lt Nat _ l L' := l1 (l, _) (List.mem_append_right _ (.head _))
  have hLo : Lo news L' := fun q hq => l1 q (List.mem_append_right _ (.tail _ hq))
  have hLt : Lo tab L' := fun q hq => l1 q (List.mem_append_left _ hq)
  clear l1
  repeat' ((fail_if_success (with_reducible show wpAny _ _ (exec (Stmt.FunctionDef _ _ _ _ _ _ _ _ _ _) _) _ _ _)); first | (k_unfold; (try dsimp only)) | (k_end; wrow_close) | walk1 | (dsimp only; walk1) | (leave1; walk_say "STEP leave1"; try dsimp only) | fail "no step")
  refine nestDef_K rfl rfl rfl ?_
  k_dflt (refine nest_Tab (pre := [_, _, _]) (tab := tab) F' N' T' hC' rfl hTab ?hz1 ?hz2 ?hz3 ?hz4 rfl ?_)
  case hz1 => intro q hq; simp only [List.mem_cons, List.not_mem_nil, or_false] at hq; rcases hq with rfl | rfl | rfl <;> (dsimp only; omega)
  case hz2 => intro q hq; rcases List.mem_cons.mp hq with rfl | hq; exact hne; exact hnn q hq
  case hz3 => intro q hq r hr; have := hLt r hr; simp only [List.mem_cons, List.not_mem_nil, or_false] at hq; rcases hq with rfl | rfl | rfl <;> (dsimp only; omega)
  case hz4 => exact ⟨_, .head _, by dsimp only; omega⟩
  intro f9 c9 oc9 vs9 t9 ct9 dc9 h7 tk7 tab' F9 hTab' hAp N9 hd9 hv9 hf9 hc9
  simp only [List.cons_append, List.nil_append] at N9
  refine with_obj N9 ?_
  intro O hO
  have inner : ∀ (k dp un : Nat) (gd : Option (List Code)) (cn : Str) (cs : Scope) (a : Addr) (ccd : Value) (cl : List (Str × Addr)) (outer : List Env) (A₀ : Around) (base h₀ : Heap) (L : Addr) (m : Str → Option Value) (rest : List (Addr × Obj)) (s : Shared) (i j : Nat) (ti tj : Tok) (oI9 : Obj) (Q E : Value → Shared → Prop),
      j - i ≤ k → i < j → j ≤ ds.length → oI9.data = Data.cell (some (Value.ref f9)) → Below A₀ base outer h₀ → Fr h₀ L s.heap m → (hd.heap_39 w.params).In h₀ →
      News h₀ L s.heap ((f9, O) :: (c9, oc9) :: (L' + 1 + 1 + 1, oI9) :: (L' + 1 + 1, oN) :: (L' + 1, oD) :: (l, PySem.W.listOf vs.toArray c) :: rest) →
      Top p loose mean mg mb h₀ → cs.kind = .function → dp + (j - i) + 2 < recursionLimit → un + 20 * (j - i) + 40 < cLine →
      CbRet h₀ L m ((f9, O) :: (c9, oc9) :: (L' + 1 + 1 + 1, oI9) :: (L' + 1 + 1, oN) :: (L' + 1, oD) :: (l, PySem.W.listOf vs.toArray c) :: rest) s Q (fun t => .int (bval (seg ds i j)) t) →
      wpAny (model PySem.Challenge.rw_zx0001_01.row.prog w) (ktrTop dp un gd cn cs L a ccd cl outer) (call (.ref f9) [.int (i : Int) ti, .int (j : Int) tj]) Q E s := by
    clear hret F9 N9 N F B hu hdp0 FG' F' N' hLo hLt hAp hTab' hTab
    subst hO
    intro k
    induction k with
    | zero => intros; omega
    | succ k ih =>
      intro dp un gd cn cs a ccd cl outer A₀ base h₀ L m rest s i j ti tj oI9 Q E hij hlt hj hI9 B F X N T hk hdp hun hret
      refine wpAny_call ?_
      k_dflt (refine' code_nest ?k1 ?k2 ?k3 ?k4 ?k5 ?kA ?kF ?kK ?k6 ?k7 ?k8 ?k9 ?kB ?_ ?c2 ?c3 ?c4 ?c5; (case kA => exact rfl); (case kF => exact rfl); (case kK => assumption); (case k1 => k_asm); (case k2 => k_asm); (case k3 => k_asm); (case k4 => k_asm); (case k5 => k_asm); (case k6 => k_mem); (case k7 => exact codeRec_news (by k_asm) (by k_mem) (by assumption) (by assumption)); (case k8 => ktr_room); (case k9 => exact BindsTo.of_eq rfl); (case c5 => decide); (case kB => exact locs rfl); (case c2 => exact rfl); (case c3 => exact rfl); (case c4 => exact rfl); k_whole; intro g' L' h' FG' F' N' B' X' T'; (try dsimp only); (try k_lift B'); (try k_fold))
      k_steps
      · rename (i : Int) + 1 = (j : Int) => he9
        have he8 : j = i + 1 := by omega
        subst he8
        refine cb_retI hret ?_ (by k_asm) (by k_asm)
        rw [bval_seg_one (by omega)]; rfl
      · rename (i : Int) + 1 ≠ (j : Int) => hne9
        have hmid : ((i : Int) + (j : Int)).fdiv (2 ^ Int.toNat 1) = (((i + j) / 2 : Nat) : Int) := by
          rw [Int.fdiv_eq_ediv_of_nonneg _ (by decide)]; simp
        obtain ⟨md, hmd⟩ : ∃ md, md = (i + j) / 2 := ⟨_, rfl⟩
        rw [← hmd] at hmid
        simp only [hmid] at *
        have hm1 : i < md := by omega
        have hm2 : md < j := by omega
        have hb1 := bval_seg_lt (i := md) (j := j) hds hj hl2
        k_dflt (refine' ih _ _ _ _ _ _ _ _ _ _ _ _ _ _ _ _ _ _ _ _ _ _ _ ?h1 ?h2 ?h3 ?h4 ?k1 ?k2 ?k3 ?k4 ?k5 ?kK ?kd ?ku ?_; (case h1 => omega); (case h2 => omega); (case h3 => omega); (case h4 => k_asm); (case k1 => k_asm); (case k2 => k_asm); (case k3 => k_asm); (case k4 => k_asm); (case k5 => k_asm); (case kK => exact rfl); (case kd => (show dp + 1 + _ + 2 < _; omega)); (case ku => (show un + 3 + 20 * _ + 40 < _; omega)); k_whole)
        intro t5 h5 tk5 F5 N5
        repeat' ((fail_if_success (with_reducible show wpAny _ _ (binaryOp Operator.LShift _ _) _ _ _)); (fail_if_success (with_reducible show wpAny _ _ (call (Value.ref _) _ _) _ _ _)); first | (k_unfold; (try dsimp only)) | (k_end; wrow_close) | walk1 | (dsimp only; walk1) | (leave1; walk_say "STEP leave1"; try dsimp only) | fail "no step")
        refine lshift_int_small (by omega) (by omega) (by omega) ?_
        repeat' ((fail_if_success (with_reducible show wpAny _ _ (binaryOp Operator.LShift _ _) _ _ _)); (fail_if_success (with_reducible show wpAny _ _ (call (Value.ref _) _ _) _ _ _)); first | (k_unfold; (try dsimp only)) | (k_end; wrow_close) | walk1 | (dsimp only; walk1) | (leave1; walk_say "STEP leave1"; try dsimp only) | fail "no step")
        k_dflt (refine' ih _ _ _ _ _ _ _ _ _ _ _ _ _ _ _ _ _ _ _ _ _ _ _ ?h1 ?h2 ?h3 ?h4 ?k1 ?k2 ?k3 ?k4 ?k5 ?kK ?kd ?ku ?_; (case h1 => omega); (case h2 => omega); (case h3 => omega); (case h4 => k_asm); (case k1 => k_asm); (case k2 => k_asm); (case k3 => k_asm); (case k4 => k_asm); (case k5 => k_asm); (case kK => exact rfl); (case kd => (show dp + 1 + _ + 2 < _; omega)); (case ku => (show un + 3 + 20 * _ + 40 < _; omega)); k_whole)
        intro t6 h6 tk6 F6 N6
        k_steps
        refine cb_retI hret ?_ (by k_asm) (by k_asm)
        rw [← bval_seg (Nat.le_of_lt hm1) (Nat.le_of_lt hm2) hj]
        congr 3
        omega
  clear N F' N' FG'
  have hf1 : @LT.lt Nat _ (L' + 1 + 1 + 1) f9 := hf9 _ (.head _)
  have hc1 : @Ne Nat (L' + 1 + 1 + 1) c9 := hc9 _ (.head _)
  have ha1 : Off tab' (L' + 1 + 1 + 1) := fun q hq => hAp _ (.head _) q hq
  subst hO
  have hO1 : Off ((L' + 1 + 1, oN) :: (L' + 1, oD) :: (tab' ++ (l, PySem.W.listOf vs.toArray c) :: news)) (L' + 1 + 1 + 1) := by
    intro q hq
    simp only [List.mem_cons, List.mem_append] at hq
    rcases hq with rfl | rfl | hq | rfl | hq
    · dsimp only; omega
    · dsimp only; omega
    · exact ha1 q hq
    · dsimp only; omega
    · have := hLo q hq; omega
  k_dflt (refine' storeX_C F9 N9 (c := L' + 1 + 1 + 1) (o := oI) rfl (UpdF.tail ?u1 (UpdF.tail ?u2 (UpdF.head hO1))) dI ?_ rfl rfl; (case u1 => dsimp only; exact Nat.ne_of_gt hf1); (case u2 => exact hc1.symm))
  intro h8 oI8 F8 N8 dI8
  replace N8 := news_mid N8
  clear F9 N9
  repeat' ((fail_if_success (with_reducible show wpAny _ _ (call (Value.ref _) _ _) _ _ _)); first | (k_unfold; (try dsimp only)) | (k_end; wrow_close) | walk1 | (dsimp only; walk1) | (leave1; walk_say "STEP leave1"; try dsimp only) | fail "no step")
  k_dflt (refine' inner ds.length _ _ _ _ _ _ _ _ _ _ _ _ _ _ (tab' ++ news) _ 0 ds.length _ _ _ _ _ ?h1 ?h2 ?h3 ?h4 ?k1 ?k2 ?k3 ?k4 ?k5 ?kK ?kd ?ku ?_; (case h1 => omega); (case h2 => omega); (case h3 => omega); (case h4 => k_asm); (case k1 => k_asm); (case k2 => k_asm); (case k3 => k_asm); (case k4 => k_asm); (case k5 => k_asm); (case kK => exact rfl); (case kd => (show dp + 1 + _ + 2 < _; omega)); (case ku => (show un + 3 + 20 * _ + 40 < _; omega)); k_whole)
  intro t7 h7 tk7 F7 N7
  k_steps
  rw [seg_all]
  rename News h₀ L _ _ => N6
  exact hret tab' _ _ _ hTab' (by k_asm) (news_mid2 N6)
end Mine
end

section
open PySem PySem.W PyProof.Rows
namespace Mine
set_option maxRecDepth 100000
set_option maxHeartbeats 8000000

theorem fillF3 (P : Params) : PySem.Challenge.rw_zx0001_01 = PySem.Challenge.rw_zx0001_01 ∧ hd.heap_39 P = hd.heap_39 P := by
  k_fill
  exact ⟨rfl, rfl⟩
local macro_rules | `(tactic| k_all) => `(tactic| assumption)
local macro_rules | `(tactic| k_all) => `(tactic| (rename Lo _ _ => hz9; exact fun q hq => Nat.ne_of_lt (Nat.lt_of_lt_of_le (hz9 q hq) (by omega))))
local macro_rules | `(tactic| k_all) => `(tactic| (rename Apart _ _ => hz9; exact fun q hq => hz9 _ (by k_memK) q hq))
local macro_rules | `(tactic| k_all) => `(tactic| (refine List.forall_mem_append.mpr ⟨?kz1, ?kz2⟩; (case kz1 => k_all); (case kz2 => k_all)))


theorem news_ord {h₀ h : Heap} {L : Addr} {a b c d e f g : Addr × Obj} {r : List (Addr × Obj)} (N : News h₀ L h (a :: b :: c :: d :: e :: f :: g :: r)) : News h₀ L h (a :: b :: e :: f :: g :: c :: r) := cb_drop N fun q hq => by
  simp only [List.mem_cons] at hq ⊢
  rcases hq with hq | hq | hq | hq | hq | hq | hq <;> simp [hq]
theorem news_last {h₀ h : Heap} {L : Addr} {a b c d e x : Addr × Obj} {tab news : List (Addr × Obj)} (N : News h₀ L h (a :: b :: c :: d :: e :: x :: (tab ++ news))) : News h₀ L h (tab ++ x :: news) := cb_drop N fun q hq => by
  simp only [List.mem_cons, List.mem_append] at hq ⊢
  rcases hq with hq | hq | hq <;> simp [hq]
theorem bits_of_range {k : Nat} {x : Int} (h1 : 2 ^ k ≤ x) (h2 : x < 2 ^ (k + 1)) : Builtin.Int.intBits x = k + 1 := by
  obtain ⟨n, rfl⟩ : ∃ n : Nat, x = n := ⟨x.toNat, by have : (0 : Int) < 2 ^ k := Int.pow_pos (by decide); omega⟩
  have g1 : 2 ^ k ≤ n := by exact_mod_cast h1
  have g2 : n < 2 ^ (k + 1) := by exact_mod_cast h2
  have g0 : n ≠ 0 := by have : 0 < 2 ^ k := Nat.pow_pos (by decide); omega
  unfold Builtin.Int.intBits
  rw [if_neg (by simpa using g0), Int.natAbs_natCast]
  congr 1
  exact (Nat.log2_eq_iff g0).mpr ⟨g1, g2⟩
theorem i2d_ok {w : World} {p : Program} {loose : List Str} {mean : ExcName → Option Value} {mg mb : Str → Option Value}
  (dp un : Nat) (gd : Option (List Code)) (cn : Str) (cs : Scope) (a : Addr) (ccd : Value) (cl : List (Str × Addr)) (outer : List Env) (A₀ : Around) (base h₀ : Heap) (L : Addr) (m : Str → Option Value) (tab news : List (Addr × Obj)) (s : Shared)
    (k : Nat) (x : Int) (tx t : Tok)
    (Q E : Value → Shared → Prop) (B : Below A₀ base outer h₀) (F : Fr h₀ L s.heap m) (X : (hd.heap_39 w.params).In h₀) (N : News h₀ L s.heap (tab ++ news)) (hTab : Tab 16 (5 : Nat) (4 : Nat) (Str.ofString "_int2digits.<locals>.inner") tab) (hnn : Off news 16) (T : Top p loose mean mg mb h₀) (hk : cs.kind = .function)
    (hx1 : 2 ^ k ≤ x) (hx2 : x < 2 ^ (k + 1)) (hk2 : k < 20) (hC : CodeHd base 20 16)
    (hdp0 : dp + 40 < recursionLimit) (hu : un + 1000 < cLine) (hret : ∀ (tab' : List (Addr × Obj)) (l : Addr) (vs : List Value) (c : Nat) (h' : Heap) (tk' : Nat), Tab 16 (5 : Nat) (4 : Nat) (Str.ofString "_int2digits.<locals>.inner") tab' → Off tab' l → Lo news l → @LT.lt Nat _ 56 l → IntsAre vs (bitsOf (k + 1) x) → Fr h₀ L h' m → News h₀ L h' (tab' ++ (l, PySem.W.listOf vs.toArray c) :: news) → Q (.ref l) { s with heap := h', toks := tk' }) :
    wpAny (model PySem.Challenge.rw_zx0001_01.row.prog w) (ktrTop dp un gd cn cs L a ccd cl outer) (call (.ref 21) [.int x tx, .int 1 t]) Q E s := by
  refine wpAny_call ?_
  k_dflt (refine' code_defC ?k1 ?k2 ?k3 ?k4 ?k5 ?kA ?kF ?kK ?k6 ?k7 ?k8 ?k9 ?kB ?kD ?_ ?c2 ?c3 ?c4; (case kA => exact rfl); (case kF => exact rfl); (case kK => assumption); (case k1 => k_asm); (case k2 => k_asm); (case k3 => k_asm); (case k4 => k_asm); (case k5 => k_asm); (case k6 => k_is); (case k7 => k_is); (case k8 => ktr_room); (case k9 => first | exact BindsTo.of_eq rfl | exact binds_K (by k_in) rfl (by k_is) rfl rfl rfl | fail "k_enter: no rule for these arguments"); (case kB => exact rfl); (case kD => decide +kernel); (case c2 => exact rfl); (case c3 => exact rfl); (case c4 => exact rfl); k_whole; intro g' L' h' tk' cells' FG' F' N' Y' B' X' T' l1; k_cells Y'; (try simp only [List.cons_append, List.nil_append] at N'); (try dsimp only); (try k_lift B'); (try k_fold))
  rename_i oI oD oN dI dD dN
  replace dI : oI.data = Data.cell none := dI
  replace dN : oN.data = Data.cell (some (Value.int 1 t)) := dN
  replace dD : oD.data = Data.cell none := dD
  have hC' := CodeHd.keeps hC (Below.stays (by assumption : Below _ base (_ :: _) _))
  have h56 : @LT.lt Nat _ 56 L' := by
    refine' lt_of_K (b := 56) X' F' ?kq
    case kq => k_is
  have hLo : Lo news L' := fun q hq => l1 q (List.mem_append_right _ hq)
  have hLt : Lo tab L' := fun q hq => l1 q (List.mem_append_left _ hq)
  clear l1
  repeat' ((fail_if_success (with_reducible show wpAny _ _ (binaryOp Operator.Mult (Value.ref _) _) _ _ _)); first | (k_unfold; (try dsimp only)) | (k_end; wrow_close) | walk1 | (dsimp only; walk1) | (leave1; walk_say "STEP leave1"; try dsimp only) | fail "no step")
  have hsize : (↑(Builtin.Int.intBits x) + 1 - 1 : Int).fdiv 1 = ((k + 1 : Nat) : Int) := by
    rw [bits_of_range hx1 hx2, Int.fdiv_eq_ediv_of_nonneg _ (by decide)]; omega
  rw [hsize]
  repeat' ((fail_if_success (with_reducible show wpAny _ _ (storeName _ _ _) _ _ _)); first | (k_unfold; (try dsimp only)) | (k_end; wrow_close) | walk1 | (dsimp only; walk1) | (leave1; walk_say "STEP leave1"; try dsimp only) | fail "no step")
  rename_i l0 hA FA NA lA D hB F9 N9 i1 n1 s1 e1 e2 e3 l2
  clear FA NA s1 e1 e2 e3
  have hvs : (List.replicate (((k + 1 : Nat) : Int)).toNat [(0 : Int)]).flatten = List.replicate (k + 1) 0 := by
    rw [List.flatten_replicate_singleton, Int.toNat_natCast]
  rw [hvs] at i1
  obtain ⟨vs0, hvs0⟩ : ∃ v, v = (List.replicate (((k + 1 : Nat) : Int)).toNat [Value.int 0 tk']).flatten := ⟨_, rfl⟩
  rw [← hvs0] at i1 N9
  clear hvs hvs0
  have hDl : @LT.lt Nat _ l0 D ∧ @LT.lt Nat _ L' D := ⟨l2.1, by have := ltN l2.2.2.2.1; omega⟩
  have hloD : Lo (tab ++ news) D := kst_ltOf l2.2.2.2.2
  have hl0 : @LT.lt Nat _ (L' + 1 + 1 + 1) l0 := lA.1
  clear lA
  have hO1 : Off ((L' + 1, oN) :: (tab ++ news)) (L' + 1 + 1) := by
    intro q hq
    simp only [List.mem_cons, List.mem_append] at hq
    rcases hq with rfl | hq | hq
    · dsimp only; omega
    · have := hLt q hq; omega
    · have := hLo q hq; omega
  k_dflt (refine' storeX_C F9 N9 (c := L' + 1 + 1) (o := oD) rfl (UpdF.tail ?u1 (UpdF.tail ?u2 (UpdF.tail ?u3 (UpdF.head hO1)))) dD ?_ rfl rfl; (case u1 => (refine neN ?_; dsimp only; omega)); (case u2 => (refine neN ?_; dsimp only; omega)); (case u3 => (refine neN ?_; dsimp only; omega)))
  intro h8 oD8 F8 N8 dD8
  clear F9 N9
  repeat' ((fail_if_success (with_reducible show wpAny _ _ (exec (Stmt.FunctionDef _ _ _ _ _ _ _ _ _ _) _) _ _ _)); first | (k_unfold; (try dsimp only)) | (k_end; wrow_close) | walk1 | (dsimp only; walk1) | (leave1; walk_say "STEP leave1"; try dsimp only) | fail "no step")
  refine nestDef_K rfl rfl rfl ?_
  k_dflt (refine nest_Tab (pre := [_, _, _, _, _]) (tab := tab) F8 N8 T' hC' rfl hTab ?hz1 ?hz2 ?hz3 ?hz4 rfl ?_)
  case hz1 => intro q hq; simp only [List.mem_cons, List.not_mem_nil, or_false] at hq; rcases hq with rfl | rfl | rfl | rfl | rfl <;> (dsimp only; omega)
  case hz2 => exact hnn
  case hz3 => intro q hq r hr; have := hLt r hr; simp only [List.mem_cons, List.not_mem_nil, or_false] at hq; rcases hq with rfl | rfl | rfl | rfl | rfl <;> (dsimp only; omega)
  case hz4 => exact ⟨_, .head _, by dsimp only; omega⟩
  intro f9 c9 oc9 vs9 t9 ct9 dc9 h7 tk7 tab' F9 hTab' hAp N9 hd9 hv9 hf9 hc9
  clear F8 N8
  simp only [List.cons_append, List.nil_append] at N9
  have hf1 : @LT.lt Nat _ (L' + 1 + 1 + 1) f9 := hf9 _ (.tail _ (.tail _ (.head _)))
  have hf2 : @LT.lt Nat _ D f9 := hf9 _ (.head _)
  have hc1 : @Ne Nat (L' + 1 + 1 + 1) c9 := hc9 _ (.tail _ (.tail _ (.head _)))
  have hc2 : @Ne Nat D c9 := hc9 _ (.head _)
  have ha1 : Off tab' (L' + 1 + 1 + 1) := fun q hq => hAp _ (.tail _ (.tail _ (.head _))) q hq
  have ha2 : Off tab' D := fun q hq => hAp _ (.head _) q hq
  have ha3 : Off (tab' ++ news) D := by
    intro q hq
    rcases List.mem_append.mp hq with hq | hq
    · exact ha2 q hq
    · have := hLo q hq; omega
  refine with_obj N9 ?_
  intro O hO
  have inner : ∀ (kk dp un : Nat) (gd : Option (List Code)) (cn : Str) (cs : Scope) (a : Addr) (ccd : Value) (cl : List (Str × Addr)) (outer : List Env) (A₀ : Around) (base h₀ : Heap) (L : Addr) (m : Str → Option Value) (rest : List (Addr × Obj)) (s : Shared) (i j : Nat) (y : Int) (ty ti tj : Tok) (vs : List Value) (ds : List Int) (oI9 : Obj) (Q E : Value → Shared → Prop),
      j - i ≤ kk → i < j → j ≤ ds.length → oI9.data = Data.cell (some (Value.ref f9)) → Below A₀ base outer h₀ → Fr h₀ L s.heap m → (hd.heap_39 w.params).In h₀ →
      News h₀ L s.heap ((f9, O) :: (c9, oc9) :: (L' + 1 + 1 + 1, oI9) :: (L' + 1 + 1, oD8) :: (L' + 1, oN) :: (D, PySem.W.listOf vs.toArray 0) :: rest) →
      Top p loose mean mg mb h₀ → cs.kind = .function → dp + (j - i) + 2 < recursionLimit → un + 20 * (j - i) + 40 < cLine →
      0 ≤ y → y < 2 ^ (j - i) → IntsAre vs ds → ds.length ≤ 20 → Off rest D →
      (∀ (vs' : List Value) (h' : Heap) (tk' : Nat), IntsAre vs' (put ds i (bitsOf (j - i) y)) → Fr h₀ L h' m → News h₀ L h' ((f9, O) :: (c9, oc9) :: (L' + 1 + 1 + 1, oI9) :: (L' + 1 + 1, oD8) :: (L' + 1, oN) :: (D, PySem.W.listOf vs'.toArray 0) :: rest) → Q .none { s with heap := h', toks := tk' }) →
      wpAny (model PySem.Challenge.rw_zx0001_01.row.prog w) (ktrTop dp un gd cn cs L a ccd cl outer) (call (.ref f9) [.int y ty, .int (i : Int) ti, .int (j : Int) tj]) Q E s := by
    clear hret N9 N F B hu hdp0 FG' hLo hLt hAp hTab' hTab i1 hx1 hx2 hloD F9
    subst hO
    intro kk
    induction kk with
    | zero => intros; omega
    | succ kk ih =>
      intro dp un gd cn cs a ccd cl outer A₀ base h₀ L m rest s i j y ty ti tj vs ds oI9 Q E hij hlt hj hI9 B F X N T hk hdp hun hy0 hy1 hI hlen hoff hret
      refine wpAny_call ?_
      k_dflt (refine' code_nest ?k1 ?k2 ?k3 ?k4 ?k5 ?kA ?kF ?kK ?k6 ?k7 ?k8 ?k9 ?kB ?_ ?c2 ?c3 ?c4 ?c5; (case kA => exact rfl); (case kF => exact rfl); (case kK => assumption); (case k1 => k_asm); (case k2 => k_asm); (case k3 => k_asm); (case k4 => k_asm); (case k5 => k_asm); (case k6 => k_mem); (case k7 => exact codeRec_news (by k_asm) (by k_mem) (by assumption) (by assumption)); (case k8 => ktr_room); (case k9 => exact BindsTo.of_eq rfl); (case c5 => decide); (case kB => exact locs rfl); (case c2 => exact rfl); (case c3 => exact rfl); (case c4 => exact rfl); k_whole; intro g' L' h' FG' F' N' B' X' T'; (try dsimp only); (try k_lift B'); (try k_fold))
      repeat' ((fail_if_success (with_reducible show wpAny _ _ (binaryOp Operator.RShift _ (Value.int _ _)) _ _ _)); first | (k_unfold; (try dsimp only)) | (k_end; wrow_close) | walk1 | (dsimp only; walk1) | (leave1; walk_say "STEP leave1"; try dsimp only) | fail "no step")
      · rename (i : Int) + 1 = (j : Int) => he9
        have he8 : j = i + 1 := by omega
        subst he8
        have he7 : i + 1 - i = 1 := by omega
        rw [he7] at hy1 hret
        rename News h₀ L _ _ => N5
        rename IntsAre _ _ => I5
        refine hret _ _ _ ?_ (by k_asm) N5
        rw [Int.toNat_natCast, put_one (by omega)] at I5
        have hb : bitsOf 1 y = [y] := by
          simp only [bitsOf]
          congr 1
          omega
        rw [hb]
        exact I5
      · rename (i : Int) + 1 ≠ (j : Int) => hne9
        obtain ⟨md, hmd⟩ : ∃ md, md = (i + j) / 2 := ⟨_, rfl⟩
        have hmid : ((i : Int) + (j : Int)).fdiv (2 ^ Int.toNat 1) = (md : Int) := by
          rw [Int.fdiv_eq_ediv_of_nonneg _ (by decide), hmd]; simp
        have hm1 : i < md := by omega
        have hm2 : md < j := by omega
        have hsh : (((md : Int) - (i : Int)) * 1).toNat = md - i := by omega
        have hlow := low_bounds y (md - i)
        have hhigh := high_bounds (p := md - i) (q := j - md) hy0 (by rwa [show md - i + (j - md) = j - i by omega])
        have hy2 : y < 2 ^ 20 := Int.lt_of_lt_of_le hy1 (by exact_mod_cast Nat.pow_le_pow_right (n := 2) (by decide) (show j - i ≤ 20 by omega))
        have hhigh2 : y / 2 ^ (md - i) < 2 ^ 20 := Int.lt_of_lt_of_le hhigh.2 (by exact_mod_cast Nat.pow_le_pow_right (n := 2) (by decide) (show j - md ≤ 20 by omega))
        refine rshift_int (by decide) ?_
        rw [hmid]
        repeat' ((fail_if_success (with_reducible show wpAny _ _ (binaryOp Operator.RShift _ (Value.int _ _)) _ _ _)); first | (k_unfold; (try dsimp only)) | (k_end; wrow_close) | walk1 | (dsimp only; walk1) | (leave1; walk_say "STEP leave1"; try dsimp only) | fail "no step")
        refine rshift_int (by omega) ?_
        rw [hsh, Int.fdiv_eq_ediv_of_nonneg _ (Int.le_of_lt (Int.pow_pos (by decide)))]
        repeat' ((fail_if_success (with_reducible show wpAny _ _ (binaryOp Operator.LShift _ _) _ _ _)); first | (k_unfold; (try dsimp only)) | (k_end; wrow_close) | walk1 | (dsimp only; walk1) | (leave1; walk_say "STEP leave1"; try dsimp only) | fail "no step")
        refine lshift_int_small (by omega) (by omega) (by omega) ?_
        rw [hsh]
        repeat' ((fail_if_success (with_reducible show wpAny _ _ (binaryOp Operator.BitXor _ _) _ _ _)); first | (k_unfold; (try dsimp only)) | (k_end; wrow_close) | walk1 | (dsimp only; walk1) | (leave1; walk_say "STEP leave1"; try dsimp only) | fail "no step")
        refine xor_int ?_
        rw [xor_low' _ hy0]
        repeat' ((fail_if_success (with_reducible show wpAny _ _ (call (Value.ref _) _ _) _ _ _)); first | (k_unfold; (try dsimp only)) | (k_end; wrow_close) | walk1 | (dsimp only; walk1) | (leave1; walk_say "STEP leave1"; try dsimp only) | fail "no step")
        k_dflt (refine' ih _ _ _ _ _ _ _ _ _ _ _ _ _ _ _ _ _ _ _ _ _ _ _ _ _ _ _ ?h1 ?h2 ?h3 ?h4 ?k1 ?k2 ?k3 ?k4 ?k5 ?kK ?kd ?ku ?y0 ?y1 ?hI ?hl ?ho ?_; (case hI => k_asm); (case h1 => omega); (case h2 => omega); (case h3 => omega); (case h4 => k_asm); (case k1 => k_asm); (case k2 => k_asm); (case k3 => k_asm); (case k4 => k_asm); (case k5 => k_asm); (case kK => exact rfl); (case kd => (show dp + 1 + _ + 2 < _; omega)); (case ku => (show un + 3 + 20 * _ + 40 < _; omega)); (case y0 => exact hlow.1); (case y1 => exact hlow.2); (case hl => omega); (case ho => exact hoff); k_whole)
        intro vs5 h5 tk5 I5 F5 N5
        repeat' ((fail_if_success (with_reducible show wpAny _ _ (call (Value.ref _) _ _) _ _ _)); first | (k_unfold; (try dsimp only)) | (k_end; wrow_close) | walk1 | (dsimp only; walk1) | (leave1; walk_say "STEP leave1"; try dsimp only) | fail "no step")
        k_dflt (refine' ih _ _ _ _ _ _ _ _ _ _ _ _ _ _ _ _ _ _ _ _ _ _ _ _ _ _ _ ?h1 ?h2 ?h3 ?h4 ?k1 ?k2 ?k3 ?k4 ?k5 ?kK ?kd ?ku ?y0 ?y1 ?hI ?hl ?ho ?_; (case hI => k_asm); (case h1 => omega); (case h2 => omega); (case h3 => rw [put_length (by rw [bitsOf_length]; omega)]; omega); (case h4 => k_asm); (case k1 => k_asm); (case k2 => k_asm); (case k3 => k_asm); (case k4 => k_asm); (case k5 => k_asm); (case kK => exact rfl); (case kd => (show dp + 1 + _ + 2 < _; omega)); (case ku => (show un + 3 + 20 * _ + 40 < _; omega)); (case y0 => exact hhigh.1); (case y1 => exact hhigh.2); (case hl => rw [put_length (by rw [bitsOf_length]; omega)]; omega); (case ho => exact hoff); k_whole)
        intro vs6 h6 tk6 I6 F6 N6
        k_steps
        rename News h₀ L _ _ => N5
        refine hret _ _ _ ?_ (by k_asm) N5
        have e1 := put_put (ds := ds) (as := bitsOf (md - i) (y % 2 ^ (md - i))) (bs := bitsOf (j - md) (y / 2 ^ (md - i))) (i := i) (by rw [bitsOf_length, bitsOf_length]; omega)
        rw [bitsOf_length, show i + (md - i) = md by omega, ← bitsOf_append, show md - i + (j - md) = j - i by omega] at e1
        rw [← e1]
        exact I6
  subst hO
  clear N FG'
  k_dflt (refine' storeX_C F9 N9 (c := L' + 1 + 1 + 1) (o := oI) rfl (UpdF.tail ?u1 (UpdF.tail ?u2 (UpdF.tail ?u3 (UpdF.tail ?u4 (UpdF.head ?u5))))) dI ?_ rfl rfl; (case u1 => (refine neN ?_; dsimp only; omega)); (case u2 => (refine neN ?_; dsimp only; omega)); (case u3 => (refine neN ?_; dsimp only; omega)); (case u4 => (refine neN ?_; dsimp only; omega)); (case u5 =>
    intro q hq
    simp only [List.mem_cons, List.mem_append] at hq
    rcases hq with rfl | rfl | hq | hq
    · refine neN ?_; dsimp only; omega
    · refine neN ?_; dsimp only; omega
    · exact ha1 q hq
    · have := hLo q hq; refine neN ?_; omega))
  intro h8 oI8 F8 N8 dI8
  replace N8 := news_ord N8
  clear F9 N9
  have hx0 : 1 ≤ x := Int.le_trans (by exact_mod_cast Nat.one_le_two_pow) hx1
  have hv0 : vs0.length = k + 1 := by rw [i1.length, List.length_replicate]
  repeat' ((fail_if_success (with_reducible show wpAny _ _ (call (Value.builtin "len") _ _) _ _ _)); first | (k_unfold; (try dsimp only)) | (k_end; wrow_close) | walk1 | (dsimp only; walk1) | (leave1; walk_say "STEP leave1"; try dsimp only) | fail "no step")
  · refine kst_len N8 (by k_mem) hv0 (by omega) ?_
    repeat' ((fail_if_success (with_reducible show wpAny _ _ (call (Value.ref _) _ _) _ _ _)); first | (k_unfold; (try dsimp only)) | (k_end; wrow_close) | walk1 | (dsimp only; walk1) | (leave1; walk_say "STEP leave1"; try dsimp only) | fail "no step")
    k_dflt (refine' inner (k + 1) _ _ _ _ _ _ _ _ _ _ _ _ _ _ (tab' ++ news) _ 0 (k + 1) _ _ _ _ vs0 (List.replicate (k + 1) 0) _ _ _ ?h1 ?h2 ?h3 ?h4 ?k1 ?k2 ?k3 ?k4 ?k5 ?kK ?kd ?ku ?y0 ?y1 ?hI ?hl ?ho ?_; (case hI => exact i1); (case h1 => omega); (case h2 => omega); (case h3 => rw [List.length_replicate]; exact Nat.le_refl _); (case h4 => k_asm); (case k1 => k_asm); (case k2 => k_asm); (case k3 => k_asm); (case k4 => k_asm); (case k5 => k_asm); (case kK => exact rfl); (case kd => (show dp + 1 + _ + 2 < _; omega)); (case ku => (show un + 3 + 20 * _ + 40 < _; omega)); (case y0 => omega); (case y1 => exact hx2); (case hl => rw [List.length_replicate]; omega); (case ho => exact ha3); k_whole)
    intro vs6 h6 tk6 I6 F6 N6
    rw [put_all (by rw [bitsOf_length, List.length_replicate]; rfl)] at I6
    k_steps
    rename News h₀ L _ _ => N7
    exact hret tab' D vs6 0 _ _ hTab' ha2 (fun q hq => hloD q (List.mem_append_right _ hq)) (by omega) I6 (by k_asm) (news_last N7)
  · exfalso
    omega
end Mine
end

section
open PySem PySem.W PyProof.Rows
set_option maxRecDepth 100000
namespace Mine
open Sem (wp)
section
variable {M : Model} {A : Around} {s : Shared} {env : Env}
theorem C_cons {st : Stmt} {rest : List Stmt} {Q : Flow → Shared → Prop} (h : wpC M A (exec st env) (fun f s' => match f with | .next => wpC M A (execs rest env) Q s' | f => Q f s') s) :
    wpC M A (execs (st :: rest) env) Q s := by
  rw [execs_cons]
  refine wpC_bind (wpC_mono h fun f s' h' => ?_)
  cases f <;> first | exact h' | exact wpC_pure h'
theorem C_nil {Q : Flow → Shared → Prop} (h : Q .next s) : wpC M A (execs [] env) Q s := fun _ _ _ _ => h
theorem C_Assign {x : Str} {pos' pos : Pos} {value : Expr} {Q : Flow → Shared → Prop}
    (h : wpC M A (eval value env) (fun v s₁ => wpC M A (storeName env x v) (fun _ => Q .next) s₁) s)
    (hs : swapsWith value (some (.Name x pos')) pos.line env = pure false := by rfl) : wpC M A (exec (.Assign [.Name x pos'] value pos) env) Q s := fun Γ p a b => by
  simp only [exec_Assign_Name env x pos' value pos hs, Sem.wp_bind', Sem.wp_cmd_standAt, Sem.wp_bindName, Sem.wp_pure']
  exact Sem.wp_mono M Γ _ (fun v _ s₁ h₁ => h₁ Γ _ a b) (fun _ _ _ h' => h') _ _ (h Γ _ a b)
theorem C_Return {e : Expr} {pos : Pos} {Q : Flow → Shared → Prop} (h : wpC M A (eval e env) (fun v => Q (.ret v)) s) : wpC M A (exec (.Return (some e) pos) env) Q s := fun Γ p a b => by
  simp only [exec_Return_some, Sem.wp_bind', Sem.wp_cmd_standAt, Sem.wp_pure']; exact h Γ _ a b
theorem C_IfExp {test body orelse : Expr} {pos : Pos} {Q : Value → Shared → Prop}
    (h : wpC M A (isTrue test env (eval test env)) (fun b s₁ => match b with | true => wpC M A (eval body env) Q s₁ | false => wpC M A (eval orelse env) Q s₁) s) :
    wpC M A (eval (.IfExp test body orelse pos) env) Q s := by
  rw [PyProof.Rows.eval_IfExp]
  refine wpC_bind (wpC_mono h fun b s₁ h₁ => ?_)
  cases b <;> exact h₁
theorem C_BinOp {l r : Expr} {op : Operator} {pos : Pos} {Q : Value → Shared → Prop}
    (h : wpC M A (eval l env) (fun x s₁ => wpC M A (eval r env) (fun y s₂ => wpC M A (binaryOp op x y) Q s₂) s₁) s) : wpC M A (eval (.BinOp l op r pos) env) Q s := fun Γ p a b => by
  simp only [eval_BinOp, Sem.wp_bind', Sem.wp_holding, Sem.wp_cmd_standAt, Sem.wp_operate]
  exact Sem.wp_mono M Γ _ (fun _ p₁ s₁ h₁ => Sem.wp_mono M Γ _ (fun _ _ s₂ h₂ => h₂ Γ _ a b) (fun _ _ _ h' => h') _ _ (h₁ Γ p₁ a b))
    (fun _ _ _ h' => h') _ _ (h Γ p a b)
theorem C_Call {x : Str} {p pos : Pos} {args : List Expr} {Q : Value → Shared → Prop}
    (h : wpAny M A (eval (.Name x p) env) (fun f s₁ => wpC M A (callWith pos f [] (backTo pos (starEach args env)) []) Q s₁) (fun _ _ => False) s) :
    wpC M A (eval (.Call (.Name x p) args [] pos) env) Q s := by
  show wpC M A (do callWith pos (← eval (.Name x p) env) [] (backTo pos (starEach args env)) (backToKw pos (keywordEach [] env))) Q s
  exact wpC_bindL h
theorem C_callWith_type {pos : Pos} {T : String} {x : Sem Value} {rest : List (Bool × Sem Value)} {Q : Value → Shared → Prop} (hplain : rest.any (·.1) = false)
    (h : wpAny M A (spliced ((false, x) :: rest)) (fun vs s₁ => wpC M A (call (.type T) vs []) Q s₁) (fun _ _ => False) s) :
    wpC M A (callWith pos (.type T) [] ((false, x) :: rest) []) Q s := by
  unfold callWith
  refine wpC_bindL (wpAny_holding (Calls.evalArgs_plain (wpAny_mono h (fun vs s₁ h₁ => wpC_bind (wpC_standAt ?_)) fun _ _ y => y)))
  simp only [List.any_cons, hplain, List.any_nil, Bool.or_false]
  refine wpC_bindL (wpAny_pure ?_)
  exact wpC_bind (wpC_mono h₁ fun r s₂ hr => wpC_bindL (wpAny_holding (wpAny_point (wpC_pure hr))))
end
section
variable {prog : Program} {w : World} {A : Around} {s : Shared} {env : Env} {R : Flow → Shared → Prop}
theorem codeC_block {stmts : List Stmt} (h : wpC (model prog w) A (execs stmts env) R s) : codeC (model prog w) A (.block stmts env) R s := by
  refine codeC_of_tree ?_
  show wpC _ _ (do return Fin.done (← (execs stmts env).onRaise (fun x => do noteFrame x env; theTreesLotGoes x))) _ s
  exact wpC_bind (wpC_onRaise (wpC_mono h fun f s' h' => wpC_pure h'))
theorem codeC_for {target : Expr} {it : Value} {body orelse : List Stmt}
    (h : wpC (model prog w) A (pyNext it) (fun r s₁ => match r with
      | none => wpC (model prog w) A (execs orelse env) R s₁
      | some v => wpC (model prog w) A (assign target env v) (fun _ s₂ => wpC (model prog w) A (execs body env) (fun f s₃ => match f with
          | .next | .cont => codeC (model prog w) A (.forLoop target it body orelse env) R s₃
          | .brk => R .next s₃
          | .ret v => R (.ret v) s₃) s₂) s₁) s)
    (ht : ∀ v, letOwnedTupleGo target it v = pure () := by intro _; rfl) : codeC (model prog w) A (.forLoop target it body orelse env) R s := by
  refine codeC_of_tree ?_
  show wpC _ _ ((forTurn target it body orelse env).onRaise (fun x => do noteFrame x env; theTreesLotGoes x)) _ s
  refine wpC_onRaise ?_
  simp only [forTurn]
  refine wpC_bind (wpC_standAt (wpC_bind (wpC_onRaise (wpC_mono h fun r s₁ h₁ => ?_))))
  cases r with
  | none => exact wpC_pure ⟨rfl, rfl, codeC_block h₁⟩
  | some v =>
    refine wpC_bindL (wpAny_of_eq (ht v) ?_)
    refine wpC_bind (wpC_mono h₁ fun _ s₂ h₂ => wpC_bind (wpC_mono h₂ fun f s₃ h₃ => ?_))
    cases f with
    | next => exact wpC_pure ⟨rfl, rfl, h₃⟩
    | cont => exact wpC_pure ⟨rfl, rfl, h₃⟩
    | brk => exact wpC_pure h₃
    | ret v => exact wpC_pure h₃
theorem C_For {target iter : Expr} {body orelse : List Stmt} {pos : Pos}
    (h : wpAny (model prog w) A (eval iter env) (fun x s₁ => wpAny (model prog w) A (pyIter x) (fun it s₂ => codeC (model prog w) A (.forLoop target it body orelse env) R s₂) (fun _ _ => False) s₁) (fun _ _ => False) s)
    (hs : ∀ x, foldedSetIterable iter env x = pure x := by intro _; rfl) : wpC (model prog w) A (exec (.For target iter body orelse pos) env) R s := by
  rw [exec_For]
  refine wpC_bind (wpC_standAt (wpC_bindL (wpAny_mono h (fun x s₁ h₁ => wpC_bindL (wpAny_of_eq (hs x) (wpC_bind (wpC_standAt (wpC_bindL (wpAny_holding (wpAny_mono h₁ (fun it s₂ h₂ => ?_) fun _ _ h' => h'))))))) fun _ _ h' => h')))
  exact wpC_onRaise (wpC_run (codeC_mono h₂ fun _ _ y => y))
end
end Mine
end

section
open PySem PySem.W PyProof.Rows
set_option maxRecDepth 100000
namespace Mine
open Sem (wp)
theorem ba_mro : mroOf (.type "bytearray") = pure [.type "bytearray", .type "object"] := by rw [mroOf_type]; kernel_rfl
theorem ba_lookup_new : typeLookup (.type "bytearray") "__new__" = pure (some (.builtin "bytearray.__new__")) := by rw [typeLookup_type, builtinLookup_eq_fast]; kernel_rfl
theorem ba_slot_init : Slot "bytearray" "__init__" "bytearray.__init__" :=
  .of (owner := "bytearray") (n := "__init__") (by rw [typeLookup_type, builtinLookup_eq_fast]; kernel_rfl) (by decide +kernel) (by decide +kernel) (by decide +kernel)
    (by first | exact .inl (by decide +kernel) | exact .inr (by decide +kernel)) (by rw [isSubtype_type]; kernel_rfl)
theorem ba_called : TypeCalled "bytearray" "bytearray.__new__" "bytearray.__init__" :=
  ⟨by decide +kernel, by decide +kernel, ⟨_, _, ba_mro⟩, madeBy_type ba_mro ba_lookup_new (by decide +kernel), by decide +kernel, by rw [isSubtype_type]; kernel_rfl, ba_slot_init⟩
theorem ba_typeCall (a : Value) : checkTypeCall "bytearray" ⟨[a], []⟩ = pure () := by kernel_rfl
theorem ba_newCall (a : Value) : checkBuiltinCall "bytearray.__new__" ⟨[.type "bytearray", a], []⟩ = pure () := by kernel_rfl
theorem ba_plain : plainId "bytearray.__new__" = true := by decide +kernel
theorem ba_entry_new : entryFor table "bytearray.__new__" = some Builtin.«list.__new__» :=
  entryFor_alias (id' := "list.__new__") (by kernel_rfl) (by first | rfl | decide +kernel) (by decide +kernel) (by kernel_rfl)
theorem ba_entry_init : entryFor table "bytearray.__init__" = some Builtin.«bytearray.__init__» := by first | exact entryFor_of_fast (by kernel_rfl) | exact entryFor_of_tree (by kernel_rfl)
theorem ba_slot_set : Slot "bytearray" "__setitem__" "bytearray.__setitem__" :=
  .of (owner := "bytearray") (n := "__setitem__") (by rw [typeLookup_type, builtinLookup_eq_fast]; kernel_rfl) (by decide +kernel) (by decide +kernel) (by decide +kernel)
    (by first | exact .inl (by decide +kernel) | exact .inr (by decide +kernel)) (by rw [isSubtype_type]; kernel_rfl)
theorem ba_entry_set : entryFor table "bytearray.__setitem__" = some Builtin.«bytearray.__setitem__» := by first | exact entryFor_of_fast (by kernel_rfl) | exact entryFor_of_tree (by kernel_rfl)
theorem ba_no_bytes : typeLookup (.type "bytearray") "__bytes__" = pure none := by rw [typeLookup_type, builtinLookup_eq_fast]; kernel_rfl
theorem ba_no_index : typeLookup (.type "bytearray") "__index__" = pure none := by rw [typeLookup_type, builtinLookup_eq_fast]; kernel_rfl
theorem ba_buffer : typeLookup (.type "bytearray") "__buffer__" = pure (some (.builtin "bytearray.__buffer__")) := by rw [typeLookup_type, builtinLookup_eq_fast]; kernel_rfl
theorem ba_release : typeLookup (.type "bytearray") "__release_buffer__" = pure (some (.builtin "bytearray.__release_buffer__")) := by rw [typeLookup_type, builtinLookup_eq_fast]; kernel_rfl
theorem ba_sub : isSubtype (.type "bytearray") (.type "bytearray") = pure true := by rw [isSubtype_type]; kernel_rfl
theorem ba_bind (v : Value) : Builtin.Bytes.bindOptional "bytearray.__init__" "bytearray" ["source", "encoding", "errors"] [v] [] = pure [some v, none, none] := by kernel_rfl
theorem ba_int_index : typeLookup (.type "int") "__index__" = pure (some (.builtin "int.__index__")) := by rw [typeLookup_type, builtinLookup_eq_fast]; kernel_rfl
theorem ba_args_set (a b c : Value) : argsOk "bytearray.__setitem__" ⟨[a, b, c], []⟩ := by
  unfold argsOk; kernel_rfl
theorem ba_args_init (a b : Value) : argsOk "bytearray.__init__" ⟨[a, b], []⟩ := by
  unfold argsOk; kernel_rfl
set_option maxRecDepth 1000000 in
set_option maxHeartbeats 4000000 in
theorem ba_owner : ("bytearray.__new__".splitOn ".__new__").headD "" = "bytearray" := by simp +decide [String.splitOn, String.splitOnAux]
end Mine
end

section
open PySem PySem.W PyProof.Rows
set_option maxRecDepth 100000
namespace Mine
open Sem (wp)
abbrev baObj (b : Array UInt8) : Obj := { cls := .type "bytearray", data := .bytearray b }
section
variable {prog : Program} {w : World} {A : Around} {E : Value → Shared → Prop} {s : Shared}

theorem code_ba_new (a : Value) {Q₁ : Value → Shared → Prop}
    (h : Q₁ (.ref s.heap.objs.size) { s with heap := s.heap.push (baObj #[]) }) :
    codeAny (model prog w) A (.call (.builtin "bytearray.__new__") ⟨[.type "bytearray", a], []⟩) (wants Q₁ E) s := by
  refine codeAny_of_tree ?_
  show wpAny _ A.in1 (do checkBuiltinCall "bytearray.__new__" ⟨[.type "bytearray", a], []⟩; again (.builtin "bytearray.__new__" ⟨[.type "bytearray", a], []⟩)) _ _ s
  refine wpAny_bind (wpAny_of_eq (ba_newCall a) (wpAny_pure ⟨plainId_quiet ba_plain _, codeAny_builtin_stack ba_entry_new rfl fun p st => ?_⟩))
  rw [Around.under_plainId ba_plain _]
  have hsub := ba_sub
  have hown := ba_owner
  obtain ⟨hp, g, d, tk, os⟩ := s
  simp only [hown]
  wp_walk
  exact h

theorem C_if_false {α : Type} {c : Bool} {a b : Sem α} {M : Model} {Q : α → Shared → Prop} (hc : c = false) (h : wpC M A b Q s) : wpC M A (if c = true then a else b) Q s := by
  subst hc
  exact h
theorem C_if_true {α : Type} {c : Bool} {a b : Sem α} {M : Model} {Q : α → Shared → Prop} (hc : c = true) (h : wpC M A a Q s) : wpC M A (if c = true then a else b) Q s := by
  subst hc
  exact h
theorem codeC_builtin {id : String} {args : Args} {b : Builtin} {R : Flow → Shared → Prop} (hb : entryFor table id = some b)
    (h : wpC (model prog w) (A.under (.builtin id args)) (b args)
      (fun fin s' => match fin with | .done f => R f s' | .again c' => c'.quiet = true ∧ heldCode c' = false ∧ codeC (model prog w) A c' R s') s) :
    codeC (model prog w) A (.builtin id args) R s := by
  refine codeC_of_tree ?_
  show wpC _ _ (match entryFor table id with | some b => b args | none => unsupported ((withoutEnding? id "#data").getD id)) _ s
  rw [hb]; exact h

theorem C_exported {M : Model} {self : Value} {Q : Bool → Shared → Prop} (h : Q false s) : wpC M A (Builtin.Bytes.exported self) Q s := fun Γ p _ b => by
  show Q (((Γ.code, p) :: Γ.below).any _) s
  refine Eq.mpr (congrArg (fun b => Q b s) ?_) h
  refine List.any_eq_false.mpr fun x hx => ?_
  have hc : heldCode x.1 = false := by
    cases hx with
    | head => exact b.1
    | tail _ hx => exact b.2 x hx
  clear h hx
  split
  case h_6 =>
    rename_i id v vs kw _ _ _ _ _ _
    rw [heldCode, heldIds, List.contains_append, Bool.or_eq_false_iff] at hc
    rw [hc.2, Bool.and_false]; exact Bool.false_ne_true
  case h_7 => exact Bool.false_ne_true
  all_goals (exfalso; revert hc; simp [heldCode, heldIds])
end
end Mine
end

section
open PySem PySem.W PyProof.Rows
set_option maxRecDepth 100000
namespace Mine
open Sem (wp)
theorem ba_owner_rel : ("bytearray.__release_buffer__".dropRight ("__release_buffer__".length + 1)) = "bytearray" := by decide +kernel
section
variable {prog : Program} {w : World} {A : Around} {E : Value → Shared → Prop} {s : Shared}
theorem wpAny_ownRelease {S : Addr} {b : Array UInt8} {Q : Bool → Shared → Prop} (hS : s.heap.get? S = some (baObj b)) (h : Q false s) : wpAny (model prog w) A (Builtin.Bytes.ownRelease (.ref S)) Q E s := by
  have hT : s.TypeIs (.ref S) "bytearray" := ⟨_, hS, rfl⟩
  unfold Builtin.Bytes.ownRelease Builtin.Bytes.slotIsOwn
  refine wpAny_bind (wpAny_bind (wpAny_specialOf hT ba_release ?_))
  dsimp only
  refine bm_if_false (by decide +kernel) ?_
  rw [show ("bytearray.__release_buffer__".dropRight ("__release_buffer__".length + 1)) = "bytearray" from ba_owner_rel]
  refine wpAny_isInstance hT ba_sub ?_
  exact wpAny_pure h
theorem wpAny_write {S : Addr} {b : Array UInt8} {f : Array UInt8 → Array UInt8} {Q : Unit → Shared → Prop} (hS : s.heap.get? S = some (baObj b)) (hz : (f b).size ≤ sizeLine)
    (h : ∀ h', (∀ c o, c ≠ S → s.heap.get? c = some o → h'.get? c = some o) → h'.get? S = some (baObj (f b)) → h'.objs.size = s.heap.objs.size → Heap.SameBut S s.heap h' → Q () { s with heap := h' }) : wpAny (model prog w) A (Builtin.Bytes.write (.ref S) f) Q E s := by
  show wpAny _ _ (updateBytearray S f) _ _ _
  unfold updateBytearray
  refine wpAny_bind (wpAny_load hS ?_)
  show wpAny _ _ (update S (Obj.mapBytearray f) >>= fun _ => lookBehind S) _ _ _
  refine wpAny_bind (wpAny_update hS ?_)
  have hS₂ : (s.heap.update S (Obj.mapBytearray f)).get? S = some (baObj (f b)) := Heap.get?_update_self (Obj.mapBytearray f) hS rfl
  refine wpAny_lookBehind hS₂ ?_ ?_
  · show (if (f b).size > sizeLine then some "bytearray:memory" else none) = none
    rw [if_neg (Nat.not_lt.mpr hz)]
  · exact h _ (fun c o hc e => (Heap.get?_update_other _ _ (Ne.symm hc)).trans e) hS₂ (by simp [Heap.update]) (Heap.SameBut.update ..)
theorem C_ba_init {S : Addr} {n : Int} {t : Tok} {Q : Value → Shared → Prop} (hS : s.heap.get? S = some (baObj #[])) (h0 : 0 < n) (h1 : n ≤ 1000)
    (h : ∀ h', (∀ c o, c ≠ S → s.heap.get? c = some o → h'.get? c = some o) → h'.get? S = some (baObj (Array.replicate n.toNat 0)) → Q .none { s with heap := h' }) :
    codeC (model prog w) A (.call (.builtin "bytearray.__init__") ⟨[.ref S, .int n t], []⟩) (fun f s' => match f with | .ret v => Q v s' | _ => False) s := by
  have hT : s.TypeIs (.ref S) "bytearray" := ⟨_, hS, rfl⟩
  refine codeC_of_tree ?_
  show wpC _ A.in1 (do checkBuiltinCall "bytearray.__init__" ⟨[.ref S, .int n t], []⟩; again (.builtin "bytearray.__init__" ⟨[.ref S, .int n t], []⟩)) _ s
  refine wpC_bindL (ba_slot_init.check _ _ _ _ _ _ _ _ hT (ba_args_init _ _) (wpC_pure ⟨plainId_quiet ba_slot_init.plain _, show heldIds.contains "bytearray.__init__" = false by decide +kernel, codeC_builtin ba_entry_init ?_⟩))
  rw [Around.under_plainId ba_slot_init.plain _]
  unfold Builtin.«bytearray.__init__»
  refine wpC_bindL (wpAny_ownRelease hS ?_)
  refine C_if_false rfl ?_
  refine wpC_bindL (wpAny_of_eq (ba_bind _) ?_)
  refine wpC_bindL (wpAny_of_eq (a := ()) rfl ?_)
  refine wpC_bindL (wpAny_of_eq (a := ()) rfl ?_)
  refine wpC_bind ?_
  unfold orM
  refine wpC_bind (C_exported ?_)
  show wpC _ _ (Builtin.Bytes.exportsOf (.ref S) >>= fun k => pure (decide (k > 0))) _ _
  refine leafC (wpAny_bind ?_)
  unfold Builtin.Bytes.exportsOf
  refine wpAny_bind (wpAny_load hS ?_)
  refine wpAny_pure (wpAny_pure ?_)
  refine C_if_false rfl ?_
  refine leafC (wpAny_bind (wpAny_write (f := fun _ => #[]) hS (Nat.zero_le _) fun h₁ k1 k2 k3 _ => ?_))
  dsimp only
  refine wpAny_bind (wpAny_of_eq (a := none) rfl ?_)
  refine bm_if_false rfl ?_
  refine wpAny_bind (bm_if_false rfl (bm_if_false rfl (wpAny_pure ?_)))
  refine wpAny_bind (wpAny_specialOf (T := "int") rfl ba_int_index ?_)
  refine bm_if_true rfl ?_
  refine wpAny_bind (wpAny_attempt (wpAny_of_eq (rfl : asIndex (.int n t) = pure n) ?_))
  dsimp only
  refine bm_if_false (by simp [Builtin.Bytes.fitsIndex]; omega) ?_
  rw [if_neg (show ¬ n < 0 by omega)]
  refine bm_if_false (by simp; omega) ?_
  refine bm_if_false ?tl ?_
  case tl => have hz : (1000:Nat) ≤ sizeLine := by decide +kernel
             simp only [Builtin.Bytes.tooLong]; simp; omega
  refine wpAny_bind (wpAny_rule ?_)
  rw [if_pos h0]
  refine wpAny_bind (wpAny_write (f := fun _ => Array.replicate n.toNat 0) k2 ?_ fun h₂ j1 j2 j3 _ => ?_)
  · rw [Array.size_replicate]; exact Nat.le_trans (by omega : n.toNat ≤ 1000) (by decide +kernel)
  exact wpAny_pure (h h₂ (fun c o hc e => j1 c o hc (k1 c o hc e)) j2)
theorem C_bytearray {n : Int} {t : Tok} {Q : Value → Shared → Prop} (h0 : 0 < n) (h1 : n ≤ 1000)
    (h : ∀ h', (∀ c o, s.heap.get? c = some o → h'.get? c = some o) → h'.get? s.heap.objs.size = some (baObj (Array.replicate n.toNat 0)) → Q (.ref s.heap.objs.size) { s with heap := h' }) :
    wpC (model prog w) A (call (.type "bytearray") [.int n t] []) Q s := by
  have ft := ba_called
  obtain ⟨c, tl, hmro⟩ := ft.mro
  have hmade := ft.made
  have hsub := ft.sub
  refine wpC_call (codeC_of_tree ?_)
  show wpC _ _ (callAny (.type "bytearray") _) _ _
  refine wpC_pure ⟨Code.quiet_builtin _ (by decide +kernel), show heldIds.contains "type.__call__" = false by decide +kernel, codeC_builtin F.entry_type_call ?_⟩
  rw [Around.under_plain (weight_type_call_type "bytearray" _ []) rfl]
  have h1 := ft.notType
  have h2 := ft.canCreate
  unfold Builtin.«type.__call__»
  refine C_if_false h1 ?_
  refine C_if_false h2 ?_
  refine wpC_bindL (wpAny_of_eq (ba_typeCall _) ?_)
  refine wpC_bindL (wpAny_of_eq hmro ?_)
  refine C_if_false rfl ?_
  refine wpC_bindL (wpAny_of_eq hmade ?_)
  refine wpC_bindL (wpAny_pure ?_)
  refine wpC_bindL (wpAny_holding (wpAny_call (codeAny_mono (code_ba_new (E := fun _ _ => False) (Q₁ := fun v s' => v = .ref s.heap.objs.size ∧ s' = { s with heap := s.heap.push (baObj #[]) }) (.int n t) ⟨rfl, rfl⟩) fun r s₁ hr => ?_)))
  cases r with
  | error e => exact hr
  | ok fl =>
    cases fl with
    | ret obj =>
      obtain ⟨rfl, rfl⟩ := hr
      have hS : (s.heap.push (baObj #[])).get? s.heap.objs.size = some (baObj #[]) := Heap.get?_push_size _ rfl
      refine wpC_bindL (wpAny_isInstance (T := "bytearray") ⟨_, hS, rfl⟩ hsub ?_)
      refine C_if_false rfl ?_
      refine wpC_bind (wpC_holding ?_)
      unfold callSpecial?
      refine wpC_bindL (wpAny_specialOf (T := "bytearray") ⟨_, hS, rfl⟩ ba_slot_init.lookup ?_)
      refine wpC_holding (wpC_bindL (wpAny_of_eq (ba_slot_init.bind _) ?_))
      refine wpC_bind (wpC_call (C_ba_init hS h0 (by assumption) fun h' k1 k2 => ?_))
      refine wpC_pure (C_if_false rfl ?_)
      refine wpC_pure ?_
      exact h h' (fun c o e => k1 c o (Nat.ne_of_lt (Heap.lt_size e)) (Heap.get?_push_of_some _ e)) k2
    | _ => exact hr.elim
end
end Mine
end

section
open PySem PySem.W PyProof.Rows
set_option maxRecDepth 100000
namespace Mine
open Sem (wp)
section
variable {prog : Program} {w : World} {A : Around} {E : Value → Shared → Prop} {s : Shared}
theorem ba_payload {S : Addr} {b : Array UInt8} {Q : Array UInt8 → Shared → Prop} (hS : s.heap.get? S = some (baObj b)) (h : Q b s) : wpAny (model prog w) A (Builtin.Bytes.payload (.ref S)) Q E s := by
  unfold Builtin.Bytes.payload Builtin.Bytes.payload?
  exact wpAny_bind (wpAny_bind (wpAny_load hS (wpAny_pure (wpAny_pure h))))
theorem ba_set_call {S : Addr} {b : Array UInt8} {i v : Int} {ti tv : Tok} {Q : Value → Shared → Prop} (hS : s.heap.get? S = some (baObj b)) (h0 : 0 ≤ i) (h1 : i < b.size) (hb : b.size ≤ sizeLine) (v0 : 0 ≤ v) (v1 : v < 256)
    (h : ∀ h', (∀ c o, c ≠ S → s.heap.get? c = some o → h'.get? c = some o) → h'.get? S = some (baObj (b.setIfInBounds i.toNat v.toNat.toUInt8)) → h'.objs.size = s.heap.objs.size → Heap.SameBut S s.heap h' → Q .none { s with heap := h' }) :
    wpAny (model prog w) A (call (.builtin "bytearray.__setitem__") [.ref S, .int i ti, .int v tv]) Q E s := by
  have hT : s.TypeIs (.ref S) "bytearray" := ⟨_, hS, rfl⟩
  have hz : sizeLine = 16777216 := by decide +kernel
  refine wpAny_call (codeAny_call_builtin ba_slot_set.plain ba_entry_set (ba_slot_set.check _ _ _ _ _ _ _ _ hT (ba_args_set _ _ _) ?_))
  unfold Builtin.«bytearray.__setitem__»
  refine bm_if_false rfl ?_
  refine wpAny_bind ?_
  unfold Builtin.Bytes.subscript?
  refine wpAny_bind (wpAny_specialOf (T := "int") rfl ba_int_index ?_)
  refine bm_if_false rfl ?_
  refine wpAny_bind (wpAny_of_eq (rfl : asIndex (.int i ti) = pure i) ?_)
  refine bm_if_false (by simp [Builtin.Bytes.fitsIndex]; omega) ?_
  refine wpAny_pure ?_
  refine wpAny_bind ?_
  unfold Builtin.Bytes.byteValue
  refine wpAny_bind (wpAny_of_eq (rfl : asIndex (.int v tv) = pure v) ?_)
  refine bm_if_false (by simp; omega) ?_
  refine wpAny_pure ?_
  refine wpAny_bind (ba_payload hS ?_)
  rw [show seqIndex? i b.size = some i.toNat by
    have hi : ¬ i < 0 := by omega
    simp only [seqIndex?, if_neg hi]
    rw [if_pos (by simp; omega)]]
  dsimp only
  refine wpAny_bind (wpAny_write (f := fun c => c.setIfInBounds i.toNat v.toNat.toUInt8) hS (by rw [Array.size_setIfInBounds]; exact hb) fun h' k1 k2 k3 k4 => ?_)
  first | exact wpAny_pure (h h' k1 k2 k3 k4) | exact wpAny_bind (wpAny_pure (wpAny_pure (h h' k1 k2 k3 k4))) | skip
theorem ba_setItem {S : Addr} {b : Array UInt8} {i v : Int} {ti tv : Tok} {Q : Unit → Shared → Prop} (hS : s.heap.get? S = some (baObj b)) (h0 : 0 ≤ i) (h1 : i < b.size) (hb : b.size ≤ sizeLine) (v0 : 0 ≤ v) (v1 : v < 256)
    (h : ∀ h', (∀ c o, c ≠ S → s.heap.get? c = some o → h'.get? c = some o) → h'.get? S = some (baObj (b.setIfInBounds i.toNat v.toNat.toUInt8)) → h'.objs.size = s.heap.objs.size → Heap.SameBut S s.heap h' → Q () { s with heap := h' }) :
    wpAny (model prog w) A (setItem (.ref S) (.int i ti) (.int v tv)) Q E s := by
  have hT : s.TypeIs (.ref S) "bytearray" := ⟨_, hS, rfl⟩
  unfold setItem
  refine wpAny_holding (wpAny_bind ?_)
  unfold sequenceKey
  refine wpAny_bind (wpAny_typeOf hT ?_)
  refine bm_if_true (by decide +kernel) ?_
  refine wpAny_pure ?_
  refine wpAny_bind ?_
  unfold callSpecial?
  refine wpAny_bind (wpAny_specialOf hT ba_slot_set.lookup ?_)
  refine wpAny_holding (wpAny_bind (wpAny_of_eq (ba_slot_set.bind _) ?_))
  exact wpAny_bind (ba_set_call hS h0 h1 hb v0 v1 fun h' k1 k2 k3 k4 => wpAny_pure (wpAny_pure (h h' k1 k2 k3 k4)))
theorem ba_bytes_new {S : Addr} {b : Array UInt8} {Q : Value → Shared → Prop} (hS : s.heap.get? S = some (baObj b)) (hz : b.size ≤ sizeLine)
    (hQ : ∀ t k, Q (.bytes b t) { s with toks := k }) :
    codeAny (model prog w) A (.call (.builtin "bytes.__new__") ⟨[.type "bytes", .ref S], []⟩) (wants Q E) s := by
  refine codeAny_of_tree ?_
  show wpAny _ A.in1 (do checkBuiltinCall "bytes.__new__" ⟨[.type "bytes", .ref S], []⟩; again (.builtin "bytes.__new__" ⟨[.type "bytes", .ref S], []⟩)) _ _ s
  refine wpAny_bind (wpAny_of_eq (F.bm_newCall _) (wpAny_pure ⟨plainId_quiet F.bm_plain _, codeAny_builtin F.bm_entry ?_⟩))
  rw [Around.under_plainId F.bm_plain _]
  have hT : s.TypeIs (.ref S) "bytearray" := ⟨_, hS, rfl⟩
  unfold Builtin.«bytes.__new__»
  refine wpAny_bind (wpAny_of_eq (a := true) rfl ?_)
  refine bm_if_false rfl ?_
  refine wpAny_bind (wpAny_of_eq F.bm_sub ?_)
  refine bm_if_false rfl ?_
  refine wpAny_bind (wpAny_of_eq (F.bm_bind _) ?_)
  refine wpAny_bind (wpAny_of_eq (a := ()) rfl ?_)
  refine wpAny_bind (wpAny_of_eq (a := ()) rfl ?_)
  refine bm_if_false rfl ?_
  refine wpAny_bind (wpAny_specialOf hT ba_no_bytes ?_)
  refine wpAny_bind (wpAny_bind ?_)
  show wpAny _ _ (load S >>= _) _ _ _
  refine wpAny_bind (wpAny_load hS ?_)
  refine wpAny_pure (wpAny_pure ?_)
  refine bm_if_false rfl ?_
  refine wpAny_bind (wpAny_specialOf hT ba_no_index ?_)
  refine bm_if_true rfl ?_
  first
    | show wpAny _ _ (Builtin.Bytes.buffer? "bytes.__new__" (.ref S) true >>= _) _ _ _
    | (refine wpAny_bind ?_; show wpAny _ _ (Builtin.Bytes.buffer? "bytes.__new__" (.ref S) true >>= _) _ _ _)
  refine wpAny_bind ?_
  unfold Builtin.Bytes.buffer?
  refine wpAny_bind (wpAny_specialOf hT ba_buffer ?_)
  dsimp only
  refine wpAny_bind ?_
  unfold Builtin.Bytes.slotIsOwn
  refine wpAny_bind (wpAny_specialOf hT ba_buffer ?_)
  dsimp only
  refine bm_if_false (by decide +kernel) ?_
  rw [show ("bytearray.__buffer__".dropRight ("__buffer__".length + 1)) = "bytearray" by decide +kernel]
  refine wpAny_isInstance hT ba_sub ?_
  refine bm_if_false rfl ?_
  refine wpAny_bind (wpAny_specialOf hT ba_buffer ?_)
  refine wpAny_bind (wpAny_ownRelease hS ?_)
  refine bm_if_false rfl ?_
  refine wpAny_bind (ba_payload hS ?_)
  refine wpAny_pure ?_
  dsimp only
  refine wpAny_bind (wpAny_rule ?_)
  refine wpAny_bind (wpAny_mkBytes ?_ hz)
  show wpAny _ _ (if (Value.type "bytes" == Value.type "bytes") = true then _ else _) _ _ _
  refine bm_if_true (by decide) ?_
  first
    | exact wpAny_pure (hQ _ _)
    | exact wpAny_bind (wpAny_pure (wpAny_pure (hQ _ _)))
theorem call_bytes_ba {S : Addr} {b : Array UInt8} {Q : Value → Shared → Prop} (hS : s.heap.get? S = some (baObj b)) (hz : b.size ≤ sizeLine)
    (hQ : ∀ t k, Q (.bytes b t) { s with toks := k }) : wpAny (model prog w) A (call (.type "bytes") [.ref S]) Q E s := by
  refine callType_codes (Q₁ := fun obj s₁ => s₁.TypeIs obj "bytes" ∧ Q obj s₁) F.bm_called (F.bm_typeCall _) F.entry_object_init
    (ba_bytes_new hS hz fun t k => ⟨PySem.W.typeIs_bytes _ _ _, hQ t k⟩) fun obj s₁ h₁ => ?_
  exact ⟨h₁.1, F.args_object_init_2 obj _, object_init_meets F.bm_called.init.lookup F.bm_called.made (by decide) prog w A.in1 _ s₁ ⟨h₁.1, rfl, h₁.2⟩⟩
end
end Mine
end

section
open PySem PySem.W PyProof.Rows
set_option maxRecDepth 100000
namespace Mine
section
variable {M : Model} {A : Around} {s : Shared} {env : Env}
structure FnIn (a : Addr) (h : Heap) : Prop where
  is : ∃ o fd, h.get? a = some o ∧ o.data = .func fd
theorem wpC_callWith_fn' {pos : Pos} {a : Addr} {x : Sem Value} {rest : List (Bool × Sem Value)} {Q : Value → Shared → Prop}
    (h : wpAny M A (spliced ((false, x) :: rest)) (fun vs s₁ => FnIn a s₁.heap ∧ wpC M A (call (.ref a) vs []) Q s₁) (fun _ _ => False) s) (hplain : rest.any (·.1) = false) :
    wpC M A (callWith pos (.ref a) [] ((false, x) :: rest) []) Q s := by
  unfold callWith
  refine wpC_bindL (wpAny_holding (Calls.evalArgs_plain (wpAny_mono h (fun vs s₁ h₁ => wpC_bind (wpC_standAt ?_)) fun _ _ y => y)))
  obtain ⟨⟨⟨o, fd, g1, g2⟩⟩, h₁⟩ := h₁
  have tail : ∀ {t : Sem Value}, wpC M A t Q s₁ → wpC M A (t >>= fun r => holding [r] point >>= fun _ => pure r) Q s₁ :=
    fun ht => wpC_bind (wpC_mono ht fun r s₂ hr => wpC_bindL (wpAny_holding (wpAny_point (wpC_pure hr))))
  simp only [List.any_cons, hplain, List.any_nil, Bool.or_false]
  refine wpC_bindL (m := keeperOf (.ref a)) ?_
  unfold keeperOf
  refine wpAny_bind (wpAny_load g1 ?_)
  rw [g2]
  refine wpAny_pure ?_
  have marked : wpC M A (callMarked plainCall (.ref a) vs []) Q s₁ := fun Γ p b c => by unfold callMarked; rw [Sem.wp_keep]; exact h₁ Γ p b c
  dsimp only
  split <;> first | exact tail h₁ | exact tail marked
end
section
variable {prog : Program} {w : World} {A₀ A : Around} {s : Shared} {base h₀ : Heap} {outer : List Env} {L : Addr} {m mg mb : Str → Option Value} {env : Env} {news : List (Addr × Obj)} {K : Frag} {p : Program} {loose : List Str} {mean : ExcName → Option Value}
  {R : Flow → Shared → Prop} {name qual : Str} {params : Arguments} {body : List Stmt} {scope : Scope} {dV kV doc pm cdv ct oc : Value} {an od : Option Addr} {osl : Array (Option Value)} {f : Addr} {args : Args} {binds : List (Str × Value)}
/-- entering a written def in the clean logic -/
theorem codeC_plain (B : Below A₀ base outer h₀) (F : Fr h₀ L s.heap m) (X₀ : K.In h₀) (N : News h₀ L s.heap news) (T : Top p loose mean mg mb h₀) (hA : A.frames = some (env :: outer)) (hf : env.frame = some L) (hke : env.scope.kind = .function)
    (ho : K.lookup f = some ⟨oc, od, .func (fnOf name qual params body scope dV kV doc pm an cdv ct), osl⟩) (hcd : codeIn K cdv qual = true) (hroom : A.depth < recursionLimit)
    (hbind : BindsTo s (fnOf name qual params body scope dV kV doc pm an cdv ct) args binds) (hloc : ∀ y ∈ binds, scope.names.lookup y.1 = some .local)
    (h : ∀ g L' h₁, Fr h₀ L g m → Fr g L' h₁ (fun y => binds.reverse.lookup y) → News g L' h₁ news → Below A base (env :: outer) g → K.In g → Top p loose mean mg mb g → (∀ q ∈ news, @LT.lt Nat _ q.1 L') →
      wpC (model prog w) (A.deeper (envOf qual scope L' f cdv)) (execs body (envOf qual scope L' f cdv))
        (fun fl s' => LeaveK h₀ L m g (CRes R) (match fl with | .ret v => v | _ => .none) s') { s with heap := h₁, toks := s.toks + binds.length })
    (hco : scope.isCoroutine = false) (hgen : scope.isGenerator = false) (hk : scope.kind = .function)
    (hcell : ∀ x ∈ scope.names, x.2 ≠ .cell) : codeC (model prog w) A (.call (.ref f) args) R s := by
  obtain ⟨FG, BG, st, lv⟩ := groundX (R := CRes R) B F N hA hf hke
  refine codeC_call_def (fd := fnOf name qual params body scope dV kV doc pm an cdv ct) (body := body) (binds := binds) hroom ((X₀.keeps F.keep) _ _ ho) rfl (T.nolimit.keeps F.keep) (codeRec_of (X₀.keeps F.keep) hcd) rfl hbind hcell hloc (fun h₁ hns hk₁ => ?_) hco hgen hk
  exact wpC_mono (h _ s.heap.objs.size h₁ FG ⟨hns, fun b o e => hk₁ b o (of_hideAll _ e), Nat.le_of_eq (hideAll_size _ _)⟩
    (fun q hq => ⟨hk₁ _ _ (N q hq).1, Nat.ne_of_lt (Heap.lt_size (N q hq).1), hideAll_none _ (List.mem_map_of_mem hq)⟩) BG (X₀.keeps st) (T.keeps st) (fun q hq => Heap.lt_size (N q hq).1)) (fun fl s' hl => lv _ _ hl)
end
section
variable {M : Model} {A : Around} {s : Shared} {env : Env}
theorem C_Call1T {T : String} {x : Str} {p pos : Pos} {e : Expr} {Q : Value → Shared → Prop}
    (h : wpAny M A (eval (.Name x p) env) (fun f s₁ => f = .type T ∧ wpAny M A (eval e env) (fun v s₂ => wpC M A (call (.type T) [v] []) Q s₂) (fun _ _ => False) s₁) (fun _ _ => False) s)
    (hs : starEach [e] env = [(false, eval e env)] := by rfl) : wpC M A (eval (.Call (.Name x p) [e] [] pos) env) Q s := by
  refine C_Call (wpAny_mono h (fun f s₁ h₁ => ?_) fun _ _ y => y)
  obtain ⟨rfl, h₁⟩ := h₁
  rw [hs]
  exact C_callWith_type rfl (Calls.spliced_cons (wpAny_mono h₁ (fun v s₂ h₂ => Calls.spliced_nil h₂) fun _ _ y => y))
theorem C_Call2F {a : Addr} {x : Str} {p pos : Pos} {e₁ e₂ : Expr} {Q : Value → Shared → Prop}
    (h : wpAny M A (eval (.Name x p) env) (fun f s₁ => f = .ref a ∧ wpAny M A (eval e₁ env) (fun v s₂ => wpAny M A (eval e₂ env) (fun u s₃ => FnIn a s₃.heap ∧ wpC M A (call (.ref a) [v, u] []) Q s₃) (fun _ _ => False) s₂) (fun _ _ => False) s₁) (fun _ _ => False) s)
    (hs : starEach [e₁, e₂] env = [(false, eval e₁ env), (false, eval e₂ env)] := by rfl) : wpC M A (eval (.Call (.Name x p) [e₁, e₂] [] pos) env) Q s := by
  refine C_Call (wpAny_mono h (fun f s₁ h₁ => ?_) fun _ _ y => y)
  obtain ⟨rfl, h₁⟩ := h₁
  rw [hs]
  refine wpC_callWith_fn' (Calls.spliced_cons (wpAny_mono h₁ (fun v s₂ h₂ => Calls.spliced_cons (wpAny_mono h₂ (fun u s₃ h₃ => Calls.spliced_nil h₃) fun _ _ y => y)) fun _ _ y => y)) rfl
end
theorem fnIn_of {K : Frag} {h₀ h : Heap} {L a : Addr} {m : Str → Option Value} {oc : Value} {od : Option Addr} {fd : FuncData} {osl : Array (Option Value)} (X : K.In h₀) (F : Fr h₀ L h m) (e : K.lookup a = some ⟨oc, od, .func fd, osl⟩) : FnIn a h := ⟨⟨_, fd, (X.keeps F.keep) _ _ e, rfl⟩⟩
section
variable {h₀ h h' : Heap} {L S : Addr} {m : Str → Option Value} {news : List (Addr × Obj)} {o o' : Obj} {g : Obj → List (Addr × Obj)}
theorem new_fr (F : Fr h₀ L h m) (k : ∀ c o, h.get? c = some o → h'.get? c = some o) : Fr h₀ L h' m := ⟨F.ns.at fun o e => k _ o e, fun b o e => k b o (F.keep b o e), F.above⟩
theorem new_news (F : Fr h₀ L h m) (N : News h₀ L h news) (k : ∀ c o, h.get? c = some o → h'.get? c = some o) (e : h'.get? h.objs.size = some o) : News h₀ L h' ((h.objs.size, o) :: news) := fun q hq => by
  rcases List.mem_cons.mp hq with rfl | hq
  · refine ⟨e, Nat.ne_of_gt F.ns.lt, ?_⟩
    cases z : h₀.get? h.objs.size with
    | none => rfl
    | some oo => exact absurd (Heap.lt_size (F.keep _ _ z)) (Nat.lt_irrefl _)
  · exact ⟨k _ _ (N q hq).1, (N q hq).2⟩
theorem C_bytearrayN {prog : Program} {w : World} {A : Around} {s : Shared} {n : Int} {t : Tok} {Q : Value → Shared → Prop} (F : Fr h₀ L s.heap m) (N : News h₀ L s.heap news) (h0 : 0 < n) (h1 : n ≤ 1000)
    (h : ∀ S h', Fr h₀ L h' m → News h₀ L h' ((S, baObj (Array.replicate n.toNat 0)) :: news) → (∀ q ∈ news, @LT.lt Nat _ q.1 S) → @LT.lt Nat _ L S → Q (.ref S) { s with heap := h' }) :
    wpC (model prog w) A (call (.type "bytearray") [.int n t] []) Q s :=
  C_bytearray h0 h1 fun h' k e => h s.heap.objs.size h' (new_fr F k) (new_news F N k e) (fun q hq => Heap.lt_size (N q hq).1) F.ns.lt
theorem set_fr (F : Fr h₀ L h m) (N : News h₀ L h news) (hm : (S, o) ∈ news) (hs : Heap.SameBut S h h') : Fr h₀ L h' m := by
  have hmem := N _ hm
  refine ⟨F.ns.sameBut hs (Ne.symm hmem.2.1), fun b ob e => (hs.2 b (fun q => ?_)).trans (F.keep b ob e), F.above⟩
  rw [q, hmem.2.2] at e; cases e
theorem set_news (N : News h₀ L h news) (U : UpdF S o news g) (hs : Heap.SameBut S h h') (e : h'.get? S = some o') : News h₀ L h' (g o') := by
  obtain ⟨own, rest, rfl, hg, h1, h2⟩ := U.split
  exact hg o' ▸ N.setAt h1 h2 hs e
end
end Mine
end

section
open PySem PySem.W PyProof.Rows
namespace Mine
set_option maxRecDepth 100000
set_option maxHeartbeats 8000000

theorem fillF8 (P : Params) : PySem.Challenge.rw_zx0001_01 = PySem.Challenge.rw_zx0001_01 ∧ hd.heap_39 P = hd.heap_39 P := by
  k_fill
  exact ⟨rfl, rfl⟩

theorem lookup_if {y a : Str} {v : Value} {l : List (Str × Value)} : List.lookup y ((a, v) :: l) = if y = a then some v else List.lookup y l := by
  rw [List.lookup_cons]
  by_cases h : y = a
  · subst h; simp
  · rw [if_neg h]
    have : (y == a) = false := by simpa using h
    rw [this]
theorem range_one {n : Int} (h1 : 0 < n) (h2 : n ≤ 1000) : Builtin.Range.rangeSize 0 n n = ((1 : Nat) : Int) ∧ Builtin.Range.small 0 n n = true ∧ Builtin.Range.rangeSize 0 n 1 = n ∧ Builtin.Range.small 0 n 1 = true := by
  have e1 : Builtin.Range.rangeSize 0 n n = ((1 : Nat) : Int) := by
    unfold Builtin.Range.rangeSize
    rw [if_pos h1, if_pos h1, Int.ediv_eq_zero_of_lt (by omega) (by omega)]; rfl
  have e2 : Builtin.Range.rangeSize 0 n 1 = n := by
    unfold Builtin.Range.rangeSize
    rw [if_pos (by decide), if_pos h1, Int.ediv_one]; omega
  refine ⟨e1, ?_, e2, ?_⟩
  · unfold Builtin.Range.small
    rw [e1, if_pos h1]
    simp [Builtin.Range.rangeFitsLong]; omega
  · unfold Builtin.Range.small
    rw [e2, if_pos (by decide)]
    simp [Builtin.Range.rangeFitsLong]; omega
def revd (b : Array UInt8) : Nat → Array UInt8
  | 0 => Array.replicate b.size 0
  | k + 1 => (revd b k).setIfInBounds (b.size - 1 - k) (b.getD k 0)
theorem revd_size (b : Array UInt8) (k : Nat) : (revd b k).size = b.size := by
  induction k with
  | zero => simp [revd]
  | succ k ih => simp [revd, ih]
theorem revd_get (b : Array UInt8) (k : Nat) (hk : k ≤ b.size) (i : Nat) : (revd b k).getD i 0 = if b.size - k ≤ i ∧ i < b.size then b.getD (b.size - 1 - i) 0 else 0 := by
  induction k with
  | zero =>
    rw [if_neg (by omega), revd]
    simp only [Array.getD_eq_getD_getElem?, Array.getElem?_replicate]
    split <;> rfl
  | succ k ih =>
    have ih := ih (by omega)
    rw [revd]
    simp only [Array.getD_eq_getD_getElem?] at ih ⊢
    rw [Array.getElem?_setIfInBounds, revd_size]
    by_cases h : b.size - 1 - k = i
    · rw [if_pos h, if_pos (by omega), if_pos (by omega)]
      have : b.size - 1 - i = k := by omega
      rw [this]; rfl
    · rw [if_neg h, ih]
      by_cases h2 : b.size - k ≤ i ∧ i < b.size
      · rw [if_pos h2, if_pos (by omega)]
      · rw [if_neg h2, if_neg (by omega)]
theorem revd_all (b : Array UInt8) : revd b b.size = b.reverse := by
  apply Array.ext
  · rw [revd_size, Array.size_reverse]
  · intro i h1 h2
    rw [revd_size] at h1
    have := revd_get b b.size (Nat.le_refl _) i
    rw [if_pos (by omega)] at this
    simp only [Array.getD_eq_getD_getElem?] at this
    rw [Array.getElem?_eq_getElem (by rw [revd_size]; exact h1), Array.getElem?_eq_getElem (by omega)] at this
    simpa using this
theorem swap_ok {w : World} {p : Program} {loose : List Str} {mean : ExcName → Option Value} {mg mb : Str → Option Value}
  (dp un : Nat) (gd : Option (List Code)) (cn : Str) (cs : Scope) (a : Addr) (ccd : Value) (cl : List (Str × Addr)) (outer : List Env) (A₀ : Around) (base h₀ : Heap) (L : Addr) (m : Str → Option Value) (news : List (Addr × Obj)) (s : Shared) (b : Array UInt8) (tb tn : Tok)
    (Q : Value → Shared → Prop) (B : Below A₀ base outer h₀) (F : Fr h₀ L s.heap m) (X : (hd.heap_39 w.params).In h₀) (N : News h₀ L s.heap news) (T : Top p loose mean mg mb h₀) (hk : cs.kind = .function)
    (hn : 0 < b.size) (hn2 : b.size ≤ 300) (hdp : dp + 1 < recursionLimit) (hu : un + 8 < cLine) (hret : CbRet h₀ L m news s Q (fun t => .bytes b.reverse t)) :
    wpC (model PySem.Challenge.rw_zx0001_01.row.prog w) (ktrTop dp un gd cn cs L a ccd cl outer) (call (.ref 35) [.bytes b tb, .int (b.size : Int) tn] []) Q s := by
  refine wpC_call ?_
  k_dflt (refine' codeC_plain ?k1 ?k2 ?k3 ?k4 ?k5 ?kA ?kF ?kK ?k6 ?k7 ?k8 ?k9 ?kB ?_ ?c2 ?c3 ?c4 ?c5; (case kA => exact rfl); (case kF => exact rfl); (case kK => assumption); (case k1 => k_asm); (case k2 => k_asm); (case k3 => k_asm); (case k4 => k_asm); (case k5 => k_asm); (case k6 => k_is); (case k7 => k_is); (case k8 => ktr_room); (case k9 => exact BindsTo.of_eq rfl); (case c5 => decide); (case kB => exact locs rfl); (case c2 => exact rfl); (case c3 => exact rfl); (case c4 => exact rfl); k_whole; intro g' L' h' FG' F' N' B' X' T' l1; (try dsimp only); (try k_lift B'); (try k_fold))
  refine wpC_mono (Q := fun fl s'' => ∃ t h' tk m', fl = .ret (.bytes b.reverse t) ∧ s'' = { s with heap := h', toks := tk } ∧ Fr g' L' h' m' ∧ News g' L' h' news) ?_ ?_
  rotate_left
  · rintro fl s'' ⟨t, h9, tk9, m9, rfl, rfl, F9, N9⟩
    k_steps
    exact hret _ _ _ (by k_asm) (by k_asm)
  obtain ⟨Qb, hQb⟩ : ∃ Qb : Flow → Shared → Prop, Qb = (fun fl s'' => ∃ t h' tk m', fl = .ret (.bytes b.reverse t) ∧ s'' = { s with heap := h', toks := tk } ∧ Fr g' L' h' m' ∧ News g' L' h' news) := ⟨_, rfl⟩
  rw [← hQb]
  have F0 : Fr g' L' h' (fun y => if y = Str.ofString "width" then some (Value.int (b.size : Int) tn) else if y = Str.ofString "data" then some (Value.bytes b tb) else none) := by
    refine Eq.mp (congrArg (Fr g' L' h') (funext fun y => ?_)) F'
    show List.lookup y [(Str.ofString "width", Value.int (b.size : Int) tn), (Str.ofString "data", Value.bytes b tb)] = _
    rw [lookup_if, lookup_if]; rfl
  clear F'
  refine C_cons (C_Assign (C_Call1T (T := "bytearray") ?_))
  k_steps
  k_dflt (refine' C_bytearrayN ?k1 ?k2 ?k3 ?k4 ?_; (case k1 => k_asm); (case k2 => k_asm); (case k3 => omega); (case k4 => omega))
  intro S h5 F5 N5 lS lL
  clear N'
  refine leafC ?_
  k_steps
  refine leafC ?_
  k_steps
  rename IsRange _ _ _ _ _ _ _ _ => hR
  rename Fr _ _ _ _ => F6
  rename News _ _ _ _ => N6
  refine krs_iter (n := 1) rfl hR ?hs ?hn F6 N6 ?_
  case hs => exact (range_one (by omega) (by omega)).2.1
  case hn => exact (range_one (by omega) (by omega)).1
  intro I lI
  refine KrsRest.succ (v := 0) (by simp) (fun t7 h7 tk7 F7 N7 => ?_)
  clear F6 N6 hR
  repeat' ((fail_if_success (with_reducible show wpAny _ _ (pyIter (Value.ref _)) _ _ _)); first | (k_unfold; (try dsimp only)) | (k_end; wrow_close) | walk1 | (dsimp only; walk1) | (leave1; walk_say "STEP leave1"; try dsimp only) | fail "no step")
  rename IsRange _ _ _ _ _ _ _ _ => hR
  rename Fr _ _ _ _ => F6
  rename News _ _ _ _ => N6
  refine kpr_invN (n := b.size) (fun k m₁ nx => (∃ u, m₁ = fun y => if y = Str.ofString "j" then u else if y = Str.ofString "i" then some (Value.int 0 t7) else if y = Str.ofString "swapped_data" then some (Value.ref S) else if y = Str.ofString "width" then some (Value.int (b.size : Int) tn) else if y = Str.ofString "data" then some (Value.bytes b tb) else none) ∧
    nx = (I, krsIt (0 + ((0 + 1 : Nat) : Int) * (b.size : Int)) (((1 : Nat) : Int) - ((0 + 1 : Nat) : Int)) (b.size : Int)) :: (S, baObj (revd b k)) :: news) rfl hR ?hs ?hn F6 N6 ?_ ?_ ?_
  case hs => exact (range_one (by omega) (by omega)).2.2.2
  case hn => exact (range_one (by omega) (by omega)).2.2.1
  · refine ⟨⟨none, funext fun y => ?_⟩, ?_⟩
    · by_cases hy : y = Str.ofString "j"
      · rw [if_pos hy, hy]; rfl
      · rw [if_neg hy]
    · rfl
  · rintro k kk t m₁ nx h8 tk8 own hkk hoff ⟨⟨u, rfl⟩, rfl⟩ F8 N8
    have hkk2 : kk = (k : Int) ∧ k < b.size := by
      have := (List.getElem?_eq_some_iff.mp hkk).1
      rw [rangeKs_length] at this
      refine ⟨?_, this⟩
      simp only [rangeKs, List.getElem?_map, List.getElem?_range this, Option.map_some, Option.some.injEq] at hkk
      omega
    obtain ⟨rfl, hk3⟩ := hkk2
    repeat' ((fail_if_success (with_reducible show wpAny _ _ (setItem (Value.ref _) _ _) _ _ _)); first | (k_unfold; (try dsimp only)) | (k_end; wrow_close) | walk1 | (dsimp only; walk1) | (leave1; walk_say "STEP leave1"; try dsimp only) | fail "no step")
    refine KBw.item_K rfl (by rw [KBw.ints_length]; omega) (by omega) (by rw [KBw.ints_length]; omega) ?_
    intro t9 k9 b0 b1
    repeat' ((fail_if_success (with_reducible show wpAny _ _ (setItem (Value.ref _) _ _) _ _ _)); first | (k_unfold; (try dsimp only)) | (k_end; wrow_close) | walk1 | (dsimp only; walk1) | (leave1; walk_say "STEP leave1"; try dsimp only) | fail "no step")
    have hv : ((KBw.bInts b).getD (0 + (k : Int)).toNat 0).toNat.toUInt8 = b.getD k 0 := by
      rw [show (0 + (k : Int)).toNat = k by omega]
      have e1 : (KBw.bInts b).getD k 0 = ((b.getD k 0).toNat : Int) := by
        unfold KBw.bInts
        rw [← KBw.getD_ints]
        simp [Array.getD_eq_getD_getElem?, List.getD_eq_getElem?_getD]
      rw [e1, Int.toNat_natCast]
      exact UInt8.ofNat_toNat
    have hp : (0 + (b.size : Int) - 1 - (k : Int)).toNat = b.size - 1 - k := by omega
    refine ba_setItem (b := revd b k) (N8 (S, _) (.tail _ (.head _))).1 (by omega) (by rw [revd_size]; omega) (by rw [revd_size]; exact Nat.le_trans hn2 (by decide +kernel)) b0 b1 ?_
    intro h9 j1 j2 j3 j4
    rw [hv, hp] at j2
    have hOff : Off (news ++ own) S := by
      intro q hq
      rcases List.mem_append.mp hq with hq | hq
      · exact Nat.ne_of_lt (lS q hq)
      · exact hoff q hq S (.tail _ (.head _))
    have F9 := set_fr F8 N8 (S := S) (.tail _ (.head _)) j4
    have N9 := set_news N8 (UpdF.tail (Nat.ne_of_gt (lI _ (.head _))) (UpdF.head hOff)) j4 j2
    clear F8 N8
    repeat' ((fail_if_success (with_reducible show wpAny _ _ (pyIter (Value.ref _)) _ _ _)); first | (k_unfold; (try dsimp only)) | (k_end; wrow_close) | walk1 | (dsimp only; walk1) | (leave1; walk_say "STEP leave1"; try dsimp only) | fail "no step")
    have N10 : News g' (envOf (Str.ofString "_byteswap") _ L' 35 (Value.ref 34)).locals h9 (((I, krsIt (0 + ((0 + 1 : Nat) : Int) * (b.size : Int)) (((1 : Nat) : Int) - ((0 + 1 : Nat) : Int)) (b.size : Int)) :: (S, baObj (revd b (k + 1))) :: news) ++ own) := N9
    refine InvEndN.intro F9 N10 ⟨⟨some (Value.int (k : Int) t), funext fun y => ?_⟩, rfl⟩ rfl (fun q hq => List.mem_append_left _ hq) (fun q hq => List.mem_append_right _ hq)
    by_cases hy : y = Str.ofString "j"
    · rw [if_pos hy, if_pos hy]
    · rw [if_neg hy, if_neg hy]
      dsimp only
      rw [if_neg hy]
  · rintro m₁ nx h9 tk9 ⟨⟨u, rfl⟩, rfl⟩ F9 N9
    clear F6 N6
    rw [rangeKs_length, revd_all] at N9
    dsimp only
    refine wpAny_execs_nil ?_
    refine UnrEnd.intro F9 N9 _ (fun q hq => hq) ?_ ?_
    · intro q hq
      rcases List.mem_cons.mp hq with rfl | hq
      · exact (show @Ne Nat S I from Nat.ne_of_lt (lI _ (List.mem_cons_self ..)))
      · exact Nat.ne_of_lt (lI _ (.tail _ hq))
    refine KrsRest.zero fun h8 tk8 F8 N8 => ?_
    clear F9 N9
    repeat' ((fail_if_success (with_reducible show wpAny _ _ (call (Value.type "bytes") _ _) _ _ _)); first | (k_unfold; (try dsimp only)) | (k_end; wrow_close) | walk1 | (dsimp only; walk1) | (leave1; walk_say "STEP leave1"; try dsimp only) | fail "no step")
    refine call_bytes_ba (b := b.reverse) (N8 (S, _) (.head _)).1 (by rw [Array.size_reverse]; exact Nat.le_trans hn2 (by decide +kernel)) fun t9 k9 => ?_
    k_steps
    rw [hQb]
    exact ⟨_, _, _, _, rfl, rfl, F8, cb_drop N8 fun q hq => .tail _ hq⟩
end Mine
end

section
open PySem PySem.W PyProof.Rows
namespace Mine
set_option maxRecDepth 100000
set_option maxHeartbeats 8000000

theorem fillF9 (P : Params) : PySem.Challenge.rw_zx0001_01 = PySem.Challenge.rw_zx0001_01 ∧ hd.heap_39 P = hd.heap_39 P := by
  k_fill
  exact ⟨rfl, rfl⟩

theorem swap_ok' {w : World} {p : Program} {loose : List Str} {mean : ExcName → Option Value} {mg mb : Str → Option Value}
  (dp un : Nat) (gd : Option (List Code)) (cn : Str) (cs : Scope) (a : Addr) (ccd : Value) (cl : List (Str × Addr)) (outer : List Env) (A₀ : Around) (base h₀ : Heap) (L : Addr) (m : Str → Option Value) (news : List (Addr × Obj)) (s : Shared) (b : Array UInt8) (n : Int) (tb tn : Tok)
    (Q : Value → Shared → Prop) (B : Below A₀ base outer h₀) (F : Fr h₀ L s.heap m) (X : (hd.heap_39 w.params).In h₀) (N : News h₀ L s.heap news) (T : Top p loose mean mg mb h₀) (hk : cs.kind = .function)
    (hn : 0 < b.size) (hn2 : b.size ≤ 300) (hnn : n = (b.size : Int)) (hdp : dp + 1 < recursionLimit) (hu : un + 8 < cLine)
    (hret : ∀ b' t h' tk', KBw.bInts b' = (KBw.bInts b).reverse → Fr h₀ L h' m → News h₀ L h' news → Q (.bytes b' t) { s with heap := h', toks := tk' }) :
    wpC (model PySem.Challenge.rw_zx0001_01.row.prog w) (ktrTop dp un gd cn cs L a ccd cl outer) (call (.ref 35) [.bytes b tb, .int n tn] []) Q s := by
  subst hnn
  refine swap_ok dp un gd cn cs a ccd cl outer A₀ base h₀ L m news s b tb tn Q B F X N T hk hn hn2 hdp hu fun t h' tk' F' N' => hret _ _ _ _ ?_ F' N'
  unfold KBw.bInts
  rw [Array.toList_reverse, List.map_reverse]
theorem turned_ok {w : World} {p : Program} {loose : List Str} {mean : ExcName → Option Value} {mg mb : Str → Option Value}
  (dp un : Nat) (gd : Option (List Code)) (cn : Str) (cs : Scope) (a : Addr) (ccd : Value) (cl : List (Str × Addr)) (outer : List Env) (A₀ : Around) (base h₀ : Heap) (L : Addr) (m : Str → Option Value) (news : List (Addr × Obj)) (s : Shared) (b : Array UInt8) (ks : List Int) (tb t1 : Tok)
    (Q : Value → Shared → Prop) (B : Below A₀ base outer h₀) (F : Fr h₀ L s.heap m) (X : (hd.heap_39 w.params).In h₀) (N : News h₀ L s.heap news) (T : Top p loose mean mg mb h₀) (hk : cs.kind = .function)
    (hks : KBw.bInts b = ks) (hn : 1 ≤ ks.length) (hn2 : ks.length ≤ 200) (hdp : dp + 10 < recursionLimit) (hu : un + 100 < cLine)
    (hret : ∀ b' t h' tk', KBw.bInts b' = ks.drop 1 ++ ks.take 1 → Fr h₀ L h' m → News h₀ L h' news → Q (.bytes b' t) { s with heap := h', toks := tk' }) :
    wpC (model PySem.Challenge.rw_zx0001_01.row.prog w) (ktrTop dp un gd cn cs L a ccd cl outer) (call (.ref 49) [.bytes b tb, .int 1 t1] []) Q s := by
  refine wpC_call ?_
  k_dflt (refine' codeC_plain ?k1 ?k2 ?k3 ?k4 ?k5 ?kA ?kF ?kK ?k6 ?k7 ?k8 ?k9 ?kB ?_ ?c2 ?c3 ?c4 ?c5; (case kA => exact rfl); (case kF => exact rfl); (case kK => assumption); (case k1 => k_asm); (case k2 => k_asm); (case k3 => k_asm); (case k4 => k_asm); (case k5 => k_asm); (case k6 => k_is); (case k7 => k_is); (case k8 => ktr_room); (case k9 => exact BindsTo.of_eq rfl); (case c5 => decide); (case kB => exact locs rfl); (case c2 => exact rfl); (case c3 => exact rfl); (case c4 => exact rfl); k_whole; intro g' L' h' FG' F' N' B' X' T' l1; (try dsimp only); (try k_lift B'); (try k_fold))
  refine wpC_mono (Q := fun fl s'' => ∃ b' t h' tk m', fl = .ret (.bytes b' t) ∧ KBw.bInts b' = ks.drop 1 ++ ks.take 1 ∧ s'' = { s with heap := h', toks := tk } ∧ Fr g' L' h' m' ∧ News g' L' h' news) ?_ ?_
  rotate_left
  · rintro fl s'' ⟨b', t, h9, tk9, m9, rfl, hb9, rfl, F9, N9⟩
    k_steps
    exact hret _ _ _ _ hb9 (by k_asm) (by k_asm)
  obtain ⟨Qb, hQb⟩ : ∃ Qb : Flow → Shared → Prop, Qb = (fun fl s'' => ∃ b' t h' tk m', fl = .ret (.bytes b' t) ∧ KBw.bInts b' = ks.drop 1 ++ ks.take 1 ∧ s'' = { s with heap := h', toks := tk } ∧ Fr g' L' h' m' ∧ News g' L' h' news) := ⟨_, rfl⟩
  rw [← hQb]
  have F0 : Fr g' L' h' (fun y => if y = Str.ofString "many" then some (Value.int 1 t1) else if y = Str.ofString "row" then some (Value.bytes b tb) else none) := by
    refine Eq.mp (congrArg (Fr g' L' h') (funext fun y => ?_)) F'
    show List.lookup y [(Str.ofString "many", Value.int 1 t1), (Str.ofString "row", Value.bytes b tb)] = _
    rw [lookup_if, lookup_if]; rfl
  clear F'
  refine C_cons (leafC ?_)
  k_steps
  have hclip : clipAt ks.length 1 = 1 := by
    show clipAt ks.length ((1 : Nat) : Int) = 1
    rw [clipAt_nat]; omega
  have kA : KBw.bInts (KBy.picked b none (some 1)) = List.take 1 ks := by
    rename KBw.bInts (KBy.picked b none (some 1)) = _ => kA
    rw [kA, hclip]
  have kB : KBw.bInts (KBy.picked b (some 1) none) = List.drop 1 ks := by
    rename KBw.bInts (KBy.picked b (some 1) none) = _ => kB
    rw [kB, hclip, List.take_of_length_le]; rw [List.length_drop]; exact Nat.le_refl _
  generalize KBy.picked b none (some 1) = b1 at *
  generalize KBy.picked b (some 1) none = b2 at *
  have s1 : b1.size = 1 := by
    have := congrArg List.length kA
    rw [KBw.ints_length, List.length_take] at this; omega
  have s2 : b2.size = ks.length - 1 := by
    have := congrArg List.length kB
    rw [KBw.ints_length, List.length_drop] at this; omega
  rename Fr _ _ _ _ => F9
  rename News _ _ _ _ => N9
  replace N9 : News g' L' _ news := cb_drop N9 fun q hq => .tail _ hq
  refine C_cons (C_Assign (C_BinOp (C_IfExp (leafC ?_))))
  k_steps
  have e1 : (b1.toList != #[].toList) = true := by
    rw [bne_iff_ne]; intro e; have := congrArg List.length e; rw [Array.length_toList, s1] at this; cases this
  rw [e1]
  dsimp only
  refine C_Call2F (a := 35) ?_
  k_steps
  · k_dflt (refine' fnIn_of X' F9 ?kf; (case kf => k_is))
  k_dflt (refine' swap_ok' _ _ _ _ _ _ _ _ _ _ _ _ _ _ _ _ _ _ _ _ _ ?k1 ?k2 ?k3 ?k4 ?k5 ?kK ?kn ?km ?ko ?kd ?ku ?_; (case k1 => k_asm); (case k2 => k_asm); (case k3 => k_asm); (case k4 => k_asm); (case k5 => k_asm); (case kK => exact rfl); (case kn => omega); (case km => omega); (case ko => omega); (case kd => (show dp + 1 + 1 < _; omega)); (case ku => (show un + 3 + 8 < _; omega)); k_whole)
  intro c1 t5 h5 tk5 kC F5 N5
  clear F9 N9
  have kC2 : KBw.bInts c1 = List.take 1 ks := by
    rw [kC, kA]
    match ks, hn with
    | k0 :: kr, _ => rfl
  clear kC
  have sC : c1.size = 1 := by
    have := congrArg List.length kC2
    rw [KBw.ints_length, List.length_take] at this; omega
  refine C_IfExp (leafC ?_)
  k_steps
  cases e2 : (b2.toList != #[].toList) with
  | true =>
    dsimp only
    have s3 : 0 < b2.size := by
      rw [bne_iff_ne] at e2
      apply Nat.pos_of_ne_zero
      intro z
      exact e2 (List.eq_nil_of_length_eq_zero (by rw [Array.length_toList, z]))
    refine C_Call2F (a := 35) ?_
    k_steps
    · k_dflt (refine' fnIn_of X' F5 ?kf; (case kf => k_is))
    k_dflt (refine' swap_ok' _ _ _ _ _ _ _ _ _ _ _ _ _ _ _ _ _ _ _ _ _ ?k1 ?k2 ?k3 ?k4 ?k5 ?kK ?kn ?km ?ko ?kd ?ku ?_; (case k1 => k_asm); (case k2 => k_asm); (case k3 => k_asm); (case k4 => k_asm); (case k5 => k_asm); (case kK => exact rfl); (case kn => omega); (case km => omega); (case ko => (simp only [List.length_drop] at *; omega)); (case kd => (show dp + 1 + 1 < _; omega)); (case ku => (show un + 3 + 8 < _; omega)); k_whole)
    intro c2 t6 h6 tk6 kD F6 N6
    clear F5 N5
    rw [kB] at kD
    refine leafC ?_
    refine KBa.add_K kC2 kD ?hz ?_
    case hz => simp only [List.length_take, List.length_drop, List.length_reverse, List.length_nil]; omega
    intro t7 k7 kE
    refine leafC ?_
    k_steps
    rename Fr _ _ _ _ => F7
    have sE : (c1 ++ c2).size = ks.length := by
      have := congrArg List.length kE
      rw [KBw.ints_length] at this
      rw [this]
      simp only [List.length_append, List.length_take, List.length_drop, List.length_reverse, List.length_nil]; omega
    refine C_cons (C_Return (C_Call2F (a := 35) ?_))
    k_steps
    · k_dflt (refine' fnIn_of X' F7 ?kf; (case kf => k_is))
    generalize c1 ++ c2 = c3 at *
    k_dflt (refine' swap_ok' _ _ _ _ _ _ _ _ _ _ _ _ _ _ _ _ _ _ _ _ _ ?k1 ?k2 ?k3 ?k4 ?k5 ?kK ?kn ?km ?ko ?kd ?ku ?_; (case k1 => k_asm); (case k2 => k_asm); (case k3 => k_asm); (case k4 => k_asm); (case k5 => k_asm); (case kK => exact rfl); (case kn => omega); (case km => omega); (case ko => (first | omega | (simp only [List.length_take, List.length_drop, List.length_append, List.length_reverse, List.length_nil] at *; omega) | (simp only [List.length_take, List.length_drop, List.length_append, List.length_reverse, List.length_nil] at *; done))); (case kd => (show dp + 1 + 1 < _; omega)); (case ku => (show un + 3 + 8 < _; omega)); k_whole)
    intro c4 t8 h8 tk8 kG F8 N8
    dsimp only
    rw [hQb]
    refine ⟨_, _, _, _, _, rfl, ?_, rfl, F8, N8⟩
    rw [kG, kE]
    simp only [List.reverse_append, List.reverse_reverse]
    match ks, hn with
    | k0 :: kr, _ => rfl
  | false =>
    dsimp only
    have hnil : List.drop 1 ks = [] := by
      rw [← kB]
      unfold KBw.bInts
      have : b2.toList = [] := by simpa using e2
      rw [this]; rfl
    rw [hnil] at kB hQb
    have hlen1 : ks.length = 1 := by
      have := congrArg List.length hnil
      rw [List.length_drop] at this
      simp only [List.length_nil] at this; omega
    refine leafC ?_
    k_steps
    refine leafC ?_
    refine KBa.add_K kC2 (show KBw.bInts #[] = [] from rfl) ?hz ?_
    case hz => simp only [List.length_take, List.length_drop, List.length_reverse, List.length_nil]; omega
    intro t7 k7 kE
    refine leafC ?_
    k_steps
    rename Fr _ _ _ _ => F7
    have sE : (c1 ++ #[]).size = ks.length := by
      have := congrArg List.length kE
      rw [KBw.ints_length] at this
      rw [this]
      simp only [List.length_append, List.length_take, List.length_drop, List.length_reverse, List.length_nil]; omega
    refine C_cons (C_Return (C_Call2F (a := 35) ?_))
    k_steps
    · k_dflt (refine' fnIn_of X' F7 ?kf; (case kf => k_is))
    generalize c1 ++ #[] = c3 at *
    k_dflt (refine' swap_ok' _ _ _ _ _ _ _ _ _ _ _ _ _ _ _ _ _ _ _ _ _ ?k1 ?k2 ?k3 ?k4 ?k5 ?kK ?kn ?km ?ko ?kd ?ku ?_; (case k1 => k_asm); (case k2 => k_asm); (case k3 => k_asm); (case k4 => k_asm); (case k5 => k_asm); (case kK => exact rfl); (case kn => omega); (case km => omega); (case ko => (first | omega | (simp only [List.length_take, List.length_drop, List.length_append, List.length_reverse, List.length_nil] at *; omega) | (simp only [List.length_take, List.length_drop, List.length_append, List.length_reverse, List.length_nil] at *; done))); (case kd => (show dp + 1 + 1 < _; omega)); (case ku => (show un + 3 + 8 < _; omega)); k_whole)
    intro c4 t8 h8 tk8 kG F8 N8
    dsimp only
    rw [hQb]
    refine ⟨_, _, _, _, _, rfl, ?_, rfl, F8, N8⟩
    rw [kG, kE]
    match ks, hn, hlen1 with
    | [k0], _, _ => rfl
end Mine
end

section
open PySem PySem.W PySem.Calls PyProof.Rows
set_option maxRecDepth 100000
namespace Mine
open Sem (wp)
open AutoSeq1 (wpAny_loadPart')
section
variable {prog : Program} {w : World} {A : Around} {E : Value → Shared → Prop} {s : Shared} {b : Array UInt8} {t : Tok}
theorem hint_bytes {Q : Bool → Shared → Prop} (h : Q false s) : wpAny (model prog w) A (Builtin.List.listLengthHint (.bytes b t)) Q E s := by
  have hT : s.TypeIs (.bytes b t) "bytes" := typeIs_bytes s b t
  unfold Builtin.List.listLengthHint
  refine wpAny_bind (wpAny_specialOf hT FB.slot_bytes_len.lookup ?_)
  generalize hid : ("bytes.__len__" : String) = id0
  wp_delta
  rw [show splitId id0 = some ("bytes", "__len__") from by subst hid; decide +kernel]
  subst hid
  refine wpAny_bind (wpAny_isInstance (T := "bytes") (b := true) hT (by rw [isSubtype_type]; kernel_rfl) ?_)
  refine wpAny_ite_split (fun hab => absurd hab (by decide)) (fun _ => ?_)
  refine wpAny_ite_split (fun _ => ?_) (fun hab => absurd (by decide +kernel) hab)
  exact wpAny_bind (wpAny_typeOf hT (wpAny_pure h))
abbrev BItem (b : Array UInt8) (i : Nat) (v : Value) : Prop := ∃ c u, b[i]? = some c ∧ v = .int (c.toNat : Int) u
theorem ext_bytes {R : Result → Shared → Prop} (hh : A.handled = none) (hlen : b.size ≤ 1000) (S : Addr) (res : Value) (c₀ : Nat) (hS : s.heap.get? S = some { cls := .type "list", data := .seq #[] c₀ })
    (hR : ∀ h' tk acc' c', (∀ a o, a ≠ S → s.heap.get? a = some o → h'.get? a = some o) → h'.get? S = some { cls := .type "list", dict := none, data := .seq acc' c', slots := #[] } →
      ItemsOf (BItem b) acc' b.size → R (.ok (.ret res)) { s with heap := h', toks := tk }) :
    wpAny (model prog w) A.in1 (Builtin.List.listExtendWith (.ref S) (.bytes b t) res)
      (fun fin s' => match fin with | .done f => R (.ok f) s' | .again c' => c'.quiet = true ∧ codeAny (model prog w) A c' R s') (fun e s' => R (.error e) s') s := by
  have hSlt : S < s.heap.objs.size := Heap.lt_size hS
  have hSI : S ≠ s.heap.objs.size := Nat.ne_of_lt hSlt
  have hSf : S ∉ [s.heap.objs.size] := fun hm => hSI (List.mem_singleton.mp hm)
  have W := (KBw.walks (prog := prog) (w := w) (A := A.in1) hh s.heap.objs.size b t).toS
  have key : ∀ (h : Heap) (c₁ tk : Nat), KBw.IsBytesIter h s.heap.objs.size b t 0 → (∀ a o, a ≠ S → s.heap.get? a = some o → h.get? a = some o) →
      h.get? S = some { cls := .type "list", data := .seq #[] c₁ } → codeAny (model prog w) A (.builtin "list.extend.loop" ⟨[.ref S, .ref s.heap.objs.size, res], []⟩) R { s with heap := h, toks := tk } := by
    intro h c₁ tk hit hk hS₁
    refine codeAny_extend_loopS W (by rw [sizeLine_eq]; omega) S hSf res b.size 0 _ #[] c₁ rfl (Nat.zero_le _) hit hS₁ (ItemsOf.nil _) fun s' acc' c' hm hS' hacc => ?_
    rw [Moved.eq_with hm]
    refine hR s'.heap s'.toks acc' c' (fun a o ha e => hm.heap a o (fun hmem => ?_) (hk a o ha e)) hS' hacc
    rcases List.mem_cons.mp hmem with e' | hmem
    · exact ha e'
    · exact absurd (Heap.lt_size e) (by rw [List.mem_singleton.mp hmem]; exact Nat.lt_irrefl _)
  unfold Builtin.List.listExtendWith
  refine wpAny_bind (wpAny_typeOf (T := "bytes") (typeIs_bytes s b t) ?_)
  have h1 : Builtin.List.listSameRef (.ref S) (.bytes b t) = false := rfl
  have h2 : (Value.type "bytes" == Value.type "list") = false := by decide
  have h3 : (Value.type "bytes" == Value.type "tuple") = false := by decide
  simp only [h1, h2, h3, Bool.or_false, Bool.false_eq_true, if_false]
  refine wpAny_bind (KBw.pyIter_bytes ?_)
  refine wpAny_bind (wpAny_holding (hint_bytes ?_))
  have hit₁ : KBw.IsBytesIter (s.heap.push { cls := .type "bytes_iterator", data := .fields #[.bytes b t, .int 0 0] }) s.heap.objs.size b t 0 := ⟨_, Heap.get?_push_size _ rfl, rfl, rfl⟩
  have hS₁ := Heap.get?_push_of_some { cls := .type "bytes_iterator", data := .fields #[.bytes b t, .int 0 0] } hS
  refine wpAny_ite_split (fun _ => ?_) (fun _ => wpAny_pure ⟨plainId_quiet F.plain_extend_loop _, key _ c₀ _ hit₁ (fun a o _ e => Heap.get?_push_of_some _ e) hS₁⟩)
  refine wpAny_bind (wpAny_rule ?_)
  refine wpAny_bind ?_
  show wpAny _ _ (updateSeq S (·.push .none) >>= fun _ => updateSeq S (·.pop)) _ _ _
  refine wpAny_bind (wpAny_updateSeq hS₁ rfl ?_)
  have hS₂ := Heap.get?_update_self (Obj.mapSeq (·.push Value.none)) hS₁ rfl
  refine wpAny_updateSeq (hz := by seq_fits) hS₂ rfl ?_
  have hS₃ := Heap.get?_update_self (Obj.mapSeq (·.pop)) hS₂ rfl
  refine wpAny_pure ⟨plainId_quiet F.plain_extend_loop _, key _ _ _ ?_ (fun a o ha e => ?_) hS₃⟩
  · obtain ⟨o, ho, r⟩ := hit₁
    exact ⟨o, (Heap.get?_update_other _ _ hSI).trans ((Heap.get?_update_other _ _ hSI).trans ho), r⟩
  · exact (Heap.get?_update_other _ _ (Ne.symm ha)).trans ((Heap.get?_update_other _ _ (Ne.symm ha)).trans (Heap.get?_push_of_some _ e))
theorem init_bytes {R : Result → Shared → Prop} (hh : A.handled = none) (hlen : b.size ≤ 1000) (S : Addr) (hS : s.heap.get? S = some { cls := .type "list", data := .seq #[] })
    (hR : ∀ h' tk acc' c', (∀ a o, a ≠ S → s.heap.get? a = some o → h'.get? a = some o) → h'.get? S = some { cls := .type "list", dict := none, data := .seq acc' c', slots := #[] } →
      ItemsOf (BItem b) acc' b.size → R (.ok (.ret .none)) { s with heap := h', toks := tk }) :
    wpAny (model prog w) A.in1 (Builtin.«list.__init__» ⟨[.ref S, .bytes b t], []⟩)
      (fun fin s' => match fin with | .done f => R (.ok f) s' | .again c' => c'.quiet = true ∧ codeAny (model prog w) A c' R s') (fun e s' => R (.error e) s') s := by
  show wpAny _ _ (do let old ← Builtin.List.listItems (.ref S); Builtin.List.listUpdate (.ref S) (fun _ => #[]); letGo old.toList.reverse; Builtin.List.listExtendWith (.ref S) (.bytes b t) .none) _ _ s
  refine wpAny_bind ?_
  unfold Builtin.List.listItems
  refine wpAny_bind (wpAny_seqItems hS rfl (wpAny_pure ?_))
  show wpAny _ _ (updateSeq S (fun _ => #[]) >>= fun _ => letGo (#[] : Array Value).toList.reverse >>= fun _ => Builtin.List.listExtendWith (.ref S) (.bytes b t) .none) _ _ s
  refine wpAny_bind (wpAny_updateSeq hS rfl ?_)
  have hS₂ := Heap.get?_update_self (Obj.mapSeq (fun _ => (#[] : Array Value))) hS rfl
  have oth : ∀ a o, a ≠ S → s.heap.get? a = some o → (s.heap.update S (Obj.mapSeq (fun _ => (#[] : Array Value)))).get? a = some o :=
    fun a o ha e => (Heap.get?_update_other _ _ (Ne.symm ha)).trans e
  refine wpAny_bind (wpAny_letGo ?_)
  refine ext_bytes hh hlen S .none _ hS₂ fun h' tk acc' c' hk hS' hacc => ?_
  exact hR h' tk acc' c' (fun a o ha e => hk a o ha (oth a o ha e)) hS' hacc
theorem call_list_bytes {Q : Value → Shared → Prop} (hh : A.handled = none) (hlen : b.size ≤ 1000)
    (hQ : ∀ h' tk acc' c', (∀ a o, s.heap.get? a = some o → h'.get? a = some o) →
      h'.get? s.heap.objs.size = some { cls := .type "list", dict := none, data := .seq acc' c', slots := #[] } → ItemsOf (BItem b) acc' b.size → Q (.ref s.heap.objs.size) { s with heap := h', toks := tk }) :
    wpAny (model prog w) A (call (.type "list") [.bytes b t]) Q E s := by
  refine callType_codes (Q₁ := fun obj s₁ => obj = .ref s.heap.objs.size ∧ s₁ = { s with heap := s.heap.push { cls := .type "list", data := .seq #[] } }) F.called_list (F.typeCall_list_1 _) F.entry_list_init
    (code_list_new _ ⟨rfl, rfl⟩) fun obj s₁ h₁ => ?_
  obtain ⟨rfl, rfl⟩ := h₁
  have hS : (s.heap.push { cls := .type "list", data := .seq #[] }).get? s.heap.objs.size = some { cls := .type "list", data := .seq #[] } := Heap.get?_push_size _ rfl
  refine ⟨⟨_, hS, rfl⟩, F.args_list_init_2 _ _, init_bytes (A := A.in1) hh hlen _ hS fun h' tk acc' c' hk hS' hacc => ?_⟩
  exact ⟨rfl, hQ h' tk acc' c' (fun a o e => hk a o (Nat.ne_of_lt (Heap.lt_size e)) (Heap.get?_push_of_some _ e)) hS' hacc⟩
theorem call_list_bytesN {h₀ : Heap} {L : Addr} {m : Str → Option Value} {news : List (Addr × Obj)} {ks : List Int} {Q : Value → Shared → Prop} (F : Fr h₀ L s.heap m) (N : News h₀ L s.heap news) (hk : KBw.bInts b = ks) (hh : A.handled = none) (hlen : ks.length ≤ 1000)
    (hQ : ∀ D vs c h' tk, Fr h₀ L h' m → News h₀ L h' ((D, PySem.W.listOf vs.toArray c) :: news) → (∀ q ∈ news, @LT.lt Nat _ q.1 D) → IntsAre vs ks → Q (.ref D) { s with heap := h', toks := tk }) :
    wpAny (model prog w) A (call (.type "list") [.bytes b t]) Q E s := by
  subst hk
  rw [KBw.ints_length] at hlen
  refine call_list_bytes hh hlen fun h' tk acc' c' k e hi => ?_
  have hI : IntsAre acc'.toList (KBw.bInts b) := by
    obtain ⟨h1, h2⟩ := hi
    have go : ∀ (vs : List Value) (cs : List UInt8), vs.length = cs.length → (∀ (j : Nat) (v : Value), vs[j]? = some v → ∃ c u, cs[j]? = some c ∧ v = .int (c.toNat : Int) u) → IntsAre vs (cs.map fun c => (c.toNat : Int)) := by
      intro vs
      induction vs with
      | nil => intro cs hl _; cases cs with
        | nil => exact .nil
        | cons _ _ => cases hl
      | cons v vs ih => intro cs hl hv; cases cs with
        | nil => cases hl
        | cons c cs =>
          obtain ⟨c', u, e1, rfl⟩ := hv 0 v rfl
          obtain rfl : c = c' := Option.some.inj e1
          exact .cons _ _ (ih cs (Nat.succ.inj hl) fun j v hj => hv (j + 1) v hj)
    refine go acc'.toList b.toList (by rw [Array.length_toList, Array.length_toList, h1]) fun j v hj => ?_
    obtain ⟨c, u, e1, e2⟩ := h2 j v (by simpa using hj)
    exact ⟨c, u, by simpa using e1, e2⟩
  exact hQ s.heap.objs.size acc'.toList c' h' tk (new_fr F k) (new_news F N k (by simpa using e)) (fun q hq => Heap.lt_size (N q hq).1) hI
end
end Mine
end

section
open PySem PySem.W PyProof.Rows
namespace Mine
set_option maxRecDepth 100000

theorem josR_at : ∀ (n k : Nat) (ns : List Int), ns.length = n → 2 ^ k ≤ n → n < 2 ^ (k + 1) → josR ns = ns.getD (2 * (n - 2 ^ k)) 0
  | 0, k, ns, hn, h1, h2 => by
    have : 0 < 2 ^ k := Nat.pow_pos (by decide)
    omega
  | 1, k, ns, hn, h1, h2 => by
    match ns, hn with
    | [x], _ => 
      have : 0 < 2 ^ k := Nat.pow_pos (by decide)
      rw [show 2 * (1 - 2 ^ k) = 0 by omega]
      rfl
  | m + 2, k, ns, hn, h1, h2 => by
    have e : (ns.drop 2 ++ ns.take 1).length = m + 1 := by
      rw [List.length_append, List.length_drop, List.length_take]; omega
    rw [← josR_step (ns := ns) (by omega)]
    have p1 : 2 ^ (k + 1) = 2 * 2 ^ k := by rw [Nat.pow_succ]; omega
    by_cases hk : 2 ^ k ≤ m + 1
    · rw [josR_at (m + 1) k _ e hk (by omega)]
      rw [List.getD_eq_getElem?_getD, List.getD_eq_getElem?_getD, List.getElem?_append_left (by rw [List.length_drop]; omega), List.getElem?_drop]
      congr 2
      omega
    · obtain ⟨j, rfl⟩ : ∃ j, k = j + 1 := by
        cases k with
        | zero => simp at hk
        | succ j => exact ⟨j, rfl⟩
      have p2 : 2 ^ (j + 1) = 2 * 2 ^ j := by rw [Nat.pow_succ]; omega
      have p3 : 0 < 2 ^ j := Nat.pow_pos (by decide)
      rw [josR_at (m + 1) j _ e (by omega) (by omega)]
      rw [List.getD_eq_getElem?_getD, List.getD_eq_getElem?_getD, List.getElem?_append_right (by rw [List.length_drop]; omega), List.length_drop]
      rw [show 2 * (m + 1 - 2 ^ j) - (ns.length - 2) = 0 by omega, show 2 * (m + 2 - 2 ^ (j + 1)) = 0 by omega]
      match ns, hn with
      | x :: r, _ => rfl
theorem rangeKs_getD {a : Int} {n i : Nat} (h : i < n) : (rangeKs a n).getD i 0 = a + i := by
  rw [List.getD_eq_getElem?_getD]
  simp [rangeKs, h]
theorem josOf_at {q : Int} {k : Nat} (h1 : 2 ^ k ≤ q) (h2 : q < 2 ^ (k + 1)) : josOf q = 2 * (q - 2 ^ k) + 1 := by
  have p3 : (0 : Int) < 2 ^ k := Int.pow_pos (by decide)
  obtain ⟨n, rfl⟩ : ∃ n : Nat, q = n := ⟨q.toNat, by omega⟩
  have g1 : 2 ^ k ≤ n := by exact_mod_cast h1
  have g2 : n < 2 ^ (k + 1) := by exact_mod_cast h2
  have p1 : 2 ^ (k + 1) = 2 * 2 ^ k := by rw [Nat.pow_succ]; omega
  unfold josOf
  rw [Int.toNat_natCast, josR_at n k _ (rangeKs_length _ _) g1 g2, rangeKs_getD (by omega)]
  have : ((2 ^ k : Nat) : Int) = 2 ^ k := by push_cast; rfl
  omega
theorem josOf_double {q : Int} {k : Nat} (h1 : 2 ^ k ≤ q) (h2 : q < 2 ^ (k + 1)) : josOf (2 * q) = 2 * josOf q - 1 ∧ josOf (2 * q + 1) = 2 * josOf q + 1 := by
  have e1 : (2 : Int) ^ (k + 1) = 2 * 2 ^ k := by rw [Int.pow_succ]; omega
  have e2 : (2 : Int) ^ (k + 1 + 1) = 2 * 2 ^ (k + 1) := by rw [Int.pow_succ]; omega
  rw [josOf_at h1 h2, josOf_at (k := k + 1) (q := 2 * q) (by omega) (by omega), josOf_at (k := k + 1) (q := 2 * q + 1) (by omega) (by omega)]
  omega
def lgI (x : Int) : Nat := Nat.log2 x.toNat
theorem lgI_at {x : Int} (h : 1 ≤ x) : 2 ^ lgI x ≤ x ∧ x < 2 ^ (lgI x + 1) := by
  obtain ⟨n, rfl⟩ : ∃ n : Nat, x = n := ⟨x.toNat, by omega⟩
  have hn : n ≠ 0 := by omega
  have g1 : 2 ^ Nat.log2 n ≤ n := Nat.log2_self_le hn
  have g2 : n < 2 ^ (Nat.log2 n + 1) := Nat.lt_log2_self
  unfold lgI
  rw [Int.toNat_natCast]
  exact ⟨by exact_mod_cast g1, by exact_mod_cast g2⟩
def bitsI (x : Int) : List Int := bitsOf (lgI x + 1) x
def jI (x : Int) : Int := 2 * (x - 2 ^ lgI x) + 1
theorem josOf_eq {x : Int} (h : 1 ≤ x) : josOf x = jI x := josOf_at (lgI_at h).1 (lgI_at h).2
def good (x : Int) : Bool :=
  decide (1 ≤ jI x) && decide (jI x ≤ x) && decide ((bitsI (jI x)).sum = (bitsI x).sum) && (decide (jI x ≠ x) || decide (bitsI x = List.replicate (bitsI x).sum.toNat 1)) &&
  (decide (jI x = 1) == decide ((bitsI x).sum = 1)) && (decide (jI x = x) == decide ((bitsI x).sum = (bitsI x).length)) && decide (lgI x ≤ 6) && decide (0 ≤ (bitsI x).sum)
theorem good_all : ∀ n : Nat, n < 128 → 1 ≤ n → good (n : Int) = true := by decide +kernel
theorem good_at {x : Int} (h1 : 1 ≤ x) (h2 : x < 128) : (1 ≤ jI x ∧ jI x ≤ x) ∧ (bitsI (jI x)).sum = (bitsI x).sum ∧ (jI x = x → bitsI x = List.replicate (bitsI x).sum.toNat 1) ∧
    (jI x = 1 ↔ (bitsI x).sum = 1) ∧ (jI x = x ↔ (bitsI x).sum = (bitsI x).length) ∧ lgI x ≤ 6 ∧ 0 ≤ (bitsI x).sum := by
  obtain ⟨n, rfl⟩ : ∃ n : Nat, x = n := ⟨x.toNat, by omega⟩
  have g := good_all n (by omega) (by omega)
  unfold good at g
  simp only [Bool.and_eq_true, decide_eq_true_eq, Bool.or_eq_true, beq_iff_eq, decide_eq_decide] at g
  obtain ⟨⟨⟨⟨⟨⟨⟨a1, a2⟩, a3⟩, a4⟩, a5⟩, a6⟩, a7⟩, a8⟩ := g
  exact ⟨⟨a1, a2⟩, a3, fun e => a4.resolve_left (fun h => h e), a5, a6, a7, a8⟩
theorem bval_turn {k : Nat} {q : Int} (h1 : 2 ^ k ≤ q) (h2 : q < 2 ^ (k + 1)) {ds : List Int} (hds : ds = bitsOf (k + 1) q) : bval ((ds.reverse.drop 1 ++ ds.reverse.take 1).reverse) = josOf q := by
  have e1 : (2 : Int) ^ (k + 1) = 2 * 2 ^ k := by rw [Int.pow_succ]; omega
  have hm : q % 2 ^ k = q - 2 ^ k := by
    have : q = (q - 2 ^ k) + 2 ^ k * 1 := by omega
    rw [this, Int.add_mul_emod_self_left, Int.emod_eq_of_lt (by omega) (by omega)]; omega
  have hd : q / 2 ^ k = 1 := by
    have : q = (q - 2 ^ k) + 1 * 2 ^ k := by omega
    rw [this, Int.add_mul_ediv_right _ _ (by omega), Int.ediv_eq_zero_of_lt (by omega) (by omega)]; rfl
  have hb : bval (bitsOf k (q - 2 ^ k)) = q - 2 ^ k := bitsOf_val _ (by omega) (by omega)
  rw [hds, bitsOf_append k 1 q, hm, hd, josOf_at h1 h2]
  have h11 : bitsOf 1 1 = [1] := by decide
  rw [h11]
  simp only [List.reverse_append, List.reverse_cons, List.reverse_nil, List.nil_append, List.cons_append, List.drop_succ_cons, List.drop_zero, List.take_succ_cons, List.take_zero, List.reverse_reverse]
  show 1 + 2 * bval (bitsOf k (q - 2 ^ k)) = _
  rw [hb]; omega
theorem ints_inj {b c : Array UInt8} (h : KBw.bInts b = KBw.bInts c) : b.toList = c.toList := by
  unfold KBw.bInts at h
  have inj : ∀ x y : UInt8, ((x.toNat : Nat) : Int) = (y.toNat : Int) → x = y := fun x y e => UInt8.toNat.inj (by omega)
  generalize b.toList = xs at *
  generalize c.toList = ys at *
  induction xs generalizing ys with
  | nil => cases ys with
    | nil => rfl
    | cons _ _ => cases h
  | cons x xs ih => cases ys with
    | nil => cases h
    | cons y ys =>
      simp only [List.map_cons, List.cons.injEq] at h
      rw [inj _ _ h.1, ih ys h.2]
end Mine
end

section
open PySem PySem.W PyProof.Rows
namespace Mine
open Sem (wp)
set_option maxRecDepth 100000
set_option maxHeartbeats 8000000

theorem fillFW (P : Params) : PySem.Challenge.rw_zx0001_01 = PySem.Challenge.rw_zx0001_01 ∧ hd.heap_39 P = hd.heap_39 P := by
  k_fill
  exact ⟨rfl, rfl⟩

theorem kn_point {s' s₁ : Shared} {cw : ClaimW} {cl : Str → Option Addr} {mean : ExcName → Option Value} {args : List WData} {tabs : List (Addr × Addr)} {v : Value} (w : World) (hT : TabsAt tabs s₁.heap) (hr : ∀ a x, cw.raises a x = false)
    (h : GoodW cw cl mean args { s₁ with heap := ghostOf s₁.heap tabs } (.ok (.ret v)) s' ∧ GrownAll tabs s'.heap) : GoodWG cw cl mean args s₁ (.ok (.ret v)) s' := by
  have k := kn_post (M := ⟨fun _ => pure (.done (.ret v)), cw.prog, w⟩) (A := { depth := 0, units := 1000 }) (cd := .builtin "x" {}) (s := s') hT hr (codeAny_of_tree (wpAny_pure h))
  have k := k ⟨.builtin "x" {}, none, none, [], none⟩ default rfl ⟨rfl, Nat.le_refl _, (fun l e => nomatch e), (fun l e => nomatch e), Nat.zero_le _⟩
  rw [wpCode_iff_wp] at k
  exact k
theorem ext_fr {h₀ h h' : Heap} {L it : Addr} {m : Str → Option Value} (F : Fr h₀ L h m) (hx : Heap.ExtBut it h h') (hL : L ≠ it) (hn : h₀.get? it = none) : Fr h₀ L h' m :=
  ⟨F.ns.at fun o e => hx L o hL e, fun b o e => hx b o (fun q => by rw [q, hn] at e; cases e) (F.keep b o e), F.above⟩
theorem ext_news {h₀ h h' : Heap} {L it : Addr} {news : List (Addr × Obj)} (N : News h₀ L h news) (hx : Heap.ExtBut it h h') (hoff : Off news it) : News h₀ L h' news :=
  fun q hq => ⟨hx _ _ (hoff q hq) (N q hq).1, (N q hq).2⟩
structure CutP (Mid : Shared → Prop) (f : Flow) (s' : Shared) : Prop where
  nx : f = .next
  mid : Mid s'
theorem C_cut {M : Model} {A : Around} {s : Shared} {env : Env} {st : Stmt} {rest : List Stmt} {Q : Flow → Shared → Prop} (Mid : Shared → Prop) (h1 : wpAny M A (exec st env) (CutP Mid) (fun _ _ => False) s) (h2 : ∀ s', Mid s' → wpC M A (execs rest env) Q s') :
    wpC M A (execs (st :: rest) env) Q s := C_cons (leafC (wpAny_mono h1 (fun f s' h => by
      obtain ⟨rfl, h⟩ := h
      exact h2 s' h) fun _ _ x => x))
theorem C_cutC {M : Model} {A : Around} {s : Shared} {env : Env} {st : Stmt} {rest : List Stmt} {Q : Flow → Shared → Prop} (Mid : Shared → Prop) (h1 : wpC M A (exec st env) (CutP Mid) s) (h2 : ∀ s', Mid s' → wpC M A (execs rest env) Q s') :
    wpC M A (execs (st :: rest) env) Q s := C_cons (wpC_mono h1 (fun f s' h => by
      obtain ⟨rfl, h⟩ := h
      exact h2 s' h))
theorem Tab.off_it {h₀ h : Heap} {L P it D : Addr} {line col : Int} {qual : Str} {tab big : List (Addr × Obj)} {oi : Obj} {i : Nat} (hT : Tab P line col qual tab) (N : News h₀ L h big) (hs : ∀ q ∈ tab, q ∈ big) (hi : (it, oi) ∈ big) (hd : oi.data = .fields #[.ref D, .int i 0]) (hP : @Ne Nat P it) : Off tab it := by
  cases hT with
  | new => intro q hq; rw [List.mem_singleton.mp hq]; exact hP
  | hit c' oc vs t h1 h2 _ =>
    intro q hq
    rcases List.mem_cons.mp hq with rfl | hq
    · exact hP
    · rw [List.mem_singleton.mp hq]
      intro e
      have g1 := (N _ (hs (c', oc) (.tail _ (.head _)))).1
      have g2 := (N _ hi).1
      rw [show c' = it from e] at g1
      have g3 : oc = oi := Option.some.inj (g1.symm.trans g2)
      rw [← g3, h1] at hd
      cases hd
      cases h2
theorem bitsOf_last : ∀ {k : Nat} {x : Int}, 2 ^ k ≤ x → x < 2 ^ (k + 1) → (bitsOf (k + 1) x).getD k 0 = 1
  | 0, x, h1, h2 => by
    have : x = 1 := by simp at h1 h2; omega
    subst this; rfl
  | k + 1, x, h1, h2 => by
    have e1 : (2 : Int) ^ (k + 1) = 2 * 2 ^ k := by rw [Int.pow_succ]; omega
    have e2 : (2 : Int) ^ (k + 1 + 1) = 2 * 2 ^ (k + 1) := by rw [Int.pow_succ]; omega
    have ih := bitsOf_last (k := k) (x := x / 2) (by omega) (by omega)
    rw [bitsOf, List.getD_cons_succ]
    exact ih
theorem bits_sum : ∀ {ds : List Int}, Bits ds → 0 ≤ ds.sum ∧ ds.sum ≤ ds.length
  | [], _ => ⟨Int.le_refl _, Int.le_refl _⟩
  | d :: r, h => by
    have h1 := h d (.head _)
    have h2 := bits_sum (ds := r) fun x hx => h x (.tail _ hx)
    simp only [List.sum_cons, List.length_cons]
    omega
theorem Tab.grown {h₀ h : Heap} {L P : Addr} {line col : Int} {qual : Str} {tab big : List (Addr × Obj)} (hT : Tab P line col qual tab) (N : News h₀ L h big) (hs : ∀ q ∈ tab, q ∈ big) : GrownAt P h := by
  cases hT with
  | new => exact ⟨_, (N _ (hs _ (.head _))).1⟩
  | hit c' oc vs t _ _ _ => exact ⟨_, (N _ (hs _ (.head _))).1⟩
theorem C_for_list {prog : Program} {w : World} {A : Around} {target : Expr} {body : List Stmt} {env : Env} {R : Flow → Shared → Prop} {D it : Addr} {ws : List Value} (Inv : Nat → Shared → Prop) (hA : A.handled = none)
    (hit : ∀ i s, Inv i s → s.heap.IsListIter it D i ∧ s.heap.IsList D ws.toArray)
    (turn : ∀ i v s h', Inv i s → ws[i]? = some v → h'.IsListIter it D (i + 1) → Heap.SameBut it s.heap h' →
      wpC (model prog w) A (assign target env v) (fun _ s₂ => wpC (model prog w) A (execs body env) (fun f s₃ => match f with | .next | .cont => Inv (i + 1) s₃ | .brk => R .next s₃ | .ret v => R (.ret v) s₃) s₂) { s with heap := h' })
    (done : ∀ s h', Inv ws.length s → Heap.ExtBut it s.heap h' → wpC (model prog w) A (execs [] env) R { s with heap := h' })
    (ht : ∀ v, letOwnedTupleGo target (.ref it) v = pure ()) : ∀ (k i : Nat) (s : Shared), i + k = ws.length → Inv i s → codeC (model prog w) A (.forLoop target (.ref it) body [] env) R s
  | 0, i, s, e, h => by
    obtain rfl : i = ws.length := by omega
    refine codeC_for (leafC ?_) ht
    obtain ⟨h1, h2⟩ := hit _ _ h
    exact wpAny_pyNext_list_end hA h1 h2 (by simp) fun h' hx => done s h' h hx
  | k + 1, i, s, e, h => by
    refine codeC_for (leafC ?_) ht
    obtain ⟨h1, h2⟩ := hit _ _ h
    obtain ⟨v, hv⟩ : ∃ v, ws[i]? = some v := ⟨ws[i]'(by omega), List.getElem?_eq_getElem (by omega)⟩
    refine wpAny_pyNext_list_item h1 h2 (x := v) (by simpa using hv) fun h' hi hs => ?_
    refine wpC_mono (turn i v s h' h hv hi hs) fun _ s₂ h₂ => wpC_mono h₂ fun f s₃ h₃ => ?_
    cases f with
    | next => exact C_for_list Inv hA hit turn done ht k (i + 1) s₃ (by omega) h₃
    | cont => exact C_for_list Inv hA hit turn done ht k (i + 1) s₃ (by omega) h₃
    | brk => exact h₃
    | ret v => exact h₃
theorem C_law {prog : Program} {w : World} {A : Around} {R : Flow → Shared → Prop} {s : Shared} {name : Str} {params : Arguments} {body : List Stmt} {scope : Scope}
    {dV kV pm cd doc : Value} {a : Addr} {o : Obj} {args : Args} {binds : List (Str × Value)}
    (hroom : A.depth < recursionLimit) (ho : s.heap.get? a = some o) (hdata : o.data = .func { Calls.docDef name params body scope pm cd doc with defaults := dV, kwdefaults := kV }) (hlim : s.heap.NoLimit) (hcd : s.heap.CodeRec cd name)
    (hbind : BindsTo s { Calls.docDef name params body scope pm cd doc with defaults := dV, kwdefaults := kV } args binds)
    (hloc : ∀ x ∈ binds, scope.names.lookup x.1 = some .local)
    (h : ∀ h₁, Fr s.heap s.heap.objs.size h₁ (fun x => binds.reverse.lookup x) →
      wpC (model prog w) (A.deeper (envOf name scope s.heap.objs.size a cd)) (execs body (envOf name scope s.heap.objs.size a cd))
        (fun f s' => R (.ret (match f with | .ret v => v | _ => .none)) s')
        { s with heap := h₁, toks := s.toks + binds.length })
    (hco : scope.isCoroutine = false := by rfl) (hgen : scope.isGenerator = false := by rfl) (hk : scope.kind = .function := by rfl)
    (hcell : ∀ x ∈ scope.names, x.2 ≠ .cell := by decide) :
    codeC (model prog w) A (.call (.ref a) args) R s :=
  codeC_call_def hroom ho hdata hlim hcd rfl hbind hcell hloc (fun h₁ hns hkeep => h h₁ ⟨hns, hkeep, Nat.le_refl _⟩) hco hgen hk

theorem law_holds : PySem.Challenge.rw_zx0001_01.Holds := by
  refine hd ?_
  k_fill
  intro w s₀ s₁ mg mb G Y fa o pm cd doc dV kV ho hd hcd hD hmg hg args vals as hpre hlay hrd hwl hlo
  have KX := km_in_of Y
  km_tabs Y
  have X := (Ground.X G).1
  have V := (Ground.X G).2
  refine Ground.open G ?_
  intro T B D TE TW
  try (refine guard_noD D (by decide +kernel) ?_; clear D)
  km_lay T hmg ho hd cd
  clear hmg
  wrow_args hpre hlay hrd hwl hlo
  refine codeC_mono (R := fun f s' => ∃ v, f = .ret v ∧ (GoodW _ (classAt s₀.heap) (ExcName.means s₀.heap) _ { s₁ with heap := ghostOf s₁.heap [(27, 23), (20, 16)] } (.ok (.ret v)) s' ∧ GrownAll [(27, 23), (20, 16)] s'.heap)) ?_ (fun f s' hf => by
    obtain ⟨v, e, g⟩ := hf
    exact ⟨v, e, kn_point w hT9 (fun _ _ => rfl) g⟩)
  have he := Dflts.none hD rfl
  subst he
  refine C_law (by decide) ho hd (Top.nolimit T) hcd (BindsTo.of_eq rfl) (locs rfl) fun h₁ F => ?_
  w_binds F
  have N0 := (News.nil : News _ _ _ []).at F
  clear hd
  kn_ghosts F T
  k_drop
  rename (hd.heap_39 w.params).In _ => X9
  rename Top _ _ _ _ _ _ => T9
  rename Below _ _ _ _ => B9
  rename Fr _ _ _ _ => F9
  rename News _ _ _ _ => N9
  refine C_cons (C_For ?_)
  k_steps
  rename IntsAre _ (List.take 6 _) => I6
  rename_i D ws h6 F6 N6 hlen hlen2 lD
  rename List Int => ns
  have hc27 : CodeHd (ghostOf s₁.heap [(27, 23), (20, 16)]) 27 23 := by assumption
  have hc20 : CodeHd (ghostOf s₁.heap [(27, 23), (20, 16)]) 20 16 := by assumption
  generalize hG : ghostOf s₁.heap [(27, 23), (20, 16)] = g0 at *
  have h56 : @LT.lt Nat _ 56 s₁.heap.objs.size := by
    refine' lt_of_K (b := 56) X9 F6 ?kq
    case kq => k_is
  obtain ⟨ms, hms⟩ : ∃ ms, ms = List.take 6 ns := ⟨_, rfl⟩
  rw [← hms] at I6
  clear hD hT9 hT8 Y
  refine wpAny_pyIter_list (l := D) (items := ws.toArray) ⟨_, (N6 (D, _) (.head _)).1, rfl, _, rfl⟩ ?_
  have nIt : @LT.lt Nat _ s₁.heap.objs.size h6.objs.size := F6.ns.lt
  obtain ⟨it, hite⟩ : ∃ it, it = h6.objs.size := ⟨_, rfl⟩
  show codeC _ _ (.forLoop _ (.ref h6.objs.size) _ _ _) _ _
  rw [← hite]
  refine C_for_list (D := D) (it := it) (ws := ws) (fun i s => s.gens = s₁.gens ∧ s.os = s₁.os ∧ ∃ (oi : Obj) (m : Str → Option Value) (tabA tabB : List (Addr × Obj)),
      oi.cls = .type "list_iterator" ∧ oi.data = .fields #[.ref D, .int i 0] ∧ Tab 23 (20 : Nat) (4 : Nat) (Str.ofString "_digits2int.<locals>.inner") tabA ∧ Tab 16 (5 : Nat) (4 : Nat) (Str.ofString "_int2digits.<locals>.inner") tabB ∧
      Off tabA it ∧ Off tabB it ∧ 
      Fr g0 s₁.heap.objs.size s.heap m ∧ News g0 s₁.heap.objs.size s.heap (tabA ++ (tabB ++ [(it, oi), (D, PySem.W.listOf ws.toArray 0)]))) rfl ?_ ?_ ?_ (by intro _; rfl) ws.length 0 _ (by omega) ?_
  · rintro i s ⟨_, _, oi, m, tA, tB, c1, c2, _, _, _, _, F, N⟩
    exact ⟨⟨oi, (N (it, oi) (by simp)).1, c1, c2⟩, ⟨_, (N (D, PySem.W.listOf ws.toArray 0) (by simp)).1, rfl, _, rfl⟩⟩
  · rintro i v s h' ⟨e1, e2, oi, m, tA, tB, c1, c2, hTA, hTB, oA, oB, F, N⟩ hv hi hs
    obtain ⟨n, t, rfl, hn⟩ := IntsAre.at I6 i v hv
    obtain ⟨oi', ho', c1', c2'⟩ := hi
    have hDit : @Ne Nat D it := by
      have := (N6 (D, _) (.head _)).1
      have := Heap.lt_size this
      rw [hite]; exact Nat.ne_of_lt this
    have F1 := set_fr F N (S := it) (o := oi) (by simp) hs
    have N1 : News g0 s₁.heap.objs.size h' (tA ++ (tB ++ [(it, oi'), (D, PySem.W.listOf ws.toArray 0)])) := by
      have U := updF_app (d := it) (o := oi) (pre := tA ++ tB) (post := [(D, PySem.W.listOf ws.toArray 0)]) (fun q hq => (List.mem_append.mp hq).elim (oA q) (oB q)) (fun q hq => by rw [List.mem_singleton.mp hq]; exact hDit)
      have N' := set_news (cb_drop N (by intro q hq; simp only [List.mem_append, List.mem_cons, List.not_mem_nil, or_false] at hq ⊢; grind)) U hs ho'
      exact cb_drop N' (by intro q hq; simp only [List.mem_append, List.mem_cons, List.not_mem_nil, or_false] at hq ⊢; grind)
    clear N F hs ho'
    refine leafC ?_
    walk1
    walk1
    dsimp only
    rename_i h7 F7 N7
    obtain ⟨q, hq⟩ : ∃ q, q = 1 + n.fmod 120 := ⟨_, rfl⟩
    have hq1 : 1 ≤ q ∧ q ≤ 120 := by
      rw [hq, Int.fmod_eq_emod_of_nonneg _ (by decide)]; omega
    have hitP : @LT.lt Nat _ 56 it := by rw [hite]; exact Nat.lt_trans h56 nIt
    refine C_cut (fun s' => s'.gens = s₁.gens ∧ s'.os = s₁.os ∧ ∃ (t : Tok) (u : Str → Option Value), Fr g0 s₁.heap.objs.size s'.heap (fun y => if y = Str.ofString "many" then some (Value.int q t) else u y) ∧ News g0 s₁.heap.objs.size s'.heap (tA ++ (tB ++ [(it, oi'), (D, PySem.W.listOf ws.toArray 0)]))) ?_ ?_
    · k_steps
      rename_i F8 N8
      rw [← hq] at F8
      exact ⟨rfl, e1, e2, _, _, F8, N8⟩
    clear F7 N7 e1 e2 c1 c2
    rintro s ⟨e1, e2, t2, u2, F2, N2⟩
    obtain ⟨k, hk⟩ : ∃ k, k = lgI q := ⟨_, rfl⟩
    have hk12 := lgI_at hq1.1
    rw [← hk] at hk12
    obtain ⟨hk1, hk2⟩ := hk12
    have hgd := good_at hq1.1 (Int.lt_of_le_of_lt hq1.2 (by decide))
    have hk3 : k ≤ 6 := by rw [hk]; exact hgd.2.2.2.2.2.1
    have o16 : Off (tA ++ [(it, oi'), (D, PySem.W.listOf ws.toArray 0)]) 16 := by
      intro p hp
      rcases List.mem_append.mp hp with hp | hp
      · exact hTA.off (P := 23) (neN (by decide)) (by decide) p hp
      · simp only [List.mem_cons, List.not_mem_nil, or_false] at hp
        rcases hp with rfl | rfl
        · refine neN ?_; dsimp only; omega
        · refine neN ?_; have := ltN lD.2; dsimp only; omega
    refine C_cut (fun s' => s'.gens = s₁.gens ∧ s'.os = s₁.os ∧ ∃ (t : Tok) (u : Str → Option Value) (tB' : List (Addr × Obj)) (l : Addr) (vs : List Value) (c : Nat), Tab 16 (5 : Nat) (4 : Nat) (Str.ofString "_int2digits.<locals>.inner") tB' ∧ @LT.lt Nat _ 56 l ∧ IntsAre vs (bitsOf (k + 1) q) ∧
      Fr g0 s₁.heap.objs.size s'.heap (fun y => if y = Str.ofString "figures" then some (Value.ref l) else if y = Str.ofString "many" then some (Value.int q t) else u y) ∧ News g0 s₁.heap.objs.size s'.heap ((l, PySem.W.listOf vs.toArray c) :: (it, oi') :: (D, PySem.W.listOf ws.toArray 0) :: (tA ++ tB'))) ?_ ?_
    · repeat' ((fail_if_success (with_reducible show wpAny _ _ (call (Value.ref _) _ _) _ _ _)); first | (k_unfold; (try dsimp only)) | (k_end; wrow_close) | walk1 | (dsimp only; walk1) | (leave1; walk_say "STEP leave1"; try dsimp only) | fail "no step")
      k_dflt (refine' i2d_ok _ _ _ _ _ _ _ _ _ _ _ _ _ _ tB (tA ++ [(it, oi'), (D, PySem.W.listOf ws.toArray 0)]) _ k _ _ _ _ _ ?k1 ?k2 ?k3 ?k4 hTB o16 ?k5 ?kK hk1 hk2 ?kk hc20 ?kd ?ku ?_; (case k1 => k_asm); (case k2 => k_asm); (case k3 => k_asm); (case k4 => exact cb_drop (by k_asm) (by intro q hq; simp only [List.mem_append, List.mem_cons, List.not_mem_nil, or_false] at hq ⊢; grind)); (case k5 => k_asm); (case kK => exact rfl); (case kk => omega); (case kd => exact (by decide +kernel)); (case ku => exact (by decide +kernel)))
      intro tB' l vs c h5 tk5 hTB' hl1 hl2 hl3 hI5 F5 N5
      k_steps
      rename_i h8 F8 N8
      exact ⟨rfl, e1, e2, _, _, tB', l, vs, c, hTB', hl3, hI5, F8, cb_drop N8 (by intro q hq; simp only [List.mem_append, List.mem_cons, List.not_mem_nil, or_false] at hq ⊢; grind)⟩
    clear F2 N2 e1 e2
    rintro s ⟨e1, e2, t2, u2, tB2, l, vs, c, hTB2, hl, hI2, F2, N2⟩
    obtain ⟨ds, hds⟩ : ∃ ds, ds = bitsOf (k + 1) q := ⟨_, rfl⟩
    rw [← hds] at hI2
    have hbl : ds.length = k + 1 := by rw [hds]; exact bitsOf_length _ _
    have hbits : Bits ds := by rw [hds]; exact bitsOf_bits _ _
    have hbv : bval ds = q := by rw [hds]; exact bitsOf_val _ (by omega) hk2
    have hlast : ds.getD (-1 + (ds.length : Int)).toNat 0 = 1 := by
      rw [hbl, show (-1 + ((k + 1 : Nat) : Int)).toNat = k by omega, hds]
      exact bitsOf_last hk1 hk2
    have o23 : ∀ tB', Tab 16 (5 : Nat) (4 : Nat) (Str.ofString "_int2digits.<locals>.inner") tB' → Off ((it, oi') :: (D, PySem.W.listOf ws.toArray 0) :: tB') 23 := by
      intro tB' hTB' p hp
      rcases List.mem_cons.mp hp with rfl | hp
      · refine neN ?_; dsimp only; omega
      rcases List.mem_cons.mp hp with rfl | hp
      · refine neN ?_; have := ltN lD.1; dsimp only; omega
      · exact hTB'.off (P := 16) (neN (by decide)) (by decide) p hp
    obtain ⟨rs, hrs⟩ : ∃ rs, rs = ds.reverse := ⟨_, rfl⟩
    have hrl : rs.length = k + 1 := by rw [hrs, List.length_reverse, hbl]
    have hin : KBa.In ds.reverse := fun x hx => by have := hbits x (List.mem_reverse.mp hx); omega
    refine C_cut (fun s' => s'.gens = s₁.gens ∧ s'.os = s₁.os ∧ ∃ (t tr : Tok) (u : Str → Option Value) (b : Array UInt8), KBw.bInts b = rs ∧
      Fr g0 s₁.heap.objs.size s'.heap (fun y => if y = Str.ofString "row" then some (Value.bytes b tr) else if y = Str.ofString "figures" then some (Value.ref l) else if y = Str.ofString "many" then some (Value.int q t) else u y) ∧ News g0 s₁.heap.objs.size s'.heap ((l, PySem.W.listOf vs.toArray c) :: (it, oi') :: (D, PySem.W.listOf ws.toArray 0) :: (tA ++ tB2))) ?_ ?_
    · repeat' ((fail_if_success (with_reducible show wpAny _ _ (call (Value.type "bytes") _ _) _ _ _)); first | (k_unfold; (try dsimp only)) | (k_end; wrow_close) | walk1 | (dsimp only; walk1) | (leave1; walk_say "STEP leave1"; try dsimp only) | fail "no step")
      rename News _ _ _ _ => N8
      k_dflt (refine' KBa.make_K ?k1 N8 rfl ⟨_, (N8 _ (.head _)).1, rfl, _, rfl⟩ ?k2 hin ?k3 ?_; (case k1 => k_asm); (case k2 => k_asm); (case k3 => rw [List.length_reverse]; omega))
      intro h9 t9 k9 F9 N9 _
      k_steps
      rename_i h8 F8 N8
      exact ⟨rfl, e1, e2, _, _, _, _, (KBa.ints_make hin).trans hrs.symm, F8, cb_drop N8 (by intro q hq; simp only [List.mem_append, List.mem_cons, List.not_mem_nil, or_false] at hq ⊢; grind)⟩
    clear F2 N2 e1 e2
    rintro s ⟨e1, e2, t2, tr, u2, b, hb, F2, N2⟩
    refine C_cut (fun s' => s'.gens = s₁.gens ∧ s'.os = s₁.os ∧ ∃ (t tr : Tok) (u : Str → Option Value) (tA' : List (Addr × Obj)), Tab 23 (20 : Nat) (4 : Nat) (Str.ofString "_digits2int.<locals>.inner") tA' ∧
      Fr g0 s₁.heap.objs.size s'.heap (fun y => if y = Str.ofString "row" then some (Value.bytes b tr) else if y = Str.ofString "figures" then some (Value.ref l) else if y = Str.ofString "many" then some (Value.int q t) else u y) ∧ News g0 s₁.heap.objs.size s'.heap ((l, PySem.W.listOf vs.toArray c) :: (it, oi') :: (D, PySem.W.listOf ws.toArray 0) :: (tA' ++ tB2))) ?_ ?_
    · repeat' ((fail_if_success (with_reducible show wpAny _ _ (call (Value.ref _) _ _) _ _ _)); first | (k_unfold; (try dsimp only)) | (k_end; wrow_close) | walk1 | (dsimp only; walk1) | (leave1; walk_say "STEP leave1"; try dsimp only) | fail "no step")
      · rename decide (ds = []) = true => h9
        exfalso
        rw [decide_eq_true_iff.mp h9] at hbl
        cases hbl
      · rename ds.getD _ 0 ≠ 1 => h9
        exact absurd hlast h9
      · k_dflt (refine' d2i_ok _ _ _ _ _ _ _ _ _ _ _ _ _ _ tA ((it, oi') :: (D, PySem.W.listOf ws.toArray 0) :: tB2) _ l vs c ds _ _ _ ?k1 ?k2 ?k3 ?k4 hTA (neN (by omega)) (o23 tB2 hTB2) ?k5 ?kK hI2 ?kl1 ?kl2 hbits hc27 ?kd ?ku ?_; (case k1 => k_asm); (case k2 => k_asm); (case k3 => k_asm); (case k4 => exact cb_drop (by k_asm) (by intro q hq; simp only [List.mem_append, List.mem_cons, List.not_mem_nil, or_false] at hq ⊢; grind)); (case k5 => k_asm); (case kK => exact rfl); (case kl1 => omega); (case kl2 => omega); (case kd => exact (by decide +kernel)); (case ku => exact (by decide +kernel)))
        intro tA' t5 h5 tk5 hTA' F5 N5
        k_steps
        · rename bval ds ≠ q => h9
          exact absurd hbv h9
        · rename Fr _ _ _ _ => F8
          rename News _ _ _ _ => N8
          exact ⟨rfl, e1, e2, _, _, _, tA', hTA', F8, cb_drop N8 (by intro q hq; simp only [List.mem_append, List.mem_cons, List.not_mem_nil, or_false] at hq ⊢; grind)⟩
    clear F2 N2 e1 e2
    rintro s ⟨e1, e2, t2, tr, u2, tA2, hTA2, F2, N2⟩
    refine C_cutC (fun s' => s'.gens = s₁.gens ∧ s'.os = s₁.os ∧ ∃ (t tr tt : Tok) (u : Str → Option Value) (b' : Array UInt8), KBw.bInts b' = rs.drop 1 ++ rs.take 1 ∧
      Fr g0 s₁.heap.objs.size s'.heap (fun y => if y = Str.ofString "turned" then some (Value.bytes b' tt) else if y = Str.ofString "row" then some (Value.bytes b tr) else if y = Str.ofString "figures" then some (Value.ref l) else if y = Str.ofString "many" then some (Value.int q t) else u y) ∧ News g0 s₁.heap.objs.size s'.heap ((l, PySem.W.listOf vs.toArray c) :: (it, oi') :: (D, PySem.W.listOf ws.toArray 0) :: (tA2 ++ tB2))) ?_ ?_
    · refine C_Assign (C_Call2F (a := 49) ?_)
      k_steps
      · rename Fr _ _ _ _ => F8
        k_dflt (refine' fnIn_of X9 F8 ?kf; (case kf => k_is))
      k_dflt (refine' turned_ok _ _ _ _ _ _ _ _ _ _ _ _ _ _ _ _ _ rs _ _ _ ?k1 ?k2 ?k3 ?k4 ?k5 ?kK hb ?kl1 ?kl2 ?kd ?ku ?_; (case k1 => k_asm); (case k2 => k_asm); (case k3 => k_asm); (case k4 => k_asm); (case k5 => k_asm); (case kK => exact rfl); (case kl1 => omega); (case kl2 => omega); (case kd => exact (by decide +kernel)); (case ku => exact (by decide +kernel)))
      intro b' t5 h5 tk5 hb' F5 N5
      refine leafC ?_
      k_steps
      rename_i h8 F8 N8
      exact ⟨rfl, e1, e2, _, _, _, _, _, hb', F8, N8⟩
    clear F2 N2 e1 e2
    rintro s ⟨e1, e2, t2, tr, tt, u2, b', hb', F2, N2⟩
    refine C_cut (fun s' => s'.gens = s₁.gens ∧ s'.os = s₁.os ∧ ∃ (t tr tt tl : Tok) (u : Str → Option Value), 
      Fr g0 s₁.heap.objs.size s'.heap (fun y => if y = Str.ofString "left" then some (Value.int (josOf q) tl) else if y = Str.ofString "turned" then some (Value.bytes b' tt) else if y = Str.ofString "row" then some (Value.bytes b tr) else if y = Str.ofString "figures" then some (Value.ref l) else if y = Str.ofString "many" then some (Value.int q t) else u y) ∧ News g0 s₁.heap.objs.size s'.heap ((l, PySem.W.listOf vs.toArray c) :: (it, oi') :: (D, PySem.W.listOf ws.toArray 0) :: (tA2 ++ tB2))) ?_ ?_
    · repeat' ((fail_if_success (with_reducible show wpAny _ _ (call (Value.ref _) _ _) _ _ _)); first | (k_unfold; (try dsimp only)) | (k_end; wrow_close) | walk1 | (dsimp only; walk1) | (leave1; walk_say "STEP leave1"; try dsimp only) | fail "no step")
      k_dflt (refine' left_ok _ _ _ _ _ _ _ _ _ _ _ _ _ _ _ _ _ _ _ _ ?k1 ?k2 ?k3 ?k4 ?k5 ?kK ?kh1 ?kh2 ?kd ?ku ?_; (case k1 => k_asm); (case k2 => k_asm); (case k3 => k_asm); (case k4 => k_asm); (case k5 => k_asm); (case kK => exact rfl); (case kh1 => exact hq1.1); (case kh2 => exact (by omega)); (case kd => exact (by decide +kernel)); (case ku => exact (by decide +kernel)))
      intro t5 h5 tk5 F5 N5
      k_steps
      rename_i h8 F8 N8
      exact ⟨rfl, e1, e2, _, _, _, _, _, F8, N8⟩
    clear F2 N2 e1 e2
    rintro s ⟨e1, e2, t2, tr, tt, tl, u2, F2, N2⟩
    refine C_cut (fun s' => s'.gens = s₁.gens ∧ s'.os = s₁.os ∧ ∃ (t tr tt tl : Tok) (u : Str → Option Value) (tA' : List (Addr × Obj)), Tab 23 (20 : Nat) (4 : Nat) (Str.ofString "_digits2int.<locals>.inner") tA' ∧
      Fr g0 s₁.heap.objs.size s'.heap (fun y => if y = Str.ofString "left" then some (Value.int (josOf q) tl) else if y = Str.ofString "turned" then some (Value.bytes b' tt) else if y = Str.ofString "row" then some (Value.bytes b tr) else if y = Str.ofString "figures" then some (Value.ref l) else if y = Str.ofString "many" then some (Value.int q t) else u y) ∧ News g0 s₁.heap.objs.size s'.heap ((l, PySem.W.listOf vs.toArray c) :: (it, oi') :: (D, PySem.W.listOf ws.toArray 0) :: (tA' ++ tB2))) ?_ ?_
    · repeat' ((fail_if_success (with_reducible show wpAny _ _ (call (Value.type "list") _ _) _ _ _)); (fail_if_success (with_reducible show wpAny _ _ (call (Value.ref _) _ _) _ _ _)); first | (k_unfold; (try dsimp only)) | (k_end; wrow_close) | walk1 | (dsimp only; walk1) | (leave1; walk_say "STEP leave1"; try dsimp only) | fail "no step")
      · rename (_ != _) = true => h9
        exfalso
        rename KBw.bInts (_ ++ _) = _ => hpk
        rw [bne_iff_ne] at h9
        refine h9 (ints_inj (hb'.trans (Eq.trans ?_ hpk.symm)))
        have hclip : clipAt rs.length 1 = 1 := by
          show clipAt rs.length ((1 : Nat) : Int) = 1
          rw [clipAt_nat]; omega
        have htk : List.take (rs.length - 1) (List.drop 1 rs) = List.drop 1 rs := List.take_of_length_le (by rw [List.length_drop]; exact Nat.le_refl _)
        rw [hclip, htk]
      · rename Fr _ _ _ _ => F8
        rename News _ _ _ _ => N8
        refine call_list_bytesN F8 N8 hb' rfl (by rw [List.length_append, List.length_drop, List.length_take]; omega) fun D2 vs2 c2 h9 tk9 F9 N9 l9 I9 => ?_
        generalize hxs : List.drop 1 rs ++ List.take 1 rs = xs at *
        have hxl : xs.length = k + 1 := by rw [← hxs, List.length_append, List.length_drop, List.length_take]; omega
        clear F8 N8
        repeat' ((fail_if_success (with_reducible show wpAny _ _ (call (Value.ref _) _ _) _ _ _)); first | (k_unfold; (try dsimp only)) | (k_end; wrow_close) | walk1 | (dsimp only; walk1) | (leave1; walk_say "STEP leave1"; try dsimp only) | fail "no step")
        rename IntsAre _ xs.reverse => I8
        rename News _ _ _ _ => N8
        have hval : bval xs.reverse = josOf q := by rw [← hxs, hrs]; exact bval_turn hk1 hk2 hds
        obtain ⟨ys, hys⟩ : ∃ ys, ys = xs.reverse := ⟨_, rfl⟩
        rw [← hys] at I8 hval
        have hyl : ys.length = k + 1 := by rw [hys, List.length_reverse, hxl]
        have hyb : Bits ys := by
          intro x hx
          rw [hys, List.mem_reverse, ← hxs, List.mem_append] at hx
          have hx' : x ∈ rs := hx.elim List.mem_of_mem_drop List.mem_of_mem_take
          rw [hrs] at hx'
          exact hbits x (List.mem_reverse.mp hx')
        rename _ ∧ _ ∧ _ ∧ _ ∧ AllLt _ _ => l10
        have o23' : Off ((l, PySem.W.listOf vs.toArray c) :: (it, oi') :: (D, PySem.W.listOf ws.toArray 0) :: tB2) 23 := by
          intro p hp
          rcases List.mem_cons.mp hp with rfl | hp
          · refine neN ?_; dsimp only; omega
          · exact o23 tB2 hTB2 p hp
        k_dflt (refine' d2i_ok _ _ _ _ _ _ _ _ _ _ _ _ _ _ tA2 ((l, PySem.W.listOf vs.toArray c) :: (it, oi') :: (D, PySem.W.listOf ws.toArray 0) :: tB2) _ _ _ 0 ys _ _ _ ?k1 ?k2 ?k3 ?k4 hTA2 (neN (by have := ltN lD.1; have := ltN l10.2.2.2.1; omega)) o23' ?k5 ?kK I8 ?kl1 ?kl2 hyb hc27 ?kd ?ku ?_; (case k1 => k_asm); (case k2 => k_asm); (case k3 => k_asm); (case k4 => exact cb_drop (by k_asm) (by intro q hq; simp only [List.mem_append, List.mem_cons, List.not_mem_nil, or_false] at hq ⊢; grind)); (case k5 => k_asm); (case kK => exact rfl); (case kl1 => omega); (case kl2 => omega); (case kd => exact (by decide +kernel)); (case ku => exact (by decide +kernel)))
        intro tA' t5 h5 tk5 hTA' F5 N5
        k_steps
        · rename bval ys ≠ _ => h9
          exact absurd hval h9
        · rename Fr _ _ _ _ => F8
          rename News _ _ _ _ => N8
          exact ⟨rfl, e1, e2, _, _, _, _, _, tA', hTA', F8, cb_drop N8 (by intro q hq; simp only [List.mem_append, List.mem_cons, List.not_mem_nil, or_false] at hq ⊢; grind)⟩
    clear F2 N2 e1 e2
    rintro s ⟨e1, e2, t2, tr, tt, tl, u2, tA3, hTA3, F2, N2⟩
    have hj2 := josOf_double hk1 hk2
    refine C_cut (fun s' => s'.gens = s₁.gens ∧ s'.os = s₁.os ∧ ∃ (t tr tt tl : Tok) (u : Str → Option Value), 
      Fr g0 s₁.heap.objs.size s'.heap (fun y => if y = Str.ofString "left" then some (Value.int (josOf q) tl) else if y = Str.ofString "turned" then some (Value.bytes b' tt) else if y = Str.ofString "row" then some (Value.bytes b tr) else if y = Str.ofString "figures" then some (Value.ref l) else if y = Str.ofString "many" then some (Value.int q t) else u y) ∧ News g0 s₁.heap.objs.size s'.heap ((l, PySem.W.listOf vs.toArray c) :: (it, oi') :: (D, PySem.W.listOf ws.toArray 0) :: (tA3 ++ tB2))) ?_ ?_
    · repeat' ((fail_if_success (with_reducible show wpAny _ _ (call (Value.ref _) _ _) _ _ _)); first | (k_unfold; (try dsimp only)) | (k_end; wrow_close) | walk1 | (dsimp only; walk1) | (leave1; walk_say "STEP leave1"; try dsimp only) | fail "no step")
      k_dflt (refine' left_ok _ _ _ _ _ _ _ _ _ _ _ _ _ _ _ _ _ _ _ _ ?k1 ?k2 ?k3 ?k4 ?k5 ?kK ?kh1 ?kh2 ?kd ?ku ?_; (case k1 => k_asm); (case k2 => k_asm); (case k3 => k_asm); (case k4 => k_asm); (case k5 => k_asm); (case kK => exact rfl); (case kh1 => exact (by omega)); (case kh2 => exact (by omega)); (case kd => exact (by decide +kernel)); (case ku => exact (by decide +kernel)))
      intro t5 h5 tk5 F5 N5
      repeat' ((fail_if_success (with_reducible show wpAny _ _ (call (Value.ref _) _ _) _ _ _)); first | (k_unfold; (try dsimp only)) | (k_end; wrow_close) | walk1 | (dsimp only; walk1) | (leave1; walk_say "STEP leave1"; try dsimp only) | fail "no step")
      · rename josOf (2 * q) ≠ _ => h9
        exact absurd hj2.1 h9
      · k_dflt (refine' left_ok _ _ _ _ _ _ _ _ _ _ _ _ _ _ _ _ _ _ _ _ ?k1 ?k2 ?k3 ?k4 ?k5 ?kK ?kh1 ?kh2 ?kd ?ku ?_; (case k1 => k_asm); (case k2 => k_asm); (case k3 => k_asm); (case k4 => k_asm); (case k5 => k_asm); (case kK => exact rfl); (case kh1 => exact (by omega)); (case kh2 => exact (by omega)); (case kd => exact (by decide +kernel)); (case ku => exact (by decide +kernel)))
        intro t6 h6 tk6 F6 N6
        k_steps
        · rename josOf (2 * q + 1) ≠ _ => h9
          exact absurd hj2.2 h9
        · rename Fr _ _ _ _ => F8
          rename News _ _ _ _ => N8
          exact ⟨rfl, e1, e2, _, _, _, _, _, F8, cb_drop N8 (by intro q hq; simp only [List.mem_append, List.mem_cons, List.not_mem_nil, or_false] at hq ⊢; grind)⟩
    clear F2 N2 e1 e2
    rintro s ⟨e1, e2, t2, tr, tt, tl, u2, F2, N2⟩
    refine C_cut (fun s' => s'.gens = s₁.gens ∧ s'.os = s₁.os ∧ ∃ (t tr tt tl th : Tok) (u : Str → Option Value), 
      Fr g0 s₁.heap.objs.size s'.heap (fun y => if y = Str.ofString "here" then some (Value.int q th) else if y = Str.ofString "left" then some (Value.int (josOf q) tl) else if y = Str.ofString "turned" then some (Value.bytes b' tt) else if y = Str.ofString "row" then some (Value.bytes b tr) else if y = Str.ofString "figures" then some (Value.ref l) else if y = Str.ofString "many" then some (Value.int q t) else u y) ∧ News g0 s₁.heap.objs.size s'.heap ((l, PySem.W.listOf vs.toArray c) :: (it, oi') :: (D, PySem.W.listOf ws.toArray 0) :: (tA3 ++ tB2))) ?_ ?_
    · k_steps
      rename_i h8 F8 N8
      exact ⟨rfl, e1, e2, _, _, _, _, _, _, F8, N8⟩
    clear F2 N2 e1 e2
    rintro s ⟨e1, e2, t2, tr, tt, tl, th, u2, F2, N2⟩
    refine C_cut (fun s' => s'.gens = s₁.gens ∧ s'.os = s₁.os ∧ ∃ (t tr tt tl th : Tok) (u : Str → Option Value) (x : Int), 1 ≤ x ∧ x ≤ q ∧ jI x = x ∧ (bitsI x).sum = (bitsI q).sum ∧
      Fr g0 s₁.heap.objs.size s'.heap (fun y => if y = Str.ofString "here" then some (Value.int x th) else if y = Str.ofString "left" then some (Value.int (josOf q) tl) else if y = Str.ofString "turned" then some (Value.bytes b' tt) else if y = Str.ofString "row" then some (Value.bytes b tr) else if y = Str.ofString "figures" then some (Value.ref l) else if y = Str.ofString "many" then some (Value.int q t) else u y) ∧ News g0 s₁.heap.objs.size s'.heap ((l, PySem.W.listOf vs.toArray c) :: (it, oi') :: (D, PySem.W.listOf ws.toArray 0) :: (tA3 ++ tB2))) ?_ ?_
    · refine While_inv2 (n₀ := q.toNat) (fun j m₁ nx => ∃ (x : Int) (t : Tok), m₁ = (fun y => if y = Str.ofString "here" then some (Value.int x t) else if y = Str.ofString "left" then some (Value.int (josOf q) tl) else if y = Str.ofString "turned" then some (Value.bytes b' tt) else if y = Str.ofString "row" then some (Value.bytes b tr) else if y = Str.ofString "figures" then some (Value.ref l) else if y = Str.ofString "many" then some (Value.int q t2) else u2 y) ∧ nx = ((l, PySem.W.listOf vs.toArray c) :: (it, oi') :: (D, PySem.W.listOf ws.toArray 0) :: (tA3 ++ tB2)) ∧ 1 ≤ x ∧ x ≤ q ∧ x.toNat = j ∧ (bitsI x).sum = (bitsI q).sum) F2 N2 ?_ ?_
      · exact ⟨q, th, rfl, rfl, hq1.1, Int.le_refl _, rfl, rfl⟩
      · clear F2 N2
        rintro j m₁ nx h₁ tk₁ F₁ N₁ ⟨x, t0, rfl, rfl, hx1, hx2, rfl, hx4⟩
        have hgx := good_at hx1 (Int.lt_of_le_of_lt (Int.le_trans hx2 hq1.2) (by decide))
        have hjx := josOf_eq hx1
        repeat' ((fail_if_success (with_reducible show wpAny _ _ (call (Value.ref _) _ _) _ _ _)); first | (k_unfold; (try dsimp only)) | (k_end; wrow_close) | walk1 | (dsimp only; walk1) | (leave1; walk_say "STEP leave1"; try dsimp only) | fail "no step")
        k_dflt (refine' left_ok _ _ _ _ _ _ _ _ _ _ _ _ _ _ _ _ _ _ _ _ ?k1 ?k2 ?k3 ?k4 ?k5 ?kK ?kh1 ?kh2 ?kd ?ku ?_; (case k1 => k_asm); (case k2 => k_asm); (case k3 => k_asm); (case k4 => k_asm); (case k5 => k_asm); (case kK => exact rfl); (case kh1 => exact hx1); (case kh2 => exact (by omega)); (case kd => exact (by decide +kernel)); (case ku => exact (by decide +kernel)))
        intro t5 h5 tk5 F5 N5
        repeat' ((fail_if_success (with_reducible show wpAny _ _ (call (Value.ref _) _ _) _ _ _)); first | (k_unfold; (try dsimp only)) | (k_end; wrow_close) | walk1 | (dsimp only; walk1) | (leave1; walk_say "STEP leave1"; try dsimp only) | fail "no step")
        · rename josOf x ≠ x => h9
          k_dflt (refine' left_ok _ _ _ _ _ _ _ _ _ _ _ _ _ _ _ _ _ _ _ _ ?k1 ?k2 ?k3 ?k4 ?k5 ?kK ?kh1 ?kh2 ?kd ?ku ?_; (case k1 => k_asm); (case k2 => k_asm); (case k3 => k_asm); (case k4 => k_asm); (case k5 => k_asm); (case kK => exact rfl); (case kh1 => exact hx1); (case kh2 => exact (by omega)); (case kd => exact (by decide +kernel)); (case ku => exact (by decide +kernel)))
          intro t6 h6 tk6 F6 N6
          k_steps
          rename Fr _ _ _ _ => F8
          rename News _ _ _ _ => N8
          rw [hjx] at h9 F8
          exact ⟨_, _, _, _, (jI x).toNat, rfl, F8, N8, by omega, jI x, t6, funext fun y => by
            by_cases hy : y = Str.ofString "here"
            · rw [if_pos hy, if_pos hy]
            · rw [if_neg hy, if_neg hy, if_neg hy], rfl, hgx.1.1, Int.le_trans hgx.1.2 hx2, rfl, hgx.2.1.trans hx4⟩
        · rename josOf x = x => h9
          exact ⟨rfl, e1, e2, _, _, _, _, _, _, x, hx1, hx2, hjx.symm.trans h9, hx4, F5, N5⟩
    clear F2 N2 e1 e2
    rintro s ⟨e1, e2, t2, tr, tt, tl, th, u2, x, hx1, hx2, hx3, hx4, F2, N2⟩
    have hgx := good_at hx1 (Int.lt_of_le_of_lt (Int.le_trans hx2 hq1.2) (by decide))
    obtain ⟨kx, hkx⟩ : ∃ kx, kx = lgI x := ⟨_, rfl⟩
    have hkx12 := lgI_at hx1
    rw [← hkx] at hkx12
    have hkx3 : kx ≤ 6 := by rw [hkx]; exact hgx.2.2.2.2.2.1
    have hdx : bitsOf (kx + 1) x = List.replicate (bitsI q).sum.toNat 1 := by
      have := hgx.2.2.1 hx3
      rw [hx4] at this
      rw [← this, hkx]; rfl
    obtain ⟨sm, hsm⟩ : ∃ sm : Nat, ds.sum = (sm : Int) := ⟨ds.sum.toNat, by have := (bits_sum hbits).1; omega⟩
    have hsm2 : sm ≤ 7 := by have := (bits_sum hbits).2; omega
    have hdsI : ds = bitsI q := by rw [hds, hk]; rfl
    rw [← hdsI, hsm, Int.toNat_natCast] at hdx
    have o16' : Off ((l, PySem.W.listOf vs.toArray c) :: (it, oi') :: (D, PySem.W.listOf ws.toArray 0) :: tA3) 16 := by
      intro p hp
      rcases List.mem_cons.mp hp with rfl | hp
      · refine neN ?_; dsimp only; omega
      rcases List.mem_cons.mp hp with rfl | hp
      · refine neN ?_; dsimp only; omega
      rcases List.mem_cons.mp hp with rfl | hp
      · refine neN ?_; have := ltN lD.2; dsimp only; omega
      · exact hTA3.off (P := 23) (neN (by decide)) (by decide) p hp
    refine C_cut (fun s' => s'.gens = s₁.gens ∧ s'.os = s₁.os ∧ ∃ (t tr tt tl th : Tok) (u : Str → Option Value) (tB' : List (Addr × Obj)), Tab 16 (5 : Nat) (4 : Nat) (Str.ofString "_int2digits.<locals>.inner") tB' ∧
      Fr g0 s₁.heap.objs.size s'.heap (fun y => if y = Str.ofString "here" then some (Value.int x th) else if y = Str.ofString "left" then some (Value.int (josOf q) tl) else if y = Str.ofString "turned" then some (Value.bytes b' tt) else if y = Str.ofString "row" then some (Value.bytes b tr) else if y = Str.ofString "figures" then some (Value.ref l) else if y = Str.ofString "many" then some (Value.int q t) else u y) ∧ News g0 s₁.heap.objs.size s'.heap ((l, PySem.W.listOf vs.toArray c) :: (it, oi') :: (D, PySem.W.listOf ws.toArray 0) :: (tA3 ++ tB'))) ?_ ?_
    · repeat' ((fail_if_success (with_reducible show wpAny _ _ (call (Value.ref _) _ _) _ _ _)); first | (k_unfold; (try dsimp only)) | (k_end; wrow_close) | walk1 | (dsimp only; walk1) | (leave1; walk_say "STEP leave1"; try dsimp only) | fail "no step")
      k_dflt (refine' i2d_ok _ _ _ _ _ _ _ _ _ _ _ _ _ _ tB2 ((l, PySem.W.listOf vs.toArray c) :: (it, oi') :: (D, PySem.W.listOf ws.toArray 0) :: tA3) _ kx _ _ _ _ _ ?k1 ?k2 ?k3 ?k4 hTB2 o16' ?k5 ?kK hkx12.1 hkx12.2 ?kk hc20 ?kd ?ku ?_; (case k1 => k_asm); (case k2 => k_asm); (case k3 => k_asm); (case k4 => exact cb_drop (by k_asm) (by intro q hq; simp only [List.mem_append, List.mem_cons, List.not_mem_nil, or_false] at hq ⊢; grind)); (case k5 => k_asm); (case kK => exact rfl); (case kk => omega); (case kd => exact (by decide +kernel)); (case ku => exact (by decide +kernel)))
      intro tB' l2 vs2 c2 h5 tk5 hTB' hl1 hl2 hl3 hI5 F5 N5
      replace N5 : News g0 _ _ ((l2, PySem.W.listOf vs2.toArray c2) :: (l, PySem.W.listOf vs.toArray c) :: (it, oi') :: (D, PySem.W.listOf ws.toArray 0) :: (tA3 ++ tB')) := cb_drop N5 (by intro q hq; simp only [List.mem_append, List.mem_cons, List.not_mem_nil, or_false] at hq ⊢; grind)
      rw [hdx] at hI5
      repeat' ((fail_if_success (with_reducible show wpAny _ _ (call (Value.ref _) _ _) _ _ _)); (fail_if_success (with_reducible show wpAny _ _ (binaryOp Operator.Mult (Value.ref _) _) _ _ _)); first | (k_unfold; (try dsimp only)) | (k_end; wrow_close) | walk1 | (dsimp only; walk1) | (leave1; walk_say "STEP leave1"; try dsimp only) | fail "no step")
      rw [hsm]
      repeat' ((fail_if_success (with_reducible show wpAny _ _ (call (Value.ref _) _ _) _ _ _)); first | (k_unfold; (try dsimp only)) | (k_end; wrow_close) | walk1 | (dsimp only; walk1) | (leave1; walk_say "STEP leave1"; try dsimp only) | fail "no step")
      · rename Fr _ _ _ _ => F8
        rename News _ _ _ _ => N8
        exact ⟨rfl, e1, e2, _, _, _, _, _, _, tB', hTB', F8, cb_drop N8 (by intro q hq; simp only [List.mem_append, List.mem_cons, List.not_mem_nil, or_false] at hq ⊢; grind)⟩
      · rename ¬ (List.replicate sm 1 = _) => h9
        exact absurd (by rw [List.flatten_replicate_singleton, Int.toNat_natCast]) h9
    clear F2 N2 e1 e2
    rintro s ⟨e1, e2, t2, tr, tt, tl, th, u2, tB3, hTB3, F2, N2⟩
    have hg5 := hgd.2.2.2.1
    have hg6 := hgd.2.2.2.2.1
    have hjq := josOf_eq hq1.1
    rw [← hjq, ← hdsI] at hg5 hg6
    refine C_cut (fun s' => s'.gens = s₁.gens ∧ s'.os = s₁.os ∧ ∃ (m : Str → Option Value), 
      Fr g0 s₁.heap.objs.size s'.heap m ∧ News g0 s₁.heap.objs.size s'.heap ((l, PySem.W.listOf vs.toArray c) :: (it, oi') :: (D, PySem.W.listOf ws.toArray 0) :: (tA3 ++ tB3))) ?_ ?_
    · have hb5 : (josOf q == 1) = (ds.sum == 1) := by rw [Bool.eq_iff_iff]; simpa using hg5
      have hb6 : (josOf q == q) = (ds.sum == (ds.length : Int)) := by rw [Bool.eq_iff_iff]; simpa using hg6
      k_steps
      · rename (_ != _) = true => h9
        exfalso
        first
          | (rw [hb5, bne_self_eq_false] at h9; cases h9)
          | (rw [hb6, bne_self_eq_false] at h9; cases h9)
      · rename (_ != _) = true => h9
        exfalso
        first
          | (rw [hb6, bne_self_eq_false] at h9; cases h9)
          | (rw [hb5, bne_self_eq_false] at h9; cases h9)
      · rename Fr _ _ _ _ => F8
        rename News _ _ _ _ => N8
        exact ⟨rfl, e1, e2, _, F8, N8⟩
    clear F2 N2 e1 e2
    rintro s ⟨e1, e2, m2, F2, N2⟩
    refine C_nil ?_
    dsimp only
    exact ⟨e1, e2, oi', m2, tA3, tB3, c1', c2', hTA3, hTB3, hTA3.off_it N2 (by intro q hq; simp only [List.mem_append, List.mem_cons, List.not_mem_nil, or_false] at hq ⊢; grind) (by simp) c2' (neN (by omega)), hTB3.off_it N2 (by intro q hq; simp only [List.mem_append, List.mem_cons, List.not_mem_nil, or_false] at hq ⊢; grind) (by simp) c2' (neN (by omega)), F2, cb_drop N2 (by intro q hq; simp only [List.mem_append, List.mem_cons, List.not_mem_nil, or_false] at hq ⊢; grind)⟩
  · rintro s h' ⟨e1, e2, oi, m, tA, tB, c1, c2, hTA, hTB, oA, oB, F, N⟩ hx
    have hn : g0.get? it = none := (N (it, oi) (by simp)).2.2
    have F1 := ext_fr F hx (by rw [hite]; exact Nat.ne_of_lt nIt) hn
    have hDit : @Ne Nat D it := by
      have := (N6 (D, _) (.head _)).1
      have := Heap.lt_size this
      rw [hite]; exact Nat.ne_of_lt this
    have N1 : News g0 s₁.heap.objs.size h' (tA ++ tB) := ext_news (cb_drop N (by intro q hq; simp only [List.mem_append, List.mem_cons, List.not_mem_nil, or_false] at hq ⊢; grind)) hx (fun q hq => (List.mem_append.mp hq).elim (oA q) (oB q))
    clear F N
    refine C_nil ?_
    dsimp only
    refine leafC ?_
    walk1
    walk1
    walk1
    refine ⟨.bool true, rfl, ⟨.inl ⟨.bool true, .bool true, [], rfl, fun _ => rfl, .bool true, ?_, ?_⟩, F1.keep, e2, e1.trans hg⟩, hTA.grown N1 (fun q hq => List.mem_append_left _ hq), hTB.grown N1 (fun q hq => List.mem_append_right _ hq), trivial⟩
    · exact postW_of (by wrow_shape) (by wtm_val) (by str_meet; first | done | w_fin)
    · exact fun _ => ⟨List.nodup_nil, fun a ha => nomatch ha⟩
  · refine ⟨rfl, rfl, { cls := .type "list_iterator", data := .fields #[.ref D, .int 0 0] }, _, [(23, tabObj #[])], [(16, tabObj #[])], rfl, rfl, .new, .new, ?_, ?_, F6.push _, ?_⟩
    · intro q hq; rw [List.mem_singleton.mp hq]; refine neN ?_; dsimp only; omega
    · intro q hq; rw [List.mem_singleton.mp hq]; refine neN ?_; dsimp only; omega
    · have N' := new_news F6 N6 (h' := h6.push { cls := .type "list_iterator", data := .fields #[.ref D, .int 0 0] }) (fun _ _ e => Heap.get?_push_of_some _ e) (Heap.get?_push_size _ rfl)
      rw [← hite] at N'
      exact cb_drop N' (by intro q hq; simp only [List.mem_append, List.mem_cons, List.not_mem_nil, or_false] at hq ⊢; grind)
end Mine
end

theorem PySem.Challenge.cw_zx0001_01_holds : PySem.Challenge.rw_zx0001_01.Holds := by
  exact Mine.law_holds
