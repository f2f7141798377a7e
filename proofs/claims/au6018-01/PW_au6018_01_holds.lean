import PyProof.Rows.All
import Wide.All
import OpenK.AllK
import Wide.FinOn
import PySem.Challenge.RW_au6018_01
set_option Elab.async false
set_option linter.all false

section
open PySem PySem.W PySem.Calls PyProof.Rows
set_option Elab.async false
set_option maxRecDepth 100000
set_option maxHeartbeats 4000000
namespace Mine
def calm (c : Code) : Prop := ∀ a, c ≠ .builtin "lifetime.gc.finalise" a
def CalmBelow (Γ : Ctx) : Prop := ∀ x ∈ Γ.below, calm x.1
def CalmCtx (Γ : Ctx) : Prop := calm Γ.code ∧ CalmBelow Γ
def wpS {α : Type} (M : Model) (A : Around) (t : Sem α) (Q : α → Shared → Prop) (E : Value → Shared → Prop) (s : Shared) : Prop :=
  ∀ Γ p, Γ.In A → CalmCtx Γ → Sem.wp M Γ t (fun a _ s' => Q a s') (fun e _ s' => E e s') p s
def codeS (M : Model) (A : Around) (c : Code) (R : Result → Shared → Prop) (s : Shared) : Prop :=
  ∀ Γ p, Γ.code = c → Γ.Below A → CalmBelow Γ → wpCode M Γ R p s
section
variable {α β : Type} {M : Model} {A : Around} {E : Value → Shared → Prop} {s : Shared}
theorem wpS.of {t : Sem α} {Q : α → Shared → Prop} (h : wpAny M A t Q E s) : wpS M A t Q E s := fun Γ p hΓ _ => h Γ p hΓ
theorem codeS.of {c : Code} {R : Result → Shared → Prop} (h : codeAny M A c R s) : codeS M A c R s := fun Γ p hc hΓ _ => h Γ p hc hΓ
theorem wpS_pure {a : α} {Q : α → Shared → Prop} (h : Q a s) : wpS M A (pure a) Q E s := fun _ _ _ _ => h
theorem wpS_mono {t : Sem α} {Q Q' : α → Shared → Prop} {E' : Value → Shared → Prop} (h : wpS M A t Q E s) (hQ : ∀ a s, Q a s → Q' a s) (hE : ∀ e s, E e s → E' e s) : wpS M A t Q' E' s :=
  fun Γ p hΓ hc => Sem.wp_mono M Γ t (fun a _ s => hQ a s) (fun e _ s => hE e s) p s (h Γ p hΓ hc)
theorem wpS_bindS {m : Sem α} {f : α → Sem β} {Q : β → Shared → Prop} (h : wpS M A m (fun a s' => wpS M A (f a) Q E s') E s) : wpS M A (m >>= f) Q E s := fun Γ p hΓ hc => by
  rw [Sem.wp_bind']
  exact Sem.wp_mono M Γ m (fun a p' s' h' => h' Γ p' hΓ hc) (fun _ _ _ h' => h') p s (h Γ p hΓ hc)
theorem wpS_bind {m : Sem α} {f : α → Sem β} {Q : β → Shared → Prop} (h : wpAny M A m (fun a s' => wpS M A (f a) Q E s') E s) : wpS M A (m >>= f) Q E s := wpS_bindS (.of h)
theorem wpS_onRaise {m : Sem α} {k : Value → Sem Unit} {Q : α → Shared → Prop} (h : wpS M A m Q (fun e s' => wpS M A (k e) (fun _ s'' => E e s'') E s') s) : wpS M A (m.onRaise k) Q E s := fun Γ p hΓ hc => by
  rw [Sem.wp_onRaise]
  exact Sem.wp_mono M Γ m (fun _ _ _ h' => h') (fun e p' s' h' => h' Γ p' hΓ hc) p s (h Γ p hΓ hc)
theorem wpS_attempt {m : Sem α} {Q : Except Value α → Shared → Prop} (h : wpS M A m (fun a => Q (.ok a)) (fun e => Q (.error e)) s) : wpS M A m.attempt Q E s := fun Γ p hΓ hc => by
  rw [Sem.wp_attempt]; exact h Γ p hΓ hc
theorem wpS_holding {vs : List Value} {m : Sem α} {Q : α → Shared → Prop} (h : wpS M A m Q E s) : wpS M A (holding vs m) Q E s := fun Γ p hΓ hc => by
  rw [Sem.wp_holding]; exact h Γ p hΓ hc
theorem wpS_tryCatch {m : Sem α} {k : Value → Sem α} {Q : α → Shared → Prop} (h : wpS M A m Q (fun e s' => wpS M A (k e) Q E s') s) : wpS M A (tryCatch m k) Q E s := fun Γ p hΓ hc => by
  rw [Sem.wp_tryCatch']
  exact Sem.wp_mono M Γ m (fun _ _ _ h' => h') (fun e p' s' h' => h' Γ p' hΓ hc) p s (h Γ p hΓ hc)
theorem wpS_stack {Q : List (Code × Pos) → Shared → Prop} (h : ∀ st : List (Code × Pos), (∀ x ∈ st, calm x.1) → Q st s) : wpS M A stack Q E s := fun Γ p _ hc => by
  show Q ((Γ.code, p) :: Γ.below) s
  refine h _ fun x hx => ?_
  rcases List.mem_cons.mp hx with rfl | hx
  · exact hc.1
  · exact hc.2 x hx
theorem calm_enter {Γ : Ctx} {c : Code} {h : Option Value} {p : Pos} (hc : CalmCtx Γ) : CalmBelow (Γ.enter c h p) := fun x hx => by
  rcases List.mem_cons.mp hx with rfl | hx
  · exact hc.1
  · exact hc.2 x hx
theorem wpS_run {c : Code} {h : Option Value} {Q : Flow → Shared → Prop} (hc : codeS M (A.mark h) c (fun r s' => match r with | .ok f => Q f s' | .error e => E e s') s) (hnb : h ≠ some byPass := by intro x; cases x) : wpS M A (run c h) Q E s :=
  fun Γ p hΓ hk => by rw [Sem.wp_run]; exact hc _ p rfl (hΓ.enter c h p hnb) (calm_enter hk)
theorem wpS_runValue {c : Code} {Q : Value → Shared → Prop} (hc : codeS M A c (fun r s' => match r with | .ok (.ret v) => Q v s' | .ok _ => False | .error e => E e s') s) : wpS M A (runValue c) Q E s :=
  fun Γ p hΓ hk => by rw [Sem.wp_runValue]; exact hc _ p rfl (hΓ.enter c none p (by intro x; cases x)) (calm_enter hk)
theorem wpS_call {f : Value} {pos : List Value} {kw : List (Str × Value)} {Q : Value → Shared → Prop} (hc : codeS M A (.call f ⟨pos, kw⟩) (fun r s' => match r with | .ok (.ret v) => Q v s' | .ok _ => False | .error e => E e s') s) :
    wpS M A (call f pos kw) Q E s := wpS_runValue hc
theorem codeS_mono {c : Code} {R R' : Result → Shared → Prop} (h : codeS M A c R s) (hR : ∀ r s, R r s → R' r s) : codeS M A c R' s := fun Γ p hc hΓ hk => wpCode_mono hR (h Γ p hc hΓ hk)
theorem codeS_of_tree {c : Code} {R : Result → Shared → Prop} (hcalm : calm c)
    (h : wpS M (A.under c) (M.den c) (fun fin s' => match fin with | .done f => R (.ok f) s' | .again c' => c'.quiet = true ∧ codeS M A c' R s') (fun e s' => R (.error e) s') s) : codeS M A c R s := fun Γ p hc hΓ hk => by
  rw [wpCode_iff_wp, hc]
  refine Sem.wp_mono M Γ _ (fun fin p' s' h' => ?_) (fun _ _ _ h' => h') p s (h Γ p (hc ▸ hΓ.in) ⟨hc ▸ hcalm, hk⟩)
  cases fin with
  | done f => exact h'
  | again c' => exact ⟨h'.1, h'.2 (Γ.goto c') p' rfl (hΓ.goto c') hk⟩
theorem codeS_of_in1 {c : Code} {R : Result → Shared → Prop} (h : codeS M A.in1 c R s) : codeS M A c R s :=
  fun Γ p hc hΓ => h Γ p hc ⟨hΓ.1, hΓ.2.1, hΓ.2.2.1, hΓ.2.2.2.1, Nat.le_succ_of_le hΓ.2.2.2.2⟩
end
end Mine
end

section
open PySem PySem.W PySem.Calls PyProof.Rows
set_option Elab.async false
set_option maxRecDepth 100000
set_option maxHeartbeats 8000000
namespace Mine
theorem calm_caller : CalmCtx ⟨.builtin "claim.caller" {}, none, none, [], none⟩ := ⟨fun a e => by injection e with e _; exact absurd e (by decide), fun x hx => nomatch hx⟩

theorem ends_S {prog : Program} {w : World} {t : Sem PySem.Fin} {s : Shared} {R : Result → Shared → Prop} (hreg : s.asleep)
    (h : wpS (model prog w) callerA t (fun fin s' => ∃ f, fin = .done f ∧ R (.ok f) s' ∧ AllBare s'.gens) (fun e s' => R (.error e) s' ∧ AllBare s'.gens) s) :
    ∃ n r s' s'', runN (denote table) prog w n s ⟨t, .builtin "claim.caller" {}, default, []⟩ = .halted (outcomeOf r) s' ∧
      schedN (denote table) prog w n (.single s ⟨t, .builtin "claim.caller" {}, default, []⟩) = .halted (outcomeOf r) s' ∧ s'.forget = s''.forget ∧ R r s'' := by
  obtain ⟨n, r, s₁, s₂, hs, hn, hfo, hR⟩ := wp_halts_full (M := model prog w) (R := R) (c := .builtin "claim.caller" {}) (t := t) (p := default) hreg (Sem.wp_mono _ _ t (fun fin p' s' h' => by
    obtain ⟨f, rfl, a, b⟩ := h'
    exact ⟨a, leftWithCleanup_false_of_bare b⟩) (fun e _ s' h' => ⟨h'.1, leftWithCleanup_false_of_bare h'.2⟩) default s (h _ default caller_in calm_caller))
  exact ⟨n, r, s₂, s₁, hn, hs, hfo, hR⟩

theorem callFrom_S {c : ClaimW} {tree : List Value → Sem PySem.Fin} {w : World} {s : Shared} {free : Addr → Prop} {gens : Prop} {kept : Heap → Prop} (hz : s.asleep) (hgens : s.gens = #[])
    (hspec : ∀ args, c.pre args = true → WData.layableAll args = true → ∀ ord : List DictEntry → List DictEntry, (∀ l, (ord l).Perm l) →
      ∃ vs s₁, layAllW c.records (classAt s.heap) w.params ord args s = some (vs, s₁) ∧
        wpS (model c.prog w) callerA (tree vs) (fun fin s' => ∃ f, fin = .done f ∧ (c.Ends s args vs s₁ (.ok f) s' ∧ s'.os = s.os ∧ kept s'.heap) ∧ AllBare s'.gens)
          (fun e s' => (c.Ends s args vs s₁ (.error e) s' ∧ s'.os = s.os ∧ kept s'.heap) ∧ AllBare s'.gens) s₁) :
    c.CallFrom (fun vs => ⟨tree vs, .builtin "claim.caller" {}, default, []⟩) w free gens kept s := by
  intro args hpre hlay ord hord
  obtain ⟨vs, s₁, hlaid, hcode⟩ := hspec args hpre hlay ord hord
  have hal := layAllW_rest _ _ _ hlaid
  obtain ⟨k, r, s', s'', hrun, hsched, hfo, hcase, hos, hkp⟩ := ends_S (prog := c.prog) (R := fun r s' => c.Ends s args vs s₁ r s' ∧ s'.os = s.os ∧ kept s'.heap) (Shared.asleep_of_life hal.2.2.2 hz) hcode
  obtain ⟨eh, _, _, eo, _⟩ := Shared.forget_eq hfo
  have hcase := hcase.congr eh
  have hkp : kept s'.heap := by rw [eh]; exact hkp
  have hlife : s'.heap.life = s.heap.life := (runN_life _ _ _ hrun).trans hal.2.2.2
  refine ⟨vs, s₁, hlaid, k, _, s', hsched, ?_, (fun _ i x hx => by rw [hgens] at hx; simp at hx), hkp, by rw [hlife], Shared.rest_eq (eo.trans hos)⟩
  rcases hcase with ⟨v, rfl, d1, d2, d3, d4, d5⟩ | ⟨e, ob, cls, rfl, d1, d2, d3, d4, d5⟩
  · exact .inl ⟨v, rfl, d1, d2, d3, fun b o y _ => d4 b o y, d5⟩
  · exact .inr ⟨e, ob, cls, rfl, d1, d2, d3, d4, fun b o y _ => d5 b o y⟩

abbrev WalkS (q : Program) (loose : List Str) (XP : (Str → Option Value) → Heap → Prop) (YP : World → Heap → Prop) (r : RowW) (d : DefRec) (kwd : List (Str × Expr)) : Prop :=
  ∀ (w : World) (s₀ s₁ : Shared) (mg mb : Str → Option Value), Ground q loose r.records XP w s₀ mg mb s₁.heap → YP w s₁.heap → ∀ (a : Addr) (o : Obj) (pm cd doc dV kV : Value), s₁.heap.get? a = some o →
    o.data = .func { docDef d.name d.params d.body d.scope pm cd doc with defaults := dV, kwdefaults := kV } → s₁.heap.CodeRec cd d.name → Dflts mg s₁.heap d.params kwd dV kV → mg d.name = some (.ref a) → s₁.gens = #[] →
    ∀ (args : List WData) (vals : List Value) (as : List Addr), r.claim.pre args = true → WData.layableAll args = true → ReadsAllW r.records (classAt s₀.heap) s₁.heap vals args as → WellAll w.params s₁.heap vals args → (∀ a ∈ as, (a == sysModules) = false) →
      wpS (model r.prog w) callerA (PySem.call (.ref a) vals) (fun v s' => GoodWG r.claim (classAt s₀.heap) (ExcName.means s₀.heap) args s₁ (.ok (.ret v)) s')
        (fun e s' => GoodWG r.claim (classAt s₀.heap) (ExcName.means s₀.heap) args s₁ (.error e) s') s₁

theorem PySem.W.holds_open {r : OpenRow} {q : Program} {loose : List Str} {Xt : Shared → Bool} {XP : (Str → Option Value) → Heap → Prop} {α : Type} {Yf : Shared → α} {Ya : World → α} {YP : World → Heap → Prop} {d : DefRec} {kwd : List (Str × Expr)} {N : Nat}
    (left : LeftO r.prog q loose Xt Yf Ya N) (hY : ∀ w s, Yf s = Ya w → YP w s.heap) (hYk : ∀ w h h', YP w h → (∀ b o, h.get? b = some o → h'.get? b = some o) → YP w h')
    (hX : ∀ s, Xt s = true → XP (s.heap.nsMap mainGlobals) s.heap) (hXk : ∀ mg h h', XP mg h → (∀ b o, h.get? b = some o → h'.get? b = some o) → XP mg h')
    (hdef : defOf q r.name = some (d, kwd)) (hp : r.prog.theDef r.name = some (d.params, d.body, d.scope)) (hk : kwWritten? d.params.kwonlyargs d.params.kw_defaults = some kwd) (hRf : ∀ s, Xt s = true → RecFacts r.records s.heap) (hwr : (!r.writes || r.records.isEmpty) = true)
    (k1 : r.wellSaid = true) (ok : (chainsOk q && opensWell r.prog && (frees r.toRowW && r.within.isEmpty)) = true) (hb : r.prog.bare) (hw : r.toRowW.promised)
    (call : WalkS q loose XP YP r.toRowW d kwd) : r.Holds := by
  refine ⟨k1, hw, ?_⟩
  obtain ⟨ok, k5⟩ := Bool.and_eq_true_iff.mp ok
  obtain ⟨hch, o1⟩ := Bool.and_eq_true_iff.mp ok
  obtain ⟨k5, k6⟩ := Bool.and_eq_true_iff.mp k5
  obtain ⟨hsame, hu, ha, hap, hm⟩ := frees_parts k5
  refine ⟨⟨hb, o1, by show r.toRowW.makers.map _ = []; rw [hm]; rfl⟩, hw.witness, fun w => ⟨(left.behind hX hch w).1, fun s' hs' => ?_⟩⟩
  obtain ⟨s₀, hf, hg0, s, hT, hz, hgens, hg, G00, y⟩ := (left.behind (XP := fun mg h => XP mg h ∧ RecFacts r.records h) (fun s hs => ⟨hX s hs, hRf s hs⟩) hch w).2 s' hs'
  have G0 : Ground q loose [] XP w s (s.heap.nsMap mainGlobals) (s.heap.nsMap builtinsNs) s.heap := ⟨G00.T, G00.B, G00.D, G00.TE, G00.TD, G00.W, G00.X.1, G00.cls, G00.has, G00.apart, G00.once, G00.K⟩
  have RF := G00.X.2
  have hT' := hT
  refine ⟨s₀, hf, hg0, s, hT, fun n hn => ?_, RF.1, RF.2.1, ?_⟩
  · obtain rfl : n = r.name := by split at hn <;> simp_all
    exact pinned_of_view hg G0 hdef hp hk
  have hgens : s.gens = #[] := Array.eq_empty_of_size_eq_zero (beq_iff_eq.mp hgens)
  have G : Ground q loose r.records XP w s _ _ s.heap := RF.ground G0
  refine callFrom_S (c := r.toRowW.claim) (tree := fun vs => do match ← nsGet mainNs r.name with
      | some f => do ret (← PySem.call f vs)
      | none => unsupported "claim.caller:no-such-global") hz hgens fun args hpre hlay ord hord => ?_
  obtain ⟨⟨vs, s₁⟩, hlaid⟩ := Option.isSome_iff_exists.mp (layAllW_isSome (P := w.params) (ord := ord) G.has args r.toRowW.args s (pre_splitW hpre).1)
  have keeps := layAllW_keeps _ _ _ hlaid
  have hal := layAllW_rest _ _ _ hlaid
  obtain ⟨as, hrd, hin, hold⟩ := reads_layAllW hord _ _ _ hlaid hlay s₁.heap (fun _ _ e => e)
  have L : Laid r.toRowW.records w s s₁ args vs as := ⟨⟨ord, hord, hlaid⟩, hrd, hin, hold, keeps, hal.1.trans hgens, hal.2.2.1⟩
  have G₁ := G.keeps hXk keeps
  obtain ⟨a, o, pm, cd, doc, dV, kV, h1, h2, h3, h4, h5⟩ := G₁.fn hdef
  have h := call w s s₁ _ _ G₁ (hYk _ _ _ (hY w s y) keeps) a o pm cd doc dV kV h2 h3 h4 h5 (defOf_name hdef ▸ h1) L.gens args vs as hpre hlay L.reads L.well (L.low G.low)
  have hi := ident_freeW hu ha hap
  have hwi : r.toRowW.claim.within = [] := List.isEmpty_iff.mp k6
  refine ⟨vs, s₁, hlaid, wpS_bind (wpAny_nsGet G₁.T.g ?_)⟩
  rw [h1]
  refine wpS_bindS (wpS_mono h (fun v s' g => wpS_pure ⟨_, rfl, ?_⟩) fun e s' g => ?_)
  · have z := g.laid (c := r.toRowW.claim) hsame hwi hi L
    exact ⟨⟨z.1, z.2.1, fun q => ⟨namesKept_of hT' hg r.keeps keeps g.2.1.old, noTable hwr q⟩⟩, z.2.2⟩
  · have z := g.laid (c := r.toRowW.claim) hsame hwi hi L
    exact ⟨⟨z.1, z.2.1, fun q => ⟨namesKept_of hT' hg r.keeps keeps g.2.1.old, noTable hwr q⟩⟩, z.2.2⟩
end Mine
end

section
open PySem PySem.W PyProof.Rows
set_option Elab.async false
set_option maxRecDepth 100000
set_option maxHeartbeats 8000000
namespace Mine
open_top hd for PySem.Challenge.rw_au6018_01
end Mine
end

section
open PySem PySem.W PySem.Calls PyProof.Rows
set_option Elab.async false
set_option maxRecDepth 100000
set_option maxHeartbeats 4000000
namespace Mine

def Mv (D : List Addr) (h h' : Heap) : Prop := ∀ b o, b ∉ D → h.get? b = some o → h'.get? b = some o
theorem Mv.refl {D : List Addr} {h : Heap} : Mv D h h := fun _ _ _ e => e
theorem Mv.trans {D : List Addr} {h h' h'' : Heap} (a : Mv D h h') (b : Mv D h' h'') : Mv D h h'' := fun x o n e => b x o n (a x o n e)
theorem Mv.ext {D : List Addr} {h h' : Heap} {b : Addr} (hs : Heap.ExtBut b h h') (hb : b ∈ D) : Mv D h h' := fun x o n e => hs x o (fun q => n (q ▸ hb)) e
theorem Mv.same {D : List Addr} {h h' : Heap} {b : Addr} (hs : Heap.SameBut b h h') (hb : b ∈ D) : Mv D h h' := Mv.ext hs.extBut hb
theorem Mv.keep {D : List Addr} {h h' : Heap} (hk : ∀ b o, h.get? b = some o → h'.get? b = some o) : Mv D h h' := fun b o _ e => hk b o e
theorem Mv.push {D : List Addr} {h : Heap} (o : Obj) : Mv D h (h.push o) := fun _ _ _ e => Heap.get?_push_of_some _ e
theorem Mv.new {D : List Addr} {h h' : Heap} (hs : Heap.ExtBut h.objs.size h h') : Mv D h h' := fun x o _ e => hs x o (Nat.ne_of_lt (Heap.lt_size e)) e
theorem Mv.sub {D D' : List Addr} {h h' : Heap} (a : Mv D h h') (hs : ∀ x ∈ D, x ∈ D') : Mv D' h h' := fun b o n e => a b o (fun q => n (hs b q)) e
theorem newOf {h h' : Heap} (hs : Heap.ExtBut h.objs.size h h') : ∀ b o, h.get? b = some o → h'.get? b = some o := fun x o e => hs x o (Nat.ne_of_lt (Heap.lt_size e)) e

theorem plt_lt {h : Heap} {a : Addr} {vs : Array Value} (x : h.PlainList a vs) : a < h.objs.size := let ⟨_, e⟩ := x; Heap.lt_size e
theorem pl_list {h : Heap} {a : Addr} {vs : Array Value} (x : h.PlainList a vs) : h.IsList a vs := let ⟨n, e⟩ := x; ⟨_, e, rfl, n, rfl⟩
theorem pl_mv {D : List Addr} {h h' : Heap} {a : Addr} {vs : Array Value} (x : h.PlainList a vs) (m : Mv D h h') (ha : a ∉ D) : h'.PlainList a vs := let ⟨n, e⟩ := x; ⟨n, m _ _ ha e⟩
theorem pl_ext {b : Addr} {h h' : Heap} {a : Addr} {vs : Array Value} (x : h.PlainList a vs) (m : Heap.ExtBut b h h') (ha : a ≠ b) : h'.PlainList a vs := let ⟨n, e⟩ := x; ⟨n, m _ _ ha e⟩
theorem pl_keep {h h' : Heap} {a : Addr} {vs : Array Value} (x : h.PlainList a vs) (m : ∀ b o, h.get? b = some o → h'.get? b = some o) : h'.PlainList a vs := let ⟨n, e⟩ := x; ⟨n, m _ _ e⟩
theorem pl_new (h : Heap) (vs : Array Value) : (h.push { cls := .type "list", data := .seq vs }).PlainList h.objs.size vs := ⟨0, Heap.get?_push_size _ rfl⟩
theorem pl_upd {h : Heap} {a : Addr} {vs : Array Value} (x : h.PlainList a vs) (f : Array Value → Array Value) : (h.update a (Obj.mapSeq f)).PlainList a (f vs) := let ⟨_, e⟩ := x; ⟨_, get?_update_seq e f⟩

section
variable {prog : Program} {w : World} {A : Around} {E : Value → Shared → Prop} {s : Shared}

theorem pl_method {a : Addr} {vs : Array Value} {name : Str} {id : String} {pl : Sem Bool} {Q : Value × List Value → Shared → Prop} (hp : s.heap.PlainList a vs) (slot : Slot "list" name id)
    (hty : typeOf (.builtin id) = pure (.type "method_descriptor")) (h : Q (.builtin id, [.ref a]) s) : wpAny (model prog w) A (getMethod (.ref a) name pl) Q E s :=
  let ⟨_, e⟩ := hp
  getMethod_builtin ⟨_, e, rfl⟩ PySem.F.plainAttrs_list slot hty (fun b q => by cases q; exact ⟨_, e, rfl⟩) h

theorem pl_pop {a : Addr} {vs : List Value} {y : Value} {Q : Value → Shared → Prop} (hp : s.heap.PlainList a (vs ++ [y]).toArray) (hz : vs.length ≤ 1000)
    (h : ∀ h', h'.PlainList a vs.toArray → Heap.SameBut a s.heap h' → Q y { s with heap := h' }) : wpAny (model prog w) A (call (.builtin "list.pop") [.ref a]) Q E s := by
  obtain ⟨n, ho⟩ := id hp
  have hz' : (vs ++ [y]).toArray.size ≤ sizeLine := by rw [sizeLine_eq]; simp; omega
  have hk : (vs ++ [y]).toArray.size - 1 = vs.length := by rw [List.size_toArray, List.length_append]; rfl
  have hy : (vs ++ [y]).toArray[(vs ++ [y]).toArray.size - 1]? = some y := by rw [hk]; simp
  refine call_meets PySem.F.slot_list_pop ⟨_, ho, rfl⟩ PySem.F.entry_list_pop (PySem.F.args_list_pop_1 _) (PySem.MeetsSeq.list_pop_last a _ n y hy hz') ⟨ho, h _ ?_ (Heap.SameBut.update ..)⟩
  have q := pl_upd hp (fun xs => xs.eraseIdxIfInBounds ((vs ++ [y]).toArray.size - 1))
  rw [hk] at q ⊢
  have e : (vs ++ [y]).toArray.eraseIdxIfInBounds vs.length = vs.toArray := by rw [kl_erase, List.append_nil]
  rw [e] at q
  exact q

theorem pl_pop0 {a : Addr} {vs : List Value} {y : Value} {u : Tok} {Q : Value → Shared → Prop} (hp : s.heap.PlainList a (y :: vs).toArray) (hz : vs.length ≤ 1000)
    (h : ∀ h', h'.PlainList a vs.toArray → Heap.SameBut a s.heap h' → Q y { s with heap := h' }) : wpAny (model prog w) A (call (.builtin "list.pop") [.ref a, .int 0 u]) Q E s := by
  obtain ⟨n, ho⟩ := id hp
  have hz' : (y :: vs).toArray.size ≤ sizeLine := by rw [sizeLine_eq]; simp; omega
  have hk : seqIndex? 0 (y :: vs).toArray.size = some 0 := by simp [seqIndex?]
  have hy : (y :: vs).toArray[0]? = some y := by simp
  refine call_meets PySem.F.slot_list_pop ⟨_, ho, rfl⟩ PySem.F.entry_list_pop (PySem.F.args_list_pop_2 _ _) (PySem.MeetsSeq.list_pop_at a _ n 0 u 0 y rfl hk hy hz') ⟨ho, h _ ?_ (Heap.SameBut.update ..)⟩
  have q := pl_upd hp (fun xs => xs.eraseIdxIfInBounds 0)
  have e : (y :: vs).toArray.eraseIdxIfInBounds 0 = vs.toArray := kl_erase [] vs y
  rw [e] at q
  exact q

theorem pl_append {a : Addr} {vs : List Value} {y : Value} {Q : Value → Shared → Prop} (hp : s.heap.PlainList a vs.toArray) (hz : vs.length ≤ 1000)
    (h : ∀ h', h'.PlainList a (vs ++ [y]).toArray → Heap.SameBut a s.heap h' → Q .none { s with heap := h' }) : wpAny (model prog w) A (call (.builtin "list.append") [.ref a, y]) Q E s := by
  refine wpAny_list_append_plain (hsz := by rw [sizeLine_eq]; simp; omega) hp fun h' hl hs => h h' ?_ hs
  have e : vs.toArray.push y = (vs ++ [y]).toArray := by simp
  rw [e] at hl
  exact hl

theorem pl_reverse {a : Addr} {vs : List Value} {Q : Value → Shared → Prop} (hp : s.heap.PlainList a vs.toArray) (hz : vs.length ≤ 1000)
    (h : ∀ h', h'.PlainList a vs.reverse.toArray → Heap.SameBut a s.heap h' → Q .none { s with heap := h' }) : wpAny (model prog w) A (call (.builtin "list.reverse") [.ref a]) Q E s := by
  obtain ⟨n, ho⟩ := id hp
  refine call_meets PySem.F.slot_list_reverse ⟨_, ho, rfl⟩ PySem.F.entry_list_reverse (PySem.F.args_list_reverse_1 _) (PySem.AutoListH.list_reverse_list_0 a _ n (by rw [sizeLine_eq]; simp; omega)) ⟨ho, h _ ?_ (Heap.SameBut.update ..)⟩
  have q := pl_upd hp (fun x => x.reverse)
  have e : vs.toArray.reverse = vs.reverse.toArray := by simp
  rw [e] at q
  exact q

theorem pl_len {a : Addr} {vs : List Value} {Q : Value → Shared → Prop} (hp : s.heap.PlainList a vs.toArray) (hz : vs.length ≤ 1000)
    (h : ∀ t, Q (.int vs.length t) { s with toks := s.toks + 1 + 1 }) : wpAny (model prog w) A (call (.builtin "len") [.ref a]) Q E s := by
  refine len_list (pl_list hp) (by simp; omega) ?_
  have := h (s.toks + 1)
  simpa using this

theorem pl_truthy {a : Addr} {vs : List Value} {Q : Bool → Shared → Prop} (hp : s.heap.PlainList a vs.toArray) (hz : vs.length ≤ 1000)
    (h : Q (!vs.isEmpty) { s with toks := s.toks + 1 + 1 }) : wpAny (model prog w) A (truthy (.ref a)) Q E s := by
  refine wpAny_truthy_list (pl_list hp) (by simp; omega) ?_
  have e : vs.toArray.isEmpty = vs.isEmpty := by simp
  rw [e]; exact h
end
end Mine
end

section
open PySem PySem.W PySem.Calls PyProof.Rows
set_option Elab.async false
set_option maxRecDepth 100000
set_option maxHeartbeats 4000000
namespace Mine
section
variable {prog : Program} {w : World} {A : Around}

abbrev testsOf (ifs : List Expr) (cenv : Env) : Sem Bool := forIn ifs true fun c r => if r = true then do let ok ← isTrue c cenv (eval c cenv); pure (ForInStep.yield ok) else pure (ForInStep.yield r)

theorem loop_u {elt target iter : Expr} {ifs : List Expr} {scope : Scope} {pos : Pos} {it acc : Value} {cenv : Env} {R : Result → Shared → Prop} {s : Shared} (I : Nat → Shared → Prop)
    (turn : ∀ n s E', I n s → wpAny (model prog w) A (pyNext it) (fun r s₁ => match r with
      | none => R (.ok .next) s₁
      | some v => wpAny (model prog w) A (letOwnedTupleGo target it v) (fun _ s₂ => wpAny (model prog w) A (assign target cenv v) (fun _ s₃ =>
          wpAny (model prog w) A (testsOf ifs cenv) (fun ok s₄ =>
            if ok = true then wpAny (model prog w) A (eval elt cenv) (fun x s₅ => wpAny (model prog w) A (call (.builtin "list.append") [acc, x]) (fun _ s₆ => ∃ m, m < n ∧ I m s₆) E' s₅) E' s₄
            else ∃ m, m < n ∧ I m s₄) E' s₃) E' s₂) E' s₁) E' s)
    (n : Nat) (h : I n s) : codeAny (model prog w) A (.compLoop (.ListComp elt [⟨target, iter, ifs, 0⟩] scope pos) 0 it acc cenv) R s := by
  refine codeAny_loop rfl I (fun n s hI => ?_) n h
  show wpAny _ A ((compTurn (.ListComp elt [⟨target, iter, ifs, 0⟩] scope pos) 0 it acc cenv).onRaise (fun x => do noteFrame x cenv; theTreesLotGoes x)) _ _ s
  refine wpAny_noted ?_
  rw [compTurn_list]
  refine wpAny_bind (wpAny_standAt (wpAny_bind (wpAny_mono (turn n s _ hI) (fun r s₁ h₁ => ?_) fun _ _ h' => h')))
  cases r with
  | none => exact wpAny_pure h₁
  | some v =>
    refine wpAny_bind (wpAny_mono h₁ (fun _ s₂ h₂ => wpAny_bind (wpAny_mono h₂ (fun _ s₃ h₃ => wpAny_bind (wpAny_mono h₃ (fun ok s₄ h₄ => ?_) fun _ _ h' => h')) fun _ _ h' => h')) fun _ _ h' => h')
    cases ok with
    | false => exact wpAny_pure ⟨rfl, h₄⟩
    | true => exact wpAny_bind (wpAny_bind (wpAny_mono h₄ (fun x s₅ h₅ => wpAny_bind (wpAny_mono h₅ (fun _ s₆ h₆ => wpAny_pure (wpAny_pure ⟨rfl, h₆⟩)) fun _ _ h' => h')) fun _ _ h' => h'))

def Two (s₂ : Shared) (C D : Nat) : Prop := s₂.heap.objs.size ≤ C ∧ s₂.heap.objs.size ≤ D ∧ C < s₂.heap.objs.size + 2 ∧ D < s₂.heap.objs.size + 2 ∧ C ≠ D

structure CSrc (prog : Program) (w : World) (A : Around) (env : Env) (scope : Scope) (cl : List (Str × Addr)) (target : Expr) (ifs : List Expr) (elt : Expr) (it : Value) (s₂ : Shared) (n : Nat)
    (J : Nat → Heap → List Value → Prop) (Fin : Heap → List Value → Prop) : Prop where
  size : n ≤ 1000
  self : ∀ h tk (Q E' : Value → Shared → Prop), J 0 h [] → Q it { s₂ with heap := h, toks := tk } → wpAny (model prog w) A (pyIter it) Q E' { s₂ with heap := h, toks := tk }
  start : ∀ h', (∀ b o, s₂.heap.get? b = some o → h'.get? b = some o) → J 0 h' []
  turn : ∀ C D i h m ys tk (E' : Value → Shared → Prop), Two s₂ C D → i < n → J i h ys → h.PlainList D ys.toArray → h.Ns C m →
    wpAny (model prog w) A (pyNext it) (fun r s₃ => ∃ v, r = some v ∧ wpAny (model prog w) A (letOwnedTupleGo target it v) (fun _ s₄ => wpAny (model prog w) A (assign target (compEnvC scope cl C env) v) (fun _ s₅ =>
      wpAny (model prog w) A (testsOf ifs (compEnvC scope cl C env)) (fun ok s₆ =>
        if ok = true then wpAny (model prog w) A (eval elt (compEnvC scope cl C env)) (fun x s₇ => ∃ h₇ tk₇ m₇, s₇ = { s₂ with heap := h₇, toks := tk₇ } ∧ h₇.PlainList D ys.toArray ∧ h₇.Ns C m₇ ∧
            ∀ h₈, Heap.SameBut D h₇ h₈ → h₈.PlainList D (ys ++ [x]).toArray → J (i + 1) h₈ (ys ++ [x])) E' s₆
        else ∃ h₆ tk₆ m₆, s₆ = { s₂ with heap := h₆, toks := tk₆ } ∧ h₆.PlainList D ys.toArray ∧ h₆.Ns C m₆ ∧ J (i + 1) h₆ ys) E' s₅) E' s₄) E' s₃) E' { s₂ with heap := h, toks := tk }
  done : ∀ C D h m ys tk (E' : Value → Shared → Prop), Two s₂ C D → J n h ys → h.PlainList D ys.toArray → h.Ns C m →
    wpAny (model prog w) A (pyNext it) (fun r s₃ => r = none ∧ ∃ h₃ tk₃, s₃ = { s₂ with heap := h₃, toks := tk₃ } ∧ h₃.PlainList D ys.toArray ∧ h₃.Ns C m ∧ Fin h₃ ys) E' { s₂ with heap := h, toks := tk }

theorem comp_u {elt target iter : Expr} {ifs : List Expr} {scope : Scope} {cl : List (Str × Addr)} {env : Env} {pos : Pos} {s : Shared} {E Q : Value → Shared → Prop} {use : Option (Value → Sem Unit)} {p0 : Pos}
    (hclos : closureFor scope env = pure cl) (hkind : scope.kind = .function) (hnames : ∀ x ∈ scope.names, x.2 = .local → scope.names.lookup x.1 = some .local) (hcell : ∀ y ∈ scope.names, y.2 ≠ .cell)
    (h : wpAny (model prog w) A (eval iter env) (fun x s₁ => wpAny (model prog w) A (pyIter x) (fun it s₂ => ∃ n J Fin, CSrc prog w A env scope cl target ifs elt it s₂ n J Fin ∧
      (∀ C D h₁ ys tk m, Two s₂ C D → h₁.PlainList D ys.toArray → h₁.Ns C m → ys.length ≤ n → Fin h₁ ys → compPost (model prog w) A E use Q (.ref D) C (.ok .next) { s₂ with heap := h₁, toks := tk })) E s₁) E s)
    (hs : ∀ x, foldedSetIterable iter env x = pure x := by intro _; rfl) :
    wpAny (model prog w) A (comprehension (.ListComp elt [⟨target, iter, ifs, 0⟩] scope pos) scope env p0 (newList []) false (eval iter env) use) Q E s := by
  refine wpAny_comprehension_free (cl := cl) rfl hs hclos hkind hnames (wpAny_mono h (fun x s₁ h₁ => wpAny_mono h₁ (fun it s₂ h₂ => ?_) fun _ _ e => e) fun _ _ e => e)
  obtain ⟨n, J, Fin, S, fin⟩ := h₂
  refine wpAny_newObj_type (wpAny_newFunctionEnv hcell (by intro y hy; simp at hy) (fun h₁ hns₁ hsb₁ => ?_) hkind)
  dsimp only at hns₁ hsb₁ ⊢
  generalize hH2 : s₂.heap.push { cls := .type "list", dict := none, data := .seq ([] : List Value).toArray } = H2 at hns₁ hsb₁ ⊢
  have hC : H2.objs.size = s₂.heap.objs.size + 1 := by rw [← hH2, Heap.size_push]
  have hDC : s₂.heap.objs.size ≠ H2.objs.size := by rw [hC]; exact Nat.ne_of_lt (Nat.lt_succ_self _)
  have hCle : s₂.heap.objs.size ≤ H2.objs.size := by rw [hC]; exact Nat.le_succ _
  have tw : Two s₂ H2.objs.size s₂.heap.objs.size := ⟨hCle, Nat.le_refl _, by rw [hC]; exact Nat.lt_succ_self _, Nat.lt_succ_of_lt (Nat.lt_succ_self _), Ne.symm hDC⟩
  have old : ∀ b o, s₂.heap.get? b = some o → h₁.get? b = some o := fun b o e =>
    hsb₁.extBut b o (by have := Heap.lt_size e; rw [hC]; exact Nat.ne_of_lt (Nat.lt_succ_of_lt this)) (Heap.get?_push_of_some _ (hH2 ▸ Heap.get?_push_of_some _ e))
  have hacc : h₁.PlainList s₂.heap.objs.size ([] : List Value).toArray := ⟨_, hsb₁.extBut _ _ hDC (Heap.get?_push_of_some _ (hH2 ▸ Heap.get?_push_size _ rfl))⟩
  have hJ : J 0 h₁ [] := S.start h₁ old
  have loop : ∀ s₃ : Shared, s₃ = { s₂ with heap := h₁, toks := s₂.toks + ([] : List (Str × Value)).length } →
      codeAny (model prog w) A (.compLoop (.ListComp elt [⟨target, iter, ifs, 0⟩] scope pos) 0 it (.ref s₂.heap.objs.size) (compEnvC scope cl H2.objs.size env))
        (compPost (model prog w) A E use Q (.ref s₂.heap.objs.size) H2.objs.size) s₃ := by
    rintro s₃ rfl
    refine loop_u (fun k s' => ∃ i h tk m ys, s' = { s₂ with heap := h, toks := tk } ∧ k = n - i ∧ i ≤ n ∧ ys.length ≤ i ∧ J i h ys ∧ h.PlainList s₂.heap.objs.size ys.toArray ∧ h.Ns H2.objs.size m) ?_ n
      ⟨0, h₁, _, _, [], rfl, rfl, Nat.zero_le _, Nat.le_refl _, hJ, hacc, hns₁⟩
    rintro k s' E' ⟨i, h, tk, m, ys, rfl, rfl, hi, hys, hj, hp, hn⟩
    by_cases hlt : i < n
    · refine wpAny_mono (S.turn H2.objs.size s₂.heap.objs.size i h m ys tk E' tw hlt hj hp hn) (fun r s₃ h₃ => ?_) fun _ _ e => e
      obtain ⟨v, rfl, h₃⟩ := h₃
      refine wpAny_mono h₃ (fun _ s₄ h₄ => wpAny_mono h₄ (fun _ s₅ h₅ => wpAny_mono h₅ (fun ok s₆ h₆ => ?_) fun _ _ e => e) fun _ _ e => e) fun _ _ e => e
      cases ok with
      | false =>
        simp only [Bool.false_eq_true, if_false] at h₆ ⊢
        obtain ⟨h6, tk6, m6, rfl, a, b, c⟩ := h₆
        exact ⟨n - (i + 1), by omega, i + 1, h6, tk6, m6, ys, rfl, rfl, hlt, by omega, c, a, b⟩
      | true =>
        simp only [if_true] at h₆ ⊢
        refine wpAny_mono h₆ (fun x s₇ h₇ => ?_) fun _ _ e => e
        obtain ⟨h7, tk7, m7, rfl, a, b, c⟩ := h₇
        have hsz := S.size
        refine pl_append a (by omega) fun h8 hl8 hs8 => ?_
        exact ⟨n - (i + 1), by omega, i + 1, h8, tk7, m7, ys ++ [x], rfl, rfl, hlt, by simp; omega, c h8 hs8 hl8, hl8, b.sameBut hs8 (Ne.symm hDC)⟩
    · have : i = n := by omega
      subst this
      refine wpAny_mono (S.done H2.objs.size s₂.heap.objs.size h m ys tk E' tw hj hp hn) (fun r s₃ h₃ => ?_) fun _ _ e => e
      obtain ⟨rfl, h3, tk3, rfl, a, b, c⟩ := h₃
      exact fin _ _ h3 ys tk3 m tw a b hys c
  exact codeAny_compStart_list (loop _ rfl) (S.self _ _ _ _ hJ (loop _ rfl))

theorem ListComp_u {elt target iter : Expr} {ifs : List Expr} {scope : Scope} {cl : List (Str × Addr)} {env : Env} {pos : Pos} {s : Shared} {E Q : Value → Shared → Prop}
    (hclos : closureFor scope env = pure cl) (hkind : scope.kind = .function) (hnames : ∀ x ∈ scope.names, x.2 = .local → scope.names.lookup x.1 = some .local) (hcell : ∀ y ∈ scope.names, y.2 ≠ .cell)
    (h : wpAny (model prog w) A (eval iter env) (fun x s₁ => wpAny (model prog w) A (pyIter x) (fun it s₂ => ∃ n J Fin, CSrc prog w A env scope cl target ifs elt it s₂ n J Fin ∧
      (∀ C D h₁ h₂ ys tk, Two s₂ C D → h₂.PlainList D ys.toArray → ys.length ≤ n → Fin h₁ ys → Heap.SameBut C h₁ h₂ → Q (.ref D) { s₂ with heap := h₂, toks := tk })) E s₁) E s)
    (hs : ∀ x, foldedSetIterable iter env x = pure x := by intro _; rfl) :
    wpAny (model prog w) A (eval (.ListComp elt [⟨target, iter, ifs, 0⟩] scope pos) env) Q E s := by
  rw [eval_ListComp]
  refine comp_u hclos hkind hnames hcell (wpAny_mono h (fun x s₁ h₁ => wpAny_mono h₁ (fun it s₂ h₂ => ?_) fun _ _ e => e) fun _ _ e => e) hs
  obtain ⟨n, J, Fin, S, fin⟩ := h₂
  exact ⟨n, J, Fin, S, fun C D h₁ ys tk m tw hp hn hy hf => ⟨m, hn, fun h' hs' => fin C D h₁ h' ys tk tw (pl_ext hp hs'.extBut (Ne.symm tw.2.2.2.2)) hy hf hs'⟩⟩

theorem Assign_ListComp_u {elt target iter : Expr} {ifs : List Expr} {scope : Scope} {cl : List (Str × Addr)} {env : Env} {pos py spos : Pos} {y : Str} {s : Shared} {E : Value → Shared → Prop} {Q : Flow → Shared → Prop}
    (hsw : swapsWith (.ListComp elt [⟨target, iter, ifs, 0⟩] scope pos) (some (.Name y py)) spos.line env = pure true)
    (hclos : closureFor scope env = pure cl) (hkind : scope.kind = .function) (hnames : ∀ x ∈ scope.names, x.2 = .local → scope.names.lookup x.1 = some .local) (hcell : ∀ y ∈ scope.names, y.2 ≠ .cell)
    (h : wpAny (model prog w) A (eval iter env) (fun x s₁ => wpAny (model prog w) A (pyIter x) (fun it s₂ => ∃ n J Fin, CSrc prog w A env scope cl target ifs elt it s₂ n J Fin ∧
      (∀ C D h₁ ys tk, Two s₂ C D → h₁.PlainList D ys.toArray → ys.length ≤ n → Fin h₁ ys →
        wpAny (model prog w) A (storeName env y (.ref D)) (fun _ s₃ => ∃ h₃ tk₃, s₃ = { s₂ with heap := h₃, toks := tk₃ } ∧ (∀ o, h₁.get? C = some o → h₃.get? C = some o) ∧ ∀ h₄, Heap.SameBut C h₃ h₄ → Q .next { s₂ with heap := h₄, toks := tk₃ }) E { s₂ with heap := h₁, toks := tk })) E s₁) E s)
    (hs : ∀ x, foldedSetIterable iter env x = pure x := by intro _; rfl) :
    wpAny (model prog w) A (exec (.Assign [.Name y py] (.ListComp elt [⟨target, iter, ifs, 0⟩] scope pos) spos) env) Q E s := by
  rw [exec_Assign_Name_used _ _ _ _ hsw]
  refine wpAny_bind (wpAny_standAt (wpAny_bind ?_))
  show wpAny _ A (do let _ ← comprehension (.ListComp elt [⟨target, iter, ifs, 0⟩] scope pos) scope env _ (newList []) false (eval iter env) (some (assign (.Name y py) env))) _ _ s
  refine wpAny_bind (wpAny_mono (comp_u (Q := fun _ s' => Q .next s') hclos hkind hnames hcell (wpAny_mono h (fun x s₁ h₁ => wpAny_mono h₁ (fun it s₂ h₂ => ?_) fun _ _ e => e) fun _ _ e => e) hs)
    (fun _ s' hq => wpAny_pure (wpAny_pure hq)) fun _ _ e => e)
  obtain ⟨n, J, Fin, S, fin⟩ := h₂
  refine ⟨n, J, Fin, S, fun C D h₁ ys tk m tw hp hn hy hf => ?_⟩
  show wpAny _ _ (assign (.Name y py) env (.ref D)) _ _ _
  refine wpAny_assign_Name (wpAny_mono (fin C D h₁ ys tk tw hp hy hf) (fun _ s₃ h₃ => ?_) fun _ _ e => e)
  obtain ⟨h3, tk3, rfl, a, b⟩ := h₃
  exact ⟨m, hn.at' a, b⟩
end
end Mine
end

section
open PySem PySem.W PySem.Calls PyProof.Rows
set_option Elab.async false
set_option maxRecDepth 100000
set_option maxHeartbeats 4000000
namespace Mine
section
variable {prog : Program} {w : World} {A : Around} {E : Value → Shared → Prop} {s : Shared}

theorem eval_local {env : Env} {x : Str} {pos : Pos} {m : Str → Option Value} {v : Value} {Q : Value → Shared → Prop} (hn : s.heap.Ns env.locals m) (hv : m x = some v) (h : Q v s)
    (hk : env.scope.kind = .function) (hl : env.kindOf x = some .local) (hd : (x == ("__debug__" : Str)) = false) : wpAny (model prog w) A (eval (.Name x pos) env) Q E s :=
  wpAny_Name (wpAny_loadName_local hk hl hn hv h) hd

theorem list2 {env : Env} {x y : Str} {px py pos : Pos} {m : Str → Option Value} {u v : Value} {Q : Value → Shared → Prop} (hn : s.heap.Ns env.locals m) (hu : m x = some u) (hv : m y = some v)
    (hk : env.scope.kind = .function) (hx : env.kindOf x = some .local) (hy : env.kindOf y = some .local) (dx : (x == ("__debug__" : Str)) = false) (dy : (y == ("__debug__" : Str)) = false)
    (h : Q (.ref s.heap.objs.size) { s with heap := s.heap.push { cls := .type "list", data := .seq #[u, v] } }) :
    wpAny (model prog w) A (eval (.List [.Name x px, .Name y py] pos) env) Q E s := by
  refine List_ ?_
  refine spliced_cons (eval_local hn hu ?_ hk hx dx)
  refine spliced_cons (eval_local hn hv ?_ hk hy dy)
  refine spliced_nil ?_
  exact wpAny_newObj_type h (by show (2 : Nat) ≤ _; rw [sizeLine_eq]; omega)

def PairEl (B : Nat) (h : Heap) (G : Nat → Value → Value → Prop) (j : Nat) (y : Value) : Prop :=
  ∃ (a : Nat) (u v : Value) (n : Nat), y = .ref a ∧ B ≤ a ∧ h.get? a = some { cls := .type "list", data := .seq #[v, u] n } ∧ G j u v

theorem csrc_pairs {env : Env} {scope : Scope} {cl : List (Str × Addr)} {x₁ x₂ : Str} {q₁ q₂ p₁ p₂ tp lp : Pos} {k : Nat} {s₂ : Shared} {I : Addr} {fp wr : List Addr} {n : Nat} {Pt : Nat → Array Value → Prop}
    {St : Nat → Heap → Prop} {Mid : Nat → Addr → Heap → Prop} (W : WalksU prog w A I fp wr n Pt St Mid) (hn : n ≤ 1000) (hh : A.handled = none) (st0 : St 0 s₂.heap) (hfp : ∀ b ∈ fp, b < s₂.heap.objs.size)
    (G : Nat → Value → Value → Prop) (hP : ∀ i vals, Pt i vals → ∃ u v, vals = #[u, v] ∧ G i u v) (hkind : scope.kind = .function)
    (h₁ : scope.names.lookup x₁ = some .local) (h₂ : scope.names.lookup x₂ = some .local) (hne : x₁ ≠ x₂) (d₁ : (x₁ == ("__debug__" : Str)) = false) (d₂ : (x₂ == ("__debug__" : Str)) = false) :
    CSrc prog w A env scope cl (.Tuple [.Name x₁ q₁, .Name x₂ q₂] k tp) [] (.List [.Name x₂ p₂, .Name x₁ p₁] lp) (.ref I) s₂ n
      (fun i h ys => St i h ∧ (∀ b o, b ∉ wr → s₂.heap.get? b = some o → h.get? b = some o) ∧ ys.length = i ∧ ∀ j y, ys[j]? = some y → PairEl (s₂.heap.objs.size + 2) h G j y)
      (fun h ys => (∀ b o, b ∉ wr → s₂.heap.get? b = some o → h.get? b = some o) ∧ ys.length = n ∧ ∀ j y, ys[j]? = some y → PairEl (s₂.heap.objs.size + 2) h G j y) where
  size := hn
  self := fun h tk Q E' hj hq => W.self 0 _ Q E' hj.1 hq
  start := fun h' hk => ⟨W.frame 0 _ _ st0 fun b _ o e => hk b o e, fun b o _ e => hk b o e, rfl, fun j y e => by simp at e⟩
  turn := by
    rintro C D i h m ys tk E' ⟨tw1, tw2, tw3, tw4, tw5⟩ hi ⟨hst, hk, hlen, hel⟩ hp hns
    have hwr : ∀ b : Nat, b ∈ wr → b < s₂.heap.objs.size := fun b hb => hfp b (W.sub b hb)
    have hCw : C ∉ wr := fun hb => Nat.lt_irrefl _ (Nat.lt_of_lt_of_le (hwr C hb) tw1)
    have hDw : D ∉ wr := fun hb => Nat.lt_irrefl _ (Nat.lt_of_lt_of_le (hwr D hb) tw2)
    have hCf : ∀ b ∈ fp, b ≠ C := fun b hb e => Nat.lt_irrefl _ (Nat.lt_of_lt_of_le (e ▸ hfp b hb) tw1)
    have hDf : ∀ b ∈ fp, b ≠ D := fun b hb e => Nat.lt_irrefl _ (Nat.lt_of_lt_of_le (e ▸ hfp b hb) tw2)
    refine W.item i _ _ E' hi hst fun T vals h₃ tk₃ hPt hT hmid hk₃ => ⟨_, rfl, ?_⟩
    refine W.go _ _ _ i T _ _ E' hmid fun h₄ hst₄ hk₄ => ?_
    obtain ⟨u, v, rfl, hG⟩ := hP i vals hPt
    have hTw : T ∉ wr := W.apart i T _ hmid
    have hT₄ : h₄.IsTuple T #[u, v] := hT.at fun o e => hk₄ T o hTw e
    have up₄ : ∀ b o, b ∉ wr → h.get? b = some o → h₄.get? b = some o := fun b o hb e => hk₄ b o hb (hk₃ b o hb e)
    have hns₄ : h₄.Ns C m := hns.at' fun o e => up₄ C o hCw e
    refine kcp_assign (m := m) hh hT₄ (lookup_relabel_local h₁) (lookup_relabel_local h₂) (by simp [compEnvC, relabel, hkind]) hns₄ fun h₅ tk₅ hns₅ hk₅ => ?_
    refine wpAny_tests_nil ?_
    simp only [if_true]
    have hkind' : (compEnvC scope cl C env).scope.kind = .function := by simp [compEnvC, relabel, hkind]
    refine list2 hns₅ (u := v) (v := u) (by simp) (by simp [hne]) hkind' (lookup_relabel_local h₂) (lookup_relabel_local h₁) d₂ d₁ ?_
    have up₅ : ∀ b o, b ∉ wr → b ≠ C → h.get? b = some o → h₅.get? b = some o := fun b o hb hc e => hk₅ b o hc (up₄ b o hb e)
    have hC5 : @LT.lt Nat _ C h₅.objs.size := hns₅.lt
    have hp₅ : h₅.PlainList D ys.toArray := let ⟨nn, e⟩ := hp; ⟨nn, up₅ D _ hDw (Ne.symm tw5) e⟩
    have hD5 : @LT.lt Nat _ D h₅.objs.size := plt_lt hp₅
    have hst₅ : St (i + 1) h₅ := W.frame _ _ _ hst₄ fun b hb o e => hk₅ b o (hCf b hb) e
    have hbig : s₂.heap.objs.size + 2 ≤ h₅.objs.size := by omega
    refine ⟨_, _, _, rfl, pl_keep hp₅ (fun b o e => Heap.get?_push_of_some _ e), hns₅.push _, fun h₈ hs₈ hl₈ => ?_⟩
    have up₈ : ∀ b o, b ≠ D → h₅.get? b = some o → h₈.get? b = some o := fun b o hb e => (hs₈.2 b hb).trans (Heap.get?_push_of_some _ e)
    refine ⟨W.frame _ _ _ hst₅ fun b hb o e => up₈ b o (hDf b hb) e, fun b o hb e => ?_, by simp [hlen], fun j y hj => ?_⟩
    · have hlt := Heap.lt_size e
      have hbD : b ≠ D := fun q => Nat.lt_irrefl _ (Nat.lt_of_lt_of_le (q ▸ hlt) tw2)
      have hbC : b ≠ C := fun q => Nat.lt_irrefl _ (Nat.lt_of_lt_of_le (q ▸ hlt) tw1)
      exact up₈ b o hbD (up₅ b o hb hbC (hk b o hb e))
    · rcases Nat.lt_or_ge j ys.length with hlt | hge
      · rw [List.getElem?_append_left hlt] at hj
        obtain ⟨a, u', v', nn, rfl, hB, ho, hg⟩ := hel j y hj
        have haD : @Ne Nat a D := by omega
        have haC : @Ne Nat a C := by omega
        have haw : a ∉ wr := fun hb => by have := hwr a hb; omega
        exact ⟨a, u', v', nn, rfl, hB, up₈ a _ haD (up₅ a _ haw haC ho), hg⟩
      · have hj' : j = ys.length := by
          rcases Nat.lt_or_ge j (ys ++ [Value.ref h₅.objs.size]).length with q | q
          · simp at q; omega
          · have e0 : (ys ++ [Value.ref h₅.objs.size])[j]? = none := List.getElem?_eq_none q
            rw [show ({ s₂ with heap := h₅, toks := tk₅ } : Shared).heap.objs.size = h₅.objs.size from rfl, e0] at hj
            cases hj
        subst hj'
        have e0 : (ys ++ [Value.ref h₅.objs.size])[ys.length]? = some (Value.ref h₅.objs.size) := by simp
        rw [show ({ s₂ with heap := h₅, toks := tk₅ } : Shared).heap.objs.size = h₅.objs.size from rfl, e0] at hj
        cases hj
        refine ⟨h₅.objs.size, u, v, 0, rfl, hbig, (hs₈.2 _ (Nat.ne_of_gt hD5)).trans (Heap.get?_push_size _ rfl), ?_⟩
        rw [hlen]; exact hG
  done := by
    rintro C D h m ys tk E' ⟨tw1, tw2, tw3, tw4, tw5⟩ ⟨hst, hk, hlen, hel⟩ hp hns
    have hwr : ∀ b : Nat, b ∈ wr → b < s₂.heap.objs.size := fun b hb => hfp b (W.sub b hb)
    have hCw : C ∉ wr := fun hb => Nat.lt_irrefl _ (Nat.lt_of_lt_of_le (hwr C hb) tw1)
    have hDw : D ∉ wr := fun hb => Nat.lt_irrefl _ (Nat.lt_of_lt_of_le (hwr D hb) tw2)
    refine W.done _ _ E' hst fun h₃ tk₃ hk₃ => ⟨rfl, h₃, tk₃, rfl, let ⟨nn, e⟩ := hp; ⟨nn, hk₃ D _ hDw e⟩, hns.at' fun o e => hk₃ C o hCw e, fun b o hb e => hk₃ b o hb (hk b o hb e), hlen, fun j y hj => ?_⟩
    obtain ⟨a, u', v', nn, rfl, hB, ho, hg⟩ := hel j y hj
    have haw : a ∉ wr := fun hb => by have := hwr a hb; omega
    exact ⟨a, u', v', nn, rfl, hB, hk₃ a _ haw ho, hg⟩
end
end Mine
end

section
open PySem PySem.W PySem.Calls PyProof.Rows
open SeqAt AutoSeq1 MeetsSeq MeetsSeq2 MeetsSeq3 SeqRoads2
set_option Elab.async false
set_option maxRecDepth 100000
set_option maxHeartbeats 4000000
namespace Mine
abbrev pairObj (x : Int) (t : Tok) (i : Int) (u : Tok) (n : Nat) : Obj := { cls := .type "list", data := .seq #[.int x t, .int i u] n }
def pairLt (x i y j : Int) : Bool := decide (x < y) || (decide (x = y) && decide (i < j))

theorem lt2_loop (a b : Addr) (xs ys : Array Value) (x i y j : Int) (t u t' u' : Tok) (n n' : Nat) (e1 : xs[(0 : Int).toNat]? = some (.int x t)) (e3 : xs[((0 : Int) + 1).toNat]? = some (.int i u))
    (e2 : ys[(0 : Int).toNat]? = some (.int y t')) (e4 : ys[((0 : Int) + 1).toNat]? = some (.int j u')) (hne : ¬ (x = y ∧ i = j)) :
    Meets (Builtin.«list.__eq__.loop» ⟨[.ref a, .ref b, rawInt 0, rawInt 0], []⟩)
      (fun A R s => s.heap.get? a = some { cls := .type "list", data := .seq xs n } ∧ s.heap.get? b = some { cls := .type "list", data := .seq ys n' } ∧ R (.ok (.ret (.bool (pairLt x i y j)))) s) := by
  intro prog w A R s h
  obtain ⟨hp, g, d, tk, os⟩ := s; obtain ⟨hl, hb, h⟩ := h
  wp_walk using wpAny_loadPart' hl, wpAny_loadPart' hb
  rw [e1, e2]
  dsimp only
  refine wpAny_bind (wpAny_eqBool_int ?_)
  by_cases hxy : x = y
  · have hb1 : (x == y) = true := by simpa using hxy
    rw [hb1]
    wp_walk
    refine ⟨plainId_quiet plain_eq_loop _, codeAny_builtin entry_eq_loop ?_⟩
    rw [Around.under_plainId plain_eq_loop _]
    wp_walk using wpAny_loadPart' hl, wpAny_loadPart' hb
    rw [e3, e4]
    dsimp only
    refine wpAny_bind (wpAny_eqBool_int ?_)
    have hij : i ≠ j := fun q => hne ⟨hxy, q⟩
    have hb2 : (i == j) = false := by simpa using hij
    rw [hb2]
    wp_walk using wpAny_loadPart' hl, wpAny_loadPart' hb
    rw [e3, e4]
    dsimp only
    refine wpAny_bind (m := richCompare .Lt (.int i u) (.int j u')) (wpAny_lt_int ?_)
    refine wpAny_pure ?_
    have : pairLt x i y j = decide (i < j) := by simp [pairLt, hxy]
    rw [this] at h
    exact h
  · have hb1 : (x == y) = false := by simpa using hxy
    rw [hb1]
    wp_walk using wpAny_loadPart' hl, wpAny_loadPart' hb
    rw [e1, e2]
    dsimp only
    refine wpAny_bind (m := richCompare .Lt (.int x t) (.int y t')) (wpAny_lt_int ?_)
    refine wpAny_pure ?_
    have : pairLt x i y j = decide (x < y) := by simp [pairLt, hxy]
    rw [this] at h
    exact h

theorem lt2_meets (a b : Addr) (xs ys : Array Value) (x i y j : Int) (t u t' u' : Tok) (n n' : Nat) (e1 : xs[(0 : Int).toNat]? = some (.int x t)) (e3 : xs[((0 : Int) + 1).toNat]? = some (.int i u))
    (e2 : ys[(0 : Int).toNat]? = some (.int y t')) (e4 : ys[((0 : Int) + 1).toNat]? = some (.int j u')) (hne : ¬ (x = y ∧ i = j)) :
    Meets (Builtin.«list.__lt__» ⟨[.ref a, .ref b], []⟩)
      (fun A R s => s.heap.get? a = some { cls := .type "list", data := .seq xs n } ∧ s.heap.get? b = some { cls := .type "list", data := .seq ys n' } ∧ R (.ok (.ret (.bool (pairLt x i y j)))) s) := by
  intro prog w A R s h
  obtain ⟨hp, g, d, tk, os⟩ := s; obtain ⟨hl, hb, h⟩ := h
  have f3 := AutoSeq1.sub_list_list
  wp_walk using wpAny_loadPart' hl, wpAny_loadPart' hb
  exact ⟨plainId_quiet plain_eq_loop _, codeAny_builtin entry_eq_loop (by
    rw [Around.under_plainId plain_eq_loop _]
    exact lt2_loop a b xs ys x i y j t u t' u' n n' e1 e3 e2 e4 hne prog w A R _ ⟨hl, hb, h⟩)⟩

section
variable {prog : Program} {w : World} {A : Around} {E : Value → Shared → Prop} {s : Shared}
theorem lt2_key {a b : Addr} {x i y j : Int} {t u t' u' : Tok} {n n' : Nat} {C : Bool → Shared → Prop} (hu : A.units < cLine) (hl : s.heap.get? a = some (pairObj x t i u n)) (hb : s.heap.get? b = some (pairObj y t' j u' n'))
    (hne : ¬ (x = y ∧ i = j)) (h : C (pairLt x i y j) s) : wpAny (model prog w) A (keyLt' oneType' (.ref a) (.ref b)) C E s := by
  rw [keyLt'_oneType, oneLt'_eq]
  simp only [if_true]
  refine wpAny_bind (wpAny_cRoomFor hu ?_)
  refine wpAny_bind (wpAny_callSpecialIfBound?_slot ⟨_, hl, rfl⟩ PySem.F.slot_list_lt (call_meets PySem.F.slot_list_lt ⟨_, hl, rfl⟩ PySem.F.entry_list_lt (PySem.F.args_list_lt_2 _ _) (lt2_meets a b _ _ x i y j t u t' u' n n' rfl rfl rfl rfl hne) ⟨hl, hb, ?_⟩))
  exact wpAny_truthy_bool h
end
end Mine
end

section
open PySem PySem.W PySem.Calls PyProof.Rows
set_option Elab.async false
set_option maxRecDepth 100000
set_option maxHeartbeats 4000000
namespace Mine
section
variable {n : Nat} {lt : Nat → Nat → Bool} {cmp : Nat → Nat → (Bool → Shared → Prop) → Shared → Prop} {s : Shared}

structure LOrd (n : Nat) (lt : Nat → Nat → Bool) : Prop where
  tr : ∀ i j k, i < n → j < n → k < n → lt i j = true → lt j k = true → lt i k = true
  tot : ∀ i j, i < n → j < n → i ≠ j → lt i j = false → lt j i = true

structure PR (n : Nat) (p : Array Nat) : Prop where
  size : p.size = n
  perm : p.toList.Perm (List.range n)
abbrev gt (p : Array Nat) (k : Nat) : Nat := p.getD k 0
theorem gt_eq (p : Array Nat) (k : Nat) : gt p k = (p[k]?).getD 0 := Array.getD_eq_getD_getElem? ..
theorem gt_get {p : Array Nat} {k : Nat} (h : k < p.size) : gt p k = p[k] := by rw [gt_eq, Array.getElem?_eq_getElem h]; rfl
theorem PR.low {p : Array Nat} (P : PR n p) {k : Nat} (h : k < n) : gt p k < n := by
  have h' : k < p.size := by rw [P.size]; exact h
  rw [gt_get h']
  have : p[k] ∈ List.range n := P.perm.mem_iff.mp (by simp)
  simpa using this
theorem PR.inj {p : Array Nat} (P : PR n p) {i j : Nat} (hi : i < n) (hj : j < n) (e : gt p i = gt p j) : i = j := by
  have hi' : i < p.toList.length := by simpa [P.size] using hi
  have hj' : j < p.toList.length := by simpa [P.size] using hj
  rw [gt_get (by simpa using hi'), gt_get (by simpa using hj')] at e
  have nd : p.toList.Nodup := P.perm.nodup_iff.mpr List.nodup_range
  exact (List.getElem_inj (h₀ := hi') (h₁ := hj') nd).mp (by simpa using e)
theorem PR.range : PR n (List.toArray (List.range n)) := ⟨by simp, by simp⟩
theorem PR.of {p p' : Array Nat} (P : PR n p) (hp : p'.Perm p) : PR n p' := ⟨hp.size_eq.trans P.size, (Array.perm_iff_toList_perm.mp hp).trans P.perm⟩

def Up (lt : Nat → Nat → Bool) (p : Array Nat) (m : Nat) : Prop := ∀ i j, i < j → j < m → lt (gt p i) (gt p j) = true
def Down (lt : Nat → Nat → Bool) (p : Array Nat) (m : Nat) : Prop := ∀ i j, i < j → j < m → lt (gt p j) (gt p i) = true
theorem Up.one {p : Array Nat} : Up lt p 1 := fun i j h h' => by omega
theorem Up.succ {p : Array Nat} {a : Nat} (O : LOrd n lt) (P : PR n p) (h1 : 1 ≤ a) (ha : a < n) (U : Up lt p a) (h : lt (gt p a) (gt p (a - 1)) = false) : Up lt p (a + 1) := by
  have last : lt (gt p (a - 1)) (gt p a) = true := O.tot _ _ (P.low ha) (P.low (by omega)) (fun e => by have := P.inj ha (by omega) e; omega) h
  intro i j hij hj
  by_cases hja : j = a
  · subst hja
    by_cases hi : i = j - 1
    · subst hi; exact last
    · exact O.tr _ _ _ (P.low (by omega)) (P.low (by omega)) (P.low ha) (U i (j - 1) (by omega) (by omega)) last
  · exact U i j hij (by omega)
theorem Down.succ {p : Array Nat} {a : Nat} (O : LOrd n lt) (P : PR n p) (h1 : 1 ≤ a) (ha : a < n) (U : Down lt p a) (h : lt (gt p a) (gt p (a - 1)) = true) : Down lt p (a + 1) := by
  intro i j hij hj
  by_cases hja : j = a
  · subst hja
    by_cases hi : i = j - 1
    · subst hi; exact h
    · exact O.tr _ _ _ (P.low ha) (P.low (by omega)) (P.low (by omega)) h (U i (j - 1) (by omega) (by omega))
  · exact U i j hij (by omega)

theorem asc_wp (O : LOrd n lt) (hc : ∀ i j (C : Bool → Shared → Prop), i < n → j < n → i ≠ j → C (lt i j) s → cmp i j C s) {p : Array Nat} (P : PR n p) {Q : Nat → Shared → Prop} :
    ∀ f a, 1 ≤ a → a + f ≤ n → Up lt p a → (∀ m, a ≤ m → m ≤ a + f → Up lt p m → (m = a + f ∨ lt (gt p m) (gt p (m - 1)) = true) → Q m s) → (kas_asc p f a).kasWp cmp Q s
  | 0, a, _, _, U, hQ => hQ a (Nat.le_refl _) (Nat.le_refl _) U (.inl rfl)
  | f + 1, a, h1, ha, U, hQ => by
    show cmp (gt p a) (gt p (a - 1)) (fun c s' => (if c = true then KasT.ret a else kas_asc p f (a + 1)).kasWp cmp Q s') s
    refine hc _ _ _ (P.low (by omega)) (P.low (by omega)) (fun e => by have := P.inj (by omega) (by omega) e; omega) ?_
    cases h : lt (gt p a) (gt p (a - 1)) with
    | true => rw [if_pos rfl]; exact hQ a (Nat.le_refl _) (by omega) U (.inr h)
    | false =>
      rw [if_neg Bool.false_ne_true]
      exact asc_wp O hc P f (a + 1) (by omega) (by omega) (U.succ O P h1 (by omega) h) fun m h2 h3 h4 h5 => hQ m (by omega) (by omega) h4 (h5.imp (fun e => by omega) id)

theorem desc_wp (O : LOrd n lt) (hc : ∀ i j (C : Bool → Shared → Prop), i < n → j < n → i ≠ j → C (lt i j) s → cmp i j C s) {p : Array Nat} (P : PR n p) {Q : Array Nat × Nat × Nat → Shared → Prop} :
    ∀ f a, 1 ≤ a → a + f ≤ n → Down lt p a → (∀ m, a ≤ m → m ≤ a + f → Down lt p m → Q (p, m, 0) s) → (kas_desc f p a 0).kasWp cmp Q s
  | 0, a, _, _, U, hQ => hQ a (Nat.le_refl _) (Nat.le_refl _) U
  | f + 1, a, h1, ha, U, hQ => by
    have hne : gt p a ≠ gt p (a - 1) := fun e => by have := P.inj (by omega) (by omega) e; omega
    show cmp (gt p a) (gt p (a - 1)) (fun c s' => (if c = true then (if 0 > 0 then kas_desc f (kas_rev p (a - (0 + 1)) a) (a + 1) 0 else kas_desc f p (a + 1) 0)
      else KasT.ask (gt p (a - 1)) (gt p a) fun d => if d = true then KasT.ret (p, a, 0) else kas_desc f p (a + 1) (0 + 1)).kasWp cmp Q s') s
    refine hc _ _ _ (P.low (by omega)) (P.low (by omega)) hne ?_
    cases h : lt (gt p a) (gt p (a - 1)) with
    | true =>
      rw [if_pos rfl, if_neg (by omega)]
      exact desc_wp O hc P f (a + 1) (by omega) (by omega) (U.succ O P h1 (by omega) h) fun m h2 h3 h4 => hQ m (by omega) (by omega) h4
    | false =>
      rw [if_neg Bool.false_ne_true]
      show cmp (gt p (a - 1)) (gt p a) (fun d s' => (if d = true then KasT.ret (p, a, 0) else kas_desc f p (a + 1) (0 + 1)).kasWp cmp Q s') s
      refine hc _ _ _ (P.low (by omega)) (P.low (by omega)) (Ne.symm hne) ?_
      rw [O.tot _ _ (P.low (by omega)) (P.low (by omega)) hne h, if_pos rfl]
      exact hQ a (Nat.le_refl _) (by omega) U

theorem rev_up {p : Array Nat} {m : Nat} (hm : m ≤ p.size) (D : Down lt p m) : Up lt (kas_rev p 0 m) m := by
  have e : ∀ k, k < m → gt (kas_rev p 0 m) k = gt p (m - 1 - k) := fun k hk => by
    rw [gt_eq, gt_eq]
    unfold kas_rev
    rw [getElem?_mirror_all hm, if_pos ⟨Nat.zero_le _, hk⟩, Nat.zero_add]
  intro i j hij hj
  rw [e i (by omega), e j hj]
  exact D _ _ (by omega) (by omega)

theorem count_wp (O : LOrd n lt) (h2 : 2 ≤ n) (hc : ∀ i j (C : Bool → Shared → Prop), i < n → j < n → i ≠ j → C (lt i j) s → cmp i j C s) {p : Array Nat} (P : PR n p) {Q : Nat × Array Nat → Shared → Prop}
    (hQ : ∀ m p', 1 ≤ m → m ≤ n → PR n p' → Up lt p' m → Q (m, p') s) : (kas_count n p).kasWp cmp Q s := by
  unfold kas_count
  rw [KasT.kasWp_bind]
  refine asc_wp O hc P (n - 1) 1 (Nat.le_refl _) (by omega) Up.one fun m h1 hm U stop => ?_
  by_cases e1 : (m == n) = true
  · rw [if_pos e1]; exact hQ m p h1 (by omega) P U
  · rw [if_neg e1]
    have hmn : m ≠ n := fun q => e1 (by simp [q])
    by_cases e2 : m > 1
    · rw [if_pos e2]
      show cmp (gt p 0) (gt p (m - 1)) (fun c s' => (if c = true then KasT.ret (m, p) else kas_descPart m n (kas_rev p 0 m)).kasWp cmp Q s') s
      refine hc _ _ _ (P.low (by omega)) (P.low (by omega)) (fun e => by have := P.inj (by omega) (by omega) e; omega) ?_
      rw [U 0 (m - 1) (by omega) (by omega), if_pos rfl]
      exact hQ m p h1 (by omega) P U
    · rw [if_neg e2]
      have : m = 1 := by omega
      subst this
      have hd : lt (gt p 1) (gt p 0) = true := by
        rcases stop with e | e
        · omega
        · exact e
      unfold kas_descPart
      rw [KasT.kasWp_bind]
      have D2 : Down lt p (1 + 1) := fun i j hij hj => by
        have : i = 0 := by omega
        have : j = 1 := by omega
        subst_vars; exact hd
      refine desc_wp O hc P (n - (1 + 1)) (1 + 1) (by omega) (by omega) D2 fun k hk1 hk2 D => ?_
      show (if 0 > 0 then _ else kas_tail3 k n p).kasWp cmp Q s
      rw [if_neg (by omega)]
      unfold kas_tail3
      rw [KasT.kasWp_bind]
      have P' : PR n (kas_rev p 0 k) := P.of (mirror_perm _ _ _ _)
      refine asc_wp O hc P' (n - k) k (by omega) (by omega) (rev_up (by rw [P.size]; omega) D) fun m' h3 h4 U' _ => ?_
      exact hQ m' _ (by omega) (by omega) P' U'

theorem place_wp (O : LOrd n lt) (hc : ∀ i j (C : Bool → Shared → Prop), i < n → j < n → i ≠ j → C (lt i j) s → cmp i j C s) {p : Array Nat} (P : PR n p) {k : Nat} (hk : k < n) (U : Up lt p k) {Q : Nat → Shared → Prop}
    (hQ : ∀ l, l ≤ k → (∀ i, i < l → lt (gt p i) (gt p k) = true) → (∀ i, l ≤ i → i < k → lt (gt p k) (gt p i) = true) → Q l s) :
    ∀ f l r, l ≤ r → r ≤ k → r - l ≤ f → (∀ i, i < l → lt (gt p i) (gt p k) = true) → (∀ i, r ≤ i → i < k → lt (gt p k) (gt p i) = true) → (kas_place p k f l r).kasWp cmp Q s
  | 0, l, r, hlr, hr, hf, hl, hrr => by
    have : l = r := by omega
    subst this
    exact hQ l hr hl hrr
  | f + 1, l, r, hlr, hr, hf, hl, hrr => by
    unfold kas_place
    by_cases hge : l ≥ r
    · rw [if_pos hge]
      have : l = r := by omega
      subst this
      exact hQ l hr hl hrr
    · rw [if_neg hge]
      have hm1 : l ≤ (l + r) / 2 := by omega
      have hm2 : (l + r) / 2 < r := by omega
      generalize (l + r) / 2 = c at hm1 hm2 ⊢
      have hne : gt p k ≠ gt p c := fun e => by have := P.inj hk (by omega) e; omega
      show cmp (gt p k) (gt p c) (fun b s' => (if b = true then kas_place p k f l c else kas_place p k f (c + 1) r).kasWp cmp Q s') s
      refine hc _ _ _ (P.low hk) (P.low (by omega)) hne ?_
      cases h : lt (gt p k) (gt p c) with
      | true =>
        rw [if_pos rfl]
        refine place_wp O hc P hk U hQ f l c hm1 (by omega) (by omega) hl fun i h1 h2 => ?_
        by_cases hi : i = c
        · subst hi; exact h
        · exact O.tr _ _ _ (P.low hk) (P.low (by omega)) (P.low (by omega)) h (U c i (by omega) h2)
      | false =>
        rw [if_neg Bool.false_ne_true]
        have h' := O.tot _ _ (P.low hk) (P.low (by omega)) hne h
        refine place_wp O hc P hk U hQ f (c + 1) r (by omega) hr (by omega) (fun i h1 => ?_) hrr
        by_cases hi : i = c
        · subst hi; exact h'
        · exact O.tr _ _ _ (P.low (by omega)) (P.low (by omega)) (P.low hk) (U i c (by omega) (by omega)) h'

theorem bubble_up {p : Array Nat} (P : PR n p) {k l : Nat} (hk : k < n) (hl : l ≤ k) (U : Up lt p k) (h1 : ∀ i, i < l → lt (gt p i) (gt p k) = true) (h2 : ∀ i, l ≤ i → i < k → lt (gt p k) (gt p i) = true) :
    Up lt (bubble p k (k - l)) (k + 1) := by
  have hks : k < p.size := by rw [P.size]; exact hk
  have e : ∀ j, gt (bubble p k (k - l)) j = if j = l then gt p k else if l < j ∧ j ≤ k then gt p (j - 1) else gt p j := fun j => by
    rw [gt_eq, getElem?_bubble hks (k - l) (by omega), show k - (k - l) = l by omega]
    by_cases q1 : j = l
    · rw [if_pos q1, if_pos q1, gt_eq]
    · rw [if_neg q1, if_neg q1]
      by_cases q2 : l < j ∧ j ≤ k
      · rw [if_pos q2, if_pos q2, gt_eq]
      · rw [if_neg q2, if_neg q2, gt_eq]
  intro i j hij hj
  rw [e i, e j]
  by_cases a1 : i = l
  · rw [if_pos a1, if_neg (by omega), if_pos (by omega)]
    exact h2 _ (by omega) (by omega)
  · rw [if_neg a1]
    by_cases a2 : l < i ∧ i ≤ k
    · rw [if_pos a2, if_neg (by omega), if_pos (by omega)]
      exact U _ _ (by omega) (by omega)
    · rw [if_neg a2]
      by_cases a3 : j = l
      · rw [if_pos a3]; exact h1 _ (by omega)
      · rw [if_neg a3]
        by_cases a4 : l < j ∧ j ≤ k
        · rw [if_pos a4]; exact U _ _ (by omega) (by omega)
        · rw [if_neg a4]; exact U _ _ (by omega) (by omega)

theorem bin_wp (O : LOrd n lt) (hc : ∀ i j (C : Bool → Shared → Prop), i < n → j < n → i ≠ j → C (lt i j) s → cmp i j C s) {Q : Array Nat → Shared → Prop} (hQ : ∀ p, PR n p → Up lt p n → Q p s) :
    ∀ f p k, PR n p → k + f = n → Up lt p k → (kas_bin f p k).kasWp cmp Q s
  | 0, p, k, P, hk, U => hQ p P (by rw [← hk]; exact U)
  | f + 1, p, k, P, hk, U => by
    show ((kas_place p k k 0 k).bind fun l => kas_bin f (bubble p k (k - l)) (k + 1)).kasWp cmp Q s
    rw [KasT.kasWp_bind]
    refine place_wp O hc P (by omega) U (fun l hl h1 h2 => ?_) k 0 k (Nat.zero_le _) (Nat.le_refl _) (by omega) (fun i hi => by omega) (fun i h1 h2 => by omega)
    exact bin_wp O hc hQ f _ (k + 1) (P.of (bubble_perm _ _ _)) (by omega) (bubble_up P (by omega) hl U h1 h2)

theorem sort_wp (O : LOrd n lt) (h2 : 2 ≤ n) (hc : ∀ i j (C : Bool → Shared → Prop), i < n → j < n → i ≠ j → C (lt i j) s → cmp i j C s) {Q : Array Nat → Shared → Prop} (hQ : ∀ p, PR n p → Up lt p n → Q p s) :
    (kas_sort n).kasWp cmp Q s := by
  unfold kas_sort
  rw [KasT.kasWp_bind]
  refine count_wp O h2 hc PR.range fun m p' h1 hm P U => ?_
  show (if m < n then kas_bin (n - max m 1) p' (max m 1) else KasT.ret p').kasWp cmp Q s
  have hmx : max m 1 = m := by omega
  by_cases h : m < n
  · rw [if_pos h, hmx]
    exact bin_wp O hc hQ (n - m) p' m P (by omega) U
  · rw [if_neg h]
    have : m = n := by omega
    subst this
    exact hQ p' P U
end
end Mine
end

section
open PySem PySem.W PySem.Calls PyProof.Rows
set_option Elab.async false
set_option maxRecDepth 100000
set_option maxHeartbeats 4000000
namespace Mine

def PairV (D : List Addr) (h : Heap) (v : Value) (p : Int × Int) : Prop := ∃ (a : Nat) (t u : Tok) (n : Nat), v = .ref a ∧ a ∉ D ∧ h.get? a = some (pairObj p.1 t p.2 u n)
def PairsAre (D : List Addr) (h : Heap) (vs : List Value) (P : List (Int × Int)) : Prop := vs.length = P.length ∧ ∀ (i : Nat) (v : Value) (p : Int × Int), vs[i]? = some v → P[i]? = some p → PairV D h v p
theorem PairV.mv {D D' : List Addr} {h h' : Heap} {v : Value} {p : Int × Int} (x : PairV D h v p) (m : Mv D' h h') (hs : ∀ a ∈ D', a ∈ D) : PairV D h' v p :=
  let ⟨a, t, u, n, e, ha, ho⟩ := x; ⟨a, t, u, n, e, ha, m _ _ (fun q => ha (hs _ q)) ho⟩
theorem PairsAre.mv {D D' : List Addr} {h h' : Heap} {vs : List Value} {P : List (Int × Int)} (x : PairsAre D h vs P) (m : Mv D' h h') (hs : ∀ a ∈ D', a ∈ D) : PairsAre D h' vs P :=
  ⟨x.1, fun i v p a b => (x.2 i v p a b).mv m hs⟩
theorem PairV.more {D : List Addr} {h : Heap} {v : Value} {p : Int × Int} (x : PairV D h v p) {b : Nat} (hb : h.get? b = none) : PairV (b :: D) h v p :=
  let ⟨a, t, u, n, e, ha, ho⟩ := x; ⟨a, t, u, n, e, fun q => (List.mem_cons.mp q).elim (fun (z : a = b) => by rw [z, hb] at ho; cases ho) ha, ho⟩

def pLt (p q : Int × Int) : Bool := pairLt p.1 p.2 q.1 q.2
theorem pLt_spec {p q : Int × Int} : pLt p q = true ↔ p.1 < q.1 ∨ (p.1 = q.1 ∧ p.2 < q.2) := by simp [pLt, pairLt]

section
variable {prog : Program} {w : World} {A : Around} {E : Value → Shared → Prop} {s : Shared}

theorem map_getD_range {α : Type} (P : List α) (d : α) : (List.range P.length).map (fun i => P.getD i d) = P := by
  apply List.ext_getElem? ; intro i
  by_cases h : i < P.length
  · simp [h]
  · simp [h, Nat.le_of_not_lt h]

theorem sort_pairs_tree {a : Nat} {vs : List Value} {P : List (Int × Int)} {n0 : Nat} {R : PySem.Fin → Shared → Prop} (hu : A.units < cLine) (ho : s.heap.get? a = some (seqObj "list" vs.toArray n0)) (h2 : 2 ≤ vs.length) (h64 : vs.length < 64)
    (hp : PairsAre [a] s.heap vs P) (hnd : (P.map (·.2)).Nodup)
    (h : ∀ p : Array Nat, PR vs.length p → Up (fun i j => pLt (P.getD i (0, 0)) (P.getD j (0, 0))) p vs.length → R (.done (.ret .none)) { s with heap := sortedHeap s.heap a vs (List.toArray (p.toList.map fun i => vs.getD i Value.none)) }) :
    wpAny (model prog w) A (Builtin.«list.sort» ⟨[.ref a], []⟩) R E s := by
  rw [list_sort_plain]
  have ha : a < s.heap.objs.size := Heap.lt_size ho
  obtain ⟨e1, ho1⟩ : ∃ e1, (s.heap.update a (Obj.mapSeq fun _ => (#[] : Array Value))).get? a = some (seqObj "list" #[] e1) := ⟨_, get?_update_seq ho fun _ => #[]⟩
  refine wpAny_bind (listItems_at ho rfl ?_)
  refine wpAny_bind (listUpdate_at ho rfl ?_ (by rw [List.size_toArray, sizeLine_eq]; omega) (Nat.zero_le _))
  refine wpAny_bind (seqEpoch_at ho1 rfl ?_)
  refine wpAny_bind (wpAny_newTuple ?_ (by show vs.length ≤ _; rw [sizeLine_eq]; omega))
  refine wpAny_bind (wpAny_newList ?_ (Nat.zero_le _))
  refine wpAny_holding ?_
  show wpAny (model prog w) A _ R E { s with heap := ((s.heap.update a (Obj.mapSeq fun _ => (#[] : Array Value))).push (seqObj "tuple" vs.toArray 0)).push (seqObj "list" #[] 0) }
  dsimp only
  generalize hH : ((s.heap.update a (Obj.mapSeq fun _ => (#[] : Array Value))).push (seqObj "tuple" vs.toArray 0)).push (seqObj "list" #[] 0) = H
  have up : ∀ b o, b ≠ a → s.heap.get? b = some o → H.get? b = some o := fun b o hb e => by
    rw [← hH]; exact Heap.get?_push_of_some _ (Heap.get?_push_of_some _ ((Heap.get?_update_other _ _ (Ne.symm hb)).trans e))
  have hoH : H.get? a = some (seqObj "list" #[] e1) := by rw [← hH]; exact Heap.get?_push_of_some _ (Heap.get?_push_of_some _ ho1)
  have hn2 : ¬ vs.toArray.size < 2 := by rw [List.size_toArray]; omega
  rw [if_neg hn2, if_neg hn2]
  have at_ : ∀ i, i < vs.length → ∃ (b : Nat) (t u : Tok) (n : Nat), vs.getD i Value.none = .ref b ∧ H.get? b = some (pairObj (P.getD i (0, 0)).1 t (P.getD i (0, 0)).2 u n) := fun i hi => by
    have hi' : i < P.length := by rw [← hp.1]; exact hi
    obtain ⟨b, t, u, n, e, hb, hq⟩ := hp.2 i vs[i] P[i] (by simp [hi]) (by simp [hi'])
    refine ⟨b, t, u, n, by simp [hi, e], up b _ (fun q => hb (by simp [q])) ?_⟩
    rw [hq]; simp [hi']
  refine wpAny_bind (kas_kind (T := .type "list") h2 (fun v hv => ?_) rfl rfl ?_)
  · obtain ⟨i, hi, rfl⟩ := List.getElem_of_mem hv
    obtain ⟨b, t, u, n, e, hq⟩ := at_ i hi
    have e' : vs[i] = .ref b := by rw [← e]; simp [hi]
    rw [e']
    exact (Looks.ld hq).andThen .now
  have est : SortSt.mk' oneType' (vs.toArray.zip vs.toArray) #[] 7 none = kas_st oneType' (pairsOf vs) (List.toArray (List.range vs.length)) := by
    have e := kas_range (pairsOf vs)
    rw [pairsOf_size] at e
    show SortSt.mk' oneType' (pairsOf vs) #[] 7 none = SortSt.mk' oneType' ((List.toArray (List.range vs.length)).map (kas_item (pairsOf vs))) #[] 7 none
    rw [e]
  have O : LOrd vs.length (fun i j => pLt (P.getD i (0, 0)) (P.getD j (0, 0))) := by
    refine ⟨fun i j k _ _ _ h1 h2 => ?_, fun i j hi hj hij h1 => ?_⟩
    · rw [pLt_spec] at *; omega
    · have hi' : i < P.length := by rw [← hp.1]; exact hi
      have hj' : j < P.length := by rw [← hp.1]; exact hj
      have hne : (P.getD i (0, 0)).2 ≠ (P.getD j (0, 0)).2 := fun q => hij ((List.getElem_inj (h₀ := by simpa using hi') (h₁ := by simpa using hj') hnd).mp (by simpa [hi', hj'] using q))
      have h1' : ¬ (pLt (P.getD i (0, 0)) (P.getD j (0, 0)) = true) := by rw [h1]; exact Bool.false_ne_true
      rw [pLt_spec] at *
      omega
  have ask : (kas_sort vs.length).kasWp (kas_cmp prog w A oneType' (pairsOf vs)) (fun p s' => PR vs.length p ∧ Up (fun i j => pLt (P.getD i (0, 0)) (P.getD j (0, 0))) p vs.length ∧ s' = { s with heap := H }) { s with heap := H } := by
    rw [← kas_ask_eq]
    refine sort_wp O h2 (fun i j C hi hj hij hC => ?_) fun p hP hU => ⟨hP, hU, rfl⟩
    obtain ⟨b, t, u, n, e, hq⟩ := at_ i hi
    obtain ⟨b', t', u', n', e', hq'⟩ := at_ j hj
    unfold kas_ask
    rw [e, e']
    have hi' : i < P.length := by rw [← hp.1]; exact hi
    have hj' : j < P.length := by rw [← hp.1]; exact hj
    have hne : (P.getD i (0, 0)).2 ≠ (P.getD j (0, 0)).2 := fun q => hij ((List.getElem_inj (h₀ := by simpa using hi') (h₁ := by simpa using hj') hnd).mp (by simpa [hi', hj'] using q))
    exact lt2_key hu hq hq' (fun q => hne q.2) hC
  have run := kas_runs (E := E) (Q := fun _ st' s' => ∃ p : Array Nat, arrOf st' = p.map (kas_item (pairsOf vs)) ∧ failedOf st' = none ∧ PR vs.length p ∧ Up (fun i j => pLt (P.getD i (0, 0)) (P.getD j (0, 0))) p vs.length ∧ s' = { s with heap := H })
    h2 h64 (fun p' st' s' a1 a2 a3 a4 => ⟨p', a2, a3, a4⟩) ask
  rw [← est] at run
  refine wpAny_bind (wpAny_mono run ?_ fun _ _ e => e)
  rintro ⟨⟨⟩, st'⟩ s' ⟨p, har, hf, hP, hU, rfl⟩
  dsimp only
  have hout : (arrOf st').map (·.2) = List.toArray (p.toList.map fun i => vs.getD i Value.none) := by
    apply Array.toList_inj.mp
    rw [har, Array.map_map, Array.toList_map]
    exact List.map_congr_left fun i _ => by show (kas_item (pairsOf vs) i).2 = _; rw [kas_item_eq]
  have hsz : (List.toArray (p.toList.map fun i => vs.getD i Value.none)).size = vs.length := by rw [List.size_toArray, List.length_map, Array.length_toList, hP.size]
  rw [hout]
  refine wpAny_bind (seqEpoch_at hoH rfl ?_)
  refine wpAny_bind (listUpdate_at hoH rfl ?_ (Nat.zero_le _) (Nat.le_trans (Nat.le_of_eq hsz) (by rw [sizeLine_eq]; omega)))
  rw [hf]
  simp only [bne_self_eq_false, Bool.false_eq_true, if_false]
  refine wpAny_pure ?_
  have := h p hP hU
  unfold sortedHeap at this
  rw [← hH]
  exact this

theorem pl_sort2 {a : Nat} {D : List Addr} {vs : List Value} {P : List (Int × Int)} {Q : Value → Shared → Prop} (hu : A.units + 8 < cLine) (ho : s.heap.PlainList a vs.toArray) (h2 : 2 ≤ vs.length) (h64 : vs.length < 64)
    (hp : PairsAre D s.heap vs P) (haD : ∀ x ∈ [a], x ∈ D) (hnd : (P.map (·.2)).Nodup)
    (h : ∀ h' vs' P', h'.PlainList a vs'.toArray → Mv [a] s.heap h' → P'.Perm P → P'.Pairwise (fun p q => pLt p q = true) → PairsAre D h' vs' P' → Q .none { s with heap := h' }) :
    wpAny (model prog w) A (call (.builtin "list.sort") [.ref a]) Q E s := by
  obtain ⟨n, ho'⟩ := id ho
  have hpa : PairsAre [a] s.heap vs P := ⟨hp.1, fun i v p e1 e2 => by
    obtain ⟨x, t, u, n, e, hx, hg⟩ := hp.2 i v p e1 e2
    exact ⟨x, t, u, n, e, fun q => hx (haD x q), hg⟩⟩
  refine wpAny_call_entry slot_list_sort ⟨_, ho', rfl⟩ entry_list_sort (sort_pairs_tree (by show A.units + 1 < cLine; omega) ho' h2 h64 hpa hnd fun p hP hU => ⟨.none, rfl, ?_⟩) (args_list_sort _)
  obtain ⟨e, he⟩ : ∃ e, (sortedHeap s.heap a vs (List.toArray (p.toList.map fun i => vs.getD i Value.none))).get? a = some (seqObj "list" (List.toArray (p.toList.map fun i => vs.getD i Value.none)) e) := sortedHeap_at ho'
  have mv : Mv [a] s.heap (sortedHeap s.heap a vs (List.toArray (p.toList.map fun i => vs.getD i Value.none))) := fun b o hb e => (sortedHeap_old (by simpa using hb) (Heap.lt_size e)).trans e
  have hlen : vs.length = P.length := hp.1
  have hpl : p.toList.length = vs.length := by simpa using hP.size
  refine h _ (p.toList.map fun i => vs.getD i Value.none) (p.toList.map fun i => P.getD i (0, 0)) ⟨e, he⟩ mv ?_ ?_ ⟨by simp, fun i v q hv hq => ?_⟩
  · have := hP.perm.map (fun i => P.getD i (0, 0))
    rw [hlen, map_getD_range] at this
    exact this
  · rw [List.pairwise_iff_getElem]
    intro i j hi hj hij
    have hi' : i < p.size := by simpa using hi
    have hj' : j < p.size := by simpa using hj
    have := hU i j hij (by rw [← hP.size]; exact hj')
    rw [gt_get hi', gt_get hj'] at this
    simpa using this
  · rw [List.getElem?_map] at hv hq
    cases hk : p.toList[i]? with
    | none => rw [hk] at hv; cases hv
    | some k =>
      rw [hk] at hv hq
      have hkm : k ∈ List.range vs.length := hP.perm.mem_iff.mp (List.mem_of_getElem? hk)
      have hk' : k < vs.length := by simpa using hkm
      have hk'' : k < P.length := by rw [← hlen]; exact hk'
      simp only [Option.map_some, Option.some.injEq] at hv hq
      subst hv hq
      have := hp.2 k vs[k] P[k] (by simp [hk']) (by simp [hk''])
      have r := this.mv mv haD
      simpa [hk', hk''] using r
end
end Mine
end

section
open PySem PySem.W PySem.Calls PyProof.Rows
set_option Elab.async false
set_option maxRecDepth 100000
set_option maxHeartbeats 4000000
namespace Mine
section
variable {prog : Program} {w : World} {A : Around} {s : Shared} {K : Frag} {R : Result → Shared → Prop}
theorem enterK {name qual : Str} {params : Arguments} {body : List Stmt} {scope : Scope} {dV kV doc pm cdv ct oc : Value} {an od : Option Addr} {osl : Array (Option Value)} {f : Addr} {args : Args} {binds : List (Str × Value)}
    (X : K.In s.heap) (hlim : s.heap.NoLimit)
    (ho : K.lookup f = some ⟨oc, od, .func (fnOf name qual params body scope dV kV doc pm an cdv ct), osl⟩) (hcd : codeIn K cdv qual = true) (hroom : A.depth < recursionLimit)
    (hbind : BindsTo s (fnOf name qual params body scope dV kV doc pm an cdv ct) args binds) (hloc : ∀ y ∈ binds, scope.names.lookup y.1 = some .local)
    (h : ∀ h₁, Fr s.heap s.heap.objs.size h₁ (fun y => binds.reverse.lookup y) →
      wpAny (model prog w) (A.deeper (envOf qual scope s.heap.objs.size f cdv)) (execs body (envOf qual scope s.heap.objs.size f cdv))
        (fun fl s' => R (.ok (.ret (match fl with | .ret v => v | _ => .none))) s') (fun _ _ => False)
        { s with heap := h₁, toks := s.toks + binds.length })
    (hcell : ∀ x ∈ scope.names, x.2 ≠ .cell) (hco : scope.isCoroutine = false) (hgen : scope.isGenerator = false) (hk : scope.kind = .function) : codeAny (model prog w) A (.call (.ref f) args) R s :=
  codeAny_call_def hroom (X _ _ ho) rfl hlim (codeRec_of X hcd) rfl hbind hcell hloc
    (fun h₀ hns hk' => wpAny_mono (h h₀ ⟨hns, hk', Nat.le_refl _⟩) (fun _ _ x => x) fun _ _ x => x.elim) hco hgen hk
end

section
variable {prog : Program} {w : World} {A : Around} {E : Value → Shared → Prop} {s : Shared} {env : Env}
theorem cw_type1 {pos : Pos} {T : String} {e : Expr} {rest : List Expr} {Q : Value → Shared → Prop}
    (h : wpAny (model prog w) A (spliced (backTo pos (starEach (e :: rest) env))) (fun vs s₁ => wpAny (model prog w) A (call (.type T) vs) Q E s₁) E s)
    (he : starEach (e :: rest) env = (false, eval e env) :: starEach rest env := by rfl)
    (hplain : (backTo pos (starEach rest env)).any (·.1) = false := by rfl) :
    wpAny (model prog w) A (callWith pos (.type T) [] (backTo pos (starEach (e :: rest) env)) []) Q E s := by
  rw [he] at h ⊢
  refine PyProof.Rows.callWith_type (by show (false || (backTo pos (starEach rest env)).any (·.1)) = false; rw [hplain]; rfl) (evalArgs_plain ?_)
  refine wpAny_mono h (fun vs s₁ h₁ => ?_) fun _ _ x => x
  simpa using h₁

theorem Expr_none {e : Expr} {pos : Pos} {Q : Flow → Shared → Prop} (h : wpAny (model prog w) A (eval e env) (fun v s' => v = .none ∧ Q .next s') E s)
    (hi : interactive env = false) (hs : swapsWith e none pos.line env = pure false) : wpAny (model prog w) A (exec (.Expr e pos) env) Q E s :=
  wpAny_Expr (wpAny_mono h (fun v s' h' => by obtain ⟨rfl, q⟩ := h'; exact q) fun _ _ x => x) hi hs

theorem assign_list2 {x y : Str} {px py pos : Pos} {k : Nat} {l : Addr} {u v : Value} {n : Nat} {m : Str → Option Value} {h₀ : Heap} {Q : Unit → Shared → Prop} {name : Str} {scope : Scope} {L f : Addr} {cd : Value}
    (hl : s.heap.get? l = some { cls := .type "list", data := .seq #[u, v] n }) (F : Fr h₀ L s.heap m) (hh : A.handled = none) (hk : scope.kind = .function)
    (hx : (envOf name scope L f cd).kindOf x = some .local) (hy : (envOf name scope L f cd).kindOf y = some .local)
    (h : ∀ h', Fr h₀ L h' (fun z => if z = y then some v else if z = x then some u else m z) → Mv [L] s.heap h' → Q () { s with heap := h', toks := s.toks + 1 + 1 }) :
    wpAny (model prog w) A (assign (.Tuple [.Name x px, .Name y py] k pos) (envOf name scope L f cd) (.ref l)) Q E s := by
  rw [assign_Tuple]
  refine wpAny_bind (wpAny_standAt ?_)
  unfold unpack
  refine wpAny_bind (wpAny_holding ?_)
  refine kun_itemsOf (items := #[u, v]) hh ⟨_, hl, rfl, n, rfl⟩ fun h₁ he₁ => ?_
  have F₁ : Fr h₀ L h₁ m := F.extBut he₁ (Nat.le_refl _)
  show wpAny _ _ (assignInOrder [assign (.Name x px) (envOf name scope L f cd), assign (.Name y py) (envOf name scope L f cd)] [u, v]) _ _ _
  refine assignInOrder_cons ?_
  have hp : ((envOf name scope L f cd).scope.kind == .class || ((envOf name scope L f cd).scope.kind == .module && (envOf name scope L f cd).locals != (envOf name scope L f cd).globals)) = false := by
    show (scope.kind == .class || (scope.kind == .module && L != mainGlobals)) = false; rw [hk]; rfl
  refine wpAny_assign_Name (wpAny_storeName_local hx F₁.ns (fun h₂ hn₂ hs₂ => ?_) hp)
  refine assignInOrder_cons ?_
  refine wpAny_assign_Name (wpAny_storeName_local hy hn₂ (fun h₃ hn₃ hs₃ => ?_) hp)
  refine assignInOrder_nil ?_
  exact h h₃ ((F₁.set hn₂ hs₂).set hn₃ hs₃) (fun b o hb e => hs₃.extBut b o (fun q => hb (List.mem_singleton.mpr q)) (hs₂.extBut b o (fun q => hb (List.mem_singleton.mpr q)) (newOf he₁ b o e)))

theorem stL {x : Str} {v : Value} {h₀ : Heap} {m : Str → Option Value} {Q : Unit → Shared → Prop} {name : Str} {scope : Scope} {L f : Addr} {cd : Value} (F : Fr h₀ L s.heap m)
    (h : ∀ h', Fr h₀ L h' (fun y => if y = x then some v else m y) → Mv [L] s.heap h' → Q () { s with heap := h', toks := s.toks + 1 })
    (hk : scope.kind = .function) (hl : (envOf name scope L f cd).kindOf x = some .local) : wpAny (model prog w) A (storeName (envOf name scope L f cd) x v) Q E s :=
  wpAny_storeName_local hl F.ns (fun h' hn hs => h h' (F.set hn hs) (Mv.same hs (List.mem_singleton.mpr rfl)))
    (by show (scope.kind == .class || (scope.kind == .module && L != mainGlobals)) = false; rw [hk]; rfl)
theorem Fr.mv {h₀ h h' : Heap} {L : Addr} {m : Str → Option Value} {D : List Addr} (F : Fr h₀ L h m) (mv : Mv D h h') (hL : L ∉ D) (hD : ∀ b ∈ D, h₀.get? b = none) : Fr h₀ L h' m :=
  ⟨F.ns.at' fun o e => mv L o hL e, fun b o e => mv b o (fun q => by rw [hD b q] at e; cases e) (F.keep b o e), F.above⟩
end

section
variable {prog : Program} {w : World} {A : Around} {E : Value → Shared → Prop} {s : Shared}
theorem subTail_g {value slice : Expr} {o i : Value} {T id : String} {Q : Value → Shared → Prop} (hT : s.TypeIs o T)
    (hl : typeLookup (.type T) "__getitem__" = pure (some (.builtin id))) (h : wpAny (model prog w) A (getItem o i) Q E s)
    (hs : subscripted slice false o i = operate [o, i] (getItem o i)) :
    wpAny (model prog w) A (subscriptTail value slice o i) Q E s := by
  unfold subscriptTail
  refine wpAny_bind ?_
  rw [getitemInPython_of_ne hT.not_modules]
  refine wpAny_bind (wpAny_specialOf hT hl ?_)
  have fin : wpAny (model prog w) A (subscripted slice false o i) (fun r s₃ => wpAny (model prog w) A (letTemporaryGo value o r >>= fun _ => pure r) Q E s₃) E s := by
    rw [hs]
    exact wpAny_operating (wpAny_mono h (fun r s₃ h₃ => wpAny_bind (wpAny_letTemporaryGo (wpAny_pure h₃))) fun _ _ x => x)
  first
    | exact wpAny_pure (wpAny_bind fin)
    | exact wpAny_bind (wpAny_pure (wpAny_bind fin))
    | exact wpAny_bind fin
theorem pl_item {value slice : Expr} {a : Addr} {l : List Value} {k : Int} {u : Tok} {x : Value} {Q : Value → Shared → Prop} (hl : s.heap.PlainList a l.toArray)
    (h0 : 0 ≤ k) (hfit : k < 2 ^ 63) (hx : l[k.toNat]? = some x) (h : Q x s)
    (hs : subscripted slice false (.ref a) (.int k u) = operate [.ref a, .int k u] (getItem (.ref a) (.int k u)) := by with_unfolding_all rfl) :
    wpAny (model prog w) A (subscriptTail value slice (.ref a) (.int k u)) Q E s :=
  subTail_g (pl_list hl).typeIs slot_list_getitem.lookup (wpAny_getItem_list (pl_list hl) h0 hfit (by simpa using hx) h) hs
theorem pl_neg1 {value slice : Expr} {a : Addr} {l : List Value} {u : Tok} {x : Value} {Q : Value → Shared → Prop} (hl : s.heap.PlainList a (l ++ [x]).toArray) (h : Q x s)
    (hs : subscripted slice false (.ref a) (.int (-1) u) = operate [.ref a, .int (-1) u] (getItem (.ref a) (.int (-1) u)) := by with_unfolding_all rfl) :
    wpAny (model prog w) A (subscriptTail value slice (.ref a) (.int (-1) u)) Q E s :=
  subTail_g (pl_list hl).typeIs slot_list_getitem.lookup (wpAny_getItem_list_neg (pl_list hl) (by omega) (by simp; omega) (by omega) (by
    have e : ((-1 : Int) + ((l ++ [x]).toArray.size : Int)).toNat = l.length := by simp; omega
    rw [e]; simp) h) hs
theorem tup_item {value slice : Expr} {t : Addr} {l : List Value} {k : Int} {u : Tok} {x : Value} {Q : Value → Shared → Prop} (ht : IsTup s.heap t l.toArray)
    (h0 : 0 ≤ k) (hfit : k < 2 ^ 63) (hx : l[k.toNat]? = some x) (h : Q x s)
    (hs : subscripted slice false (.ref t) (.int k u) = operate [.ref t, .int k u] (getItem (.ref t) (.int k u)) := by with_unfolding_all rfl) :
    wpAny (model prog w) A (subscriptTail value slice (.ref t) (.int k u)) Q E s :=
  subTail_g ht.typeIs slot_tuple_getitem.lookup (getItem_tuple (j := k.toNat) ht (by omega) hfit (by
    have hlt : k.toNat < l.length := (List.getElem?_eq_some_iff.mp hx).1
    have e1 : ¬ k < 0 := by omega
    simp only [seqIndex?, e1, if_false, List.size_toArray]
    rw [if_pos (by simp only [Bool.and_eq_true, decide_eq_true_eq]; omega)]) (by simpa using hx) h) hs
end

section
variable {prog : Program} {w : World} {A : Around} {E : Value → Shared → Prop} {s : Shared} {env : Env}
theorem while_ {test : Expr} {body : List Stmt} {pos : Pos} {Q : Flow → Shared → Prop} (I : Nat → Shared → Prop)
    (turn : ∀ n s E', I n s → wpAny (model prog w) A (isTrue test env (eval test env)) (fun b s₂ =>
        if b then wpAny (model prog w) A (execs body env) (fun f s₃ => f = .next ∧ ∃ m, m < n ∧ I m s₃) E' s₂ else Q .next s₂) E' s)
    (n : Nat) (h : I n s) : wpAny (model prog w) A (exec (.While test body [] pos) env) Q E s := by
  refine wpAny_While (codeAny_whileLoop I (fun n s hI => ?_) n h)
  refine wpAny_mono (turn n s _ hI) (fun b s₂ h₂ => ?_) fun _ _ e => e
  cases b with
  | false => exact wpAny_execs_nil h₂
  | true => exact wpAny_mono h₂ (fun f s₃ h₃ => by obtain ⟨rfl, h₃⟩ := h₃; exact h₃) fun _ _ e => e
end

def AOk (A : Around) (d : Nat) : Prop := A.depth + d < 1000 ∧ A.handled = none ∧ A.units + 3 * d + 30 < 9900
theorem AOk.room {A : Around} {d : Nat} (h : AOk A d) : A.depth < recursionLimit := by have := h.1; show A.depth < 1000; omega
theorem AOk.deeper {A : Around} {d : Nat} (h : AOk A (d + 1)) (env : Env) : AOk (A.deeper env) d := by
  refine ⟨?_, h.2.1, ?_⟩
  · have := h.1; show A.depth + 1 + d < 1000; omega
  · have := h.2.2; show A.units + 3 + 3 * d + 30 < 9900; omega
theorem AOk.less {A : Around} {d d' : Nat} (h : AOk A d) (hd : d' ≤ d) : AOk A d' := ⟨by have := h.1; omega, h.2.1, by have := h.2.2; omega⟩
theorem AOk.units {A : Around} {d : Nat} (h : AOk A d) : A.units + 8 < cLine := by have := h.2.2; show A.units + 8 < 9900; omega

section
variable {prog : Program} {w : World} {A : Around} {E : Value → Shared → Prop} {s : Shared}
theorem pl_set {l : Addr} {vs : List Value} {k : Int} {t : Tok} {v : Value} {Q : Unit → Shared → Prop} (hp : s.heap.PlainList l vs.toArray)
    (h0 : 0 ≤ k) (hfit : k < 2 ^ 63) (hn : k.toNat < vs.length)
    (hQ : ∀ h', h'.PlainList l (vs.set k.toNat v).toArray → Heap.SameBut l s.heap h' → Q () { s with heap := h' }) :
    wpAny (model prog w) A (setItem (.ref l) (.int k t) v) Q E s := by
  have hl := pl_list hp
  obtain ⟨o, ho, hc, ne, hd⟩ := id hl
  unfold setItem
  try with_reducible refine wpAny_holding ?_
  first | refine wpAny_bind (wpAny_pure ?_) | skip
  refine wpAny_bind (wpAny_sequenceKey hl.typeIs (by decide) ?_)
  refine wpAny_bind (wpAny_callSpecial?_slot (name := Str.ofString "__setitem__") hl.typeIs slot_list_setitem
    (wpAny_call_entry slot_list_setitem hl.typeIs entry_list_setitem ?_ (args_list_setitem _ _ _)))
  show wpAny _ _ (Builtin.List.listSubscript? (.int k t) >>= _) _ _ s
  refine wpAny_bind (wpAny_listSubscript_int (fitsIndex_of h0 hfit) ?_)
  clear hfit
  obtain ⟨j, rfl⟩ := Int.eq_ofNat_of_zero_le h0
  have hj : j < vs.toArray.size := by simpa using hn
  have hx' : vs.toArray[j]? = some vs.toArray[j] := Array.getElem?_eq_getElem hj
  show wpAny _ _ ((seqItemAt l j >>= fun r => pure (r.map (j, ·))) >>= _) _ _ s
  refine wpAny_bind (wpAny_bind (wpAny_seqItemAt ho hd (wpAny_pure ?_)))
  rw [hx']
  show wpAny _ _ (setSeqItemAt l j v >>= _) _ _ s
  have hfin : (s.heap.update l (Obj.mapSeq (·.setIfInBounds j v))).PlainList l (vs.set j v).toArray := by
    have q := pl_upd hp (·.setIfInBounds j v)
    have e : vs.toArray.setIfInBounds j v = (vs.set j v).toArray := by simp
    rw [e] at q
    exact q
  refine wpAny_bind (wpAny_setSeqItemAt ho hd ?_)
  first
    | exact wpAny_bind (wpAny_pure (wpAny_pure ⟨.none, rfl, wpAny_pure (hQ _ hfin (Heap.SameBut.update ..))⟩))
    | exact wpAny_pure ⟨.none, rfl, wpAny_pure (hQ _ hfin (Heap.SameBut.update ..))⟩

theorem pl_getneg {l : Addr} {vs : List Value} {t : Tok} {x : Value} {Q : Value → Shared → Prop} (hp : s.heap.PlainList l (vs ++ [x]).toArray) (h : Q x s) : wpAny (model prog w) A (getItem (.ref l) (.int (-1) t)) Q E s :=
  wpAny_getItem_list_neg (pl_list hp) (by omega) (by simp; omega) (by omega) (by
    have e : ((-1 : Int) + ((vs ++ [x]).toArray.size : Int)).toNat = vs.length := by simp; omega
    rw [e]; simp) h

theorem pl_setneg {l : Addr} {vs : List Value} {t : Tok} {x v : Value} {Q : Unit → Shared → Prop} (hp : s.heap.PlainList l (vs ++ [x]).toArray)
    (hQ : ∀ h', h'.PlainList l (vs ++ [v]).toArray → Heap.SameBut l s.heap h' → Q () { s with heap := h' }) :
    wpAny (model prog w) A (setItem (.ref l) (.int (-1) t) v) Q E s := by
  have hl := pl_list hp
  obtain ⟨o, ho, hc, ne, hd⟩ := id hl
  unfold setItem
  try with_reducible refine wpAny_holding ?_
  first | refine wpAny_bind (wpAny_pure ?_) | skip
  refine wpAny_bind (wpAny_sequenceKey hl.typeIs (by decide) ?_)
  refine wpAny_bind (wpAny_callSpecial?_slot (name := Str.ofString "__setitem__") hl.typeIs slot_list_setitem
    (wpAny_call_entry slot_list_setitem hl.typeIs entry_list_setitem ?_ (args_list_setitem _ _ _)))
  show wpAny _ _ (Builtin.List.listSubscript? (.int (-1) t) >>= _) _ _ s
  refine wpAny_bind (wpAny_listSubscript_int (fitsIndex_neg (by omega) (by omega)) ?_)
  have hidx : seqIndex? (-1) (vs ++ [x]).toArray.size = some vs.length := by
    rw [seqIndex_neg (by omega) (by simp; omega)]
    simp; omega
  show wpAny _ _ ((Builtin.List.listItems (.ref l) >>= fun xs => pure ((seqIndex? (Int.negSucc 0) xs.size).bind fun i => xs[i]?.map (i, ·))) >>= _) _ _ s
  refine wpAny_bind (wpAny_bind ?_)
  show wpAny _ _ (seqItems? (.ref l) >>= _) _ _ s
  refine wpAny_bind (wpAny_seqItems ho hd (wpAny_pure (wpAny_pure ?_)))
  rw [show (Int.negSucc 0) = (-1 : Int) from rfl, hidx]
  have hx : (vs ++ [x]).toArray[vs.length]? = some x := by simp
  simp only [Option.bind_some, hx, Option.map_some]
  have hfin : (s.heap.update l (Obj.mapSeq (·.setIfInBounds vs.length v))).PlainList l (vs ++ [v]).toArray := by
    have q := pl_upd hp (·.setIfInBounds vs.length v)
    have e : (vs ++ [x]).toArray.setIfInBounds vs.length v = (vs ++ [v]).toArray := by simp
    rw [e] at q
    exact q
  show wpAny _ _ (setSeqItemAt l vs.length v >>= _) _ _ s
  refine wpAny_bind (wpAny_setSeqItemAt ho hd ?_)
  first
    | exact wpAny_bind (wpAny_pure (wpAny_pure ⟨.none, rfl, wpAny_pure (hQ _ hfin (Heap.SameBut.update ..))⟩))
    | exact wpAny_pure ⟨.none, rfl, wpAny_pure (hQ _ hfin (Heap.SameBut.update ..))⟩
end

section
variable {prog : Program} {w : World} {A : Around} {E : Value → Shared → Prop} {s : Shared}
theorem pl_slice_all {x : Str} {px p pos : Pos} {l : Addr} {vs : List Value} {env : Env} {Q : Value → Shared → Prop} (hx : wpAny (model prog w) A (eval (.Name x px) env) (fun v s' => v = .ref l ∧ s' = s) E s) (hl : s.heap.PlainList l vs.toArray) (hz : vs.length ≤ 1000)
    (h : ∀ h' D tk, (∀ b o, s.heap.get? b = some o → h'.get? b = some o) → @LT.lt Nat _ s.heap.objs.size D → h'.PlainList D vs.toArray → Q (.ref D) { s with heap := h', toks := tk }) :
    wpAny (model prog w) A (eval (.Subscript (.Name x px) (.Slice none none none p) pos) env) Q E s := by
  refine Subscript_ (wpAny_mono hx (fun v s' e => ?_) fun _ _ e => e)
  obtain ⟨rfl, rfl⟩ := e
  show wpAny _ _ (do let l ← valueOrNone (evalOpt none env); let u ← holding [l] (valueOrNone (evalOpt none env)); let s ← holding [l, u] (valueOrNone (evalOpt none env)); newFields "slice" [l, u, s]) _ _ _
  refine wpAny_bind (wpAny_pure (wpAny_bind (wpAny_holding (wpAny_pure (wpAny_bind (wpAny_holding (wpAny_pure ?_)))))))
  refine wpAny_newObj_type ?_
  have hl' := (pl_list hl).push { cls := .type "slice", data := .fields #[Value.none, Value.none, Value.none] }
  refine subscriptTail_ops hl'.typeIs list_getitem_lookup (wpAny_getItem_list_slice hl' (Heap.IsSliceOf.new ..) .none .none .none (by simp) ?_ (by rw [sizeLine_eq]; simp; omega)) (by with_unfolding_all rfl) (by intro _; with_unfolding_all rfl)
  rw [slicePick_all]
  refine h _ _ _ (fun b o e => Heap.get?_push_of_some _ (Heap.get?_push_of_some _ e)) ?_ (pl_new _ _)
  rw [Heap.size_push]; exact Nat.lt_succ_self _
end


end Mine
end

section
open PySem PySem.W PySem.Calls PyProof.Rows
set_option Elab.async false
set_option maxRecDepth 100000
set_option maxHeartbeats 8000000
namespace Mine
noncomputable abbrev PG : Program := PySem.Challenge.rw_au6018_01.row.prog
noncomputable abbrev KH (w : World) : Frag := hd.heap_39 w.params
noncomputable abbrev LOOSE : List Str := looseW hd.view_39 [Str.ofString "NodeView", Str.ofString "OutEdgeView", Str.ofString "_NOT_FOUND", Str.ofString "cached_property", Str.ofString "Graph", Str.ofString "empty_graph", Str.ofString "weights_to_creation_sequence", Str.ofString "threshold_graph"]
noncomputable abbrev TR (mg mb : Str → Option Value) (h : Heap) : Prop := TopRead hd.view_39 LOOSE mg mb h
theorem kin_keeps {K : Frag} {h h' : Heap} (X : K.In h) (hk : ∀ b o, h.get? b = some o → h'.get? b = some o) : K.In h' := fun a o e => hk _ _ (X a o e)
end Mine
end

section
open PySem PySem.W PySem.Calls PyProof.Rows
set_option Elab.async false
set_option maxRecDepth 100000
set_option maxHeartbeats 4000000
namespace Mine
abbrev MethEq (o : Expr) (name : Str) (apos pos : Pos) (args : List Expr) (env : Env) (pl : Sem Bool) : Prop :=
  eval (.Call (.Attribute o name apos) args [] pos) env = (do
    let ov ← eval o env
    standAt apos.atName
    let (f, first) ← holding [ov] (getMethod ov name pl)
    callWith pos f first (backTo pos (starEach args env)) [])
section
variable {prog : Program} {w : World} {A : Around} {E : Value → Shared → Prop} {s : Shared} {name : Str} {scope : Scope} {L f : Addr} {cd : Value} {h₀ : Heap} {m : Str → Option Value}

theorem st_pop {x y o : Str} {p1 p2 p3 p4 p5 p6 p7 : Pos} {k : Nat} {wa a : Addr} {ys : List Value} {u v : Value} {n : Nat} {Q : Flow → Shared → Prop}
    (F : Fr h₀ L s.heap m) (hk : scope.kind = .function) (hx : (envOf name scope L f cd).kindOf x = some .local) (hy : (envOf name scope L f cd).kindOf y = some .local) (ho : (envOf name scope L f cd).kindOf o = some .local)
    (hd : (o == ("__debug__" : Str)) = false) (hh : A.handled = none)
    (mo : m o = some (.ref wa)) (hw : s.heap.PlainList wa (ys ++ [Value.ref a]).toArray) (hz : ys.length ≤ 1000) (ha : s.heap.get? a = some { cls := .type "list", data := .seq #[u, v] n }) (haw : a ≠ wa) (hwL : wa ≠ L) (hwn : h₀.get? wa = none)
    (h : ∀ h' tk', Fr h₀ L h' (fun z => if z = y then some v else if z = x then some u else m z) → h'.PlainList wa ys.toArray → Mv [L, wa] s.heap h' → Q .next { s with heap := h', toks := tk' })
    (hs : swapsWithSole [.Tuple [.Name x p1, .Name y p2] k p3] (.Call (.Attribute (.Name o p4) (Str.ofString "pop") p5) [] [] p6) p7.line (envOf name scope L f cd) = pure false := by rfl)
    (hw2 : swappedStores [.Tuple [.Name x p1, .Name y p2] k p3] (.Call (.Attribute (.Name o p4) (Str.ofString "pop") p5) [] [] p6) (envOf name scope L f cd) = pure none := by rfl)
    {pl : Sem Bool} (he : MethEq (.Name o p4) (Str.ofString "pop") p5 p6 [] (envOf name scope L f cd) pl := by rfl) :
    wpAny (model prog w) A (exec (.Assign [.Tuple [.Name x p1, .Name y p2] k p3] (.Call (.Attribute (.Name o p4) (Str.ofString "pop") p5) [] [] p6) p7) (envOf name scope L f cd)) Q E s := by
  refine Assign_Tuple ?_ hs hw2
  refine MethodCall_ (ld F mo ?_ hk ho hd) he
  refine pl_method hw PySem.F.slot_list_pop rfl ?_
  refine callWith_method0 ?_
  refine pl_pop hw hz fun h₁ hp₁ hs₁ => ?_
  have F₁ := Fr.mv F (Mv.same (D := [wa]) hs₁ (by simp)) (by simpa using Ne.symm hwL) (by simpa using hwn)
  have ha₁ := hs₁.extBut a _ haw ha
  refine assign_list2 ha₁ F₁ hh hk hx hy fun h₂ F₂ mv₂ => ?_
  exact h h₂ _ F₂ (pl_mv hp₁ mv₂ (by simpa using hwL)) (Mv.trans (Mv.same hs₁ (by simp)) (Mv.sub mv₂ (by simp)))

theorem st_pop0 {x y o : Str} {p1 p2 p3 p4 p5 p6 p7 p8 : Pos} {k k' : Nat} {wa a : Addr} {ys : List Value} {u v : Value} {n : Nat} {Q : Flow → Shared → Prop}
    (F : Fr h₀ L s.heap m) (hk : scope.kind = .function) (hx : (envOf name scope L f cd).kindOf x = some .local) (hy : (envOf name scope L f cd).kindOf y = some .local) (ho : (envOf name scope L f cd).kindOf o = some .local)
    (hd : (o == ("__debug__" : Str)) = false) (hh : A.handled = none)
    (mo : m o = some (.ref wa)) (hw : s.heap.PlainList wa (Value.ref a :: ys).toArray) (hz : ys.length ≤ 1000) (ha : s.heap.get? a = some { cls := .type "list", data := .seq #[u, v] n }) (haw : a ≠ wa) (hwL : wa ≠ L) (hwn : h₀.get? wa = none)
    (h : ∀ h' tk', Fr h₀ L h' (fun z => if z = y then some v else if z = x then some u else m z) → h'.PlainList wa ys.toArray → Mv [L, wa] s.heap h' → Q .next { s with heap := h', toks := tk' })
    (hs : swapsWithSole [.Tuple [.Name x p1, .Name y p2] k p3] (.Call (.Attribute (.Name o p4) (Str.ofString "pop") p5) [.Constant (.int 0) k' p8] [] p6) p7.line (envOf name scope L f cd) = pure false := by rfl)
    (hw2 : swappedStores [.Tuple [.Name x p1, .Name y p2] k p3] (.Call (.Attribute (.Name o p4) (Str.ofString "pop") p5) [.Constant (.int 0) k' p8] [] p6) (envOf name scope L f cd) = pure none := by rfl)
    {pl : Sem Bool} (he : MethEq (.Name o p4) (Str.ofString "pop") p5 p6 [.Constant (.int 0) k' p8] (envOf name scope L f cd) pl := by rfl) :
    wpAny (model prog w) A (exec (.Assign [.Tuple [.Name x p1, .Name y p2] k p3] (.Call (.Attribute (.Name o p4) (Str.ofString "pop") p5) [.Constant (.int 0) k' p8] [] p6) p7) (envOf name scope L f cd)) Q E s := by
  refine Assign_Tuple ?_ hs hw2
  refine MethodCall_ (ld F mo ?_ hk ho hd) he
  refine pl_method hw PySem.F.slot_list_pop rfl ?_
  refine callWith_method1 ?_
  refine args_cons (wpAny_Constant_int ?_)
  refine args_nil ?_
  refine pl_pop0 (s := { s with toks := s.toks + 1 }) hw hz fun h₁ hp₁ hs₁ => ?_
  have F₁ := Fr.mv F (Mv.same (D := [wa]) hs₁ (by simp)) (by simpa using Ne.symm hwL) (by simpa using hwn)
  have ha₁ := hs₁.extBut a _ haw ha
  refine assign_list2 ha₁ F₁ hh hk hx hy fun h₂ F₂ mv₂ => ?_
  exact h h₂ _ F₂ (pl_mv hp₁ mv₂ (by simpa using hwL)) (Mv.trans (Mv.same hs₁ (by simp)) (Mv.sub mv₂ (by simp)))

theorem st_append2 {o y : Str} {lt : Str} {p1 p2 p3 p4 p5 p6 p7 : Pos} {k k' : Nat} {ca : Addr} {ys : List Value} {v : Value} {Q : Flow → Shared → Prop}
    (F : Fr h₀ L s.heap m) (hk : scope.kind = .function) (hy : (envOf name scope L f cd).kindOf y = some .local) (ho : (envOf name scope L f cd).kindOf o = some .local)
    (hd : (o == ("__debug__" : Str)) = false) (hdy : (y == ("__debug__" : Str)) = false)
    (mo : m o = some (.ref ca)) (my : m y = some v) (hc : s.heap.PlainList ca ys.toArray) (hz : ys.length ≤ 1000) (hcL : ca ≠ L) (hcn : h₀.get? ca = none)
    (h : ∀ h' tk' b tt, Fr h₀ L h' m → h'.PlainList ca (ys ++ [Value.ref b]).toArray → s.heap.objs.size ≤ b → h'.get? b = some { cls := .type "tuple", data := .seq #[v, .str lt tt] } → Mv [ca] s.heap h' → Q .next { s with heap := h', toks := tk' })
    (hi : interactive (envOf name scope L f cd) = false)
    (hs : swapsWith (.Call (.Attribute (.Name o p1) (Str.ofString "append") p2) [.Tuple [.Name y p3, .Constant (.str lt) k p4] k' p5] [] p6) none p7.line (envOf name scope L f cd) = pure false)
    {pl : Sem Bool} (he : MethEq (.Name o p1) (Str.ofString "append") p2 p6 [.Tuple [.Name y p3, .Constant (.str lt) k p4] k' p5] (envOf name scope L f cd) pl := by rfl) :
    wpAny (model prog w) A (exec (.Expr (.Call (.Attribute (.Name o p1) (Str.ofString "append") p2) [.Tuple [.Name y p3, .Constant (.str lt) k p4] k' p5] [] p6) p7) (envOf name scope L f cd)) Q E s := by
  refine Expr_none ?_ hi hs
  refine MethodCall_ (ld F mo ?_ hk ho hd) he
  refine pl_method hc PySem.F.slot_list_append rfl ?_
  refine callWith_method1 ?_
  refine args_cons (Tuple_ ?_)
  refine args_cons (ld F my ?_ hk hy hdy)
  refine args_cons (wpAny_Constant_str ?_)
  refine args_nil ?_
  refine wpAny_newTuple ?_ (by show (2 : Nat) ≤ _; rw [sizeLine_eq]; omega)
  refine args_nil ?_
  have hc' : (s.heap.push { cls := .type "tuple", data := .seq [v, .str lt s.toks].toArray }).PlainList ca ys.toArray := pl_keep hc fun b o e => Heap.get?_push_of_some _ e
  have hlt : @LT.lt Nat _ ca s.heap.objs.size := plt_lt hc
  have hne : @Ne Nat s.heap.objs.size ca := by omega
  refine pl_append (s := { s with toks := s.toks + 1, heap := s.heap.push { cls := .type "tuple", data := .seq [v, .str lt s.toks].toArray } }) hc' hz fun h₁ hp₁ hs₁ => ⟨rfl, ?_⟩
  have mv : Mv [ca] s.heap h₁ := Mv.trans (Mv.push _) (Mv.same hs₁ (by simp))
  exact h h₁ _ s.heap.objs.size s.toks (Fr.mv F mv (by simpa using Ne.symm hcL) (by simpa using hcn)) hp₁ (Nat.le_refl _) (hs₁.extBut _ _ hne (Heap.get?_push_size _ rfl)) mv

theorem st_cut {x y o : Str} {p0 p1 p2 p3 p4 p5 p6 p7 p8 p9 : Pos} {k k' : Nat} {wa a : Addr} {ys : List Value} {lim u : Int} {t t' : Tok} {v : Value} {n : Nat} {Q : Flow → Shared → Prop}
    (F : Fr h₀ L s.heap m) (hk : scope.kind = .function) (hx : (envOf name scope L f cd).kindOf x = some .local) (hy : (envOf name scope L f cd).kindOf y = some .local) (ho : (envOf name scope L f cd).kindOf o = some .local)
    (hd : (o == ("__debug__" : Str)) = false) (hdy : (y == ("__debug__" : Str)) = false)
    (my : m y = some (.int lim t)) (mo : m o = some (.ref wa)) (hw : s.heap.PlainList wa (ys ++ [Value.ref a]).toArray) (ha : s.heap.get? a = some { cls := .type "list", data := .seq #[.int u t', v] n })
    (h : ∀ h' tk' ct, Fr h₀ L h' (fun z => if z = x then some (.int (lim - u) ct) else m z) → Mv [L] s.heap h' → Q .next { s with heap := h', toks := tk' })
    (hs : swapsWith (.BinOp (.Name y p1) .Sub (.Subscript (.Subscript (.Name o p2) (.UnaryOp .USub (.Constant (.int 1) k p3) p4) p5) (.Constant (.int 0) k' p6) p7) p8) (some (.Name x p0)) p9.line (envOf name scope L f cd) = pure false := by rfl) :
    wpAny (model prog w) A (exec (.Assign [.Name x p0] (.BinOp (.Name y p1) .Sub (.Subscript (.Subscript (.Name o p2) (.UnaryOp .USub (.Constant (.int 1) k p3) p4) p5) (.Constant (.int 0) k' p6) p7) p8) p9) (envOf name scope L f cd)) Q E s := by
  refine wpAny_Assign_Name ?_ hs
  refine wpAny_BinOp (ld F my ?_ hk hy hdy)
  refine Subscript_ (Subscript_ (ld F mo ?_ hk ho hd))
  refine UnaryOp_ (wpAny_Constant_int ?_)
  refine neg_int ?_
  refine pl_neg1 hw ?_
  refine wpAny_Constant_int ?_
  have hl2 : s.heap.PlainList a [Value.int u t', v].toArray := ⟨_, ha⟩
  refine pl_item hl2 (by omega) (by omega) rfl ?_
  refine sub_int ?_
  refine stL (s := { s with toks := s.toks + 1 + 1 + 1 + 1 }) F (fun h' F' mv => ?_) hk hx
  exact h h' _ _ F' mv
end

def Rel {α : Type} (R : Value → α → Prop) (vs : List Value) (xs : List α) : Prop := vs.length = xs.length ∧ ∀ (i : Nat) (v : Value) (x : α), vs[i]? = some v → xs[i]? = some x → R v x
theorem Rel.nil {α : Type} {R : Value → α → Prop} : Rel R [] [] := ⟨rfl, fun _ _ _ h => by simp at h⟩
theorem Rel.mono {α : Type} {R R' : Value → α → Prop} {vs : List Value} {xs : List α} (a : Rel R vs xs) (h : ∀ v x, R v x → R' v x) : Rel R' vs xs := ⟨a.1, fun i v x p q => h _ _ (a.2 i v x p q)⟩
theorem Rel.snoc {α : Type} {R : Value → α → Prop} {vs : List Value} {xs : List α} {v : Value} {x : α} (a : Rel R vs xs) (h : R v x) : Rel R (vs ++ [v]) (xs ++ [x]) := by
  refine ⟨by simp [a.1], fun i v' x' p q => ?_⟩
  rcases Nat.lt_or_ge i vs.length with hi | hi
  · rw [List.getElem?_append_left hi] at p
    rw [List.getElem?_append_left (by rw [← a.1]; exact hi)] at q
    exact a.2 i v' x' p q
  · rw [List.getElem?_append_right hi] at p
    rw [List.getElem?_append_right (by rw [← a.1]; exact hi), ← a.1] at q
    cases e : i - vs.length with
    | zero => rw [e] at p q; simp at p q; subst p q; exact h
    | succ k => rw [e] at p; simp at p
theorem Rel.cons {α : Type} {R : Value → α → Prop} {vs : List Value} {xs : List α} {v : Value} {x : α} (a : Rel R vs xs) (h : R v x) : Rel R (v :: vs) (x :: xs) := by
  refine ⟨by simp [a.1], fun i v' x' p q => ?_⟩
  cases i with
  | zero => simp at p q; subst p q; exact h
  | succ k => simp at p q; exact a.2 k v' x' p q
theorem Rel.tail {α : Type} {R : Value → α → Prop} {vs : List Value} {xs : List α} {x : α} (a : Rel R vs (x :: xs)) : ∃ v vs', vs = v :: vs' ∧ R v x ∧ Rel R vs' xs := by
  cases vs with
  | nil => exact absurd a.1 (by simp)
  | cons v vs' => exact ⟨v, vs', rfl, a.2 0 v x rfl rfl, by simpa using a.1, fun i v' x' p q => a.2 (i + 1) v' x' (by simpa using p) (by simpa using q)⟩
theorem Rel.init {α : Type} {R : Value → α → Prop} {vs : List Value} {xs : List α} {x : α} (a : Rel R vs (xs ++ [x])) : ∃ vs' v, vs = vs' ++ [v] ∧ R v x ∧ Rel R vs' xs := by
  rcases List.eq_nil_or_concat vs with rfl | ⟨vs', v, e⟩
  · exact absurd a.1 (by simp)
  · have e' : vs = vs' ++ [v] := by simpa using e
    subst e'
    have hl : vs'.length = xs.length := by simpa using a.1
    refine ⟨vs', v, rfl, a.2 vs'.length v x (by simp) (by rw [hl]; simp), hl, fun i v' x' p q => ?_⟩
    have hi : i < vs'.length := (List.getElem?_eq_some_iff.mp p).1
    exact a.2 i v' x' (by rw [List.getElem?_append_left hi]; exact p) (by rw [List.getElem?_append_left (by rw [← hl]; exact hi)]; exact q)
theorem Rel.reverse {α : Type} {R : Value → α → Prop} {vs : List Value} {xs : List α} (a : Rel R vs xs) : Rel R vs.reverse xs.reverse := by
  refine ⟨by simp [a.1], fun i v x p q => ?_⟩
  have hi : i < vs.length := by have := (List.getElem?_eq_some_iff.mp p).1; simpa using this
  rw [List.getElem?_reverse hi] at p
  rw [List.getElem?_reverse (by rw [← a.1]; exact hi), ← a.1] at q
  exact a.2 _ v x p q
theorem Rel.get {α : Type} {R : Value → α → Prop} {vs : List Value} {xs : List α} (a : Rel R vs xs) {i : Nat} {x : α} (h : xs[i]? = some x) : ∃ v, vs[i]? = some v ∧ R v x := by
  have hi : i < vs.length := by rw [a.1]; exact (List.getElem?_eq_some_iff.mp h).1
  exact ⟨vs[i], by simp [hi], a.2 i _ x (by simp [hi]) h⟩

def letS (b : Bool) : Str := if b then Str.ofString "d" else Str.ofString "i"
def TupV (D : List Addr) (h : Heap) (v : Value) (c : Int × Bool) : Prop := ∃ (a : Nat) (t tt : Tok) (n : Nat), v = .ref a ∧ a ∉ D ∧ h.get? a = some { cls := .type "tuple", data := .seq #[.int c.1 t, .str (letS c.2) tt] n }
theorem TupV.mv {D D' : List Addr} {h h' : Heap} {v : Value} {p : Int × Bool} (x : TupV D h v p) (m : Mv D' h h') (hs : ∀ a ∈ D', a ∈ D) : TupV D h' v p :=
  let ⟨a, t, u, n, e, ha, ho⟩ := x; ⟨a, t, u, n, e, ha, m _ _ (fun q => ha (hs _ q)) ho⟩

def lastW (P : List (Int × Int)) : Int := (P.getLastD (0, 0)).1
theorem lastW_snoc (P : List (Int × Int)) (q : Int × Int) : lastW (P ++ [q]) = q.1 := by simp [lastW]
inductive Peel (T : Int) : List (Int × Int) → List (Int × Bool) → Prop
  | one (p : Int × Int) : Peel T [p] [(p.2, true)]
  | low {p : Int × Int} {P : List (Int × Int)} {C : List (Int × Bool)} : P ≠ [] → p.1 + lastW P < T → Peel T P C → Peel T (p :: P) ((p.2, false) :: C)
  | high {P : List (Int × Int)} {q : Int × Int} {C : List (Int × Bool)} : P ≠ [] → ¬ ((P.headD (0, 0)).1 + q.1 < T) → Peel T P C → Peel T (P ++ [q]) ((q.2, true) :: C)
def PeelR (T : Int) (P : List (Int × Int)) (C : List (Int × Bool)) : Prop := (P = [] ∧ C = []) ∨ Peel T P C

structure LocW (env : Env) : Prop where
  w : env.kindOf (Str.ofString "w") = some .local
  label : env.kindOf (Str.ofString "label") = some .local
  wseq : env.kindOf (Str.ofString "wseq") = some .local
  cs : env.kindOf (Str.ofString "cs") = some .local
  cutoff : env.kindOf (Str.ofString "cutoff") = some .local
  threshold : env.kindOf (Str.ofString "threshold") = some .local

structure WLm (T : Int) (t : Tok) (b1 b2 : Bool) (wa ca : Addr) (cut lab : Option Int) (m : Str → Option Value) : Prop where
  threshold : m (Str.ofString "threshold") = some (.int T t)
  with_labels : m (Str.ofString "with_labels") = some (.bool b1)
  compact : m (Str.ofString "compact") = some (.bool b2)
  wseq : m (Str.ofString "wseq") = some (.ref wa)
  cs : m (Str.ofString "cs") = some (.ref ca)
  cutoff : ∀ x, cut = some x → ∃ ct, m (Str.ofString "cutoff") = some (.int x ct)
  label : ∀ x, lab = some x → ∃ lt, m (Str.ofString "label") = some (.int x lt)

structure WLh (g : Heap) (L wa ca : Addr) (h : Heap) (ys cs : List Value) (P : List (Int × Int)) (C : List (Int × Bool)) : Prop where
  wp : h.PlainList wa ys.toArray
  wr : Rel (PairV [L, wa, ca] h) ys P
  cp : h.PlainList ca cs.toArray
  cr : Rel (TupV [L, wa, ca] h) cs C
  wn : g.get? wa = none
  cn : g.get? ca = none
  wL : wa ≠ L
  cL : ca ≠ L
  wc : wa ≠ ca

section
variable {prog : Program} {w : World} {A : Around} {E : Value → Shared → Prop} {s : Shared} {name : Str} {scope : Scope} {L f : Addr} {cd : Value} {g : Heap} {wa ca : Addr} {T : Int} {t : Tok} {b1 b2 : Bool}

def WL (g : Heap) (L wa ca : Addr) (T : Int) (t : Tok) (b1 b2 : Bool) (P : List (Int × Int)) (C : List (Int × Bool)) (cut lab : Option Int) (h : Heap) : Prop :=
  ∃ m ys cs, Fr g L h m ∧ WLm T t b1 b2 wa ca cut lab m ∧ WLh g L wa ca h ys cs P C

theorem wl_weak {P : List (Int × Int)} {C : List (Int × Bool)} {cut lab : Option Int} {h : Heap} (H : WL g L wa ca T t b1 b2 P C cut lab h) : WL g L wa ca T t b1 b2 P C cut none h :=
  let ⟨m, ys, cs, F, M, W⟩ := H; ⟨m, ys, cs, F, ⟨M.threshold, M.with_labels, M.compact, M.wseq, M.cs, M.cutoff, fun _ e => (nomatch e)⟩, W⟩
theorem wl_weak2 {P : List (Int × Int)} {C : List (Int × Bool)} {cut lab : Option Int} {h : Heap} (H : WL g L wa ca T t b1 b2 P C cut lab h) : WL g L wa ca T t b1 b2 P C none none h :=
  let ⟨m, ys, cs, F, M, W⟩ := H; ⟨m, ys, cs, F, ⟨M.threshold, M.with_labels, M.compact, M.wseq, M.cs, fun _ e => (nomatch e), fun _ e => (nomatch e)⟩, W⟩

theorem wl_pop {P : List (Int × Int)} {q : Int × Int} {C : List (Int × Bool)} {cut lab : Option Int} {k : Nat} {p1 p2 p3 p4 p5 p6 p7 : Pos} {Q : Flow → Shared → Prop}
    (H : WL g L wa ca T t b1 b2 (P ++ [q]) C cut lab s.heap) (hk : scope.kind = .function) (l : LocW (envOf name scope L f cd)) (hP : P.length ≤ 1000) (hh : A.handled = none)
    (h : ∀ h' tk', WL g L wa ca T t b1 b2 P C cut (some q.2) h' → Q .next { s with heap := h', toks := tk' })
    (hs : swapsWithSole [.Tuple [.Name (Str.ofString "w") p1, .Name (Str.ofString "label") p2] k p3] (.Call (.Attribute (.Name (Str.ofString "wseq") p4) (Str.ofString "pop") p5) [] [] p6) p7.line (envOf name scope L f cd) = pure false := by rfl)
    (hw2 : swappedStores [.Tuple [.Name (Str.ofString "w") p1, .Name (Str.ofString "label") p2] k p3] (.Call (.Attribute (.Name (Str.ofString "wseq") p4) (Str.ofString "pop") p5) [] [] p6) (envOf name scope L f cd) = pure none := by rfl)
    {pl : Sem Bool} (he : MethEq (.Name (Str.ofString "wseq") p4) (Str.ofString "pop") p5 p6 [] (envOf name scope L f cd) pl := by rfl) :
    wpAny (model prog w) A (exec (.Assign [.Tuple [.Name (Str.ofString "w") p1, .Name (Str.ofString "label") p2] k p3] (.Call (.Attribute (.Name (Str.ofString "wseq") p4) (Str.ofString "pop") p5) [] [] p6) p7) (envOf name scope L f cd)) Q E s := by
  obtain ⟨m, ys, cs, F, M, W⟩ := H
  obtain ⟨ys, v, rfl, hv, hr⟩ := W.wr.init
  obtain ⟨a, t1, t2, n, rfl, haD, ha⟩ := hv
  simp only [List.mem_cons, List.not_mem_nil, or_false, not_or] at haD
  refine st_pop F hk l.w l.label l.wseq (by decide) hh M.wseq W.wp (by rw [hr.1]; exact hP) ha haD.2.1 W.wL W.wn (fun h' tk' F' hp mv => ?_) hs hw2 he
  have sub : ∀ a ∈ [L, wa], a ∈ [L, wa, ca] := by simp
  refine h h' tk' ⟨_, ys, cs, F', ?_, ⟨hp, hr.mono fun v x q => q.mv mv sub, pl_mv W.cp mv (by simpa using ⟨W.cL, Ne.symm W.wc⟩), W.cr.mono fun v x q => q.mv mv sub, W.wn, W.cn, W.wL, W.cL, W.wc⟩⟩
  refine ⟨?_, ?_, ?_, ?_, ?_, fun x e => ?_, fun x e => ?_⟩
  · rw [if_neg (by decide), if_neg (by decide)]; exact M.threshold
  · rw [if_neg (by decide), if_neg (by decide)]; exact M.with_labels
  · rw [if_neg (by decide), if_neg (by decide)]; exact M.compact
  · rw [if_neg (by decide), if_neg (by decide)]; exact M.wseq
  · rw [if_neg (by decide), if_neg (by decide)]; exact M.cs
  · rw [if_neg (by decide), if_neg (by decide)]; exact M.cutoff x e
  · rw [if_pos rfl]; cases e; exact ⟨_, rfl⟩

theorem wl_pop0 {P : List (Int × Int)} {q : Int × Int} {C : List (Int × Bool)} {cut lab : Option Int} {k k' : Nat} {p1 p2 p3 p4 p5 p6 p7 p8 : Pos} {Q : Flow → Shared → Prop}
    (H : WL g L wa ca T t b1 b2 (q :: P) C cut lab s.heap) (hk : scope.kind = .function) (l : LocW (envOf name scope L f cd)) (hP : P.length ≤ 1000) (hh : A.handled = none)
    (h : ∀ h' tk', WL g L wa ca T t b1 b2 P C cut (some q.2) h' → Q .next { s with heap := h', toks := tk' })
    (hs : swapsWithSole [.Tuple [.Name (Str.ofString "w") p1, .Name (Str.ofString "label") p2] k p3] (.Call (.Attribute (.Name (Str.ofString "wseq") p4) (Str.ofString "pop") p5) [.Constant (.int 0) k' p8] [] p6) p7.line (envOf name scope L f cd) = pure false := by rfl)
    (hw2 : swappedStores [.Tuple [.Name (Str.ofString "w") p1, .Name (Str.ofString "label") p2] k p3] (.Call (.Attribute (.Name (Str.ofString "wseq") p4) (Str.ofString "pop") p5) [.Constant (.int 0) k' p8] [] p6) (envOf name scope L f cd) = pure none := by rfl)
    {pl : Sem Bool} (he : MethEq (.Name (Str.ofString "wseq") p4) (Str.ofString "pop") p5 p6 [.Constant (.int 0) k' p8] (envOf name scope L f cd) pl := by rfl) :
    wpAny (model prog w) A (exec (.Assign [.Tuple [.Name (Str.ofString "w") p1, .Name (Str.ofString "label") p2] k p3] (.Call (.Attribute (.Name (Str.ofString "wseq") p4) (Str.ofString "pop") p5) [.Constant (.int 0) k' p8] [] p6) p7) (envOf name scope L f cd)) Q E s := by
  obtain ⟨m, ys, cs, F, M, W⟩ := H
  obtain ⟨v, ys, rfl, hv, hr⟩ := W.wr.tail
  obtain ⟨a, t1, t2, n, rfl, haD, ha⟩ := hv
  simp only [List.mem_cons, List.not_mem_nil, or_false, not_or] at haD
  refine st_pop0 F hk l.w l.label l.wseq (by decide) hh M.wseq W.wp (by rw [hr.1]; exact hP) ha haD.2.1 W.wL W.wn (fun h' tk' F' hp mv => ?_) hs hw2 he
  have sub : ∀ a ∈ [L, wa], a ∈ [L, wa, ca] := by simp
  refine h h' tk' ⟨_, ys, cs, F', ?_, ⟨hp, hr.mono fun v x q => q.mv mv sub, pl_mv W.cp mv (by simpa using ⟨W.cL, Ne.symm W.wc⟩), W.cr.mono fun v x q => q.mv mv sub, W.wn, W.cn, W.wL, W.cL, W.wc⟩⟩
  refine ⟨?_, ?_, ?_, ?_, ?_, fun x e => ?_, fun x e => ?_⟩
  · rw [if_neg (by decide), if_neg (by decide)]; exact M.threshold
  · rw [if_neg (by decide), if_neg (by decide)]; exact M.with_labels
  · rw [if_neg (by decide), if_neg (by decide)]; exact M.compact
  · rw [if_neg (by decide), if_neg (by decide)]; exact M.wseq
  · rw [if_neg (by decide), if_neg (by decide)]; exact M.cs
  · rw [if_neg (by decide), if_neg (by decide)]; exact M.cutoff x e
  · rw [if_pos rfl]; cases e; exact ⟨_, rfl⟩

theorem wl_append {b : Bool} {P : List (Int × Int)} {C : List (Int × Bool)} {cut : Option Int} {x : Int} {k k' : Nat} {p1 p2 p3 p4 p5 p6 p7 : Pos} {Q : Flow → Shared → Prop} {lt : Str}
    (H : WL g L wa ca T t b1 b2 P C cut (some x) s.heap) (hk : scope.kind = .function) (l : LocW (envOf name scope L f cd)) (hC : C.length ≤ 1000) (hlt : lt = letS b)
    (h : ∀ h' tk', WL g L wa ca T t b1 b2 P (C ++ [(x, b)]) cut (some x) h' → Q .next { s with heap := h', toks := tk' })
    (hi : interactive (envOf name scope L f cd) = false := by rfl)
    (hs : swapsWith (.Call (.Attribute (.Name (Str.ofString "cs") p1) (Str.ofString "append") p2) [.Tuple [.Name (Str.ofString "label") p3, .Constant (.str lt) k p4] k' p5] [] p6) none p7.line (envOf name scope L f cd) = pure false := by rfl)
    {pl : Sem Bool} (he : MethEq (.Name (Str.ofString "cs") p1) (Str.ofString "append") p2 p6 [.Tuple [.Name (Str.ofString "label") p3, .Constant (.str lt) k p4] k' p5] (envOf name scope L f cd) pl := by rfl) :
    wpAny (model prog w) A (exec (.Expr (.Call (.Attribute (.Name (Str.ofString "cs") p1) (Str.ofString "append") p2) [.Tuple [.Name (Str.ofString "label") p3, .Constant (.str lt) k p4] k' p5] [] p6) p7) (envOf name scope L f cd)) Q E s := by
  obtain ⟨m, ys, cs, F, M, W⟩ := H
  obtain ⟨lk, hlab⟩ := M.label x rfl
  subst hlt
  refine st_append2 F hk l.label l.cs (by decide) (by decide) M.cs hlab W.cp (by rw [W.cr.1]; exact hC) W.cL W.cn (fun h' tk' b' tt F' hp hb hg mv => ?_) hi hs he
  have sub : ∀ a ∈ [ca], a ∈ [L, wa, ca] := by simp
  have h1 : @LT.lt Nat _ L s.heap.objs.size := F.ns.lt
  have h2 : @LT.lt Nat _ wa s.heap.objs.size := plt_lt W.wp
  have h3 : @LT.lt Nat _ ca s.heap.objs.size := plt_lt W.cp
  have hb' : @LE.le Nat _ s.heap.objs.size b' := hb
  have n1 : @Ne Nat b' L := by omega
  have n2 : @Ne Nat b' wa := by omega
  have n3 : @Ne Nat b' ca := by omega
  refine h h' tk' ⟨m, ys, cs ++ [.ref b'], F', M, ⟨pl_mv W.wp mv (by simpa using W.wc), W.wr.mono fun v x q => q.mv mv sub, hp, (W.cr.mono fun v x q => q.mv mv sub).snoc ?_, W.wn, W.cn, W.wL, W.cL, W.wc⟩⟩
  exact ⟨b', lk, tt, 0, rfl, by simpa using ⟨n1, n2, n3⟩, hg⟩

theorem wl_cut {P : List (Int × Int)} {q : Int × Int} {C : List (Int × Bool)} {cut lab : Option Int} {k k' : Nat} {p0 p1 p2 p3 p4 p5 p6 p7 p8 p9 : Pos} {Q : Flow → Shared → Prop}
    (H : WL g L wa ca T t b1 b2 (P ++ [q]) C cut lab s.heap) (hk : scope.kind = .function) (l : LocW (envOf name scope L f cd))
    (h : ∀ h' tk', WL g L wa ca T t b1 b2 (P ++ [q]) C (some (T - q.1)) lab h' → Q .next { s with heap := h', toks := tk' })
    (hs : swapsWith (.BinOp (.Name (Str.ofString "threshold") p1) .Sub (.Subscript (.Subscript (.Name (Str.ofString "wseq") p2) (.UnaryOp .USub (.Constant (.int 1) k p3) p4) p5) (.Constant (.int 0) k' p6) p7) p8) (some (.Name (Str.ofString "cutoff") p0)) p9.line (envOf name scope L f cd) = pure false := by rfl) :
    wpAny (model prog w) A (exec (.Assign [.Name (Str.ofString "cutoff") p0] (.BinOp (.Name (Str.ofString "threshold") p1) .Sub (.Subscript (.Subscript (.Name (Str.ofString "wseq") p2) (.UnaryOp .USub (.Constant (.int 1) k p3) p4) p5) (.Constant (.int 0) k' p6) p7) p8) p9) (envOf name scope L f cd)) Q E s := by
  obtain ⟨m, ys, cs, F, M, W⟩ := H
  have wr := W.wr
  obtain ⟨ys, v, rfl, hv, hr⟩ := W.wr.init
  obtain ⟨a, t1, t2, n, rfl, haD, ha⟩ := hv
  refine st_cut F hk l.cutoff l.threshold l.wseq (by decide) (by decide) M.threshold M.wseq W.wp ha (fun h' tk' ct F' mv => ?_) hs
  have sub : ∀ a ∈ [L], a ∈ [L, wa, ca] := by simp
  refine h h' tk' ⟨_, _, cs, F', ?_, ⟨pl_mv W.wp mv (by simpa using W.wL), wr.mono fun v x q => q.mv mv sub, pl_mv W.cp mv (by simpa using W.cL), W.cr.mono fun v x q => q.mv mv sub, W.wn, W.cn, W.wL, W.cL, W.wc⟩⟩
  refine ⟨?_, ?_, ?_, ?_, ?_, fun x e => ?_, fun x e => ?_⟩
  · rw [if_neg (by decide)]; exact M.threshold
  · rw [if_neg (by decide)]; exact M.with_labels
  · rw [if_neg (by decide)]; exact M.compact
  · rw [if_neg (by decide)]; exact M.wseq
  · rw [if_neg (by decide)]; exact M.cs
  · rw [if_pos rfl]; cases e; exact ⟨_, rfl⟩
  · rw [if_neg (by decide)]; exact M.label x e
end
end Mine
end

section
open PySem PySem.W PySem.Calls PyProof.Rows
set_option Elab.async false
set_option maxRecDepth 100000
set_option maxHeartbeats 4000000
namespace Mine
section
variable {prog : Program} {w : World} {A : Around} {E : Value → Shared → Prop} {s : Shared}

theorem csrc_nameT {env : Env} {scope : Scope} {cl : List (Str × Addr)} {x : Str} {q : Pos} {elt : Expr} {s₂ : Shared} {I : Addr} {fp wr : List Addr} {n : Nat} {P : Nat → Value → Prop}
    {St : Nat → Heap → Prop} (W : Walks prog w A I fp wr n P St) (hn : n ≤ 1000) (st0 : St 0 s₂.heap) (hfp : ∀ b ∈ fp, b < s₂.heap.objs.size)
    (El : Nat → Value → Heap → Prop) (hmono : ∀ i y h h', El i y h → (∀ b o, (s₂.heap.objs.size + 2 ≤ b ∨ (b < s₂.heap.objs.size ∧ b ∉ wr)) → h.get? b = some o → h'.get? b = some o) → El i y h')
    (hkind : scope.kind = .function) (h₁ : scope.names.lookup x = some .local)
    (hel : ∀ C i v h tk m (Q E' : Value → Shared → Prop), s₂.heap.objs.size + 2 ≤ h.objs.size → P i v → h.Ns C m → m x = some v → (∀ b o, b ∉ wr → s₂.heap.get? b = some o → h.get? b = some o) → 1 ≤ tk →
      (∀ h' tk' y, (∀ b o, h.get? b = some o → h'.get? b = some o) → El i y h' → Q y { s₂ with heap := h', toks := tk' }) → wpAny (model prog w) A (eval elt (compEnvC scope cl C env)) Q E' { s₂ with heap := h, toks := tk }) :
    CSrc prog w A env scope cl (.Name x q) [] elt (.ref I) s₂ n
      (fun i h ys => St i h ∧ (∀ b o, b ∉ wr → s₂.heap.get? b = some o → h.get? b = some o) ∧ ys.length = i ∧ ∀ j y, ys[j]? = some y → El j y h)
      (fun h ys => (∀ b o, b ∉ wr → s₂.heap.get? b = some o → h.get? b = some o) ∧ ys.length = n ∧ ∀ j y, ys[j]? = some y → El j y h) where
  size := hn
  self := fun h tk Q E' hj hq => W.self 0 _ Q E' hj.1 hq
  start := fun h' hk => ⟨W.frame 0 _ _ st0 fun b _ o e => hk b o e, fun b o _ e => hk b o e, rfl, fun j y e => by simp at e⟩
  turn := by
    rintro C D i h m ys tk E' ⟨tw1, tw2, tw3, tw4, tw5⟩ hi ⟨hst, hk, hlen, hall⟩ hp hns
    have hwr : ∀ b : Nat, b ∈ wr → b < s₂.heap.objs.size := fun b hb => hfp b (W.sub b hb)
    have hCw : C ∉ wr := fun hb => Nat.lt_irrefl _ (Nat.lt_of_lt_of_le (hwr C hb) tw1)
    have hDw : D ∉ wr := fun hb => Nat.lt_irrefl _ (Nat.lt_of_lt_of_le (hwr D hb) tw2)
    have hCf : ∀ b ∈ fp, b ≠ C := fun b hb e => Nat.lt_irrefl _ (Nat.lt_of_lt_of_le (e ▸ hfp b hb) tw1)
    have hDf : ∀ b ∈ fp, b ≠ D := fun b hb e => Nat.lt_irrefl _ (Nat.lt_of_lt_of_le (e ▸ hfp b hb) tw2)
    refine W.item i _ _ E' hi hst fun v h₃ tk₃ hPv hst₃ hk₃ => ⟨_, rfl, ?_⟩
    show wpAny (model prog w) A (pure ()) _ _ _
    refine wpAny_pure ?_
    have hns₃ : h₃.Ns C m := hns.at' fun o e => hk₃ C o hCw e
    have hl : (compEnvC scope cl C env).kindOf x = some .local := lookup_relabel_local h₁
    refine wpAny_assign_Name (wpAny_storeName_local hl hns₃ (fun h₅ hns₅ hs₅ => ?_) (by simp [compEnvC, relabel, hkind]))
    refine wpAny_tests_nil ?_
    simp only [if_true]
    have up₅ : ∀ b o, b ∉ wr → b ≠ C → h.get? b = some o → h₅.get? b = some o := fun b o hb hc e => hs₅.extBut b o hc (hk₃ b o hb e)
    have hC5 : @LT.lt Nat _ C h₅.objs.size := hns₅.lt
    have hp₅ : h₅.PlainList D ys.toArray := let ⟨nn, e⟩ := hp; ⟨nn, up₅ D _ hDw (Ne.symm tw5) e⟩
    have hD5 : @LT.lt Nat _ D h₅.objs.size := plt_lt hp₅
    have hst₅ : St (i + 1) h₅ := W.frame _ _ _ hst₃ fun b hb o e => hs₅.extBut b o (hCf b hb) e
    have old₅ : ∀ b o, b ∉ wr → s₂.heap.get? b = some o → h₅.get? b = some o := fun b o hb e => by
      have hlt : @LT.lt Nat _ b s₂.heap.objs.size := Heap.lt_size e
      have hbC : @Ne Nat b C := by omega
      exact up₅ b o hb hbC (hk b o hb e)
    refine hel C i v h₅ _ _ _ _ (by omega) hPv hns₅ (by simp) old₅ (Nat.succ_le_succ (Nat.zero_le _)) fun h₇ tk₇ y hk₇ hEl => ?_
    refine ⟨h₇, tk₇, _, rfl, pl_keep hp₅ hk₇, hns₅.keeps hk₇, fun h₈ hs₈ hl₈ => ?_⟩
    have up₈ : ∀ b o, b ≠ D → h₅.get? b = some o → h₈.get? b = some o := fun b o hb e => hs₈.extBut b o hb (hk₇ b o e)
    refine ⟨W.frame _ _ _ hst₅ fun b hb o e => up₈ b o (hDf b hb) e, fun b o hb e => ?_, by simp [hlen], fun j y' hj => ?_⟩
    · have hlt : @LT.lt Nat _ b s₂.heap.objs.size := Heap.lt_size e
      have hbD : @Ne Nat b D := by omega
      exact up₈ b o hbD (old₅ b o hb e)
    · rcases Nat.lt_or_ge j ys.length with hlt | hge
      · rw [List.getElem?_append_left hlt] at hj
        refine hmono _ _ _ _ (hall j y' hj) fun b o hb e => ?_
        rcases hb with hb | ⟨hb, hbw⟩
        · have hbw : b ∉ wr := fun hw => by have := hwr b hw; exact Nat.lt_irrefl _ (Nat.lt_of_lt_of_le this (Nat.le_trans (Nat.le_add_right _ 2) hb))
          have hbD : @Ne Nat b D := by have : @LE.le Nat _ (s₂.heap.objs.size + 2) b := hb; omega
          have hbC : @Ne Nat b C := by have : @LE.le Nat _ (s₂.heap.objs.size + 2) b := hb; omega
          exact up₈ b o hbD (up₅ b o hbw hbC e)
        · have hb' : @LT.lt Nat _ b s₂.heap.objs.size := hb
          have hbD : @Ne Nat b D := by omega
          have hbC : @Ne Nat b C := by omega
          exact up₈ b o hbD (up₅ b o hbw hbC e)
      · have hj' : j = ys.length := by
          have := (List.getElem?_eq_some_iff.mp hj).1
          simp at this; omega
        subst hj'
        simp at hj
        subst hj
        rw [hlen]
        refine hmono _ _ _ _ hEl fun b o hb e => ?_
        have hbD : @Ne Nat b D := by
          rcases hb with hb | ⟨hb, _⟩
          · have : @LE.le Nat _ (s₂.heap.objs.size + 2) b := hb; omega
          · have : @LT.lt Nat _ b s₂.heap.objs.size := hb; omega
        exact hs₈.extBut b o hbD e
  done := by
    rintro C D h m ys tk E' ⟨tw1, tw2, tw3, tw4, tw5⟩ ⟨hst, hk, hlen, hall⟩ hp hns
    have hwr : ∀ b : Nat, b ∈ wr → b < s₂.heap.objs.size := fun b hb => hfp b (W.sub b hb)
    have hCw : C ∉ wr := fun hb => Nat.lt_irrefl _ (Nat.lt_of_lt_of_le (hwr C hb) tw1)
    have hDw : D ∉ wr := fun hb => Nat.lt_irrefl _ (Nat.lt_of_lt_of_le (hwr D hb) tw2)
    refine W.done _ _ E' hst fun h₃ tk₃ hk₃ => ⟨rfl, h₃, tk₃, rfl, let ⟨nn, e⟩ := hp; ⟨nn, hk₃ D _ hDw e⟩, hns.at' fun o e => hk₃ C o hCw e, fun b o hb e => hk₃ b o hb (hk b o hb e), hlen, fun j y hj => ?_⟩
    refine hmono _ _ _ _ (hall j y hj) fun b o hb e => hk₃ b o (fun hw => ?_) e
    rcases hb with hb | ⟨_, hb⟩
    · exact Nat.lt_irrefl _ (Nat.lt_of_lt_of_le (hwr b hw) (Nat.le_trans (Nat.le_add_right _ 2) hb))
    · exact hb hw
theorem csrc_name {env : Env} {scope : Scope} {cl : List (Str × Addr)} {x : Str} {q : Pos} {elt : Expr} {s₂ : Shared} {I : Addr} {fp wr : List Addr} {n : Nat} {P : Nat → Value → Prop}
    {St : Nat → Heap → Prop} (W : Walks prog w A I fp wr n P St) (hn : n ≤ 1000) (st0 : St 0 s₂.heap) (hfp : ∀ b ∈ fp, b < s₂.heap.objs.size)
    (El : Nat → Value → Heap → Prop) (hmono : ∀ i y h h', El i y h → (∀ b o, (s₂.heap.objs.size + 2 ≤ b ∨ (b < s₂.heap.objs.size ∧ b ∉ wr)) → h.get? b = some o → h'.get? b = some o) → El i y h')
    (hkind : scope.kind = .function) (h₁ : scope.names.lookup x = some .local)
    (hel : ∀ C i v h tk m (Q E' : Value → Shared → Prop), s₂.heap.objs.size + 2 ≤ h.objs.size → P i v → h.Ns C m → m x = some v → (∀ b o, b ∉ wr → s₂.heap.get? b = some o → h.get? b = some o) →
      (∀ h' tk' y, (∀ b o, h.get? b = some o → h'.get? b = some o) → El i y h' → Q y { s₂ with heap := h', toks := tk' }) → wpAny (model prog w) A (eval elt (compEnvC scope cl C env)) Q E' { s₂ with heap := h, toks := tk }) :
    CSrc prog w A env scope cl (.Name x q) [] elt (.ref I) s₂ n
      (fun i h ys => St i h ∧ (∀ b o, b ∉ wr → s₂.heap.get? b = some o → h.get? b = some o) ∧ ys.length = i ∧ ∀ j y, ys[j]? = some y → El j y h)
      (fun h ys => (∀ b o, b ∉ wr → s₂.heap.get? b = some o → h.get? b = some o) ∧ ys.length = n ∧ ∀ j y, ys[j]? = some y → El j y h) :=
  csrc_nameT W hn st0 hfp El hmono hkind h₁ fun C i v h tk m Q E' a b c d e _ => hel C i v h tk m Q E' a b c d e
end
end Mine
end

section
open PySem PySem.W PySem.Calls PyProof.Rows
set_option Elab.async false
set_option maxRecDepth 100000
set_option maxHeartbeats 4000000
namespace Mine
def StrV (v : Value) (b : Bool) : Prop := ∃ t, v = .str (letS b) t
section
variable {prog : Program} {w : World} {A : Around} {E : Value → Shared → Prop} {s : Shared}
abbrev listIt (l : Addr) : Obj := { cls := .type "list_iterator", data := .fields #[.ref l, .int 0 0] }

theorem csrc_snd {env : Env} {scope : Scope} {cl : List (Str × Addr)} {x : Str} {q p1 p2 p3 : Pos} {k : Nat} {l : Addr} {items : List Value} {D : List Addr} {Cs : List (Int × Bool)}
    (hh : A.handled = none) (hl : s.heap.IsList l items.toArray) (hr : Rel (TupV D s.heap) items Cs) (hn : Cs.length ≤ 1000) (hkind : scope.kind = .function) (h₁ : scope.names.lookup x = some .local) (hd : (x == ("__debug__" : Str)) = false) :
    CSrc prog w A env scope cl (.Name x q) [] (.Subscript (.Name x p1) (.Constant (.int 1) k p2) p3) (.ref s.heap.objs.size) { s with heap := s.heap.push (listIt l) } items.toArray.size
      (fun i (h : Heap) (ys : List Value) => (h.IsListIter s.heap.objs.size l i ∧ h.IsList l items.toArray) ∧ (∀ b o, b ∉ [s.heap.objs.size] → (s.heap.push (listIt l)).get? b = some o → h.get? b = some o) ∧ ys.length = i ∧ ∀ (j : Nat) (y : Value), ys[j]? = some y → ∃ c : Int × Bool, Cs[j]? = some c ∧ StrV y c.2)
      (fun (h : Heap) (ys : List Value) => (∀ b o, b ∉ [s.heap.objs.size] → (s.heap.push (listIt l)).get? b = some o → h.get? b = some o) ∧ ys.length = items.toArray.size ∧ ∀ (j : Nat) (y : Value), ys[j]? = some y → ∃ c : Int × Bool, Cs[j]? = some c ∧ StrV y c.2) := by
  have hlt : @LT.lt Nat _ l s.heap.objs.size := by obtain ⟨o, ho, _⟩ := hl; exact Heap.lt_size ho
  have hne : l ≠ s.heap.objs.size := Nat.ne_of_lt hlt
  refine csrc_name (s₂ := { s with heap := s.heap.push (listIt l) }) (Walks.list hh s.heap.objs.size l hne items.toArray) (by rw [List.size_toArray, hr.1]; exact hn) ⟨⟨_, Heap.get?_push_size _ rfl, rfl, rfl⟩, hl.at fun o e => Heap.get?_push_of_some _ e⟩
    (fun b hb => ?_) (fun (j : Nat) (y : Value) (_ : Heap) => ∃ c : Int × Bool, Cs[j]? = some c ∧ StrV y c.2) (fun _ _ _ _ e _ => e) hkind h₁ ?_
  · have e : (s.heap.push (listIt l)).objs.size = s.heap.objs.size + 1 := Heap.size_push ..
    simp only [List.mem_cons, List.not_mem_nil, or_false] at hb
    show @LT.lt Nat _ b (s.heap.push (listIt l)).objs.size
    rcases hb with rfl | rfl
    · rw [e]; exact Nat.lt_succ_self _
    · rw [e]; exact Nat.lt_succ_of_lt hlt
  · intro C i v h tk m Q E' hC hP hns hx hold hQ
    have hP' : items[i]? = some v := by simpa using hP
    have hi : i < Cs.length := by rw [← hr.1]; exact (List.getElem?_eq_some_iff.mp hP').1
    obtain ⟨a, t, tt, n, rfl, _, ha⟩ := hr.2 i v Cs[i] hP' (by simp [hi])
    have hkind' : (compEnvC scope cl C env).scope.kind = .function := by simp [compEnvC, relabel, hkind]
    refine Subscript_ (eval_local hns hx ?_ hkind' (lookup_relabel_local h₁) hd)
    refine wpAny_Constant_int ?_
    have ha' : @LT.lt Nat _ a s.heap.objs.size := Heap.lt_size ha
    have hne' : @Ne Nat a s.heap.objs.size := by omega
    have ht : IsTup h a [Value.int (Cs[i]).1 t, Value.str (letS (Cs[i]).2) tt].toArray := ⟨_, hold a _ (by simpa using hne') (Heap.get?_push_of_some _ ha), rfl, n, rfl⟩
    refine tup_item ht (by omega) (by omega) rfl ?_
    exact hQ h _ _ (fun b o e => e) ⟨Cs[i], by simp [hi], tt, rfl⟩

theorem none_above {g h : Heap} {L : Addr} {m : Str → Option Value} (F : Fr g L h m) {b : Nat} (hb : @LT.lt Nat _ L b) : g.get? b = none := by
  cases e : g.get? b with
  | none => rfl
  | some o =>
    have q : @LT.lt Nat _ b g.objs.size := Heap.lt_size e
    have a : @LE.le Nat _ g.objs.size L := F.above
    omega

theorem store_comp {s₂ : Shared} {g h₁ : Heap} {L f : Addr} {cd : Value} {m : Str → Option Value} {name : Str} {scope : Scope} {y : Str} {C D : Nat} {ys : List Value} {wr : List Addr} {tk2 : Nat} {Q : Flow → Shared → Prop}
    (F2 : Fr g L s₂.heap m) (tw : Two s₂ C D) (hp : h₁.PlainList D ys.toArray) (hk : ∀ b o, b ∉ wr → s₂.heap.get? b = some o → h₁.get? b = some o) (hwr : ∀ b : Nat, b ∈ wr → @LT.lt Nat _ L b)
    (hkind : scope.kind = .function) (hloc : (envOf name scope L f cd).kindOf y = some .local)
    (h : ∀ h₄ tk', Fr g L h₄ (fun z => if z = y then some (.ref D) else m z) → h₄.PlainList D ys.toArray → Mv (L :: wr) s₂.heap h₄ → Mv [L, C] h₁ h₄ → @LT.lt Nat _ L D → Q .next { s₂ with heap := h₄, toks := tk' }) :
    wpAny (model prog w) A (storeName (envOf name scope L f cd) y (.ref D)) (fun _ s₃ => ∃ h₃ tk₃, s₃ = { s₂ with heap := h₃, toks := tk₃ } ∧ (∀ o, h₁.get? C = some o → h₃.get? C = some o) ∧
      ∀ h₄, Heap.SameBut C h₃ h₄ → Q .next { s₂ with heap := h₄, toks := tk₃ }) E { s₂ with heap := h₁, toks := tk2 } := by
  obtain ⟨tw1, tw2, tw3, tw4, tw5⟩ := tw
  have hL5 : @LT.lt Nat _ L s₂.heap.objs.size := F2.ns.lt
  have F1 : Fr g L h₁ m := Fr.mv F2 (fun b o hb e => hk b o hb e) (fun q => Nat.lt_irrefl _ (hwr L q)) (fun b hb => none_above F2 (hwr b hb))
  have hCL : @Ne Nat C L := by omega
  have hDL : @Ne Nat D L := by omega
  have hLD : @LT.lt Nat _ L D := by omega
  refine stL F1 (fun h₃ F3 mv3 => ⟨h₃, _, rfl, fun o e => mv3 C o (by simpa using hCL) e, fun h₄ hs4 => ?_⟩) hkind hloc
  have mv4 : Mv [C] h₃ h₄ := Mv.same hs4 (by simp)
  have F4 := Fr.mv F3 mv4 (by simpa using Ne.symm hCL) (fun (b : Nat) hb => none_above F2 (by have e : b = C := List.mem_singleton.mp hb; show @LT.lt Nat _ L b; omega))
  refine h h₄ _ F4 (pl_mv (pl_mv hp mv3 (by simpa using hDL)) mv4 (by simpa using Ne.symm tw5)) (fun b o hb e => ?_) (Mv.trans (Mv.sub mv3 (by simp)) (Mv.sub mv4 (by simp))) hLD
  simp only [List.mem_cons, not_or] at hb
  have hb' : @LT.lt Nat _ b s₂.heap.objs.size := Heap.lt_size e
  have hbC : @Ne Nat b C := by omega
  exact mv4 b o (by simpa using hbC) (mv3 b o (by simpa using hb.1) (hk b o hb.2 e))

theorem asg_comp {elt target iter : Expr} {ifs : List Expr} {cscope : Scope} {cl : List (Str × Addr)} {name : Str} {scope : Scope} {L f : Addr} {cd : Value} {g : Heap} {pos py spos : Pos} {y : Str} {Q : Flow → Shared → Prop}
    (hsw : swapsWith (.ListComp elt [⟨target, iter, ifs, 0⟩] cscope pos) (some (.Name y py)) spos.line (envOf name scope L f cd) = pure true)
    (hclos : closureFor cscope (envOf name scope L f cd) = pure cl) (hck : cscope.kind = .function) (hnames : ∀ x ∈ cscope.names, x.2 = .local → cscope.names.lookup x.1 = some .local) (hcell : ∀ y ∈ cscope.names, y.2 ≠ .cell)
    (hkind : scope.kind = .function) (hloc : (envOf name scope L f cd).kindOf y = some .local)
    (h : wpAny (model prog w) A (eval iter (envOf name scope L f cd)) (fun x s₁ => wpAny (model prog w) A (pyIter x) (fun it s₂ => ∃ n J Fin m wr, CSrc prog w A (envOf name scope L f cd) cscope cl target ifs elt it s₂ n J Fin ∧
      Fr g L s₂.heap m ∧ (∀ b : Nat, b ∈ wr → @LT.lt Nat _ L b) ∧ (∀ h₁ ys, Fin h₁ ys → ∀ b o, b ∉ wr → s₂.heap.get? b = some o → h₁.get? b = some o) ∧
      (∀ C D h₁ ys h₄ tk', Two s₂ C D → ys.length ≤ n → Fin h₁ ys → Fr g L h₄ (fun z => if z = y then some (.ref D) else m z) → h₄.PlainList D ys.toArray → Mv (L :: wr) s₂.heap h₄ → Mv [L, C] h₁ h₄ → @LT.lt Nat _ L D → Q .next { s₂ with heap := h₄, toks := tk' })) E s₁) E s)
    (hs : ∀ x, foldedSetIterable iter (envOf name scope L f cd) x = pure x := by intro _; rfl) :
    wpAny (model prog w) A (exec (.Assign [.Name y py] (.ListComp elt [⟨target, iter, ifs, 0⟩] cscope pos) spos) (envOf name scope L f cd)) Q E s := by
  refine Assign_ListComp_u hsw hclos hck hnames hcell (wpAny_mono h (fun x s₁ h₁ => wpAny_mono h₁ (fun it s₂ h₂ => ?_) fun _ _ e => e) fun _ _ e => e) hs
  obtain ⟨n, J, Fin, m, wr, S, F2, hwr, hfin, fin⟩ := h₂
  exact ⟨n, J, Fin, S, fun C D h₁ ys tk tw hp hy hf => store_comp F2 tw hp (hfin h₁ ys hf) hwr hkind hloc fun h₄ tk' F4 hp4 mv4 mv4' hLD => fin C D h₁ ys h₄ tk' tw hy hf F4 hp4 mv4 mv4' hLD⟩

theorem iter_range {r : Addr} {a b : Int} {n : Nat} {t u v : Tok} {Q : Value → Shared → Prop} (hr : IsRange s.heap r a b 1 t u v) (hb : b = a + n ∨ (n = 0 ∧ b ≤ a ∧ -1000 ≤ b)) (ha : 0 ≤ a) (hle : a + n ≤ 100000)
    (h : (∀ I, I = s.heap.objs.size → IsRangeIter (s.heap.push { cls := .type "range_iterator", data := .fields #[rawInt a, rawInt n, rawInt 1] }) I (a + ((0 : Nat) : Int) * 1) ((n : Int) - ((0 : Nat) : Int)) 1) →
      Q (.ref s.heap.objs.size) { s with heap := s.heap.push { cls := .type "range_iterator", data := .fields #[rawInt a, rawInt n, rawInt 1] } }) :
    wpAny (model prog w) A (pyIter (.ref r)) Q E s := by
  have hsz : Builtin.Range.rangeSize a b 1 = n := by
    unfold Builtin.Range.rangeSize
    rw [if_pos (by omega)]
    split
    · rw [Int.ediv_one]; omega
    · omega
  have hsm : Builtin.Range.small a b 1 = true := by
    unfold Builtin.Range.small
    rw [hsz]
    unfold Builtin.Range.rangeFitsLong
    simp only [Bool.and_eq_true, Bool.or_eq_true, decide_eq_true_eq, beq_iff_eq]
    rcases hb with hb | ⟨hn, hb1, hb2⟩
    · refine ⟨⟨⟨⟨?_, ?_⟩, ?_⟩, ?_⟩, Or.inr ?_⟩
      all_goals first | omega | (rw [if_pos (by omega)]; simp only [Bool.and_eq_true, decide_eq_true_eq]; omega)
    · refine ⟨⟨⟨⟨?_, ?_⟩, ?_⟩, ?_⟩, Or.inr ?_⟩
      all_goals first | omega | (rw [if_pos (by omega)]; simp only [Bool.and_eq_true, decide_eq_true_eq]; omega)
  refine wpAny_pyIter_range hr hsm ?_
  rw [hsz]
  refine h fun I e => ?_
  subst e
  show IsRangeIter _ _ _ _ _
  simpa using Heap.get?_push_size _ rfl
end
end Mine
end

section
open PySem PySem.W PySem.Calls PyProof.Rows
set_option Elab.async false
set_option maxRecDepth 100000
set_option maxHeartbeats 4000000
namespace Mine
section
variable {prog : Program} {w : World} {A : Around} {s : Shared} {name : Str} {scope : Scope} {L f : Addr} {cd : Value}

structure ForOk (prog : Program) (w : World) (A : Around) (g : Heap) (L : Addr) (env : Env) (x : Str) (body : List Stmt) (Q : Flow → Shared → Prop) (it : Value) (s : Shared)
    (I : Addr) (fp wr : List Addr) (n : Nat) (P : Nat → Value → Prop) (St : Nat → Heap → Prop) (m : Str → Option Value) (J : Nat → Heap → (Str → Option Value) → Prop) : Prop where
  it : it = .ref I
  W : Walks prog w A I fp wr n P St
  Lf : L ∉ fp
  wn : ∀ b ∈ wr, g.get? b = none
  st0 : St 0 s.heap
  F : Fr g L s.heap m
  j0 : J 0 s.heap m
  keep : ∀ i h h' m, J i h m → (∀ b o, b ∉ wr → b ≠ L → h.get? b = some o → h'.get? b = some o) → J i h' m
  step : ∀ i v h tk m E', i < n → P i v → J i h m → Fr g L h (fun y => if y = x then some v else m y) → (∀ b ∈ fp, ∃ o, h.get? b = some o) →
      wpAny (model prog w) A (execs body env) (fun f s₃ => f = .next ∧ ∃ h' tk' m', s₃ = { s with heap := h', toks := tk' } ∧ Fr g L h' m' ∧ J (i + 1) h' m' ∧ (∀ b ∈ fp, ∀ o, h.get? b = some o → h'.get? b = some o)) E' { s with heap := h, toks := tk }
  done : ∀ h tk m, Fr g L h m → J n h m → Q .next { s with heap := h, toks := tk }

theorem for_ {x : Str} {px pos : Pos} {iter : Expr} {body : List Stmt} {g : Heap} {E : Value → Shared → Prop} {Q : Flow → Shared → Prop}
    (hk : scope.kind = .function) (hx : (envOf name scope L f cd).kindOf x = some .local)
    (h : wpAny (model prog w) A (eval iter (envOf name scope L f cd)) (fun xv s₁ => wpAny (model prog w) A (pyIter xv) (fun it s₂ => ∃ I fp wr n P St m J,
        (∀ i h, St i h → ∀ b ∈ fp, ∃ o, h.get? b = some o) ∧ ForOk prog w A g L (envOf name scope L f cd) x body Q it s₂ I fp wr n P St m J) E s₁) E s)
    (hs : ∀ x, foldedSetIterable iter (envOf name scope L f cd) x = pure x := by intro _; rfl) :
    wpAny (model prog w) A (exec (.For (.Name x px) iter body [] pos) (envOf name scope L f cd)) Q E s := by
  refine wpAny_For (wpAny_mono h (fun xv s₁ h₁ => wpAny_mono h₁ (fun it s₂ h₂ => ?_) fun _ _ e => e) fun _ _ e => e) hs
  obtain ⟨I, fp, wr, n, P, St, m, J, live, K⟩ := h₂
  have hit := K.it
  subst hit
  have hLw : L ∉ wr := fun h => K.Lf (K.W.sub _ h)
  have old : ∀ b o, g.get? b = some o → b ∉ wr := fun b o e hb => by rw [K.wn b hb] at e; cases e
  have hp : ((envOf name scope L f cd).scope.kind == .class || ((envOf name scope L f cd).scope.kind == .module && (envOf name scope L f cd).locals != (envOf name scope L f cd).globals)) = false := by
    show (scope.kind == .class || (scope.kind == .module && L != mainGlobals)) = false; rw [hk]; rfl
  refine codeAny_forLoop
    (fun k s' => ∃ h' tk m' i, s' = { s₂ with heap := h', toks := tk } ∧ St i h' ∧ Fr g L h' m' ∧ J i h' m' ∧ i ≤ n ∧ k = n + 1 - i) ?_ (n + 1)
    ⟨s₂.heap, s₂.toks, m, 0, rfl, K.st0, K.F, K.j0, Nat.zero_le _, rfl⟩
  rintro k s' ⟨h', tk, m', i, rfl, hst', F', hJ, hi, rfl⟩
  have next : ∀ h₁ : Heap, (∀ b o, b ∉ wr → h'.get? b = some o → h₁.get? b = some o) → Fr g L h₁ m' := fun h₁ hk₁ =>
    ⟨F'.ns.at' fun o e => hk₁ _ o hLw e, fun b o e => hk₁ b o (old b o e) (F'.keep b o e), F'.above⟩
  by_cases hlt : i < n
  · refine K.W.item i _ _ _ hlt hst' fun v h₁ tk₁ hP hst₁ hk₁ => ?_
    have F₁ := next h₁ hk₁
    refine wpAny_assign_Name (wpAny_storeName_local hx F₁.ns (fun h₂ hn₂ hs₂ => ?_) hp)
    have F₂ := F₁.set hn₂ hs₂
    have J₂ : J i h₂ m' := K.keep i _ _ _ hJ fun b o hb hbL e => hs₂.extBut b o hbL (hk₁ b o hb e)
    have st₂ : St (i + 1) h₂ := K.W.frame _ _ _ hst₁ fun b hb o e => hs₂.extBut b o (fun (q : b = L) => K.Lf (q ▸ hb)) e
    refine wpAny_mono (K.step i v h₂ _ m' _ hlt hP J₂ F₂ (live _ _ st₂)) (fun f s₃ h₃ => ?_) fun _ _ e => e
    obtain ⟨rfl, h₃', tk₃, m₂, rfl, F₃, J₃, hfp⟩ := h₃
    exact ⟨n + 1 - (i + 1), by omega, h₃', tk₃, m₂, i + 1, rfl, K.W.frame _ _ _ st₂ hfp, F₃, J₃, hlt, rfl⟩
  · have hin : i = n := by omega
    subst hin
    refine K.W.done _ _ _ hst' fun h₁ tk₁ hk₁ => wpAny_execs_nil ?_
    exact K.done h₁ tk₁ m' (next h₁ hk₁) (K.keep i _ _ _ hJ fun b o hb _ e => hk₁ b o hb e)
end
end Mine
end

section
open PySem PySem.W PySem.Calls PyProof.Rows
set_option Elab.async false
set_option maxRecDepth 100000
set_option maxHeartbeats 4000000
namespace Mine
def runSt (bs : List Bool) : Nat → List Int × Int
  | 0 => ([], 1)
  | k + 1 => if bs[k + 1]? = bs[k]? then ((runSt bs k).1, (runSt bs k).2 + 1) else ((runSt bs k).1 ++ [(runSt bs k).2], 1)
def runsOf (bs : List Bool) : List Int := (runSt bs (bs.length - 1)).1 ++ [(runSt bs (bs.length - 1)).2]
theorem runSt_len (bs : List Bool) : ∀ k, (runSt bs k).1.length ≤ k
  | 0 => Nat.le_refl _
  | k + 1 => by
    unfold runSt
    split
    · exact Nat.le_succ_of_le (runSt_len bs k)
    · simpa using runSt_len bs k
theorem runSt_same {bs : List Bool} {k : Nat} (h : bs[k + 1]? = bs[k]?) : runSt bs (k + 1) = ((runSt bs k).1, (runSt bs k).2 + 1) := by rw [runSt, if_pos h]
theorem runSt_diff {bs : List Bool} {k : Nat} (h : ¬ bs[k + 1]? = bs[k]?) : runSt bs (k + 1) = ((runSt bs k).1 ++ [(runSt bs k).2], 1) := by rw [runSt, if_neg h]
theorem letS_eq (a b : Bool) : (letS a == letS b) = (a == b) := by cases a <;> cases b <;> decide

section
variable {prog : Program} {w : World} {A : Around} {E : Value → Shared → Prop} {s : Shared}
theorem eq_let {a b : Bool} {t u : Tok} {Q : Value → Shared → Prop} (h : Q (.bool (a == b)) s) : wpAny (model prog w) A (compareOp .Eq (.str (letS a) t) (.str (letS b) u)) Q E s :=
  PyProof.Rows.eq_str (by rw [letS_eq]; exact h)
end
theorem ints_snoc {vs : List Value} {ns : List Int} {n : Int} {t : Tok} (h : IntsAre vs ns) : IntsAre (vs ++ [.int n t]) (ns ++ [n]) := by
  induction h with
  | nil => exact .cons _ _ .nil
  | cons m t' _ ih => exact .cons _ _ ih
theorem ints_unsnoc {vs : List Value} {ns : List Int} {n : Int} (h : IntsAre vs (ns ++ [n])) : ∃ vs' x t, vs = vs' ++ [Value.int x t] ∧ x = n ∧ IntsAre vs' ns := by
  induction ns generalizing vs with
  | nil =>
    cases h with
    | cons m t h' => cases h'; exact ⟨[], n, t, rfl, rfl, .nil⟩
  | cons a ns ih =>
    cases h with
    | cons m t h' =>
      obtain ⟨vs', x, t', rfl, e, hi⟩ := ih h'
      exact ⟨_ :: vs', x, t', rfl, e, .cons _ _ hi⟩
end Mine
end

section
open PySem PySem.W PySem.Calls PyProof.Rows
set_option Elab.async false
set_option maxRecDepth 100000
set_option maxHeartbeats 8000000
namespace Mine
theorem fillK_LR : PySem.Challenge.rw_au6018_01 = PySem.Challenge.rw_au6018_01 → hd.heap_39 = hd.heap_39 → True := by
  k_fill
  intro _ _; trivial

theorem law_runs_spec {w : World} {A : Around} {s : Shared} {R : Result → Shared → Prop} {mg mb} (hA : AOk A 2)
  (KX : (hd.heap_39 w.params).In s.heap) (T : TopRead hd.view_39 LOOSE mg mb s.heap)
  {l : Addr} {ys : List Value} {bs : List Bool} (hl : s.heap.PlainList l ys.toArray) (hys : Rel StrV ys bs) (hn : 1 ≤ bs.length) (hn2 : bs.length ≤ 8)
  (hR : ∀ h tk r rs, (∀ b o, s.heap.get? b = some o → h.get? b = some o) → s.heap.get? r = none → h.PlainList r rs.toArray → IntsAre rs (runsOf bs) → R (.ok (.ret (.ref r))) { s with heap := h, toks := tk }) :
  codeAny (model PG w) A (.call (.ref 695) ⟨[.ref l], []⟩) R s := by
  refine' enterK (binds := [(Str.ofString "letters", .ref l)]) KX T.nolimit ?k1 ?k2 ?k3 ?k4 ?k5 ?h ?k6 ?k7 ?k8 ?k9
  case k1 => k_is
  case k2 => k_is
  case k3 => exact hA.room
  case k4 => exact BindsTo.of_eq (by rfl)
  case k5 => exact locs (by rfl)
  case k6 => decide
  case k7 => rfl
  case k8 => rfl
  case k9 => rfl
  intro h₀ F
  generalize hL : s.heap.objs.size = L at F ⊢
  generalize hm : (fun y => List.lookup y [(Str.ofString "letters", Value.ref l)].reverse) = m₀ at F
  have m1 : m₀ (Str.ofString "letters") = some (.ref l) := by rw [← hm]; rfl
  clear hm
  have hll : @LT.lt Nat _ l s.heap.objs.size := plt_lt hl
  have hlL : @Ne Nat l L := by omega
  have hl0 : h₀.PlainList l ys.toArray := pl_keep hl F.keep
  have hL0 : @LT.lt Nat _ L h₀.objs.size := F.ns.lt
  refine wpAny_execs_cons (wpAny_Assign_Name (List_ (args_cons (wpAny_Constant_int ?_))))
  refine args_nil (wpAny_newList ?_ (by show (1 : Nat) ≤ _; rw [sizeLine_eq]; omega))
  refine stL (s := { s with heap := h₀.push _, toks := _ }) (F.push _) (fun h6 F6 mv6 => ?_) rfl (by rfl)
  dsimp only
  have hne2 : @Ne Nat h₀.objs.size L := by omega
  have hne3 : @Ne Nat l h₀.objs.size := by omega
  generalize htok : Value.int 1 _ = v1 at mv6
  have hc6 : h6.PlainList h₀.objs.size ([v1] : List Value).toArray := pl_mv (pl_new h₀ _) mv6 (by simpa using hne2)
  have hp6 : h6.PlainList l ys.toArray := pl_mv (pl_keep hl0 fun b o e => Heap.get?_push_of_some _ e) mv6 (by simpa using hlL)
  generalize hca : h₀.objs.size = ca at hc6 hne2 hne3 F6
  generalize hm6 : (fun y => if y = Str.ofString "rows" then _ else _) = m6 at F6
  have m6cs : m6 (Str.ofString "letters") = some (.ref l) := by rw [← hm6]; exact m1
  have m6ccs : m6 (Str.ofString "rows") = some (.ref ca) := by rw [← hm6]; rfl
  clear hm6
  have hgca : s.heap.get? ca = none := none_above F6 (by omega)
  have hyl : ys.length = bs.length := hys.1
  refine wpAny_execs_cons (wpAny_mono (Q := fun f s' => f = .next ∧ ∃ h tk m rs, s' = { s with heap := h, toks := tk } ∧ Fr s.heap L h m ∧ m (Str.ofString "rows") = some (.ref ca) ∧
      h.PlainList ca rs.toArray ∧ IntsAre rs (runsOf bs)) ?f1 (fun f s' hm => ?r1) (fun _ _ e => e))
  case f1 =>
    refine for_ (g := s.heap) rfl (by rfl) ?_
    refine Call_ ?_
    refine name_B F6 KX T (by k_is) (by boot_by_name) (by decide) ?_
    refine cw_type1 ?_
    refine args_cons (wpAny_Constant_int ?_)
    refine args_cons (Call_ ?_)
    refine name_B F6 KX T (by k_is) (by boot_by_name) (by decide) ?_
    refine callWith_method1 ?_
    refine args_cons (ld F6 m6cs ?_)
    refine args_nil ?_
    refine pl_len hp6 (by omega) fun t6 => ?_
    refine args_nil ?_
    refine call_range_2 ?_
    dsimp only
    refine iter_range (IsRange.new _ _ _ _ _ _ _) (n := ys.length - 1) (Or.inl (by omega)) (by omega) (by omega) fun hit => ?_
    dsimp only at hit ⊢
    generalize hH : (h6.push _).push _ = H at hit ⊢
    have hkeep : ∀ b o, h6.get? b = some o → H.get? b = some o := fun b o e => by rw [← hH]; exact Heap.get?_push_of_some _ (Heap.get?_push_of_some _ e)
    have FH : Fr s.heap L H m6 := F6.keeps hkeep
    have hL6 : @LT.lt Nat _ L h6.objs.size := F6.ns.lt
    have hca6 : @LT.lt Nat _ ca h6.objs.size := plt_lt hc6
    have hD6 : @LT.lt Nat _ l h6.objs.size := plt_lt hp6
    generalize hIe : Array.size (Heap.objs (Heap.push h6 _)) = I at hit ⊢
    have hIs : I = h6.objs.size + 1 := by rw [← hIe, Heap.size_push]
    have nIL : @Ne Nat L I := by omega
    have nIca : @Ne Nat ca I := by omega
    have nID : @Ne Nat l I := by omega
    have hLI : @LT.lt Nat _ L I := by omega
    refine ⟨I, [I], [I], ys.length - 1, _, _, m6, fun i h m => (m (Str.ofString "letters") = some (.ref l) ∧ m (Str.ofString "rows") = some (.ref ca)) ∧
      ∃ rs : List Value, h.PlainList l ys.toArray ∧ h.PlainList ca rs.toArray ∧ IntsAre rs ((runSt bs i).1 ++ [(runSt bs i).2]), ?live, ⟨rfl, Walks.range (by exact hA.2.1) I 1 1 (ys.length - 1), by simpa using nIL, ?wn, hit I rfl, FH, ⟨⟨m6cs, m6ccs⟩, [v1], pl_keep hp6 hkeep, pl_keep hc6 hkeep, ?j0⟩, ?keep, ?step, ?done⟩⟩
    case live => intro i h st b hb; rw [List.mem_singleton.mp hb]; exact ⟨_, st⟩
    case wn => intro b hb; rw [List.mem_singleton.mp hb]; exact none_above FH hLI
    case j0 => rw [← htok]; exact .cons _ _ .nil
    case keep =>
      rintro i h h' m ⟨hm, rs, ⟨n1, e1⟩, ⟨n2, e2⟩, hi⟩ hk
      exact ⟨hm, rs, ⟨n1, hk _ _ (by simpa using nID) hlL e1⟩, ⟨n2, hk _ _ (by simpa using nIca) hne2 e2⟩, hi⟩
    case done =>
      rintro h tk m F ⟨⟨a1, a2⟩, rs, p1, p2, hi⟩
      have e : ys.length - 1 = bs.length - 1 := by rw [hyl]
      rw [e] at hi
      exact ⟨rfl, h, tk, m, rs, rfl, F, a2, p2, hi⟩
    case step =>
      rintro i v h tk m E' hi ⟨tv, rfl⟩ ⟨⟨a1, a2⟩, rs, p1, p2, hints⟩ F hfp
      have hi1 : i + 1 < bs.length := by omega
      have b1e : bs[i + 1]? = some bs[i + 1] := by simp [hi1]
      have b0e : bs[i]? = some bs[i] := by simp [show i < bs.length by omega]
      obtain ⟨y1, hy1, t1, rfl⟩ := hys.get b1e
      obtain ⟨y0, hy0, t0, rfl⟩ := hys.get b0e
      have k1 : (1 + (i : Int) * 1).toNat = i + 1 := by omega
      have k0 : (1 + (i : Int) * 1 - 1).toNat = i := by omega
      refine wpAny_execs_cons (wpAny_If (wpAny_isTrue_Compare1 (Subscript_ (ld F (by rw [if_neg (by decide)]; exact a1) ?_))))
      refine ld F (by rw [if_pos rfl]) ?_
      refine pl_item p1 (by omega) (by omega) (by rw [k1]; exact hy1) ?_
      refine Subscript_ (ld F (by rw [if_neg (by decide)]; exact a1) ?_)
      refine wpAny_BinOp (ld F (by rw [if_pos rfl]) ?_)
      refine wpAny_Constant_int ?_
      refine sub_int ?_
      refine pl_item p1 (by omega) (by omega) (by rw [k0]; exact hy0) ?_
      refine eq_let (wpAny_truthy_bool ?_)
      have hrs : rs.length ≤ i + 1 := by rw [hints.length]; simpa using runSt_len bs i
      by_cases hb : bs[i + 1] = bs[i]
      · rw [if_pos (by simpa using hb)]
        refine wpAny_execs_cons (wpAny_AugAssign_Subscript_any (ld F (by rw [if_neg (by decide)]; exact a2) ?_))
        refine UnaryOp_ (wpAny_Constant_int (neg_int ?_))
        obtain ⟨rs', vl, tl, rfl, hrs'⟩ : ∃ rs' vl tl, rs = rs' ++ [Value.int vl tl] ∧ vl = (runSt bs i).2 ∧ IntsAre rs' (runSt bs i).1 := ints_unsnoc hints
        refine pl_getneg p2 ?_
        refine wpAny_Constant_int ?_
        refine iadd_int ?_
        refine pl_setneg (s := { s with heap := h, toks := _ }) p2 fun h' hp' hs' => ?_
        have mv : Mv [ca] h h' := Mv.same hs' (by simp)
        refine wpAny_execs_nil (wpAny_execs_nil ⟨rfl, h', _, _, rfl, Fr.mv F mv (by simpa using Ne.symm hne2) (by simpa using hgca), ⟨⟨?_, ?_⟩, _, pl_mv p1 mv (by simpa using hne3), hp', ?_⟩, fun b hb o e => mv b o (by rw [List.mem_singleton.mp hb]; simpa using Ne.symm nIca) e⟩)
        · rw [if_neg (by decide)]; exact a1
        · rw [if_neg (by decide)]; exact a2
        · rw [runSt_same (by rw [b1e, b0e, hb])]
          rw [hrs'.1]
          exact ints_snoc hrs'.2
      · rw [if_neg (by simpa using hb)]
        refine wpAny_execs_cons (Expr_none (MethodCall_ (ld F (by rw [if_neg (by decide)]; exact a2) ?_)) (by rfl) (by rfl))
        refine pl_method p2 PySem.F.slot_list_append rfl ?_
        refine callWith_method1 ?_
        refine args_cons (wpAny_Constant_int ?_)
        refine args_nil ?_
        refine pl_append (s := { s with heap := h, toks := _ }) p2 (by omega) fun h8 hp8 hs8 => ⟨rfl, ?_⟩
        have mv8 : Mv [ca] h h8 := Mv.same hs8 (by simp)
        have F8 := Fr.mv F mv8 (by simpa using Ne.symm hne2) (by simpa using hgca)
        refine wpAny_execs_nil (wpAny_execs_nil ⟨rfl, h8, _, _, rfl, F8, ⟨⟨?_, ?_⟩, _, pl_mv p1 mv8 (by simpa using hne3), hp8, ?_⟩,
          fun b hb o e => mv8 b o (by rw [List.mem_singleton.mp hb]; simpa using Ne.symm nIca) e⟩)
        · rw [if_neg (by decide)]; exact a1
        · rw [if_neg (by decide)]; exact a2
        · rw [runSt_diff (by rw [b1e, b0e]; simpa using hb)]; exact ints_snoc hints
  obtain ⟨rfl, h7, tk7, m7, rs, rfl, F7, m7ccs, hc7, hr7⟩ := hm
  dsimp only
  refine wpAny_execs_cons (wpAny_Return_some (ld F7 m7ccs ?_))
  exact hR h7 _ ca _ F7.keep hgca hc7 hr7
end Mine
end

section
open PySem PySem.W PySem.Calls PyProof.Rows
set_option Elab.async false
set_option maxRecDepth 100000
set_option maxHeartbeats 8000000
namespace Mine
theorem fillK_MC : PySem.Challenge.rw_au6018_01 = PySem.Challenge.rw_au6018_01 → hd.heap_39 = hd.heap_39 → True := by
  k_fill
  intro _ _; trivial

theorem make_compact_spec {w : World} {A : Around} {s : Shared} {R : Result → Shared → Prop} {mg mb} (hA : AOk A 2)
  (KX : (hd.heap_39 w.params).In s.heap) (T : TopRead hd.view_39 LOOSE mg mb s.heap)
  {l : Addr} {vs : List Value} {D : List Addr} {C : List (Int × Bool)} (hl : s.heap.PlainList l vs.toArray) (hr : Rel (TupV D s.heap) vs C) (hn : 1 ≤ C.length) (hn2 : C.length ≤ 8)
  (hR : ∀ h tk r rs, (∀ b o, s.heap.get? b = some o → h.get? b = some o) → s.heap.get? r = none → h.PlainList r rs.toArray → IntsAre rs (runsOf (C.map (·.2))) → R (.ok (.ret (.ref r))) { s with heap := h, toks := tk }) :
  codeAny (model PG w) A (.call (.ref 652) ⟨[.ref l], []⟩) R s := by
  refine' enterK (binds := [(Str.ofString "creation_sequence", .ref l)]) KX T.nolimit ?k1 ?k2 ?k3 ?k4 ?k5 ?h ?k6 ?k7 ?k8 ?k9
  case k1 => k_is
  case k2 => k_is
  case k3 => exact hA.room
  case k4 => exact BindsTo.of_eq (by rfl)
  case k5 => exact locs (by rfl)
  case k6 => decide
  case k7 => rfl
  case k8 => rfl
  case k9 => rfl
  intro h₀ F
  generalize hL : s.heap.objs.size = L at F ⊢
  generalize hm : (fun y => List.lookup y [(Str.ofString "creation_sequence", Value.ref l)].reverse) = m₀ at F
  have m1 : m₀ (Str.ofString "creation_sequence") = some (.ref l) := by rw [← hm]; rfl
  clear hm
  have hll : @LT.lt Nat _ l s.heap.objs.size := plt_lt hl
  have hlL : @Ne Nat l L := by omega
  have hl0 : h₀.PlainList l vs.toArray := pl_keep hl F.keep
  obtain ⟨c0, hc0⟩ : ∃ c0, C[0]? = some c0 := ⟨C[0], by simp⟩
  obtain ⟨v0, hv0, a0, t0, tt0, n0, rfl, ha0D, ha0⟩ := hr.get hc0
  refine wpAny_execs_cons (wpAny_Assign_Name (Subscript_ (ld F m1 ?_)))
  refine wpAny_Constant_int ?_
  refine pl_item hl0 (by omega) (by omega) hv0 ?_
  refine stL (s := { s with heap := h₀, toks := _ }) F (fun h1 F1 mv1 => ?_) rfl (by rfl)
  have hl1 : h1.PlainList l vs.toArray := pl_mv hl0 mv1 (by simpa using hlL)
  refine wpAny_execs_cons (wpAny_If (isTrue_plain (Call_ ?_)))
  refine name_B F1 KX T (by k_is) (by boot_by_name) (by decide) ?_
  refine callWith_method1 ?_
  refine args_cons (ld F1 (by rw [if_pos rfl]) ?_)
  refine args_cons ?_
  refine name_B F1 KX T (by k_is) (by boot_by_name) (by decide) ?_
  refine args_nil ?_
  have ht0 : s.heap.IsTuple a0 #[Value.int c0.1 t0, Value.str (letS c0.2) tt0] := ⟨_, ha0, rfl, n0, rfl⟩
  refine IsiPair.isTuple_str ht0 F1.keep ?_
  refine wpAny_truthy_bool ?_
  rw [if_neg Bool.false_ne_true]
  refine wpAny_execs_cons (wpAny_If (isTrue_plain (Call_ ?_)))
  refine name_B F1 KX T (by k_is) (by boot_by_name) (by decide) ?_
  refine callWith_method1 ?_
  refine args_cons (ld F1 (by rw [if_pos rfl]) ?_)
  refine args_cons ?_
  refine name_B F1 KX T (by k_is) (by boot_by_name) (by decide) ?_
  refine args_nil ?_
  refine IsiPair.isTuple_tuple ht0 F1.keep ?_
  refine wpAny_truthy_bool ?_
  rw [if_pos rfl]
  refine wpAny_execs_cons ?_
  refine asg_comp (g := s.heap) (cl := []) (by rfl) (by rfl) rfl (by decide) (by decide) rfl (by rfl) ?_
  refine ld F1 (by rw [if_neg (by decide)]; exact m1) ?_
  refine wpAny_pyIter_list (pl_list hl1) ?_
  have hr1 : Rel (TupV D h1) vs C := hr.mono fun v c ⟨a, t, tt, n, e1, e2, e3⟩ => ⟨a, t, tt, n, e1, e2, F1.keep _ _ e3⟩
  have F1p := F1.push (listIt l)
  have hL1 : @LT.lt Nat _ L h1.objs.size := F1.ns.lt
  have hwr1 : ∀ b : Nat, b ∈ [h1.objs.size] → @LT.lt Nat _ L b := fun b hb => by
    have e : b = h1.objs.size := by simpa using hb
    show @LT.lt Nat _ L b; omega
  refine ⟨_, _, _, _, [h1.objs.size], csrc_snd (by exact hA.2.1) (pl_list hl1) hr1 (by omega) rfl (by rfl) (by decide), F1p, hwr1, fun h2 ys hf => hf.1, ?_⟩
  rintro C1 D1 h2 ys h4 tk4 tw hy2 ⟨hk2, hlen2, hel2⟩ F4 hp4 mv4 _ hLD
  have hlen2' : ys.length = C.length := by rw [hlen2, List.size_toArray, hr.1]
  refine wpAny_execs_nil ?_
  refine wpAny_execs_nil ?_
  have hys : Rel StrV ys (C.map (·.2)) := by
    refine ⟨by simp [hlen2'], fun j y b hj hb => ?_⟩
    obtain ⟨c, hc, hs⟩ := hel2 j y hj
    rw [List.getElem?_map, hc] at hb
    cases hb
    exact hs
  dsimp only
  generalize hm4 : (fun z => if z = Str.ofString "cs" then some (Value.ref D1) else if z = Str.ofString "first" then some (Value.ref a0) else m₀ z) = m4 at F4
  have m4cs : m4 (Str.ofString "cs") = some (.ref D1) := by rw [← hm4]; rfl
  clear hm4
  have hD4 : @LT.lt Nat _ D1 h4.objs.size := plt_lt hp4
  refine wpAny_execs_cons (wpAny_Assign_Name (List_ (args_nil (wpAny_newList ?_ (by decide)))))
  refine stL (F4.push _) (fun h5 F5 mv5 => ?_) rfl (by rfl)
  dsimp only
  have hne1 : @Ne Nat D1 L := by omega
  have hL4 : @LT.lt Nat _ L h4.objs.size := F4.ns.lt
  have hne2 : @Ne Nat h4.objs.size L := by omega
  have hne3 : @Ne Nat D1 h4.objs.size := by omega
  have hc5 : h5.PlainList h4.objs.size ([] : List Value).toArray := pl_mv (pl_new h4 _) mv5 (by simpa using hne2)
  have hp5 : h5.PlainList D1 ys.toArray := pl_mv (pl_keep hp4 fun b o e => Heap.get?_push_of_some _ e) mv5 (by simpa using hne1)
  refine wpAny_execs_cons (wpAny_Assign_Name (wpAny_Constant_int ?_))
  refine stL (s := { s with heap := h5, toks := _ }) F5 (fun h6 F6 mv6 => ?_) rfl (by rfl)
  dsimp only
  have hc6 : h6.PlainList h4.objs.size ([] : List Value).toArray := pl_mv hc5 mv6 (by simpa using hne2)
  have hp6 : h6.PlainList D1 ys.toArray := pl_mv hp5 mv6 (by simpa using hne1)
  generalize hca : h4.objs.size = ca at hc6 hne2 hne3 F6
  generalize hm6 : (fun y => if y = Str.ofString "count" then _ else _) = m6 at F6
  have m6cs : m6 (Str.ofString "cs") = some (.ref D1) := by rw [← hm6]; exact m4cs
  have m6ccs : m6 (Str.ofString "ccs") = some (.ref ca) := by rw [← hm6]; rfl
  have m6count : ∃ t, m6 (Str.ofString "count") = some (.int 1 t) := ⟨_, by rw [← hm6]; rfl⟩
  clear hm6
  have hgD : s.heap.get? D1 = none := none_above F6 hLD
  have hgca : s.heap.get? ca = none := none_above F6 (by omega)
  generalize hbs : C.map (·.2) = bs at hys
  have hbl : bs.length = C.length := by rw [← hbs]; simp
  have hyl : ys.length = bs.length := hys.1
  refine wpAny_execs_cons (wpAny_mono (Q := fun f s' => f = .next ∧ ∃ h tk m rs, s' = { s with heap := h, toks := tk } ∧ Fr s.heap L h m ∧ m (Str.ofString "ccs") = some (.ref ca) ∧ (∃ t, m (Str.ofString "count") = some (.int (runSt bs (bs.length - 1)).2 t)) ∧
      h.PlainList ca rs.toArray ∧ IntsAre rs (runSt bs (bs.length - 1)).1) ?f1 (fun f s' hm => ?r1) (fun _ _ e => e))
  case f1 =>
    refine for_ (g := s.heap) rfl (by rfl) ?_
    refine Call_ ?_
    refine name_B F6 KX T (by k_is) (by boot_by_name) (by decide) ?_
    refine cw_type1 ?_
    refine args_cons (wpAny_Constant_int ?_)
    refine args_cons (Call_ ?_)
    refine name_B F6 KX T (by k_is) (by boot_by_name) (by decide) ?_
    refine callWith_method1 ?_
    refine args_cons (ld F6 m6cs ?_)
    refine args_nil ?_
    refine pl_len hp6 (by omega) fun t6 => ?_
    refine args_nil ?_
    refine call_range_2 ?_
    dsimp only
    refine iter_range (IsRange.new _ _ _ _ _ _ _) (n := ys.length - 1) (Or.inl (by omega)) (by omega) (by omega) fun hit => ?_
    dsimp only at hit ⊢
    generalize hH : (h6.push _).push _ = H at hit ⊢
    have hkeep : ∀ b o, h6.get? b = some o → H.get? b = some o := fun b o e => by rw [← hH]; exact Heap.get?_push_of_some _ (Heap.get?_push_of_some _ e)
    have hI : (h6.push { cls := Value.type "range", data := Data.fields #[Value.int 1 s.toks, Value.int ys.length t6, Value.int 1 (s.toks)] }).objs.size = h6.objs.size + 1 := Heap.size_push ..
    have FH : Fr s.heap L H m6 := F6.keeps hkeep
    have hL6 : @LT.lt Nat _ L h6.objs.size := F6.ns.lt
    have hca6 : @LT.lt Nat _ ca h6.objs.size := plt_lt hc6
    have hD6 : @LT.lt Nat _ D1 h6.objs.size := plt_lt hp6
    generalize hIe : Array.size (Heap.objs (Heap.push h6 _)) = I at hit ⊢
    have hIs : I = h6.objs.size + 1 := by rw [← hIe, Heap.size_push]
    have nIL : @Ne Nat L I := by omega
    have nIca : @Ne Nat ca I := by omega
    have nID : @Ne Nat D1 I := by omega
    have hLI : @LT.lt Nat _ L I := by omega
    refine ⟨I, [I], [I], ys.length - 1, _, _, m6, fun i h m => (m (Str.ofString "cs") = some (.ref D1) ∧ m (Str.ofString "ccs") = some (.ref ca) ∧ ∃ t, m (Str.ofString "count") = some (.int (runSt bs i).2 t)) ∧
      ∃ rs : List Value, h.PlainList D1 ys.toArray ∧ h.PlainList ca rs.toArray ∧ IntsAre rs (runSt bs i).1, ?live, ⟨rfl, Walks.range (by exact hA.2.1) I 1 1 (ys.length - 1), by simpa using nIL, ?wn, hit I rfl, FH, ⟨⟨m6cs, m6ccs, m6count⟩, [], pl_keep hp6 hkeep, pl_keep hc6 hkeep, .nil⟩, ?keep, ?step, ?done⟩⟩
    case live => intro i h st b hb; rw [List.mem_singleton.mp hb]; exact ⟨_, st⟩
    case wn => intro b hb; rw [List.mem_singleton.mp hb]; exact none_above FH hLI
    case keep =>
      rintro i h h' m ⟨hm, rs, ⟨n1, e1⟩, ⟨n2, e2⟩, hi⟩ hk
      exact ⟨hm, rs, ⟨n1, hk _ _ (by simpa using nID) hne1 e1⟩, ⟨n2, hk _ _ (by simpa using nIca) hne2 e2⟩, hi⟩
    case done =>
      rintro h tk m F ⟨⟨a1, a2, a3⟩, rs, p1, p2, hi⟩
      have e : ys.length - 1 = bs.length - 1 := by rw [hyl]
      rw [e] at a3 hi
      exact ⟨rfl, h, tk, m, rs, rfl, F, a2, a3, p2, hi⟩
    case step =>
      rintro i v h tk m E' hi ⟨tv, rfl⟩ ⟨⟨a1, a2, t3, a3⟩, rs, p1, p2, hints⟩ F hfp
      have hi1 : i + 1 < bs.length := by omega
      have b1e : bs[i + 1]? = some bs[i + 1] := by simp [hi1]
      have b0e : bs[i]? = some bs[i] := by simp [show i < bs.length by omega]
      obtain ⟨y1, hy1, t1, rfl⟩ := hys.get b1e
      obtain ⟨y0, hy0, t0, rfl⟩ := hys.get b0e
      have k1 : (1 + (i : Int) * 1).toNat = i + 1 := by omega
      have k0 : (1 + (i : Int) * 1 - 1).toNat = i := by omega
      refine wpAny_execs_cons (wpAny_If (wpAny_isTrue_Compare1 (Subscript_ (ld F (by rw [if_neg (by decide)]; exact a1) ?_))))
      refine ld F (by rw [if_pos rfl]) ?_
      refine pl_item p1 (by omega) (by omega) (by rw [k1]; exact hy1) ?_
      refine Subscript_ (ld F (by rw [if_neg (by decide)]; exact a1) ?_)
      refine wpAny_BinOp (ld F (by rw [if_pos rfl]) ?_)
      refine wpAny_Constant_int ?_
      refine sub_int ?_
      refine pl_item p1 (by omega) (by omega) (by rw [k0]; exact hy0) ?_
      refine eq_let (wpAny_truthy_bool ?_)
      have hrs : rs.length ≤ i := by rw [hints.length]; exact runSt_len bs i
      by_cases hb : bs[i + 1] = bs[i]
      · rw [if_pos (by simpa using hb)]
        refine wpAny_execs_cons (wpAny_AugAssign_Name (ldn F (by rw [if_neg (by decide)]; exact a3) ?_))
        refine wpAny_Constant_int ?_
        refine iadd_int ?_
        refine stL (s := { s with heap := h, toks := _ }) F (fun h' F' mv => ?_) rfl (by rfl)
        refine wpAny_execs_nil (wpAny_execs_nil ⟨rfl, h', _, _, rfl, F', ⟨⟨?_, ?_, by apply Exists.intro; rw [if_pos rfl]; rw [runSt_same (by rw [b1e, b0e, hb])]⟩, rs, pl_mv p1 mv (by simpa using hne1), pl_mv p2 mv (by simpa using hne2), ?_⟩, fun b hb o e => mv b o (by rw [List.mem_singleton.mp hb]; simpa using Ne.symm nIL) e⟩)
        · rw [if_neg (by decide), if_neg (by decide)]; exact a1
        · rw [if_neg (by decide), if_neg (by decide)]; exact a2
        · rw [runSt_same (by rw [b1e, b0e, hb])]; exact hints
      · rw [if_neg (by simpa using hb)]
        refine wpAny_execs_cons (Expr_none (MethodCall_ (ld F (by rw [if_neg (by decide)]; exact a2) ?_)) (by rfl) (by rfl))
        refine pl_method p2 PySem.F.slot_list_append rfl ?_
        refine callWith_method1 ?_
        refine args_cons (ld F (by rw [if_neg (by decide)]; exact a3) ?_)
        refine args_nil ?_
        refine pl_append (s := { s with heap := h, toks := _ }) p2 (by omega) fun h8 hp8 hs8 => ⟨rfl, ?_⟩
        have mv8 : Mv [ca] h h8 := Mv.same hs8 (by simp)
        have F8 := Fr.mv F mv8 (by simpa using Ne.symm hne2) (by simpa using hgca)
        refine wpAny_execs_cons (wpAny_Assign_Name (wpAny_Constant_int ?_))
        refine stL (s := { s with heap := h8, toks := _ }) F8 (fun h' F' mv => ?_) rfl (by rfl)
        refine wpAny_execs_nil (wpAny_execs_nil ⟨rfl, h', _, _, rfl, F', ⟨⟨?_, ?_, by apply Exists.intro; rw [if_pos rfl]; rw [runSt_diff (by rw [b1e, b0e]; simpa using hb)]⟩, _, pl_mv (pl_mv p1 mv8 (by simpa using hne3)) mv (by simpa using hne1), pl_mv hp8 mv (by simpa using hne2), ?_⟩,
          fun b hb o e => mv b o (by rw [List.mem_singleton.mp hb]; simpa using Ne.symm nIL) (mv8 b o (by rw [List.mem_singleton.mp hb]; simpa using Ne.symm nIca) e)⟩)
        · rw [if_neg (by decide), if_neg (by decide)]; exact a1
        · rw [if_neg (by decide), if_neg (by decide)]; exact a2
        · rw [runSt_diff (by rw [b1e, b0e]; simpa using hb)]; exact ints_snoc hints
  obtain ⟨rfl, h7, tk7, m7, rs, rfl, F7, m7ccs, ⟨t7, m7count⟩, hc7, hr7⟩ := hm
  dsimp only
  have hrl : rs.length = (runSt bs (bs.length - 1)).1.length := hr7.length
  have hrl2 := runSt_len bs (bs.length - 1)
  refine wpAny_execs_cons (Expr_none (MethodCall_ (ld F7 m7ccs ?_)) (by rfl) (by rfl))
  refine pl_method hc7 PySem.F.slot_list_append rfl ?_
  refine callWith_method1 ?_
  refine args_cons (ld F7 m7count ?_)
  refine args_nil ?_
  refine pl_append (s := { s with heap := h7, toks := tk7 }) hc7 (by omega) fun h8 hp8 hs8 => ⟨rfl, ?_⟩
  have F8 := Fr.mv F7 (Mv.same (D := [ca]) hs8 (by simp)) (by simpa using Ne.symm hne2) (by simpa using hgca)
  refine wpAny_execs_cons (wpAny_Return_some (ld F8 m7ccs ?_))
  refine hR h8 _ ca _ F8.keep hgca hp8 ?_
  rw [hbs]
  exact ints_snoc hr7
end Mine
end

section
open PySem PySem.W PySem.Calls PyProof.Rows
set_option Elab.async false
set_option maxRecDepth 100000
set_option maxHeartbeats 4000000
namespace Mine
theorem my_entry_itemiter_iter : entryFor table "dict_itemiterator.__iter__" = some Builtin.«dict_keyiterator.__iter__» :=
  entryFor_alias (id' := "dict_keyiterator.__iter__") (by kernel_rfl) rfl (by decide +kernel) (by kernel_rfl)
section
variable {prog : Program} {w : World} {K : Type} [DecidableEq K] {knd : KeyKind prog w K} {A : Around} {E : Value → Shared → Prop} {s : Shared}
theorem pyIter_itemiter {it d : Addr} {i n ep : Nat} {ok ov : Value} {Q : Value → Shared → Prop} (hit : IsItemIter s.heap it d i n ep ok ov) (h : Q (.ref it) s) : wpAny (model prog w) A (pyIter (.ref it)) Q E s := by
  have hT : s.TypeIs (.ref it) "dict_itemiterator" := ⟨_, hit, rfl⟩
  refine wpAny_pyIter_slot hT PySem.F.slot_dict_itemiterator_iter (wpAny_call_entry PySem.F.slot_dict_itemiterator_iter hT my_entry_itemiter_iter ?_ (PySem.F.args_dict_itemiterator_iter_1 _))
  show wpAny _ _ (ret (.ref it)) _ _ s
  exact wpAny_pure ⟨_, rfl, "dict_itemiterator", _, hT, PySem.F.slot_dict_itemiterator_next.lookup, h⟩

theorem walks_items (hh : A.handled = none) (I d : Addr) (hne : d ≠ I) (kvs : List (K × Value)) (ep : Nat) :
    WalksU prog w A I [I, d] [I] kvs.length
      (fun i vals => ∃ key k v, kvs[i]? = some (k, v) ∧ knd.is k key = true ∧ vals = #[key, v])
      (fun i h => (∃ ok ov, IsItemIter h I d i kvs.length ep ok ov) ∧ h.DictAt knd d kvs ep)
      (fun i T h => (∃ ok ov, IsItemIterOut h I d (i + 1) kvs.length ep ok ov T) ∧ h.DictAt knd d kvs ep ∧ T ≠ I) where
  sub := fun b hb => by simp at hb; simp [hb]
  frame := fun i h h' ⟨⟨ok, ov, a⟩, b⟩ hk => ⟨⟨ok, ov, hk I (by simp) _ a⟩, b.at fun o e => hk d (by simp) o e⟩
  item := fun i s Q E hi ⟨⟨ok, ov, hit⟩, hm⟩ hQ => by
    obtain ⟨k, v, hx⟩ : ∃ k v, kvs[i]? = some (k, v) := ⟨kvs[i].1, kvs[i].2, by simp [hi]⟩
    refine wpAny_pyNext_items_item hit hm hx fun key h' hkey hout hT hsz hk => ?_
    have hlt : @LT.lt Nat _ I s.heap.objs.size := Heap.lt_size hit
    have hne2 : @Ne Nat s.heap.objs.size I := by omega
    exact hQ s.heap.objs.size #[key, v] h' s.toks ⟨key, k, v, hx, hkey, rfl⟩ ⟨_, hT, rfl, _, rfl⟩ ⟨⟨_, _, hout⟩, hm.at fun o e => hk d o hne e, hne2⟩ fun b o hb e => hk b o (fun q => hb (by simp [q])) e
  go := fun elts k pos i T s Q E ⟨⟨ok, ov, hout⟩, hm, hT⟩ hQ =>
    wpAny_letOwnedTupleGo_items hout fun h' hit hs => hQ h' ⟨⟨ok, ov, hit⟩, hm.at fun o e => hs.extBut d o hne e⟩ fun b o hb e => hs.extBut b o (fun q => hb (by simp [q])) e
  apart := fun i T h ⟨_, _, hT⟩ hm => by simp at hm; exact hT hm
  done := fun s Q E ⟨⟨ok, ov, hit⟩, hm⟩ hQ => wpAny_pyNext_items_end hh hit hm (by simp) fun h' he => hQ h' s.toks fun b o hb e => he b o (fun q => hb (by simp [q])) e
  self := fun i s Q E ⟨⟨ok, ov, hit⟩, hm⟩ hQ => pyIter_itemiter hit hQ

theorem dict_method {d : Addr} {kvs : List (K × Value)} {ep : Nat} {name : Str} {id : String} {pl : Sem Bool} {Q : Value × List Value → Shared → Prop} (hm : s.heap.DictAt knd d kvs ep) (slot : Slot "dict" name id)
    (hty : typeOf (.builtin id) = pure (.type "method_descriptor")) (h : Q (.builtin id, [.ref d]) s) : wpAny (model prog w) A (getMethod (.ref d) name pl) Q E s := by
  obtain ⟨o, es, ho, ⟨hc, hd, hs⟩, _⟩ := hm
  exact getMethod_builtin ⟨_, ho, hc⟩ PySem.F.plainAttrs_dict slot hty (fun b q => by cases q; exact ⟨_, ho, hd⟩) h

theorem call_items {d : Addr} {kvs : List (K × Value)} {ep : Nat} {Q : Value → Shared → Prop} (hd : (d == sysModules) = false) (hm : s.heap.DictAt knd d kvs ep)
    (h : Q (.ref s.heap.objs.size) { s with heap := s.heap.push { cls := .type "dict_items", data := .fields #[.ref d] } }) : wpAny (model prog w) A (call (.builtin "dict.items") [.ref d]) Q E s := by
  obtain ⟨o, es, ho, ⟨hc, _⟩, _⟩ := id hm
  exact call_meetsIn PySem.F.slot_dict_items ⟨_, ho, hc⟩ PySem.F.entry_dict_items (PySem.F.args_dict_items_1 _) (meets_dict_items knd d hd) ⟨⟨kvs, hm.dictOf⟩, h⟩
end
end Mine
end

section
open PySem PySem.W PySem.Calls PyProof.Rows
set_option Elab.async false
set_option maxRecDepth 100000
set_option maxHeartbeats 8000000
namespace Mine
theorem fillK_W2 : PySem.Challenge.rw_au6018_01 = PySem.Challenge.rw_au6018_01 → hd.heap_39 = hd.heap_39 → True := by
  k_fill
  intro _ _; trivial

inductive W2Kw (T : Int) (t : Tok) : List (Str × Value) → Bool → Bool → Prop
  | lab : W2Kw T t [(Str.ofString "threshold", .int T t), (Str.ofString "with_labels", .bool true)] true false
  | com : W2Kw T t [(Str.ofString "threshold", .int T t), (Str.ofString "compact", .bool true)] false true
  | plain : W2Kw T t [(Str.ofString "threshold", .int T t)] false false

def enumP (ns : List Int) : List (Int × Int) := ns.zipIdx.map fun x => (x.1, (x.2 : Int))
theorem enumP_get (ns : List Int) (i : Nat) : (enumP ns)[i]? = ns[i]?.map fun x => (x, (i : Int)) := by
  unfold enumP
  rw [List.getElem?_map, List.getElem?_zipIdx]
  cases ns[i]? <;> simp
theorem enumP_length (ns : List Int) : (enumP ns).length = ns.length := by simp [enumP]
theorem enumP_nodup (ns : List Int) : ((enumP ns).map (·.2)).Nodup := by
  unfold List.Nodup
  rw [List.pairwise_iff_getElem]
  intro i j hi hj hij
  simp [enumP]
  omega

inductive W2Src (w : World) (h : Heap) : Value → List (Int × Int) → Prop
  | list {l : Addr} {vs : List Value} {ns : List Int} : h.IsList l vs.toArray → IntsAre vs ns → W2Src w h (.ref l) (enumP ns)
  | dict {d : Addr} {kvs : List (Int × Value)} {ep : Nat} {P : List (Int × Int)} : h.DictAt (intKind PG w) d kvs ep → (d == sysModules) = false → kvs.length = P.length →
      (∀ (i : Nat) (k : Int) (v : Value) (p : Int × Int), kvs[i]? = some (k, v) → P[i]? = some p → p.2 = k ∧ ∃ t, v = .int p.1 t) → W2Src w h (.ref d) P

inductive W2Res (g h : Heap) : Bool → Bool → Value → List (Int × Bool) → Prop
  | lab {r : Addr} {rs : List Value} {C : List (Int × Bool)} : h.PlainList r rs.toArray → g.get? r = none → Rel (TupV [] h) rs C → W2Res g h true false (.ref r) C
  | com {r : Addr} {rs : List Value} {C : List (Int × Bool)} : h.PlainList r rs.toArray → g.get? r = none → IntsAre rs (runsOf (C.map (·.2))) → W2Res g h false true (.ref r) C
  | plain {r : Addr} {rs : List Value} {C : List (Int × Bool)} : h.PlainList r rs.toArray → g.get? r = none → Rel StrV rs (C.map (·.2)) → W2Res g h false false (.ref r) C
theorem none_back {g h : Heap} (hk : ∀ b o, g.get? b = some o → h.get? b = some o) {r : Addr} (e : h.get? r = none) : g.get? r = none := by
  cases q : g.get? r with
  | none => rfl
  | some o => rw [hk _ _ q] at e; cases e

def MidW (s : Shared) (L : Nat) (T : Int) (t : Tok) (b1 b2 : Bool) (P : List (Int × Int)) (s' : Shared) : Prop :=
  ∃ h tk m wa ys, s' = { s with heap := h, toks := tk } ∧ Fr s.heap L h m ∧ m (Str.ofString "threshold") = some (.int T t) ∧ m (Str.ofString "with_labels") = some (.bool b1) ∧ m (Str.ofString "compact") = some (.bool b2) ∧
    m (Str.ofString "wseq") = some (.ref wa) ∧ h.PlainList wa ys.toArray ∧ PairsAre [L, wa] h ys P ∧ s.heap.get? wa = none ∧ wa ≠ L

theorem fresh_of {g h : Heap} {L : Addr} {m : Str → Option Value} (F : Fr g L h m) {b : Nat} (hb : h.objs.size ≤ b) : g.get? b = none := by
  cases e : g.get? b with
  | none => rfl
  | some o => exact absurd (Heap.lt_size (F.keep _ _ e)) (Nat.not_lt.mpr hb)

theorem midW_store {w : World} {A : Around} {s s₂ : Shared} {h5 h₁ : Heap} {tk5 tk2 : Nat} {L f : Addr} {cd : Value} {m₀ : Str → Option Value} {T : Int} {t : Tok} {b1 b2 : Bool} {P : List (Int × Int)} {name : Str} {scope : Scope} {E : Value → Shared → Prop}
    (hs₂ : s₂ = { s with heap := h5, toks := tk5 }) (F5 : Fr s.heap L h5 m₀) (hL : s.heap.objs.size = L) (m2 : m₀ (Str.ofString "threshold") = some (.int T t)) (m3 : m₀ (Str.ofString "with_labels") = some (.bool b1)) (m4 : m₀ (Str.ofString "compact") = some (.bool b2))
    {C D : Nat} {ys : List Value} {wr : List Addr} {G : Nat → Value → Value → Prop} (tw : Two s₂ C D) (hp : h₁.PlainList D ys.toArray) (hwr : ∀ b : Nat, b ∈ wr → @LT.lt Nat _ L b)
    (hk : ∀ b o, b ∉ wr → s₂.heap.get? b = some o → h₁.get? b = some o) (hlen : ys.length = P.length) (hel : ∀ j y, ys[j]? = some y → PairEl (s₂.heap.objs.size + 2) h₁ G j y)
    (hG : ∀ j u v p, G j u v → P[j]? = some p → ∃ t t', v = .int p.1 t ∧ u = .int p.2 t') (hkind : scope.kind = .function) (hloc : (envOf name scope L f cd).kindOf (Str.ofString "wseq") = some .local) :
    wpAny (model PG w) A (storeName (envOf name scope L f cd) (Str.ofString "wseq") (.ref D)) (fun _ s₃ => ∃ h₃ tk₃, s₃ = { s₂ with heap := h₃, toks := tk₃ } ∧ (∀ o, h₁.get? C = some o → h₃.get? C = some o) ∧
      ∀ h₄, Heap.SameBut C h₃ h₄ → Flow.next = Flow.next ∧ MidW s L T t b1 b2 P { s₂ with heap := h₄, toks := tk₃ }) E { s₂ with heap := h₁, toks := tk2 } := by
  subst hs₂
  obtain ⟨tw1, tw2, tw3, tw4, tw5⟩ := tw
  dsimp only at tw1 tw2 tw3 tw4 hel hk ⊢
  have hL5 : @LT.lt Nat _ L h5.objs.size := F5.ns.lt
  have hnone : ∀ b : Nat, @LT.lt Nat _ L b → s.heap.get? b = none := fun b hb => by
    cases e : s.heap.get? b with
    | none => rfl
    | some o =>
      have q : @LT.lt Nat _ b s.heap.objs.size := Heap.lt_size e
      omega
  have F1 : Fr s.heap L h₁ m₀ := Fr.mv F5 (fun b o hb e => hk b o hb e) (fun q => Nat.lt_irrefl _ (hwr L q)) (fun b hb => hnone b (hwr b hb))
  have hCL : @Ne Nat C L := by omega
  have hDL : @Ne Nat D L := by omega
  refine stL F1 (fun h₃ F3 mv3 => ⟨h₃, _, rfl, fun o e => mv3 C o (by simpa using hCL) e, fun h₄ hs4 => ⟨rfl, ?_⟩⟩) hkind hloc
  have mv4 : Mv [C] h₃ h₄ := Mv.same hs4 (by simp)
  have F4 := Fr.mv F3 mv4 (by simpa using Ne.symm hCL) (fun (b : Nat) hb => hnone b (by have e : b = C := List.mem_singleton.mp hb; show @LT.lt Nat _ L b; omega))
  refine ⟨h₄, _, _, D, ys, rfl, F4, by rw [if_neg (by decide)]; exact m2, by rw [if_neg (by decide)]; exact m3, by rw [if_neg (by decide)]; exact m4, by rw [if_pos rfl], ?_, ⟨hlen, fun i v p hv hpi => ?_⟩, hnone D (by omega), hDL⟩
  · exact pl_mv (pl_mv hp mv3 (by simpa using hDL)) mv4 (by simpa using Ne.symm tw5)
  · obtain ⟨a, u, v', n, rfl, hB, ho, hg⟩ := hel i v hv
    obtain ⟨t1, t2, rfl, rfl⟩ := hG i u v' p hg hpi
    have haL : @Ne Nat a L := by omega
    have haC : @Ne Nat a C := by omega
    have haD : @Ne Nat a D := by omega
    exact ⟨a, t1, t2, n, rfl, by simpa using ⟨haL, haD⟩, mv4 a _ (by simpa using haC) (mv3 a _ (by simpa using haL) ho)⟩

theorem w2cs_spec {w : World} {A : Around} {s : Shared} {R : Result → Shared → Prop} {mg mb} (hA : AOk A 4)
  (KX : (hd.heap_39 w.params).In s.heap) (T : TopRead hd.view_39 LOOSE mg mb s.heap)
  {wv : Value} {kw : List (Str × Value)} {limit : Int} {tk : Tok} {b1 b2 : Bool} {P : List (Int × Int)} (hkw : W2Kw limit tk kw b1 b2) (hsrc : W2Src w s.heap wv P) (hn : 2 ≤ P.length) (hn2 : P.length ≤ 8) (hnd : (P.map (·.2)).Nodup)
  (hR : ∀ h tk v P' C, (∀ b o, s.heap.get? b = some o → h.get? b = some o) → P'.Perm P → P'.Pairwise (fun p q => pLt p q = true) → Peel limit P' C → W2Res s.heap h b1 b2 v C.reverse → R (.ok (.ret v)) { s with heap := h, toks := tk }) :
  codeAny (model PG w) A (.call (.ref 670) ⟨[wv], kw⟩) R s := by
  refine' enterK (binds := [(Str.ofString "weights", wv), (Str.ofString "threshold", .int limit tk), (Str.ofString "with_labels", .bool b1), (Str.ofString "compact", .bool b2)]) KX T.nolimit ?k1 ?k2 ?k3 ?k4 ?k5 ?h ?k6 ?k7 ?k8 ?k9
  case k1 => k_is
  case k2 => k_is
  case k3 => exact hA.room
  case k4 => cases hkw <;> exact binds_K KX rfl (by k_is) rfl (by rfl) (by rfl)
  case k5 => exact locs (by rfl)
  case k6 => decide
  case k7 => rfl
  case k8 => rfl
  case k9 => rfl
  intro h₀ F
  have hb12 : (b1 && b2) = false := by cases hkw <;> rfl
  generalize hL : s.heap.objs.size = L at F ⊢
  generalize hm : (fun y => List.lookup y [(Str.ofString "weights", wv), (Str.ofString "threshold", Value.int limit tk), (Str.ofString "with_labels", Value.bool b1), (Str.ofString "compact", Value.bool b2)].reverse) = m₀ at F
  have m1 : m₀ (Str.ofString "weights") = some wv := by rw [← hm]; rfl
  have m2 : m₀ (Str.ofString "threshold") = some (.int limit tk) := by rw [← hm]; rfl
  have m3 : m₀ (Str.ofString "with_labels") = some (.bool b1) := by rw [← hm]; rfl
  have m4 : m₀ (Str.ofString "compact") = some (.bool b2) := by rw [← hm]; rfl
  clear hm
  have hk1 : L ≠ L + 1 := by omega
  refine wpAny_execs_cons (wpAny_mono (Q := fun f s' => f = .next ∧ s' = { s with heap := h₀, toks := s.toks + 4 }) ?f1 (fun f s' hm => ?r1) (fun _ _ e => e))
  case f1 =>
    refine wpAny_If ?_
    cases hkw
    · refine isTrue_and (isTrue_plain (ld F m3 (wpAny_truthy_bool ?_)))
      rw [if_pos rfl]
      refine isTrue_and (isTrue_plain (ld F m4 (wpAny_truthy_bool ?_)))
      rw [if_neg Bool.false_ne_true, if_neg Bool.false_ne_true]
      exact wpAny_execs_nil ⟨rfl, rfl⟩
    · refine isTrue_and (isTrue_plain (ld F m3 (wpAny_truthy_bool ?_)))
      rw [if_neg Bool.false_ne_true, if_neg Bool.false_ne_true]
      exact wpAny_execs_nil ⟨rfl, rfl⟩
    · refine isTrue_and (isTrue_plain (ld F m3 (wpAny_truthy_bool ?_)))
      rw [if_neg Bool.false_ne_true, if_neg Bool.false_ne_true]
      exact wpAny_execs_nil ⟨rfl, rfl⟩
  obtain ⟨rfl, rfl⟩ := hm
  dsimp only
  refine wpAny_execs_cons (wpAny_mono (Q := fun f s' => f = .next ∧ MidW s L limit tk b1 b2 P s') ?f2 (fun f s' hm => ?r2) (fun _ _ e => e))
  case f2 =>
    refine wpAny_If ?_
    cases hsrc with
    | list hl hi =>
      rename_i l vs ns
      have hlen := hi.length
      refine isTrue_plain (Call_ ?_)
      refine name_B F KX T (by k_is) (by boot_by_name) (by decide) ?_
      refine callWith_method1 ?_
      refine args_cons (ld F m1 ?_)
      refine args_cons ?_
      refine name_B F KX T (by k_is) (by boot_by_name) (by decide) ?_
      refine args_nil ?_
      refine IsiPair.isList_dict hl F.keep ?_
      refine wpAny_truthy_bool ?_
      rw [if_neg Bool.false_ne_true]
      refine wpAny_execs_cons ?_
      refine Assign_ListComp_u (cl := []) (by rfl) (by rfl) rfl (by decide) (by decide) ?_
      refine Call_ ?_
      refine name_B F KX T (by k_is) (by boot_by_name) (by decide) ?_
      refine cw_type1 ?_
      refine args_cons (ld F m1 ?_)
      refine args_nil ?_
      have hl0 : h₀.IsList l vs.toArray := hl.at fun o e => F.keep _ _ e
      have hll : @LT.lt Nat _ l h₀.objs.size := by obtain ⟨o, ho, _⟩ := hl0; exact Heap.lt_size ho
      have hLl : @LT.lt Nat _ L h₀.objs.size := F.ns.lt
      have q1 : @Ne Nat (h₀.objs.size + 1) h₀.objs.size := by omega
      have q2 : @Ne Nat l (h₀.objs.size + 1) := by omega
      have q3 : @Ne Nat l h₀.objs.size := by omega
      refine call_enumerate_list hl0 fun h5 he hit hsz hk => ?_
      refine wpAny_pyIter_enum he ?_
      refine ⟨_, _, _, csrc_pairs (WalksT.enumerate (by exact hA.2.1) (h₀.objs.size + 1) h₀.objs.size l q1 q2 q3 vs.toArray).toU (by simp [hlen]; simp [enumP_length] at hn2; omega) (by exact hA.2.1) ⟨⟨_, he⟩, hit, hl0.at fun o e => hk _ _ e⟩ (fun b hb => ?_)
        (fun i u v => ∃ t, u = .int i t ∧ vs[i]? = some v) (fun i vals hv => ?_) rfl (by rfl) (by rfl) (by decide) (by decide) (by decide), ?_⟩
      · show @LT.lt Nat _ b h5.objs.size
        have hz : h5.objs.size = h₀.objs.size + 2 := hsz
        simp only [List.mem_cons, List.not_mem_nil, or_false] at hb
        rcases hb with rfl | rfl | rfl <;> first | exact hz ▸ Nat.lt_succ_self _ | exact hz ▸ Nat.lt_succ_of_lt (Nat.lt_succ_self _) | exact hz ▸ Nat.lt_succ_of_lt (Nat.lt_succ_of_lt hll)
      · obtain ⟨t, x, e, rfl⟩ := hv
        exact ⟨_, _, rfl, t, rfl, by simpa using e⟩
      · intro C D h₁ ys tkk tw hp hy ⟨hfin1, hfin2, hfin3⟩
        have r1 : @LT.lt Nat _ L (h₀.objs.size + 1) := by omega
        have r3 : ys.length = (enumP ns).length := by rw [enumP_length, ← hlen, hfin2]; simp
        refine wpAny_mono (midW_store (G := fun i u v => ∃ t, u = .int i t ∧ vs[i]? = some v) (wr := [h₀.objs.size + 1, h₀.objs.size]) rfl (F.keeps hk) hL m2 m3 m4 tw hp (fun b hb => ?_) hfin1 r3 hfin3 ?_ ?_ ?_) (fun _ s₃ h₃ => ?_) fun _ _ e => e
        · simp only [List.mem_cons, List.not_mem_nil, or_false] at hb
          rcases hb with rfl | rfl
          · exact r1
          · exact hLl
        · rintro j u v p ⟨t, rfl, hv⟩ hpj
          rw [enumP_get] at hpj
          cases hn' : ns[j]? with
          | none => rw [hn'] at hpj; cases hpj
          | some x =>
            rw [hn'] at hpj
            cases hpj
            obtain ⟨t', e⟩ := hi.get j x hn'
            rw [hv] at e; cases e
            exact ⟨t', t, rfl, rfl⟩
        · rfl
        · rfl
        · skip
          obtain ⟨h3, tk3, e1, e2, e3⟩ := h₃
          refine ⟨h3, tk3, e1, e2, fun h4 hs4 => ?_⟩
          exact wpAny_execs_nil (e3 h4 hs4)
    | dict hd hsm hlen hP =>
      rename_i d kvs ep
      have hd0 : h₀.DictAt (intKind PG w) d kvs ep := hd.keep F.keep
      refine isTrue_plain (Call_ ?_)
      refine name_B F KX T (by k_is) (by boot_by_name) (by decide) ?_
      refine callWith_method1 ?_
      refine args_cons (ld F m1 ?_)
      refine args_cons ?_
      refine name_B F KX T (by k_is) (by boot_by_name) (by decide) ?_
      refine args_nil ?_
      obtain ⟨od, es, hod, ⟨hcd, _⟩, _⟩ := id hd0
      refine IsiPair.dict_dict hod hcd ?_
      refine wpAny_truthy_bool ?_
      rw [if_pos rfl]
      refine wpAny_execs_cons ?_
      refine Assign_ListComp_u (cl := []) (by rfl) (by rfl) rfl (by decide) (by decide) ?_
      refine MethodCall_ (ld F m1 ?_)
      refine dict_method hd0 PySem.F.slot_dict_items PySem.F.type_dict_items ?_
      refine callWith_method0 ?_
      refine call_items hsm hd0 ?_
      refine wpAny_pyIter_items ⟨_, Heap.get?_push_size _ rfl, rfl, rfl⟩ (hd0.push _) ?_
      dsimp only
      have hdl : @LT.lt Nat _ d h₀.objs.size := hd0.lt_size
      have hLl : @LT.lt Nat _ L h₀.objs.size := F.ns.lt
      generalize hHe : (h₀.push _).push _ = H
      have hkeep : ∀ b o, h₀.get? b = some o → H.get? b = some o := fun b o e => by rw [← hHe]; exact Heap.get?_push_of_some _ (Heap.get?_push_of_some _ e)
      have hIt : IsItemIter H (h₀.objs.size + 1) d 0 kvs.length ep .none .none := by
        have e : (h₀.push { cls := Value.type "dict_items", data := Data.fields #[Value.ref d] }).objs.size = h₀.objs.size + 1 := Heap.size_push ..
        rw [← hHe, ← e]
        exact Heap.get?_push_size _ rfl
      have hHs : H.objs.size = h₀.objs.size + 2 := by rw [← hHe, Heap.size_push, Heap.size_push]
      rw [Heap.size_push]
      have q1 : d ≠ h₀.objs.size + 1 := Nat.ne_of_lt (Nat.lt_succ_of_lt hdl)
      refine ⟨_, _, _, csrc_pairs (walks_items (knd := intKind PG w) (by exact hA.2.1) (h₀.objs.size + 1) d q1 kvs ep) (by omega) (by exact hA.2.1) ⟨⟨_, _, hIt⟩, hd0.keep hkeep⟩ (fun b hb => ?_)
        (fun i u v => ∃ t k, u = .int k t ∧ kvs[i]? = some (k, v)) (fun i vals hv => ?_) rfl (by rfl) (by rfl) (by decide) (by decide) (by decide), ?_⟩
      · show @LT.lt Nat _ b H.objs.size
        simp only [List.mem_cons, List.not_mem_nil, or_false] at hb
        rcases hb with rfl | rfl
        · rw [hHs]; exact Nat.lt_succ_self _
        · rw [hHs]; exact Nat.lt_succ_of_lt (Nat.lt_succ_of_lt hdl)
      · obtain ⟨key, k, v, e, hkey, rfl⟩ := hv
        refine ⟨_, _, rfl, ?_⟩
        have : key.isInt k = true := hkey
        cases key <;> simp [Value.isInt] at this
        subst this
        exact ⟨_, _, rfl, e⟩
      · intro C D h₁ ys tkk tw hp hy ⟨hfin1, hfin2, hfin3⟩
        have r1 : @LT.lt Nat _ L (h₀.objs.size + 1) := by omega
        refine wpAny_mono (midW_store (G := fun i u v => ∃ t k, u = .int k t ∧ kvs[i]? = some (k, v)) (wr := [h₀.objs.size + 1]) rfl (F.keeps hkeep) hL m2 m3 m4 tw hp (fun b hb => ?_) hfin1 (hfin2.trans hlen) hfin3 ?_ ?_ ?_) (fun _ s₃ h₃ => ?_) fun _ _ e => e
        · simp only [List.mem_cons, List.not_mem_nil, or_false] at hb
          rw [hb]; exact r1
        · rintro j u v p ⟨t, k, rfl, hv⟩ hpj
          obtain ⟨rfl, t', rfl⟩ := hP j k v p hv hpj
          exact ⟨t', t, rfl, rfl⟩
        · rfl
        · rfl
        · obtain ⟨h3, tk3, e1, e2, e3⟩ := h₃
          refine ⟨h3, tk3, e1, e2, fun h4 hs4 => ?_⟩
          exact wpAny_execs_nil (e3 h4 hs4)
  obtain ⟨rfl, h1, tk1, m, wa, ys, rfl, F1, n2, n3, n4, n5, hw, hp, hg, hwL⟩ := hm
  dsimp only
  refine wpAny_execs_cons (wpAny_mono (Q := fun f s' => f = .next ∧ ∃ P', P'.Perm P ∧ P'.Pairwise (fun p q => pLt p q = true) ∧ MidW s L limit tk b1 b2 P' s') ?f3 (fun f s' hm => ?r3) (fun _ _ e => e))
  case f3 =>
    refine Expr_none ?_ (by rfl) (by rfl)
    refine MethodCall_ (ld F1 n5 ?_)
    refine pl_method hw PySem.F.slot_list_sort rfl ?_
    refine callWith_method0 ?_
    have hP8 : ys.length = P.length := hp.1
    refine pl_sort2 (s := { s with heap := h1, toks := tk1 }) ((hA.deeper (d := 3) _).units) hw (by omega) (by omega) hp (by simp) hnd fun h' vs' P' g1 g2 g3 g4 g5 => ⟨rfl, rfl, P', g3, g4, ?_⟩
    exact ⟨h', tk1, m, wa, vs', rfl, Fr.mv F1 g2 (by simpa using Ne.symm hwL) (by simpa using hg), n2, n3, n4, n5, g1, g5, hg, hwL⟩
  obtain ⟨rfl, P', hperm, hsorted, h2, tk2, m', wa', ys', rfl, F2, o2, o3, o4, o5, hw', hp', hg', hwL'⟩ := hm
  dsimp only
  refine wpAny_execs_cons (wpAny_mono (Q := fun f s' => f = .next ∧ ∃ h tk3 ca, s' = { s with heap := h, toks := tk3 } ∧ WL s.heap L wa' ca limit tk b1 b2 P' [] none none h) ?f4 (fun f s' hm => ?r4) (fun _ _ e => e))
  case f4 =>
    refine wpAny_Assign_Name (List_ ?_)
    refine args_nil ?_
    refine wpAny_newList ?_ (by decide)
    have F3 := F2.push { cls := .type "list", data := .seq ([] : List Value).toArray }
    refine stL F3 (fun h3 F4 mv => ⟨rfl, h3, _, h2.objs.size, rfl, ?_⟩) rfl (by rfl)
    have hlt : @LT.lt Nat _ wa' h2.objs.size := plt_lt hw'
    have hLt : @LT.lt Nat _ L h2.objs.size := F2.ns.lt
    have z1 : @Ne Nat h2.objs.size L := by omega
    have z2 : @Ne Nat wa' h2.objs.size := by omega
    have mvp : Mv [L] h2 (h2.push { cls := .type "list", data := .seq ([] : List Value).toArray }) := Mv.push _
    refine ⟨_, ys', [], F4, ⟨?_, ?_, ?_, ?_, ?_, fun x e => (nomatch e), fun x e => (nomatch e)⟩, ⟨pl_mv (pl_mv hw' mvp (by simpa using hwL')) mv (by simpa using hwL'), ?_, pl_mv (pl_new h2 _) mv (by simpa using z1), Rel.nil, hg', fresh_of F2 (Nat.le_refl _), hwL', z1, z2⟩⟩
    · rw [if_neg (by decide)]; exact o2
    · rw [if_neg (by decide)]; exact o3
    · rw [if_neg (by decide)]; exact o4
    · rw [if_neg (by decide)]; exact o5
    · rw [if_pos rfl]
    · refine ⟨hp'.1, fun i v p a b => ?_⟩
      obtain ⟨x, t, u, n, e, hx, ho⟩ := hp'.2 i v p a b
      simp only [List.mem_cons, List.not_mem_nil, or_false, not_or] at hx
      have hxl : @LT.lt Nat _ x h2.objs.size := Heap.lt_size ho
      have z3 : @Ne Nat x h2.objs.size := by omega
      exact ⟨x, t, u, n, e, by simpa using ⟨hx.1, hx.2, z3⟩, mv x _ (by simpa using hx.1) (Heap.get?_push_of_some _ ho)⟩
  obtain ⟨rfl, h3, tk3, ca, rfl, W3⟩ := hm
  dsimp only
  have hl' : P'.length = P.length := hperm.length_eq
  refine wpAny_execs_cons (wpAny_mono (Q := fun f s' => f = .next ∧ ∃ h tk3, s' = { s with heap := h, toks := tk3 } ∧ WL s.heap L wa' ca limit tk b1 b2 P' [] (some (limit - lastW P')) none h) ?f5 (fun f s' hm => ?r5) (fun _ _ e => e))
  case f5 =>
    rcases List.eq_nil_or_concat P' with e | ⟨P1, q, e⟩
    · rw [e] at hl'; simp at hl'; omega
    · rw [List.concat_eq_append] at e
      subst e
      refine wl_cut (s := { s with heap := h3, toks := tk3 }) W3 rfl (by constructor <;> rfl) (fun h' tk' H => ⟨rfl, h', tk', rfl, ?_⟩)
      rw [lastW_snoc]; exact H
  obtain ⟨rfl, h4, tk4, rfl, W4⟩ := hm
  dsimp only
  refine wpAny_execs_cons (wpAny_mono (Q := fun f s' => f = .next ∧ ∃ h tk5 C, s' = { s with heap := h, toks := tk5 } ∧ WL s.heap L wa' ca limit tk b1 b2 [] C none none h ∧ C.length = P'.length ∧ Peel limit P' C) ?f6 (fun f s' hm => ?r6) (fun _ _ e => e))
  case f6 =>
    refine while_ (fun n s' => ∃ h tk5 P1 C cut, s' = { s with heap := h, toks := tk5 } ∧ n = P1.length ∧ WL s.heap L wa' ca limit tk b1 b2 P1 C cut none h ∧ (P1 ≠ [] → cut = some (limit - lastW P1)) ∧ P1.length ≠ 1 ∧
      P1.length + C.length = P'.length ∧ ∀ C', PeelR limit P1 C' → PeelR limit P' (C ++ C')) ?t6 _ ⟨h4, tk4, P', [], _, rfl, rfl, W4, fun _ => rfl, by omega, by simp, fun C' h => by simpa using h⟩
    rintro n s' E' ⟨h, tk5, P1, C, cut, rfl, rfl, W, hcut, hne1, hlen, hpeel⟩
    have W0 := W
    obtain ⟨m, ys, cs, F, M, Wh⟩ := W
    have hys : ys.length = P1.length := Wh.wr.1
    refine isTrue_plain (ld F M.wseq ?_)
    refine pl_truthy Wh.wp (by omega) ?_
    cases P1 with
    | nil =>
      have : ys = [] := List.length_eq_zero_iff.mp (by rw [hys]; rfl)
      subst this
      show _ ∧ _
      refine ⟨rfl, h, _, C, rfl, wl_weak2 W0, by simpa using hlen, ?_⟩
      rcases hpeel [] (Or.inl ⟨rfl, rfl⟩) with ⟨e, _⟩ | e
      · rw [e] at hl'; simp at hl'; omega
      · simpa using e
    | cons p P2 =>
      have e1 : (!ys.isEmpty) = true := by cases ys with
        | nil => simp at hys
        | cons _ _ => rfl
      rw [e1, if_pos rfl]
      rcases List.eq_nil_or_concat P2 with rfl | ⟨P3, q, e⟩
      · exact absurd rfl hne1
      rw [List.concat_eq_append] at e
      subst e
      have hcut' := hcut (by simp)
      have elast : lastW (p :: (P3 ++ [q])) = q.1 := by rw [← List.cons_append, lastW_snoc]
      rw [elast] at hcut'
      have hl3 : P3.length ≤ 6 ∧ C.length ≤ 8 := by simp at hlen; omega
      refine wpAny_execs_cons (wpAny_mono (Q := fun f s' => f = .next ∧ ∃ h tk5 P4 c, s' = { s with heap := h, toks := tk5 } ∧ P4 ≠ [] ∧ P4.length = P3.length + 1 ∧ WL s.heap L wa' ca limit tk b1 b2 P4 (C ++ [c]) (some (limit - lastW P4)) none h ∧
        ∀ C', Peel limit P4 C' → Peel limit (p :: (P3 ++ [q])) (c :: C')) ?g1 (fun f s' hm => ?g2) (fun _ _ e => e))
      case g1 =>
        obtain ⟨ct, hct⟩ := M.cutoff _ hcut'
        obtain ⟨v, ys, rfl, ⟨a, t1, t2, n, rfl, haD, ha⟩, hr⟩ := Wh.wr.tail
        refine wpAny_If ?_
        refine wpAny_isTrue_Compare1 (Subscript_ (Subscript_ (ld F M.wseq ?_)))
        refine wpAny_Constant_int ?_
        refine pl_item Wh.wp (by omega) (by omega) rfl ?_
        refine wpAny_Constant_int ?_
        have ha' : h.PlainList a [Value.int p.1 t1, Value.int p.2 t2].toArray := ⟨_, ha⟩
        refine pl_item ha' (by omega) (by omega) rfl ?_
        refine ld F hct ?_
        refine wpAny_lt_int (wpAny_truthy_bool ?_)
        by_cases hlt : p.1 < limit - q.1
        · rw [if_pos (by simpa using hlt)]
          refine wpAny_execs_cons (wl_pop0 W0 rfl (by constructor <;> rfl) (by simp; omega) hA.2.1 fun h6 tk6 W6 => ?_)
          refine wpAny_execs_cons (wl_append (b := false) W6 rfl (by constructor <;> rfl) (by omega) rfl fun h7 tk7 W7 => ?_)
          refine wpAny_execs_nil ⟨rfl, h7, _, P3 ++ [q], _, rfl, by simp, by simp, ?_, fun C' hC => Peel.low (by simp) (by rw [lastW_snoc]; omega) hC⟩
          rw [lastW_snoc, ← hcut']
          exact wl_weak W7
        · rw [if_neg (by simpa using hlt)]
          rw [← List.cons_append] at W0
          refine wpAny_execs_cons (wl_pop W0 rfl (by constructor <;> rfl) (by simp; omega) hA.2.1 fun h6 tk6 W6 => ?_)
          refine wpAny_execs_cons (wl_append (b := true) W6 rfl (by constructor <;> rfl) (by omega) rfl fun h7 tk7 W7 => ?_)
          rcases List.eq_nil_or_concat (p :: P3) with e | ⟨P5, q5, e⟩
          · cases e
          rw [List.concat_eq_append] at e
          rw [e] at W7
          refine wpAny_execs_cons (wl_cut W7 rfl (by constructor <;> rfl) fun h8 tk8 W8 => ?_)
          refine wpAny_execs_nil ⟨rfl, h8, _, p :: P3, (q.2, true), rfl, by simp, by simp, ?_, fun C' hC => ?_⟩
          · rw [e, lastW_snoc]; exact wl_weak W8
          · rw [← List.cons_append]
            exact Peel.high (by simp) (by simp; omega) hC
      obtain ⟨rfl, h6, tk6, P4, c, rfl, hP4, hl4, W6, hstep⟩ := hm
      dsimp only
      have W60 := W6
      obtain ⟨m6, ys6, cs6, F6, M6, Wh6⟩ := W6
      refine wpAny_execs_cons ?_
      refine wpAny_If ?_
      refine wpAny_isTrue_Compare1 (Call_ ?_)
      refine name_B F6 KX T (by k_is) (by boot_by_name) (by decide) ?_
      refine callWith_method1 ?_
      refine args_cons (ld F6 M6.wseq ?_)
      refine args_nil ?_
      refine pl_len Wh6.wp (by rw [Wh6.wr.1]; omega) fun t6 => ?_
      refine wpAny_Constant_int ?_
      refine wpAny_eq_int (wpAny_truthy_bool ?_)
      by_cases h1 : P4.length = 1
      · rw [if_pos (by rw [Wh6.wr.1, h1]; rfl)]
        match P4, h1 with
        | [q4], _ =>
          refine wpAny_execs_cons (wl_pop (P := []) (q := q4) W60 rfl (by constructor <;> rfl) (by simp) hA.2.1 fun h7 tk7 W7 => ?_)
          refine wpAny_execs_cons (wl_append (b := true) W7 rfl (by constructor <;> rfl) (by simp; omega) rfl fun h8 tk8 W8 => ?_)
          refine wpAny_execs_nil ?_
          refine wpAny_execs_nil ⟨rfl, 0, by simp, h8, _, [], _, _, rfl, rfl, wl_weak W8, fun e => absurd rfl e, by simp, ?_, fun C' hC => ?_⟩
          · simp only [List.length_cons, List.length_append, List.length_nil] at hlen hl4 ⊢; omega
          · rcases hC with ⟨_, rfl⟩ | hC
            · have := hpeel [c, (q4.2, true)] (Or.inr (hstep _ (Peel.one q4)))
              simpa using this
            · generalize e : ([] : List (Int × Int)) = P0 at hC
              cases hC with
              | one => cases e
              | low => cases e
              | high => simp at e
      · rw [if_neg (by rw [Wh6.wr.1]; simp; omega)]
        refine wpAny_execs_nil ?_
        refine wpAny_execs_nil ⟨rfl, P4.length, by simp only [List.length_cons, List.length_append, List.length_nil]; omega, h6, _, P4, _, _, rfl, rfl, W60, fun _ => rfl, h1, ?_, fun C' hC => ?_⟩
        · simp only [List.length_cons, List.length_append, List.length_nil] at hlen ⊢; omega
        · rcases hC with ⟨e, _⟩ | hC
          · exact absurd e hP4
          · have := hpeel _ (Or.inr (hstep _ hC))
            simpa using this
  obtain ⟨rfl, h5, tk5, C, rfl, W5, hC, hpeel⟩ := hm
  dsimp only
  obtain ⟨m5, ys5, cs5, F5, M5, Wh5⟩ := W5
  have hcs5 : cs5.length = C.length := Wh5.cr.1
  refine wpAny_execs_cons ?_
  refine Expr_none ?_ (by rfl) (by rfl)
  refine MethodCall_ (ld F5 M5.cs ?_)
  refine pl_method Wh5.cp PySem.F.slot_list_reverse rfl ?_
  refine callWith_method0 ?_
  refine pl_reverse (s := { s with heap := h5, toks := tk5 }) Wh5.cp (by omega) fun h6 hp6 hs6 => ⟨rfl, ?_⟩
  have mv6 : Mv [ca] h5 h6 := Mv.same hs6 (by simp)
  have F6 : Fr s.heap L h6 m5 := Fr.mv F5 mv6 (by simpa using Ne.symm Wh5.cL) (by simpa using Wh5.cn)
  have R6 : Rel (TupV [L, wa', ca] h6) cs5.reverse C.reverse := (Wh5.cr.mono fun v x q => q.mv mv6 (by simp)).reverse
  dsimp only
  refine wpAny_execs_cons (wpAny_If (isTrue_plain (ld F6 M5.with_labels (wpAny_truthy_bool ?_))))
  cases b1 with
  | true =>
    cases b2 with
    | true => cases hb12
    | false =>
      rw [if_pos rfl]
      refine wpAny_execs_cons (wpAny_Return_some (ld F6 M5.cs ?_))
      refine hR h6 _ _ P' C F6.keep hperm hsorted hpeel (.lab hp6 Wh5.cn (R6.mono fun v x ⟨a, t, tt, n, e1, e2, e3⟩ => ⟨a, t, tt, n, e1, by simp, e3⟩))
  | false =>
    rw [if_neg Bool.false_ne_true]
    refine wpAny_execs_nil ?_
    refine wpAny_execs_cons (wpAny_If (isTrue_plain (ld F6 M5.compact (wpAny_truthy_bool ?_))))
    cases b2 with
    | true =>
      rw [if_pos rfl]
      refine wpAny_execs_cons (wpAny_Return_some (Call_ ?_))
      refine name_K F6 KX T (by k_is) ?_
      refine callWith_K KX (by k_is) ?_
      refine args_cons (ld F6 M5.cs ?_)
      refine args_nil ?_
      refine ⟨kin_keeps KX F6.keep, wpAny_call ?_⟩
      refine make_compact_spec (s := { s with heap := h6, toks := tk5 }) ((hA.deeper (d := 3) _).less (by omega)) (kin_keeps KX F6.keep) (T.keeps F6.keep) hp6 R6 (by simp; omega) (by simp; omega) fun h7 tk7 r rs hk7 hr7 hp7 hi7 => ?_
      exact hR h7 _ _ P' C (fun b o e => hk7 _ _ (F6.keep _ _ e)) hperm hsorted hpeel (.com hp7 (none_back F6.keep hr7) hi7)
    | false =>
      rw [if_neg Bool.false_ne_true]
      refine wpAny_execs_nil ?_
      refine wpAny_execs_cons (wpAny_Return_some ?_)
      refine ListComp_u (cl := []) (by rfl) rfl (by decide) (by decide) ?_
      refine ld F6 M5.cs ?_
      refine wpAny_pyIter_list (pl_list hp6) ?_
      refine ⟨_, _, _, csrc_snd (by exact hA.2.1) (pl_list hp6) R6 (by simp; omega) rfl (by rfl) (by decide), ?_⟩
      rintro C1 D1 h7 h8 ys7 tk7 ⟨tw1, tw2, tw3, tw4, tw5⟩ hp8 hy7 ⟨hk7, hlen7, hel7⟩ hs8
      dsimp only at tw1 tw2 tw3 tw4
      rw [Heap.size_push] at tw1 tw2 tw3 tw4
      have hk8 : ∀ b o, s.heap.get? b = some o → h8.get? b = some o := fun b o e => by
        have e6 := F6.keep b o e
        have hb : @LT.lt Nat _ b h6.objs.size := Heap.lt_size e6
        have n1 : @Ne Nat b h6.objs.size := by omega
        have n2 : @Ne Nat b C1 := by omega
        exact hs8.extBut b o n2 (hk7 b o (by simpa using n1) (Heap.get?_push_of_some _ e6))
      have hD6 : @LE.le Nat _ h6.objs.size D1 := by omega
      refine hR h8 _ _ P' C hk8 hperm hsorted hpeel (.plain hp8 (fresh_of F6 hD6) ⟨?_, fun j y b hj hb => ?_⟩)
      · rw [hlen7]; simp; omega
      · obtain ⟨c, hc, hs⟩ := hel7 j y hj
        rw [List.getElem?_map, hc] at hb
        cases hb
        exact hs
end Mine
end

section
open PySem PySem.W PySem.Calls PyProof.Rows
set_option Elab.async false
set_option maxRecDepth 100000
set_option maxHeartbeats 4000000
namespace Mine
section
variable {prog : Program} {w : World} {A : Around} {E E' : Value → Shared → Prop} {s : Shared}
theorem loopV_nil {h₀ : Heap} {env : Env} {x : Str} {body : List Stmt} {Q : Flow → Shared → Prop} {l : Addr} {m : Str → Option Value} {news : List (Addr × Obj)} (hh : A.handled = none) (F : Fr h₀ env.locals s.heap m) (N : News h₀ env.locals s.heap news)
    (hl : s.heap.IsList l #[]) (hlL : l ≠ env.locals) (h : ∀ h' tk, Fr h₀ env.locals h' m → News h₀ env.locals h' news → Q .next { s with heap := h', toks := tk }) :
    wpAny (model prog w) A (pyIter (.ref l)) (fun it s₂ => LoopAtV prog w A h₀ env x body Q E it s₂) E' s := by
  refine wpAny_pyIter_list hl ?_
  have hlt : @LT.lt Nat _ l s.heap.objs.size := by obtain ⟨o, ho, _⟩ := hl; exact Heap.lt_size ho
  have hL : @LT.lt Nat _ env.locals s.heap.objs.size := F.ns.lt
  have hne : l ≠ s.heap.objs.size := Nat.ne_of_lt hlt
  have n1 : @Ne Nat env.locals s.heap.objs.size := by omega
  refine ⟨s.heap.objs.size, _, _, _, _, _, m, news, fun _ m' n' => m' = m ∧ n' = news, rfl, Walks.list hh s.heap.objs.size l hne #[], ?_, ?_, ?_, ?_, F.push _, ?_, ⟨rfl, rfl⟩, ?_, ?_⟩
  · simp only [List.mem_cons, List.not_mem_nil, or_false, not_or]; exact ⟨n1, Ne.symm hlL⟩
  · intro b hb; rw [List.mem_singleton.mp hb]; exact F.fresh
  · intro p hp q
    have := Heap.lt_size (N p hp).1
    rw [List.mem_singleton.mp q] at this
    exact Nat.lt_irrefl _ this
  · exact ⟨⟨_, Heap.get?_push_size _ rfl, rfl, rfl⟩, hl.at fun o e => Heap.get?_push_of_some _ e⟩
  · exact News.tail' (N.push F _)
  · intro i v m₁ news₁ s₁ own _ hi; exact absurd hi (Nat.not_lt_zero _)
  · rintro h' tk m' news' F' N' _ ⟨rfl, rfl⟩
    exact h h' tk F' N'
end
end Mine
end

section
open PySem PySem.W PySem.Calls PyProof.Rows
set_option Elab.async false
set_option maxRecDepth 100000
set_option maxHeartbeats 4000000
namespace Mine
structure Sub (g h : Heap) : Prop where
  keep : ∀ b o, g.get? b = some o → h.get? b = some o
  size : @LE.le Nat _ g.objs.size h.objs.size
theorem Fr.sub {g h : Heap} {L : Addr} {m : Str → Option Value} (F : Fr g L h m) : Sub g h := ⟨F.keep, Nat.le_of_lt (Nat.lt_of_le_of_lt F.above F.ns.lt)⟩
theorem Sub.refl {g : Heap} : Sub g g := ⟨fun _ _ e => e, Nat.le_refl _⟩
theorem Sub.trans {g h k : Heap} (a : Sub g h) (b : Sub h k) : Sub g k := ⟨fun x o e => b.keep x o (a.keep x o e), Nat.le_trans a.size b.size⟩

section
variable {prog : Program} {w : World} {A : Around} {s : Shared} {K : Frag} {R : Result → Shared → Prop}
theorem enterB {g : Heap} {name qual : Str} {params : Arguments} {body : List Stmt} {scope : Scope} {dV kV doc pm cdv ct oc : Value} {an od : Option Addr} {osl : Array (Option Value)} {f : Addr} {args : Args} {binds : List (Str × Value)}
    (S : Sub g s.heap) (X : K.In g) (hlim : g.NoLimit)
    (ho : K.lookup f = some ⟨oc, od, .func (fnOf name qual params body scope dV kV doc pm an cdv ct), osl⟩) (hcd : codeIn K cdv qual = true) (hroom : A.depth < recursionLimit)
    (hbind : BindsTo s (fnOf name qual params body scope dV kV doc pm an cdv ct) args binds) (hloc : ∀ y ∈ binds, scope.names.lookup y.1 = some .local)
    (h : ∀ L h₁ tk, L = s.heap.objs.size → Fr g L h₁ (fun y => binds.reverse.lookup y) → Sub s.heap h₁ →
      wpAny (model prog w) (A.deeper (envOf qual scope L f cdv)) (execs body (envOf qual scope L f cdv))
        (fun fl s' => R (.ok (.ret (match fl with | .ret v => v | _ => .none))) s') (fun _ _ => False)
        { s with heap := h₁, toks := tk })
    (hcell : ∀ x ∈ scope.names, x.2 ≠ .cell) (hco : scope.isCoroutine = false) (hgen : scope.isGenerator = false) (hk : scope.kind = .function) : codeAny (model prog w) A (.call (.ref f) args) R s :=
  codeAny_call_def hroom (S.keep _ _ (X _ _ ho)) rfl (hlim.keeps S.keep) (codeRec_of (X.keeps S.keep) hcd) rfl hbind hcell hloc
    (fun h₀ hns hk' => wpAny_mono (h s.heap.objs.size h₀ _ rfl ⟨hns, fun b o e => hk' b o (S.keep b o e), S.size⟩ ⟨hk', Nat.le_of_lt hns.lt⟩) (fun _ _ x => x) fun _ _ x => x.elim) hco hgen hk

theorem enterBkw {g : Heap} {name qual : Str} {params : Arguments} {body : List Stmt} {scope : Scope} {dV kV doc pm cdv ct oc : Value} {an od : Option Addr} {osl : Array (Option Value)} {f : Addr} {args : Args} {binds : Addr → List (Str × Value)}
    (S : Sub g s.heap) (X : K.In g) (hlim : g.NoLimit)
    (ho : K.lookup f = some ⟨oc, od, .func (fnOf name qual params body scope dV kV doc pm an cdv ct), osl⟩) (hcd : codeIn K cdv qual = true) (hroom : A.depth < recursionLimit)
    (hbind : bindArgs (fnOf name qual params body scope dV kV doc pm an cdv ct) args = (alloc { cls := .type "dict", data := .dict #[] } >>= fun d => pure (binds d)))
    (hloc : ∀ d, ∀ y ∈ binds d, scope.names.lookup y.1 = some .local)
    (h : ∀ L D h₁ tk, D = s.heap.objs.size → L = D + 1 → Fr g L h₁ (fun y => (binds D).reverse.lookup y) → Sub s.heap h₁ → h₁.get? D = some { cls := .type "dict", data := .dict #[] } →
      wpAny (model prog w) (A.deeper (envOf qual scope L f cdv)) (execs body (envOf qual scope L f cdv))
        (fun fl s' => R (.ok (.ret (match fl with | .ret v => v | _ => .none))) s') (fun _ _ => False)
        { s with heap := h₁, toks := tk })
    (hcell : ∀ x ∈ scope.names, x.2 ≠ .cell) (hco : scope.isCoroutine = false) (hgen : scope.isGenerator = false) (hk : scope.kind = .function) : codeAny (model prog w) A (.call (.ref f) args) R s := by
  refine codeAny_call_function (fd := fnOf name qual params body scope dV kV doc pm an cdv ct) (body := body) hroom (S.keep _ _ (X _ _ ho)) rfl hco hgen rfl (codeRec_of (X.keeps S.keep) hcd) ?_
  rw [hbind]
  refine wpAny_bind (wpAny_alloc ?_)
  refine wpAny_pure ?_
  refine wpAny_newFunctionEnv hcell (hloc _) (fun h₀ hns₀ hsb₀ => ⟨((hlim.keeps S.keep).keeps fun b o e => Heap.get?_push_of_some _ e).fresh _ hsb₀, codeAny_func ?_⟩) hk
  have hsz : (s.heap.push { cls := .type "dict", data := .dict #[] }).objs.size = s.heap.objs.size + 1 := Heap.size_push ..
  have old : ∀ b o, (s.heap.push { cls := .type "dict", data := .dict #[] }).get? b = some o → h₀.get? b = some o := fun b o e =>
    hsb₀.extBut b o (Nat.ne_of_lt (Heap.lt_size e)) (Heap.get?_push_of_some _ e)
  have old2 : ∀ b o, s.heap.get? b = some o → h₀.get? b = some o := fun b o e => old b o (Heap.get?_push_of_some _ e)
  refine wpAny_mono (h _ _ h₀ _ rfl hsz ⟨hns₀, fun b o e => old2 b o (S.keep b o e), ?_⟩ ⟨old2, ?_⟩ (old _ _ (Heap.get?_push_size _ rfl))) (fun _ _ x => x) fun _ _ x => x.elim
  · exact Nat.le_trans S.size (by rw [hsz]; exact Nat.le_succ _)
  · have := hns₀.lt
    rw [hsz] at this
    exact Nat.le_of_lt (Nat.lt_trans (Nat.lt_succ_self _) this)
end
end Mine
end

section
open PySem PySem.W PySem.Calls PyProof.Rows
set_option Elab.async false
set_option maxRecDepth 100000
set_option maxHeartbeats 4000000
namespace Mine
theorem AOk.in1 {A : Around} {d : Nat} (h : AOk A (d + 1)) : AOk A.in1 d := by
  refine ⟨?_, h.2.1, ?_⟩
  · have := h.1; show A.depth + d < 1000; omega
  · have := h.2.2; show A.units + 1 + 3 * d + 30 < 9900; omega

structure MySrc (prog : Program) (w : World) (r d : Addr) (n : Nat) (P : Nat → Value → Prop) (hb : Heap) (dep : Nat) : Prop where
  type : ∃ tv, (tv == .type "list") = false ∧ (tv == .type "tuple") = false ∧ ∀ (A : Around) (E : Value → Shared → Prop) (s : Shared) (Q : Value → Shared → Prop), Sub hb s.heap → Q tv s → wpAny (model prog w) A (typeOf (.ref r)) Q E s
  there : @LT.lt Nat _ r hb.objs.size ∧ @LT.lt Nat _ d hb.objs.size
  hint : ∀ (A : Around) (E : Value → Shared → Prop) (s : Shared) (Q : Bool → Shared → Prop), AOk A dep → Sub hb s.heap → (∀ b h' tk, Sub s.heap h' → Q b { s with heap := h', toks := tk }) → wpAny (model prog w) A (Builtin.List.listLengthHint (.ref r)) Q E s
  iter : ∀ (A : Around) (E : Value → Shared → Prop) (s : Shared) (Q : Value → Shared → Prop), AOk A dep → Sub hb s.heap →
    (∀ (I : Addr) h' tk (St : Nat → Heap → Prop), Sub s.heap h' → @LE.le Nat _ s.heap.objs.size I → (∀ B : Around, B.handled = none → Walks prog w B I [I, d] [I] n P St) → St 0 h' → Q (.ref I) { s with heap := h', toks := tk }) → wpAny (model prog w) A (pyIter (.ref r)) Q E s

section
variable {prog : Program} {w : World} {A : Around} {E : Value → Shared → Prop} {s : Shared} {r d : Addr} {n : Nat} {P : Nat → Value → Prop} {hb : Heap} {dep : Nat}
theorem src_extend {R : Result → Shared → Prop} (K : MySrc prog w r d n P hb dep) (hA : AOk A (dep + 1)) (hok : Sub hb s.heap) (S : Addr) (hSb : @LE.le Nat _ hb.objs.size S) (res : Value) (c₀ : Nat) (hS : s.heap.get? S = some { cls := .type "list", data := .seq #[] c₀ })
    (hR : ∀ h' tk acc' c', (∀ b o, b ≠ S → s.heap.get? b = some o → h'.get? b = some o) → h'.get? S = some { cls := .type "list", dict := none, data := .seq acc' c', slots := #[] } → ItemsOf P acc' n → R (.ok (.ret res)) { s with heap := h', toks := tk }) (hn : n ≤ 1000) :
    wpAny (model prog w) A.in1 (Builtin.List.listExtendWith (.ref S) (.ref r) res)
      (fun fin s' => match fin with | .done f => R (.ok f) s' | .again c' => c'.quiet = true ∧ codeAny (model prog w) A c' R s') (fun e s' => R (.error e) s') s := by
  have hn' : n ≤ sizeLine := by rw [sizeLine_eq]; omega
  obtain ⟨ht1, ht2⟩ := K.there
  have hSr : @Ne Nat S r := by omega
  have hSd : @Ne Nat S d := by omega
  obtain ⟨tv, hnl, hnt, htype⟩ := K.type
  unfold Builtin.List.listExtendWith
  refine wpAny_bind (htype _ _ _ _ hok ?_)
  have h1 : Builtin.List.listSameRef (.ref S) (.ref r) = false := by simp [Builtin.List.listSameRef]; exact hSr
  simp only [h1, hnl, hnt, Bool.or_false, Bool.false_eq_true, if_false]
  refine wpAny_bind (K.iter _ _ _ _ hA.in1 hok fun I h₁ tk₁ St hsub₁ hI W st => ?_)
  have hSI : @Ne Nat S I := by have : @LT.lt Nat _ S s.heap.objs.size := Heap.lt_size hS; omega
  have hSf : S ∉ [I, d] := by simp only [List.mem_cons, List.not_mem_nil, or_false, not_or]; exact ⟨hSI, hSd⟩
  have W1 := W A.in1 hA.2.1
  have key : ∀ (h : Heap) (c₁ tk : Nat), St 0 h → (∀ b o, b ≠ S → s.heap.get? b = some o → h.get? b = some o) →
      h.get? S = some { cls := .type "list", data := .seq #[] c₁ } → codeAny (model prog w) A (.builtin "list.extend.loop" ⟨[.ref S, .ref I, res], []⟩) R { s with heap := h, toks := tk } := by
    intro h c₁ tk hst hk hS₁
    refine codeAny_extend_loopS W1.toS hn' S hSf res n 0 _ #[] c₁ rfl (Nat.zero_le _) hst hS₁ (ItemsOf.nil _) fun s' acc' c' hm hS' hacc => ?_
    rw [Moved.eq_with hm]
    refine hR s'.heap s'.toks acc' c' (fun b o hb e => hm.heap b o (fun hmem => ?_) (hk b o hb e)) hS' hacc
    rcases List.mem_cons.mp hmem with e' | hmem
    · exact hb e'
    · have e2 : @Eq Nat b I := List.mem_singleton.mp hmem
      have : @LT.lt Nat _ b s.heap.objs.size := Heap.lt_size e
      omega
  have hS₁ := hsub₁.keep _ _ hS
  refine wpAny_bind (wpAny_holding (K.hint _ _ _ _ hA.in1 (hok.trans hsub₁) fun b h₂ tk₂ hsub₂ => ?_))
  have hS₂ := hsub₂.keep _ _ hS₁
  have st₂ : St 0 h₂ := W1.frame 0 _ _ st fun b _ o e => hsub₂.keep b o e
  have old₂ : ∀ b o, s.heap.get? b = some o → h₂.get? b = some o := fun b o e => hsub₂.keep _ _ (hsub₁.keep _ _ e)
  refine wpAny_ite_split (fun _ => ?_) (fun _ => wpAny_pure ⟨plainId_quiet PySem.F.plain_extend_loop _, key _ c₀ _ st₂ (fun b o _ e => old₂ b o e) hS₂⟩)
  refine wpAny_bind (wpAny_rule ?_)
  refine wpAny_bind ?_
  show wpAny _ _ (updateSeq S (·.push .none) >>= fun _ => updateSeq S (·.pop)) _ _ _
  refine wpAny_bind (wpAny_updateSeq hS₂ rfl ?_)
  have hS₃ := Heap.get?_update_self (Obj.mapSeq (·.push Value.none)) hS₂ rfl
  refine wpAny_updateSeq (hz := by seq_fits) hS₃ rfl ?_
  have hS₄ := Heap.get?_update_self (Obj.mapSeq (·.pop)) hS₃ rfl
  refine wpAny_pure ⟨plainId_quiet PySem.F.plain_extend_loop _, key _ _ _ ?_ (fun b o hb e => ?_) hS₄⟩
  · refine W1.frame 0 _ _ st₂ fun b hb o e => ?_
    have hbS : b ≠ S := fun h => hSf (h ▸ hb)
    exact (Heap.get?_update_other _ _ (Ne.symm hbS)).trans ((Heap.get?_update_other _ _ (Ne.symm hbS)).trans e)
  · exact (Heap.get?_update_other _ _ (Ne.symm hb)).trans ((Heap.get?_update_other _ _ (Ne.symm hb)).trans (old₂ b o e))

theorem src_iadd {R : Result → Shared → Prop} (K : MySrc prog w r d n P hb dep) (hA : AOk A (dep + 1)) (hok : Sub hb s.heap) (S : Addr) (hSb : @LE.le Nat _ hb.objs.size S) (c₀ : Nat) (hS : s.heap.get? S = some { cls := .type "list", data := .seq #[] c₀ })
    (hR : ∀ h' tk acc' c', (∀ b o, b ≠ S → s.heap.get? b = some o → h'.get? b = some o) → h'.get? S = some { cls := .type "list", dict := none, data := .seq acc' c', slots := #[] } → ItemsOf P acc' n → R (.ok (.ret (.ref S))) { s with heap := h', toks := tk }) (hn : n ≤ 1000) :
    codeAny (model prog w) A (.builtin "list.__iadd__" ⟨[.ref S, .ref r], []⟩) R s := by
  refine codeAny_builtin PySem.F.entry_list_iadd ?_
  rw [Around.under_plainId PySem.F.plain_list_iadd _]
  exact src_extend K hA hok S hSb (.ref S) c₀ hS hR hn

theorem sub_upd {h : Heap} (hok : Sub hb h) {S : Addr} (hSb : @LE.le Nat _ hb.objs.size S) (f : Obj → Obj) : Sub hb (h.update S f) :=
  ⟨fun b o e => (Heap.get?_update_other _ _ (by have : @LT.lt Nat _ b hb.objs.size := Heap.lt_size e; exact (by omega : @Ne Nat S b))).trans (hok.keep b o e), by rw [Heap.size_update]; exact hok.size⟩
theorem sub_push {h : Heap} (hok : Sub hb h) (o : Obj) : Sub hb (h.push o) := ⟨fun b o' e => Heap.get?_push_of_some _ (hok.keep b o' e), by rw [Heap.size_push]; exact Nat.le_succ_of_le hok.size⟩

theorem src_init {R : Result → Shared → Prop} (K : MySrc prog w r d n P hb dep) (hA : AOk A (dep + 1)) (hok : Sub hb s.heap) (S : Addr) (hSb : @LE.le Nat _ hb.objs.size S) (hS : s.heap.get? S = some { cls := .type "list", data := .seq #[] })
    (hR : ∀ h' tk acc' c', (∀ b o, b ≠ S → s.heap.get? b = some o → h'.get? b = some o) → h'.get? S = some { cls := .type "list", dict := none, data := .seq acc' c', slots := #[] } → ItemsOf P acc' n → R (.ok (.ret .none)) { s with heap := h', toks := tk }) (hn : n ≤ 1000) :
    wpAny (model prog w) A.in1 (Builtin.«list.__init__» ⟨[.ref S, .ref r], []⟩)
      (fun fin s' => match fin with | .done f => R (.ok f) s' | .again c' => c'.quiet = true ∧ codeAny (model prog w) A c' R s') (fun e s' => R (.error e) s') s := by
  show wpAny _ _ (do let old ← Builtin.List.listItems (.ref S); Builtin.List.listUpdate (.ref S) (fun _ => #[]); letGo old.toList.reverse; Builtin.List.listExtendWith (.ref S) (.ref r) .none) _ _ s
  refine wpAny_bind ?_
  unfold Builtin.List.listItems
  refine wpAny_bind (wpAny_seqItems hS rfl (wpAny_pure ?_))
  show wpAny _ _ (updateSeq S (fun _ => #[]) >>= fun _ => letGo (#[] : Array Value).toList.reverse >>= fun _ => Builtin.List.listExtendWith (.ref S) (.ref r) .none) _ _ s
  refine wpAny_bind (wpAny_updateSeq hS rfl ?_)
  have hS₂ := Heap.get?_update_self (Obj.mapSeq (fun _ => (#[] : Array Value))) hS rfl
  have oth : ∀ b o, b ≠ S → s.heap.get? b = some o → (s.heap.update S (Obj.mapSeq (fun _ => (#[] : Array Value)))).get? b = some o :=
    fun b o hb e => (Heap.get?_update_other _ _ (Ne.symm hb)).trans e
  refine wpAny_bind (wpAny_letGo ?_)
  refine src_extend K hA (sub_upd hok hSb _) S hSb .none _ hS₂ (fun h' tk acc' c' hk hS' hacc => ?_) hn
  exact hR h' tk acc' c' (fun b o hb e => hk b o hb (oth b o hb e)) hS' hacc

theorem src_list {Q : Value → Shared → Prop} (K : MySrc prog w r d n P s.heap dep) (hA : AOk A (dep + 2)) (hn : n ≤ 1000)
    (hQ : ∀ h' tk (vs : List Value), (∀ b o, s.heap.get? b = some o → h'.get? b = some o) → h'.PlainList s.heap.objs.size vs.toArray → vs.length = n → (∀ j v, vs[j]? = some v → P j v) → Q (.ref s.heap.objs.size) { s with heap := h', toks := tk }) :
    wpAny (model prog w) A (call (.type "list") [.ref r]) Q E s := by
  refine callType_codes (Q₁ := fun obj s₁ => obj = .ref s.heap.objs.size ∧ s₁ = { s with heap := s.heap.push { cls := .type "list", data := .seq #[] } }) PySem.F.called_list (PySem.F.typeCall_list_1 _) PySem.F.entry_list_init
    (code_list_new _ ⟨rfl, rfl⟩) fun obj s₁ h₁ => ?_
  obtain ⟨rfl, rfl⟩ := h₁
  have hS : (s.heap.push { cls := .type "list", data := .seq #[] }).get? s.heap.objs.size = some { cls := .type "list", data := .seq #[] } := Heap.get?_push_size _ rfl
  refine ⟨⟨_, hS, rfl⟩, PySem.F.args_list_init_2 _ _, src_init (A := A.in1) K hA.in1 (sub_push Sub.refl _) _ (Nat.le_refl _) hS (fun h' tk acc' c' hk hS' hacc => ?_) hn⟩
  refine ⟨rfl, hQ h' tk acc'.toList (fun b o e => hk b o (Nat.ne_of_lt (Heap.lt_size e)) (Heap.get?_push_of_some _ e)) ⟨c', by simpa using hS'⟩ (by rw [Array.length_toList]; exact hacc.1) fun j v e => hacc.2 j v (by rw [← Array.getElem?_toList]; exact e)⟩

theorem src_collect {Q : List Value → Shared → Prop} (K : MySrc prog w r d n P s.heap dep) (hA : AOk A (dep + 2)) (hn : n ≤ 1000)
    (hQ : ∀ h' tk (vs : List Value), (∀ b o, s.heap.get? b = some o → h'.get? b = some o) → @LE.le Nat _ s.heap.objs.size h'.objs.size → vs.length = n → (∀ j v, vs[j]? = some v → P j v) → Q vs { s with heap := h', toks := tk }) :
    wpAny (model prog w) A (collect (.ref r)) Q E s := by
  unfold collect
  refine wpAny_bind (wpAny_runValue (codeAny_builtin PySem.F.entry_proto_collect ?_))
  rw [Around.under_plainId PySem.F.plain_proto_collect _]
  show wpAny _ A.in1 (newList [] >>= fun l => again (.builtin "list.__iadd__" ⟨[l, .ref r], []⟩)) _ _ s
  refine wpAny_bind (wpAny_newObj_type ?_)
  have hS : (s.heap.push { cls := .type "list", data := .seq ([] : List Value).toArray }).get? s.heap.objs.size = some { cls := .type "list", data := .seq #[] } := Heap.get?_push_size _ rfl
  refine wpAny_pure ⟨plainId_quiet PySem.F.plain_list_iadd _, src_iadd (s := { s with heap := s.heap.push { cls := .type "list", data := .seq ([] : List Value).toArray } }) K (hA.less (by omega)) (sub_push Sub.refl _) s.heap.objs.size (Nat.le_refl _) 0 hS (fun h' tk acc' c' hk hS' hacc => ?_) hn⟩
  show wpAny _ A (load s.heap.objs.size >>= _) _ _ _
  refine wpAny_bind (wpAny_load hS' ?_)
  refine wpAny_pure (hQ h' tk acc'.toList (fun b o e => hk b o (Nat.ne_of_lt (Heap.lt_size e)) (Heap.get?_push_of_some _ e)) (Nat.le_of_lt (Heap.lt_size hS')) (by rw [Array.length_toList]; exact hacc.1) fun j v e => hacc.2 j v (by rw [← Array.getElem?_toList]; exact e))

theorem src_sorted {ns : List Int} {Q : Value → Shared → Prop} (K : MySrc prog w r d n P s.heap dep) (hA : AOk A (dep + 3)) (hn : n < 64) (hP : ∀ vs : List Value, vs.length = n → (∀ j v, vs[j]? = some v → P j v) → IntsAre vs ns)
    (hQ : ∀ h' tk D (vs : List Value) ns', (∀ b o, s.heap.get? b = some o → h'.get? b = some o) → @LE.le Nat _ s.heap.objs.size D → h'.PlainList D vs.toArray → IntsAre vs ns' → ns'.Perm ns → ns'.Pairwise (· ≤ ·) → Q (.ref D) { s with heap := h', toks := tk }) :
    wpAny (model prog w) A (call (.builtin "sorted") [.ref r]) Q E s := by
  refine Calls.call_function_entry kind_sorted plain_sorted entry_sorted (args_sorted1 _) ?_
  unfold Builtin.«sorted»
  refine wpAny_bind (m := checkCount "sorted" 1 1 _) (wpAny_pure ?_)
  refine wpAny_bind (src_collect K hA.in1 (by omega) fun h₁ tk₁ vs hk₁ hsz₁ hl hv => ?_)
  have hI := hP vs hl hv
  refine wpAny_bind (wpAny_newList ?_ (by rw [sizeLine_eq]; omega))
  have hoL : (h₁.push (seqObj "list" vs.toArray 0)).get? h₁.objs.size = some (seqObj "list" vs.toArray 0) := Heap.get?_push_size _ rfl
  show wpAny _ _ _ _ _ { s with heap := h₁.push (seqObj "list" vs.toArray 0), toks := tk₁ }
  refine wpAny_bind (wpAny_holding (wpAny_call_entry PyProof.Rows.slot_list_sort ⟨_, hoL, rfl⟩ PyProof.Rows.entry_list_sort (list_sort_tree hoL hI (by omega) fun out ns' a1 a2 a3 => ⟨_, rfl, ?_⟩) (PyProof.Rows.args_list_sort _)))
  obtain ⟨e, he⟩ := sortedHeap_at (out := out) hoL
  refine wpAny_pure ⟨_, rfl, hQ _ _ _ out.toList ns' (fun b o e => ?_) hsz₁ ⟨e, by simpa using he⟩ a1 a2 a3⟩
  have e1 := hk₁ b o e
  have hlt := Heap.lt_size e1
  exact (sortedHeap_old (Nat.ne_of_lt hlt) (by rw [size_push']; exact Nat.lt_succ_of_lt hlt)).trans (Heap.get?_push_of_some _ e1)
end

section
variable {prog : Program} {w : World} {K : Type} [DecidableEq K] {knd : KeyKind prog w K} {d : Addr} {kvs : List (K × Value)} {ep : Nat} {hb : Heap} {dep : Nat}
theorem src_dict (lo : (d == sysModules) = false) (hm : hb.DictAt knd d kvs ep) : MySrc prog w d d kvs.length (fun i v => ∃ k x, kvs[i]? = some (k, x) ∧ knd.is k v = true) hb dep where
  type := ⟨.type "dict", by decide, by decide, fun A E s Q hs hq => wpAny_typeOf (T := "dict") ((hm.keep hs.keep).dictOf.typeIs) hq⟩
  there := ⟨hm.lt_size, hm.lt_size⟩
  hint := fun A E s Q _ hs hq => kdl_hint_dict (hm.keep hs.keep).dictOf.typeIs (hq false s.heap s.toks Sub.refl)
  iter := fun A E s Q hA hs hq => wpAny_pyIter_dict lo (hm.keep hs.keep) (hq s.heap.objs.size _ s.toks _ (sub_push Sub.refl _) (Nat.le_refl _) (fun B hB => Walks.dictKeys hB _ d (Nat.ne_of_lt (hm.keep hs.keep).lt_size) kvs ep)
    ⟨⟨_, Heap.get?_push_size _ rfl, rfl, rfl⟩, (hm.keep hs.keep).push _⟩)
end
end Mine
end

section
open PySem PySem.W PySem.Calls PyProof.Rows
set_option Elab.async false
set_option maxRecDepth 100000
set_option maxHeartbeats 8000000
namespace Mine
structure GA where
  x : Nat
  dx : Nat
  dg : Nat
  dn : Nat
  da : Nat
  ia : List Nat
  na : List Nat
  t1 : Tok
  t2 : Tok
  t3 : Tok
def GA.fp (a : GA) : List Nat := a.x :: a.dx :: a.dg :: a.dn :: a.da :: (a.ia ++ a.na)
def GA.dp (a : GA) : List Nat := a.dx :: a.dg :: a.dn :: a.da :: (a.ia ++ a.na)
def gEs (w : World) (a : GA) : List DictEntry :=
  [⟨PyData.keyHash w.params (Str.ofString "graph"), .str (Str.ofString "graph") a.t1, .ref a.dg⟩, ⟨PyData.keyHash w.params (Str.ofString "_node"), .str (Str.ofString "_node") a.t2, .ref a.dn⟩,
   ⟨PyData.keyHash w.params (Str.ofString "_adj"), .str (Str.ofString "_adj") a.t3, .ref a.da⟩]
def refs (l : List Nat) : List Value := l.map fun a => Value.ref a
abbrev Adj := List (Int × List Int)
def keysOf (G : Adj) : List Int := G.map (·.1)
structure GR (w : World) (a : GA) (G : Adj) (h : Heap) : Prop where
  nd : a.fp.Nodup
  inst : h.get? a.x = some (instObj 624 a.dx)
  dict : h.get? a.dx = some (dictOf (gEs w a) 3)
  gd : ∃ kvs, h.DictOf (strKind PG w) a.dg kvs ∧ ∀ p ∈ kvs, p.1 = Str.ofString "name"
  node : h.DictOf (intKind PG w) a.dn ((keysOf G).zip (refs a.na))
  adj : h.DictOf (intKind PG w) a.da ((keysOf G).zip (refs a.ia))
  lni : a.ia.length = G.length
  lna : a.na.length = G.length
  inner : ∀ (i b : Nat) (p : Int × List Int), a.ia[i]? = some b → G[i]? = some p → ∃ vs : List Value, vs.length = p.2.length ∧ h.DictOf (intKind PG w) b (p.2.zip vs)
  attr : ∀ b ∈ a.na, h.DictOf (strKind PG w) b []
  nomods : ∀ b ∈ a.dp, ((b : Addr) == sysModules) = false
  small : G.length ≤ 20

theorem GR.mv {w : World} {a : GA} {G : Adj} {h h' : Heap} (R : GR w a G h) (hk : ∀ b o, b ∈ a.fp → h.get? b = some o → h'.get? b = some o) : GR w a G h' := by
  have dk : ∀ {K : Type} [DecidableEq K] {knd : KeyKind PG w K} {b : Nat} {kvs : List (K × Value)}, b ∈ a.fp → h.DictOf knd b kvs → h'.DictOf knd b kvs := fun hb ⟨o, es, ep, e, r⟩ => ⟨o, es, ep, hk _ _ hb e, r⟩
  refine ⟨R.nd, hk _ _ (by simp [GA.fp]) R.inst, hk _ _ (by simp [GA.fp]) R.dict, ?_, dk (by simp [GA.fp]) R.node, dk (by simp [GA.fp]) R.adj, R.lni, R.lna, fun i b p e1 e2 => ?_, fun b hb => dk (by simp [GA.fp, hb]) (R.attr b hb), R.nomods, R.small⟩
  · obtain ⟨kvs, hd, hl⟩ := R.gd
    exact ⟨kvs, dk (by simp [GA.fp]) hd, hl⟩
  · obtain ⟨vs, hl, hd⟩ := R.inner i b p e1 e2
    have hb : b ∈ a.ia := List.mem_of_getElem? e1
    exact ⟨vs, hl, dk (by simp [GA.fp, hb]) hd⟩

theorem zip_valueAt {ks : List Int} {vs : List Value} (hn : ks.Nodup) (hl : vs.length = ks.length) {i : Nat} {k : Int} {v : Value} (hk : ks[i]? = some k) (hv : vs[i]? = some v) : valueAt (ks.zip vs) k = some v :=
  valueAt_of_get (i := i) (by rw [List.map_fst_zip (by omega)]; exact hn) (by rw [List.getElem?_zip_eq_some]; exact ⟨hk, hv⟩)
theorem zip_absent {ks : List Int} {vs : List Value} {k : Int} (hk : k ∉ ks) : valueAt (ks.zip vs) k = none := by
  unfold valueAt
  rw [Option.map_eq_none_iff, List.find?_eq_none]
  intro p hp e
  have := (List.of_mem_zip (a := p.1) (b := p.2) hp).1
  exact hk (by simpa using (of_decide_eq_true e) ▸ this)
theorem zip_present {ks : List Int} {vs : List Value} (hl : vs.length = ks.length) {k : Int} (hk : k ∈ ks) : (valueAt (ks.zip vs) k).isSome = true := by
  rw [PyProof.Rows.valueAt_isSome_eq_any, List.any_eq_true]
  obtain ⟨i, hi, rfl⟩ := List.getElem_of_mem hk
  exact ⟨(ks[i], vs[i]), List.mem_of_getElem? (i := i) (by rw [List.getElem?_zip_eq_some]; simp [hi, hl]), by simp⟩
theorem DictOf.nodup {w : World} {h : Heap} {b : Addr} {ks : List Int} {vs : List Value} (x : h.DictOf (intKind PG w) b (ks.zip vs)) (hl : vs.length = ks.length) : ks.Nodup := by
  obtain ⟨_, _, _, _, _, _, _, _, hn⟩ := x
  rwa [List.map_fst_zip (by omega)] at hn
theorem zip_snoc {α β : Type} {ks : List α} {vs : List β} (hl : vs.length = ks.length) (k : α) (v : β) : ks.zip vs ++ [(k, v)] = (ks ++ [k]).zip (vs ++ [v]) := by
  rw [List.zip_append hl.symm]; rfl
theorem refs_len (l : List Nat) : (refs l).length = l.length := by simp [refs]
theorem keys_len (G : Adj) : (keysOf G).length = G.length := by simp [keysOf]
theorem GR.keys_nodup {w : World} {a : GA} {G : Adj} {h : Heap} (R : GR w a G h) : (keysOf G).Nodup := DictOf.nodup R.node (by rw [refs_len, keys_len, R.lna])

theorem GR.addNode {w : World} {a : GA} {G : Adj} {h h' : Heap} (R : GR w a G h) {k : Int} (_hk : k ∉ keysOf G) {D1 D2 : Nat} (f1 : D1 ∉ a.fp) (f2 : D2 ∉ a.fp) (f12 : D1 ≠ D2) (m1 : ((D1 : Addr) == sysModules) = false) (m2 : ((D2 : Addr) == sysModules) = false)
    (ha : h'.DictOf (intKind PG w) a.da ((keysOf G).zip (refs a.ia) ++ [(k, .ref D1)])) (hn : h'.DictOf (intKind PG w) a.dn ((keysOf G).zip (refs a.na) ++ [(k, .ref D2)]))
    (e1 : h'.DictOf (intKind PG w) D1 []) (e2 : h'.DictOf (strKind PG w) D2 []) (hkeep : ∀ b o, b ∈ a.fp → b ≠ a.da → b ≠ a.dn → h.get? b = some o → h'.get? b = some o) (hs : G.length < 20) :
    GR w { a with ia := a.ia ++ [D1], na := a.na ++ [D2] } (G ++ [(k, [])]) h' := by
  have nd := R.nd
  have dk : ∀ {K : Type} [DecidableEq K] {knd : KeyKind PG w K} {b : Nat} {kvs : List (K × Value)}, b ∈ a.fp → b ≠ a.da → b ≠ a.dn → h.DictOf knd b kvs → h'.DictOf knd b kvs := fun hb h1 h2 ⟨o, es, ep, e, r⟩ => ⟨o, es, ep, hkeep _ _ hb h1 h2 e, r⟩
  unfold GA.fp at nd f1 f2
  simp only [List.nodup_cons, List.mem_cons, List.mem_append, not_or, List.nodup_append] at nd f1 f2
  obtain ⟨⟨nx1, nx2, nx3, nx4, nx5, nx6⟩, ⟨nd1, nd2, nd3, nd4, nd5⟩, ⟨ng1, ng2, ng3, ng4⟩, ⟨nn1, nn2, nn3⟩, ⟨na1, na2⟩, hia, hna, hdis⟩ := nd
  obtain ⟨g1, g2, g3, g4, g5, g6, g7⟩ := f1
  obtain ⟨k1, k2, k3, k4, k5, k6, k7⟩ := f2
  refine ⟨?_, ?_, ?_, ?_, ?_, ?_, ?_, ?_, fun i b p hi hp => ?_, fun b hb => ?_, fun b hb => ?_, ?_⟩
  · unfold GA.fp
    simp only [List.nodup_cons, List.mem_cons, List.mem_append, not_or, List.nodup_append, List.not_mem_nil, or_false]
    refine ⟨⟨nx1, nx2, nx3, nx4, ⟨nx5, Ne.symm g1⟩, nx6, Ne.symm k1⟩, ⟨nd1, nd2, nd3, ⟨nd4, Ne.symm g2⟩, nd5, Ne.symm k2⟩, ⟨ng1, ng2, ⟨ng3, Ne.symm g3⟩, ng4, Ne.symm k3⟩, ⟨nn1, ⟨nn2, Ne.symm g4⟩, nn3, Ne.symm k4⟩, ⟨⟨na1, Ne.symm g5⟩, na2, Ne.symm k5⟩, ⟨hia, by simp, ?_⟩, ⟨hna, by simp, ?_⟩, ?_⟩
    · intro p hp q hq e; rw [e, hq] at hp; exact g6 hp
    · intro p hp q hq e; rw [e, hq] at hp; exact k7 hp
    · intro p hp q hq e
      subst e
      rcases hp with hp | rfl <;> rcases hq with hq | hq
      · exact hdis p hp p hq rfl
      · exact k6 (hq ▸ hp)
      · exact g7 hq
      · exact f12 hq
  · exact hkeep _ _ (by simp [GA.fp]) nx4 nx3 R.inst
  · exact hkeep _ _ (by simp [GA.fp]) nd3 nd2 R.dict
  · obtain ⟨kvs, hd, hl⟩ := R.gd
    exact ⟨kvs, dk (by simp [GA.fp]) ng2 ng1 hd, hl⟩
  · rw [zip_snoc (by rw [refs_len, keys_len, R.lna])] at hn
    simpa [keysOf, refs] using hn
  · rw [zip_snoc (by rw [refs_len, keys_len, R.lni])] at ha
    simpa [keysOf, refs] using ha
  · simp [R.lni]
  · simp [R.lna]
  · rcases Nat.lt_or_ge i G.length with hlt | hge
    · have hi' : a.ia[i]? = some b := by rwa [List.getElem?_append_left (by rw [R.lni]; exact hlt)] at hi
      have hp' : G[i]? = some p := by rwa [List.getElem?_append_left hlt] at hp
      obtain ⟨vs, hl, hd⟩ := R.inner i b p hi' hp'
      have hb : b ∈ a.ia := List.mem_of_getElem? hi'
      exact ⟨vs, hl, dk (by simp [GA.fp, hb]) (fun e => na1 (e ▸ hb)) (fun e => nn2 (e ▸ hb)) hd⟩
    · have hi2 : i = G.length := by
        have := (List.getElem?_eq_some_iff.mp hp).1
        simp at this; omega
      subst hi2
      simp at hp
      rw [← R.lni] at hi
      simp at hi
      subst hp hi
      exact ⟨[], rfl, e1⟩
  · rcases List.mem_append.mp hb with hb | hb
    · exact dk (by simp [GA.fp, hb]) (fun e => na2 (e ▸ hb)) (fun e => nn3 (e ▸ hb)) (R.attr b hb)
    · rw [List.mem_singleton.mp hb]; exact e2
  · unfold GA.dp at hb
    simp only [List.mem_cons, List.mem_append, List.not_mem_nil, or_false] at hb
    by_cases q1 : b = D1
    · rw [q1]; exact m1
    by_cases q2 : b = D2
    · rw [q2]; exact m2
    refine R.nomods b ?_
    unfold GA.dp
    simp only [List.mem_cons, List.mem_append]
    simpa [q1, q2] using hb
  · simp; omega

def setEdge (u v : Int) (p : Int × List Int) : Int × List Int := if p.1 = u then (p.1, p.2 ++ [v]) else if p.1 = v then (p.1, p.2 ++ [u]) else p
def addE (G : Adj) (u v : Int) : Adj := G.map (setEdge u v)
theorem setEdge_fst (u v : Int) (p : Int × List Int) : (setEdge u v p).1 = p.1 := by unfold setEdge; split <;> (try split) <;> rfl
theorem keysOf_addE (G : Adj) (u v : Int) : keysOf (addE G u v) = keysOf G := by
  unfold keysOf addE
  rw [List.map_map]
  exact List.map_congr_left fun p _ => setEdge_fst u v p

theorem get_mem_ne {l : List Nat} (hn : l.Nodup) {i j b c : Nat} (hi : l[i]? = some b) (hj : l[j]? = some c) (hij : i ≠ j) : b ≠ c := by
  intro e
  subst e
  have h1 := List.getElem?_eq_some_iff.mp hi
  have h2 := List.getElem?_eq_some_iff.mp hj
  exact hij ((List.getElem_inj hn).mp (h1.2.trans h2.2.symm))

theorem GR.addEdge {w : World} {a : GA} {G : Adj} {h h' : Heap} (R : GR w a G h) {u v : Int} {i j bi bj : Nat} {nu nv : List Int} {vi vj : List Value} {dd : Value} (huv : u ≠ v) (gi : G[i]? = some (u, nu)) (gj : G[j]? = some (v, nv)) (ai : a.ia[i]? = some bi) (aj : a.ia[j]? = some bj)
    (li : vi.length = nu.length) (lj : vj.length = nv.length) (hi : h'.DictOf (intKind PG w) bi (nu.zip vi ++ [(v, dd)])) (hj : h'.DictOf (intKind PG w) bj (nv.zip vj ++ [(u, dd)]))
    (hkeep : ∀ b o, b ∈ a.fp → b ≠ bi → b ≠ bj → h.get? b = some o → h'.get? b = some o) : GR w a (addE G u v) h' := by
  have nd := R.nd
  have dk : ∀ {K : Type} [DecidableEq K] {knd : KeyKind PG w K} {b : Nat} {kvs : List (K × Value)}, b ∈ a.fp → b ≠ bi → b ≠ bj → h.DictOf knd b kvs → h'.DictOf knd b kvs := fun hb h1 h2 ⟨o, es, ep, e, r⟩ => ⟨o, es, ep, hkeep _ _ hb h1 h2 e, r⟩
  have mi : bi ∈ a.ia := List.mem_of_getElem? ai
  have mj : bj ∈ a.ia := List.mem_of_getElem? aj
  unfold GA.fp at nd
  simp only [List.nodup_cons, List.mem_cons, List.mem_append, not_or, List.nodup_append] at nd
  obtain ⟨⟨nx1, nx2, nx3, nx4, nx5, nx6⟩, ⟨nd1, nd2, nd3, nd4, nd5⟩, ⟨ng1, ng2, ng3, ng4⟩, ⟨nn1, nn2, nn3⟩, ⟨na1, na2⟩, hia, hna, hdis⟩ := nd
  have off : ∀ {b : Nat}, b ∉ a.ia → b ≠ bi ∧ b ≠ bj := fun hb => ⟨fun e => hb (e ▸ mi), fun e => hb (e ▸ mj)⟩
  have gk := R.keys_nodup
  refine ⟨R.nd, hkeep _ _ (by simp [GA.fp]) (off nx5).1 (off nx5).2 R.inst, hkeep _ _ (by simp [GA.fp]) (off nd4).1 (off nd4).2 R.dict, ?_, ?_, ?_, by rw [R.lni]; simp [addE], by rw [R.lna]; simp [addE], fun n b p hb hp => ?_, fun b hb => ?_, R.nomods, by simp [addE]; exact R.small⟩
  · obtain ⟨kvs, hd, hl⟩ := R.gd
    exact ⟨kvs, dk (by simp [GA.fp]) (off ng3).1 (off ng3).2 hd, hl⟩
  · rw [keysOf_addE]; exact dk (by simp [GA.fp]) (off nn2).1 (off nn2).2 R.node
  · rw [keysOf_addE]; exact dk (by simp [GA.fp]) (off na1).1 (off na1).2 R.adj
  · unfold addE at hp
    rw [List.getElem?_map] at hp
    cases hq : G[n]? with
    | none => rw [hq] at hp; cases hp
    | some q =>
      rw [hq] at hp
      cases hp
      have hkey : ∀ {m : Nat} {y : Int} {ny : List Int}, G[m]? = some (y, ny) → q.1 = y → n = m := by
        intro m y ny hm e
        have h1 : (keysOf G)[n]? = some q.1 := by simp [keysOf, hq]
        have h2 : (keysOf G)[m]? = some y := by simp [keysOf, hm]
        have h3 := List.getElem?_eq_some_iff.mp h1
        have h4 := List.getElem?_eq_some_iff.mp h2
        exact (List.getElem_inj gk).mp (h3.2.trans (e.trans h4.2.symm))
      unfold setEdge
      by_cases q1 : q.1 = u
      · have := hkey gi q1
        subst this
        rw [hq] at gi; cases gi
        rw [hb] at ai; cases ai
        rw [if_pos rfl]
        rw [zip_snoc li] at hi
        exact ⟨_, by simp [li], hi⟩
      · rw [if_neg q1]
        by_cases q2 : q.1 = v
        · have := hkey gj q2
          subst this
          rw [hq] at gj; cases gj
          rw [hb] at aj; cases aj
          rw [if_pos rfl]
          rw [zip_snoc lj] at hj
          exact ⟨_, by simp [lj], hj⟩
        · rw [if_neg q2]
          obtain ⟨vs, hl, hd⟩ := R.inner n b q hb hq
          have hbm : b ∈ a.ia := List.mem_of_getElem? hb
          refine ⟨vs, hl, dk (by simp [GA.fp, hbm]) ?_ ?_ hd⟩
          · exact get_mem_ne hia hb ai (fun e => q1 (by rw [e, gi] at hq; cases hq; rfl))
          · exact get_mem_ne hia hb aj (fun e => q2 (by rw [e, gj] at hq; cases hq; rfl))
  · have : b ∉ a.ia := fun e => hdis b e b hb rfl
    exact dk (by simp [GA.fp, hb]) (off this).1 (off this).2 (R.attr b hb)
end Mine
end

section
open PySem PySem.W PySem.Calls PyProof.Rows
set_option Elab.async false
set_option maxRecDepth 100000
set_option maxHeartbeats 8000000
namespace Mine
theorem fillK_GM : PySem.Challenge.rw_au6018_01 = PySem.Challenge.rw_au6018_01 → hd.heap_39 = hd.heap_39 → True := by
  k_fill
  intro _ _; trivial
theorem kf_has {w : World} : hasDictIn (hd.heap_39 w.params) 624 = true := by k_is
theorem kf_node {w : World} : plainGet (hd.heap_39 w.params) 624 (Str.ofString "_node") = true := by k_is
theorem kf_adj {w : World} : plainGet (hd.heap_39 w.params) 624 (Str.ofString "_adj") = true := by k_is
theorem kf_graph {w : World} : plainGet (hd.heap_39 w.params) 624 (Str.ofString "graph") = true := by k_is
theorem kn_node {w : World} : findIn (hd.heap_39 w.params) (.ref 624) (Str.ofString "_node") = some none := by k_is
theorem kn_adj {w : World} : findIn (hd.heap_39 w.params) (.ref 624) (Str.ofString "_adj") = some none := by k_is
theorem kn_graph {w : World} : findIn (hd.heap_39 w.params) (.ref 624) (Str.ofString "graph") = some none := by k_is

theorem GR.at_ {w : World} {a : GA} {G : Adj} {h : Heap} (R : GR w a G h) : InstAt h a.x (instObj 624 a.dx) 624 (some (dictOf (gEs w a) 3)) := ⟨R.inst, rfl, rfl, R.dict⟩

section
variable {w : World} {A : Around} {E : Value → Shared → Prop} {s : Shared} {g : Heap} {L f : Addr} {m : Str → Option Value} {name : Str} {scope : Scope} {cd : Value} {a : GA} {G : Adj} {Q : Value → Shared → Prop}

theorem rd_node {x : Str} {p1 p2 : Pos} (F : Fr g L s.heap m) (KX : (hd.heap_39 w.params).In g) (I : InstAt s.heap a.x (instObj 624 a.dx) 624 (some (dictOf (gEs w a) 3))) (mx : m x = some (.ref a.x)) (hk : scope.kind = .function) (hx : (envOf name scope L f cd).kindOf x = some .local) (hd' : (x == ("__debug__" : Str)) = false)
    (h : Q (.ref a.dn) { s with toks := s.toks + 1 }) : wpAny (model PG w) A (eval (.Attribute (.Name x p1) (Str.ofString "_node") p2) (envOf name scope L f cd)) Q E s :=
  Attribute_name (ld F mx (get_own F KX I kf_node kf_has kn_node rfl rfl rfl h) hk hx hd')
theorem rd_adj {x : Str} {p1 p2 : Pos} (F : Fr g L s.heap m) (KX : (hd.heap_39 w.params).In g) (I : InstAt s.heap a.x (instObj 624 a.dx) 624 (some (dictOf (gEs w a) 3))) (mx : m x = some (.ref a.x)) (hk : scope.kind = .function) (hx : (envOf name scope L f cd).kindOf x = some .local) (hd' : (x == ("__debug__" : Str)) = false)
    (h : Q (.ref a.da) { s with toks := s.toks + 1 }) : wpAny (model PG w) A (eval (.Attribute (.Name x p1) (Str.ofString "_adj") p2) (envOf name scope L f cd)) Q E s :=
  Attribute_name (ld F mx (get_own F KX I kf_adj kf_has kn_adj rfl rfl rfl h) hk hx hd')
theorem rd_graph {x : Str} {p1 p2 : Pos} (F : Fr g L s.heap m) (KX : (hd.heap_39 w.params).In g) (I : InstAt s.heap a.x (instObj 624 a.dx) 624 (some (dictOf (gEs w a) 3))) (mx : m x = some (.ref a.x)) (hk : scope.kind = .function) (hx : (envOf name scope L f cd).kindOf x = some .local) (hd' : (x == ("__debug__" : Str)) = false)
    (h : Q (.ref a.dg) { s with toks := s.toks + 1 }) : wpAny (model PG w) A (eval (.Attribute (.Name x p1) (Str.ofString "graph") p2) (envOf name scope L f cd)) Q E s :=
  Attribute_name (ld F mx (get_own F KX I kf_graph kf_has kn_graph rfl rfl rfl h) hk hx hd')
end

section
variable {prog : Program} {w : World} {A : Around} {s : Shared} {K : Frag} {R : Result → Shared → Prop}
theorem fact_spec {g : Heap} {name qual : Str} {params : Arguments} {p1 p2 : Pos} {scope : Scope} {dV kV doc pm cdv ct oc : Value} {an od : Option Addr} {osl : Array (Option Value)} {f : Addr} {args : Args} {binds : List (Str × Value)}
    (S : Sub g s.heap) (X : K.In g) (hlim : g.NoLimit)
    (ho : K.lookup f = some ⟨oc, od, .func (fnOf name qual params [.Return (some (.Dict [] [] p1)) p2] scope dV kV doc pm an cdv ct), osl⟩) (hcd : codeIn K cdv qual = true) (hroom : A.depth < recursionLimit)
    (hbind : BindsTo s (fnOf name qual params [.Return (some (.Dict [] [] p1)) p2] scope dV kV doc pm an cdv ct) args binds) (hloc : ∀ y ∈ binds, scope.names.lookup y.1 = some .local)
    (hcell : ∀ x ∈ scope.names, x.2 ≠ .cell) (hco : scope.isCoroutine = false) (hgen : scope.isGenerator = false) (hk : scope.kind = .function)
    (h : ∀ D h' tk, Sub s.heap h' → @LT.lt Nat _ s.heap.objs.size D → h'.get? D = some { cls := .type "dict", data := .dict #[] } → R (.ok (.ret (.ref D))) { s with heap := h', toks := tk }) :
    codeAny (model prog w) A (.call (.ref f) args) R s := by
  refine enterB S X hlim ho hcd hroom hbind hloc (fun L h₁ tk hL F hsub => ?_) hcell hco hgen hk
  refine wpAny_execs_cons (wpAny_Return_some (wpAny_Dict_empty ?_))
  refine h h₁.objs.size _ _ (sub_push hsub _) ?_ (Heap.get?_push_size _ rfl)
  have : @LT.lt Nat _ L h₁.objs.size := F.ns.lt
  show @LT.lt Nat _ s.heap.objs.size h₁.objs.size
  omega
end

theorem f_inner {w : World} {A : Around} {s : Shared} {R : Result → Shared → Prop} {g : Heap} (hA : AOk A 1) (S : Sub g s.heap) (KX : (hd.heap_39 w.params).In g) (hlim : g.NoLimit) {x : Addr}
    (h : ∀ D h' tk, Sub s.heap h' → @LT.lt Nat _ s.heap.objs.size D → h'.get? D = some { cls := .type "dict", data := .dict #[] } → R (.ok (.ret (.ref D))) { s with heap := h', toks := tk }) : codeAny (model PG w) A (.call (.ref 359) ⟨[.ref x], []⟩) R s := by
  refine' fact_spec (binds := [(Str.ofString "self", .ref x)]) S KX hlim ?k1 ?k2 hA.room ?k4 ?k5 ?k6 ?k7 ?k8 ?k9 h
  case k1 => k_is
  case k2 => k_is
  case k4 => exact BindsTo.of_eq (by rfl)
  case k5 => exact locs (by rfl)
  case k6 => decide
  case k7 => rfl
  case k8 => rfl
  case k9 => rfl
theorem f_nattr {w : World} {A : Around} {s : Shared} {R : Result → Shared → Prop} {g : Heap} (hA : AOk A 1) (S : Sub g s.heap) (KX : (hd.heap_39 w.params).In g) (hlim : g.NoLimit) {x : Addr}
    (h : ∀ D h' tk, Sub s.heap h' → @LT.lt Nat _ s.heap.objs.size D → h'.get? D = some { cls := .type "dict", data := .dict #[] } → R (.ok (.ret (.ref D))) { s with heap := h', toks := tk }) : codeAny (model PG w) A (.call (.ref 345) ⟨[.ref x], []⟩) R s := by
  refine' fact_spec (binds := [(Str.ofString "self", .ref x)]) S KX hlim ?k1 ?k2 hA.room ?k4 ?k5 ?k6 ?k7 ?k8 ?k9 h
  case k1 => k_is
  case k2 => k_is
  case k4 => exact BindsTo.of_eq (by rfl)
  case k5 => exact locs (by rfl)
  case k6 => decide
  case k7 => rfl
  case k8 => rfl
  case k9 => rfl
theorem f_edge {w : World} {A : Around} {s : Shared} {R : Result → Shared → Prop} {g : Heap} (hA : AOk A 1) (S : Sub g s.heap) (KX : (hd.heap_39 w.params).In g) (hlim : g.NoLimit) {x : Addr}
    (h : ∀ D h' tk, Sub s.heap h' → @LT.lt Nat _ s.heap.objs.size D → h'.get? D = some { cls := .type "dict", data := .dict #[] } → R (.ok (.ret (.ref D))) { s with heap := h', toks := tk }) : codeAny (model PG w) A (.call (.ref 366) ⟨[.ref x], []⟩) R s := by
  refine' fact_spec (binds := [(Str.ofString "self", .ref x)]) S KX hlim ?k1 ?k2 hA.room ?k4 ?k5 ?k6 ?k7 ?k8 ?k9 h
  case k1 => k_is
  case k2 => k_is
  case k4 => exact BindsTo.of_eq (by rfl)
  case k5 => exact locs (by rfl)
  case k6 => decide
  case k7 => rfl
  case k8 => rfl
  case k9 => rfl

theorem km_inner {w : World} : findIn (hd.heap_39 w.params) (.ref 624) (Str.ofString "adjlist_inner_dict_factory") = some (some (.ref 359)) := by k_is
theorem km_nattr {w : World} : findIn (hd.heap_39 w.params) (.ref 624) (Str.ofString "node_attr_dict_factory") = some (some (.ref 345)) := by k_is
theorem km_edge {w : World} : findIn (hd.heap_39 w.params) (.ref 624) (Str.ofString "edge_attr_dict_factory") = some (some (.ref 366)) := by k_is
theorem kp_inner {w : World} : plainGet (hd.heap_39 w.params) 624 (Str.ofString "adjlist_inner_dict_factory") = true := by k_is
theorem kp_nattr {w : World} : plainGet (hd.heap_39 w.params) 624 (Str.ofString "node_attr_dict_factory") = true := by k_is
theorem kp_edge {w : World} : plainGet (hd.heap_39 w.params) 624 (Str.ofString "edge_attr_dict_factory") = true := by k_is
theorem kk_inner {w : World} : isFn (hd.heap_39 w.params) (.ref 359) = true ∧ keepIn (hd.heap_39 w.params) (.ref 359) = true := ⟨by k_is, by k_is⟩
theorem kk_nattr {w : World} : isFn (hd.heap_39 w.params) (.ref 345) = true ∧ keepIn (hd.heap_39 w.params) (.ref 345) = true := ⟨by k_is, by k_is⟩
theorem kk_edge {w : World} : isFn (hd.heap_39 w.params) (.ref 366) = true ∧ keepIn (hd.heap_39 w.params) (.ref 366) = true := ⟨by k_is, by k_is⟩

section
variable {w : World} {A : Around} {E : Value → Shared → Prop} {s : Shared} {g : Heap} {L f : Addr} {m : Str → Option Value} {name : Str} {scope : Scope} {cd : Value} {a : GA} {G : Adj} {Q : Value → Shared → Prop}
theorem mk_inner {x : Str} {p1 p2 p3 : Pos} (hA : AOk A 1) (F : Fr g L s.heap m) (KX : (hd.heap_39 w.params).In g) (hlim : g.NoLimit) (I : InstAt s.heap a.x (instObj 624 a.dx) 624 (some (dictOf (gEs w a) 3))) (mx : m x = some (.ref a.x)) (hk : scope.kind = .function) (hx : (envOf name scope L f cd).kindOf x = some .local) (hd' : (x == ("__debug__" : Str)) = false)
    (h : ∀ D h' tk, Sub s.heap h' → @LT.lt Nat _ s.heap.objs.size D → h'.get? D = some { cls := .type "dict", data := .dict #[] } → Q (.ref D) { s with heap := h', toks := tk })
    {pl : Sem Bool} (he : MethEq (.Name x p1) (Str.ofString "adjlist_inner_dict_factory") p2 p3 [] (envOf name scope L f cd) pl := by rfl) :
    wpAny (model PG w) A (eval (.Call (.Attribute (.Name x p1) (Str.ofString "adjlist_inner_dict_factory") p2) [] [] p3) (envOf name scope L f cd)) Q E s := by
  refine MethodCall_ (ld F mx ?_ hk hx hd') he
  refine method_inst F KX I kp_inner km_inner kk_inner.1 rfl ?_
  exact callWith_K0 (kin_keeps KX F.keep) kk_inner.2 (wpAny_call (f_inner hA (Fr.sub F) KX hlim h))
theorem mk_nattr {x : Str} {p1 p2 p3 : Pos} (hA : AOk A 1) (F : Fr g L s.heap m) (KX : (hd.heap_39 w.params).In g) (hlim : g.NoLimit) (I : InstAt s.heap a.x (instObj 624 a.dx) 624 (some (dictOf (gEs w a) 3))) (mx : m x = some (.ref a.x)) (hk : scope.kind = .function) (hx : (envOf name scope L f cd).kindOf x = some .local) (hd' : (x == ("__debug__" : Str)) = false)
    (h : ∀ D h' tk, Sub s.heap h' → @LT.lt Nat _ s.heap.objs.size D → h'.get? D = some { cls := .type "dict", data := .dict #[] } → Q (.ref D) { s with heap := h', toks := tk })
    {pl : Sem Bool} (he : MethEq (.Name x p1) (Str.ofString "node_attr_dict_factory") p2 p3 [] (envOf name scope L f cd) pl := by rfl) :
    wpAny (model PG w) A (eval (.Call (.Attribute (.Name x p1) (Str.ofString "node_attr_dict_factory") p2) [] [] p3) (envOf name scope L f cd)) Q E s := by
  refine MethodCall_ (ld F mx ?_ hk hx hd') he
  refine method_inst F KX I kp_nattr km_nattr kk_nattr.1 rfl ?_
  exact callWith_K0 (kin_keeps KX F.keep) kk_nattr.2 (wpAny_call (f_nattr hA (Fr.sub F) KX hlim h))
theorem mk_edge {x : Str} {p1 p2 p3 : Pos} (hA : AOk A 1) (F : Fr g L s.heap m) (KX : (hd.heap_39 w.params).In g) (hlim : g.NoLimit) (I : InstAt s.heap a.x (instObj 624 a.dx) 624 (some (dictOf (gEs w a) 3))) (mx : m x = some (.ref a.x)) (hk : scope.kind = .function) (hx : (envOf name scope L f cd).kindOf x = some .local) (hd' : (x == ("__debug__" : Str)) = false)
    (h : ∀ D h' tk, Sub s.heap h' → @LT.lt Nat _ s.heap.objs.size D → h'.get? D = some { cls := .type "dict", data := .dict #[] } → Q (.ref D) { s with heap := h', toks := tk })
    {pl : Sem Bool} (he : MethEq (.Name x p1) (Str.ofString "edge_attr_dict_factory") p2 p3 [] (envOf name scope L f cd) pl := by rfl) :
    wpAny (model PG w) A (eval (.Call (.Attribute (.Name x p1) (Str.ofString "edge_attr_dict_factory") p2) [] [] p3) (envOf name scope L f cd)) Q E s := by
  refine MethodCall_ (ld F mx ?_ hk hx hd') he
  refine method_inst F KX I kp_edge km_edge kk_edge.1 rfl ?_
  exact callWith_K0 (kin_keeps KX F.keep) kk_edge.2 (wpAny_call (f_edge hA (Fr.sub F) KX hlim h))
end
end Mine
end

section
open PySem PySem.W PySem.Calls PyProof.Rows
set_option Elab.async false
set_option maxRecDepth 100000
set_option maxHeartbeats 8000000
namespace Mine
theorem fillK_GE : PySem.Challenge.rw_au6018_01 = PySem.Challenge.rw_au6018_01 → hd.heap_39 = hd.heap_39 → True := by
  k_fill
  intro _ _; trivial
theorem newdict {prog : Program} {w : World} {K : Type} [DecidableEq K] {knd : KeyKind prog w K} {h : Heap} {D : Addr} (e : h.get? D = some { cls := .type "dict", data := .dict #[] }) : h.DictOf knd D [] :=
  ⟨_, #[], 0, e, ⟨rfl, rfl, rfl⟩, rfl, by intro x hx; simp at hx, .nil, .nil⟩
theorem DictOf.mv {prog : Program} {w : World} {K : Type} [DecidableEq K] {knd : KeyKind prog w K} {h h' : Heap} {D : Addr} {kvs : List (K × Value)} (x : h.DictOf knd D kvs) (e : ∀ o, h.get? D = some o → h'.get? D = some o) : h'.DictOf knd D kvs :=
  let ⟨o, es, ep, ho, r⟩ := x; ⟨o, es, ep, e _ ho, r⟩
theorem DictOf.lt {prog : Program} {w : World} {K : Type} [DecidableEq K] {knd : KeyKind prog w K} {h : Heap} {D : Addr} {kvs : List (K × Value)} (x : h.DictOf knd D kvs) : @LT.lt Nat _ D h.objs.size :=
  let ⟨_, _, _, ho, _⟩ := x; Heap.lt_size ho
theorem GR.lt {w : World} {a : GA} {G : Adj} {h : Heap} (R : GR w a G h) : ∀ b ∈ a.fp, @LT.lt Nat _ b h.objs.size := by
  intro b hb
  unfold GA.fp at hb
  simp only [List.mem_cons, List.mem_append] at hb
  rcases hb with rfl | rfl | rfl | rfl | rfl | hb | hb
  · exact Heap.lt_size R.inst
  · exact Heap.lt_size R.dict
  · obtain ⟨_, hd, _⟩ := R.gd; exact DictOf.lt hd
  · exact DictOf.lt R.node
  · exact DictOf.lt R.adj
  · obtain ⟨i, hi, rfl⟩ := List.getElem_of_mem hb
    obtain ⟨_, _, hd⟩ := R.inner i a.ia[i] (G[i]'(by rw [← R.lni]; exact hi)) (by simp [hi]) (by simp)
    exact DictOf.lt hd
  · exact DictOf.lt (R.attr b hb)

section
variable {prog : Program} {w : World} {K : Type} [DecidableEq K] {knd : KeyKind prog w K} {A : Around} {E : Value → Shared → Prop} {s : Shared} {d : Addr} {kvs : List (K × Value)}
theorem dict_sub {value slice : Expr} {k : K} {key v : Value} {Q : Value → Shared → Prop} (hkey : knd.is k key = true) (hm : s.heap.DictOf knd d kvs) (hv : valueAt kvs k = some v) (h : Q v { s with toks := s.toks + 1 })
    (hs : subscripted slice false (.ref d) key = operate [.ref d, key] (getItem (.ref d) key)) : wpAny (model prog w) A (subscriptTail value slice (.ref d) key) Q E s :=
  subTail_g hm.typeIs slot_dict_getitem.lookup (wpAny_getItem_of hkey hm.mapOf hv h) hs
theorem dict_meth {name : Str} {id : String} {pl : Sem Bool} {Q : Value × List Value → Shared → Prop} (hm : s.heap.DictOf knd d kvs) (slot : Slot "dict" name id)
    (hty : typeOf (.builtin id) = pure (.type "method_descriptor")) (h : Q (.builtin id, [.ref d]) s) : wpAny (model prog w) A (getMethod (.ref d) name pl) Q E s :=
  let ⟨_, ha⟩ := hm.dictAt; dict_method ha slot hty h
theorem dict_get2 {k : K} {key dv : Value} {Q : Value → Shared → Prop} (hd : (d == sysModules) = false) (hkey : knd.is k key = true) (hm : s.heap.DictOf knd d kvs) (h : Q ((valueAt kvs k).getD dv) { s with toks := s.toks + 1 }) :
    wpAny (model prog w) A (call (.builtin "dict.get") [.ref d, key, dv]) Q E s :=
  call_meetsIn PySem.F.slot_dict_get hm.typeIs PySem.F.entry_dict_get (PySem.F.args_dict_get_3 _ _ _) (meets_dict_get_default knd d hkey hd dv) ⟨_, hm.mapOf, h⟩
theorem dict_upd0 {o : Addr} {Q : Value → Shared → Prop} (hdo : d ≠ o) (hoS : (o == sysModules) = false) (hm : s.heap.DictOf knd d kvs) (ho : s.heap.DictOf knd o []) (hsz : kvs.length ≤ 1000)
    (h : ∀ h', h'.DictOf knd d kvs → Heap.SameBut d s.heap h' → Q .none { s with heap := h' }) : wpAny (model prog w) A (call (.builtin "dict.update") [.ref d, .ref o]) Q E s :=
  call_meetsIn PySem.F.slot_dict_update hm.typeIs PySem.F.entry_dict_update (PySem.F.args_dict_update_2 _ _) (meets_dict_update knd d o hdo hoS) ⟨kvs, [], hm, ho, by rw [sizeLine_eq]; simp; omega, fun h' hd' _ hs => h h' hd' hs⟩
end
theorem unpackI {prog : Program} {w : World} {A : Around} {E : Value → Shared → Prop} {s : Shared} {t : Addr} {items : Array Value} {n : Nat} {Q : List Value → Shared → Prop} (hh : A.handled = none) (ht : IsTup s.heap t items)
    (hn : n = items.size) (h : ∀ h', Heap.ExtBut s.heap.objs.size s.heap h' → Q items.toList { s with heap := h' }) : wpAny (model prog w) A (unpackItems (.ref t) n none) Q E s := by
  subst hn
  exact unpackItems_tuple hh ht h
def ensure (G : Adj) (u : Int) : Adj := if u ∈ keysOf G then G else G ++ [(u, [])]

structure Grow (a a' : GA) (h h' : Heap) : Prop where
  x : a'.x = a.x
  new : ∀ b ∈ a'.fp, b ∈ a.fp ∨ h.get? b = none
  keep : ∀ b o, b ∉ a.fp → h.get? b = some o → h'.get? b = some o
theorem fresh_fp {w : World} {a : GA} {G : Adj} {g h : Heap} (R : GR w a G h) (hk : ∀ b o, b ∉ a.fp → g.get? b = some o → h.get? b = some o) {D : Nat} (hD : @LE.le Nat _ h.objs.size D) : D ∉ a.fp ∧ g.get? D = none := by
  have h1 : D ∉ a.fp := fun q => by have := R.lt _ q; omega
  refine ⟨h1, ?_⟩
  cases e : g.get? D with
  | none => rfl
  | some o => have : @LT.lt Nat _ D h.objs.size := Heap.lt_size (hk _ _ h1 e); omega

theorem add_edge_spec {w : World} {A : Around} {s : Shared} {R : Result → Shared → Prop} {g : Heap} {mg mb} (hA : AOk A 3) (S : Sub g s.heap) (KX : (hd.heap_39 w.params).In g) (T : TopRead hd.view_39 LOOSE mg mb g) (hsys : @LT.lt Nat _ sysModules g.objs.size)
    {a : GA} {G : Adj} (GRs : GR w a G s.heap) (hfp : ∀ b ∈ a.fp, g.get? b = none) {u v : Int} {tu tv : Tok} (huv : u ≠ v) {nv : List Int} (hv : (v, nv) ∈ G) (huv2 : u ∉ nv) (hu : ∀ nu, (u, nu) ∈ G → v ∉ nu) (hsm : G.length < 20) (hsm2 : ∀ p ∈ G, p.2.length ≤ 20)
    (hR : ∀ a' h' tk, GR w a' (addE (ensure G u) u v) h' → Grow a a' s.heap h' → R (.ok (.ret .none)) { s with heap := h', toks := tk }) :
    codeAny (model PG w) A (.call (.ref 485) ⟨[.ref a.x, .int u tu, .int v tv], []⟩) R s := by
  refine' enterBkw (binds := fun D => [(Str.ofString "self", .ref a.x), (Str.ofString "u_of_edge", .int u tu), (Str.ofString "v_of_edge", .int v tv), (Str.ofString "attr", .ref D)]) S KX T.nolimit ?k1 ?k2 ?k3 ?k4 ?k5 ?h ?k6 ?k7 ?k8 ?k9
  case k1 => k_is
  case k2 => k_is
  case k3 => exact hA.room
  case k4 => rfl
  case k5 => exact fun d => locs (by rfl)
  case k6 => decide
  case k7 => rfl
  case k8 => rfl
  case k9 => rfl
  intro L D h₁ tk hD hL F hsub hd
  generalize hm : (fun y => List.lookup y [(Str.ofString "self", Value.ref a.x), (Str.ofString "u_of_edge", Value.int u tu), (Str.ofString "v_of_edge", Value.int v tv), (Str.ofString "attr", Value.ref D)].reverse) = m₀ at F
  have m1 : m₀ (Str.ofString "self") = some (.ref a.x) := by rw [← hm]; rfl
  have m2 : m₀ (Str.ofString "u_of_edge") = some (.int u tu) := by rw [← hm]; rfl
  have m3 : m₀ (Str.ofString "v_of_edge") = some (.int v tv) := by rw [← hm]; rfl
  have m4 : m₀ (Str.ofString "attr") = some (.ref D) := by rw [← hm]; rfl
  clear hm
  have hLfp : L ∉ a.fp := fun q => by have := GRs.lt _ q; omega
  have hDfp : D ∉ a.fp := fun q => by have := GRs.lt _ q; omega
  have R1 : GR w a G h₁ := GRs.mv fun b o _ e => hsub.keep _ _ e
  refine wpAny_execs_cons (wpAny_mono (Q := fun f s' => f = .next ∧ ∃ h tk m, s' = { s with heap := h, toks := tk } ∧ Fr g L h m ∧ m (Str.ofString "self") = some (.ref a.x) ∧ m (Str.ofString "u") = some (.int u tu) ∧ m (Str.ofString "v") = some (.int v tv) ∧ m (Str.ofString "attr") = some (.ref D) ∧ Mv [L] h₁ h) ?f1 (fun f s' hm => ?r1) (fun _ _ e => e))
  case f1 =>
    refine Assign_Tuple_swapped (Tuple_ ?_) (by rfl) (by rfl)
    refine args_cons (ld F m2 ?_)
    refine args_cons (ld F m3 ?_)
    refine args_nil (wpAny_newTuple ?_ (by show (2 : Nat) ≤ _; rw [sizeLine_eq]; omega))
    have hT : IsTup (h₁.push { cls := .type "tuple", data := .seq [Value.int u tu, Value.int v tv].toArray }) h₁.objs.size [Value.int u tu, Value.int v tv].toArray := ⟨_, Heap.get?_push_size _ rfl, rfl, 0, rfl⟩
    refine unpackI (by exact hA.2.1) hT rfl fun h' he => ?_
    have F' := (F.push _).extBut he (Nat.le_refl _)
    show wpAny _ _ (assignInOrder [bindName _ (Str.ofString "v"), bindName _ (Str.ofString "u")] [Value.int v tv, Value.int u tu]) _ _ _
    refine assignInOrder_cons (bindName_ ?_)
    refine stL (s := { s with heap := h', toks := tk }) F' (fun h2 F2 mv2 => ?_) rfl (by rfl)
    refine assignInOrder_cons (bindName_ ?_)
    refine stL (s := { s with heap := h2, toks := _ }) F2 (fun h3 F3 mv3 => ?_) rfl (by rfl)
    refine assignInOrder_nil ?_
    refine ⟨rfl, h3, _, _, rfl, F3, ?_, ?_, ?_, ?_, fun b o hb e => mv3 b o hb (mv2 b o hb (newOf he _ _ (Heap.get?_push_of_some _ e)))⟩
    · rw [if_neg (by decide), if_neg (by decide)]; exact m1
    · rw [if_pos rfl]
    · rw [if_neg (by decide), if_pos rfl]
    · rw [if_neg (by decide), if_neg (by decide)]; exact m4
  obtain ⟨rfl, h2, tk2, m, rfl, F2, n1, n2, n3, n4, mv2⟩ := hm
  dsimp only
  have R2 : GR w a G h2 := R1.mv fun b o hb e => mv2 b o (by simp; exact fun q => hLfp (q ▸ hb)) e
  have nLD : @Ne Nat D L := by omega
  have d2 := mv2 D _ (by simpa using nLD) hd
  have kp2 : ∀ b o, b ∉ a.fp → s.heap.get? b = some o → h2.get? b = some o := fun b o hb e => by
    have hbl : @LT.lt Nat _ b s.heap.objs.size := Heap.lt_size e
    have : @Ne Nat b L := by omega
    exact mv2 b o (by simpa using this) (hsub.keep _ _ e)
  refine wpAny_execs_cons (wpAny_mono (Q := fun f s' => f = .next ∧ ∃ h tk a', s' = { s with heap := h, toks := tk } ∧ Fr g L h m ∧ GR w a' (ensure G u) h ∧ h.get? D = some { cls := .type "dict", data := .dict #[] } ∧ D ∉ a'.fp ∧ L ∉ a'.fp ∧ (∀ b ∈ a'.fp, g.get? b = none) ∧ Grow a a' s.heap h) ?f2 (fun f s' hm => ?r2) (fun _ _ e => e))
  case f2 =>
    refine wpAny_If (wpAny_isTrue_Compare1 (ld F2 n2 ?_))
    refine rd_node F2 KX R2.at_ n1 rfl (by rfl) (by decide) ?_
    refine wpAny_notIn_of (knd := intKind PG w) (k := u) (intKind_is _ _ _ _) (R2.nomods _ (by simp [GA.dp])) R2.node.mapOf ?_
    refine wpAny_truthy_bool ?_
    by_cases hin : u ∈ keysOf G
    · rw [zip_present (by rw [refs_len, keys_len, R2.lna]) hin]
      rw [if_neg (by decide)]
      refine wpAny_execs_nil ⟨rfl, h2, _, a, rfl, F2, ?_, d2, hDfp, hLfp, hfp, ⟨rfl, fun b hb => Or.inl hb, kp2⟩⟩
      unfold ensure; rw [if_pos hin]; exact R2
    · rw [zip_absent hin]
      rw [if_pos (by decide)]
      refine wpAny_execs_cons (wpAny_If (wpAny_isTrue_Compare1 (ld F2 n2 ?_)))
      refine wpAny_Constant_none ?_
      refine is_int_none (wpAny_truthy_bool ?_)
      rw [if_neg Bool.false_ne_true]
      refine wpAny_execs_nil ?_
      refine wpAny_execs_cons (wpAny_Assign_Subscript ?_)
      refine mk_inner ((hA.deeper (d := 2) _).less (by omega)) F2 KX T.nolimit R2.at_ n1 rfl (by rfl) (by decide) fun D1 h4 tk4 sub4 hD1 e4 => ?_
      dsimp only at sub4 hD1
      have F4 := F2.keeps sub4.keep
      have R4 : GR w a G h4 := R2.mv fun b o _ e => sub4.keep _ _ e
      refine rd_adj F4 KX R4.at_ n1 rfl (by rfl) (by decide) ?_
      refine ld F4 n2 ?_
      have hlk : (keysOf G).length ≤ 1000 := by rw [keys_len]; omega
      refine wpAny_setItem_pairs (knd := intKind PG w) (k := u) (intKind_is _ _ _ _) R4.adj (fun h5 hda hs5 => ?_) (by rw [sizeLine_eq, List.length_zip]; omega)
      rw [PyProof.Rows.stored_absent (zip_absent hin)] at hda
      dsimp only at hs5 ⊢
      have mv5 : Mv [a.da] h4 h5 := Mv.same hs5 (by simp)
      have nd := R4.nd
      unfold GA.fp at nd
      simp only [List.nodup_cons, List.mem_cons, List.mem_append, not_or, List.nodup_append] at nd
      obtain ⟨⟨nx1, nx2, nx3, nx4, nx5, nx6⟩, ⟨nd1, nd2, nd3, nd4, nd5⟩, ⟨ng1, ng2, ng3, ng4⟩, ⟨nn1, nn2, nn3⟩, ⟨na1, na2⟩, hia, hna, hdis⟩ := nd
      have F5 := Fr.mv F4 mv5 (by simp; exact fun q => hLfp (by rw [q]; simp [GA.fp])) (fun b hb => by rw [List.mem_singleton.mp hb]; exact hfp _ (by simp [GA.fp]))
      have I5 : InstAt h5 a.x (instObj 624 a.dx) 624 (some (dictOf (gEs w a) 3)) := ⟨mv5 _ _ (by simpa using nx4) R4.inst, rfl, rfl, mv5 _ _ (by simpa using nd3) R4.dict⟩
      have D1fp : D1 ∉ a.fp := fun q => by have := R2.lt _ q; omega
      have D1s : s.heap.get? D1 = none := (fresh_fp (R := R2) kp2 (Nat.le_of_lt hD1)).2
      have e5 := mv5 D1 _ (by simp; exact fun q => D1fp (by rw [q]; simp [GA.fp])) e4
      refine wpAny_execs_cons (wpAny_Assign_Subscript ?_)
      refine mk_nattr ((hA.deeper (d := 2) _).less (by omega)) F5 KX T.nolimit I5 n1 rfl (by rfl) (by decide) fun D2 h6 tk6 sub6 hD2 e6 => ?_
      dsimp only at sub6 hD2
      have F6 := F5.keeps sub6.keep
      have I6 : InstAt h6 a.x (instObj 624 a.dx) 624 (some (dictOf (gEs w a) 3)) := ⟨sub6.keep _ _ I5.at_, rfl, rfl, sub6.keep _ _ I5.dict⟩
      refine rd_node F6 KX I6 n1 rfl (by rfl) (by decide) ?_
      refine ld F6 n2 ?_
      have hn6 : h6.DictOf (intKind PG w) a.dn ((keysOf G).zip (refs a.na)) := DictOf.mv R4.node fun o e => sub6.keep _ _ (mv5 _ _ (by simpa using nn1) e)
      refine wpAny_setItem_pairs (knd := intKind PG w) (k := u) (intKind_is _ _ _ _) hn6 (fun h7 hdn hs7 => ?_) (by rw [sizeLine_eq, List.length_zip]; omega)
      rw [PyProof.Rows.stored_absent (zip_absent hin)] at hdn
      dsimp only at hs7 ⊢
      have mv7 : Mv [a.dn] h6 h7 := Mv.same hs7 (by simp)
      have F7 := Fr.mv F6 mv7 (by simp; exact fun q => hLfp (by rw [q]; simp [GA.fp])) (fun b hb => by rw [List.mem_singleton.mp hb]; exact hfp _ (by simp [GA.fp]))
      have lt5 : ∀ b ∈ a.fp, @LT.lt Nat _ b h5.objs.size := fun b hb => by rw [hs5.1]; exact R4.lt b hb
      have D2fp : D2 ∉ a.fp := fun q => by have := lt5 _ q; omega
      have D1lt : @LT.lt Nat _ D1 h5.objs.size := Heap.lt_size e5
      have D12 : D1 ≠ D2 := fun q => by omega
      have D2s : s.heap.get? D2 = none := by
        cases e : s.heap.get? D2 with
        | none => rfl
        | some o =>
          have e4' := sub4.keep _ _ (kp2 _ _ D2fp e)
          have : @LT.lt Nat _ D2 h5.objs.size := by rw [hs5.1]; exact Heap.lt_size e4'
          omega
      have dlt : @LT.lt Nat _ D h2.objs.size := Heap.lt_size d2
      have Llt : @LT.lt Nat _ L h2.objs.size := F2.ns.lt
      have hgL : @LE.le Nat _ g.objs.size L := F2.above
      have l25 : @LE.le Nat _ h2.objs.size h5.objs.size := by rw [hs5.1]; exact sub4.size
      have q1 : @Ne Nat D1 sysModules := by omega
      have q2 : @Ne Nat D2 sysModules := by omega
      have s1 : ((D1 : Addr) == sysModules) = false := by simpa using q1
      have s2 : ((D2 : Addr) == sysModules) = false := by simpa using q2
      have off7 : ∀ {b : Nat}, b ≠ a.da → b ≠ a.dn → ∀ o, h2.get? b = some o → h7.get? b = some o := fun h1 h2' o e => mv7 _ _ (by simpa using h2') (sub6.keep _ _ (mv5 _ _ (by simpa using h1) (sub4.keep _ _ e)))
      have R7 := R2.addNode (h' := h7) hin D1fp D2fp D12 s1 s2 (DictOf.mv hda fun o e => mv7 _ _ (by simpa using Ne.symm nn1) (sub6.keep _ _ e)) hdn
        (newdict (mv7 _ _ (by simp; exact fun q => D1fp (by rw [q]; simp [GA.fp])) (sub6.keep _ _ e5))) (newdict (mv7 _ _ (by simp; exact fun q => D2fp (by rw [q]; simp [GA.fp])) e6))
        (fun b o _ h1 h2 e => off7 h1 h2 o e) hsm
      have Dda : D ≠ a.da := fun q => hDfp (by rw [q]; simp [GA.fp])
      have Ddn : D ≠ a.dn := fun q => hDfp (by rw [q]; simp [GA.fp])
      have inA : ∀ {b : Nat}, b ∈ GA.fp { a with ia := a.ia ++ [D1], na := a.na ++ [D2] } → b ∈ a.fp ∨ b = D1 ∨ b = D2 := fun hb => by
        unfold GA.fp at hb ⊢
        simp only [List.mem_cons, List.mem_append, List.not_mem_nil, or_false] at hb ⊢
        rcases hb with h | h | h | h | h | (h | h) | h | h <;> simp [h]
      refine wpAny_execs_nil ⟨rfl, h7, _, { a with ia := a.ia ++ [D1], na := a.na ++ [D2] }, rfl, F7, ?_, off7 Dda Ddn _ d2, fun q => ?_, fun q => ?_, fun b hb => ?_, ⟨rfl, fun b hb => ?_, fun b o hb e => ?_⟩⟩
      · unfold ensure; rw [if_neg hin]; exact R7
      · rcases inA q with q | q | q
        · exact hDfp q
        · omega
        · omega
      · rcases inA q with q | q | q
        · exact hLfp q
        · omega
        · omega
      · rcases inA hb with q | q | q
        · exact hfp b q
        · exact none_above F2 (by show @LT.lt Nat _ L b; omega)
        · exact none_above F2 (by show @LT.lt Nat _ L b; omega)
      · rcases inA hb with q | q | q
        · exact Or.inl q
        · right; rw [q]; exact D1s
        · right; rw [q]; exact D2s
      · exact off7 (fun q => hb (by rw [q]; simp [GA.fp])) (fun q => hb (by rw [q]; simp [GA.fp])) _ (kp2 _ _ hb e)
  obtain ⟨rfl, h3, tk3, a3, rfl, F3, R3, d3, hD3, hL3, hfp3, gr3⟩ := hm
  dsimp only
  rw [← gr3.x] at n1
  have hmem : ∀ p ∈ G, p ∈ ensure G u := fun p hp => by unfold ensure; split <;> simp [hp]
  have hxu : ∃ nu, (u, nu) ∈ ensure G u ∧ v ∉ nu := by
    unfold ensure
    split
    · rename_i hin
      obtain ⟨p, hp, e⟩ := List.mem_map.mp hin
      obtain ⟨pu, nu⟩ := p
      dsimp only at e
      subst e
      exact ⟨nu, hp, hu nu hp⟩
    · exact ⟨[], by simp, by simp⟩
  obtain ⟨nu, hnu, hvnu⟩ := hxu
  generalize hG1 : ensure G u = G1 at R3 hmem hnu hR
  have hnv := hmem _ hv
  obtain ⟨i, hi, gi⟩ := List.getElem_of_mem hnu
  obtain ⟨j, hj, gj⟩ := List.getElem_of_mem hnv
  have gi' : G1[i]? = some (u, nu) := by rw [List.getElem?_eq_getElem hi, gi]
  have gj' : G1[j]? = some (v, nv) := by rw [List.getElem?_eq_getElem hj, gj]
  obtain ⟨bi, ai⟩ : ∃ b, a3.ia[i]? = some b := ⟨a3.ia[i]'(by rw [R3.lni]; exact hi), by simp⟩
  obtain ⟨bj, aj⟩ : ∃ b, a3.ia[j]? = some b := ⟨a3.ia[j]'(by rw [R3.lni]; exact hj), by simp⟩
  have mi : bi ∈ a3.fp := by unfold GA.fp; simp [List.mem_of_getElem? ai]
  have mj : bj ∈ a3.fp := by unfold GA.fp; simp [List.mem_of_getElem? aj]
  have hij : i ≠ j := fun q => by subst q; rw [gi'] at gj'; cases gj'; exact huv rfl
  have nd3 := R3.nd
  unfold GA.fp at nd3
  simp only [List.nodup_cons, List.mem_cons, List.mem_append, not_or, List.nodup_append] at nd3
  obtain ⟨⟨nx1, nx2, nx3, nx4, nx5, nx6⟩, ⟨ny1, ny2, ny3, ny4, ny5⟩, ⟨ng1, ng2, ng3, ng4⟩, ⟨nn1, nn2, nn3⟩, ⟨na1, na2⟩, hia, hna, hdis⟩ := nd3
  have bij : bi ≠ bj := get_mem_ne hia ai aj hij
  have bia := List.mem_of_getElem? ai
  have bja := List.mem_of_getElem? aj
  have offi : ∀ {b : Nat}, b ∉ a3.ia → b ≠ bi ∧ b ≠ bj := fun hb => ⟨fun e => hb (e ▸ bia), fun e => hb (e ▸ bja)⟩
  obtain ⟨vi, li, di⟩ := R3.inner i bi _ ai gi'
  obtain ⟨vj, lj, dj⟩ := R3.inner j bj _ aj gj'
  dsimp only at li lj di dj
  have ku : (keysOf G1)[i]? = some u := by simp [keysOf, gi']
  have kv : (keysOf G1)[j]? = some v := by simp [keysOf, gj']
  have rbi : (refs a3.ia)[i]? = some (.ref bi) := by simp [refs, ai]
  have rbj : (refs a3.ia)[j]? = some (.ref bj) := by simp [refs, aj]
  have lrefs : (refs a3.ia).length = (keysOf G1).length := by rw [refs_len, keys_len, R3.lni]
  have vu : valueAt ((keysOf G1).zip (refs a3.ia)) u = some (.ref bi) := zip_valueAt R3.keys_nodup lrefs ku rbi
  have vv : valueAt ((keysOf G1).zip (refs a3.ia)) v = some (.ref bj) := zip_valueAt R3.keys_nodup lrefs kv rbj
  refine wpAny_execs_cons (wpAny_If (wpAny_isTrue_Compare1 (ld F3 n3 ?_)))
  refine rd_node F3 KX R3.at_ n1 rfl (by rfl) (by decide) ?_
  refine wpAny_notIn_of (knd := intKind PG w) (k := v) (intKind_is _ _ _ _) (R3.nomods _ (by simp [GA.dp])) R3.node.mapOf ?_
  refine wpAny_truthy_bool ?_
  rw [zip_present (by rw [refs_len, keys_len, R3.lna]) (List.mem_of_getElem? kv)]
  rw [if_neg (by decide)]
  refine wpAny_execs_nil ?_
  refine wpAny_execs_cons (wpAny_Assign_Name (MethodCall_ (Subscript_ ?_)))
  refine rd_adj F3 KX R3.at_ n1 rfl (by rfl) (by decide) ?_
  refine ld F3 n2 ?_
  refine dict_sub (knd := intKind PG w) (k := u) (intKind_is _ _ _ _) R3.adj vu ?_ (by with_unfolding_all rfl)
  refine dict_meth di PySem.F.slot_dict_get PySem.F.type_dict_get ?_
  refine callWith_method1 ?_
  refine args_cons (ld F3 n3 ?_)
  refine args_cons ?_
  refine mk_edge ((hA.deeper (d := 2) _).less (by omega)) F3 KX T.nolimit R3.at_ n1 rfl (by rfl) (by decide) fun D3 h4 tk4 sub4 hD3 e4 => ?_
  refine args_nil ?_
  dsimp only at sub4 hD3
  have F4 := F3.keeps sub4.keep
  have R4 : GR w a3 G1 h4 := R3.mv fun b o _ e => sub4.keep _ _ e
  have di4 := DictOf.mv di fun o e => sub4.keep _ _ e
  have dj4 := DictOf.mv dj fun o e => sub4.keep _ _ e
  have d4 := sub4.keep _ _ d3
  refine dict_get2 (knd := intKind PG w) (k := v) (R4.nomods _ (by unfold GA.dp; simp [bia])) (intKind_is _ _ _ _) di4 ?_
  rw [zip_absent hvnu]
  refine stL (s := { s with heap := h4, toks := _ }) F4 (fun h5 F5 mv5 => ?_) rfl (by rfl)
  dsimp only
  have D3fp : D3 ∉ a3.fp := fun q => by have := R3.lt _ q; omega
  have Dlt3 : @LT.lt Nat _ D h3.objs.size := Heap.lt_size d3
  have Llt3 : @LT.lt Nat _ L h3.objs.size := F3.ns.lt
  have DD3 : @Ne Nat D3 D := by omega
  have D3L : @Ne Nat D3 L := by omega
  have s3 : ((D3 : Addr) == sysModules) = false := by
    have hgL : @LE.le Nat _ g.objs.size L := F3.above
    have : @Ne Nat D3 sysModules := by omega
    simpa using this
  have sD : ((D : Addr) == sysModules) = false := by
    have : @LE.le Nat _ g.objs.size s.heap.objs.size := S.size
    have : @Ne Nat D sysModules := by omega
    simpa using this
  have up5 : ∀ {b : Nat}, b ≠ L → ∀ o, h4.get? b = some o → h5.get? b = some o := fun hb o e => mv5 _ _ (by simpa using hb) e
  have e5 := up5 D3L _ e4
  have d5 := up5 nLD _ d4
  refine wpAny_execs_cons (Expr_none (MethodCall_ (ld F5 (by rw [if_pos rfl]) ?_)) (by rfl) (by rfl))
  refine dict_meth (knd := strKind PG w) (newdict e5) PySem.F.slot_dict_update PySem.F.type_dict_update ?_
  refine callWith_method1 ?_
  refine args_cons (ld F5 (by rw [if_neg (by decide)]; exact n4) ?_)
  refine args_nil ?_
  refine dict_upd0 (knd := strKind PG w) (s := { s with heap := h5, toks := _ }) DD3 sD (newdict e5) (newdict d5) (by simp) fun h6 _ hs6 => ⟨rfl, ?_⟩
  dsimp only
  have mv6 : Mv [D3] h5 h6 := Mv.same hs6 (by simp)
  have F6 := Fr.mv F5 mv6 (by simpa using Ne.symm D3L) (fun b hb => by rw [List.mem_singleton.mp hb]; exact none_above F3 (by show @LT.lt Nat _ L D3; omega))
  have up6 : ∀ {b : Nat}, b ∈ a3.fp → ∀ o, h4.get? b = some o → h6.get? b = some o := fun hb o e => mv6 _ _ (by simp; exact fun q => D3fp (q ▸ hb)) (up5 (fun q => hL3 (q ▸ hb)) o e)
  have R6 : GR w a3 G1 h6 := R4.mv fun b o hb e => up6 hb o e
  have di6 := DictOf.mv di4 fun o e => up6 mi o e
  have dj6 := DictOf.mv dj4 fun o e => up6 mj o e
  have hlu : (nu.zip vi).length ≤ sizeLine := by
    have : nu.length ≤ 20 := by
      rw [← hG1] at hnu
      unfold ensure at hnu
      split at hnu
      · exact hsm2 _ hnu
      · rcases List.mem_append.mp hnu with q | q
        · exact hsm2 _ q
        · simp at q; rw [q]; simp
    rw [sizeLine_eq, List.length_zip]; omega
  have hlv : (nv.zip vj).length ≤ sizeLine := by
    have := hsm2 _ hv
    dsimp only at this
    rw [sizeLine_eq, List.length_zip]; omega
  refine wpAny_execs_cons (wpAny_Assign_Subscript (ld F6 (by rw [if_pos rfl]) ?_))
  refine Subscript_ (rd_adj F6 KX R6.at_ (by rw [if_neg (by decide)]; exact n1) rfl (by rfl) (by decide) ?_)
  refine ld F6 (by rw [if_neg (by decide)]; exact n2) ?_
  refine dict_sub (knd := intKind PG w) (k := u) (intKind_is _ _ _ _) R6.adj vu ?_ (by with_unfolding_all rfl)
  refine ld F6 (by rw [if_neg (by decide)]; exact n3) ?_
  refine wpAny_setItem_pairs (knd := intKind PG w) (k := v) (intKind_is _ _ _ _) di6 (fun h7 di7 hs7 => ?_) hlu
  rw [PyProof.Rows.stored_absent (zip_absent hvnu)] at di7
  dsimp only at hs7 ⊢
  have mv7 : Mv [bi] h6 h7 := Mv.same hs7 (by simp)
  have F7 := Fr.mv F6 mv7 (by simp; exact fun q => hL3 (q ▸ mi)) (fun b hb => by rw [List.mem_singleton.mp hb]; exact hfp3 _ mi)
  have I7 : InstAt h7 a3.x (instObj 624 a3.dx) 624 (some (dictOf (gEs w a3) 3)) := ⟨mv7 _ _ (by simpa using (offi nx5).1) R6.inst, rfl, rfl, mv7 _ _ (by simpa using (offi ny4).1) R6.dict⟩
  have ad7 := DictOf.mv R6.adj fun o e => mv7 _ _ (by simpa using (offi na1).1) e
  have dj7 := DictOf.mv dj6 fun o e => mv7 _ _ (by simpa using Ne.symm bij) e
  refine wpAny_execs_cons (wpAny_Assign_Subscript (ld F7 (by rw [if_pos rfl]) ?_))
  refine Subscript_ (rd_adj F7 KX I7 (by rw [if_neg (by decide)]; exact n1) rfl (by rfl) (by decide) ?_)
  refine ld F7 (by rw [if_neg (by decide)]; exact n3) ?_
  refine dict_sub (knd := intKind PG w) (k := v) (intKind_is _ _ _ _) ad7 vv ?_ (by with_unfolding_all rfl)
  refine ld F7 (by rw [if_neg (by decide)]; exact n2) ?_
  refine wpAny_setItem_pairs (knd := intKind PG w) (k := u) (intKind_is _ _ _ _) dj7 (fun h8 dj8 hs8 => ?_) hlv
  rw [PyProof.Rows.stored_absent (zip_absent huv2)] at dj8
  dsimp only at hs8 ⊢
  have mv8 : Mv [bj] h7 h8 := Mv.same hs8 (by simp)
  refine wpAny_execs_nil ?_
  refine hR a3 h8 _ (R6.addEdge huv gi' gj' ai aj li lj (DictOf.mv di7 fun o e => mv8 _ _ (by simpa using bij) e) dj8 fun b o hb h1 h2 e => mv8 _ _ (by simpa using h2) (mv7 _ _ (by simpa using h1) e)) ⟨gr3.x, gr3.new, fun b o hb e => ?_⟩
  have hb3 : b ∉ a3.fp := fun q => by
    rcases gr3.new b q with q | q
    · exact hb q
    · rw [q] at e; cases e
  have e3 := gr3.keep b o hb e
  have hbl : @LT.lt Nat _ b s.heap.objs.size := Heap.lt_size e
  have nbL : @Ne Nat b L := by omega
  have hb3l : @LT.lt Nat _ b h3.objs.size := Heap.lt_size e3
  have nb3 : @Ne Nat b D3 := by omega
  exact mv8 _ _ (by simp; exact fun q => hb3 (q ▸ mj)) (mv7 _ _ (by simp; exact fun q => hb3 (q ▸ mi)) (mv6 _ _ (by simpa using nb3) (up5 nbL _ (sub4.keep _ _ e3))))
end Mine
end

section
open PySem PySem.W PySem.Calls PyProof.Rows
set_option Elab.async false
set_option maxRecDepth 100000
set_option maxHeartbeats 8000000
namespace Mine
theorem fillK_GN : PySem.Challenge.rw_au6018_01 = PySem.Challenge.rw_au6018_01 → hd.heap_39 = hd.heap_39 → True := by
  k_fill
  intro _ _; trivial

theorem Assign_two {M : Model} {A : Around} {E : Value → Shared → Prop} {s : Shared} {env : Env} {t1 t2 value : Expr} {pos : Pos} {Q : Flow → Shared → Prop}
    (h : wpAny M A (eval value env) (fun v s₁ => wpAny M A (assign t1 env v) (fun _ s₂ => wpAny M A (assign t2 env v) (fun _ => Q .next) E s₂) E s₁) E s)
    (hs : swapsWithSole [t1, t2] value pos.line env = pure false := by rfl) (hw : swappedStores [t1, t2] value env = pure none := by rfl)
    (he : (assignEach [t1, t2] env).map (·.2) = [assign t1 env, assign t2 env] := by rfl) : wpAny M A (exec (.Assign [t1, t2] value pos) env) Q E s := by
  rw [exec_Assign]
  refine wpAny_bind (wpAny_standAt ?_)
  rw [hs]
  refine wpAny_bind (wpAny_pure ?_)
  rw [if_neg (by decide)]
  refine wpAny_bind (wpAny_mono h (fun v s₁ h₁ => ?_) fun _ _ x => x)
  rw [hw]
  refine wpAny_bind (wpAny_pure ?_)
  rw [he]
  show wpAny M A (do assignAll v [assign t1 env, assign t2 env]; pure .next) Q E s₁
  refine wpAny_bind ?_
  show wpAny M A (do holding [v] (assign t1 env v); assignAll v [assign t2 env]) _ E s₁
  exact wpAny_bind (wpAny_holding (wpAny_mono h₁ (fun _ s₂ h₂ => wpAny_mono h₂ (fun _ _ q => wpAny_pure q) fun _ _ x => x) fun _ _ x => x))
theorem assign_sub {M : Model} {A : Around} {E : Value → Shared → Prop} {s : Shared} {env : Env} {o i : Expr} {pos : Pos} {v : Value} {Q : Unit → Shared → Prop}
    (h : wpAny M A (eval o env) (fun ov s₂ => wpAny M A (eval i env) (fun iv s₃ => wpAny M A (setItem ov iv v) Q E s₃) E s₂) E s) : wpAny M A (assign (.Subscript o i pos) env v) Q E s := by
  rw [assign_Subscript]
  refine wpAny_bind (wpAny_holding (wpAny_mono h (fun ov s₂ h₂ => ?_) fun _ _ x => x))
  refine wpAny_bind (wpAny_holding (wpAny_mono h₂ (fun iv s₃ h₃ => ?_) fun _ _ x => x))
  refine wpAny_bind (wpAny_standAt (wpAny_bind (wpAny_holding (wpAny_mono h₃ (fun u s₄ h₄ => ?_) fun _ _ x => x))))
  exact PyProof.Rows.wpAny_releaseD h₄

theorem add_node_spec {w : World} {A : Around} {s : Shared} {R : Result → Shared → Prop} {g : Heap} {mg mb} (hA : AOk A 3) (S : Sub g s.heap) (KX : (hd.heap_39 w.params).In g) (T : TopRead hd.view_39 LOOSE mg mb g) (hsys : @LT.lt Nat _ sysModules g.objs.size)
    {a : GA} {G : Adj} (GRs : GR w a G s.heap) (hfp : ∀ b ∈ a.fp, g.get? b = none) {u : Int} {tu : Tok} (hsm : G.length < 20)
    (hR : ∀ a' h' tk, GR w a' (ensure G u) h' → Grow a a' s.heap h' → R (.ok (.ret .none)) { s with heap := h', toks := tk }) :
    codeAny (model PG w) A (.call (.ref 426) ⟨[.ref a.x, .int u tu], []⟩) R s := by
  refine' enterBkw (binds := fun D => [(Str.ofString "self", .ref a.x), (Str.ofString "node_for_adding", .int u tu), (Str.ofString "attr", .ref D)]) S KX T.nolimit ?k1 ?k2 ?k3 ?k4 ?k5 ?h ?k6 ?k7 ?k8 ?k9
  case k1 => k_is
  case k2 => k_is
  case k3 => exact hA.room
  case k4 => rfl
  case k5 => exact fun d => locs (by rfl)
  case k6 => decide
  case k7 => rfl
  case k8 => rfl
  case k9 => rfl
  intro L D h2 tk hD hL F2 hsub d2
  generalize hm : (fun y => List.lookup y [(Str.ofString "self", Value.ref a.x), (Str.ofString "node_for_adding", Value.int u tu), (Str.ofString "attr", Value.ref D)].reverse) = m at F2
  have n1 : m (Str.ofString "self") = some (.ref a.x) := by rw [← hm]; rfl
  have n2 : m (Str.ofString "node_for_adding") = some (.int u tu) := by rw [← hm]; rfl
  have n4 : m (Str.ofString "attr") = some (.ref D) := by rw [← hm]; rfl
  clear hm
  have hLfp : L ∉ a.fp := fun q => by have := GRs.lt _ q; omega
  have hDfp : D ∉ a.fp := fun q => by have := GRs.lt _ q; omega
  have R2 : GR w a G h2 := GRs.mv fun b o _ e => hsub.keep _ _ e
  have kp2 : ∀ b o, b ∉ a.fp → s.heap.get? b = some o → h2.get? b = some o := fun b o _ e => hsub.keep _ _ e
  have dlt : @LT.lt Nat _ D h2.objs.size := Heap.lt_size d2
  have Llt : @LT.lt Nat _ L h2.objs.size := F2.ns.lt
  have hgL : @LE.le Nat _ g.objs.size L := F2.above
  have sD : ((D : Addr) == sysModules) = false := by
    have : @LE.le Nat _ g.objs.size s.heap.objs.size := S.size
    have : @Ne Nat D sysModules := by omega
    simpa using this
  refine wpAny_execs_cons (wpAny_If (wpAny_isTrue_Compare1 (ld F2 n2 ?_)))
  refine rd_node F2 KX R2.at_ n1 rfl (by rfl) (by decide) ?_
  refine wpAny_notIn_of (knd := intKind PG w) (k := u) (intKind_is _ _ _ _) (R2.nomods _ (by simp [GA.dp])) R2.node.mapOf ?_
  refine wpAny_truthy_bool ?_
  by_cases hin : u ∈ keysOf G
  · rw [zip_present (by rw [refs_len, keys_len, R2.lna]) hin]
    rw [if_neg (by decide)]
    obtain ⟨i, hi, gi⟩ := List.getElem_of_mem hin
    have ku : (keysOf G)[i]? = some u := by rw [List.getElem?_eq_getElem hi, gi]
    have hi' : i < a.na.length := by rw [R2.lna, ← keys_len]; exact hi
    have mi : a.na[i] ∈ a.na := List.getElem_mem hi'
    have vu : valueAt ((keysOf G).zip (refs a.na)) u = some (.ref a.na[i]) := zip_valueAt R2.keys_nodup (by rw [refs_len, keys_len, R2.lna]) ku (by simp [refs, hi'])
    refine wpAny_execs_cons (Expr_none (MethodCall_ (Subscript_ ?_)) (by rfl) (by rfl))
    refine rd_node F2 KX R2.at_ n1 rfl (by rfl) (by decide) ?_
    refine ld F2 n2 ?_
    refine dict_sub (knd := intKind PG w) (k := u) (intKind_is _ _ _ _) R2.node vu ?_ (by with_unfolding_all rfl)
    refine dict_meth (knd := strKind PG w) (R2.attr _ mi) PySem.F.slot_dict_update PySem.F.type_dict_update ?_
    refine callWith_method1 ?_
    refine args_cons (ld F2 n4 ?_)
    refine args_nil ?_
    have mfp : a.na[i] ∈ a.fp := by unfold GA.fp; simp [mi]
    have nD : a.na[i] ≠ D := fun q => hDfp (q ▸ mfp)
    refine dict_upd0 (knd := strKind PG w) (s := { s with heap := h2, toks := _ }) nD sD (R2.attr _ mi) (newdict d2) (by simp) fun h3 d3 hs3 => ⟨rfl, ?_⟩
    refine wpAny_execs_nil ?_
    refine wpAny_execs_nil ?_
    have nd := R2.nd
    unfold GA.fp at nd
    simp only [List.nodup_cons, List.mem_cons, List.mem_append, not_or, List.nodup_append] at nd
    obtain ⟨⟨nx1, nx2, nx3, nx4, nx5, nx6⟩, ⟨nd1, nd2, nd3, nd4, nd5⟩, ⟨ng1, ng2, ng3, ng4⟩, ⟨nn1, nn2, nn3⟩, ⟨na1, na2⟩, hia, hna, hdis⟩ := nd
    have up : ∀ {b : Nat}, b ≠ a.na[i] → ∀ o, h2.get? b = some o → h3.get? b = some o := fun hb o e => hs3.extBut _ o hb e
    have offn : ∀ {b : Nat}, b ∉ a.na → b ≠ a.na[i] := fun hb e => hb (e ▸ mi)
    refine hR a h3 _ ?_ ⟨rfl, fun b hb => Or.inl hb, fun b o hb e => up (fun q => hb (by rw [q]; exact mfp)) o (kp2 b o hb e)⟩
    unfold ensure
    rw [if_pos hin]
    refine ⟨R2.nd, up (offn nx6) _ R2.inst, up (offn nd5) _ R2.dict, ?_, DictOf.mv R2.node (up (offn nn3)), DictOf.mv R2.adj (up (offn na2)), R2.lni, R2.lna, fun i' b p e1 e2 => ?_, fun b hb => ?_, R2.nomods, R2.small⟩
    · obtain ⟨kvs, hd, hl⟩ := R2.gd
      exact ⟨kvs, DictOf.mv hd (up (offn ng4)), hl⟩
    · obtain ⟨vs, hl, hd⟩ := R2.inner i' b p e1 e2
      exact ⟨vs, hl, DictOf.mv hd (up (offn fun q => hdis b (List.mem_of_getElem? e1) b q rfl))⟩
    · by_cases q : b = a.na[i]
      · rw [q]; exact d3
      · exact DictOf.mv (R2.attr b hb) (up q)
  · rw [zip_absent hin]
    rw [if_pos (by decide)]
    refine wpAny_execs_cons (wpAny_If (wpAny_isTrue_Compare1 (ld F2 n2 ?_)))
    refine wpAny_Constant_none ?_
    refine is_int_none (wpAny_truthy_bool ?_)
    rw [if_neg Bool.false_ne_true]
    refine wpAny_execs_nil ?_
    refine wpAny_execs_cons (wpAny_Assign_Subscript ?_)
    refine mk_inner ((hA.deeper (d := 2) _).less (by omega)) F2 KX T.nolimit R2.at_ n1 rfl (by rfl) (by decide) fun D1 h4 tk4 sub4 hD1 e4 => ?_
    dsimp only at sub4 hD1
    have F4 := F2.keeps sub4.keep
    have R4 : GR w a G h4 := R2.mv fun b o _ e => sub4.keep _ _ e
    refine rd_adj F4 KX R4.at_ n1 rfl (by rfl) (by decide) ?_
    refine ld F4 n2 ?_
    have hlk : (keysOf G).length ≤ 1000 := by rw [keys_len]; omega
    refine wpAny_setItem_pairs (knd := intKind PG w) (k := u) (intKind_is _ _ _ _) R4.adj (fun h5 hda hs5 => ?_) (by rw [sizeLine_eq, List.length_zip]; omega)
    rw [PyProof.Rows.stored_absent (zip_absent hin)] at hda
    dsimp only at hs5 ⊢
    have mv5 : Mv [a.da] h4 h5 := Mv.same hs5 (by simp)
    have nd := R4.nd
    unfold GA.fp at nd
    simp only [List.nodup_cons, List.mem_cons, List.mem_append, not_or, List.nodup_append] at nd
    obtain ⟨⟨nx1, nx2, nx3, nx4, nx5, nx6⟩, ⟨nd1, nd2, nd3, nd4, nd5⟩, ⟨ng1, ng2, ng3, ng4⟩, ⟨nn1, nn2, nn3⟩, ⟨na1, na2⟩, hia, hna, hdis⟩ := nd
    have F5 := Fr.mv F4 mv5 (by simp; exact fun q => hLfp (by rw [q]; simp [GA.fp])) (fun b hb => by rw [List.mem_singleton.mp hb]; exact hfp _ (by simp [GA.fp]))
    have I5 : InstAt h5 a.x (instObj 624 a.dx) 624 (some (dictOf (gEs w a) 3)) := ⟨mv5 _ _ (by simpa using nx4) R4.inst, rfl, rfl, mv5 _ _ (by simpa using nd3) R4.dict⟩
    have D1fp : D1 ∉ a.fp := fun q => by have := R2.lt _ q; omega
    have D1s : s.heap.get? D1 = none := (fresh_fp (R := R2) kp2 (Nat.le_of_lt hD1)).2
    have e5 := mv5 D1 _ (by simp; exact fun q => D1fp (by rw [q]; simp [GA.fp])) e4
    refine wpAny_execs_cons ?_
    refine Assign_two ?_
    refine mk_nattr ((hA.deeper (d := 2) _).less (by omega)) F5 KX T.nolimit I5 n1 rfl (by rfl) (by decide) fun D2 h6 tk6 sub6 hD2 e6 => ?_
    dsimp only at sub6 hD2
    have F6 := F5.keeps sub6.keep
    refine wpAny_assign_Name ?_
    refine stL (s := { s with heap := h6, toks := _ }) F6 (fun h6' F6' mv6 => ?_) rfl (by rfl)
    dsimp only
    have nLx : ∀ b ∈ a.fp, b ≠ L := fun b hb q => hLfp (q ▸ hb)
    have up6 : ∀ {b : Nat}, b ∈ a.fp → ∀ o, h5.get? b = some o → h6'.get? b = some o := fun hb o e => mv6 _ _ (by simpa using nLx _ hb) (sub6.keep _ _ e)
    have I6 : InstAt h6' a.x (instObj 624 a.dx) 624 (some (dictOf (gEs w a) 3)) := ⟨up6 (by simp [GA.fp]) _ I5.at_, rfl, rfl, up6 (by simp [GA.fp]) _ I5.dict⟩
    have lt5 : ∀ b ∈ a.fp, @LT.lt Nat _ b h5.objs.size := fun b hb => by rw [hs5.1]; exact R4.lt b hb
    have D2fp : D2 ∉ a.fp := fun q => by have := lt5 _ q; omega
    have D1lt : @LT.lt Nat _ D1 h5.objs.size := Heap.lt_size e5
    have D12 : D1 ≠ D2 := fun q => by omega
    have l25 : @LE.le Nat _ h2.objs.size h5.objs.size := by rw [hs5.1]; exact sub4.size
    have D1L : @Ne Nat D1 L := by omega
    have D2L : @Ne Nat D2 L := by omega
    have DLn : @Ne Nat D L := by omega
    have D2s : s.heap.get? D2 = none := by
      cases e : s.heap.get? D2 with
      | none => rfl
      | some o =>
        have e4' := sub4.keep _ _ (kp2 _ _ D2fp e)
        have : @LT.lt Nat _ D2 h5.objs.size := by rw [hs5.1]; exact Heap.lt_size e4'
        omega
    refine assign_sub ?_
    refine rd_node F6' KX I6 (by rw [if_neg (by decide)]; exact n1) rfl (by rfl) (by decide) ?_
    refine ld F6' (by rw [if_neg (by decide)]; exact n2) ?_
    have hn6 : h6'.DictOf (intKind PG w) a.dn ((keysOf G).zip (refs a.na)) := DictOf.mv R4.node fun o e => up6 (by simp [GA.fp]) o (mv5 _ _ (by simpa using nn1) e)
    refine wpAny_setItem_pairs (knd := intKind PG w) (k := u) (intKind_is _ _ _ _) hn6 (fun h7 hdn hs7 => ?_) (by rw [sizeLine_eq, List.length_zip]; omega)
    rw [PyProof.Rows.stored_absent (zip_absent hin)] at hdn
    dsimp only at hs7 ⊢
    have mv7 : Mv [a.dn] h6' h7 := Mv.same hs7 (by simp)
    have F7 := Fr.mv F6' mv7 (by simp; exact fun q => hLfp (by rw [q]; simp [GA.fp])) (fun b hb => by rw [List.mem_singleton.mp hb]; exact hfp _ (by simp [GA.fp]))
    have q1 : @Ne Nat D1 sysModules := by omega
    have q2 : @Ne Nat D2 sysModules := by omega
    have s1 : ((D1 : Addr) == sysModules) = false := by simpa using q1
    have s2 : ((D2 : Addr) == sysModules) = false := by simpa using q2
    have off7 : ∀ {b : Nat}, b ≠ a.da → b ≠ a.dn → b ≠ L → ∀ o, h2.get? b = some o → h7.get? b = some o := fun h1 h2' hl o e => mv7 _ _ (by simpa using h2') (mv6 _ _ (by simpa using hl) (sub6.keep _ _ (mv5 _ _ (by simpa using h1) (sub4.keep _ _ e))))
    have e7 : h7.get? D2 = some { cls := .type "dict", data := .dict #[] } := mv7 _ _ (by simp; exact fun q => D2fp (by rw [q]; simp [GA.fp])) (mv6 _ _ (by simpa using D2L) e6)
    have Dda : D ≠ a.da := fun q => hDfp (by rw [q]; simp [GA.fp])
    have Ddn : D ≠ a.dn := fun q => hDfp (by rw [q]; simp [GA.fp])
    have d7 := off7 Dda Ddn DLn _ d2
    have R7 := R2.addNode (h' := h7) hin D1fp D2fp D12 s1 s2 (DictOf.mv hda fun o e => mv7 _ _ (by simpa using Ne.symm nn1) (up6 (by simp [GA.fp]) o e)) hdn
      (newdict (mv7 _ _ (by simp; exact fun q => D1fp (by rw [q]; simp [GA.fp])) (mv6 _ _ (by simpa using D1L) (sub6.keep _ _ e5)))) (newdict e7)
      (fun b o hb h1 h2 e => off7 h1 h2 (nLx b hb) o e) hsm
    refine wpAny_execs_cons (Expr_none (MethodCall_ (ld F7 (by rw [if_pos rfl]) ?_)) (by rfl) (by rfl))
    refine dict_meth (knd := strKind PG w) (newdict e7) PySem.F.slot_dict_update PySem.F.type_dict_update ?_
    refine callWith_method1 ?_
    refine args_cons (ld F7 (by rw [if_neg (by decide)]; exact n4) ?_)
    refine args_nil ?_
    have D2D : D2 ≠ D := fun q => by omega
    refine dict_upd0 (knd := strKind PG w) (s := { s with heap := h7, toks := _ }) D2D sD (newdict e7) (newdict d7) (by simp) fun h8 d8 hs8 => ⟨rfl, ?_⟩
    refine wpAny_execs_nil (wpAny_execs_nil ?_)
    have up8 : ∀ {b : Nat}, b ≠ D2 → ∀ o, h7.get? b = some o → h8.get? b = some o := fun hb o e => hs8.extBut _ o hb e
    have inA : ∀ {b : Nat}, b ∈ GA.fp { a with ia := a.ia ++ [D1], na := a.na ++ [D2] } → b ∈ a.fp ∨ b = D1 ∨ b = D2 := fun hb => by
      unfold GA.fp at hb ⊢
      simp only [List.mem_cons, List.mem_append, List.not_mem_nil, or_false] at hb ⊢
      rcases hb with h | h | h | h | h | (h | h) | h | h <;> simp [h]
    refine hR { a with ia := a.ia ++ [D1], na := a.na ++ [D2] } h8 _ ?_ ⟨rfl, fun b hb => ?_, fun b o hb e => ?_⟩
    · unfold ensure
      rw [if_neg hin]
      have nb : ∀ {b : Nat}, b ∈ a.fp → b ≠ D2 := fun hb q => D2fp (q ▸ hb)
      refine ⟨R7.nd, up8 (nb (by simp [GA.fp])) _ R7.inst, up8 (nb (by simp [GA.fp])) _ R7.dict, ?_, DictOf.mv R7.node (up8 (nb (by simp [GA.fp]))), DictOf.mv R7.adj (up8 (nb (by simp [GA.fp]))), R7.lni, R7.lna, fun i' b p e1 e2 => ?_, fun b hb => ?_, R7.nomods, R7.small⟩
      · obtain ⟨kvs, hd, hl⟩ := R7.gd
        exact ⟨kvs, DictOf.mv hd (up8 (nb (by simp [GA.fp]))), hl⟩
      · obtain ⟨vs, hl, hd⟩ := R7.inner i' b p e1 e2
        have hb := List.mem_of_getElem? e1
        refine ⟨vs, hl, DictOf.mv hd (up8 fun q => ?_)⟩
        rcases List.mem_append.mp hb with hb | hb
        · exact nb (by simp [GA.fp, hb]) q
        · exact D12 ((List.mem_singleton.mp hb).symm.trans q)
      · rcases List.mem_append.mp hb with hb | hb
        · exact DictOf.mv (R7.attr b (List.mem_append_left _ hb)) (up8 (nb (by simp [GA.fp, hb])))
        · rw [List.mem_singleton.mp hb]; exact d8
    · rcases inA hb with q | q | q
      · exact Or.inl q
      · right; rw [q]; exact D1s
      · right; rw [q]; exact D2s
    · have hbl : @LT.lt Nat _ b s.heap.objs.size := Heap.lt_size e
      have nbL : @Ne Nat b L := by omega
      have nb2 : b ≠ D2 := fun q => by rw [q, D2s] at e; cases e
      exact up8 nb2 _ (off7 (fun q => hb (by rw [q]; simp [GA.fp])) (fun q => hb (by rw [q]; simp [GA.fp])) nbL _ (kp2 _ _ hb e))
end Mine
end

section
open PySem PySem.W PySem.Calls PyProof.Rows
set_option Elab.async false
set_option maxRecDepth 100000
set_option maxHeartbeats 8000000
namespace Mine
theorem fillK_GS : PySem.Challenge.rw_au6018_01 = PySem.Challenge.rw_au6018_01 → hd.heap_39 = hd.heap_39 → True := by
  k_fill
  intro _ _; trivial

theorem call_iter_dict {prog : Program} {w : World} {K : Type} [DecidableEq K] {knd : KeyKind prog w K} {A : Around} {E : Value → Shared → Prop} {s : Shared} {d : Addr} {kvs : List (K × Value)} {ep : Nat} {Q : Value → Shared → Prop}
    (lo : (d == sysModules) = false) (ha : s.heap.DictAt knd d kvs ep)
    (h : Q (.ref s.heap.objs.size) { s with heap := s.heap.push { cls := .type "dict_keyiterator", data := .fields #[.ref d, .int 0 0, .int kvs.length 0, .int ep 0] } }) :
    wpAny (model prog w) A (call (.builtin "iter") [.ref d]) Q E s := by
  refine call_function_entry (by decide +kernel) (by decide +kernel) kdk_entry_iter (kdk_args_iter _) ?_
  unfold Builtin.«iter»
  refine wpAny_bind (m := someArgs "iter" 1 2 _) (wpAny_of_eq (a := [Value.ref d]) (by first | rfl | kernel_rfl!) ?_)
  show wpAny _ _ (pyIter (.ref d) >>= _) _ _ _
  refine wpAny_bind (wpAny_pyIter_dict lo ha ?_)
  exact wpAny_pure ⟨_, rfl, h⟩

theorem len_spec {w : World} {A : Around} {s : Shared} {R : Result → Shared → Prop} {g : Heap} {mg mb} (hA : AOk A 2) (S : Sub g s.heap) (KX : (hd.heap_39 w.params).In g) (T : TopRead hd.view_39 LOOSE mg mb g)
    {a : GA} {G : Adj} (GRs : GR w a G s.heap) (hR : ∀ h' tk t, Sub s.heap h' → R (.ok (.ret (.int G.length t))) { s with heap := h', toks := tk }) :
    codeAny (model PG w) A (.call (.ref 412) ⟨[.ref a.x], []⟩) R s := by
  refine' enterB (binds := [(Str.ofString "self", .ref a.x)]) S KX T.nolimit ?k1 ?k2 ?k3 ?k4 ?k5 ?h ?k6 ?k7 ?k8 ?k9
  case k1 => k_is
  case k2 => k_is
  case k3 => exact hA.room
  case k4 => exact BindsTo.of_eq (by rfl)
  case k5 => exact locs (by rfl)
  case k6 => decide
  case k7 => rfl
  case k8 => rfl
  case k9 => rfl
  intro L h₁ tk hL F hsub
  have R1 : GR w a G h₁ := GRs.mv fun b o _ e => hsub.keep _ _ e
  refine wpAny_execs_cons (wpAny_Return_some (Call_ ?_))
  refine name_B F KX T (by k_is) (by boot_by_name) (by decide) ?_
  refine callWith_method1 ?_
  refine args_cons (rd_node F KX R1.at_ (by rfl) rfl (by rfl) (by decide) ?_)
  refine args_nil ?_
  have hl : ((keysOf G).zip (refs a.na)).length = G.length := by rw [List.length_zip, keys_len, refs_len, R1.lna]; omega
  have := R1.small
  refine call_len_dict (R1.nomods _ (by simp [GA.dp])) R1.node (by rw [hl]; omega) ?_
  rw [hl]
  exact hR _ _ _ hsub

theorem iter_spec {w : World} {A : Around} {s : Shared} {R : Result → Shared → Prop} {g : Heap} {mg mb} (hA : AOk A 2) (S : Sub g s.heap) (KX : (hd.heap_39 w.params).In g) (T : TopRead hd.view_39 LOOSE mg mb g)
    {a : GA} {G : Adj} (GRs : GR w a G s.heap) (hR : ∀ I h' tk ep, Sub s.heap h' → @LE.le Nat _ s.heap.objs.size I → h'.IsKeyIter I a.dn 0 G.length ep → h'.DictAt (intKind PG w) a.dn ((keysOf G).zip (refs a.na)) ep → R (.ok (.ret (.ref I))) { s with heap := h', toks := tk }) :
    codeAny (model PG w) A (.call (.ref 398) ⟨[.ref a.x], []⟩) R s := by
  refine' enterB (binds := [(Str.ofString "self", .ref a.x)]) S KX T.nolimit ?k1 ?k2 ?k3 ?k4 ?k5 ?h ?k6 ?k7 ?k8 ?k9
  case k1 => k_is
  case k2 => k_is
  case k3 => exact hA.room
  case k4 => exact BindsTo.of_eq (by rfl)
  case k5 => exact locs (by rfl)
  case k6 => decide
  case k7 => rfl
  case k8 => rfl
  case k9 => rfl
  intro L h₁ tk hL F hsub
  have R1 : GR w a G h₁ := GRs.mv fun b o _ e => hsub.keep _ _ e
  refine wpAny_execs_cons (wpAny_Return_some (Call_ ?_))
  refine name_B F KX T (by k_is) (by boot_by_name) (by decide) ?_
  refine callWith_method1 ?_
  refine args_cons (rd_node F KX R1.at_ (by rfl) rfl (by rfl) (by decide) ?_)
  refine args_nil ?_
  have hl : ((keysOf G).zip (refs a.na)).length = G.length := by rw [List.length_zip, keys_len, refs_len, R1.lna]; omega
  obtain ⟨ep, ha⟩ := R1.node.dictAt
  refine call_iter_dict (R1.nomods _ (by simp [GA.dp])) ha ?_
  have hle : @LE.le Nat _ s.heap.objs.size h₁.objs.size := hsub.size
  refine hR h₁.objs.size _ _ ep (sub_push hsub _) hle ⟨_, Heap.get?_push_size _ rfl, rfl, ?_⟩ (ha.push _)
  rw [hl]; rfl

theorem ki_len {w : World} : findIn (hd.heap_39 w.params) (.ref 624) (Str.ofString "__len__") = some (some (.ref 412)) := by k_is
theorem ki_iter {w : World} : findIn (hd.heap_39 w.params) (.ref 624) (Str.ofString "__iter__") = some (some (.ref 398)) := by k_is
theorem ki_len2 {w : World} : isFn (hd.heap_39 w.params) (.ref 412) = true := by k_is
theorem ki_iter2 {w : World} : isFn (hd.heap_39 w.params) (.ref 398) = true := by k_is

theorem src_graph {w : World} {g hb : Heap} {L : Addr} {m mg mb : Str → Option Value} (F : Fr g L hb m) (KX : (hd.heap_39 w.params).In g) (T : TopRead hd.view_39 LOOSE mg mb g) {a : GA} {G : Adj} (R : GR w a G hb) :
    MySrc PG w a.x a.dn ((keysOf G).zip (refs a.na)).length (fun i v => ∃ k x, ((keysOf G).zip (refs a.na))[i]? = some (k, x) ∧ (intKind PG w).is k v = true) hb 4 where
  type := ⟨.ref 624, by decide, by decide, fun A E s Q hs hq => (R.mv fun b o _ e => hs.keep _ _ e).at_.type.here hq⟩
  there := ⟨R.lt _ (by simp [GA.fp]), R.lt _ (by simp [GA.fp])⟩
  hint := fun A E s Q hA hs hq => by
    have Rs : GR w a G s.heap := R.mv fun b o _ e => hs.keep _ _ e
    have Fs : Fr g L s.heap m := F.keeps hs.keep
    have hsub : Sub g s.heap := Fr.sub Fs
    unfold Builtin.List.listLengthHint
    refine wpAny_bind (wpAny_bind (Rs.at_.type.here ((looks_findIn (kin_keeps KX Fs.keep) ki_len).here ?_)))
    dsimp only
    refine wpAny_ite_split (fun h => absurd h Bool.false_ne_true) (fun _ => ?_)
    refine wpAny_ite_split (fun _ => ?_) (fun h => absurd rfl h)
    refine wpAny_bind (wpAny_rule (wpAny_bind (wpAny_attempt ?_)))
    refine len_K Fs KX Rs.at_ ki_len ki_len2 (wpAny_call ?_)
    refine len_spec ((hA.less (d' := 3) (by omega)).in1) hsub KX T Rs fun h' tk t sub' => ?_
    have hsm := R.small
    refine ⟨⟨by omega, by omega⟩, ?_⟩
    dsimp only
    refine wpAny_bind (m := asInt? _) (wpAny_pure ?_)
    dsimp only
    refine wpAny_ite_split (fun h => ?_) (fun _ => wpAny_pure (hq _ _ _ sub'))
    exfalso
    revert h
    rw [Int.toNat_natCast]
    unfold Builtin.List.listTooLong
    rw [sizeLine_eq]
    simp
    omega
  iter := fun A E s Q hA hs hq => by
    have Rs : GR w a G s.heap := R.mv fun b o _ e => hs.keep _ _ e
    have Fs : Fr g L s.heap m := F.keeps hs.keep
    have hsub : Sub g s.heap := Fr.sub Fs
    refine owit_iter Fs KX Rs.at_ ki_iter ki_iter2 (wpAny_call ?_)
    refine iter_spec (hA.less (by omega)) hsub KX T Rs fun I h' tk ep sub' hI hit hat => ?_
    show OwitIt _ _ _ _ _ _
    unfold OwitIt
    refine wpAny_specialOf hit.typeIs PySem.F.slot_dict_keyiterator_next.lookup ?_
    have hl : ((keysOf G).zip (refs a.na)).length = G.length := by rw [List.length_zip, keys_len, refs_len, R.lna]; omega
    have hne : a.dn ≠ I := fun q => by have := Rs.lt a.dn (by simp [GA.fp]); have : @LE.le Nat _ s.heap.objs.size I := hI; omega
    rw [← hl] at hit
    refine hq I h' tk _ sub' hI (fun B hB => Walks.dictKeys hB I a.dn hne _ ep) ⟨hit, hat⟩
end Mine
end

section
open PySem PySem.W PySem.Calls PyProof.Rows
set_option Elab.async false
set_option maxRecDepth 100000
set_option maxHeartbeats 8000000
namespace Mine
theorem fillK_EG : PySem.Challenge.rw_au6018_01 = PySem.Challenge.rw_au6018_01 → hd.heap_39 = hd.heap_39 → True := by
  k_fill
  intro _ _; trivial

section
variable {prog : Program} {w : World} {A : Around} {E : Value → Shared → Prop} {s : Shared} {K : Frag} {C L : Addr} {h₀ : Heap} {m : Str → Option Value} {news : List (Addr × Obj)} {Q : Value → Shared → Prop}
theorem call_clsB {pos : List Value} {kw : List (Str × Value)} {fI : Addr} (F : Fr h₀ L s.heap m) (X₀ : K.In h₀) (N : News h₀ L s.heap news) (hm : makesIn K C = true) (hi : findIn K (.ref C) "__init__" = some (some (.ref fI))) (hf : isFn K (.ref fI) = true)
    (h : ∀ x dx h', Fr h₀ L h' m → News h₀ L h' ((x, instObj C dx) :: (dx, dictOf [] 0) :: news) → (∀ p ∈ news, p.1 < dx) → dx < x → (dx == sysModules) = false ∨ @LE.le Nat _ h₀.objs.size sysModules →
      codeAny (model prog w) (A.under (.builtin "type.__call__" ⟨.ref C :: pos, kw⟩)) (.call (.ref fI) ⟨.ref x :: pos, kw⟩) (InitBack x fun r s' => match r with | .ok (.ret v) => Q v s' | .ok _ => False | .error e => E e s') { s with heap := h' }) :
    wpAny (model prog w) A (call (.ref C) pos kw) Q E s := by
  refine wpAny_call ?_
  obtain ⟨hh, g, d, t, os⟩ := s
  have X := X₀.keeps F.keep
  have hLt : @LT.lt Nat _ L hh.objs.size := F.ns.lt
  have hAb : @LE.le Nat _ h₀.objs.size L := F.above
  refine make_core (makes_of X hm) (looks_findIn X hi) (fun self => bind_fn X self (beq_iff_eq.mp hf)) (.inl rfl) (h _ hh.objs.size _ ((F.push _).push _) ?_ (fun p hp => Heap.lt_size (N p hp).1) (Nat.lt_succ_self _) ?_)
  · have := (N.push F emptyDict).push (F.push _) (instObj C hh.objs.size)
    rwa [Heap.size_push] at this
  · by_cases hq : @LE.le Nat _ h₀.objs.size sysModules
    · exact .inr hq
    · refine .inl ?_
      have : @Ne Nat hh.objs.size sysModules := by omega
      simpa using this
end
local macro_rules | `(tactic| walk_at "call ref") => `(tactic| (k_here; k_dflt ((refine' call_clsB ?k1 ?k2 ?k3 ?k4 ?k5 ?k6 ?_; (case k1 => k_asm); (case k2 => k_asm); (case k3 => k_asm); (case k4 => k_is); (case k5 => k_is); (case k6 => k_is); k_whole; intro x' d' h' F' N' l1 l2 l3; (try k_lt l1); (try k_lt2 l2); (try k_sweep); k_enter))))
theorem eg_close {w : World} {g h : Heap} {L x dx dg dn da : Addr} {og on oa : Obj} {p1 p2 p3 : Addr × Obj} {D7 : Addr} {o7 : Obj} {t1 t2 t3 : Tok}
    (N : News g L h [p1, p2, p3, (da, oa), (dn, on), (dg, og), (D7, o7), (x, instObj 624 dx), (dx, dictOf [⟨PyData.keyHash w.params (Str.ofString "graph"), .str (Str.ofString "graph") t1, .ref dg⟩, ⟨PyData.keyHash w.params (Str.ofString "_node"), .str (Str.ofString "_node") t2, .ref dn⟩, ⟨PyData.keyHash w.params (Str.ofString "_adj"), .str (Str.ofString "_adj") t3, .ref da⟩] 3)])
    (i1 : oa.IsDictOf (intKind PG w) []) (i2 : on.IsDictOf (intKind PG w) []) {kvs : List (Str × Value)} (i3 : og.IsDictOf (strKind PG w) kvs) (f3 : PyProof.V.FlatPairs PyData.str kvs (ktMergeD [] [])) (n0 : (dx == sysModules) = false) (n1 : (da == sysModules) = false) (n2 : (dn == sysModules) = false) (n3 : (dg == sysModules) = false)
    (l1 : dx < x) (c2 : D7 < dg ∧ x < dg ∧ dx < dg) (c3 : dg < dn ∧ D7 < dn ∧ x < dn ∧ dx < dn) (c4 : dn < da ∧ dg < da ∧ D7 < da ∧ x < da ∧ dx < da) : GR w ⟨x, dx, dg, dn, da, [], [], t1, t2, t3⟩ [] h ∧ ∀ b ∈ GA.fp ⟨x, dx, dg, dn, da, [], [], t1, t2, t3⟩, g.get? b = none := by
  have l1' : @LT.lt Nat _ dx x := l1
  have l2' : @LT.lt Nat _ x dg := c2.2.1
  have l3' : @LT.lt Nat _ dg dn := c3.1
  have l4' : @LT.lt Nat _ dn da := c4.1
  have m1 := N (da, oa) (by simp)
  have m2 := N (dn, on) (by simp)
  have m3 := N (dg, og) (by simp)
  have m4 := N (x, instObj 624 dx) (by simp)
  have m5 := N (dx, _) (List.mem_cons_of_mem _ (List.mem_cons_of_mem _ (List.mem_cons_of_mem _ (List.mem_cons_of_mem _ (List.mem_cons_of_mem _ (List.mem_cons_of_mem _ (List.mem_cons_of_mem _ (List.mem_cons_of_mem _ (List.mem_singleton.mpr rfl)))))))))
  refine ⟨⟨?_, m4.1, m5.1, ⟨kvs, Heap.dictOf_iff.mpr ⟨_, m3.1, i3⟩, by have h0 : kvs.length = 0 := f3.length.symm; rw [List.length_eq_zero_iff.mp h0]; simp⟩, Heap.dictOf_iff.mpr ⟨_, m2.1, i2⟩, Heap.dictOf_iff.mpr ⟨_, m1.1, i1⟩, rfl, rfl, fun i b p e => by simp at e, fun b hb => by simp at hb, fun b hb => ?_, by simp⟩, fun b hb => ?_⟩
  · unfold GA.fp
    simp only [List.nodup_cons, List.mem_cons, List.append_nil, List.not_mem_nil, or_false, not_or, not_false_eq_true, List.nodup_nil, and_true]
    refine ⟨⟨?_, ?_, ?_, ?_⟩, ⟨?_, ?_, ?_⟩, ⟨?_, ?_⟩, ?_⟩
    all_goals omega
  · unfold GA.dp at hb
    simp only [List.mem_cons, List.append_nil, List.not_mem_nil, or_false] at hb
    rcases hb with rfl | rfl | rfl | rfl
    · exact n0
    · exact n3
    · exact n2
    · exact n1
  · unfold GA.fp at hb
    simp only [List.mem_cons, List.append_nil, List.not_mem_nil, or_false] at hb
    rcases hb with rfl | rfl | rfl | rfl | rfl
    · exact m4.2.2
    · exact m5.2.2
    · exact m3.2.2
    · exact m2.2.2
    · exact m1.2.2

theorem empty_graph_spec {w : World} {e₀ e₁ : Env} {s : Shared} {R : Result → Shared → Prop} {base : Heap} {mean mg mb}
  (KX : (hd.heap_39 w.params).In s.heap) (T : Top hd.view_39 LOOSE mean mg mb s.heap) (B : Below ((callerA.deeper e₀).deeper e₁) base [e₁, e₀] s.heap) (hsys : @LT.lt Nat _ sysModules s.heap.objs.size) {t : Tok}
  (hR : ∀ a h tk, (∀ b o, s.heap.get? b = some o → h.get? b = some o) → GR w a [] h → (∀ b ∈ a.fp, s.heap.get? b = none) → R (.ok (.ret (.ref a.x))) { s with heap := h, toks := tk }) :
  codeAny (model PG w) ((callerA.deeper e₀).deeper e₁) (.call (.ref 647) ⟨[.int 0 t, .none], []⟩) R s := by
  refine' enterK (binds := [(Str.ofString "n", .int 0 t), (Str.ofString "create_using", .none)]) KX T.nolimit ?k1 ?k2 ?k3 ?k4 ?k5 ?h ?k6 ?k7 ?k8 ?k9
  case k1 => k_is
  case k2 => k_is
  case k3 => k_room
  case k4 => exact binds_K KX rfl (by k_is) rfl (by rfl) (by rfl)
  case k5 => exact locs (by rfl)
  case k6 => decide
  case k7 => rfl
  case k8 => rfl
  case k9 => rfl
  intro h₀ F'
  have N' : News s.heap s.heap.objs.size h₀ [] := News.nil
  (all_goals try k_fold); w_top off; k_steps
  rename (Fr _ _ _ _) => lF
  rename (News _ _ _ _) => lN
  rename (IntsAre _ (List.map (fun a => a) (rangeInts 0 1 _))) => hI
  have hI' : IntsAre _ [] := hI
  cases hI'
  have hln := (lN _ (List.Mem.tail _ (List.Mem.tail _ (List.Mem.head _))))
  refine loopV_nil rfl lF lN ⟨_, hln.1, rfl, _, rfl⟩ hln.2.1 fun hL tkL FL NL => ?_
  k_steps
  rename (_ ∨ @LE.le Nat _ s.heap.objs.size sysModules) => kO
  have kO' := kO.resolve_right (Nat.not_le.mpr hsys)
  rename (News s.heap _ _ _) => kN
  rename (Fr s.heap _ _ _) => kF
  obtain ⟨hG, hf⟩ := eg_close kN (by assumption) (by assumption) (by assumption) (by assumption) kO' (by assumption) (by assumption) (by assumption) (by assumption) (by assumption) (by assumption) (by assumption)
  exact hR _ _ _ kF.keep hG hf
end Mine
end

section
open PySem PySem.W PySem.Calls PyProof.Rows
set_option Elab.async false
set_option maxRecDepth 100000
set_option maxHeartbeats 4000000
namespace Mine
def addv (v : Int) (p : Int × List Int) : Int × List Int := (p.1, p.2 ++ [v])
def tstep (G : Adj) (c : Int × Bool) : Adj := if c.2 then G.map (addv c.1) ++ [(c.1, keysOf G)] else G ++ [(c.1, [])]
def tgraph (C : List (Int × Bool)) : Adj := C.foldl tstep []
def half (v : Int) (pre post : Adj) : Adj := if pre = [] then post else pre.map (addv v) ++ post ++ [(v, keysOf pre)]
theorem keysOf_addv (v : Int) (G : Adj) : keysOf (G.map (addv v)) = keysOf G := by simp [keysOf, addv, Function.comp_def]
theorem keysOf_append (G H : Adj) : keysOf (G ++ H) = keysOf G ++ keysOf H := by simp [keysOf]
theorem keysOf_tstep (G : Adj) (c : Int × Bool) : keysOf (tstep G c) = keysOf G ++ [c.1] := by
  unfold tstep
  split
  · rw [keysOf_append, keysOf_addv]; rfl
  · rw [keysOf_append]; rfl
theorem keysOf_tgraph (C : List (Int × Bool)) : keysOf (tgraph C) = C.map (·.1) := by
  unfold tgraph
  suffices ∀ G : Adj, keysOf (C.foldl tstep G) = keysOf G ++ C.map (·.1) by simpa [keysOf] using this []
  induction C with
  | nil => intro G; simp
  | cons c C ih => intro G; rw [List.foldl_cons, ih, keysOf_tstep]; simp
theorem setEdge_other {u v : Int} {p : Int × List Int} (h1 : p.1 ≠ u) (h2 : p.1 ≠ v) : setEdge u v p = p := by unfold setEdge; rw [if_neg h1, if_neg h2]
theorem addE_other {u v : Int} {G : Adj} (h1 : u ∉ keysOf G) (h2 : v ∉ keysOf G) : addE G u v = G := by
  unfold addE
  conv => rhs; rw [← List.map_id G]
  refine List.map_congr_left fun p hp => setEdge_other (fun q => h1 ?_) (fun q => h2 ?_)
  · rw [← q]; exact List.mem_map_of_mem hp
  · rw [← q]; exact List.mem_map_of_mem hp
theorem half_step {v : Int} {pre post : Adj} {p : Int × List Int} (hn : (keysOf (pre ++ p :: post)).Nodup) (hv : v ∉ keysOf (pre ++ p :: post)) :
    addE (ensure (half v pre (p :: post)) v) v p.1 = half v (pre ++ [p]) post := by
  rw [keysOf_append] at hn hv
  have hk : keysOf (p :: post) = p.1 :: keysOf post := rfl
  rw [hk] at hn hv
  simp only [List.mem_append, List.mem_cons, not_or] at hv
  obtain ⟨hv1, hv2, hv3⟩ := hv
  rw [List.nodup_append] at hn
  obtain ⟨hn1, hn2, hn3⟩ := hn
  rw [List.nodup_cons] at hn2
  have hp1 : p.1 ∉ keysOf pre := fun q => hn3 _ q _ (List.mem_cons_self ..) rfl
  have e1 : setEdge v p.1 p = addv v p := by unfold setEdge addv; rw [if_neg (Ne.symm hv2), if_pos rfl]
  have e2 : addE post v p.1 = post := addE_other hv3 hn2.1
  have ad : ∀ X Y : Adj, addE (X ++ Y) v p.1 = addE X v p.1 ++ addE Y v p.1 := fun X Y => by simp [addE]
  have ac : ∀ (x : Int × List Int) (X : Adj), addE (x :: X) v p.1 = setEdge v p.1 x :: addE X v p.1 := fun x X => rfl
  have ev : ∀ ns, setEdge v p.1 (v, ns) = (v, ns ++ [p.1]) := fun ns => by unfold setEdge; rw [if_pos rfl]
  unfold half
  rw [if_neg (by simp : ¬ (pre ++ [p] = []))]
  by_cases hpre : pre = []
  · subst hpre
    rw [if_pos rfl]
    have : v ∉ keysOf (p :: post) := by rw [hk]; simp [hv2, hv3]
    unfold ensure
    rw [if_neg this, ad, ac, e1, e2, ac, ev]
    rfl
  · rw [if_neg hpre]
    have : v ∈ keysOf (pre.map (addv v) ++ p :: post ++ [(v, keysOf pre)]) := by simp [keysOf]
    unfold ensure
    rw [if_pos this, ad, ad, ac, ac, e1, e2, ev, addE_other (by rw [keysOf_addv]; exact hv1) (by rw [keysOf_addv]; exact hp1)]
    simp [keysOf, addE]
theorem half_all {v : Int} {G : Adj} (hv : v ∉ keysOf G) : ensure (half v G []) v = tstep G (v, true) := by
  unfold half tstep
  by_cases h : G = []
  · subst h; rfl
  · rw [if_neg h, if_pos rfl]
    unfold ensure
    rw [if_pos (by simp [keysOf])]
    simp
theorem ensure_new {v : Int} {G : Adj} (hv : v ∉ keysOf G) : ensure G v = tstep G (v, false) := by
  unfold ensure tstep
  rw [if_neg hv, if_neg Bool.false_ne_true]
theorem tgraph_snoc (C : List (Int × Bool)) (c : Int × Bool) : tgraph (C ++ [c]) = tstep (tgraph C) c := by unfold tgraph; rw [List.foldl_append]; rfl
theorem snoc_ind {α : Type} {P : List α → Prop} (h0 : P []) (h1 : ∀ l x, P l → P (l ++ [x])) (l : List α) : P l := by
  have : ∀ r : List α, P r.reverse := by
    intro r
    induction r with
    | nil => exact h0
    | cons x r ih => rw [List.reverse_cons]; exact h1 _ _ ih
  simpa using this l.reverse
theorem tgraph_len (C : List (Int × Bool)) : (tgraph C).length = C.length := by
  have := congrArg List.length (keysOf_tgraph C)
  simpa [keysOf] using this
theorem tgraph_nbrs (C : List (Int × Bool)) : ∀ p ∈ tgraph C, (∀ k ∈ p.2, k ∈ C.map (·.1)) ∧ p.2.length ≤ C.length := by
  induction C using snoc_ind with
  | h0 => intro p hp; simp [tgraph] at hp
  | h1 C c ih =>
    intro p hp
    rw [tgraph_snoc] at hp
    unfold tstep at hp
    split at hp
    · rcases List.mem_append.mp hp with hp | hp
      · obtain ⟨q, hq, rfl⟩ := List.mem_map.mp hp
        obtain ⟨a, b⟩ := ih q hq
        refine ⟨fun k hk => ?_, by simp [addv]; exact b⟩
        simp only [addv, List.mem_append, List.mem_singleton] at hk
        rcases hk with hk | rfl
        · rw [List.map_append]; exact List.mem_append_left _ (a k hk)
        · simp
      · rw [List.mem_singleton.mp hp]
        refine ⟨fun k hk => ?_, ?_⟩
        · dsimp only at hk
          rw [keysOf_tgraph] at hk
          rw [List.map_append]; exact List.mem_append_left _ hk
        · dsimp only
          rw [keys_len, tgraph_len]; simp
    · rcases List.mem_append.mp hp with hp | hp
      · obtain ⟨a, b⟩ := ih p hp
        exact ⟨fun k hk => by rw [List.map_append]; exact List.mem_append_left _ (a k hk), by simp; omega⟩
      · rw [List.mem_singleton.mp hp]
        exact ⟨fun k hk => by simp at hk, by simp⟩
theorem half_len (v : Int) (pre post : Adj) : (half v pre post).length ≤ pre.length + post.length + 1 := by
  unfold half
  split
  · omega
  · simp; omega
theorem half_v {v : Int} {pre post : Adj} (hv : v ∉ keysOf (pre ++ post)) {nu : List Int} (h : (v, nu) ∈ half v pre post) : nu = keysOf pre := by
  have key : ∀ {X : Adj}, (v, nu) ∈ X → v ∈ keysOf X := fun h => List.mem_map_of_mem h
  rw [keysOf_append, List.mem_append, not_or] at hv
  unfold half at h
  split at h
  · exact absurd (key h) hv.2
  · rcases List.mem_append.mp h with h | h
    · rcases List.mem_append.mp h with h | h
      · have := key h
        rw [keysOf_addv] at this
        exact absurd this hv.1
      · exact absurd (key h) hv.2
    · have := List.mem_singleton.mp h
      cases this; rfl
theorem half_deg {v : Int} {pre post : Adj} {B : Nat} (h : ∀ p ∈ pre ++ post, p.2.length ≤ B) (hB : pre.length ≤ B) : ∀ p ∈ half v pre post, p.2.length ≤ B + 1 := by
  intro p hp
  unfold half at hp
  split at hp
  · exact Nat.le_succ_of_le (h p (List.mem_append_right _ hp))
  · rcases List.mem_append.mp hp with hp | hp
    · rcases List.mem_append.mp hp with hp | hp
      · obtain ⟨q, hq, rfl⟩ := List.mem_map.mp hp
        have := h q (List.mem_append_left _ hq)
        simp [addv]; omega
      · exact Nat.le_succ_of_le (h p (List.mem_append_right _ hp))
    · rw [List.mem_singleton.mp hp]
      dsimp only
      rw [keys_len]; omega
theorem half_mem {v : Int} {pre post : Adj} {p : Int × List Int} (h : p ∈ post) : p ∈ half v pre post := by
  unfold half
  split
  · exact h
  · exact List.mem_append_left _ (List.mem_append_right _ h)
end Mine
end

section
open PySem PySem.W PySem.Calls PyProof.Rows
set_option Elab.async false
set_option maxRecDepth 100000
set_option maxHeartbeats 8000000
namespace Mine
theorem fillK_TG : PySem.Challenge.rw_au6018_01 = PySem.Challenge.rw_au6018_01 → hd.heap_39 = hd.heap_39 → True := by
  k_fill
  intro _ _; trivial

section
variable {prog : Program} {w : World} {A : Around} {E : Value → Shared → Prop} {s : Shared} {name : Str} {scope : Scope} {L f : Addr} {cd : Value} {h₀ : Heap} {m : Str → Option Value}
theorem st_pop0t {x y o : Str} {p1 p2 p3 p4 p5 p6 p7 p8 : Pos} {k k' : Nat} {wa a : Addr} {ys : List Value} {u v : Value} {Q : Flow → Shared → Prop}
    (F : Fr h₀ L s.heap m) (hk : scope.kind = .function) (hx : (envOf name scope L f cd).kindOf x = some .local) (hy : (envOf name scope L f cd).kindOf y = some .local) (ho : (envOf name scope L f cd).kindOf o = some .local)
    (hd : (o == ("__debug__" : Str)) = false) (hh : A.handled = none)
    (mo : m o = some (.ref wa)) (hw : s.heap.PlainList wa (Value.ref a :: ys).toArray) (hz : ys.length ≤ 1000) (ha : s.heap.IsTuple a #[u, v]) (haw : a ≠ wa) (hwL : wa ≠ L) (hwn : h₀.get? wa = none)
    (h : ∀ h' tk', Fr h₀ L h' (fun z => if z = y then some v else if z = x then some u else m z) → h'.PlainList wa ys.toArray → Mv [L, wa] s.heap h' → Q .next { s with heap := h', toks := tk' })
    (hs : swapsWithSole [.Tuple [.Name x p1, .Name y p2] k p3] (.Call (.Attribute (.Name o p4) (Str.ofString "pop") p5) [.Constant (.int 0) k' p8] [] p6) p7.line (envOf name scope L f cd) = pure false := by rfl)
    (hw2 : swappedStores [.Tuple [.Name x p1, .Name y p2] k p3] (.Call (.Attribute (.Name o p4) (Str.ofString "pop") p5) [.Constant (.int 0) k' p8] [] p6) (envOf name scope L f cd) = pure none := by rfl)
    {pl : Sem Bool} (he : MethEq (.Name o p4) (Str.ofString "pop") p5 p6 [.Constant (.int 0) k' p8] (envOf name scope L f cd) pl := by rfl) :
    wpAny (model prog w) A (exec (.Assign [.Tuple [.Name x p1, .Name y p2] k p3] (.Call (.Attribute (.Name o p4) (Str.ofString "pop") p5) [.Constant (.int 0) k' p8] [] p6) p7) (envOf name scope L f cd)) Q E s := by
  refine Assign_Tuple ?_ hs hw2
  refine MethodCall_ (ld F mo ?_ hk ho hd) he
  refine pl_method hw PySem.F.slot_list_pop rfl ?_
  refine callWith_method1 ?_
  refine args_cons (wpAny_Constant_int ?_)
  refine args_nil ?_
  refine pl_pop0 (s := { s with toks := s.toks + 1 }) hw hz fun h₁ hp₁ hs₁ => ?_
  have F₁ := Fr.mv F (Mv.same (D := [wa]) hs₁ (by simp)) (by simpa using Ne.symm hwL) (by simpa using hwn)
  have ha₁ : h₁.IsTuple a #[u, v] := ha.at fun o e => hs₁.extBut a _ haw e
  have hp : ((envOf name scope L f cd).scope.kind == .class || ((envOf name scope L f cd).scope.kind == .module && (envOf name scope L f cd).locals != (envOf name scope L f cd).globals)) = false := by
    show (scope.kind == .class || (scope.kind == .module && L != mainGlobals)) = false; rw [hk]; rfl
  refine kcp_assign (s := { s with heap := h₁, toks := s.toks + 1 }) hh ha₁ hx hy hp F₁.ns fun h₂ tk₂ hn₂ hk₂ => ?_
  have gL : h₀.get? L = none := by
    cases e : h₀.get? L with
    | none => rfl
    | some o => exact absurd (Nat.lt_of_lt_of_le (Heap.lt_size e) F.above) (Nat.lt_irrefl _)
  have mv₂ : Mv [L] h₁ h₂ := fun b o hb e => hk₂ b o (fun (q : b = L) => hb (by rw [q]; simp)) e
  have F₂ : Fr h₀ L h₂ (fun z => if z = y then some v else if z = x then some u else m z) := ⟨hn₂, fun b o e => mv₂ b o (by simp; exact fun q => by rw [q, gL] at e; cases e) (F₁.keep _ _ e), F₁.above⟩
  exact h h₂ _ F₂ (pl_mv hp₁ mv₂ (by simpa using hwL)) (Mv.trans (Mv.same hs₁ (by simp)) (Mv.sub mv₂ (by simp)))
end

theorem is_directed_spec {w : World} {A : Around} {s : Shared} {R : Result → Shared → Prop} {g : Heap} (hA : AOk A 1) (S : Sub g s.heap) (KX : (hd.heap_39 w.params).In g) (hlim : g.NoLimit) {x : Addr}
    (hR : ∀ h' tk, Sub s.heap h' → R (.ok (.ret (.bool false))) { s with heap := h', toks := tk }) :
    codeAny (model PG w) A (.call (.ref 590) ⟨[.ref x], []⟩) R s := by
  refine' enterB (binds := [(Str.ofString "self", .ref x)]) S KX hlim ?k1 ?k2 ?k3 ?k4 ?k5 ?h ?k6 ?k7 ?k8 ?k9
  case k1 => k_is
  case k2 => k_is
  case k3 => exact hA.room
  case k4 => exact BindsTo.of_eq (by rfl)
  case k5 => exact locs (by rfl)
  case k6 => decide
  case k7 => rfl
  case k8 => rfl
  case k9 => rfl
  intro L h₁ tk hL F hsub
  exact wpAny_execs_cons (wpAny_Return_some (Constant_bool (hR _ _ hsub)))
theorem kd_dir {w : World} : findIn (hd.heap_39 w.params) (.ref 624) (Str.ofString "is_directed") = some (some (.ref 590)) := by k_is
theorem kd_dir2 {w : World} : plainGet (hd.heap_39 w.params) 624 (Str.ofString "is_directed") = true := by k_is
theorem kd_dir3 {w : World} : isFn (hd.heap_39 w.params) (.ref 590) = true ∧ keepIn (hd.heap_39 w.params) (.ref 590) = true := ⟨by k_is, by k_is⟩
theorem km_edge2 {w : World} : findIn (hd.heap_39 w.params) (.ref 624) (Str.ofString "add_edge") = some (some (.ref 485)) := by k_is
theorem kp_edge2 {w : World} : plainGet (hd.heap_39 w.params) 624 (Str.ofString "add_edge") = true := by k_is
theorem kk_edge2 {w : World} : isFn (hd.heap_39 w.params) (.ref 485) = true ∧ keepIn (hd.heap_39 w.params) (.ref 485) = true := ⟨by k_is, by k_is⟩
theorem km_node2 {w : World} : findIn (hd.heap_39 w.params) (.ref 624) (Str.ofString "add_node") = some (some (.ref 426)) := by k_is
theorem kp_node2 {w : World} : plainGet (hd.heap_39 w.params) 624 (Str.ofString "add_node") = true := by k_is
theorem kk_node2 {w : World} : isFn (hd.heap_39 w.params) (.ref 426) = true ∧ keepIn (hd.heap_39 w.params) (.ref 426) = true := ⟨by k_is, by k_is⟩
theorem one_key {kvs : List (Str × Value)} {x : Str} (hn : (kvs.map (·.1)).Nodup) (h : ∀ p ∈ kvs, p.1 = x) : kvs.length ≤ 1 := by
  match kvs, hn, h with
  | [], _, _ => simp
  | [_], _, _ => simp
  | p :: q :: r, hn, h =>
    have e1 := h p (by simp)
    have e2 := h q (by simp)
    simp [e1, e2] at hn
theorem stored_key {kvs : List (Str × Value)} {x : Str} {v : Value} (h : ∀ p ∈ kvs, p.1 = x) : ∀ p ∈ stored kvs x v, p.1 = x := by
  intro p hp
  unfold stored at hp
  split at hp
  · obtain ⟨q, hq, rfl⟩ := List.mem_map.mp hp
    split <;> exact h q hq
  · rcases List.mem_append.mp hp with hp | hp
    · exact h p hp
    · rw [List.mem_singleton.mp hp]

theorem threshold_graph_spec {w : World} {e₀ : Env} {s : Shared} {R : Result → Shared → Prop} {base : Heap} {mean mg mb}
  (KX : (hd.heap_39 w.params).In s.heap) (T : Top hd.view_39 LOOSE mean mg mb s.heap) (B : Below (callerA.deeper e₀) base [e₀] s.heap)
  {l : Addr} {vs : List Value} {D : List Addr} {C : List (Int × Bool)} (hl : s.heap.PlainList l vs.toArray) (hr : Rel (TupV D s.heap) vs C) (hn : 1 ≤ C.length) (hn2 : C.length ≤ 8) (hnd : (C.map (·.1)).Nodup)
  (hR : ∀ a h tk, (∀ b o, s.heap.get? b = some o → h.get? b = some o) → GR w a (tgraph C) h → (∀ b ∈ a.fp, s.heap.get? b = none) → R (.ok (.ret (.ref a.x))) { s with heap := h, toks := tk }) :
  codeAny (model PG w) (callerA.deeper e₀) (.call (.ref 678) ⟨[.ref l], []⟩) R s := by
  have T' := topRead_of T
  refine' enterK (binds := [(Str.ofString "creation_sequence", .ref l), (Str.ofString "create_using", .none)]) KX T.nolimit ?k1 ?k2 ?k3 ?k4 ?k5 ?h ?k6 ?k7 ?k8 ?k9
  case k1 => k_is
  case k2 => k_is
  case k3 => k_room
  case k4 => exact binds_K KX rfl (by k_is) rfl (by rfl) (by rfl)
  case k5 => exact locs (by rfl)
  case k6 => decide
  case k7 => rfl
  case k8 => rfl
  case k9 => rfl
  intro h₀ F
  generalize hL : s.heap.objs.size = L at F ⊢
  generalize hm : (fun y => List.lookup y [(Str.ofString "creation_sequence", Value.ref l), (Str.ofString "create_using", Value.none)].reverse) = m₀ at F
  have m1 : m₀ (Str.ofString "creation_sequence") = some (.ref l) := by rw [← hm]; rfl
  have m2 : m₀ (Str.ofString "create_using") = some .none := by rw [← hm]; rfl
  clear hm
  have hll : @LT.lt Nat _ l s.heap.objs.size := plt_lt hl
  have hlL : @Ne Nat l L := by omega
  have hl0 : h₀.PlainList l vs.toArray := pl_keep hl F.keep
  obtain ⟨c0, hc0⟩ : ∃ c0, C[0]? = some c0 := ⟨C[0], by simp⟩
  obtain ⟨v0, hv0, a0, t0, tt0, n0, rfl, ha0D, ha0⟩ := hr.get hc0
  refine wpAny_execs_cons (wpAny_Assign_Name (Subscript_ (ld F m1 ?_)))
  refine wpAny_Constant_int ?_
  refine pl_item hl0 (by omega) (by omega) hv0 ?_
  refine stL (s := { s with heap := h₀, toks := _ }) F (fun h1 F1 mv1 => ?_) rfl (by rfl)
  have hl1 : h1.PlainList l vs.toArray := pl_mv hl0 mv1 (by simpa using hlL)
  refine wpAny_execs_cons (wpAny_If (isTrue_plain (Call_ ?_)))
  refine name_B F1 KX T' (by k_is) (by boot_by_name) (by decide) ?_
  refine callWith_method1 ?_
  refine args_cons (ld F1 (by rw [if_pos rfl]) ?_)
  refine args_cons ?_
  refine name_B F1 KX T' (by k_is) (by boot_by_name) (by decide) ?_
  refine args_nil ?_
  have ht0 : s.heap.IsTuple a0 #[Value.int c0.1 t0, Value.str (letS c0.2) tt0] := ⟨_, ha0, rfl, n0, rfl⟩
  refine IsiPair.isTuple_str ht0 F1.keep ?_
  refine wpAny_truthy_bool ?_
  rw [if_neg Bool.false_ne_true]
  refine wpAny_execs_cons (wpAny_If (isTrue_plain (Call_ ?_)))
  refine name_B F1 KX T' (by k_is) (by boot_by_name) (by decide) ?_
  refine callWith_method1 ?_
  refine args_cons (ld F1 (by rw [if_pos rfl]) ?_)
  refine args_cons ?_
  refine name_B F1 KX T' (by k_is) (by boot_by_name) (by decide) ?_
  refine args_nil ?_
  refine IsiPair.isTuple_tuple ht0 F1.keep ?_
  refine wpAny_truthy_bool ?_
  rw [if_pos rfl]
  refine wpAny_execs_cons ?_
  refine wpAny_Assign_Name ?_
  refine pl_slice_all (ld F1 (by rw [if_neg (by decide)]; exact m1) ⟨rfl, rfl⟩) hl1 (by rw [hr.1]; omega) fun h2 ca tk2 k2 hca hp2 => ?_
  dsimp only at k2 hca
  have F2 := F1.keeps k2
  refine stL (s := { s with heap := h2, toks := _ }) F2 (fun h3 F3 mv3 => ?_) rfl (by rfl)
  refine wpAny_execs_nil ?_
  refine wpAny_execs_nil ?_
  dsimp only
  have hL1 : @LT.lt Nat _ L h1.objs.size := F1.ns.lt
  have caL : @Ne Nat ca L := by omega
  have hLca : @LT.lt Nat _ L ca := by omega
  have hp3 : h3.PlainList ca vs.toArray := pl_mv hp2 mv3 (by simpa using caL)
  have hr3 : Rel (TupV [] h3) vs C := hr.mono fun v c ⟨a, t, tt, n, e1, e2, e3⟩ => ⟨a, t, tt, n, e1, by simp, F3.keep _ _ e3⟩
  refine wpAny_execs_cons (wpAny_Assign_Name (Call_ ?_))
  refine name_K F3 KX T' (by k_is) ?_
  refine callWith_K KX (by k_is) ?_
  refine args_cons (wpAny_Constant_int ?_)
  refine args_cons (ld F3 (by rw [if_neg (by decide), if_neg (by decide)]; exact m2) ?_)
  refine args_nil ?_
  refine ⟨kin_keeps KX F3.keep, wpAny_call ?_⟩
  refine empty_graph_spec (s := { s with heap := h3, toks := _ }) (kin_keeps KX F3.keep) (T.keeps F3.keep) (B.push F3) (modules_low (T.keeps F3.keep).nolimit) fun a h4 tk4 k4 G4 f4 => ?_
  dsimp only at k4 f4
  have F4 := F3.keeps k4
  refine stL (s := { s with heap := h4, toks := _ }) F4 (fun h5 F5 mv5 => ?_) rfl (by rfl)
  dsimp only
  have hLfp : L ∉ a.fp := fun q => by
    have := f4 _ q
    obtain ⟨oL, _, _, hoL, _⟩ := F3.ns
    rw [hoL] at this; cases this
  have hcafp : ca ∉ a.fp := fun q => by
    have := f4 _ q
    obtain ⟨n, hq⟩ := hp3
    rw [hq] at this; cases this
  have G5 : GR w a [] h5 := G4.mv fun b o hb e => mv5 b o (by simp; exact fun q => hLfp (q ▸ hb)) e
  have hp5 : h5.PlainList ca vs.toArray := pl_mv (pl_keep hp3 k4) mv5 (by simpa using caL)
  have hf5 : ∀ b ∈ a.fp, s.heap.get? b = none := fun b hb => none_back F3.keep (f4 b hb)
  refine wpAny_execs_cons (wpAny_If (isTrue_plain (MethodCall_ (ld F5 (by rw [if_pos rfl]) ?_))))
  refine method_inst F5 KX G5.at_ kd_dir2 kd_dir kd_dir3.1 rfl ?_
  have hA : AOk (callerA.deeper e₀) 8 := ⟨by show callerA.depth + 1 + 8 < 1000; decide, rfl, by show callerA.units + 3 + 3 * 8 + 30 < 9900; decide⟩
  refine callWith_K0 (kin_keeps KX F5.keep) kd_dir3.2 (wpAny_call ?_)
  refine is_directed_spec ((hA.deeper (d := 7) _).less (by omega)) (Fr.sub F5) KX T.nolimit fun h6 tk6 sub6 => ?_
  dsimp only at sub6
  refine wpAny_truthy_bool ?_
  rw [if_neg Bool.false_ne_true]
  refine wpAny_execs_nil ?_
  have F6 := F5.keeps sub6.keep
  have G6 : GR w a [] h6 := G5.mv fun b o _ e => sub6.keep _ _ e
  have hp6 : h6.PlainList ca vs.toArray := pl_keep hp5 sub6.keep
  refine wpAny_execs_cons (wpAny_Assign_Subscript (wpAny_Constant_str ?_))
  refine rd_graph F6 KX G6.at_ (by rw [if_pos rfl]) rfl (by rfl) (by decide) ?_
  refine wpAny_Constant_str ?_
  obtain ⟨kvs, hdg, hkey⟩ := G6.gd
  have hkl : kvs.length ≤ 1 := by obtain ⟨_, _, _, _, _, _, _, _, hnn⟩ := hdg; exact one_key hnn hkey
  refine wpAny_setItem_pairs (knd := strKind PG w) (k := Str.ofString "name") (strKind_is _ _ _ _) hdg (fun h7 hdg7 hs7 => ?_) (by rw [sizeLine_eq]; omega)
  dsimp only at hs7 ⊢
  have mv7 : Mv [a.dg] h6 h7 := Mv.same hs7 (by simp)
  have dgfp : a.dg ∈ a.fp := by simp [GA.fp]
  have F7 := Fr.mv F6 mv7 (by simp; exact fun q => hLfp (q ▸ dgfp)) (fun b hb => by rw [List.mem_singleton.mp hb]; exact hf5 _ dgfp)
  have hp7 : h7.PlainList ca vs.toArray := pl_mv hp6 mv7 (by simp; exact fun q => hcafp (q ▸ dgfp))
  have nd := G6.nd
  unfold GA.fp at nd
  simp only [List.nodup_cons, List.mem_cons, List.mem_append, not_or, List.nodup_append] at nd
  obtain ⟨⟨nx1, nx2, nx3, nx4, nx5, nx6⟩, ⟨nd1, nd2, nd3, nd4, nd5⟩, ⟨ng1, ng2, ng3, ng4⟩, ⟨nn1, nn2, nn3⟩, ⟨na1, na2⟩, hia, hna, hdis⟩ := nd
  have up7 : ∀ {b : Nat}, b ≠ a.dg → ∀ o, h6.get? b = some o → h7.get? b = some o := fun hb o e => mv7 _ _ (by simpa using hb) e
  have G7 : GR w a [] h7 := ⟨G6.nd, up7 nx2 _ G6.inst, up7 nd1 _ G6.dict, ⟨_, hdg7, stored_key hkey⟩, DictOf.mv G6.node (up7 (Ne.symm ng1)), DictOf.mv G6.adj (up7 (Ne.symm ng2)), G6.lni, G6.lna, fun i b p _ e2 => by simp at e2,
    fun b hb => DictOf.mv (G6.attr b hb) (up7 fun q => ng4 (q ▸ hb)), G6.nomods, by simp⟩
  have hrs : Rel (TupV [] s.heap) vs C := hr.mono fun v c ⟨a, t, tt, n, e1, e2, e3⟩ => ⟨a, t, tt, n, e1, by simp, e3⟩
  have hgca : s.heap.get? ca = none := none_above F7 hLca
  refine wpAny_execs_cons (wpAny_mono (Q := fun f s' => f = .next ∧ ∃ h tk m a', s' = { s with heap := h, toks := tk } ∧ Fr s.heap L h m ∧ m (Str.ofString "G") = some (.ref a.x) ∧ a'.x = a.x ∧ GR w a' (tgraph C) h ∧ (∀ b ∈ a'.fp, s.heap.get? b = none)) ?f1 (fun f s' hm => ?r1) (fun _ _ e => e))
  case f1 =>
    refine while_ (fun n s' => ∃ h tk m vs1 C0 C1 a', s' = { s with heap := h, toks := tk } ∧ n = C1.length ∧ C0 ++ C1 = C ∧ Fr s.heap L h m ∧ m (Str.ofString "ci") = some (.ref ca) ∧ m (Str.ofString "G") = some (.ref a.x) ∧ a'.x = a.x ∧
      h.PlainList ca vs1.toArray ∧ Rel (TupV [] s.heap) vs1 C1 ∧ GR w a' (tgraph C0) h ∧ (∀ b ∈ a'.fp, s.heap.get? b = none) ∧ L ∉ a'.fp ∧ ca ∉ a'.fp) ?t1 _
      ⟨h7, _, _, vs, [], C, a, rfl, rfl, rfl, F7, by rw [if_neg (by decide), if_pos rfl], by rw [if_pos rfl], rfl, hp7, hrs, G7, hf5, hLfp, hcafp⟩
    rintro n s' E' ⟨h, tk, m, vs1, C0, C1, a', rfl, rfl, hC, F, n1, n2, hax, hp, hrel, Gr, hfr, hLf, hcf⟩
    have hlen : vs1.length = C1.length := hrel.1
    have hC8 : C0.length + C1.length ≤ 8 := by rw [← List.length_append, hC]; exact hn2
    refine isTrue_plain (ld F n1 ?_)
    refine pl_truthy hp (by omega) ?_
    cases C1 with
    | nil =>
      have : vs1 = [] := List.length_eq_zero_iff.mp (by rw [hlen]; rfl)
      subst this
      show _ ∧ _
      rw [List.append_nil] at hC
      subst hC
      exact ⟨rfl, h, _, m, a', rfl, F, n2, hax, Gr, hfr⟩
    | cons c C1 =>
      obtain ⟨v, vs2, rfl, ⟨b, t, tt, nn, rfl, _, hb⟩, hrel2⟩ := hrel.tail
      rw [show (!(Value.ref b :: vs2).isEmpty) = true from rfl, if_pos rfl]
      have hbca : b ≠ ca := fun q => by rw [q, hgca] at hb; cases hb
      refine wpAny_execs_cons (st_pop0t F rfl (by rfl) (by rfl) (by rfl) (by decide) rfl n1 hp (by have := hrel2.1; simp at hC8; omega) ⟨_, F.keep _ _ hb, rfl, nn, rfl⟩ hbca caL hgca fun h8 tk8 F8 hp8 mv8 => ?_)
      dsimp only
      have G8 : GR w a' (tgraph C0) h8 := Gr.mv fun b o hb e => mv8 b o (by simp; exact ⟨fun q => hLf (q ▸ hb), fun q => hcf (q ▸ hb)⟩) e
      have hC0 : C0.length ≤ 8 := by omega
      have hC0' : (C0.map (·.1)).Nodup ∧ c.1 ∉ C0.map (·.1) := by
        rw [← hC, List.map_append, List.nodup_append] at hnd
        refine ⟨hnd.1, fun q => hnd.2.2 _ q c.1 (by simp) rfl⟩
      have hcv : c.1 ∉ keysOf (tgraph C0) := by rw [keysOf_tgraph]; exact hC0'.2
      generalize hG0 : tgraph C0 = G0 at G8 hcv
      have hnb := tgraph_nbrs C0
      rw [hG0] at hnb
      have hG0l : G0.length = C0.length := by rw [← hG0, tgraph_len]
      have hkn : (keysOf G0).Nodup := by rw [← hG0, keysOf_tgraph]; exact hC0'.1
      generalize hm8 : (fun z => if z = Str.ofString "node_type" then _ else _) = m8 at F8
      have o1 : m8 (Str.ofString "ci") = some (.ref ca) := by rw [← hm8]; exact n1
      have o2 : m8 (Str.ofString "G") = some (.ref a.x) := by rw [← hm8]; exact n2
      have o3 : m8 (Str.ofString "v") = some (.int c.1 t) := by rw [← hm8]; rfl
      have o4 : m8 (Str.ofString "node_type") = some (.str (letS c.2) tt) := by rw [← hm8]; rfl
      clear hm8
      have hsys : @LT.lt Nat _ sysModules s.heap.objs.size := modules_low T.nolimit
      refine wpAny_execs_cons (wpAny_mono (Q := fun f s' => f = .next ∧ ∃ h tk m a2, s' = { s with heap := h, toks := tk } ∧ Fr s.heap L h m ∧ m (Str.ofString "ci") = some (.ref ca) ∧ m (Str.ofString "G") = some (.ref a.x) ∧ m (Str.ofString "v") = some (.int c.1 t) ∧ a2.x = a.x ∧
        h.PlainList ca vs2.toArray ∧ GR w a2 (if c.2 then half c.1 G0 [] else G0) h ∧ (∀ b ∈ a2.fp, s.heap.get? b = none) ∧ L ∉ a2.fp ∧ ca ∉ a2.fp) ?g1 (fun f s' hm => ?g2) (fun _ _ e => e))
      case g1 =>
        refine wpAny_If (wpAny_isTrue_Compare1 (ld F8 o4 (wpAny_Constant_str ?_)))
        refine eq_let (b := true) (wpAny_truthy_bool ?_)
        cases hc2 : c.2 with
        | false =>
          rw [if_neg (by decide)]
          exact wpAny_execs_nil ⟨rfl, h8, _, m8, a', rfl, F8, o1, o2, o3, hax, hp8, by rw [if_neg Bool.false_ne_true]; exact G8, hfr, hLf, hcf⟩
        | true =>
          rw [if_pos (by decide)]
          refine wpAny_execs_cons ?_
          refine for_ (g := s.heap) rfl (by rfl) ?_
          refine Call_ ?_
          refine name_B F8 KX T' (by k_is) (by boot_by_name) (by decide) ?_
          refine cw_type1 ?_
          have o2' : m8 (Str.ofString "G") = some (.ref a'.x) := by rw [hax]; exact o2
          refine args_cons (ld F8 o2' ?_)
          refine args_nil ?_
          refine src_list (s := { s with heap := h8, toks := _ }) (src_graph F8 KX T' G8) ((hA.deeper (d := 7) _).less (by omega)) (by rw [List.length_zip, keys_len]; omega) fun h9 tk9 us k9 hp9 hul hus => ?_
          dsimp only at k9 hp9
          have F9 := F8.keeps k9
          have G9 : GR w a' G0 h9 := G8.mv fun b o _ e => k9 _ _ e
          generalize hlst : h8.objs.size = lst at hp9
          have hzl : ((keysOf G0).zip (refs a'.na)).length = G0.length := by rw [List.length_zip, keys_len, refs_len, G9.lna]; omega
          rw [hzl] at hul
          refine wpAny_pyIter_list (pl_list hp9) ?_
          dsimp only
          have hL8 : @LT.lt Nat _ L h8.objs.size := F8.ns.lt
          have hlst9 : @LT.lt Nat _ lst h9.objs.size := plt_lt hp9
          have hca8 : @LT.lt Nat _ ca h8.objs.size := plt_lt hp8
          have lstI : lst ≠ h9.objs.size := Nat.ne_of_lt hlst9
          have lstca : @Ne Nat lst ca := by omega
          have lstL : @Ne Nat lst L := by omega
          have IL : @Ne Nat h9.objs.size L := by omega
          have Ica : @Ne Nat h9.objs.size ca := by omega
          have lstfp : lst ∉ a'.fp := fun q => by have := G8.lt _ q; omega
          have Ifp : h9.objs.size ∉ a'.fp := fun q => by have := G9.lt _ q; omega
          generalize hIe : h9.objs.size = I at lstI IL Ica Ifp
          have hIit : (h9.push (listIt lst)).IsListIter I lst 0 := by rw [← hIe]; exact ⟨_, Heap.get?_push_size _ rfl, rfl, rfl⟩
          have FH : Fr s.heap L (h9.push (listIt lst)) m8 := F9.push _
          have hLI : @LT.lt Nat _ L I := by omega
          refine ⟨I, [I, lst], [I], us.toArray.size, _, _, m8, fun i h m => (m (Str.ofString "ci") = some (.ref ca) ∧ m (Str.ofString "G") = some (.ref a.x) ∧ m (Str.ofString "v") = some (.int c.1 t)) ∧
            ∃ a2 : GA, a2.x = a.x ∧ h.PlainList ca vs2.toArray ∧ GR w a2 (half c.1 (G0.take i) (G0.drop i)) h ∧ (∀ b ∈ a2.fp, s.heap.get? b = none) ∧ L ∉ a2.fp ∧ ca ∉ a2.fp ∧ lst ∉ a2.fp ∧ I ∉ a2.fp, ?live,
            ⟨rfl, Walks.list (by rfl) I lst lstI us.toArray, ?lf, ?wn, ⟨hIit, (pl_list hp9).push _⟩, FH, ⟨⟨o1, o2, o3⟩, a', hax, pl_keep (pl_keep hp8 k9) (fun b o e => Heap.get?_push_of_some _ e), ?g0, hfr, hLf, hcf, lstfp, Ifp⟩, ?keep, ?step, ?done⟩⟩
          case live =>
            intro i h st b hb
            simp only [List.mem_cons, List.not_mem_nil, or_false] at hb
            rcases hb with rfl | rfl
            · obtain ⟨⟨o, ho, _⟩, _⟩ := st; exact ⟨o, ho⟩
            · obtain ⟨_, ⟨o, ho, _⟩⟩ := st; exact ⟨o, ho⟩
          case lf => simp only [List.mem_cons, List.not_mem_nil, or_false, not_or]; exact ⟨Ne.symm IL, Ne.symm lstL⟩
          case wn => intro b hb; rw [List.mem_singleton.mp hb]; exact none_above FH hLI
          case g0 =>
            have : half c.1 (G0.take 0) (G0.drop 0) = G0 := by simp [half]
            rw [this]
            exact G9.mv fun b o _ e => Heap.get?_push_of_some _ e
          case keep =>
            rintro i h h' m ⟨hm, a2, e1, ⟨n, e2⟩, e3, e4, e5, e6, e7, e8⟩ hk
            refine ⟨hm, a2, e1, ⟨n, hk _ _ (by simpa using Ne.symm Ica) caL e2⟩, e3.mv fun b o hb e => hk b o (by simp; exact fun q => e8 (q ▸ hb)) (fun q => e5 (q ▸ hb)) e, e4, e5, e6, e7, e8⟩
          case done =>
            rintro h tk m F ⟨⟨r1, r2, r3⟩, a2, e1, e2, e3, e4, e5, e6, e7, e8⟩
            refine wpAny_execs_nil ⟨rfl, h, tk, m, a2, rfl, F, r1, r2, r3, e1, e2, ?_, e4, e5, e6⟩
            rw [if_pos rfl]
            have e : us.toArray.size = G0.length := by simpa using hul
            rw [e, List.take_length, List.drop_length] at e3
            exact e3
          case step =>
            rintro i vv h tk m E'' hi hP ⟨⟨r1, r2, r3⟩, a2, e1, e2, e3, e4, e5, e6, e7, e8⟩ F hlive
            have hiG : i < G0.length := by rw [← hul]; simpa using hi
            obtain ⟨k, x, hzip, hkv⟩ := hus i vv (by simpa using hP)
            rw [List.getElem?_zip_eq_some] at hzip
            have hk1 : k = G0[i].1 := by
              have := hzip.1
              simp [keysOf, hiG] at this
              exact this.symm
            subst hk1
            have hvi : vv.isInt G0[i].1 = true := hkv
            obtain ⟨tv, rfl⟩ : ∃ tv, vv = .int G0[i].1 tv := by
              cases vv <;> simp [Value.isInt] at hvi
              subst hvi
              exact ⟨_, rfl⟩
            have hsplit : G0.take i ++ G0[i] :: G0.drop (i + 1) = G0 := by rw [← List.drop_eq_getElem_cons hiG, List.take_append_drop]
            rw [List.drop_eq_getElem_cons hiG] at e3
            have hcv' : c.1 ∉ keysOf (G0.take i ++ G0[i] :: G0.drop (i + 1)) := by rw [hsplit]; exact hcv
            have hkn' : (keysOf (G0.take i ++ G0[i] :: G0.drop (i + 1))).Nodup := by rw [hsplit]; exact hkn
            have hmemi : G0[i] ∈ G0 := List.getElem_mem hiG
            have huv : c.1 ≠ G0[i].1 := fun q => hcv (by rw [q]; exact List.mem_map_of_mem hmemi)
            have hdeg : ∀ p ∈ G0.take i ++ G0[i] :: G0.drop (i + 1), p.2.length ≤ 8 := by rw [hsplit]; exact fun p hp => Nat.le_trans (hnb p hp).2 hC0
            have hlt : (G0.take i).length ≤ 8 := by rw [List.length_take]; omega
            have hhl : (half c.1 (G0.take i) (G0[i] :: G0.drop (i + 1))).length < 20 := by
              have := half_len c.1 (G0.take i) (G0[i] :: G0.drop (i + 1))
              rw [← List.length_append, hsplit] at this
              omega
            have hnu : ∀ nu, (c.1, nu) ∈ half c.1 (G0.take i) (G0[i] :: G0.drop (i + 1)) → G0[i].1 ∉ nu := fun nu h => by
              rw [half_v hcv' h]
              rw [keysOf_append, List.nodup_append] at hkn'
              exact fun q => hkn'.2.2 _ q _ (List.mem_cons_self ..) rfl
            have r2' : m (Str.ofString "G") = some (.ref a2.x) := by rw [e1]; exact r2
            refine wpAny_execs_cons (Expr_none (MethodCall_ (ld F (by rw [if_neg (by decide)]; exact r2') ?_)) (by rfl) (by rfl))
            refine method_inst F KX e3.at_ kp_edge2 km_edge2 kk_edge2.1 rfl ?_
            refine callWith_K KX kk_edge2.2 ?_
            refine args_cons (ld F (by rw [if_neg (by decide)]; exact r3) ?_)
            refine args_cons (ld F (by rw [if_pos rfl]) ?_)
            refine args_nil ?_
            refine ⟨kin_keeps KX F.keep, wpAny_call ?_⟩
            refine add_edge_spec (s := { s with heap := h, toks := _ }) ((hA.deeper (d := 7) _).less (by omega)) (Fr.sub F) KX T' hsys e3 e4 huv (nv := G0[i].2) (half_mem (List.mem_cons_self ..)) (fun q => hC0'.2 ((hnb _ hmemi).1 _ q)) hnu hhl (fun p hp => Nat.le_trans (half_deg hdeg hlt p hp) (by omega)) fun a3 h' tk' G' gr => ⟨rfl, ?_⟩
            rw [half_step hkn' hcv'] at G'
            have F' : Fr s.heap L h' _ := ⟨F.ns.at' fun o e => gr.keep _ _ e5 e, fun b o e => gr.keep _ _ (fun q => by rw [e4 b q] at e; cases e) (F.keep _ _ e), F.above⟩
            have liv : ∀ {b : Nat} {o : Obj}, b ∉ a2.fp → h.get? b = some o → b ∉ a3.fp := fun hb e q => by
              rcases gr.new _ q with q | q
              · exact hb q
              · rw [q] at e; cases e
            obtain ⟨nca, eca⟩ := e2
            obtain ⟨oI, hoI⟩ := hlive I (by simp)
            obtain ⟨ol, hol⟩ := hlive lst (by simp)
            obtain ⟨oL, _, _, hoL, _⟩ := id F.ns
            refine wpAny_execs_nil ⟨rfl, h', _, _, rfl, F', ⟨⟨by rw [if_neg (by decide)]; exact r1, by rw [if_neg (by decide)]; exact r2, by rw [if_neg (by decide)]; exact r3⟩, a3, gr.x.trans e1, ⟨nca, gr.keep _ _ e6 eca⟩, ?_, fun b hb => ?_, liv e5 hoL, liv e6 eca, liv e7 hol, liv e8 hoI⟩, fun b hb o e => ?_⟩
            · have : G0.take (i + 1) = G0.take i ++ [G0[i]] := by rw [List.take_succ_eq_append_getElem hiG]
              rw [this]; exact G'
            · rcases gr.new b hb with q | q
              · exact e4 b q
              · exact none_back F.keep q
            · simp only [List.mem_cons, List.not_mem_nil, or_false] at hb
              rcases hb with rfl | rfl
              · exact gr.keep _ _ e8 e
              · exact gr.keep _ _ e7 e
      obtain ⟨rfl, h9, tk9, m9, a9, rfl, F9, q1, q2, q3, ax9, hp9, G9, f9, L9, c9⟩ := hm
      dsimp only
      have q2' : m9 (Str.ofString "G") = some (.ref a9.x) := by rw [ax9]; exact q2
      refine wpAny_execs_cons (Expr_none (MethodCall_ (ld F9 q2' ?_)) (by rfl) (by rfl))
      refine method_inst F9 KX G9.at_ kp_node2 km_node2 kk_node2.1 rfl ?_
      refine callWith_K KX kk_node2.2 ?_
      refine args_cons (ld F9 q3 ?_)
      refine args_nil ?_
      refine ⟨kin_keeps KX F9.keep, wpAny_call ?_⟩
      have hl9 : (if c.2 then half c.1 G0 [] else G0).length < 20 := by
        split
        · have := half_len c.1 G0 []; simp at this; omega
        · omega
      refine add_node_spec (s := { s with heap := h9, toks := _ }) ((hA.deeper (d := 7) _).less (by omega)) (Fr.sub F9) KX T' hsys G9 f9 hl9 fun a10 h10 tk10 G10 gr => ⟨rfl, ?_⟩
      have F10 : Fr s.heap L h10 m9 := ⟨F9.ns.at' fun o e => gr.keep _ _ L9 e, fun b o e => gr.keep _ _ (fun q => by rw [f9 b q] at e; cases e) (F9.keep _ _ e), F9.above⟩
      have new10 : ∀ b ∈ a10.fp, s.heap.get? b = none := fun b hb => by
        rcases gr.new b hb with q | q
        · exact f9 b q
        · exact none_back F9.keep q
      have liv : ∀ {b : Nat} {o : Obj}, b ∉ a9.fp → h9.get? b = some o → b ∉ a10.fp := fun hb e q => by
        rcases gr.new _ q with q | q
        · exact hb q
        · rw [q] at e; cases e
      have hp10 : h10.PlainList ca vs2.toArray := let ⟨n, e⟩ := hp9; ⟨n, gr.keep _ _ c9 e⟩
      have hL10 : L ∉ a10.fp := by
        obtain ⟨oL, _, _, hoL, _⟩ := F9.ns
        exact liv L9 hoL
      have hc10 : ca ∉ a10.fp := by
        obtain ⟨n, e⟩ := hp9
        exact liv c9 e
      refine wpAny_execs_nil ⟨rfl, C1.length, by simp, h10, _, m9, vs2, C0 ++ [c], C1, a10, rfl, rfl, by simpa using hC, F10, q1, q2, gr.x.trans ax9, hp10, hrel2, ?_, new10, hL10, hc10⟩
      rw [tgraph_snoc, hG0]
      obtain ⟨cv, cb⟩ := c
      cases cb with
      | true => rw [← half_all hcv]; exact G10
      | false => rw [← ensure_new hcv]; exact G10
  obtain ⟨rfl, h8, tk8, m8, a8, rfl, F8, n8, ax8, G8, f8⟩ := hm
  dsimp only
  refine wpAny_execs_cons (wpAny_Return_some (ld F8 n8 ?_))
  rw [← ax8]
  exact hR a8 h8 _ F8.keep G8 f8
end Mine
end

section
open PySem PySem.W PySem.Calls PyProof.Rows
set_option Elab.async false
set_option maxRecDepth 100000
set_option maxHeartbeats 8000000
namespace Mine
theorem fillK_GF : PySem.Challenge.rw_au6018_01 = PySem.Challenge.rw_au6018_01 → hd.heap_39 = hd.heap_39 → True := by
  k_fill
  intro _ _; trivial
theorem findObj_nd {K : Frag} {C : Addr} {od : Obj} {name : Str} {a g : Value} (hh : hasDictIn K C = true) (ha : findIn K (.ref C) name = some (some a)) (hg : specialIn K a "__get__" = some (some g)) (ht : takesIn K a = some false)
    (hl : lookIn name od = some none) (hcn : copiedNames.contains name = false) : findObj K C (some od) name = some (.bind g a) := by
  obtain ⟨cd, hc, hd⟩ := any_some hh
  unfold findObj
  have ho : W.ownOf cd (some od) name = some none := by unfold W.ownOf; rw [if_pos hd]; exact hl
  rw [hc, Option.bind_some, ha, Option.bind_some]
  simp only [hg, ht, ho, hcn, Option.bind_some, Bool.false_and, Bool.false_eq_true, if_false]
theorem findObj_ndv {K : Frag} {C : Addr} {od : Obj} {name : Str} {a g v : Value} (hh : hasDictIn K C = true) (ha : findIn K (.ref C) name = some (some a)) (hg : specialIn K a "__get__" = some (some g)) (ht : takesIn K a = some false)
    (hl : lookIn name od = some (some v)) : findObj K C (some od) name = some (.value v) := by
  obtain ⟨cd, hc, hd⟩ := any_some hh
  unfold findObj
  have ho : W.ownOf cd (some od) name = some (some v) := by unfold W.ownOf; rw [if_pos hd]; exact hl
  rw [hc, Option.bind_some, ha, Option.bind_some]
  simp [hg, ht, ho]
theorem ka1 {w : World} : findIn (hd.heap_39 w.params) (.ref 624) (Str.ofString "adj") = some (some (.ref 390)) := by k_is
theorem ka2 {w : World} : specialIn (hd.heap_39 w.params) (.ref 390) (Str.ofString "__get__") = some (some (.ref 309)) := by k_is
theorem ka3 {w : World} : takesIn (hd.heap_39 w.params) (.ref 390) = some false := by k_is
theorem ka4 {w : World} : plainGet (hd.heap_39 w.params) 624 (Str.ofString "adj") = true := by k_is
end Mine
end

section
open PySem PySem.W PySem.Calls PyProof.Rows Builtin Builtin.ObjectAttr Builtin.Getset_descriptor
set_option Elab.async false
set_option maxRecDepth 100000
set_option maxHeartbeats 8000000
namespace Mine
theorem fillK_GD : PySem.Challenge.rw_au6018_01 = PySem.Challenge.rw_au6018_01 → hd.heap_39 = hd.heap_39 → True := by
  k_fill
  intro _ _; trivial
section
variable {prog : Program} {w : World} {A : Around} {E : Value → Shared → Prop} {s : Shared} {R : Result → Shared → Prop}
theorem wpS_ite {α : Type} {M : Model} {c : Prop} [Decidable c] {a b : Sem α} {Q : α → Shared → Prop} (ha : wpS M A a Q E s) (hb : wpS M A b Q E s) : wpS M A (if c then a else b) Q E s := by split <;> assumption
theorem codeS_builtin {id : String} {args : Args} {b : Builtin} (hid : id ≠ "lifetime.gc.finalise") (hb : entryFor table id = some b)
    (h : wpS (model prog w) (A.under (.builtin id args)) (b args) (fun fin s' => match fin with | .done f => R (.ok f) s' | .again c' => c'.quiet = true ∧ codeS (model prog w) A c' R s') (fun e s' => R (.error e) s') s) :
    codeS (model prog w) A (.builtin id args) R s := by
  refine codeS_of_tree (fun a e => by cases e; exact hid rfl) ?_
  show wpS _ _ (match entryFor table id with | some b => b args | none => unsupported ((withoutEnding? id "#data").getD id)) _ _ s
  rw [hb]; exact h
theorem codeS_call_builtin {id : String} {args : Args} {b : Builtin} (hq : plainId id = true) (hid : id ≠ "lifetime.gc.finalise") (hb : entryFor table id = some b)
    (h : wpAny (model prog w) A.in1 (checkBuiltinCall id args) (fun _ s₁ => wpS (model prog w) A.in1 (b args)
      (fun fin s' => match fin with | .done f => R (.ok f) s' | .again c' => c'.quiet = true ∧ codeS (model prog w) A c' R s') (fun e s' => R (.error e) s') s₁)
      (fun e s' => R (.error e) s') s) : codeS (model prog w) A (.call (.builtin id) args) R s := by
  refine codeS_of_tree (fun a e => by cases e) ?_
  show wpS _ A.in1 (do checkBuiltinCall id args; again (.builtin id args)) _ _ s
  refine wpS_bind (wpAny_mono h (fun _ s₁ h₁ => wpS_pure (And.intro (plainId_quiet hq args) (codeS_builtin hid hb ?_))) fun _ _ h' => h')
  rw [Around.under_plainId hq args]; exact h₁
end
theorem kd1 {w : World} : recIn (hd.heap_39 w.params) 625 "getset_descriptor" = some [.str (Str.ofString "__dict__") 991, .ref 624, .builtin "function.__dict__", .builtin "function.__dict__#set"] := by k_is
theorem kd2 {w : World} : mroIn (hd.heap_39 w.params) 624 (.ref 624) = some true := by k_is
theorem kd3 {w : World} : mroIn (hd.heap_39 w.params) 624 (.type "staticmethod") = some false := by k_is
theorem kd4 {w : World} : mroIn (hd.heap_39 w.params) 624 (.type "classmethod") = some false := by k_is
theorem entry_fdict : entryFor table "function.__dict__" = some Builtin.«function.__dict__» := entryFor_of_tree (by kernel_rfl)
theorem plain_fdict : plainId "function.__dict__" = true := by decide +kernel
def nsIn (K : Frag) (a : Addr) (name : Str) : Option (Option Value) := (K.lookup a).bind (lookIn name)
theorem looks_nsIn {K : Frag} {M : Model} {h : Heap} (X : K.In h) {a : Addr} {name : Str} {r : Option Value} (e : nsIn K a name = some r) : Looks M h (nsGet a name) r := by
  obtain ⟨o, ho, hr⟩ := Option.bind_eq_some_iff.mp e
  exact (Looks.ld (X _ _ ho)).andThen (.of_pure (nsLook_of hr))
theorem kd5 {w : World} : nsIn (hd.heap_39 w.params) cStatics (Str.ofString "_thread.count") = some none := by kernel_rfl
theorem kd6 {w : World} : ∃ cd, clsIn (hd.heap_39 w.params) 624 = some cd ∧ cd.hasDict = true := by
  obtain ⟨cd, h1, h2⟩ := any_some (kf_has (w := w))
  exact ⟨cd, h1, h2⟩
section
variable {w : World} {A : Around} {E : Value → Shared → Prop} {s : Shared} {R : Result → Shared → Prop}
def slotted (o : Obj) : Obj := if o.slots.isEmpty then { o with slots := #[none] } else o
theorem handed_S {x dx : Addr} {od : Obj} (X : (hd.heap_39 w.params).In s.heap) (hx : s.heap.get? x = some (instObj 624 dx)) (hd' : s.heap.get? dx = some od) {Q : Option Addr → Shared → Prop}
    (h : Q (some dx) { s with heap := s.heap.update dx fun o => if o.slots.isEmpty then { o with slots := #[none] } else o }) : wpS (model PG w) A (instanceDictHandedOut x) Q E s := by
  unfold instanceDictHandedOut
  obtain ⟨cd, hc1, hc2⟩ := kd6 (w := w)
  have L0 := looks_clsIn (M := model PG w) X hc1
  obtain ⟨hh, g, dr, t, os⟩ := s
  dsimp only at hx hd' L0
  refine wpS_bind ?_
  unfold instanceDict
  repeat lk
  rw [hc2]
  repeat lk
  refine wpS_bind ?_
  repeat lk
  refine wpS_bindS ?_
  refine wpS_bind (m := load dx) ?_
  refine wpAny_load hd' ?_
  dsimp only
  have fin : wpS (model PG w) A (do
          update dx fun o =>
              if o.slots.isEmpty = true then { cls := o.cls, dict := o.dict, data := o.data, slots := #[none] } else o
          pure (some dx)) Q E { heap := hh, gens := g, drawn := dr, toks := t, os := os } :=
    wpS_bind (wpAny_update hd' (wpS_pure h))
  refine wpS_ite (wpS_pure fin) ?_
  refine wpS_bindS (wpS_stack fun st hst => ?_)
  have hno : ∀ f : Code × Pos → Option (Option Value × List (Str × Value)), (∀ y, calm y.1 → f y = none) → st.findSome? f = none := fun f hf => by
    rw [List.findSome?_eq_none_iff]
    exact fun y hy => hf y (hst y hy)
  rw [hno]
  · have L5 := looks_nsIn (M := model PG w) X kd5
    refine wpS_bind (L5.at ?_)
    exact wpS_pure fin
  · intro y hy
    split
    · rename_i e
      exact absurd e (hy _)
    · rfl

theorem dict_get_S {x dx : Addr} {od : Obj} {tp : Value} (X : (hd.heap_39 w.params).In s.heap) (hx : s.heap.get? x = some (instObj 624 dx)) (hd' : s.heap.get? dx = some od)
    (h : R (.ok (.ret (.ref dx))) { s with heap := s.heap.update dx fun o => if o.slots.isEmpty then { o with slots := #[none] } else o }) :
    codeS (model PG w) A (.call (.builtin "getset_descriptor.__get__") ⟨[.ref 625, .ref x, tp], []⟩) R s := by
  have X' := X
  obtain ⟨d, sl, ho⟩ := rec_of X (kd1 (w := w))
  have hx' := hx
  have hd'' := hd'
  have h' := h
  obtain ⟨hh, g, dr, t, os⟩ := s
  have L1 := looks_mroIn (M := model PG w) X (kd2 (w := w))
  have L2 := looks_mroIn (M := model PG w) X (kd3 (w := w))
  have L3 := looks_mroIn (M := model PG w) X (kd4 (w := w))
  dsimp only at ho hx hd' L1 L2 L3
  have f0 := looks_field (M := model PG w) ho 0 (v := .str (Str.ofString "__dict__") 991) rfl
  have f1 := looks_field (M := model PG w) ho 1 (v := .ref 624) rfl
  have f2 := looks_field (M := model PG w) ho 2 (v := .builtin "function.__dict__") rfl
  refine codeS_call_builtin KF.slot_gs.plain (by decide) KF.entry_gs (KF.slot_gs.check _ _ _ _ _ _ _ _ ⟨_, ho, rfl⟩ (KF.args_gs _ _ _) ?_)
  refine .of ?_
  unfold Builtin.«getset_descriptor.__get__» descrGet
  rw [dga_obj]
  refine wpAny_bind (wpAny_pure ?_)
  unfold descrGetter descrCheckInstance descrNameAndClass isInstance
  repeat lk
  refine ⟨plainId_quiet plain_fdict _, codeS_builtin (by decide) entry_fdict ?_⟩
  rw [Around.under_plainId plain_fdict _]
  unfold Builtin.«function.__dict__» isInstance
  refine wpS_bind ?_
  repeat lk
  refine wpS_bindS (handed_S (s := ⟨hh, g, dr, t, os⟩) X' hx' hd'' ?_)
  exact wpS_pure h'
end
end Mine
end

section
open PySem PySem.W PySem.Calls PyProof.Rows Builtin Builtin.ObjectAttr
set_option Elab.async false
set_option maxRecDepth 100000
set_option maxHeartbeats 8000000
namespace Mine
section
variable {M : Model} {A : Around} {E : Value → Shared → Prop} {s : Shared} {env : Env}
theorem execs_S {st : Stmt} {rest : List Stmt} {Q : Flow → Shared → Prop} (h : wpS M A (exec st env) (fun f s' => match f with | .next => wpS M A (execs rest env) Q E s' | f => Q f s') E s) : wpS M A (execs (st :: rest) env) Q E s := by
  rw [execs_cons]
  refine wpS_bindS (wpS_mono h (fun f s' h' => ?_) fun _ _ e => e)
  cases f <;> first | exact h' | exact wpS_pure h'
theorem execs_A {st : Stmt} {rest : List Stmt} {Q : Flow → Shared → Prop} (h : wpAny M A (exec st env) (fun f s' => match f with | .next => wpS M A (execs rest env) Q E s' | f => Q f s') E s) : wpS M A (execs (st :: rest) env) Q E s := execs_S (.of h)
theorem If_S {test : Expr} {body orelse : List Stmt} {pos : Pos} {Q : Flow → Shared → Prop} (h : wpS M A (isTrue test env (eval test env)) (fun b s₂ => if b then wpS M A (execs body env) Q E s₂ else wpS M A (execs orelse env) Q E s₂) E s) :
    wpS M A (exec (.If test body orelse pos) env) Q E s := by
  rw [exec_If]
  refine wpS_bind (wpAny_standAt (wpS_bindS (wpS_mono h (fun b s₂ h₂ => ?_) fun _ _ e => e)))
  cases b <;> exact h₂
theorem not_S {x : Expr} {pos : Pos} {whole : Sem Value} {Q : Bool → Shared → Prop} (h : wpS M A (isTrue x env (eval x env)) (fun c s' => Q (!c) s') E s) : wpS M A (isTrue (.UnaryOp .Not x pos) env whole) Q E s := by
  show wpS M A (do return !(← isTrue x env (eval x env))) Q E s
  exact wpS_bindS (wpS_mono h (fun c s' h' => wpS_pure h') fun _ _ x => x)
theorem plain_S {e : Expr} {whole : Sem Value} {Q : Bool → Shared → Prop} (h : wpS M A whole (fun v s₁ => wpS M A (truthy v) Q E s₁) E s) (he : isTrue e env whole = (do let v ← whole; standAt e.pos; holding [v] (truthy v)) := by rfl) : wpS M A (isTrue e env whole) Q E s := by
  rw [he]
  exact wpS_bindS (wpS_mono h (fun v s₁ h₁ => wpS_bind (wpAny_standAt (wpS_holding h₁))) fun _ _ x => x)
theorem Call_S {func : Expr} {args : List Expr} {pos : Pos} {Q : Value → Shared → Prop} (h : wpAny M A (eval func env) (fun f s₁ => wpS M A (callWith pos f [] (backTo pos (starEach args env)) []) Q E s₁) E s)
    (he : eval (.Call func args [] pos) env = (do callWith pos (← eval func env) [] (backTo pos (starEach args env)) (backToKw pos (keywordEach [] env))) := by rfl) : wpS M A (eval (.Call func args [] pos) env) Q E s := by
  rw [he]; exact wpS_bind h
theorem args_S {e : Expr} {rest : List Expr} {pos : Pos} {Q : List Value → Shared → Prop}
    (h : wpS M A (eval e env) (fun v s₁ => wpS M A (spliced (backTo pos (starEach rest env))) (fun vs s₂ => Q (v :: vs) s₂) E s₁) E s)
    (he : starEach (e :: rest) env = (false, eval e env) :: starEach rest env := by rfl) : wpS M A (spliced (backTo pos (starEach (e :: rest) env))) Q E s := by
  rw [he]
  show wpS M A (spliced ((false, eval e env) :: backTo pos (starEach rest env))) Q E s
  rw [spliced]
  refine wpS_bindS (wpS_mono h (fun v s₁ h₁ => ?_) fun _ _ x => x)
  simp only [Bool.false_eq_true, if_false]
  exact wpS_bind (wpAny_pure (wpS_bindS (wpS_holding (wpS_mono h₁ (fun vs s₂ h₂ => wpS_pure h₂) fun _ _ x => x))))
theorem evalArgs_S {f : Value} {x : Sem Value} {rest : List (Bool × Sem Value)} {Q : Args → Shared → Prop} (h : wpS M A (spliced ((false, x) :: rest)) (fun vs s' => Q ⟨vs, []⟩ s') E s) : wpS M A (evalArgs f true ((false, x) :: rest) []) Q E s := by
  unfold evalArgs
  show wpS M A (spliced ((false, x) :: rest) >>= _) Q E s
  refine wpS_bindS (wpS_mono h (fun vs s' h' => ?_) fun _ _ x => x)
  refine wpS_holding ?_
  exact wpS_bind (wpAny_pure (wpS_bind (wpAny_pure (wpS_pure h'))))
theorem keep_S {α : Type} {vs : List Value} {m : Sem α} {Q : α → Shared → Prop} (h : wpS M A m Q E s) : wpS M A (m.keep vs) Q E s :=
  fun Γ p hΓ hc => by rw [Sem.wp_keep]; exact h Γ p hΓ hc
theorem callWithS {P : Heap → Prop} {pos : Pos} {f : Value} {first : List Value} {args : List (Bool × Sem Value)} {Q : Value → Shared → Prop} (hplain : args.any (·.1) = false)
    (hk : ∀ h, P h → ∃ k, (k = Keeper.frame ∨ k = Keeper.machine ∨ k = Keeper.boundFrame) ∧ Looks M h (keeperOf f) k)
    (h : wpS M A (evalArgs f true args []) (fun a s₁ => P s₁.heap ∧ wpS M A (call f (first ++ a.pos) a.kw) Q E s₁) E s) : wpS M A (callWith pos f first args []) Q E s := by
  unfold callWith
  refine wpS_bindS (wpS_holding (wpS_mono h (fun a s₁ h₁ => wpS_bind (wpAny_standAt ?_)) fun _ _ x => x))
  obtain ⟨k, hk', L⟩ := hk _ h₁.1
  have hp : (args.any (·.1) || ([] : List (Option Str × Sem Value)).any (·.1.isNone)) = false := by rw [hplain]; rfl
  simp only [hp]
  refine wpS_bind (L.here ?_)
  have tail : ∀ {t : Sem Value}, wpS M A t Q E s₁ → wpS M A (t >>= fun r => holding [r] point >>= fun _ => pure r) Q E s₁ :=
    fun ht => wpS_bindS (wpS_mono ht (fun r s₂ hr => wpS_bind (wpAny_holding (wpAny_point (wpS_pure hr)))) fun _ _ x => x)
  have marked (mk : Value) : wpS M A (callMarked mk f (first ++ a.pos) a.kw) Q E s₁ := by unfold callMarked; exact keep_S h₁.2
  rcases hk' with rfl | rfl | rfl <;> dsimp only <;> first | exact tail h₁.2 | (split <;> first | exact tail h₁.2 | exact tail (marked _))
theorem callWith_KS {K : Frag} {pos : Pos} {f : Value} {first : List Value} {e : Expr} {rest : List Expr} {Q : Value → Shared → Prop} (hk : keepIn K f = true) (h : wpS M A (spliced (backTo pos (starEach (e :: rest) env))) (fun vs s₁ => K.In s₁.heap ∧ wpS M A (call f (first ++ vs)) Q E s₁) E s)
    (he : starEach (e :: rest) env = (false, eval e env) :: starEach rest env := by rfl) (hplain : (backTo pos (starEach rest env)).any (·.1) = false := by rfl) :
    wpS M A (callWith pos f first (backTo pos (starEach (e :: rest) env)) []) Q E s := by
  rw [he] at h ⊢
  exact callWithS (by show (false || (backTo pos (starEach rest env)).any (·.1)) = false; rw [hplain]; rfl) (keeps_K hk) (evalArgs_S h)
theorem Return_S {e : Expr} {pos : Pos} {Q : Flow → Shared → Prop} (h : wpS M A (eval e env) (fun v => Q (.ret v)) E s) : wpS M A (exec (.Return (some e) pos) env) Q E s := by
  rw [exec_Return_some]
  exact wpS_bind (wpAny_standAt (wpS_bindS (wpS_mono h (fun v s' h' => wpS_pure h') fun _ _ x => x)))
theorem Compare_S {l r : Expr} {op : CmpOp} {pos : Pos} {Q : Value → Shared → Prop} (h : wpS M A (eval l env) (fun a s₁ => wpAny M A (eval r env) (fun b s₂ => wpAny M A (compareOp op a b) Q E s₂) E s₁) E s) (hm : behindInMarks op r = false := by with_unfolding_all rfl) :
    wpS M A (eval (.Compare l [op] [r] pos) env) Q E s := by
  rw [eval_Compare1, markedBehindIn_of_false hm]
  refine wpS_bindS (wpS_mono h (fun a s₁ h₁ => wpS_bind (wpAny_holding (wpAny_mono h₁ (fun b s₂ h₂ => wpS_bind (wpAny_standAt (wpS.of (wpAny_operating h₂)))) fun _ _ x => x))) fun _ _ x => x)
theorem isTrue_Compare_S {l r : Expr} {op : CmpOp} {pos : Pos} {whole : Sem Value} {Q : Bool → Shared → Prop} (h : wpS M A (eval l env) (fun a s₁ => wpAny M A (eval r env) (fun b s₂ => wpAny M A (compareOp op a b) (fun c s₃ => wpAny M A (truthy c) Q E s₃) E s₂) E s₁) E s)
    (hm : behindInMarks op r = false := by with_unfolding_all rfl) : wpS M A (isTrue (.Compare l [op] [r] pos) env whole) Q E s := by
  rw [isTrue_Compare1, markedBehindIn_of_false hm]
  refine wpS_bindS (wpS_mono h (fun a s₁ h₁ => wpS_bind (wpAny_holding (wpAny_mono h₁ (fun b s₂ h₂ => wpS_bind (wpAny_standAt (wpS_bind (wpAny_operating (wpAny_mono h₂ (fun c s₃ h₃ => ?_) fun _ _ x => x)))) ) fun _ _ x => x))) fun _ _ x => x)
  exact wpS.of (wpAny_holding h₃)
theorem Subscript_S {value slice : Expr} {pos : Pos} {Q : Value → Shared → Prop} (h : wpS M A (eval value env) (fun o s₁ => wpAny M A (eval slice env) (fun i s₂ => wpS M A (subscriptTail value slice o i) Q E s₂) E s₁) E s) : wpS M A (eval (.Subscript value slice pos) env) Q E s := by
  rw [eval_Subscript]
  exact wpS_bindS (wpS_mono h (fun o s₁ h₁ => wpS_bind (wpAny_holding (wpAny_mono h₁ (fun i s₂ h₂ => wpS_bind (wpAny_standAt h₂)) fun _ _ x => x))) fun _ _ x => x)
theorem Attribute_S {n attr : Str} {np pos : Pos} {Q : Value → Shared → Prop} (h : wpAny M A (eval (.Name n np) env) (fun o s₁ => wpS M A (getAttr o attr true) Q E s₁) E s) : wpS M A (eval (.Attribute (.Name n np) attr pos) env) Q E s := by
  rw [arm_eval_Attribute]
  have e1 : attributeBase (.Name n np) attr env (eval (.Name n np) env) = eval (.Name n np) env := rfl
  rw [e1]
  refine wpS_bind (wpAny_mono h (fun o s₁ h₁ => wpS_bind (wpAny_standAt (wpS_bindS (wpS_holding (wpS_mono h₁ (fun r s₂ h₂ => ?_) fun _ _ y => y))))) fun _ _ y => y)
  have e2 : letTemporaryGo (.Name n np) o r = pure () := rfl
  rw [e2]
  exact wpS_bind (wpAny_pure (wpS_pure h₂))
theorem Assign_S {x : Str} {pos' pos : Pos} {value : Expr} {Q : Flow → Shared → Prop} (h : wpS M A (eval value env) (fun v s₁ => wpAny M A (storeName env x v) (fun _ => Q .next) E s₁) E s)
    (hs : swapsWith value (some (.Name x pos')) pos.line env = pure false := by rfl) : wpS M A (exec (.Assign [.Name x pos'] value pos) env) Q E s := by
  rw [exec_Assign_Name env x pos' value pos hs]
  refine wpS_bind (wpAny_standAt (wpS_bindS (wpS_mono h (fun v s₁ h₁ => wpS_bind (wpAny_standAt (wpS_bind (wpAny_bindName (wpAny_mono h₁ (fun _ _ q => wpS_pure q) fun _ _ x => x))))) fun _ _ x => x)))
theorem Try_S {body orelse : List Stmt} {h₀ : ExceptHandler} {hs : List ExceptHandler} {pos : Pos} {Q : Flow → Shared → Prop} (h : wpS M A (execs body env) (fun f s₁ => match f with | .next => wpS M A (execs orelse env) Q E s₁ | f => Q f s₁) (fun _ _ => False) s) :
    wpS M A (exec (.Try body (h₀ :: hs) orelse [] pos) env) Q E s := by
  rw [arm_exec_Try]
  refine wpS_bind (wpAny_standAt ?_)
  unfold tryStmt
  simp only [List.isEmpty_nil, if_true, List.isEmpty_cons, Bool.false_and, Bool.false_eq_true, if_false]
  refine wpS_bindS (wpS_attempt (wpS_mono h (fun f s₁ h₁ => ?_) fun e s₁ h₁ => h₁.elim))
  cases f <;> first | exact h₁ | exact wpS_pure h₁
end
end Mine
end

section
open PySem PySem.W PySem.Calls PyProof.Rows Builtin Builtin.ObjectAttr
set_option Elab.async false
set_option maxRecDepth 100000
set_option maxHeartbeats 8000000
namespace Mine
section
variable {M : Model} {A : Around} {E : Value → Shared → Prop} {s : Shared} {env : Env}
theorem callWith_bS0 {pos : Pos} {id : String} {first : List Value} {args : List (Bool × Sem Value)} {Q : Value → Shared → Prop} (hplain : args.any (·.1) = false)
    (h : wpS M A (evalArgs (.builtin id) true args []) (fun a s₁ => wpAny M A (call (.builtin id) (first ++ a.pos) a.kw) Q E s₁) E s) : wpS M A (callWith pos (.builtin id) first args []) Q E s := by
  unfold callWith
  refine wpS_bindS (wpS_holding (wpS_mono h (fun a s₁ h₁ => wpS_bind (wpAny_standAt ?_)) fun _ _ x => x))
  simp only [hplain, List.any_nil, Bool.or_false]
  refine wpS_bind (wpAny_pure ?_)
  exact wpS_bind (wpAny_mono h₁ (fun r s₂ hr => wpS_bind (wpAny_holding (wpAny_point (wpS_pure hr)))) fun _ _ x => x)
theorem callWith_bS {pos : Pos} {id : String} {first : List Value} {e : Expr} {rest : List Expr} {Q : Value → Shared → Prop}
    (h : wpS M A (spliced (backTo pos (starEach (e :: rest) env))) (fun vs s₁ => wpAny M A (call (.builtin id) (first ++ vs)) Q E s₁) E s)
    (he : starEach (e :: rest) env = (false, eval e env) :: starEach rest env := by rfl) (hplain : (backTo pos (starEach rest env)).any (·.1) = false := by rfl) :
    wpS M A (callWith pos (.builtin id) first (backTo pos (starEach (e :: rest) env)) []) Q E s := by
  rw [he] at h ⊢
  exact callWith_bS0 (by show (false || (backTo pos (starEach rest env)).any (·.1)) = false; rw [hplain]; rfl) (evalArgs_S h)
end
section
variable {prog : Program} {w : World} {A : Around} {E : Value → Shared → Prop} {s : Shared} {K : Frag} {R : Result → Shared → Prop}
theorem codeS_func {body : List Stmt} {env : Env} (h : wpS (model prog w) (A.deeper env) (execs body env) (fun f s' => R (.ok (.ret (match f with | .ret v => v | _ => .none))) s') (fun _ _ => False) s) :
    codeS (model prog w) A (.func body env) R s := by
  refine codeS_of_tree (fun a e => by cases e) ?_
  show wpS _ (A.deeper env) (do point; match ← (execs body env).onRaise (leaving env) with | .ret v => ret v | _ => ret .none) _ _ s
  refine wpS_bind (wpAny_point (wpS_bindS (wpS_onRaise (wpS_mono h (fun f s' h' => ?_) fun _ _ h' => h'.elim))))
  cases f <;> exact wpS_pure h'
theorem codeS_def {a : Addr} {o : Obj} {fd : FuncData} {body : List Stmt} {args : Args} {binds : List (Str × Value)}
    (hroom : A.depth < recursionLimit) (ho : s.heap.get? a = some o) (hdata : o.data = .func fd) (hlim : s.heap.NoLimit) (hcd : s.heap.CodeRec fd.code fd.qualname)
    (hbody : fd.body = .stmts body) (hbind : BindsTo s fd args binds) (hcell : ∀ x ∈ fd.scope.names, x.2 ≠ .cell) (hloc : ∀ x ∈ binds, fd.scope.names.lookup x.1 = some .local)
    (h : ∀ h₀, h₀.Ns s.heap.objs.size (fun x => binds.reverse.lookup x) → (∀ b o, s.heap.get? b = some o → h₀.get? b = some o) →
      wpS (model prog w) (A.deeper (callEnv fd s.heap.objs.size a)) (execs body (callEnv fd s.heap.objs.size a)) (fun f s' => R (.ok (.ret (match f with | .ret v => v | _ => .none))) s') (fun _ _ => False)
        { s with heap := h₀, toks := s.toks + binds.length })
    (hco : fd.scope.isCoroutine = false := by rfl) (hgen : fd.scope.isGenerator = false := by rfl) (hk : fd.scope.kind = .function := by rfl) :
    codeS (model prog w) A (.call (.ref a) args) R s := by
  refine codeS_of_tree (fun a e => by cases e) ?_
  show wpS _ A.in1 (callAny (.ref a) args) _ _ s
  simp only [callAny]
  refine wpS_bind (wpAny_load ho ?_)
  obtain ⟨c, oc, vs, tq, hc, hoc, hdc, hq⟩ := hcd
  simp only [hdata, callFunction, hco, hgen, hbody, hc]
  refine wpS_bind (m := field (.ref c) 1) (wpAny_field hoc hdc hq (wpS_bind (wpAny_pure ?_)))
  rw [← hc]
  refine wpS_bind (hbind _ _ _ _ (wpS_bind (wpAny_newFunctionEnv hcell hloc (fun h₀ hns₀ hsb₀ => wpS_bind (wpAny_enterFrame (hlim.fresh _ hsb₀) hroom (wpS_pure ⟨rfl, codeS_func (h h₀ hns₀ fun b o e => ?_)⟩))) hk)))
  exact hsb₀.extBut b o (Nat.ne_of_lt (Heap.lt_size e)) (Heap.get?_push_of_some _ e)
end
end Mine
end

section
open PySem PySem.W PySem.Calls PyProof.Rows
set_option Elab.async false
set_option maxRecDepth 100000
set_option maxHeartbeats 8000000
namespace Mine
section
variable {M : Model} {A : Around} {E : Value → Shared → Prop} {s : Shared} {env : Env}
theorem codeS_loop {c : Code} {R : Result → Shared → Prop} (hcalm : calm c) (hq : c.quiet = true) (I : Nat → Shared → Prop)
    (turn : ∀ n s, I n s → wpS M (A.under c) (M.den c) (fun fin s' => match fin with | .done f => R (.ok f) s' | .again c' => c' = c ∧ ∃ m, m < n ∧ I m s') (fun e s' => R (.error e) s') s)
    (n : Nat) (h : I n s) : codeS M A c R s := by
  induction n using Nat.strongRecOn generalizing s with
  | ind n ih =>
    refine codeS_of_tree hcalm (wpS_mono (turn n s h) (fun fin s' hf => ?_) fun _ _ h' => h')
    cases fin with
    | done f => exact hf
    | again c' => obtain ⟨rfl, m, hm, hI⟩ := hf; exact ⟨hq, ih m hm hI⟩

def compEnd (Q : Value → Shared → Prop) (acc : Value) (C : Addr) (r : Result) (s' : Shared) : Prop :=
  match r with
  | .ok _ => ∃ m, s'.heap.Ns C m ∧ ∀ h', Heap.SameBut C s'.heap h' → Q acc { s' with heap := h' }
  | .error _ => False

theorem comprehension_S {e : Expr} {scope : Scope} {pos : Pos} {newAcc first : Sem Value} {g : Comprehension} {gs : List Comprehension} {cl : List (Str × Addr)} {Q : Value → Shared → Prop}
    (hcl : clausesOf e = g :: gs) (hs : ∀ x, foldedSetIterable g.iter env x = pure x) (hclos : closureFor scope env = pure cl)
    (hkind : scope.kind = .function) (hnames : ∀ x ∈ scope.names, x.2 = .local → scope.names.lookup x.1 = some .local)
    (h : wpAny M A first (fun x s₁ => wpAny M A (pyIter x) (fun it s₂ => wpAny M A newAcc (fun acc s₃ =>
      wpAny M A (newFunctionEnv scope env.globals cl [] env.qual none .none (some env)) (fun cenv s₄ =>
        codeS M A (.compStart e 0 it acc { cenv with scope := relabel scope env }) (compEnd Q acc cenv.locals) s₄) E s₃) E s₂) E s₁) E s) :
    wpS M A (comprehension e scope env pos newAcc false first none) Q E s := by
  unfold comprehension
  rw [hclos, hcl]
  refine wpS_bind (wpAny_mono h (fun x s₁ h₁ => wpS_bind (wpAny_standAt (wpS_bind (wpAny_of_eq (hs x) (wpS_bind (wpAny_holding (wpAny_mono h₁ (fun it s₂ h₂ =>
    ?_) fun _ _ h' => h'))))))) fun _ _ h' => h')
  refine wpS_bind (wpAny_mono h₂ (fun acc s₃ h₃ => wpS_bind (wpAny_pure (wpS_bind (wpAny_mono h₃ (fun cenv s₄ h₄ => ?_) fun _ _ h' => h')))) fun _ _ h' => h')
  dsimp only
  have hv : ∀ x ∈ (scope.names.filter fun x => (x.2 == .local || x.2 == .cell) && x.1 != (".0" : Str)).reverse, x.2 = .local →
      Env.kindOf { cenv with scope := relabel scope env } x.1 = some .local := fun x hx hl => lookup_relabel_local (hnames x (List.mem_filter.mp (List.mem_reverse.mp hx)).1 hl)
  refine wpS_holding (wpS_bindS (wpS_attempt (wpS_holding (wpS_run (codeS_mono h₄ fun r s' hr => ?_)))))
  cases r with
  | ok f =>
    obtain ⟨m, hn, hr⟩ := hr
    exact wpS_bind (wpAny_holding (wpAny_comp_letGo (cenv := { cenv with scope := relabel scope env }) hkind _ s' m hv hn fun h' m' _ hs' => wpS_pure (hr h' hs')))
  | error x => exact hr.elim
end
section
variable {prog : Program} {w : World} {A : Around} {E : Value → Shared → Prop} {s : Shared} {R : Result → Shared → Prop}
theorem raise_S {α : Type} {m : Sem α} {k : Value → Sem Unit} {M : Model} {Q : α → Shared → Prop} (h : wpS M A m Q (fun _ _ => False) s) : wpS M A (m.onRaise k) Q E s :=
  wpS_onRaise (wpS_mono h (fun _ _ q => q) fun _ _ f => f.elim)
theorem compStart_S {elt target iter : Expr} {ifs : List Expr} {scope : Scope} {pos : Pos} {it acc : Value} {env : Env}
    (h0 : codeS (model prog w) A (.compLoop (.ListComp elt [⟨target, iter, ifs, 0⟩] scope pos) 0 it acc env) R s)
    (h : wpAny (model prog w) A (pyIter it) (fun it' s' => codeS (model prog w) A (.compLoop (.ListComp elt [⟨target, iter, ifs, 0⟩] scope pos) 0 it' acc env) R s') (fun _ _ => False) s) :
    codeS (model prog w) A (.compStart (.ListComp elt [⟨target, iter, ifs, 0⟩] scope pos) 0 it acc env) R s := by
  refine codeS_of_tree (fun a e => by cases e) ?_
  show wpS _ A ((compStart (.ListComp elt [⟨target, iter, ifs, 0⟩] scope pos) 0 it acc env).onRaise (fun x => do noteFrame x env; standAt theWindowsPlace)) _ _ s
  refine raise_S ?_
  unfold compStart
  show wpS _ _ (ask >>= _) _ _ s
  refine wpS_bind (wpAny_askSetting (wpS_ite ?_ ?_))
  · first
      | exact wpS_bind (wpAny_pure (wpS_pure (And.intro rfl h0)))
      | exact wpS_pure (And.intro rfl h0)
  · first
      | exact wpS_bind (wpAny_rule (wpS_bind (wpAny_standAt (wpS_bind (wpAny_mono h (fun it' s' h' => wpS_pure (And.intro rfl h')) fun _ _ x => x)))))
      | (refine wpS_bind (wpAny_rule ?_); show wpS _ _ (standAt iter.pos >>= _) _ _ s; exact wpS_bind (wpAny_standAt (wpS_bind (wpAny_mono h (fun it' s' h' => wpS_pure (And.intro rfl h')) fun _ _ x => x))))

theorem loopFalse_S {elt iter test : Expr} {x : Str} {q : Pos} {scope : Scope} {pos : Pos} {it acc : Value} {cenv : Env} (I : Nat → Shared → Prop)
    (turn : ∀ n s, I n s → wpAny (model prog w) A (pyNext it) (fun r s₁ => match r with
      | none => R (.ok .next) s₁
      | some v => wpAny (model prog w) A (assign (.Name x q) cenv v) (fun _ s₃ => wpS (model prog w) A (isTrue test cenv (eval test cenv)) (fun ok s₄ => ok = false ∧ ∃ m, m < n ∧ I m s₄) (fun _ _ => False) s₃) (fun _ _ => False) s₁) (fun _ _ => False) s)
    (n : Nat) (h : I n s) : codeS (model prog w) A (.compLoop (.ListComp elt [⟨.Name x q, iter, [test], 0⟩] scope pos) 0 it acc cenv) R s := by
  refine codeS_loop (fun a e => by cases e) rfl I (fun n s hI => ?_) n h
  show wpS _ A ((compTurn (.ListComp elt [⟨.Name x q, iter, [test], 0⟩] scope pos) 0 it acc cenv).onRaise (fun x => do noteFrame x cenv; theTreesLotGoes x)) _ _ s
  refine raise_S ?_
  rw [compTurn_list]
  refine wpS_bind (wpAny_standAt (wpS_bind (wpAny_mono (turn n s hI) (fun r s₁ h₁ => ?_) fun _ _ h' => h')))
  cases r with
  | none => exact wpS_pure h₁
  | some v =>
    refine wpS_bind (m := letOwnedTupleGo (.Name x q) it v) (wpAny_pure ?_)
    refine wpS_bind (wpAny_mono h₁ (fun _ s₃ h₃ => ?_) fun _ _ e => e)
    have tst : wpS (model prog w) A (testsOf [test] cenv) (fun ok s₄ => ok = false ∧ ∃ m, m < n ∧ I m s₄) (fun _ _ => False) s₃ := by
      unfold testsOf
      rw [List.forIn_cons, if_pos rfl]
      refine wpS_bindS (wpS_bindS (wpS_mono h₃ (fun ok s₄ h₄ => ?_) fun _ _ e => e))
      refine wpS_pure ?_
      dsimp only
      rw [List.forIn_nil]
      exact wpS_pure h₄
    refine wpS_bindS (wpS_mono tst (fun ok s₄ h₄ => ?_) fun _ _ e => e)
    obtain ⟨rfl, h₄⟩ := h₄
    exact wpS_pure ⟨rfl, h₄⟩
end
end Mine
end

section
open PySem PySem.W PySem.Calls PyProof.Rows Builtin Builtin.ObjectAttr
set_option Elab.async false
set_option maxRecDepth 100000
set_option maxHeartbeats 8000000
namespace Mine
section
variable {prog : Program} {w : World} {A : Around} {E : Value → Shared → Prop} {s : Shared} {K : Frag} {x C f : Addr} {ox : Obj} {od : Option Obj} {name : Str} {Q : Value → Shared → Prop}
theorem specialFn_S {M : Model} {args : List Value} {Q : Option Value → Shared → Prop} (X : K.In s.heap) (I : InstAt s.heap x ox C od)
    (hs : findIn K (.ref C) name = some (some (.ref f))) (hf : typeIn K (.ref f) = some (.type "function")) (h : wpS M A (call (.ref f) (.ref x :: args)) (fun v => Q (some v)) E s) :
    wpS M A (callSpecial? (.ref x) name args) Q E s := by
  unfold callSpecial?
  refine wpS_bind (wpAny_bind (I.type.here ((looks_findIn X hs).here ?_)))
  refine wpS_holding (wpS_bind ((bind_fn X _ hf).here ?_))
  exact wpS_bindS (wpS_mono h (fun _ _ z => wpS_pure z) fun _ _ z => z)

theorem sub_KS {value slice : Expr} {i : Value} (X : K.In s.heap) (I : InstAt s.heap x ox C od) (hs : findIn K (.ref C) "__getitem__" = some (some (.ref f))) (hf : fnIn K f = true) (hfn : isFn K (.ref f) = true)
    (h : wpS (model prog w) A.in1 (call (.ref f) [.ref x, i]) Q E s)
    (hsl : subscripted slice true (.ref x) i = runValue (.builtin "lifetime.subscript" ⟨[.ref x, i], []⟩) := by with_unfolding_all rfl) :
    wpS (model prog w) A (subscriptTail value slice (.ref x) i) Q E s := by
  unfold fnIn at hf
  split at hf
  · rename_i e
    unfold subscriptTail getitemInPython
    refine wpS_bind (wpAny_bind (wpAny_bind (I.type.here ((looks_findIn X hs).here ?_))))
    dsimp only
    refine wpAny_bind (wpAny_load (X _ _ e) (wpAny_pure ?_))
    dsimp only
    rw [hsl]
    refine wpS_bindS (wpS_runValue (codeS_builtin (by decide) entry_sub ?_))
    unfold Builtin.«lifetime.subscript»
    refine wpS_bindS (specialFn_S X I hs (beq_iff_eq.mp hfn) (wpS_mono h (fun v s' z => ?_) fun _ _ z => z))
    refine wpS_pure ?_
    show wpS (model prog w) A (letTemporaryGo value (.ref x) v >>= fun _ => pure v) Q E s'
    exact wpS_bind (wpAny_letTemporaryGo (wpS_pure z))
  · cases hf

theorem getBind_S {g a : Value} {expr : Bool} (X : K.In s.heap) (I : InstAt s.heap x ox C od) (hga : findIn K (.ref C) "__getattribute__" = some (some (.builtin "object.__getattribute__")))
    (hf : findObj K C od name = some (.bind g a)) (hk : findIn K (.ref C) "__getattr__" = some none)
    (h : wpS (model prog w) A.in1 (call g [a, .ref x, .ref C]) (fun v s' => wpAny (model prog w) A (handedOut v) Q E s') (fun _ _ => False) { s with toks := s.toks + 1 }) :
    wpS (model prog w) A (getAttr (.ref x) name expr) Q E s := by
  have X' := X
  obtain ⟨hh', gg, d, t, os⟩ := s
  have L0 := I.type (M := model prog w)
  have L1 := looks_find (M := model prog w) X I hf
  have L2 := looks_findIn (M := model prog w) X hk
  have L3 := looks_findIn (M := model prog w) X hga
  unfold getAttr getAttrBy
  refine wpS_bind (wpAny_mkText (wpS_holding (wpS_bind (L0.at (wpS_bind (L3.at ?_))))))
  show wpS _ _ (getAttrEveryday _ _ _) _ _ _
  refine wpS_bindS (wpS_onRaise (wpS_runValue (codeS_builtin (by decide) F.plainObj_entry_getattr_hooked ?_)))
  show wpS (model prog w) A.in1 (Builtin.«proto.getattr_hooked» ⟨[.ref x, .str name t], []⟩) _ _ _
  refine wpS_bind (wpAny_pure (wpS_bind (L0.at (wpS_bind (L1.at (wpS_bind (L2.at ?_)))))))
  show wpS _ _ (holding [a] (call g [a, .ref x, .ref C]) >>= ret) _ _ _
  exact wpS_bindS (wpS_holding (wpS_mono h (fun v s' z => wpS_pure (wpS.of z)) fun _ _ z => z.elim))
end

section
variable {prog : Program} {w : World} {A : Around} {s : Shared} {K : Frag} {R : Result → Shared → Prop}
theorem enterBS {g : Heap} {name qual : Str} {params : Arguments} {body : List Stmt} {scope : Scope} {dV kV doc pm cdv ct oc : Value} {an od : Option Addr} {osl : Array (Option Value)} {f : Addr} {args : Args} {binds : List (Str × Value)}
    (S : Sub g s.heap) (X : K.In g) (hlim : g.NoLimit)
    (ho : K.lookup f = some ⟨oc, od, .func (fnOf name qual params body scope dV kV doc pm an cdv ct), osl⟩) (hcd : codeIn K cdv qual = true) (hroom : A.depth < recursionLimit)
    (hbind : BindsTo s (fnOf name qual params body scope dV kV doc pm an cdv ct) args binds) (hloc : ∀ y ∈ binds, scope.names.lookup y.1 = some .local)
    (h : ∀ L h₁ tk, L = s.heap.objs.size → Fr g L h₁ (fun y => binds.reverse.lookup y) → Sub s.heap h₁ →
      wpS (model prog w) (A.deeper (envOf qual scope L f cdv)) (execs body (envOf qual scope L f cdv))
        (fun fl s' => R (.ok (.ret (match fl with | .ret v => v | _ => .none))) s') (fun _ _ => False)
        { s with heap := h₁, toks := tk })
    (hcell : ∀ x ∈ scope.names, x.2 ≠ .cell) (hco : scope.isCoroutine = false) (hgen : scope.isGenerator = false) (hk : scope.kind = .function) : codeS (model prog w) A (.call (.ref f) args) R s :=
  codeS_def hroom (S.keep _ _ (X _ _ ho)) rfl (hlim.keeps S.keep) (codeRec_of (X.keeps S.keep) hcd) rfl hbind hcell hloc
    (fun h₀ hns hk' => h s.heap.objs.size h₀ _ rfl ⟨hns, fun b o e => hk' b o (S.keep b o e), S.size⟩ ⟨hk', Nat.le_of_lt hns.lt⟩) hco hgen hk
end
end Mine
end

section
open PySem PySem.W PySem.Calls PyProof.Rows Builtin Builtin.ObjectAttr
set_option Elab.async false
set_option maxRecDepth 100000
set_option maxHeartbeats 8000000
namespace Mine
theorem fillK_SAdj : PySem.Challenge.rw_au6018_01 = PySem.Challenge.rw_au6018_01 → hd.heap_39 = hd.heap_39 → True := by
  k_fill
  intro _ _; trivial
theorem kc1 {w : World} : (hd.heap_39 w.params).lookup 390 = some { cls := .ref 319, dict := some 389 } := by kernel_rfl
theorem kc2 {w : World} : ∃ o, (hd.heap_39 w.params).lookup 389 = some o := Option.isSome_iff_exists.mp (by kernel_rfl)
theorem kc2a {w : World} : nsIn (hd.heap_39 w.params) 389 (Str.ofString "attrname") = some (some (.str (Str.ofString "adj") 690)) := by kernel_rfl
theorem kc2b {w : World} : nsIn (hd.heap_39 w.params) 389 (Str.ofString "func") = some (some (.ref 388)) := by kernel_rfl
theorem kc3 {w : World} : hasDictIn (hd.heap_39 w.params) 319 = true := by k_is
theorem kc4 {w : World} : plainGet (hd.heap_39 w.params) 319 (Str.ofString "attrname") = true := by k_is
theorem kc5 {w : World} : findIn (hd.heap_39 w.params) (.ref 319) (Str.ofString "attrname") = some none := by k_is
theorem kc6 {w : World} : findIn (hd.heap_39 w.params) (.ref 319) (Str.ofString "func") = some none := by k_is
theorem kc7 {w : World} : plainGet (hd.heap_39 w.params) 624 (Str.ofString "__dict__") = true := by k_is
theorem kc8 {w : World} : findIn (hd.heap_39 w.params) (.ref 624) (Str.ofString "__dict__") = some (some (.ref 625)) := by k_is
theorem kc9 {w : World} : specialIn (hd.heap_39 w.params) (.ref 625) (Str.ofString "__get__") = some (some (.builtin "getset_descriptor.__get__")) := by k_is
theorem kc10 {w : World} : takesIn (hd.heap_39 w.params) (.ref 625) = some true := by k_is
theorem kc11 {w : World} : (clsIn (hd.heap_39 w.params) 624).isSome = true := by
  obtain ⟨cd, h1, _⟩ := kd6 (w := w)
  rw [h1]; rfl

section
variable {prog : Program} {w : World} {A : Around} {E : Value → Shared → Prop} {s : Shared} {K : Frag} {x C : Addr} {ox : Obj} {od : Option Obj} {name : Str}
theorem method_usual {pl : Sem Bool} {Q : Value × List Value → Shared → Prop} (X : K.In s.heap) (I : InstAt s.heap x ox C od) (hga : findIn K (.ref C) "__getattribute__" = some (some (.builtin "object.__getattribute__")))
    (hk : findIn K (.ref C) "__getattr__" = some none) (hn : findIn K (.ref C) name = some none) (h : wpAny (model prog w) A (getAttr (.ref x) name) (fun v => Q (v, [])) E s) : wpAny (model prog w) A (getMethod (.ref x) name pl) Q E s := by
  unfold getMethod
  refine wpAny_bind (wpAny_bind (I.type.here ((looks_findIn X hga).here ?_)))
  dsimp only
  rw [if_neg (by decide +kernel)]
  refine wpAny_bind (wpAny_bind (I.type.here ((looks_findIn X hk).here ?_)))
  rw [if_neg (by decide)]
  refine wpAny_bind (wpAny_bind (I.type.here ((looks_findIn X hn).here ?_)))
  dsimp only
  exact wpAny_bind (wpAny_mono h (fun v s' q => wpAny_pure q) fun _ _ e => e)
end

section
variable {w : World} {A : Around} {E : Value → Shared → Prop} {s : Shared} {d : Addr} {o : Obj} {es : Array DictEntry} {ep : Nat} {k : Str} {key : Value}
theorem dict_getX {dv : Value} {Q : Value → Shared → Prop} (hd : (d == sysModules) = false) (hkey : (strKind PG w).is k key = true) (ho : s.heap.get? d = some o) (hc : o.cls = .type "dict") (hdt : o.data = .dict es ep) (hk : KeysOf (strKind PG w) es)
    (hf : es.findIdx? (fun e => (strKind PG w).is k e.key) = none) (h : Q dv { s with toks := s.toks + 1 }) : wpAny (model PG w) A (call (.builtin "dict.get") [.ref d, key, dv]) Q E s := by
  have meets : MeetsIn PG w (Builtin.«dict.get» ⟨[.ref d, key, dv], []⟩) (fun A R s => (s.heap.get? d = some o) ∧ R (.ok (.ret dv)) { s with toks := s.toks + 1 }) :=
    .of_wp fun A R s ⟨ho, h⟩ => by
      show wpAny _ _ (dictGet d key >>= _) _ _ s
      refine wpAny_bind ?_
      unfold dictGet
      try with_reducible refine wpAny_holding ?_
      refine wpAny_bind ((strKind PG w).pyHash hkey (wpAny_bind (wpAny_dictFind_of (s := { s with toks := s.toks + 1 }) hkey ho hdt hk ?_)))
      rw [hf]
      refine wpAny_pure ?_
      show wpAny _ _ (Builtin.Dict.missed d key >>= _) _ _ _
      exact wpAny_bind (wpAny_missed_other hd (wpAny_pure ⟨dv, rfl, h⟩))
  exact call_meetsIn PySem.F.slot_dict_get ⟨o, ho, hc⟩ PySem.F.entry_dict_get (PySem.F.args_dict_get_3 _ _ _) meets ⟨ho, h⟩
theorem setItemX {v : Value} {Q : Unit → Shared → Prop} (hkey : (strKind PG w).is k key = true) (ho : s.heap.get? d = some o) (hc : o.cls = .type "dict") (hdt : o.data = .dict es ep) (hk : KeysOf (strKind PG w) es)
    (hf : es.findIdx? (fun e => (strKind PG w).is k e.key) = none) (hz : es.size ≤ 1000)
    (h : ∀ h', h'.get? d = some (Obj.mapDictKeys (·.push ⟨(strKind PG w).hash k, key, v⟩) o) → Heap.SameBut d s.heap h' → Q () { s with heap := h', toks := s.toks + 1 }) : wpAny (model PG w) A (setItem (.ref d) key v) Q E s := by
  have hT : s.TypeIs (.ref d) "dict" := ⟨o, ho, hc⟩
  unfold setItem
  try with_reducible refine wpAny_holding ?_
  refine wpAny_bind (wpAny_sequenceKey hT (by decide) ?_)
  refine wpAny_bind (wpAny_callSpecial?_slot (name := Str.ofString "__setitem__") hT slot_dict_setitem
    (wpAny_call_entry slot_dict_setitem hT entry_dict_setitem ?_ (args_dict_setitem _ _ _)))
  show wpAny _ _ (Builtin.Dict.notOrdered "__setitem__" ⟨[.ref d, key, v], []⟩ >>= _) _ _ s
  refine wpAny_bind (wpAny_notOrdered_dict hT ?_)
  show wpAny _ _ (dictSet d key v >>= _) _ _ s
  refine wpAny_bind ?_
  unfold dictSet
  try with_reducible refine wpAny_holding ?_
  refine wpAny_bind ((strKind PG w).pyHash hkey ?_)
  unfold dictSetHashed
  try with_reducible refine wpAny_holding ?_
  refine wpAny_bind (wpAny_dictFind_of (s := { s with toks := s.toks + 1 }) hkey ho hdt hk ?_)
  rw [hf]
  refine wpAny_bind (wpAny_rule (wpAny_updateDictKeys (hz := by rw [sizeLine_eq]; omega) (s := { s with toks := s.toks + 1 }) ho hdt ?_))
  refine wpAny_pure ⟨.none, rfl, wpAny_pure (h _ (Heap.get?_update_self _ ho (Obj.isFreed_of_dict (Obj.data_mapDictKeys hdt _))) (Heap.SameBut.update ..))⟩
end
end Mine
end

section
open PySem PySem.W PySem.Calls PyProof.Rows Builtin Builtin.ObjectAttr
set_option Elab.async false
set_option maxRecDepth 100000
set_option maxHeartbeats 8000000
namespace Mine
theorem fillK_SGt : PySem.Challenge.rw_au6018_01 = PySem.Challenge.rw_au6018_01 → hd.heap_39 = hd.heap_39 → True := by
  k_fill
  intro _ _; trivial
theorem adjfn_spec {w : World} {A : Around} {s : Shared} {R : Result → Shared → Prop} {g : Heap} (hA : AOk A 1) (S : Sub g s.heap) (KX : (hd.heap_39 w.params).In g) (hlim : g.NoLimit)
    {a : GA} {od : Obj} (hx : s.heap.get? a.x = some (instObj 624 a.dx)) (hdx : s.heap.get? a.dx = some od) (hl : lookIn (Str.ofString "_adj") od = some (some (.ref a.da)))
    (hR : ∀ h' tk, Sub s.heap h' → R (.ok (.ret (.ref a.da))) { s with heap := h', toks := tk }) :
    codeAny (model PG w) A (.call (.ref 388) ⟨[.ref a.x], []⟩) R s := by
  refine' enterB (binds := [(Str.ofString "self", .ref a.x)]) S KX hlim ?k1 ?k2 ?k3 ?k4 ?k5 ?h ?k6 ?k7 ?k8 ?k9
  case k1 => k_is
  case k2 => k_is
  case k3 => exact hA.room
  case k4 => exact BindsTo.of_eq (by rfl)
  case k5 => exact locs (by rfl)
  case k6 => decide
  case k7 => rfl
  case k8 => rfl
  case k9 => rfl
  intro L h₁ tk hL F hsub
  have I : InstAt h₁ a.x (instObj 624 a.dx) 624 (some od) := ⟨hsub.keep _ _ hx, rfl, rfl, hsub.keep _ _ hdx⟩
  refine wpAny_execs_cons (wpAny_Return_some (Attribute_name (ld F (by rfl) ?_)))
  refine get_value (kin_keeps KX F.keep) I (plainGet_of kf_adj).1 (findObj_own kf_has kn_adj rfl hl) rfl ?_
  exact hR _ _ hsub

theorem keys2x_ {w : World} {a : GA} : KeysOf (strKind PG w) (gEs w a).toArray := by
  intro e he
  simp only [gEs, List.mem_toArray, List.mem_cons, List.not_mem_nil, or_false] at he
  rcases he with rfl | rfl | rfl
  · exact ⟨Str.ofString "graph", rfl, rfl⟩
  · exact ⟨Str.ofString "_node", rfl, rfl⟩
  · exact ⟨Str.ofString "_adj", rfl, rfl⟩
theorem noadj {w : World} {a : GA} : (gEs w a).toArray.findIdx? (fun e => (PySem.strKind PG w).is (Str.ofString "adj") e.key) = none := by
  rw [List.findIdx?_toArray, List.findIdx?_eq_none_iff]
  intro e he
  simp only [gEs, List.mem_cons, List.not_mem_nil, or_false] at he
  rcases he with rfl | rfl | rfl
  · show (Str.ofString "graph" == Str.ofString "adj") = false; decide
  · show (Str.ofString "_node" == Str.ofString "adj") = false; decide
  · show (Str.ofString "_adj" == Str.ofString "adj") = false; decide
def od2 (w : World) (a : GA) : Obj := { cls := .type "dict", data := .dict (gEs w a).toArray 3, slots := #[none] }
theorem get_spec {w : World} {A : Around} {s : Shared} {R : Result → Shared → Prop} {g : Heap} {mg mb} (hA : AOk A 3) (S : Sub g s.heap) (KX : (hd.heap_39 w.params).In g) (T : TopRead hd.view_39 LOOSE mg mb g)
    {a : GA} (hx : s.heap.get? a.x = some (instObj 624 a.dx)) (hdx : s.heap.get? a.dx = some (dictOf (gEs w a) 3)) (fdx : g.get? a.dx = none) (hsys : (a.dx == sysModules) = false) (hxd : a.x ≠ a.dx)
    (hR : ∀ h' tk od, (∀ b o, b ≠ a.dx → s.heap.get? b = some o → h'.get? b = some o) → @LE.le Nat _ s.heap.objs.size h'.objs.size → h'.get? a.dx = some od → lookIn (Str.ofString "adj") od = some (some (.ref a.da)) → R (.ok (.ret (.ref a.da))) { s with heap := h', toks := tk }) :
    codeS (model PG w) A (.call (.ref 309) ⟨[.ref 390, .ref a.x, .ref 624], []⟩) R s := by
  refine' enterBS (binds := [(Str.ofString "self", .ref 390), (Str.ofString "instance", .ref a.x), (Str.ofString "owner", .ref 624)]) S KX T.nolimit ?k1 ?k2 ?k3 ?k4 ?k5 ?h ?k6 ?k7 ?k8 ?k9
  case k1 => k_is
  case k2 => k_is
  case k3 => exact hA.room
  case k4 => exact binds_K (kin_keeps KX S.keep) rfl (by k_is) rfl (by rfl) (by rfl)
  case k5 => exact locs (by rfl)
  case k6 => decide
  case k7 => rfl
  case k8 => rfl
  case k9 => rfl
  intro L h₁ tk hL F hsub
  generalize hm : (fun y => List.lookup y [(Str.ofString "self", Value.ref 390), (Str.ofString "instance", Value.ref a.x), (Str.ofString "owner", Value.ref 624)].reverse) = m₀ at F
  have m1 : m₀ (Str.ofString "self") = some (.ref 390) := by rw [← hm]; rfl
  have m2 : m₀ (Str.ofString "instance") = some (.ref a.x) := by rw [← hm]; rfl
  clear hm
  have hxl : @LT.lt Nat _ a.x s.heap.objs.size := Heap.lt_size hx
  have hdl : @LT.lt Nat _ a.dx s.heap.objs.size := Heap.lt_size hdx
  have n1 : @Ne Nat a.x L := by omega
  have n2 : @Ne Nat a.dx L := by omega
  obtain ⟨o9, hk9⟩ := kc2 (w := w)
  have la : lookIn (Str.ofString "attrname") o9 = some (some (.str (Str.ofString "adj") 690)) := by have := kc2a (w := w); unfold nsIn at this; rw [hk9] at this; exact this
  have lf : lookIn (Str.ofString "func") o9 = some (some (.ref 388)) := by have := kc2b (w := w); unfold nsIn at this; rw [hk9] at this; exact this
  have KI : ∀ {h : Heap}, (hd.heap_39 w.params).In h → InstAt h 390 { cls := .ref 319, dict := some 389 } 319 (some o9) := fun X => ⟨X _ _ kc1, rfl, rfl, X _ _ hk9⟩
  have X₁ := kin_keeps KX F.keep
  refine execs_A (wpAny_If (wpAny_isTrue_Compare1 (ld F m2 ?_)))
  refine wpAny_Constant_none ?_
  refine is_ref_none (wpAny_truthy_bool ?_)
  rw [if_neg Bool.false_ne_true]
  refine wpAny_execs_nil ?_
  dsimp only
  refine execs_A (wpAny_If (wpAny_isTrue_Compare1 (Attribute_name (ld F m1 ?_))))
  refine get_value X₁ (KI X₁) (plainGet_of kc4).1 (findObj_own kc3 kc5 rfl la) rfl ?_
  refine wpAny_Constant_none ?_
  refine is_str_none (wpAny_truthy_bool ?_)
  rw [if_neg Bool.false_ne_true]
  refine wpAny_execs_nil ?_
  dsimp only
  refine execs_S (Try_S (execs_S (Assign_S (Attribute_S (ld F m2 ?_)))))
  have I1 : InstAt h₁ a.x (instObj 624 a.dx) 624 (some (dictOf (gEs w a) 3)) := ⟨hsub.keep _ _ hx, rfl, rfl, hsub.keep _ _ hdx⟩
  refine getBind_S X₁ I1 (plainGet_of kc7).1 (findObj_data kc11 kc8 kc9 kc10) (plainGet_of kc7).2 (wpS_call ?_)
  refine dict_get_S X₁ (hsub.keep _ _ hx) (hsub.keep _ _ hdx) ?_
  dsimp only
  rw [handedOut_of rfl]
  refine wpAny_pure ?_
  generalize hH2 : Heap.update h₁ a.dx _ = h2
  have sb2 : Heap.SameBut a.dx h₁ h2 := hH2 ▸ Heap.SameBut.update ..
  have e2 : h2.get? a.dx = some (od2 w a) := by rw [← hH2]; exact Heap.get?_update_self _ (hsub.keep _ _ hdx) (by rfl)
  have mv2 : Mv [a.dx] h₁ h2 := Mv.same sb2 (by simp)
  have F2 : Fr g L h2 m₀ := Fr.mv F mv2 (by simpa using Ne.symm n2) (fun b hb => by rw [List.mem_singleton.mp hb]; exact fdx)
  refine stL (s := { s with heap := h2, toks := _ }) F2 (fun h3 F3 mv3 => ?_) rfl (by rfl)
  dsimp only
  refine .of (wpAny_execs_nil ?_)
  dsimp only
  refine .of (wpAny_execs_nil ?_)
  dsimp only
  have e3 : h3.get? a.dx = some (od2 w a) := mv3 _ _ (by simpa using n2) e2
  have x3 : h3.get? a.x = some (instObj 624 a.dx) := mv3 _ _ (by simpa using n1) (mv2 _ _ (by simpa using hxd) (hsub.keep _ _ hx))
  have X₃ := kin_keeps KX F3.keep
  generalize hm3 : (fun y => if y = Str.ofString "cache" then some (Value.ref a.dx) else m₀ y) = m3 at F3
  have m31 : m3 (Str.ofString "self") = some (.ref 390) := by rw [← hm3]; exact m1
  have m32 : m3 (Str.ofString "instance") = some (.ref a.x) := by rw [← hm3]; exact m2
  have m33 : m3 (Str.ofString "cache") = some (.ref a.dx) := by rw [← hm3]; rfl
  clear hm3
  refine .of ?_
  refine wpAny_execs_cons (wpAny_Assign_Name (MethodCall_ (ld F3 m33 ?_)))
  refine getMethod_builtin ⟨_, e3, rfl⟩ PySem.F.plainAttrs_dict PySem.F.slot_dict_get rfl (fun b q => by cases q; exact ⟨_, e3, rfl⟩) ?_
  refine callWith_method1 ?_
  refine args_cons (Attribute_name (ld F3 m31 ?_))
  refine get_value X₃ (KI X₃) (plainGet_of kc4).1 (findObj_own kc3 kc5 rfl la) rfl ?_
  refine args_cons ?_
  refine name_K F3 KX T (by k_is) ?_
  refine args_nil ?_
  refine dict_getX (k := Str.ofString "adj") (o := od2 w a) hsys rfl e3 rfl rfl keys2x_ noadj ?_
  refine stL (s := { s with heap := h3, toks := _ }) F3 (fun h4 F4 mv4 => ?_) rfl (by rfl)
  dsimp only
  have e4 : h4.get? a.dx = some (od2 w a) := mv4 _ _ (by simpa using n2) e3
  have x4 : h4.get? a.x = some (instObj 624 a.dx) := mv4 _ _ (by simpa using n1) x3
  have X₄ := kin_keeps KX F4.keep
  generalize hm4 : (fun y => if y = Str.ofString "val" then some (Value.ref _) else m3 y) = m4 at F4
  have m41 : m4 (Str.ofString "self") = some (.ref 390) := by rw [← hm4]; exact m31
  have m42 : m4 (Str.ofString "instance") = some (.ref a.x) := by rw [← hm4]; exact m32
  have m43 : m4 (Str.ofString "cache") = some (.ref a.dx) := by rw [← hm4]; exact m33
  have m44 : ∃ nf, m4 (Str.ofString "val") = some (.ref nf) ∧ nf = _ := ⟨_, by rw [← hm4]; rfl, rfl⟩
  clear hm4
  obtain ⟨nf, m44, hnf⟩ := m44
  refine wpAny_execs_cons (wpAny_If (wpAny_isTrue_Compare1 (ld F4 m44 ?_)))
  refine name_K F4 KX T (by k_is) ?_
  rw [hnf]
  refine wpAny_is_ref_self (wpAny_truthy_bool ?_)
  rw [if_pos rfl]
  refine wpAny_execs_cons (wpAny_Assign_Name (MethodCall_ (ld F4 m41 ?_)))
  refine method_usual X₄ (KI X₄) (plainGet_of kc4).1 (plainGet_of kc4).2 kc6 ?_
  refine get_value X₄ (KI X₄) (plainGet_of kc4).1 (findObj_own kc3 kc6 rfl lf) rfl ?_
  refine callWith_K KX (by k_is) ?_
  refine args_cons (ld F4 m42 ?_)
  refine args_nil ?_
  refine ⟨X₄, wpAny_call ?_⟩
  refine adjfn_spec ((hA.deeper (d := 2) _).less (by omega)) (Fr.sub F4) KX T.nolimit x4 e4 (by rfl) fun h5 tk5 sub5 => ?_
  dsimp only at sub5 ⊢
  have F5 := F4.keeps sub5.keep
  refine stL (s := { s with heap := h5, toks := tk5 }) F5 (fun h6 F6 mv6 => ?_) rfl (by rfl)
  dsimp only
  have e6 : h6.get? a.dx = some (od2 w a) := mv6 _ _ (by simpa using n2) (sub5.keep _ _ e4)
  have X₆ := kin_keeps KX F6.keep
  refine wpAny_execs_cons (wpAny_Try_except (wpAny_execs_cons (wpAny_Assign_Subscript (ld F6 (by rw [if_pos rfl]) ?_))))
  refine ld F6 (by rw [if_neg (by decide)]; exact m43) ?_
  refine Attribute_name (ld F6 (by rw [if_neg (by decide)]; exact m41) ?_)
  refine get_value X₆ (KI X₆) (plainGet_of kc4).1 (findObj_own kc3 kc5 rfl la) rfl ?_
  refine setItemX (k := Str.ofString "adj") (o := od2 w a) rfl e6 rfl rfl keys2x_ noadj (by simp [gEs]) fun h7 e7 hs7 => ?_
  dsimp only at hs7 ⊢
  refine wpAny_execs_nil ?_
  dsimp only
  refine wpAny_execs_nil ?_
  dsimp only
  refine wpAny_execs_nil ?_
  dsimp only
  have mv7 : Mv [a.dx] h6 h7 := Mv.same hs7 (by simp)
  have F7 := Fr.mv F6 mv7 (by simpa using Ne.symm n2) (fun b hb => by rw [List.mem_singleton.mp hb]; exact fdx)
  refine wpAny_execs_cons (wpAny_Return_some (ld F7 (by rw [if_pos rfl]) ?_))
  refine hR h7 _ _ (fun b o hb e => ?_) ?_ e7 (by rfl)
  · have hbL : @Ne Nat b L := by have : @LT.lt Nat _ b s.heap.objs.size := Heap.lt_size e; omega
    have hb' : b ∉ [a.dx] := by simpa using hb
    have hbl : b ∉ [L] := by simpa using hbL
    exact mv7 _ _ hb' (mv6 _ _ hbl (sub5.keep _ _ (mv4 _ _ hbl (mv3 _ _ hbl (mv2 _ _ hb' (hsub.keep _ _ e))))))
  · have : @LT.lt Nat _ L h7.objs.size := F7.ns.lt
    omega
end Mine
end

section
open PySem PySem.W PySem.Calls PyProof.Rows Builtin Builtin.ObjectAttr
set_option Elab.async false
set_option maxRecDepth 100000
set_option maxHeartbeats 8000000
namespace Mine
theorem fillK_SGi : PySem.Challenge.rw_au6018_01 = PySem.Challenge.rw_au6018_01 → hd.heap_39 = hd.heap_39 → True := by
  k_fill
  intro _ _; trivial
structure GV (w : World) (a : GA) (G : Adj) (h : Heap) : Prop where
  nd : a.fp.Nodup
  inst : h.get? a.x = some (instObj 624 a.dx)
  dict : h.get? a.dx = some (dictOf (gEs w a) 3) ∨ ∃ od, h.get? a.dx = some od ∧ lookIn (Str.ofString "adj") od = some (some (.ref a.da))
  adj : h.DictOf (intKind PG w) a.da ((keysOf G).zip (refs a.ia))
  lni : a.ia.length = G.length
  inner : ∀ (i b : Nat) (p : Int × List Int), a.ia[i]? = some b → G[i]? = some p → ∃ vs : List Value, vs.length = p.2.length ∧ h.DictOf (intKind PG w) b (p.2.zip vs)
  nomods : ∀ b ∈ a.dp, ((b : Addr) == sysModules) = false
theorem GR.view {w : World} {a : GA} {G : Adj} {h : Heap} (R : GR w a G h) : GV w a G h := ⟨R.nd, R.inst, .inl R.dict, R.adj, R.lni, R.inner, R.nomods⟩
theorem GV.mv {w : World} {a : GA} {G : Adj} {h h' : Heap} (R : GV w a G h) (hk : ∀ b o, b ∈ a.fp → h.get? b = some o → h'.get? b = some o) : GV w a G h' := by
  have dk : ∀ {K : Type} [DecidableEq K] {knd : KeyKind PG w K} {b : Nat} {kvs : List (K × Value)}, b ∈ a.fp → h.DictOf knd b kvs → h'.DictOf knd b kvs := fun hb ⟨o, es, ep, e, r⟩ => ⟨o, es, ep, hk _ _ hb e, r⟩
  refine ⟨R.nd, hk _ _ (by simp [GA.fp]) R.inst, ?_, dk (by simp [GA.fp]) R.adj, R.lni, fun i b p e1 e2 => ?_, R.nomods⟩
  · rcases R.dict with e | ⟨od, e, l⟩
    · exact .inl (hk _ _ (by simp [GA.fp]) e)
    · exact .inr ⟨od, hk _ _ (by simp [GA.fp]) e, l⟩
  · obtain ⟨vs, hl, hd⟩ := R.inner i b p e1 e2
    have hb : b ∈ a.ia := List.mem_of_getElem? e1
    exact ⟨vs, hl, dk (by simp [GA.fp, hb]) hd⟩
theorem GV.dxm {w : World} {a : GA} {G : Adj} {h h' : Heap} (R : GV w a G h) {od : Obj} (hk : ∀ b o, b ≠ a.dx → h.get? b = some o → h'.get? b = some o) (e : h'.get? a.dx = some od) (l : lookIn (Str.ofString "adj") od = some (some (.ref a.da))) : GV w a G h' := by
  have nd := R.nd
  unfold GA.fp at nd
  simp only [List.nodup_cons, List.mem_cons, List.mem_append, not_or, List.nodup_append] at nd
  obtain ⟨⟨nx1, nx2, nx3, nx4, nx5, nx6⟩, ⟨nd1, nd2, nd3, nd4, nd5⟩, _⟩ := nd
  have dk : ∀ {K : Type} [DecidableEq K] {knd : KeyKind PG w K} {b : Nat} {kvs : List (K × Value)}, b ≠ a.dx → h.DictOf knd b kvs → h'.DictOf knd b kvs := fun hb ⟨o, es, ep, e, r⟩ => ⟨o, es, ep, hk _ _ hb e, r⟩
  refine ⟨R.nd, hk _ _ nx1 R.inst, .inr ⟨od, e, l⟩, dk (Ne.symm nd3) R.adj, R.lni, fun i b p e1 e2 => ?_, R.nomods⟩
  obtain ⟨vs, hl, hd⟩ := R.inner i b p e1 e2
  have hb : b ∈ a.ia := List.mem_of_getElem? e1
  exact ⟨vs, hl, dk (fun q => nd4 (q ▸ hb)) hd⟩

theorem adj_S {w : World} {A : Around} {E : Value → Shared → Prop} {s : Shared} {g : Heap} {L : Addr} {m mg mb} {a : GA} {G : Adj} {Q : Value → Shared → Prop} (hA : AOk A 4) (F : Fr g L s.heap m) (KX : (hd.heap_39 w.params).In g) (T : TopRead hd.view_39 LOOSE mg mb g)
    (V : GV w a G s.heap) (fdx : g.get? a.dx = none) (hsys : (a.dx == sysModules) = false)
    (h : ∀ h' tk', GV w a G h' → (∀ b o, b ≠ a.dx → s.heap.get? b = some o → h'.get? b = some o) → @LE.le Nat _ s.heap.objs.size h'.objs.size → Q (.ref a.da) { s with heap := h', toks := tk' }) :
    wpS (model PG w) A (getAttr (.ref a.x) (Str.ofString "adj") true) Q E s := by
  have X := kin_keeps KX F.keep
  rcases V.dict with e | ⟨od, e, l⟩
  · have I : InstAt s.heap a.x (instObj 624 a.dx) 624 (some (dictOf (gEs w a) 3)) := ⟨V.inst, rfl, rfl, e⟩
    have nd := V.nd
    unfold GA.fp at nd
    simp only [List.nodup_cons, List.mem_cons, List.mem_append, not_or, List.nodup_append] at nd
    obtain ⟨⟨nx1, _⟩, _⟩ := nd
    refine getBind_S X I (plainGet_of ka4).1 (findObj_nd kf_has ka1 ka2 ka3 (by rfl) (by decide)) (plainGet_of ka4).2 (wpS_call ?_)
    refine get_spec (s := { s with toks := s.toks + 1 }) (AOk.in1 hA) (Fr.sub F) KX T V.inst e fdx hsys nx1 fun h' tk od hk hsz e' l' => ?_
    dsimp only
    rw [handedOut_of rfl]
    exact wpAny_pure (h h' tk (V.dxm hk e' l') hk hsz)
  · have I : InstAt s.heap a.x (instObj 624 a.dx) 624 (some od) := ⟨V.inst, rfl, rfl, e⟩
    refine .of (get_value X I (plainGet_of ka4).1 (findObj_ndv kf_has ka1 ka2 ka3 l) rfl ?_)
    exact h s.heap _ V (fun _ _ _ e => e) (Nat.le_refl _)

theorem getitem_S {w : World} {A : Around} {s : Shared} {R : Result → Shared → Prop} {g : Heap} {mg mb} (hA : AOk A 5) (S : Sub g s.heap) (KX : (hd.heap_39 w.params).In g) (T : TopRead hd.view_39 LOOSE mg mb g)
    {a : GA} {G : Adj} (V : GV w a G s.heap) (fdx : g.get? a.dx = none) (hsys : (a.dx == sysModules) = false) {k : Int} {tk : Tok} {i b : Nat} {p : Int × List Int} (hi : a.ia[i]? = some b) (hp : G[i]? = some p) (hk : p.1 = k)
    (hR : ∀ h' tk', GV w a G h' → (∀ b o, b ≠ a.dx → s.heap.get? b = some o → h'.get? b = some o) → @LE.le Nat _ s.heap.objs.size h'.objs.size → R (.ok (.ret (.ref b))) { s with heap := h', toks := tk' }) :
    codeS (model PG w) A (.call (.ref 419) ⟨[.ref a.x, .int k tk], []⟩) R s := by
  refine' enterBS (binds := [(Str.ofString "self", .ref a.x), (Str.ofString "n", .int k tk)]) S KX T.nolimit ?k1 ?k2 ?k3 ?k4 ?k5 ?h ?k6 ?k7 ?k8 ?k9
  case k1 => k_is
  case k2 => k_is
  case k3 => exact hA.room
  case k4 => exact BindsTo.of_eq (by rfl)
  case k5 => exact locs (by rfl)
  case k6 => decide
  case k7 => rfl
  case k8 => rfl
  case k9 => rfl
  intro L h₁ tk1 hL F hsub
  have V1 : GV w a G h₁ := V.mv fun b o _ e => hsub.keep _ _ e
  have hdl : @LT.lt Nat _ a.dx s.heap.objs.size := by
    rcases V.dict with e | ⟨od, e, _⟩ <;> exact Heap.lt_size e
  have n2 : @Ne Nat a.dx L := by omega
  refine execs_S (Return_S (Subscript_S (Attribute_S (ld F (by rfl) ?_))))
  refine adj_S (hA.deeper _) F KX T V1 fdx hsys fun h2 tk2 V2 hk2 hsz2 => ?_
  have F2 : Fr g L h2 _ := Fr.mv F (D := [a.dx]) (fun b o hb e => hk2 b o (by simpa using hb) e) (by simpa using Ne.symm n2) (fun b hb => by rw [List.mem_singleton.mp hb]; exact fdx)
  refine ld F2 (by rfl) ?_
  have hz : valueAt ((keysOf G).zip (refs a.ia)) k = some (.ref b) := zip_valueAt (i := i) (DictOf.nodup V2.adj (by rw [refs_len, keys_len, V2.lni])) (by rw [refs_len, keys_len, V2.lni]) (by simp [keysOf, hp, hk]) (by simp [refs, hi])
  refine .of (dict_sub (knd := intKind PG w) (k := k) (intKind_is _ _ _ _) V2.adj hz ?_ (by with_unfolding_all rfl))
  dsimp only
  exact hR h2 _ V2 (fun b o hb e => hk2 b o hb (hsub.keep _ _ e)) (Nat.le_trans hsub.size hsz2)
end Mine
end

section
open PySem PySem.W PySem.Calls PyProof.Rows Builtin Builtin.ObjectAttr
set_option Elab.async false
set_option maxRecDepth 100000
set_option maxHeartbeats 8000000
namespace Mine
theorem Cl.mv {L : Addr} {cs : List (Str × Addr)} {h h' : Heap} {cm : Str → Option Value} {D : List Addr} (X : Cl L cs h cm) (mv : Mv D h h') (hD : ∀ n c, (n, c) ∈ cs → c ∉ D) : Cl L cs h' cm :=
  ⟨fun n c e => let ⟨o, ho, hd⟩ := X.cell n c e; ⟨o, mv c o (hD n c (mem_of_lookup e)) ho, hd⟩, X.apart, X.above⟩
section
variable {prog : Program} {w : World} {A : Around} {s : Shared} {K : Frag} {R : Result → Shared → Prop}
theorem codeS_cells {a : Addr} {o : Obj} {fd : FuncData} {body : List Stmt} {args : Args} {binds : List (Str × Value)}
    (hroom : A.depth < recursionLimit) (ho : s.heap.get? a = some o) (hdata : o.data = .func fd) (hlim : s.heap.NoLimit) (hcd : s.heap.CodeRec fd.code fd.qualname)
    (hbody : fd.body = .stmts body) (hbind : BindsTo s fd args binds) (hclo : fd.closure = [])
    (hkind : ∀ x ∈ binds, fd.scope.names.lookup x.1 = some .local ∨ (fd.scope.names.lookup x.1 = some .cell ∧ ((cellsFrom (s.heap.objs.size + 1) fd.scope.names []).lookup x.1).isSome = true))
    (h : ∀ s₁, InCallC s (callEnvC fd s.heap.objs.size a).locals (bindL (callEnvC fd s.heap.objs.size a).kindOf binds fun _ => none) (callEnvC fd s.heap.objs.size a).cells
        (bindC (callEnvC fd s.heap.objs.size a).kindOf binds fun _ => none) s₁ →
      wpS (model prog w) (A.deeper (callEnvC fd s.heap.objs.size a)) (execs body (callEnvC fd s.heap.objs.size a)) (fun f s' => R (.ok (.ret (match f with | .ret v => v | _ => .none))) s') (fun _ _ => False) s₁)
    (hco : fd.scope.isCoroutine = false) (hgen : fd.scope.isGenerator = false) (hk : fd.scope.kind = .function) :
    codeS (model prog w) A (.call (.ref a) args) R s := by
  refine codeS_of_tree (fun a e => by cases e) ?_
  show wpS _ A.in1 (callAny (.ref a) args) _ _ s
  simp only [callAny]
  refine wpS_bind (wpAny_load ho ?_)
  obtain ⟨c, oc, vs, tq, hc, hoc, hdc, hq⟩ := hcd
  simp only [hdata, callFunction, hco, hgen, hbody, hc, hclo]
  refine wpS_bind (m := field (.ref c) 1) (wpAny_field hoc hdc hq (wpS_bind (wpAny_pure ?_)))
  rw [← hc]
  refine wpS_bind (hbind _ _ _ _ (wpS_bind (wpAny_newFunctionEnv_cells hk hkind (fun env he s' x => ?_))))
  subst he
  exact wpS_bind (wpAny_enterFrame (hlim.keeps x.toInCall.keep) hroom (wpS_pure ⟨rfl, codeS_func (h s' x)⟩))

theorem enterCS {g : Heap} {name qual : Str} {params : Arguments} {body : List Stmt} {scope : Scope} {dV kV doc pm cdv ct oc : Value} {an od : Option Addr} {osl : Array (Option Value)} {f : Addr} {args : Args} {binds : List (Str × Value)}
    (S : Sub g s.heap) (X : K.In g) (hlim : g.NoLimit)
    (ho : K.lookup f = some ⟨oc, od, .func (fnOf name qual params body scope dV kV doc pm an cdv ct), osl⟩) (hcd : codeIn K cdv qual = true) (hroom : A.depth < recursionLimit)
    (hbind : BindsTo s (fnOf name qual params body scope dV kV doc pm an cdv ct) args binds)
    (hkind : ∀ n, ∀ x ∈ binds, scope.names.lookup x.1 = some .local ∨ (scope.names.lookup x.1 = some .cell ∧ ((cellsFrom n scope.names []).lookup x.1).isSome = true))
    (h : ∀ L h₁ tk, L = s.heap.objs.size → Fr g L h₁ (bindL (envOfC qual scope L f cdv).kindOf binds fun _ => none) → Cl L (cellsFrom (L + 1) scope.names []) h₁ (bindC (envOfC qual scope L f cdv).kindOf binds fun _ => none) → Sub s.heap h₁ →
      wpS (model prog w) (A.deeper (envOfC qual scope L f cdv)) (execs body (envOfC qual scope L f cdv))
        (fun fl s' => R (.ok (.ret (match fl with | .ret v => v | _ => .none))) s') (fun _ _ => False)
        { s with heap := h₁, toks := tk })
    (hco : scope.isCoroutine = false) (hgen : scope.isGenerator = false) (hk : scope.kind = .function) : codeS (model prog w) A (.call (.ref f) args) R s := by
  refine codeS_cells (fd := fnOf name qual params body scope dV kV doc pm an cdv ct) hroom (S.keep _ _ (X _ _ ho)) rfl (hlim.keeps S.keep) (codeRec_of (X.keeps S.keep) hcd) rfl hbind rfl (hkind _) (fun s₁ Y => ?_) hco hgen hk
  obtain ⟨h₁, tk, rfl, _⟩ := Y.done
  exact h s.heap.objs.size h₁ tk rfl ⟨Y.toInCall.ns, fun b o e => Y.toInCall.keep b o (S.keep b o e), S.size⟩ ⟨Y.cell, Y.apart, Y.above⟩ ⟨Y.toInCall.keep, Nat.le_of_lt Y.toInCall.ns.lt⟩

theorem enterC {g : Heap} {name qual : Str} {params : Arguments} {body : List Stmt} {scope : Scope} {dV kV doc pm cdv ct oc : Value} {an od : Option Addr} {osl : Array (Option Value)} {f : Addr} {args : Args} {binds : List (Str × Value)}
    (S : Sub g s.heap) (X : K.In g) (hlim : g.NoLimit)
    (ho : K.lookup f = some ⟨oc, od, .func (fnOf name qual params body scope dV kV doc pm an cdv ct), osl⟩) (hcd : codeIn K cdv qual = true) (hroom : A.depth < recursionLimit)
    (hbind : BindsTo s (fnOf name qual params body scope dV kV doc pm an cdv ct) args binds)
    (hkind : ∀ n, ∀ x ∈ binds, scope.names.lookup x.1 = some .local ∨ (scope.names.lookup x.1 = some .cell ∧ ((cellsFrom n scope.names []).lookup x.1).isSome = true))
    (h : ∀ L h₁ tk, L = s.heap.objs.size → Fr g L h₁ (bindL (envOfC qual scope L f cdv).kindOf binds fun _ => none) → Cl L (cellsFrom (L + 1) scope.names []) h₁ (bindC (envOfC qual scope L f cdv).kindOf binds fun _ => none) → Sub s.heap h₁ →
      wpAny (model prog w) (A.deeper (envOfC qual scope L f cdv)) (execs body (envOfC qual scope L f cdv))
        (fun fl s' => R (.ok (.ret (match fl with | .ret v => v | _ => .none))) s') (fun _ _ => False)
        { s with heap := h₁, toks := tk })
    (hco : scope.isCoroutine = false) (hgen : scope.isGenerator = false) (hk : scope.kind = .function) : codeAny (model prog w) A (.call (.ref f) args) R s := by
  refine codeAny_call_function (fd := fnOf name qual params body scope dV kV doc pm an cdv ct) hroom (S.keep _ _ (X _ _ ho)) rfl hco hgen rfl (codeRec_of (X.keeps S.keep) hcd) (hbind _ _ _ _ (wpAny_newFunctionEnv_cells hk (hkind _) fun env he s' Y => ?_))
  subst he
  obtain ⟨h₁, tk, rfl, _⟩ := Y.done
  exact ⟨(hlim.keeps S.keep).keeps Y.toInCall.keep, codeAny_func (wpAny_mono (h s.heap.objs.size h₁ tk rfl ⟨Y.toInCall.ns, fun b o e => Y.toInCall.keep b o (S.keep b o e), S.size⟩ ⟨Y.cell, Y.apart, Y.above⟩ ⟨Y.toInCall.keep, Nat.le_of_lt Y.toInCall.ns.lt⟩) (fun _ _ x => x) fun _ _ f => f.elim)⟩
end

section
variable {prog : Program} {w : World} {A : Around} {E : Value → Shared → Prop} {s : Shared} {l : Addr} {vs : List Value} {ns : List Int} {Q : Value → Shared → Prop}
theorem pl_sorted (hp : s.heap.PlainList l vs.toArray) (hI : IntsAre vs ns) (h64 : vs.length < 64)
    (hQ : ∀ h' D (out : List Value) ns', (∀ b o, s.heap.get? b = some o → h'.get? b = some o) → @LE.le Nat _ s.heap.objs.size D → h'.PlainList D out.toArray → IntsAre out ns' → ns'.Perm ns → ns'.Pairwise (· ≤ ·) → Q (.ref D) { s with heap := h' }) :
    wpAny (model prog w) A (call (.builtin "sorted") [.ref l]) Q E s := by
  refine sorted_ints (pl_list hp) hI h64 fun out ns' a1 a2 a3 => ?_
  have hsz : ((s.heap.push (seqObj "list" #[] 0)).update s.heap.objs.size (Obj.mapSeq (· ++ vs.toArray))).objs.size = s.heap.objs.size + 1 := by
    rw [Heap.size_update, size_push']
  have hoL : (((s.heap.push (seqObj "list" #[] 0)).update s.heap.objs.size (Obj.mapSeq (· ++ vs.toArray))).push (seqObj "list" vs.toArray 0)).get? (s.heap.objs.size + 1) = some (seqObj "list" vs.toArray 0) := by
    rw [← hsz]; exact Heap.get?_push_size _ rfl
  obtain ⟨e, he⟩ := sortedHeap_at (out := out) hoL
  refine hQ _ _ out.toList ns' (fun b o e => ?_) (Nat.le_succ _) ⟨e, by unfold sortedAll; rw [he, Array.toArray_toList]⟩ a1 a2 a3
  have hlt : @LT.lt Nat _ b s.heap.objs.size := Heap.lt_size e
  have h1 : @Ne Nat b (s.heap.objs.size + 1) := by omega
  have h2 : @Ne Nat s.heap.objs.size b := by omega
  refine (sortedHeap_old h1 ?_).trans ((Heap.get?_push_of_some _ ((Heap.get?_update_other _ _ h2).trans (Heap.get?_push_of_some _ e))))
  rw [size_push', hsz]
  show @LT.lt Nat _ b _
  omega
end
end Mine
end

section
open PySem PySem.W PySem.Calls PyProof.Rows
set_option Elab.async false
set_option maxRecDepth 100000
set_option maxHeartbeats 8000000
namespace Mine
section
variable {prog : Program} {w : World} {A : Around} {E : Value → Shared → Prop} {s : Shared}
theorem compFalse_S {elt iter test : Expr} {x : Str} {q : Pos} {scope : Scope} {cl : List (Str × Addr)} {env : Env} {pos : Pos} {Q : Value → Shared → Prop}
    (hclos : closureFor scope env = pure cl) (hkind : scope.kind = .function) (hnames : ∀ x ∈ scope.names, x.2 = .local → scope.names.lookup x.1 = some .local) (hcell : ∀ y ∈ scope.names, y.2 ≠ .cell) (hx : scope.names.lookup x = some .local)
    (h : wpAny (model prog w) A (eval iter env) (fun xv s₁ => wpAny (model prog w) A (pyIter xv) (fun it s₂ => ∃ (I : Addr) (fp wr : List Addr) (n : Nat) (P : Nat → Value → Prop) (St : Nat → Heap → Prop) (J : Nat → Heap → Prop),
      it = .ref I ∧ Walks prog w A I fp wr n P St ∧ St 0 s₂.heap ∧ (∀ b ∈ fp, @LT.lt Nat _ b s₂.heap.objs.size) ∧ J 0 s₂.heap ∧
      (∀ i h h', J i h → (∀ b o, @LT.lt Nat _ b s₂.heap.objs.size → b ∉ wr → h.get? b = some o → h'.get? b = some o) → J i h') ∧
      (∀ C i v h tk m, i < n → P i v → @LE.le Nat _ s₂.heap.objs.size C → h.Ns C m → m x = some v → J i h → @LE.le Nat _ s₂.heap.objs.size h.objs.size →
        wpS (model prog w) A (isTrue test (compEnvC scope cl C env) (eval test (compEnvC scope cl C env))) (fun ok s₄ => ok = false ∧ ∃ h' tk', s₄ = { s₂ with heap := h', toks := tk' } ∧ J (i + 1) h' ∧
          (∀ b o, (@LE.le Nat _ s₂.heap.objs.size b ∨ b ∈ fp) → h.get? b = some o → h'.get? b = some o)) (fun _ _ => False) { s₂ with heap := h, toks := tk }) ∧
      (∀ D h' tk, J n h' → h'.PlainList D ([] : List Value).toArray → @LE.le Nat _ s₂.heap.objs.size D → Q (.ref D) { s₂ with heap := h', toks := tk })) E s₁) E s)
    (hs : ∀ x, foldedSetIterable iter env x = pure x := by intro _; rfl) :
    wpS (model prog w) A (eval (.ListComp elt [⟨.Name x q, iter, [test], 0⟩] scope pos) env) Q E s := by
  rw [eval_ListComp]
  refine comprehension_S (cl := cl) rfl hs hclos hkind hnames (wpAny_mono h (fun xv s₁ h₁ => wpAny_mono h₁ (fun it s₂ h₂ => ?_) fun _ _ e => e) fun _ _ e => e)
  obtain ⟨I, fp, wr, n, P, St, J, rfl, W, st0, hfp, j0, keep, turn, done⟩ := h₂
  refine wpAny_newObj_type (wpAny_newFunctionEnv hcell (by intro y hy; simp at hy) (fun h₁ hns₁ hsb₁ => ?_) hkind)
  dsimp only at hns₁ hsb₁ ⊢
  generalize hH2 : s₂.heap.push { cls := .type "list", dict := none, data := .seq ([] : List Value).toArray } = H2 at hns₁ hsb₁ ⊢
  have hC : H2.objs.size = s₂.heap.objs.size + 1 := by rw [← hH2, Heap.size_push]
  have hDC : s₂.heap.objs.size ≠ H2.objs.size := by rw [hC]; exact Nat.ne_of_lt (Nat.lt_succ_self _)
  have hCle : @LE.le Nat _ s₂.heap.objs.size H2.objs.size := by rw [hC]; exact Nat.le_succ _
  have old : ∀ b o, s₂.heap.get? b = some o → h₁.get? b = some o := fun b o e =>
    hsb₁.extBut b o (by have := Heap.lt_size e; rw [hC]; exact Nat.ne_of_lt (Nat.lt_succ_of_lt this)) (Heap.get?_push_of_some _ (hH2 ▸ Heap.get?_push_of_some _ e))
  have hacc : h₁.PlainList s₂.heap.objs.size ([] : List Value).toArray := ⟨_, hsb₁.extBut _ _ hDC (Heap.get?_push_of_some _ (hH2 ▸ Heap.get?_push_size _ rfl))⟩
  have hwr : ∀ b ∈ wr, @LT.lt Nat _ b s₂.heap.objs.size := fun b hb => hfp b (W.sub b hb)
  have hDw : s₂.heap.objs.size ∉ wr := fun hb => Nat.lt_irrefl _ (hwr _ hb)
  have hCw : H2.objs.size ∉ wr := fun hb => by have := hwr _ hb; omega
  have hCf : H2.objs.size ∉ fp := fun hb => by have := hfp _ hb; omega
  have hJ : J 0 h₁ := keep _ _ _ j0 fun b o _ _ e => old b o e
  have hSt : St 0 h₁ := W.frame 0 _ _ st0 fun b _ o e => old b o e
  have loop : ∀ s₃ : Shared, s₃ = { s₂ with heap := h₁, toks := s₂.toks + ([] : List (Str × Value)).length } →
      codeS (model prog w) A (.compLoop (.ListComp elt [⟨.Name x q, iter, [test], 0⟩] scope pos) 0 (.ref I) (.ref s₂.heap.objs.size) (compEnvC scope cl H2.objs.size env))
        (compEnd Q (.ref s₂.heap.objs.size) H2.objs.size) s₃ := by
    rintro s₃ rfl
    refine loopFalse_S (fun k s' => ∃ i h tk m, s' = { s₂ with heap := h, toks := tk } ∧ k = n - i ∧ i ≤ n ∧ St i h ∧ J i h ∧ h.PlainList s₂.heap.objs.size ([] : List Value).toArray ∧ h.Ns H2.objs.size m) ?_ n
      ⟨0, h₁, _, _, rfl, rfl, Nat.zero_le _, hSt, hJ, hacc, hns₁⟩
    rintro k s' ⟨i, h, tk, m, rfl, rfl, hi, hst, hj, hp, hn⟩
    by_cases hlt : i < n
    · refine W.item i _ _ _ hlt hst fun v h3 tk3 hP hst3 hk3 => ?_
      dsimp only
      have hn3 : h3.Ns H2.objs.size m := hn.at' fun o e => hk3 _ o hCw e
      have hl : (compEnvC scope cl H2.objs.size env).kindOf x = some .local := lookup_relabel_local hx
      refine wpAny_assign_Name (wpAny_storeName_local hl hn3 (fun h5 hn5 hs5 => ?_) (by simp [compEnvC, relabel, hkind]))
      have st5 : St (i + 1) h5 := W.frame _ _ _ hst3 fun b hb o e => hs5.extBut b o (fun (q : b = H2.objs.size) => hCf (q ▸ hb)) e
      have hp5 : h5.PlainList s₂.heap.objs.size ([] : List Value).toArray := let ⟨nn, e⟩ := hp; ⟨nn, hs5.extBut _ _ hDC (hk3 _ _ hDw e)⟩
      have hj5 : J i h5 := keep _ _ _ hj fun b o hb hbw e => hs5.extBut b o (by have hb' : @LT.lt Nat _ b s₂.heap.objs.size := hb; exact (by omega : @Ne Nat b H2.objs.size)) (hk3 b o hbw e)
      have hsz5 : @LE.le Nat _ s₂.heap.objs.size h5.objs.size := Nat.le_of_lt (plt_lt hp5)
      refine wpS_mono (turn H2.objs.size i v h5 _ _ hlt hP hCle hn5 (by simp) hj5 hsz5) (fun ok s₄ h₄ => ?_) fun _ _ e => e
      obtain ⟨rfl, h6, tk6, rfl, hj6, hk6⟩ := h₄
      refine ⟨rfl, n - (i + 1), by omega, i + 1, h6, tk6, _, rfl, rfl, hlt, W.frame _ _ _ st5 fun b hb o e => hk6 b o (.inr hb) e, hj6, let ⟨nn, e⟩ := hp5; ⟨nn, hk6 _ _ (.inl (Nat.le_refl _)) e⟩, hn5.at' fun o e => hk6 _ o (.inl hCle) e⟩
    · have : i = n := by omega
      subst this
      refine W.done _ _ _ hst fun h3 tk3 hk3 => ?_
      dsimp only
      have hn3 : h3.Ns H2.objs.size m := hn.at' fun o e => hk3 _ o hCw e
      have hp3 : h3.PlainList s₂.heap.objs.size ([] : List Value).toArray := let ⟨nn, e⟩ := hp; ⟨nn, hk3 _ _ hDw e⟩
      have hj3 : J i h3 := keep _ _ _ hj fun b o _ hbw e => hk3 b o hbw e
      refine ⟨m, hn3, fun h' hs' => done _ h' tk3 (keep _ _ _ hj3 fun b o hb _ e => hs'.extBut b o (by have hb' : @LT.lt Nat _ b s₂.heap.objs.size := hb; exact (by omega : @Ne Nat b H2.objs.size)) e) (let ⟨nn, e⟩ := hp3; ⟨nn, hs'.extBut _ _ hDC e⟩) (Nat.le_refl _)⟩
  refine compStart_S (loop _ rfl) ?_
  exact W.self 0 _ _ _ hSt (loop _ rfl)
end
end Mine
end

section
open PySem PySem.W PySem.Calls PyProof.Rows
set_option Elab.async false
set_option maxRecDepth 100000
set_option maxHeartbeats 8000000
namespace Mine
theorem fillK_LI : PySem.Challenge.rw_au6018_01 = PySem.Challenge.rw_au6018_01 → hd.heap_39 = hd.heap_39 → True := by
  k_fill
  intro _ _; trivial
section
variable {M : Model} {A : Around} {E : Value → Shared → Prop} {s : Shared} {K : Frag} {h₀ : Heap} {L : Addr} {m mg mb : Str → Option Value} {p : Program} {loose : List Str} {x : Str} {pos : Pos} {v : Value} {Q : Value → Shared → Prop}
theorem nameE_B {env : Env} (F : Fr h₀ L s.heap m) (X : K.In h₀) (T : TopRead p loose mg mb h₀) (e : PySem.W.nsIn K mainGlobals x = some none) (hv : bootBuiltins x = some v) (hn : x ≠ "__name__") (h : Q v s)
    (hk : env.scope.kind = .function) (hx : env.kindOf x = some .globalImplicit) (hg : env.globals = mainGlobals) (hb : env.builtins = builtinsNs) (hd : (x == ("__debug__" : Str)) = false := by decide) :
    wpAny M A (eval (.Name x pos) env) Q E s := by
  refine Name_function_global hk hx (loadGlobal_builtin (env := env) (mg := mg) (mb := mb) ?_ (mg_none_of X T.g e) ?_ ((T.builtins x hn).trans hv) h) hd
  · rw [hg]; exact T.g.keeps F.keep
  · rw [hb]; exact T.b.keeps F.keep
end
theorem sorted_perm_eq : ∀ {a b : List Int}, a.Pairwise (· ≤ ·) → b.Pairwise (· ≤ ·) → a.Perm b → a = b
  | [], b, _, _, p => (List.Perm.nil_eq p)
  | x :: a, b, ha, hb, p => by
    cases b with
    | nil => exact absurd p.length_eq (by simp)
    | cons y b =>
      have h1 := List.pairwise_cons.mp ha
      have h2 := List.pairwise_cons.mp hb
      have xy : x = y := by
        have hx : x ∈ y :: b := p.mem_iff.mp (List.mem_cons_self ..)
        have hy : y ∈ x :: a := p.mem_iff.mpr (List.mem_cons_self ..)
        rcases List.mem_cons.mp hx with e | hx
        · exact e
        rcases List.mem_cons.mp hy with e | hy
        · exact e.symm
        exact Int.le_antisymm (h1.1 _ hy) (h2.1 _ hx)
      subst xy
      rw [sorted_perm_eq h1.2 h2.2 (List.perm_cons x |>.mp p)]
theorem ints_of_keys {w : World} {ks : List Int} {vs : List Value} {ws : List Value} (hl : vs.length = ks.length) (h : ∀ (j : Nat) v, vs[j]? = some v → ∃ k x, (ks.zip ws)[j]? = some (k, x) ∧ (intKind PG w).is k v = true) : IntsAre vs ks := by
  induction ks generalizing vs ws with
  | nil => cases vs with
    | nil => exact .nil
    | cons _ _ => exact absurd hl (by simp)
  | cons k ks ih =>
    cases vs with
    | nil => exact absurd hl (by simp)
    | cons v vs =>
      obtain ⟨k', x', e, i⟩ := h 0 v rfl
      cases ws with
      | nil => simp at e
      | cons u ws =>
        simp at e
        obtain ⟨rfl, rfl⟩ := e
        obtain ⟨t, rfl⟩ := Value.isInt_shape i
        exact .cons _ _ (ih (by simpa using hl) fun j v hv => by
          obtain ⟨k', x', e, i⟩ := h (j + 1) v (by simpa using hv)
          exact ⟨k', x', by simpa using e, i⟩)

theorem AOk.u64 {A : Around} {d : Nat} (h : AOk A (d + 12)) : A.units + 64 < cLine := by have := h.2.2; show A.units + 64 < 9900; omega
theorem ints_get {vs : List Value} {ns : List Int} (h : IntsAre vs ns) {i : Nat} {v : Value} {k : Int} (hv : vs[i]? = some v) (hk : ns[i]? = some k) : ∃ t, v = .int k t := by
  induction h generalizing i with
  | nil => simp at hv
  | cons n t _ ih =>
    cases i with
    | zero => simp at hv hk; subst hv hk; exact ⟨t, rfl⟩
    | succ i => exact ih (by simpa using hv) (by simpa using hk)
theorem ints_of_get {vs : List Value} {ns : List Int} (hl : vs.length = ns.length) (h : ∀ (j : Nat) v, vs[j]? = some v → ∃ n t, ns[j]? = some n ∧ v = .int n t) : IntsAre vs ns := by
  induction ns generalizing vs with
  | nil => cases vs with
    | nil => exact .nil
    | cons _ _ => exact absurd hl (by simp)
  | cons k ks ih =>
    cases vs with
    | nil => exact absurd hl (by simp)
    | cons v vs =>
      obtain ⟨n, t, e, rfl⟩ := h 0 v rfl
      simp at e
      subst e
      exact .cons _ _ (ih (by simpa using hl) fun j v hv => by
        obtain ⟨n, t, e, rfl⟩ := h (j + 1) v (by simpa using hv)
        exact ⟨n, t, by simpa using e, rfl⟩)
theorem kg1 {w : World} : findIn (hd.heap_39 w.params) (.ref 624) (Str.ofString "__getitem__") = some (some (.ref 419)) := by k_is
theorem kg2 {w : World} : fnIn (hd.heap_39 w.params) 419 = true := by k_is
theorem kg3 {w : World} : isFn (hd.heap_39 w.params) (.ref 419) = true := by k_is
def NearV (h : Heap) (v : Value) (l : List Nat) : Prop := ∃ (b : Nat) (us : List Value), v = .ref b ∧ h.PlainList b us.toArray ∧ IntsAre us (l.map fun (i : Nat) => (i : Int))

theorem law_is_spec {w : World} {A : Around} {s : Shared} {R : Result → Shared → Prop} {g : Heap} {mg mb} (hA : AOk A 20) (S : Sub g s.heap) (KX : (hd.heap_39 w.params).In g) (T : TopRead hd.view_39 LOOSE mg mb g)
  {a : GA} {G : Adj} (Rg : GR w a G s.heap) (fdx : g.get? a.dx = none) (hsys : (a.dx == sysModules) = false)
  {nl rl : Addr} {nvs rvs : List Value} {ns : List Int} {near : List (List Nat)} (hn : s.heap.PlainList nl nvs.toArray) (hni : IntsAre nvs ns) (hr : s.heap.PlainList rl rvs.toArray) (hrr : Rel (NearV s.heap) rvs near)
  (hlen : near.length = ns.length) (hsm : ns.length ≤ 8) (hkeys : (keysOf G).Perm ns)
  (hadj : ∀ (i : Nat) (k : Int) (l : List Nat), ns[i]? = some k → near[i]? = some l → ∃ (j : Nat) (nb : List Int), G[j]? = some (k, nb) ∧ nb.Perm (l.map fun b => ns.getD b 0))
  (hb : ∀ l ∈ near, l.length ≤ 8 ∧ ∀ b ∈ l, b < ns.length)
  (hR : ∀ h' tk, (∀ b o, b ≠ a.dx → s.heap.get? b = some o → h'.get? b = some o) → @LE.le Nat _ s.heap.objs.size h'.objs.size → R (.ok (.ret (.bool true))) { s with heap := h', toks := tk }) :
  codeS (model PG w) A (.call (.ref 688) ⟨[.ref a.x, .ref nl, .ref rl], []⟩) R s := by
  refine' enterCS (binds := [(Str.ofString "G", .ref a.x), (Str.ofString "names", .ref nl), (Str.ofString "near", .ref rl)]) S KX T.nolimit ?k1 ?k2 ?k3 ?k4 ?k5 ?h ?k7 ?k8 ?k9
  case k1 => k_is
  case k2 => k_is
  case k3 => exact hA.room
  case k4 => exact BindsTo.of_eq (by rfl)
  case k5 =>
    intro n x hx
    simp only [List.mem_cons, List.not_mem_nil, or_false] at hx
    rcases hx with rfl | rfl | rfl <;> exact .inr ⟨by rfl, by rfl⟩
  case k7 => rfl
  case k8 => rfl
  case k9 => rfl
  intro L h₁ tk hL F X hsub
  generalize hcm : bindC _ _ _ = cm at X
  generalize hm : bindL _ _ _ = m₀ at F
  have c1 : cm (Str.ofString "G") = some (.ref a.x) := by rw [← hcm]; rfl
  have c2 : cm (Str.ofString "names") = some (.ref nl) := by rw [← hcm]; rfl
  have c3 : cm (Str.ofString "near") = some (.ref rl) := by rw [← hcm]; rfl
  clear hcm hm
  have R1 : GR w a G h₁ := Rg.mv fun b o _ e => hsub.keep _ _ e
  have hn1 : h₁.PlainList nl nvs.toArray := pl_keep hn hsub.keep
  have nl8 : nvs.length ≤ 8 := by rw [hni.length]; exact hsm
  refine execs_A (wpAny_If (wpAny_isTrue_Compare1 (Call_ ?_)))
  refine nameX_B F KX T (by k_is) (by boot_by_name) (by decide) ?_
  refine callWith_method1 ?_
  refine args_cons (ldC X (by rfl) c1 ?_)
  refine args_nil ?_
  have hl : ((keysOf G).zip (refs a.na)).length = G.length := by rw [List.length_zip, keys_len, refs_len, R1.lna]; omega
  have hGn : G.length ≤ 8 := by have := hkeys.length_eq; rw [keys_len] at this; omega
  refine src_sorted (s := { s with heap := h₁, toks := tk }) (ns := keysOf G) (src_graph F KX T R1) ((hA.deeper (d := 19) _).less (by omega)) (by rw [hl]; omega) (fun vs hvl hv => ints_of_keys (by rw [hvl, hl, keys_len]) hv) fun h2 tk2 D1 o1 n1 k2 hD1 p1 i1 pm1 so1 => ?_
  dsimp only at k2 hD1
  have F2 := F.keeps k2
  have X2 := X.keeps k2
  refine Call_ ?_
  refine nameX_B F2 KX T (by k_is) (by boot_by_name) (by decide) ?_
  refine callWith_method1 ?_
  refine args_cons (ldC X2 (by rfl) c2 ?_)
  refine args_nil ?_
  refine pl_sorted (s := { s with heap := h2, toks := tk2 }) (pl_keep hn1 k2) hni (by omega) fun h3 D2 o2 n2 k3 hD2 p2 i2 pm2 so2 => ?_
  dsimp only at k3 hD2
  refine ne_intsK (s := { s with heap := h3, toks := tk2 }) (pl_list (pl_keep p1 k3)) i1 (pl_list p2) i2 (hA.deeper (d := 19) _).u64 ?_
  have e12 : n1 = n2 := sorted_perm_eq so1 so2 (pm1.trans (hkeys.trans pm2.symm))
  refine wpAny_truthy_bool ?_
  rw [e12, decide_eq_true rfl]
  rw [if_neg (by decide)]
  refine wpAny_execs_nil ?_
  dsimp only
  have F3 := F2.keeps k3
  have X3 := X2.keeps k3
  have k13 : ∀ b o, h₁.get? b = some o → h3.get? b = some o := fun b o e => k3 b o (k2 b o e)
  have R3 : GR w a G h3 := R1.mv fun b o _ e => k13 _ _ e
  have hn3 : h3.PlainList nl nvs.toArray := pl_keep hn1 k13
  have hr3 : h3.PlainList rl rvs.toArray := pl_keep (pl_keep hr hsub.keep) k13
  have hrr3 : Rel (NearV h3) rvs near := hrr.mono fun v l ⟨b, us, e, p, i⟩ => ⟨b, us, e, pl_keep (pl_keep p hsub.keep) k13, i⟩
  refine execs_S (Return_S (Compare_S ?_))
  refine compFalse_S (cl := [(Str.ofString "near", L + 1 + 1 + 1), (Str.ofString "names", L + 1 + 1), (Str.ofString "G", L + 1)]) (by rfl) rfl (by decide) (by decide) (by rfl) ?_
  refine Call_ ?_
  refine nameX_B F3 KX T (by k_is) (by boot_by_name) (by decide) ?_
  refine cw_type1 ?_
  refine args_cons (Call_ ?_)
  refine nameX_B F3 KX T (by k_is) (by boot_by_name) (by decide) ?_
  refine callWith_method1 ?_
  refine args_cons (ldC X3 (by rfl) c2 ?_)
  refine args_nil ?_
  refine pl_len (s := { s with heap := h3, toks := tk2 }) hn3 (by omega) fun t6 => ?_
  refine args_nil ?_
  refine call_range_1 ?_
  dsimp only
  refine iter_range (IsRange.new _ _ _ _ _ _ _) (n := nvs.length) (Or.inl (by omega)) (by omega) (by omega) fun hit => ?_
  dsimp only at hit ⊢
  generalize hH : (h3.push _).push _ = H at hit ⊢
  have kH : ∀ b o, h3.get? b = some o → H.get? b = some o := fun b o e => by rw [← hH]; exact Heap.get?_push_of_some _ (Heap.get?_push_of_some _ e)
  have hHs : H.objs.size = h3.objs.size + 1 + 1 := by rw [← hH, Heap.size_push, Heap.size_push]
  generalize hIe : Array.size (Heap.objs (Heap.push h3 _)) = I at hit ⊢
  have hIs : I = h3.objs.size + 1 := by rw [← hIe, Heap.size_push]
  have hdx3 : @LT.lt Nat _ a.dx h3.objs.size := R3.lt _ (by simp [GA.fp])
  have hL3 : @LT.lt Nat _ L h3.objs.size := F3.ns.lt
  have hdxL : @Ne Nat a.dx L := by
    have : @LT.lt Nat _ a.dx s.heap.objs.size := Rg.lt _ (by simp [GA.fp])
    omega
  refine ⟨I, [I], [I], nvs.length, _, _, fun i h => GV w a G h ∧ (∀ b o, b ≠ a.dx → @LT.lt Nat _ b I → H.get? b = some o → h.get? b = some o), rfl, Walks.range (by exact hA.2.1) I 0 1 nvs.length, hit I rfl, ?hfp, ⟨?j0, fun b o _ _ e => e⟩, ?keep, ?turn, ?done⟩
  case hfp => intro b hb; rw [List.mem_singleton.mp hb, hHs]; show @LT.lt Nat _ I _; omega
  case j0 => exact R3.view.mv fun b o _ e => kH _ _ e
  case keep =>
    rintro i h h' ⟨V, hk⟩ hkp
    have big : ∀ b o, @LT.lt Nat _ b I → h.get? b = some o → h'.get? b = some o := fun b o hbI e => by
      have hbI' : @LT.lt Nat _ b I := hbI
      refine hkp b o (by rw [hHs]; show @LT.lt Nat _ b _; omega) (by rw [List.mem_singleton]; exact (by omega : @Ne Nat b I)) e
    refine ⟨V.mv fun b o hb e => big b o ?_ e, fun b o hb hbI e => big b o hbI (hk b o hb hbI e)⟩
    have := R3.lt b hb
    show @LT.lt Nat _ b I
    omega
  case done =>
    rintro D h' tk' ⟨V, hk⟩ hp hD
    refine List_ (args_nil ?_)
    refine wpAny_newList ?_ (by show (0 : Nat) ≤ _; rw [sizeLine_eq]; omega)
    refine eq_intsK (ns := []) (ms := []) (pl_list (pl_keep hp fun b o e => Heap.get?_push_of_some _ e)) .nil (pl_list (pl_new h' _)) .nil ((hA.deeper (d := 19) _).u64) ?_
    refine hR _ tk' (fun b o hb e => ?_) ?_
    · have hbs : @LT.lt Nat _ b s.heap.objs.size := Heap.lt_size e
      have h1 := k13 b o (hsub.keep b o e)
      have hb3 : @LT.lt Nat _ b h3.objs.size := Heap.lt_size h1
      exact Heap.get?_push_of_some _ (hk b o hb (by show @LT.lt Nat _ b I; omega) (kH b o h1))
    · have h1 : @LT.lt Nat _ D h'.objs.size := plt_lt hp
      have h2 : @LE.le Nat _ H.objs.size D := hD
      dsimp only
      rw [Heap.size_push]
      show @LE.le Nat _ s.heap.objs.size _
      omega
  case turn =>
    rintro C i v h tk' m hi ⟨tv, rfl⟩ hC hns hv ⟨V, hk⟩ hsz
    have ki : (0 + (i : Int) * 1).toNat = i := by omega
    have hin : i < ns.length := by rw [← hni.length]; exact hi
    have kb : ∀ b o, b ≠ a.dx → h3.get? b = some o → h.get? b = some o := fun b o hb e => by
      have hb3 : @LT.lt Nat _ b h3.objs.size := Heap.lt_size e
      exact hk b o hb (by show @LT.lt Nat _ b I; omega) (kH b o e)
    have lst : ∀ {b : Nat} {us : List Value}, h3.PlainList b us.toArray → b ≠ a.dx := fun ⟨nn, e⟩ q => by
      have := R3.dict
      rw [← q, e] at this
      exact absurd (congrArg Obj.cls (Option.some.inj this)) (by show ¬ Value.type "list" = Value.type "dict"; simp)
    have Fh : Fr g L h m₀ := ⟨F3.ns.at' fun o e => kb L o (Ne.symm hdxL) e, fun b o e => kb b o (fun q => by rw [← q, e] at fdx; cases fdx) (F3.keep b o e), F3.above⟩
    have Xh := Cl.mv X3 (h' := h) (D := [a.dx]) (fun b o hb e => kb b o (by simpa using hb) e) (fun n c hc q => by
      have h1 : @LT.lt Nat _ L c := X3.above n c hc
      have h2 : c = a.dx := List.mem_singleton.mp q
      have h3 : @LT.lt Nat _ a.dx s.heap.objs.size := Rg.lt _ (by simp [GA.fp])
      rw [h2] at h1
      omega)
    have hnh : h.PlainList nl nvs.toArray := let ⟨nn, e⟩ := hn3; ⟨nn, kb _ _ (lst hn3) e⟩
    have hrh : h.PlainList rl rvs.toArray := let ⟨nn, e⟩ := hr3; ⟨nn, kb _ _ (lst hr3) e⟩
    obtain ⟨nv, hnv⟩ : ∃ nv, nvs[i]? = some nv := ⟨nvs[i], by simp [hi]⟩
    obtain ⟨k, hk1⟩ : ∃ k, ns[i]? = some k := ⟨ns[i], by simp [hin]⟩
    obtain ⟨tn, rfl⟩ : ∃ t, nv = .int k t := ints_get hni hnv hk1
    obtain ⟨l, hl1⟩ : ∃ l, near[i]? = some l := ⟨near[i]'(by rw [hlen]; exact hin), by simp [hlen, hin]⟩
    obtain ⟨rv, hrv, rb, us, rfl, hus, hui⟩ := hrr3.get hl1
    have hush : h.PlainList rb us.toArray := let ⟨nn, e⟩ := hus; ⟨nn, kb _ _ (lst hus) e⟩
    obtain ⟨j, nb, hj, hpm⟩ := hadj i k l hk1 hl1
    obtain ⟨bj, hbj⟩ : ∃ bj, a.ia[j]? = some bj := by
      have : j < a.ia.length := by rw [V.lni]; exact (List.getElem?_eq_some_iff.mp hj).1
      exact ⟨a.ia[j], by simp [this]⟩
    refine isTrue_Compare_S (Call_S ?_)
    refine nameE_B Fh KX T (by k_is) (by boot_by_name) (by decide) ?_ rfl (by rfl) rfl rfl
    refine callWith_bS (args_S (Subscript_S ?_))
    have cG : h.IsCell (L + 1) (some (.ref a.x)) := by have := Xh.cell (Str.ofString "G") (L + 1) (by rfl); rwa [c1] at this
    have cN : h.IsCell (L + 1 + 1) (some (.ref nl)) := by have := Xh.cell (Str.ofString "names") (L + 1 + 1) (by rfl); rwa [c2] at this
    have cR : h.IsCell (L + 1 + 1 + 1) (some (.ref rl)) := by have := Xh.cell (Str.ofString "near") (L + 1 + 1 + 1) (by rfl); rwa [c3] at this
    refine .of (ldCellK (c := L + 1) (by rfl) cG ?_)
    refine Subscript_ (ldCellK (c := L + 1 + 1) (by rfl) cN ?_)
    refine ldVarK hns hv ?_
    refine pl_item (s := { s with heap := h, toks := tk' }) hnh (by omega) (by omega) (by rw [ki]; exact hnv) ?_
    obtain ⟨odh, hodh⟩ : ∃ od, h.get? a.dx = some od := by
      rcases V.dict with e | ⟨od, e, _⟩
      · exact ⟨_, e⟩
      · exact ⟨_, e⟩
    have Vi : InstAt h a.x (instObj 624 a.dx) 624 (some odh) := ⟨V.inst, rfl, rfl, hodh⟩
    refine sub_KS (s := { s with heap := h, toks := tk' }) (kin_keeps KX Fh.keep) Vi kg1 kg2 kg3 (wpS_call ?_)
    have hA1 : ∀ e, AOk (A.deeper e) 19 := fun e => hA.deeper e
    refine getitem_S (s := { s with heap := h, toks := tk' }) (((hA1 _).less (d' := 6) (by omega)).in1) (Fr.sub Fh) KX T V fdx hsys hbj hj rfl fun h4 tk4 V4 k4 hsz4 => ?_
    dsimp only at k4 hsz4
    refine .of (args_nil ?_)
    obtain ⟨vs4, hvl4, hd4⟩ := V4.inner j bj _ hbj hj
    obtain ⟨ep4, ha4⟩ := hd4.dictAt
    dsimp only at hvl4 ha4
    have lz : (nb.zip vs4).length = nb.length := by rw [List.length_zip, hvl4]; omega
    have nbl : nb.length ≤ 8 := by have := hpm.length_eq; rw [List.length_map] at this; have := (hb l (List.mem_of_getElem? hl1)).1; omega
    have hbjf : bj ∈ a.dp := by simp [GA.dp, List.mem_of_getElem? hbj]
    refine src_sorted (s := { s with heap := h4, toks := tk4 }) (ns := nb) (src_dict (dep := 1) (V4.nomods _ hbjf) ha4) ((hA1 _).less (by omega)) (by rw [lz]; omega) (fun vs hvl hv => ints_of_keys (by rw [hvl, lz]) hv) fun h5 tk5 D5 o5 n5 k5 hD5 p5 i5 pm5 so5 => ?_
    dsimp only at k5 hD5
    have k15 : ∀ b o, b ≠ a.dx → h3.get? b = some o → h5.get? b = some o := fun b o hb e => k5 b o (k4 b o hb (kb b o hb e))
    have F5 : Fr g L h5 m₀ := ⟨F3.ns.at' fun o e => k15 L o (Ne.symm hdxL) e, fun b o e => k15 b o (fun q => by rw [← q, e] at fdx; cases fdx) (F3.keep b o e), F3.above⟩
    have cell5 : ∀ (c : Nat) (v : Value), @LT.lt Nat _ L c → h.IsCell c (some v) → h5.IsCell c (some v) := fun c v hc ⟨o, ho, hd⟩ => by
      have h3 : @LT.lt Nat _ a.dx s.heap.objs.size := Rg.lt _ (by simp [GA.fp])
      have h4 : @Ne Nat c a.dx := by omega
      exact ⟨o, k5 _ _ (k4 _ _ h4 ho), hd⟩
    have h5n : h5.PlainList nl nvs.toArray := let ⟨nn, e⟩ := hn3; ⟨nn, k15 _ _ (lst hn3) e⟩
    have h5r : h5.PlainList rl rvs.toArray := let ⟨nn, e⟩ := hr3; ⟨nn, k15 _ _ (lst hr3) e⟩
    have h5u : h5.PlainList rb us.toArray := let ⟨nn, e⟩ := hus; ⟨nn, k15 _ _ (lst hus) e⟩
    have hns5 : h5.Ns C m := hns.at' fun o e => k5 _ _ (k4 _ _ (by
      have h1 : @LE.le Nat _ H.objs.size C := hC
      exact (by omega : @Ne Nat C a.dx)) e)
    refine Call_ ?_
    refine nameE_B F5 KX T (by k_is) (by boot_by_name) (by decide) ?_ rfl (by rfl) rfl rfl
    refine callWith_method1 ?_
    refine args_cons ?_
    refine ListComp_u (cl := [(Str.ofString "names", L + 1 + 1)]) (by rfl) rfl (by decide) (by decide) ?_
    refine Subscript_ (ldCellK (c := L + 1 + 1 + 1) (by rfl) (cell5 _ _ (by omega) cR) ?_)
    refine ldVarK hns5 hv ?_
    refine pl_item (s := { s with heap := h5, toks := tk5 }) h5r (by omega) (by omega) (by rw [ki]; exact hrv) ?_
    refine wpAny_pyIter_list (pl_list h5u) ?_
    dsimp only
    have hrbI : @Ne Nat rb h5.objs.size := Nat.ne_of_lt (plt_lt h5u)
    have hD5s : @LT.lt Nat _ D5 h5.objs.size := plt_lt p5
    have us8 : us.length ≤ 8 := by rw [hui.length, List.length_map]; exact (hb l (List.mem_of_getElem? hl1)).1
    have usl : us.length = l.length := by rw [hui.length, List.length_map]
    refine ⟨us.toArray.size, _, _, csrc_name (s₂ := { s with heap := h5.push (listIt rb), toks := tk5 }) (Walks.list (by exact hA.2.1) h5.objs.size rb hrbI us.toArray) (by rw [List.size_toArray]; omega)
      ⟨⟨_, Heap.get?_push_size _ rfl, rfl, rfl⟩, (pl_list h5u).at fun o e => Heap.get?_push_of_some _ e⟩ (fun b hb' => ?hf5)
      (fun (j : Nat) (y : Value) (_ : Heap) => ∃ b t, l[j]? = some b ∧ y = .int (ns.getD b 0) t) (fun _ _ _ _ e _ => e) rfl (by rfl) ?hel, ?hfin⟩
    case hf5 =>
      have e : (h5.push (listIt rb)).objs.size = h5.objs.size + 1 := Heap.size_push ..
      simp only [List.mem_cons, List.not_mem_nil, or_false] at hb'
      show @LT.lt Nat _ b (h5.push (listIt rb)).objs.size
      have := plt_lt h5u
      rcases hb' with rfl | rfl
      · omega
      · have : @LT.lt Nat _ b h5.objs.size := this
        omega
    case hel =>
      intro C' j v' h6 tk6 m6 Q' E' hC' hP hns6 hv6 hold hQ
      have hP' : us[j]? = some v' := by simpa using hP
      have hjl : j < l.length := by rw [← usl]; exact (List.getElem?_eq_some_iff.mp hP').1
      have hlj : l[j]? = some l[j] := by simp [hjl]
      obtain ⟨t6, rfl⟩ := ints_get hui hP' (k := (l[j] : Int)) (by simp [hlj])
      have hbl := (hb l (List.mem_of_getElem? hl1)).2 l[j] (List.mem_of_getElem? hlj)
      have o6 : ∀ b o, @LT.lt Nat _ b h5.objs.size → h5.get? b = some o → h6.get? b = some o := fun b o hb e => hold b o (by rw [List.mem_singleton]; exact (by omega : @Ne Nat b h5.objs.size)) (Heap.get?_push_of_some _ e)
      have cN6 : h6.IsCell (L + 1 + 1) (some (.ref nl)) := by
        obtain ⟨o, ho, hd⟩ := cell5 _ _ (by omega) cN
        exact ⟨o, o6 _ _ (Heap.lt_size ho) ho, hd⟩
      have h6n : h6.PlainList nl nvs.toArray := let ⟨nn, e⟩ := h5n; ⟨nn, o6 _ _ (Heap.lt_size e) e⟩
      refine Subscript_ (ldCellK (c := L + 1 + 1) (by rfl) cN6 ?_)
      refine ldVarK hns6 hv6 ?_
      obtain ⟨nv2, hnv2⟩ : ∃ v, nvs[l[j]]? = some v := ⟨nvs[l[j]]'(by rw [hni.length]; exact hbl), by simp [hni.length, hbl]⟩
      obtain ⟨t7, rfl⟩ := ints_get hni hnv2 (k := ns[l[j]]) (by simp [hbl])
      refine pl_item (s := { s with heap := h6, toks := tk6 }) h6n (by omega) (by omega) (by rw [Int.toNat_natCast]; exact hnv2) ?_
      exact hQ h6 tk6 _ (fun b o e => e) ⟨l[j], t7, hlj, by rw [List.getD_eq_getElem?_getD]; simp [hbl]⟩
    case hfin =>
      intro C' D' h6 h7 ys tk7 tw hpD hyl ⟨hold, hyn, hel⟩ hs67
      obtain ⟨tw1, tw2, tw3, tw4, tw5⟩ := tw
      have e5 : (h5.push (listIt rb)).objs.size = h5.objs.size + 1 := Heap.size_push ..
      dsimp only at tw1 tw2 tw3 tw4 hold
      rw [e5] at tw1 tw2 tw3 tw4
      have k57 : ∀ b o, @LT.lt Nat _ b h5.objs.size → h5.get? b = some o → h7.get? b = some o := fun b o hb e =>
        hs67.extBut b o (by exact (by omega : @Ne Nat b C')) (hold b o (by rw [List.mem_singleton]; exact (by omega : @Ne Nat b h5.objs.size)) (Heap.get?_push_of_some _ e))
      have yi : IntsAre ys (l.map fun b => ns.getD b 0) := ints_of_get (by rw [hyn, List.size_toArray, List.length_map, usl]) fun j v hv => by
        obtain ⟨b, t, hb, rfl⟩ := hel j v hv
        exact ⟨_, t, by simp [hb], rfl⟩
      refine args_nil ?_
      refine pl_sorted (s := { s with heap := h7, toks := tk7 }) hpD yi (by rw [hyn, List.size_toArray]; omega) fun h8 D8 o8 n8 k8 hD8 p8 i8 pm8 so8 => ?_
      dsimp only at k8 hD8
      have k58 : ∀ b o, @LT.lt Nat _ b h5.objs.size → h5.get? b = some o → h8.get? b = some o := fun b o hb e => k8 b o (k57 b o hb e)
      refine ne_intsK (s := { s with heap := h8, toks := tk7 }) (pl_list (let ⟨nn, e⟩ := p5; ⟨nn, k58 _ _ hD5s e⟩ : h8.PlainList D5 o5.toArray)) i5 (pl_list p8) i8 ((hA1 _).u64) ?_
      have e58 : n5 = n8 := sorted_perm_eq so5 so8 (pm5.trans (hpm.trans pm8.symm))
      refine wpAny_truthy_bool ?_
      rw [e58, decide_eq_true rfl]
      refine ⟨rfl, h8, tk7, rfl, ⟨V4.mv fun b o hb' e => k58 b o (Heap.lt_size (k5 b o e)) (k5 b o e), fun b o hbd hbI e => ?_⟩, fun b o hb' e => ?_⟩
      · have e4 := k4 b o hbd (hk b o hbd hbI e)
        exact k58 b o (Heap.lt_size (k5 b o e4)) (k5 b o e4)
      · have hbd : b ≠ a.dx := by
          rcases hb' with hb' | hb'
          · have h1 : @LE.le Nat _ H.objs.size b := hb'
            exact (by omega : @Ne Nat b a.dx)
          · rw [List.mem_singleton.mp hb']
            exact (by omega : @Ne Nat I a.dx)
        have e4 := k4 b o hbd e
        exact k58 b o (Heap.lt_size (k5 b o e4)) (k5 b o e4)
end Mine
end

section
open PySem PySem.W PySem.Calls PyProof.Rows
set_option Elab.async false
set_option maxRecDepth 100000
set_option maxHeartbeats 4000000
namespace Mine
section
variable {prog : Program} {w : World} {A : Around} {E : Value → Shared → Prop} {s : Shared} {env : Env} {L : Addr} {g : Heap} {m : Str → Option Value}
theorem ldG {x : Str} {pos : Pos} {v : Value} {Q : Value → Shared → Prop} (F : Fr g L s.heap m) (hL : env.locals = L) (hv : m x = some v) (h : Q v s) (hk : env.scope.kind = .function) (hl : env.kindOf x = some .local) (hd : (x == ("__debug__" : Str)) = false := by decide) :
    wpAny (model prog w) A (eval (.Name x pos) env) Q E s := eval_local (hL ▸ F.ns) hv h hk hl hd
theorem stG {x : Str} {v : Value} {Q : Unit → Shared → Prop} (F : Fr g L s.heap m) (hL : env.locals = L)
    (h : ∀ h', Fr g L h' (fun y => if y = x then some v else m y) → Mv [L] s.heap h' → Q () { s with heap := h', toks := s.toks + 1 })
    (hk : env.scope.kind = .function) (hl : env.kindOf x = some .local) : wpAny (model prog w) A (storeName env x v) Q E s := by
  subst hL
  exact wpAny_storeName_local hl F.ns (fun h' hn hs => h h' (F.set hn hs) (Mv.same hs (List.mem_singleton.mpr rfl))) (by rw [hk]; rfl)

theorem for_enum (hL : env.locals = L) {xi xv : Str} {pi pv pt pos : Pos} {k0 : Nat} {iter : Expr} {body : List Stmt} {Q : Flow → Shared → Prop}
    (hk : env.scope.kind = .function) (hxi : env.kindOf xi = some .local) (hxv : env.kindOf xv = some .local) (hh : A.handled = none)
    (h : wpAny (model prog w) A (eval iter env) (fun ev s₁ => ∃ (e it l : Addr) (vs : List Value) (m : Str → Option Value) (J : Nat → List Value → (Str → Option Value) → Prop), ev = .ref e ∧ IsEnum s₁.heap e it 0 .none ∧ s₁.heap.IsListIter it l 0 ∧ s₁.heap.PlainList l vs.toArray ∧ s₁.heap.Ns L m ∧
      (e ≠ it ∧ e ≠ L ∧ it ≠ L ∧ l ≠ L ∧ l ≠ e ∧ l ≠ it) ∧ J 0 vs m ∧
      (∀ i vs' v t m₁ h₁ tk₁, vs'[i]? = some v → vs'.length = vs.length → J i vs' m₁ → h₁.Ns L (fun y => if y = xv then some v else if y = xi then some (.int i t) else m₁ y) → h₁.PlainList l vs'.toArray →
        (∀ b o, b ∉ [L, l, e, it] → s₁.heap.get? b = some o → h₁.get? b = some o) →
        wpAny (model prog w) A (execs body env) (fun f s₂ => f = .next ∧ ∃ h' tk' m₂ vs₂, s₂ = { s₁ with heap := h', toks := tk' } ∧ h'.Ns L m₂ ∧ h'.PlainList l vs₂.toArray ∧ vs₂.length = vs.length ∧ J (i + 1) vs₂ m₂ ∧ Mv [L, l] h₁ h') (fun _ _ => False) { s₁ with heap := h₁, toks := tk₁ }) ∧
      (∀ h' tk' m' vs', h'.Ns L m' → h'.PlainList l vs'.toArray → vs'.length = vs.length → J vs.length vs' m' → (∀ b o, b ∉ [L, l, e, it] → s₁.heap.get? b = some o → h'.get? b = some o) → Q .next { s₁ with heap := h', toks := tk' })) E s)
    (hs : ∀ x, foldedSetIterable iter env x = pure x := by intro _; rfl) :
    wpAny (model prog w) A (exec (.For (.Tuple [.Name xi pi, .Name xv pv] k0 pt) iter body [] pos) env) Q E s := by
  subst hL
  refine wpAny_For (wpAny_mono h (fun ev s₁ h₁ => ?_) fun _ _ e => e) hs
  obtain ⟨e, it, l, vs, m, J, rfl, he, hit, hl, hn, ⟨hei, heL, hiL, hlL, hle, hli⟩, h0, step, done⟩ := h₁
  refine wpAny_pyIter_enum he ?_
  have hp : (env.scope.kind == .class || (env.scope.kind == .module && env.locals != env.globals)) = false := by rw [hk]; rfl
  refine codeAny_forLoop_any
    (fun k s' => ∃ h' tk m' i old vs', s' = { s₁ with heap := h', toks := tk } ∧ IsEnum h' e it ((i : Nat) : Int) old ∧ h'.IsListIter it l i ∧ h'.PlainList l vs'.toArray ∧ vs'.length = vs.length ∧ h'.Ns env.locals m' ∧ J i vs' m' ∧ i ≤ vs.length ∧
      k = vs.length + 1 - i ∧ ∀ b o, b ∉ [env.locals, l, e, it] → s₁.heap.get? b = some o → h'.get? b = some o) ?_ (vs.length + 1)
    ⟨s₁.heap, s₁.toks, m, 0, .none, vs, rfl, he, hit, hl, rfl, hn, h0, Nat.zero_le _, rfl, fun _ _ _ x => x⟩
  rintro k s' ⟨H, tk, m', i, old, vs', rfl, he', hit', hl', hlen, hn', hJ, hi, rfl, hkp⟩
  cases hv : vs'[i]? with
  | none =>
    have hsz : i = vs.length := Nat.le_antisymm hi (by have := List.getElem?_eq_none_iff.mp hv; omega)
    refine wpAny_pyNext_enum_end hh he' hit' (pl_list hl') (by simpa using hv) fun h₁ he₁ => wpAny_execs_nil ?_
    exact done h₁ tk m' vs' (hn'.extBut he₁ (Ne.symm hiL)) (pl_ext hl' he₁ hli) hlen (hsz ▸ hJ) fun b o hb x => he₁ b o (fun q => hb (by simp [q])) (hkp b o hb x)
  | some v =>
    have hlt : i < vs.length := by rw [← hlen]; exact (List.getElem?_eq_some_iff.mp hv).1
    have heH : @LT.lt Nat _ e H.objs.size := Heap.lt_size he'
    have hLH : @LT.lt Nat _ env.locals H.objs.size := hn'.lt
    obtain ⟨oi, hoi, _⟩ := id hit'
    have hiH : @LT.lt Nat _ it H.objs.size := Heap.lt_size hoi
    have hlH : @LT.lt Nat _ l H.objs.size := plt_lt hl'
    refine wpAny_pyNext_enum_item he' hit' (pl_list hl') (x := v) (by simpa using hv) hei fun h₁ heo hit₁ ht₁ hz₁ hk₁ => ?_
    refine wpAny_letOwnedTupleGo_enum heo fun h₂ he₂ hs₂ => ?_
    replace hs₂ : Heap.SameBut e h₁ h₂ := hs₂
    have ht₂ : h₂.IsTuple H.objs.size #[.int i tk, v] := ⟨_, (hs₂.2 _ (Nat.ne_of_gt heH)).trans ht₁, rfl, _, rfl⟩
    have hz₂ : h₂.objs.size = H.objs.size + 1 := hs₂.1.trans hz₁
    refine wpAny_assign_Tuple hh ht₂ rfl rfl fun h₃ hx₃ => ?_
    replace hx₃ : Heap.ExtBut h₂.objs.size h₂ h₃ := hx₃
    have old₃ : ∀ b o, @LT.lt Nat _ b H.objs.size → h₂.get? b = some o → h₃.get? b = some o := fun b o hb x => hx₃ b o (by rw [hz₂]; exact Nat.ne_of_lt (Nat.lt_succ_of_lt hb)) x
    have hn₃ : h₃.Ns env.locals m' := (hn'.at fun o x => hk₁ _ o (Ne.symm heL) (Ne.symm hiL) x).sameBut hs₂ (Ne.symm heL) |>.at fun o x => old₃ _ o hLH x
    show wpAny _ A (do holding [v] (assign (.Name xi pi) env (.int i tk)); do holding [] (assign (.Name xv pv) env v); pure ()) _ _ _
    refine wpAny_bind (wpAny_holding (wpAny_assign_Name (wpAny_storeName_local hxi hn₃ (fun h₄ hn₄ hs₄ => ?_) hp)))
    replace hs₄ : Heap.SameBut env.locals h₃ h₄ := hs₄
    refine wpAny_bind (wpAny_holding (wpAny_assign_Name (wpAny_storeName_local hxv hn₄ (fun h₅ hn₅ hs₅ => wpAny_pure ?_) hp)))
    replace hs₅ : Heap.SameBut env.locals h₄ h₅ := hs₅
    have up5 : ∀ b o, b ≠ env.locals → b ≠ e → b ≠ it → H.get? b = some o → h₅.get? b = some o := fun b o hbL hbe hbi x =>
      hs₅.extBut b o hbL (hs₄.extBut b o hbL (old₃ b o (Heap.lt_size x) (hs₂.extBut b o hbe (hk₁ b o hbe hbi x))))
    have hl5 : h₅.PlainList l vs'.toArray := let ⟨n, x⟩ := hl'; ⟨n, up5 _ _ hlL hle hli x⟩
    have he5 : IsEnum h₅ e it ((i : Int) + 1) v := hs₅.extBut _ _ heL (hs₄.extBut _ _ heL (old₃ _ _ heH he₂))
    have hit5 : h₅.IsListIter it l (i + 1) := (hit₁.extBut hs₂.extBut (Ne.symm hei)).at fun o x => hs₅.extBut _ _ hiL (hs₄.extBut _ _ hiL (old₃ _ _ hiH x))
    refine wpAny_mono (step i vs' v tk m' h₅ _ hv hlen hJ hn₅ hl5 fun b o hb x => ?_) (fun f s₃ h₆ => ?_) fun _ _ x => x.elim
    · simp only [List.mem_cons, List.not_mem_nil, or_false, not_or] at hb
      exact up5 b o hb.1 hb.2.2.1 hb.2.2.2 (hkp b o (by simpa using hb) x)
    · obtain ⟨rfl, h₆, tk₆, m₂, vs₂, rfl, hn₆, hl₆, hlen₆, hJ₆, mv⟩ := h₆
      refine ⟨vs.length + 1 - (i + 1), by omega, h₆, tk₆, m₂, i + 1, v, vs₂, rfl, ?_, ?_, hl₆, hlen₆, hn₆, hJ₆, hlt, rfl, fun b o hb x => ?_⟩
      · have : ((i + 1 : Nat) : Int) = (i : Int) + 1 := by push_cast; rfl
        rw [this]; exact mv e _ (by simpa using ⟨heL, Ne.symm hle⟩) he5
      · exact hit5.at fun o x => mv it _ (by simpa using ⟨hiL, Ne.symm hli⟩) x
      · have hb' := hb
        simp only [List.mem_cons, List.not_mem_nil, or_false, not_or] at hb'
        exact mv b o (by simpa using ⟨hb'.1, hb'.2.1⟩) (up5 b o hb'.1 hb'.2.2.1 hb'.2.2.2 (hkp b o hb x))
end
end Mine
end

section
open PySem PySem.W PyProof.Rows
set_option Elab.async false
set_option maxRecDepth 100000
set_option maxHeartbeats 4000000
namespace Mine
inductive El where
  | let_ (b : Bool)
  | num (n : Nat)
  deriving DecidableEq
def go1 : List Bool → Nat → Bool → List El × Nat × Bool
  | [], w, p => ([], w, p)
  | true :: r, w, p => let q := go1 r (if p then w else w + 1) true; (.let_ true :: q.1, q.2)
  | false :: r, w, _ => let q := go1 r w false; (.num w :: q.1, q.2)
def go2 : List El → Nat → Bool → List Nat × Nat × Bool
  | [], w, p => ([], w, p)
  | .let_ _ :: r, w, _ => let q := go2 r w true; (w :: q.1, q.2)
  | .num a :: r, w, p => let q := go2 r (if p then w + 1 else w) false; (a :: q.1, q.2)
def wts (bs : List Bool) : List Nat × Nat :=
  let a := go1 bs.reverse 0 false
  let b := go2 a.1.reverse a.2.1 a.2.2
  (b.1, if b.2.2 then b.2.1 + 1 else b.2.1)
theorem go1_len : ∀ (l : List Bool) (w : Nat) (p : Bool), (go1 l w p).1.length = l.length
  | [], _, _ => rfl
  | true :: r, w, p => by simp [go1, go1_len r]
  | false :: r, w, p => by simp [go1, go1_len r]
theorem go2_len : ∀ (l : List El) (w : Nat) (p : Bool), (go2 l w p).1.length = l.length
  | [], _, _ => rfl
  | .let_ _ :: r, w, p => by simp [go2, go2_len r]
  | .num _ :: r, w, p => by simp [go2, go2_len r]
theorem wts_len (bs : List Bool) : (wts bs).1.length = bs.length := by simp [wts, go2_len, go1_len]
theorem go1_noi : ∀ (l : List Bool) (w : Nat) (p : Bool) (e : El), e ∈ (go1 l w p).1 → e ≠ .let_ false
  | [], _, _, _, h => by simp [go1] at h
  | true :: r, w, p, e, h => by
    simp only [go1, List.mem_cons] at h
    rcases h with rfl | h
    · simp
    · exact go1_noi r _ _ e h
  | false :: r, w, p, e, h => by
    simp only [go1, List.mem_cons] at h
    rcases h with rfl | h
    · simp
    · exact go1_noi r _ _ e h

def fw (W a : Nat) : UInt64 := Float64.mul (Float64.ofInt (a : Int)) (Float64.ofFrac false 1 W)
def fsum (W a b : Nat) : UInt64 := Float64.mul (Float64.sub (Float64.add (fw W a) (fw W b)) (Float64.ofInt 1)) (Float64.ofInt (2 ^ 30))
def fchk (W a b : Nat) : Bool := (Float64.cmpInt (fsum W a b) (-1) == some Ordering.gt) == decide (W ≤ a + b)
theorem fchk8 : ((List.range 10).all fun W => W == 0 || (List.range (W + 1)).all fun a => (List.range (W + 1)).all fun b => fchk W a b) = true := by decide +kernel
theorem finf : ((List.range 10).all fun W => W == 0 || !(Float64.isInf (Float64.ofFrac false 1 W))) = true := by decide +kernel
theorem finf_of {W : Nat} (h0 : 1 ≤ W) (h1 : W ≤ 9) : ¬ Float64.isInf (Float64.ofFrac false 1 W) = true := by
  have := List.all_eq_true.mp finf W (List.mem_range.mpr (by omega))
  rw [Bool.or_eq_true] at this
  rcases this with h | h
  · exact absurd (beq_iff_eq.mp h) (by omega)
  · simpa using h
theorem fchk_of {W a b : Nat} (h0 : 1 ≤ W) (h1 : W ≤ 9) (ha : a ≤ W) (hb : b ≤ W) : (Float64.cmpInt (fsum W a b) (-1) == some Ordering.gt) = decide (W ≤ a + b) := by
  have := List.all_eq_true.mp fchk8 W (List.mem_range.mpr (by omega))
  rw [Bool.or_eq_true] at this
  rcases this with h | h
  · exact absurd (beq_iff_eq.mp h) (by omega)
  · have h := List.all_eq_true.mp (List.all_eq_true.mp h a (List.mem_range.mpr (by omega))) b (List.mem_range.mpr (by omega))
    exact beq_iff_eq.mp h

def allB : Nat → List (List Bool)
  | 0 => [[]]
  | n + 1 => (allB n).flatMap fun l => [true :: l, false :: l]
theorem mem_allB : ∀ (l : List Bool), l ∈ allB l.length
  | [] => by simp [allB]
  | b :: r => by
    have := mem_allB r
    simp only [List.length_cons, allB, List.mem_flatMap]
    exact ⟨r, this, by cases b <;> simp⟩
def okW (bs : List Bool) : Bool :=
  let q := wts bs
  decide (1 ≤ q.2) && decide (q.2 ≤ 9) && q.1.all (fun a => decide (a ≤ q.2)) && (List.range bs.length).all fun a => (List.range a).all fun b => decide (q.2 ≤ q.1.getD a 0 + q.1.getD b 0) == bs.getD a false
theorem okW8 : ((List.range 8).all fun n => (allB n).all fun l => okW (true :: l)) = true := by decide +kernel
theorem okW_of {bs : List Bool} (h0 : bs.length ≤ 8) (h1 : bs[0]? = some true) : okW bs = true := by
  cases bs with
  | nil => simp at h1
  | cons b l =>
    simp at h1
    subst h1
    exact List.all_eq_true.mp (List.all_eq_true.mp okW8 l.length (List.mem_range.mpr (by simp at h0; omega))) l (mem_allB l)
theorem wts_facts {bs : List Bool} (h0 : bs.length ≤ 8) (h1 : bs[0]? = some true) :
    1 ≤ (wts bs).2 ∧ (wts bs).2 ≤ 9 ∧ (∀ a ∈ (wts bs).1, a ≤ (wts bs).2) ∧ ∀ a b, a < bs.length → b < a → (decide ((wts bs).2 ≤ (wts bs).1.getD a 0 + (wts bs).1.getD b 0)) = bs.getD a false := by
  have h := okW_of h0 h1
  unfold okW at h
  simp only [Bool.and_eq_true, decide_eq_true_eq, List.all_eq_true, List.mem_range, beq_iff_eq] at h
  exact ⟨h.1.1.1, h.1.1.2, h.1.2, fun a b ha hb => h.2 a ha b hb⟩
end Mine
end

section
open PySem PySem.W PySem.Calls PyProof.Rows
set_option Elab.async false
set_option maxRecDepth 100000
set_option maxHeartbeats 8000000
namespace Mine
theorem fillK_UC : PySem.Challenge.rw_au6018_01 = PySem.Challenge.rw_au6018_01 → hd.heap_39 = hd.heap_39 → True := by
  k_fill
  intro _ _; trivial
def unrun : List Int → Bool → List Bool
  | [], _ => []
  | n :: r, b => List.replicate n.toNat b ++ unrun r (!b)
def okR (bs : List Bool) : Bool := decide (unrun (runsOf bs) true = bs) && (runsOf bs).all (fun x => decide (1 ≤ x ∧ x ≤ 8)) && decide ((runsOf bs).length ≤ 8) && decide (1 ≤ (runsOf bs).length)
theorem okR8 : ((List.range 8).all fun n => (allB n).all fun l => okR (true :: l)) = true := by decide +kernel
theorem okR_of {bs : List Bool} (h0 : bs.length ≤ 8) (h1 : bs[0]? = some true) : unrun (runsOf bs) true = bs ∧ (∀ x ∈ runsOf bs, 1 ≤ x ∧ x ≤ 8) ∧ (runsOf bs).length ≤ 8 ∧ 1 ≤ (runsOf bs).length := by
  cases bs with
  | nil => simp at h1
  | cons b l =>
    simp at h1
    subst h1
    have := List.all_eq_true.mp (List.all_eq_true.mp okR8 l.length (List.mem_range.mpr (by simp at h0; omega))) l (mem_allB l)
    unfold okR at this
    simp only [Bool.and_eq_true, decide_eq_true_eq, List.all_eq_true] at this
    exact ⟨this.1.1.1, this.1.1.2, this.1.2, this.2⟩
theorem Rel.append {α : Type} {R : Value → α → Prop} {vs us : List Value} {xs ys : List α} (a : Rel R vs xs) (b : Rel R us ys) : Rel R (vs ++ us) (xs ++ ys) := by
  refine ⟨by simp [a.1, b.1], fun i v x p q => ?_⟩
  rcases Nat.lt_or_ge i vs.length with hi | hi
  · rw [List.getElem?_append_left hi] at p
    rw [List.getElem?_append_left (by rw [← a.1]; exact hi)] at q
    exact a.2 i v x p q
  · rw [List.getElem?_append_right hi] at p
    rw [List.getElem?_append_right (by rw [← a.1]; exact hi), ← a.1] at q
    exact b.2 _ v x p q
theorem Rel.rep {α : Type} {R : Value → α → Prop} {v : Value} {x : α} (h : R v x) (n : Nat) : Rel R (List.replicate n v) (List.replicate n x) := by
  refine ⟨by simp, fun i u y p q => ?_⟩
  rw [List.getElem?_replicate] at p q
  split at p
  · rename_i hi
    rw [if_pos hi] at q
    cases p; cases q; exact h
  · cases p
section
variable {prog : Program} {w : World} {A : Around} {E : Value → Shared → Prop} {s : Shared}
theorem pl_imul {l : Addr} {vs : List Value} {x : Int} {u : Tok} {Q : Value → Shared → Prop} (hl : s.heap.PlainList l vs.toArray) (hlo : 0 ≤ x) (hhi : x ≤ 1000) (hz : vs.length ≤ 1000)
    (h : ∀ h', (∀ b o, s.heap.get? b = some o → h'.get? b = some o) → h'.PlainList s.heap.objs.size (List.replicate x.toNat vs).flatten.toArray → Q (.ref s.heap.objs.size) { s with heap := h' }) :
    wpAny (model prog w) A (binaryOp .Mult (.int x u) (.ref l)) Q E s := by
  obtain ⟨k, ho⟩ := hl
  have hsz' : vs.toArray.size * x.toNat ≤ 2 ^ 24 := by
    have h1 : x.toNat ≤ 1000 := by omega
    have h2 : vs.toArray.size * x.toNat ≤ 1000 * 1000 := Nat.mul_le_mul (by simpa using hz) h1
    omega
  refine lm_binaryOp_repeat_right (T := "list") (U := "int") (by decide) (fun s' => typeIs_int s' x u) ⟨_, ho, rfl⟩ F.fills_int_mul noFill_list_mul F.slot_int_mul lm_noRepeat_int repeat_list F.slot_int_index.lookup
    (call_meets F.slot_int_mul (typeIs_int s x u) F.entry_int_mul (F.args_int_mul_2 _ _) (lm_int_mul_list_any x u l vs.toArray k none #[])
      ⟨ho, rfl, ⟨_, ho, rfl⟩, call_meets F.slot_list_mul ⟨_, ho, rfl⟩ F.entry_list_mul (F.args_list_mul_2 _ _)
        (lm_list_mul_any l vs.toArray k none #[] x u (by simp [Builtin.List.listFitsIndex]; omega) (by omega) (by simp [Builtin.List.listTooLong, sizeLine]; omega))
        ⟨ho, ?_⟩⟩)
  refine h _ (fun b o e => Heap.get?_push_of_some _ e) ⟨0, ?_⟩
  rw [← listMul_foldl_if]
  exact Heap.get?_push_size _ rfl
theorem pl_extend {D b : Addr} {ys us : List Value} {Q : Value → Shared → Prop} (hD : s.heap.PlainList D ys.toArray) (hb : s.heap.PlainList b us.toArray) (hz : ys.length + us.length ≤ 1000)
    (h : ∀ h', h'.PlainList D (ys ++ us).toArray → Heap.SameBut D s.heap h' → Q .none { s with heap := h' }) : wpAny (model prog w) A (call (.builtin "list.extend") [.ref D, .ref b]) Q E s := by
  obtain ⟨n, hD⟩ := hD
  obtain ⟨n2, hb⟩ := hb
  have hsz' : ys.toArray.size + us.toArray.size ≤ sizeLine := by rw [sizeLine_eq]; simp; omega
  refine call_meets PySem.F.slot_list_extend ⟨_, hD, rfl⟩ PySem.F.entry_list_extend (PySem.F.args_list_extend_2 _ _) (AutoSeq1.list_extend_list_list_0 D ys.toArray n b us.toArray n2 (extend_door hsz') (Nat.le_trans (Nat.le_add_right _ _) hsz')) ⟨hD, hb, h _ ?_ (Heap.SameBut.update ..)⟩
  have q := pl_upd (⟨n, hD⟩ : s.heap.PlainList D ys.toArray) (fun x => x ++ us.toArray)
  have e : ys.toArray ++ us.toArray = (ys ++ us).toArray := by simp
  rw [e] at q
  exact q
end

theorem ints_get' {vs : List Value} {ns : List Int} (h : IntsAre vs ns) {i : Nat} {v : Value} {k : Int} (hv : vs[i]? = some v) (hk : ns[i]? = some k) : ∃ t, v = .int k t := by
  induction h generalizing i with
  | nil => simp at hv
  | cons n t _ ih =>
    cases i with
    | zero => simp at hv hk; subst hv hk; exact ⟨t, rfl⟩
    | succ i => exact ih (by simpa using hv) (by simpa using hk)
section
variable {prog : Program} {w : World} {A : Around} {E : Value → Shared → Prop} {s : Shared} {name : Str} {scope : Scope} {L f : Addr} {cd : Value} {g : Heap} {m : Str → Option Value}
theorem st_ext {o c : Str} {lt : Str} {p1 p2 p3 p4 p5 p6 p7 p8 p9 q1 q2 : Pos} {k k' : Nat} {ca da : Addr} {rvs cvs : List Value} {x : Int} {t : Tok} {Q : Flow → Shared → Prop}
    (F : Fr g L s.heap m) (hk : scope.kind = .function) (ho : (envOf name scope L f cd).kindOf o = some .local) (hc : (envOf name scope L f cd).kindOf c = some .local) (do_ : (o == ("__debug__" : Str)) = false) (dc : (c == ("__debug__" : Str)) = false)
    (mo : m o = some (.ref da)) (mc : m c = some (.ref ca)) (hpa : s.heap.PlainList ca (Value.int x t :: rvs).toArray) (hpd : s.heap.PlainList da cvs.toArray) (hx : 0 ≤ x ∧ x ≤ 100) (hz : rvs.length ≤ 100) (hz2 : cvs.length ≤ 100)
    (hcn : g.get? ca = none) (hdn : g.get? da = none) (cL : ca ≠ L) (dL : da ≠ L) (cad : ca ≠ da)
    (h : ∀ h' tk' tt, Fr g L h' m → h'.PlainList ca rvs.toArray → h'.PlainList da (cvs ++ List.replicate x.toNat (Value.str lt tt)).toArray → Q .next { s with heap := h', toks := tk' })
    (hi : interactive (envOf name scope L f cd) = false)
    (hs : swapsWith (.Call (.Attribute (.Name o p1) (Str.ofString "extend") p2) [.BinOp (.Call (.Attribute (.Name c p3) (Str.ofString "pop") p4) [.Constant (.int 0) k p5] [] p6) .Mult (.List [.Constant (.str lt) k' p7] p8) p9] [] q1) none q2.line (envOf name scope L f cd) = pure false)
    {pl pl2 : Sem Bool} (he : MethEq (.Name o p1) (Str.ofString "extend") p2 q1 [.BinOp (.Call (.Attribute (.Name c p3) (Str.ofString "pop") p4) [.Constant (.int 0) k p5] [] p6) .Mult (.List [.Constant (.str lt) k' p7] p8) p9] (envOf name scope L f cd) pl)
    (he2 : MethEq (.Name c p3) (Str.ofString "pop") p4 p6 [.Constant (.int 0) k p5] (envOf name scope L f cd) pl2) :
    wpAny (model prog w) A (exec (.Expr (.Call (.Attribute (.Name o p1) (Str.ofString "extend") p2) [.BinOp (.Call (.Attribute (.Name c p3) (Str.ofString "pop") p4) [.Constant (.int 0) k p5] [] p6) .Mult (.List [.Constant (.str lt) k' p7] p8) p9] [] q1) q2) (envOf name scope L f cd)) Q E s := by
  refine Expr_none ?_ hi hs
  refine MethodCall_ (ld F mo ?_ hk ho do_) he
  refine pl_method hpd PySem.F.slot_list_extend rfl ?_
  refine callWith_method1 ?_
  refine args_cons (wpAny_BinOp (MethodCall_ (ld F mc ?_ hk hc dc) he2))
  refine pl_method hpa PySem.F.slot_list_pop rfl ?_
  refine callWith_method1 ?_
  refine args_cons (wpAny_Constant_int ?_)
  refine args_nil ?_
  refine pl_pop0 (s := { s with toks := s.toks + 1 }) hpa (by omega) fun h₁ hp₁ hs₁ => ?_
  dsimp only at hs₁
  have mv₁ : Mv [ca] s.heap h₁ := Mv.same hs₁ (by simp)
  have F₁ := Fr.mv F mv₁ (by simpa using Ne.symm cL) (by simpa using hcn)
  have hpd₁ := pl_mv hpd mv₁ (by simpa using Ne.symm cad)
  refine List_ (args_cons (wpAny_Constant_str ?_))
  refine args_nil ?_
  refine wpAny_newList ?_ (by show (1 : Nat) ≤ _; rw [sizeLine_eq]; omega)
  dsimp only
  generalize hh2 : h₁.push _ = h₂
  have k2 : ∀ b o, h₁.get? b = some o → h₂.get? b = some o := fun b o e => by rw [← hh2]; exact Heap.get?_push_of_some _ e
  have hn2 : h₂.PlainList h₁.objs.size [Value.str lt (s.toks + 1)].toArray := by rw [← hh2]; exact pl_new h₁ _
  refine pl_imul (s := { s with heap := h₂, toks := _ }) hn2 hx.1 (by omega) (by simp) fun h₃ k3 hp3 => ?_
  dsimp only at k3 hp3
  refine args_nil ?_
  have e3 : (List.replicate x.toNat [Value.str lt (s.toks + 1)]).flatten = List.replicate x.toNat (Value.str lt (s.toks + 1)) := by simp
  rw [e3] at hp3
  have hpd3 := pl_keep (pl_keep hpd₁ k2) k3
  refine pl_extend (s := { s with heap := h₃, toks := _ }) hpd3 hp3 (by simp; omega) fun h₄ hp4 hs4 => ⟨rfl, ?_⟩
  dsimp only at hs4
  have mv4 : Mv [da] h₃ h₄ := Mv.same hs4 (by simp)
  exact h h₄ _ _ (Fr.mv ((F₁.keeps k2).keeps k3) mv4 (by simpa using Ne.symm dL) (by simpa using hdn)) (pl_mv (pl_keep (pl_keep hp₁ k2) k3) mv4 (by simpa using cad)) hp4
end
def UcI (s : Shared) (L : Nat) (bs : List Bool) (k : Nat) (s' : Shared) : Prop :=
  ∃ h tk m rs rvs cvs done ca da, s' = { s with heap := h, toks := tk } ∧ Fr s.heap L h m ∧ m (Str.ofString "ccscopy") = some (.ref ca) ∧ m (Str.ofString "cs") = some (.ref da) ∧ h.PlainList ca (rvs : List Value).toArray ∧ IntsAre rvs rs ∧
    h.PlainList da (cvs : List Value).toArray ∧ Rel StrV cvs done ∧ done ++ unrun rs true = bs ∧ k = rs.length ∧ (∀ x ∈ rs, 1 ≤ x ∧ x ≤ 8) ∧ rs.length ≤ 8 ∧ s.heap.get? ca = none ∧ s.heap.get? da = none ∧ ca ≠ L ∧ da ≠ L ∧ ca ≠ da

theorem uncompact_spec {w : World} {A : Around} {s : Shared} {R : Result → Shared → Prop} {mg mb} (hA : AOk A 2)
  (KX : (hd.heap_39 w.params).In s.heap) (T : TopRead hd.view_39 LOOSE mg mb s.heap)
  {l : Addr} {ys : List Value} {bs : List Bool} (hl : s.heap.PlainList l ys.toArray) (hys : IntsAre ys (runsOf bs)) (hn : bs[0]? = some true) (hn2 : bs.length ≤ 8)
  (hR : ∀ h tk r rs, (∀ b o, s.heap.get? b = some o → h.get? b = some o) → s.heap.get? r = none → h.PlainList r rs.toArray → Rel StrV rs bs → R (.ok (.ret (.ref r))) { s with heap := h, toks := tk }) :
  codeAny (model PG w) A (.call (.ref 659) ⟨[.ref l], []⟩) R s := by
  refine' enterK (binds := [(Str.ofString "creation_sequence", .ref l)]) KX T.nolimit ?k1 ?k2 ?k3 ?k4 ?k5 ?h ?k6 ?k7 ?k8 ?k9
  case k1 => k_is
  case k2 => k_is
  case k3 => exact hA.room
  case k4 => exact BindsTo.of_eq (by rfl)
  case k5 => exact locs (by rfl)
  case k6 => decide
  case k7 => rfl
  case k8 => rfl
  case k9 => rfl
  intro h₀ F
  generalize hL : s.heap.objs.size = L at F ⊢
  generalize hm : (fun y => List.lookup y [(Str.ofString "creation_sequence", Value.ref l)].reverse) = m₀ at F
  have m1 : m₀ (Str.ofString "creation_sequence") = some (.ref l) := by rw [← hm]; rfl
  clear hm
  obtain ⟨rf1, rf2, rf3, rf4⟩ := okR_of hn2 hn
  have hll : @LT.lt Nat _ l s.heap.objs.size := plt_lt hl
  have hlL : @Ne Nat l L := by omega
  have hl0 : h₀.PlainList l ys.toArray := pl_keep hl F.keep
  have yl : ys.length = (runsOf bs).length := hys.length
  obtain ⟨v0, hv0⟩ : ∃ v, ys[0]? = some v := ⟨ys[0]'(by omega), List.getElem?_eq_getElem (by omega)⟩
  obtain ⟨x0, hx0⟩ : ∃ x, (runsOf bs)[0]? = some x := ⟨(runsOf bs)[0]'(by omega), List.getElem?_eq_getElem (by omega)⟩
  obtain ⟨t0, rfl⟩ : ∃ t, v0 = .int x0 t := ints_get' hys hv0 hx0
  refine wpAny_execs_cons (wpAny_Assign_Name (Subscript_ (ld F m1 ?_)))
  refine wpAny_Constant_int ?_
  refine pl_item hl0 (by omega) (by omega) hv0 ?_
  refine stL (s := { s with heap := h₀, toks := _ }) F (fun h1 F1 mv1 => ?_) rfl (by rfl)
  have hl1 : h1.PlainList l ys.toArray := pl_mv hl0 mv1 (by simpa using hlL)
  refine wpAny_execs_cons (wpAny_If (isTrue_plain (Call_ ?_)))
  refine name_B F1 KX T (by k_is) (by boot_by_name) (by decide) ?_
  refine callWith_method1 ?_
  refine args_cons (ld F1 (by rw [if_pos rfl]) ?_)
  refine args_cons ?_
  refine name_B F1 KX T (by k_is) (by boot_by_name) (by decide) ?_
  refine args_nil ?_
  refine IsiPair.int_str ?_
  refine wpAny_truthy_bool ?_
  rw [if_neg Bool.false_ne_true]
  refine wpAny_execs_cons (wpAny_If (isTrue_plain (Call_ ?_)))
  refine name_B F1 KX T (by k_is) (by boot_by_name) (by decide) ?_
  refine callWith_method1 ?_
  refine args_cons (ld F1 (by rw [if_pos rfl]) ?_)
  refine args_cons ?_
  refine name_B F1 KX T (by k_is) (by boot_by_name) (by decide) ?_
  refine args_nil ?_
  refine IsiPair.int_tuple ?_
  refine wpAny_truthy_bool ?_
  rw [if_neg Bool.false_ne_true]
  refine wpAny_execs_cons (wpAny_If (isTrue_plain (Call_ ?_)))
  refine name_B F1 KX T (by k_is) (by boot_by_name) (by decide) ?_
  refine callWith_method1 ?_
  refine args_cons (ld F1 (by rw [if_pos rfl]) ?_)
  refine args_cons ?_
  refine name_B F1 KX T (by k_is) (by boot_by_name) (by decide) ?_
  refine args_nil ?_
  refine IsiPair.int_int ?_
  refine wpAny_truthy_bool ?_
  rw [if_pos rfl]
  refine wpAny_execs_cons ?_
  refine wpAny_Assign_Name ?_
  refine pl_slice_all (ld F1 (by rw [if_neg (by decide)]; exact m1) ⟨rfl, rfl⟩) hl1 (by omega) fun h2 ca tk2 k2 hca hp2 => ?_
  dsimp only at k2 hca
  have F2 := F1.keeps k2
  refine stL (s := { s with heap := h2, toks := _ }) F2 (fun h3 F3 mv3 => ?_) rfl (by rfl)
  refine wpAny_execs_nil ?_
  refine wpAny_execs_nil ?_
  refine wpAny_execs_nil ?_
  dsimp only
  have hL1 : @LT.lt Nat _ L h1.objs.size := F1.ns.lt
  have caL : @Ne Nat ca L := by omega
  have hLca : @LT.lt Nat _ L ca := by omega
  have hp3 : h3.PlainList ca ys.toArray := pl_mv hp2 mv3 (by simpa using caL)
  refine wpAny_execs_cons (wpAny_Assign_Name (List_ (args_nil ?_)))
  refine wpAny_newList ?_ (by show (0 : Nat) ≤ _; rw [sizeLine_eq]; omega)
  refine stL (s := { s with heap := h3.push _, toks := _ }) (F3.push _) (fun h4 F4 mv4 => ?_) rfl (by rfl)
  dsimp only
  have hL3 : @LT.lt Nat _ L h3.objs.size := F3.ns.lt
  have daL : @Ne Nat h3.objs.size L := by omega
  have hca3 : @LT.lt Nat _ ca h3.objs.size := plt_lt hp3
  have hd4 : h4.PlainList h3.objs.size ([] : List Value).toArray := pl_mv (pl_new h3 _) mv4 (by simpa using daL)
  have hp4 : h4.PlainList ca ys.toArray := pl_mv (pl_keep hp3 fun b o e => Heap.get?_push_of_some _ e) mv4 (by simpa using caL)
  generalize hda : h3.objs.size = da at hd4 daL hca3 F4
  have cada : @Ne Nat ca da := by omega
  generalize hm4 : (fun y => if y = Str.ofString "cs" then _ else _) = m4 at F4
  have q1 : m4 (Str.ofString "ccscopy") = some (.ref ca) := by rw [← hm4]; rfl
  have q2 : m4 (Str.ofString "cs") = some (.ref da) := by rw [← hm4]; rfl
  clear hm4
  refine wpAny_execs_cons (wpAny_mono (Q := fun f s' => f = .next ∧ ∃ h tk m da cvs, s' = { s with heap := h, toks := tk } ∧ Fr s.heap L h m ∧ m (Str.ofString "cs") = some (.ref da) ∧ h.PlainList da (cvs : List Value).toArray ∧ Rel StrV cvs bs ∧ s.heap.get? da = none) ?f1 (fun f s' hm => ?r1) (fun _ _ e => e))
  case f1 =>
    refine while_ (UcI s L bs) ?turn (runsOf bs).length ⟨h4, _, m4, runsOf bs, ys, [], [], ca, da, rfl, F4, q1, q2, hp4, hys, hd4, Rel.nil, by simpa using rf1, rfl, rf2, rf3, none_above F4 hLca, none_above F4 (by show @LT.lt Nat _ L da; omega), caL, daL, cada⟩
    rintro k s' E' ⟨h, tk, m, rs, rvs, cvs, done, ca, da, rfl, F, q1, q2, hpa, hri, hpd, hcr, hdone, rfl, hrx, hr8, hna, hnd, caL, daL, cada⟩
    have hdl : done.length ≤ 8 := by have := congrArg List.length hdone; simp at this; omega
    refine isTrue_plain (ld F q1 ?_)
    refine pl_truthy (s := { s with heap := h, toks := tk }) hpa (by have := hri.length; omega) ?_
    cases hri with
    | nil =>
      rw [if_neg (by decide)]
      simp only [unrun, List.append_nil] at hdone
      exact ⟨rfl, h, _, m, da, cvs, rfl, F, q2, hpd, hdone ▸ hcr, hnd⟩
    | cons x t hri' =>
      rename_i rvs rs
      rw [if_pos (by simp)]
      have hx := hrx x (List.mem_cons_self ..)
      have hrl := hri'.length
      have hcl := hcr.1
      simp only [List.length_cons] at hr8
      refine wpAny_execs_cons (st_ext F rfl (by rfl) (by rfl) (by decide) (by decide) q2 q1 hpa hpd (by omega) (by omega) (by omega) hna hnd caL daL cada (fun h1 tk1 tt F1 hpa1 hpd1 => ?_) (by rfl) (by rfl) (by rfl) (by rfl))
      dsimp only
      have hcr1 : Rel StrV (cvs ++ List.replicate x.toNat (Value.str (letS true) tt)) (done ++ List.replicate x.toNat true) := hcr.append (Rel.rep ⟨tt, rfl⟩ _)
      refine wpAny_execs_cons (wpAny_If (isTrue_plain (ld F1 q1 ?_)))
      refine pl_truthy (s := { s with heap := h1, toks := tk1 }) hpa1 (by omega) ?_
      simp only [unrun] at hdone
      cases hri' with
      | nil =>
        rw [if_neg (by decide)]
        refine wpAny_execs_nil ?_
        dsimp only
        refine wpAny_execs_nil ⟨rfl, 0, by simp, h1, _, m, [], [], _, _, ca, da, rfl, F1, q1, q2, hpa1, .nil, hpd1, hcr1, by simpa [unrun] using hdone, rfl, by simp, by simp, hna, hnd, caL, daL, cada⟩
      | cons y u hri2 =>
        rename_i rvs2 rs2
        rw [if_pos (by simp)]
        have hy := hrx y (by simp)
        have hrl2 := hri2.length
        simp only [List.length_cons] at hr8
        refine wpAny_execs_cons (st_ext (s := { s with heap := h1, toks := _ }) F1 rfl (by rfl) (by rfl) (by decide) (by decide) q2 q1 hpa1 hpd1 (by omega) (by omega) (by simp; omega) hna hnd caL daL cada (fun h2 tk2 tt2 F2 hpa2 hpd2 => ?_) (by rfl) (by rfl) (by rfl) (by rfl))
        dsimp only
        refine wpAny_execs_nil ?_
        dsimp only
        have hcr2 : Rel StrV (cvs ++ List.replicate x.toNat (Value.str (letS true) tt) ++ List.replicate y.toNat (Value.str (letS false) tt2)) (done ++ List.replicate x.toNat true ++ List.replicate y.toNat false) := hcr1.append (Rel.rep ⟨tt2, rfl⟩ _)
        refine wpAny_execs_nil ⟨rfl, rs2.length, by simp only [List.length_cons]; omega, h2, _, m, rs2, rvs2, _, _, ca, da, rfl, F2, q1, q2, hpa2, hri2, hpd2, hcr2, by simpa [unrun] using hdone, rfl, fun z hz => hrx z (by simp [hz]), by omega, hna, hnd, caL, daL, cada⟩
  obtain ⟨rfl, h7, tk7, m7, da7, cvs7, rfl, F7, q7, hp7, hr7, hn7⟩ := hm
  dsimp only
  refine wpAny_execs_cons (wpAny_Return_some (ld F7 q7 ?_))
  exact hR h7 _ da7 _ F7.keep hn7 hp7 hr7
end Mine
end

section
open PySem PySem.W PySem.Calls PyProof.Rows
set_option Elab.async false
set_option maxRecDepth 100000
set_option maxHeartbeats 8000000
namespace Mine
theorem fillK_CW : PySem.Challenge.rw_au6018_01 = PySem.Challenge.rw_au6018_01 → hd.heap_39 = hd.heap_39 → True := by
  k_fill
  intro _ _; trivial
theorem cell_mv {h h' : Heap} {c : Nat} {v : Option Value} {D : List Addr} (x : h.IsCell c v) (mv : Mv D h h') (hc : c ∉ D) : h'.IsCell c v := let ⟨o, ho, hd⟩ := x; ⟨o, mv c o hc ho, hd⟩
def ElV (v : Value) (e : El) : Prop := match e with
  | .let_ b => StrV v b
  | .num n => ∃ t, v = .int (n : Int) t
def FloatV (v : Value) (x : UInt64) : Prop := ∃ t, 1 ≤ t ∧ v = .float x t
def textOf (bs : List Bool) : Str := ⟨(bs.map fun b => if b then 100 else 105).toArray⟩
inductive CsSrc (h : Heap) : Value → List Bool → Prop
  | letters {l : Addr} {ys : List Value} {bs : List Bool} : h.PlainList l ys.toArray → Rel StrV ys bs → CsSrc h (.ref l) bs
  | text {t : Tok} {bs : List Bool} : CsSrc h (.str (textOf bs) t) bs
  | pairs {l : Addr} {ys : List Value} {C : List (Int × Bool)} {D : List Addr} : h.PlainList l ys.toArray → Rel (TupV D h) ys C → CsSrc h (.ref l) (C.map (·.2))
  | runs {l : Addr} {ys : List Value} {bs : List Bool} : h.PlainList l ys.toArray → IntsAre ys (runsOf bs) → CsSrc h (.ref l) bs
theorem Rel.setAt {α : Type} {R : Value → α → Prop} {vs : List Value} {pre post : List α} {x y : α} {v : Value} {i : Nat} (a : Rel R vs (pre ++ x :: post)) (hi : i = pre.length) (h : R v y) : Rel R (vs.set i v) (pre ++ y :: post) := by
  refine ⟨by rw [List.length_set, a.1]; simp, fun j u z p q => ?_⟩
  by_cases hj : j = i
  · subst hj
    have hlt : j < vs.length := by rw [a.1, hi]; simp
    rw [List.getElem?_set_self hlt] at p
    cases p
    rw [hi, List.getElem?_append_right (Nat.le_refl _), Nat.sub_self] at q
    simp at q
    subst q
    exact h
  · rw [List.getElem?_set_ne (Ne.symm hj)] at p
    refine a.2 j u z p ?_
    rcases Nat.lt_or_ge j pre.length with hlt | hge
    · rw [List.getElem?_append_left hlt] at q ⊢; exact q
    · rw [List.getElem?_append_right hge] at q ⊢
      obtain ⟨k, hk⟩ : ∃ k, j - pre.length = k + 1 := ⟨j - pre.length - 1, by omega⟩
      rw [hk] at q ⊢
      simpa using q
section
variable {prog : Program} {w : World} {A : Around} {E : Value → Shared → Prop} {s : Shared} {env : Env} {L : Addr} {g : Heap} {m : Str → Option Value}
theorem ldnG {x : Str} {v : Value} {Q : Value → Shared → Prop} (F : Fr g L s.heap m) (hL : env.locals = L) (hv : m x = some v) (h : Q v s) (hk : env.scope.kind = .function) (hl : env.kindOf x = some .local) :
    wpAny (model prog w) A (loadName env x) Q E s := wpAny_loadName_local hk hl (hL ▸ F.ns) hv h
end
def J1 (rs : List Bool) (l : Nat) (i : Nat) (vs : List Value) (m : Str → Option Value) : Prop :=
  m (Str.ofString "wseq") = some (.ref l) ∧ ∃ outs w p, outs.length = i ∧ Rel ElV vs (outs ++ (rs.drop i).map El.let_) ∧ go1 rs 0 false = (outs ++ (go1 (rs.drop i) w p).1, (go1 (rs.drop i) w p).2) ∧
    (∃ t, m (Str.ofString "w") = some (.int (w : Nat) t)) ∧ (∃ t, m (Str.ofString "prev") = some (.str (letS p) t))
def Loop1 (s : Shared) (L : Nat) (bs : List Bool) (l : Nat) (s' : Shared) : Prop :=
  ∃ h tk m ys, s' = { s with heap := h, toks := tk } ∧ Fr s.heap L h m ∧ h.IsCell (L + 1) none ∧ m (Str.ofString "wseq") = some (.ref l) ∧ h.PlainList l ys.toArray ∧ Rel ElV ys (go1 bs.reverse 0 false).1 ∧
    (∃ t, m (Str.ofString "w") = some (.int ((go1 bs.reverse 0 false).2.1 : Nat) t)) ∧ (∃ t, m (Str.ofString "prev") = some (.str (letS (go1 bs.reverse 0 false).2.2) t))
def PrevV (v : Value) (p : Bool) : Prop := (p = true ∧ ∃ t, v = .str (letS true) t) ∨ (p = false ∧ ((∃ t, v = .str (letS false) t) ∨ ∃ n t, v = .int n t))
def J2 (es : List El) (w0 : Nat) (p0 : Bool) (l : Nat) (i : Nat) (vs : List Value) (m : Str → Option Value) : Prop :=
  m (Str.ofString "wseq") = some (.ref l) ∧ ∃ (outs : List Nat) (w : Nat) (p : Bool), outs.length = i ∧ Rel ElV vs (outs.map El.num ++ es.drop i) ∧ go2 es w0 p0 = (outs ++ (go2 (es.drop i) w p).1, (go2 (es.drop i) w p).2) ∧
    (∃ t, m (Str.ofString "w") = some (.int (w : Nat) t)) ∧ (∃ v, m (Str.ofString "prev") = some v ∧ PrevV v p)
def Loop2 (s : Shared) (L : Nat) (es : List El) (w0 : Nat) (p0 : Bool) (l : Nat) (s' : Shared) : Prop :=
  ∃ h tk m ys, s' = { s with heap := h, toks := tk } ∧ Fr s.heap L h m ∧ h.IsCell (L + 1) none ∧ m (Str.ofString "wseq") = some (.ref l) ∧ h.PlainList l ys.toArray ∧ Rel ElV ys ((go2 es w0 p0).1.map El.num) ∧
    (∃ t, m (Str.ofString "w") = some (.int ((go2 es w0 p0).2.1 : Nat) t)) ∧ (∃ v, m (Str.ofString "prev") = some v ∧ PrevV v (go2 es w0 p0).2.2)
inductive FV (h : Heap) : Value → List Bool → Value → Prop
  | letters {l : Addr} {ys : List Value} {bs : List Bool} {t : Tok} : h.PlainList l ys.toArray → Rel StrV ys bs → FV h (.ref l) bs (.str (letS true) t)
  | text {t u : Tok} {bs : List Bool} : FV h (.str (textOf bs) t) bs (.str (letS true) u)
  | pairs {l a : Addr} {ys : List Value} {xs : Array Value} {C : List (Int × Bool)} {D : List Addr} : h.PlainList l ys.toArray → Rel (TupV D h) ys C → h.IsTuple a xs → FV h (.ref l) (C.map (·.2)) (.ref a)
  | runs {l : Addr} {ys : List Value} {bs : List Bool} {n : Int} {t : Tok} : h.PlainList l ys.toArray → IntsAre ys (runsOf bs) → FV h (.ref l) bs (.int n t)
def FirstC (s : Shared) (L : Nat) (v : Value) (bs : List Bool) (s' : Shared) : Prop :=
  ∃ h tk m fv, s' = { s with heap := h, toks := tk } ∧ Fr s.heap L h m ∧ h.IsCell (L + 1) none ∧ m (Str.ofString "creation_sequence") = some v ∧ m (Str.ofString "first") = some fv ∧ FV h v bs fv
def MidC (s : Shared) (L : Nat) (bs : List Bool) (s' : Shared) : Prop :=
  ∃ h tk m l ys, s' = { s with heap := h, toks := tk } ∧ Fr s.heap L h m ∧ h.IsCell (L + 1) none ∧ m (Str.ofString "wseq") = some (.ref l) ∧ h.PlainList l ys.toArray ∧ Rel StrV ys bs ∧ s.heap.get? l = none ∧ l ≠ L ∧ l ≠ L + 1

theorem none_bk {g h : Heap} (hk : ∀ b o, g.get? b = some o → h.get? b = some o) {r : Addr} (e : h.get? r = none) : g.get? r = none := by
  cases q : g.get? r with
  | none => rfl
  | some o => rw [hk _ _ q] at e; cases e
theorem none_ge {h : Heap} {b : Nat} (hb : @LE.le Nat _ h.objs.size b) : h.get? b = none := by
  cases e : h.get? b with
  | none => rfl
  | some o => exact absurd (Heap.lt_size e) (Nat.not_lt.mpr hb)
theorem fv_mv {h h' : Heap} {v : Value} {bs : List Bool} {fv : Value} (x : FV h v bs fv) (hk : ∀ b o, h.get? b = some o → h'.get? b = some o) : FV h' v bs fv := by
  cases x with
  | letters a b => exact .letters (pl_keep a hk) b
  | text => exact .text
  | pairs a b c => exact .pairs (pl_keep a hk) (b.mono fun v c ⟨a, t, tt, n, e1, e2, e3⟩ => ⟨a, t, tt, n, e1, e2, hk _ _ e3⟩) (let ⟨o, e, r⟩ := c; ⟨o, hk _ _ e, r⟩)
  | runs a b => exact .runs (pl_keep a hk) b
theorem cs2w_spec {w : World} {A : Around} {s : Shared} {R : Result → Shared → Prop} {mg mb} (hA : AOk A 4)
  (KX : (hd.heap_39 w.params).In s.heap) (T : TopRead hd.view_39 LOOSE mg mb s.heap)
  {v : Value} {bs : List Bool} (hsrc : CsSrc s.heap v bs) (hn : bs[0]? = some true) (hn2 : bs.length ≤ 8)
  (hR : ∀ h tk r rs, (∀ b o, s.heap.get? b = some o → h.get? b = some o) → s.heap.get? r = none → h.PlainList r rs.toArray → Rel FloatV rs ((wts bs).1.map (fw (wts bs).2)) → R (.ok (.ret (.ref r))) { s with heap := h, toks := tk }) :
  codeAny (model PG w) A (.call (.ref 664) ⟨[v], []⟩) R s := by
  refine' enterC (binds := [(Str.ofString "creation_sequence", v)]) Sub.refl KX T.nolimit ?k1 ?k2 ?k3 ?k4 ?k5 ?h ?k7 ?k8 ?k9
  case k1 => k_is
  case k2 => k_is
  case k3 => exact hA.room
  case k4 => exact BindsTo.of_eq (by rfl)
  case k5 =>
    intro n x hx
    simp only [List.mem_cons, List.not_mem_nil, or_false] at hx
    subst hx
    exact .inl (by rfl)
  case k7 => rfl
  case k8 => rfl
  case k9 => rfl
  intro L h₁ tk hL F X hsub
  generalize hcm : bindC _ _ _ = cm at X
  generalize hm : bindL _ _ _ = m₀ at F
  have m1 : m₀ (Str.ofString "creation_sequence") = some v := by rw [← hm]; rfl
  have c1 : cm (Str.ofString "wscale") = none := by rw [← hcm]; rfl
  have hc1 : h₁.IsCell (L + 1) none := by have := X.cell (Str.ofString "wscale") (L + 1) (by rfl); rwa [c1] at this
  clear hcm hm X
  have hLs : s.heap.objs.size = L := hL.symm
  refine wpAny_execs_cons (wpAny_mono (Q := fun f s' => f = .next ∧ FirstC s L v bs s') ?f0 (fun f s' hm => ?r0) (fun _ _ e => e))
  case f0 =>
    refine wpAny_Assign_Name (Subscript_ (ldLoc F m1 ?_))
    refine wpAny_Constant_int ?_
    have fin : ∀ fv tk' (A' : Around) (env : Env) (E' : Value → Shared → Prop), env.locals = L → env.scope.kind = .function → env.kindOf (Str.ofString "first") = some .local → FV s.heap v bs fv → wpAny (model PG w) A' (storeName env (Str.ofString "first") fv) (fun _ s' => Flow.next = Flow.next ∧ FirstC s L v bs s') E' { s with heap := h₁, toks := tk' } := fun fv tk' A' env E' e1 e2 e3 hfv => by
      refine stG F e1 (fun h2 F2 mv2 => ?_) e2 e3
      refine ⟨rfl, h2, _, _, fv, rfl, F2, cell_mv hc1 mv2 (by simp), ?_, ?_, fv_mv hfv F2.keep⟩
      · rw [if_neg (by decide)]; exact m1
      · rw [if_pos rfl]
    cases hsrc with
    | letters hl hr =>
      obtain ⟨v0, hv0, t0, rfl⟩ := hr.get hn
      exact pl_item (s := { s with heap := h₁, toks := _ }) (pl_keep hl F.keep) (by omega) (by omega) hv0 (fin _ _ _ _ _ rfl rfl (by rfl) (.letters hl hr))
    | text =>
      have hlen : 1 ≤ bs.length := by
        cases bs with
        | nil => simp at hn
        | cons _ _ => simp
      refine subTail_g (typeIs_str _ _ _) PySem.F.slot_str_getitem.lookup ?_ (by with_unfolding_all rfl)
      refine P.getItem_str (c := 100) (by decide) ?_ ?_
      · cases bs with
        | nil => simp at hn
        | cons b r => simp at hn; subst hn; simp [textOf, seqIndex?, Str.length]
      · exact fin _ _ _ _ _ rfl rfl (by rfl) .text
    | @pairs l ys C D hl hr =>
      rw [List.getElem?_map, Option.map_eq_some_iff] at hn
      obtain ⟨c0, hc0, _⟩ := hn
      obtain ⟨v0, hv0, a0, t0, tt0, n0, rfl, _, ha0⟩ := hr.get hc0
      exact pl_item (s := { s with heap := h₁, toks := _ }) (pl_keep hl F.keep) (by omega) (by omega) hv0 (fin _ _ _ _ _ rfl rfl (by rfl) (.pairs hl hr ⟨_, ha0, rfl, n0, rfl⟩))
    | @runs l ys _ hl hr =>
      obtain ⟨_, _, _, rf4⟩ := okR_of hn2 hn
      have yl := hr.length
      obtain ⟨v0, hv0⟩ : ∃ v, ys[0]? = some v := ⟨ys[0]'(by omega), List.getElem?_eq_getElem (by omega)⟩
      obtain ⟨x0, hx0⟩ : ∃ x, (runsOf bs)[0]? = some x := ⟨(runsOf bs)[0]'(by omega), List.getElem?_eq_getElem (by omega)⟩
      obtain ⟨t0, rfl⟩ := ints_get' hr hv0 hx0
      exact pl_item (s := { s with heap := h₁, toks := _ }) (pl_keep hl F.keep) (by omega) (by omega) hv0 (fin _ _ _ _ _ rfl rfl (by rfl) (.runs hl hr))
  obtain ⟨rfl, hfirst⟩ := hm
  dsimp only
  refine wpAny_execs_cons (wpAny_mono (Q := fun f s' => f = .next ∧ MidC s L bs s') ?f1 (fun f s' hm => ?r1) (fun _ _ e => e))
  case f1 =>
    obtain ⟨h2, tk2, m2, fv, rfl, F2, hc2, n1, n2, hfv⟩ := hfirst
    refine wpAny_If (isTrue_plain (Call_ ?_))
    refine nameX_B F2 KX T (by k_is) (by boot_by_name) (by decide) ?_
    refine callWith_method1 ?_
    refine args_cons (ldLoc F2 n2 ?_)
    refine args_cons ?_
    refine nameX_B F2 KX T (by k_is) (by boot_by_name) (by decide) ?_
    refine args_nil ?_
    have hL2 : @LT.lt Nat _ L h2.objs.size := F2.ns.lt
    have hC2 : @LT.lt Nat _ (L + 1) h2.objs.size := hc2.lt
    have fin : ∀ (r : Nat) rs h3 tk' (A' : Around) (env : Env) (E' : Value → Shared → Prop), env.locals = L → env.scope.kind = .function → env.kindOf (Str.ofString "wseq") = some .local → (∀ b o, h2.get? b = some o → h3.get? b = some o) → h2.get? r = none → h3.PlainList r rs.toArray → Rel StrV rs bs →
        wpAny (model PG w) A' (storeName env (Str.ofString "wseq") (.ref r)) (fun _ s' => Flow.next = Flow.next ∧ MidC s L bs s') E' { s with heap := h3, toks := tk' } := fun r rs h3 tk' A' env E' e1 e2 e3 hk hr hp hrel => by
      have rL : @Ne Nat r L := fun q => by
        obtain ⟨o, _, _, ho, _⟩ := F2.ns
        rw [q, ho] at hr; cases hr
      have rC : @Ne Nat r (L + 1) := fun q => by
        obtain ⟨o, ho, _⟩ := hc2
        rw [q, ho] at hr; cases hr
      refine stG (F2.keeps hk) e1 (fun h4 F4 mv4 => ?_) e2 e3
      exact ⟨rfl, h4, _, _, r, rs, rfl, F4, cell_mv (cell_mv hc2 (Mv.keep hk) (by simp) (D := [])) mv4 (by simp), by rw [if_pos rfl], pl_mv hp mv4 (by simpa using rL), hrel, none_bk F2.keep hr, rL, rC⟩
    cases hfv with
    | @letters l ys _ t hl hr =>
      refine IsiPair.str_str ?_
      refine wpAny_truthy_bool ?_
      rw [if_pos rfl]
      refine wpAny_execs_cons (wpAny_If (isTrue_plain (Call_ ?_)))
      refine nameX_B F2 KX T (by k_is) (by boot_by_name) (by decide) ?_
      refine callWith_method1 ?_
      refine args_cons (ldLoc F2 n1 ?_)
      refine args_cons ?_
      refine nameX_B F2 KX T (by k_is) (by boot_by_name) (by decide) ?_
      refine args_nil ?_
      refine IsiPair.isList_list (pl_list hl) (fun _ _ e => e) ?_
      refine wpAny_truthy_bool ?_
      rw [if_pos rfl]
      refine wpAny_execs_cons (wpAny_Assign_Name ?_)
      refine pl_slice_all (ldLoc F2 n1 ⟨rfl, rfl⟩) hl (by rw [hr.1]; omega) fun h3 r tk3 k3 hr3 hp3 => ?_
      dsimp only at k3 hr3
      refine wpAny_mono (fin r _ h3 tk3 _ _ _ rfl rfl (by rfl) k3 (none_ge (Nat.le_of_lt hr3)) hp3 hr) (fun _ s' hq => wpAny_execs_nil (wpAny_execs_nil hq)) fun _ _ e => e
    | text =>
      refine IsiPair.str_str ?_
      refine wpAny_truthy_bool ?_
      rw [if_pos rfl]
      refine wpAny_execs_cons (wpAny_If (isTrue_plain (Call_ ?_)))
      refine nameX_B F2 KX T (by k_is) (by boot_by_name) (by decide) ?_
      refine callWith_method1 ?_
      refine args_cons (ldLoc F2 n1 ?_)
      refine args_cons ?_
      refine nameX_B F2 KX T (by k_is) (by boot_by_name) (by decide) ?_
      refine args_nil ?_
      refine IsiPair.str_list ?_
      refine wpAny_truthy_bool ?_
      rw [if_neg (by decide)]
      refine wpAny_execs_cons (wpAny_Assign_Name (Call_ ?_))
      refine nameX_B F2 KX T (by k_is) (by boot_by_name) (by decide) ?_
      refine cw_type1 ?_
      refine args_cons (ldLoc F2 n1 ?_)
      refine args_nil ?_
      refine call_list_str (hn := by rw [sizeLine_eq]; simp [textOf]; omega) (by exact hA.2.1) _ _ fun h3 tk3 acc c3 k3 e3 hacc => ?_
      dsimp only at k3 e3
      refine wpAny_mono (fin h2.objs.size acc.toList h3 tk3 _ _ _ rfl rfl (by rfl) k3 (none_ge (Nat.le_refl _)) ⟨c3, by simpa using e3⟩ ⟨?_, fun i v b hv hb => ?_⟩) (fun _ s' hq => wpAny_execs_nil (wpAny_execs_nil hq)) fun _ _ e => e
      · rw [Array.length_toList, hacc.1]; simp [textOf]
      · obtain ⟨c, u, hc, rfl⟩ := hacc.2 i v (by rw [← Array.getElem?_toList]; exact hv)
        refine ⟨u, ?_⟩
        have : (if b then 100 else 105) = c := by simpa [textOf, hb] using hc
        subst this
        cases b <;> rfl
    | @pairs l a ys xs Cs D hl hr hx =>
      have hcl : Cs.length ≤ 8 := by simpa using hn2
      refine IsiPair.isTuple_str hx (fun _ _ e => e) ?_
      refine wpAny_truthy_bool ?_
      rw [if_neg Bool.false_ne_true]
      refine wpAny_execs_cons (wpAny_If (isTrue_plain (Call_ ?_)))
      refine nameX_B F2 KX T (by k_is) (by boot_by_name) (by decide) ?_
      refine callWith_method1 ?_
      refine args_cons (ldLoc F2 n2 ?_)
      refine args_cons ?_
      refine nameX_B F2 KX T (by k_is) (by boot_by_name) (by decide) ?_
      refine args_nil ?_
      refine IsiPair.isTuple_tuple hx (fun _ _ e => e) ?_
      refine wpAny_truthy_bool ?_
      rw [if_pos rfl]
      refine wpAny_execs_cons ?_
      refine Assign_ListComp_u (cl := []) (by rfl) (by rfl) rfl (by decide) (by decide) ?_
      refine ldLoc F2 n1 ?_
      refine wpAny_pyIter_list (pl_list hl) ?_
      refine ⟨_, _, _, csrc_snd (s := { s with heap := h2, toks := _ }) (by exact hA.2.1) (pl_list hl) hr (by omega) rfl (by rfl) (by decide), fun C' D' h3 zs tk3 tw hp hyl hf => ?_⟩
      obtain ⟨f1, f2, f3⟩ := hf
      obtain ⟨tw1, tw2, tw3, tw4, tw5⟩ := tw
      have e5 : (h2.push (listIt l)).objs.size = h2.objs.size + 1 := Heap.size_push ..
      dsimp only at tw1 tw2 tw3 tw4 f1
      rw [e5] at tw1 tw2 tw3 tw4
      have k23 : ∀ b o, h2.get? b = some o → h3.get? b = some o := fun b o e => f1 b o (by rw [List.mem_singleton]; exact Nat.ne_of_lt (Heap.lt_size e)) (Heap.get?_push_of_some _ e)
      have dL : @Ne Nat D' L := by omega
      have dC : @Ne Nat D' (L + 1) := by omega
      have cL : @Ne Nat C' L := by omega
      have cC : @Ne Nat C' (L + 1) := by omega
      refine stG (s := { s with heap := h3, toks := _ }) (F2.keeps k23) rfl (fun h4 F4 mv4 => ⟨h4, _, rfl, fun o e => mv4 _ _ (by simpa using cL) e, fun h5 hs5 => ?_⟩) rfl (by rfl)
      have mv5 : Mv [C'] h4 h5 := Mv.same hs5 (by simp)
      have hnd : h2.get? D' = none := none_ge (by omega)
      refine wpAny_execs_nil (wpAny_execs_nil ⟨rfl, h5, _, _, D', zs, rfl, Fr.mv F4 mv5 (by simpa using Ne.symm cL) (fun b hb => by rw [List.mem_singleton.mp hb]; exact none_bk F2.keep (none_ge (by omega))), cell_mv (cell_mv (cell_mv hc2 (Mv.keep k23) (D := []) (by simp)) mv4 (by simp)) mv5 (by simpa using Ne.symm cC), by rw [if_pos rfl], pl_mv (pl_mv hp mv4 (by simpa using dL)) mv5 (by simpa using Ne.symm tw5), ⟨?_, fun i v b hv hb => ?_⟩, none_bk F2.keep hnd, dL, dC⟩)
      · rw [f2, List.size_toArray, hr.1, List.length_map]
      · obtain ⟨c, hc, hcv⟩ := f3 i v hv
        rw [List.getElem?_map, hc] at hb
        cases hb
        exact hcv
    | @runs l ys _ n t hl hr =>
      refine IsiPair.int_str ?_
      refine wpAny_truthy_bool ?_
      rw [if_neg Bool.false_ne_true]
      refine wpAny_execs_cons (wpAny_If (isTrue_plain (Call_ ?_)))
      refine nameX_B F2 KX T (by k_is) (by boot_by_name) (by decide) ?_
      refine callWith_method1 ?_
      refine args_cons (ldLoc F2 n2 ?_)
      refine args_cons ?_
      refine nameX_B F2 KX T (by k_is) (by boot_by_name) (by decide) ?_
      refine args_nil ?_
      refine IsiPair.int_tuple ?_
      refine wpAny_truthy_bool ?_
      rw [if_neg Bool.false_ne_true]
      refine wpAny_execs_cons (wpAny_If (isTrue_plain (Call_ ?_)))
      refine nameX_B F2 KX T (by k_is) (by boot_by_name) (by decide) ?_
      refine callWith_method1 ?_
      refine args_cons (ldLoc F2 n2 ?_)
      refine args_cons ?_
      refine nameX_B F2 KX T (by k_is) (by boot_by_name) (by decide) ?_
      refine args_nil ?_
      refine IsiPair.int_int ?_
      refine wpAny_truthy_bool ?_
      rw [if_pos rfl]
      refine wpAny_execs_cons (wpAny_Assign_Name (Call_ ?_))
      refine nameX_K F2 KX T (by k_is) ?_
      refine callWith_K KX (by k_is) ?_
      refine args_cons (ldLoc F2 n1 ?_)
      refine args_nil ?_
      refine ⟨kin_keeps KX F2.keep, wpAny_call ?_⟩
      refine uncompact_spec (s := { s with heap := h2, toks := _ }) ((hA.deeper (d := 3) _).less (by omega)) (kin_keeps KX F2.keep) (T.keeps F2.keep) hl hr hn hn2 fun h3 tk3 r rs k3 hrn hp3 hr3 => ?_
      dsimp only at k3 hrn ⊢
      refine wpAny_mono (fin r rs h3 tk3 _ _ _ rfl rfl (by rfl) k3 hrn hp3 hr3) (fun _ s' hq => wpAny_execs_nil (wpAny_execs_nil (wpAny_execs_nil hq))) fun _ _ e => e
  obtain ⟨rfl, h2, tk2, m2, l, ys, rfl, F2, hc2, n1, hp2, hr2, hln, hlL, hlc⟩ := hm
  dsimp only
  have hbl : 1 ≤ bs.length := by
    cases bs with
    | nil => simp at hn
    | cons _ _ => simp
  have hyl : ys.length = bs.length := hr2.1
  refine wpAny_execs_cons (Expr_none (MethodCall_ (ldLoc F2 n1 ?_)) (by rfl) (by rfl))
  refine pl_method hp2 PySem.F.slot_list_reverse rfl ?_
  refine callWith_method0 ?_
  refine pl_reverse hp2 (by omega) fun h3 hp3 hs3 => ⟨rfl, ?_⟩
  dsimp only at hs3 ⊢
  have mv3 : Mv [l] h2 h3 := Mv.same hs3 (by simp)
  have F3 := Fr.mv F2 mv3 (by simpa using Ne.symm hlL) (by simpa using hln)
  have hc3 := cell_mv hc2 mv3 (by simpa using Ne.symm hlc)
  refine wpAny_execs_cons (wpAny_Assign_Name (wpAny_Constant_int ?_))
  refine stG F3 rfl (fun h4 F4 mv4 => ?_) rfl (by rfl)
  dsimp only
  have hp4 := pl_mv hp3 mv4 (by simpa using hlL)
  have hc4 := cell_mv hc3 mv4 (by simp)
  refine wpAny_execs_cons (wpAny_Assign_Name (wpAny_Constant_str ?_))
  refine stG F4 rfl (fun h5 F5 mv5 => ?_) rfl (by rfl)
  dsimp only
  have hp5 := pl_mv hp4 mv5 (by simpa using hlL)
  have hc5 := cell_mv hc4 mv5 (by simp)
  generalize hm5 : (fun y => if y = Str.ofString "prev" then _ else _) = m5 at F5
  have p1 : m5 (Str.ofString "wseq") = some (.ref l) := by rw [← hm5]; exact n1
  have p2 : ∃ t, m5 (Str.ofString "w") = some (.int 0 t) := ⟨_, by rw [← hm5]; rfl⟩
  have p3 : ∃ t, m5 (Str.ofString "prev") = some (.str (letS false) t) := ⟨_, by rw [← hm5]; rfl⟩
  clear hm5
  have hlold : ∀ b o, s.heap.get? b = some o → b ∉ [L, l, h5.objs.size + 1, h5.objs.size] := fun b o e => by
    have h1 : @LT.lt Nat _ b s.heap.objs.size := Heap.lt_size e
    have h2 : @LT.lt Nat _ L h5.objs.size := F5.ns.lt
    have h3 : b ≠ l := fun q => by rw [q, hln] at e; cases e
    have h4 : @Ne Nat b L := by omega
    have e5 : @Ne Nat b (h5.objs.size + 1) := by omega
    have e6 : @Ne Nat b h5.objs.size := by omega
    simp only [List.mem_cons, List.not_mem_nil, or_false, not_or]
    exact ⟨h4, h3, e5, e6⟩
  have hl5 : @LT.lt Nat _ l h5.objs.size := plt_lt hp5
  have hL5 : @LT.lt Nat _ L h5.objs.size := F5.ns.lt
  have hC5 : @LT.lt Nat _ (L + 1) h5.objs.size := hc5.lt
  refine wpAny_execs_cons (wpAny_mono (Q := fun f s' => f = .next ∧ Loop1 s L bs l s') ?f2 (fun f s' hm => ?r2) (fun _ _ e => e))
  case f2 =>
    refine for_enum (L := L) rfl rfl (by rfl) (by rfl) (by exact hA.2.1) ?_
    refine Call_ (nameX_B F5 KX T (by k_is) (by boot_by_name) (by decide) ?_)
    refine cw_type1 ?_
    refine args_cons (ldLoc F5 p1 ?_)
    refine args_nil ?_
    refine call_enumerate_list (pl_list hp5) fun h6 he hit hsz hk6 => ?_
    refine ⟨h5.objs.size + 1, h5.objs.size, l, ys.reverse, m5, J1 bs.reverse l, rfl, he, hit, pl_keep hp5 hk6, F5.ns.keeps hk6, ⟨by show @Ne Nat _ _; omega, by show @Ne Nat _ _; omega, by show @Ne Nat _ _; omega, hlL, by show @Ne Nat _ _; omega, by show @Ne Nat _ _; omega⟩,
      ⟨p1, [], 0, false, rfl, ?j0, by simp, p2, p3⟩, ?step, ?done⟩
    case j0 =>
      obtain ⟨hl1, hl2⟩ := hr2.reverse
      refine ⟨by simpa using hl1, fun i v x a b => ?_⟩
      simp only [List.drop_zero, List.nil_append, List.getElem?_map, Option.map_eq_some_iff] at b
      obtain ⟨b', hb', rfl⟩ := b
      exact hl2 i v b' a hb'
    case step =>
      rintro i vs' v t m₁ h7 tk7 hv hlen ⟨q1, outs, w1, p, ho, hrel, hgo, ⟨tw, qw⟩, ⟨tp, qp⟩⟩ hns hpl hoth
      have F7 : Fr s.heap L h7 _ := ⟨hns, fun b o e => hoth b o (hlold b o e) (hk6 _ _ (F5.keep b o e)), F5.above⟩
      have hir : i < bs.reverse.length := by
        have := (List.getElem?_eq_some_iff.mp hv).1
        rw [hlen, List.length_reverse, hyl] at this
        simpa using this
      have hil : i < vs'.length := (List.getElem?_eq_some_iff.mp hv).1
      obtain ⟨b, hb⟩ : ∃ b, bs.reverse[i]? = some b := ⟨bs.reverse[i], List.getElem?_eq_getElem hir⟩
      have hir8 : i < 8 := by simp at hir; omega
      have hdrop : bs.reverse.drop i = b :: bs.reverse.drop (i + 1) := by
        rw [List.drop_eq_getElem_cons hir]
        exact congrArg (· :: _) (List.getElem?_eq_some_iff.mp hb).2
      rw [hdrop] at hrel hgo
      obtain ⟨tv, rfl⟩ : StrV v b := hrel.2 i v (.let_ b) hv (by rw [List.getElem?_append_right (by omega), ho, Nat.sub_self]; simp)
      refine wpAny_execs_cons (wpAny_If (wpAny_isTrue_Compare1 (ldG F7 rfl (by rw [if_pos rfl]) ?_ rfl (by rfl))))
      refine wpAny_Constant_str ?_
      refine eq_let (b := false) (wpAny_truthy_bool ?_)
      cases b with
      | false =>
        rw [if_pos (by decide)]
        refine wpAny_execs_cons (wpAny_Assign_Subscript (ldG F7 rfl (by rw [if_neg (by decide), if_neg (by decide)]; exact qw) ?_ rfl (by rfl)))
        refine ldG F7 rfl (by rw [if_neg (by decide), if_neg (by decide)]; exact q1) ?_ rfl (by rfl)
        refine ldG F7 rfl (by rw [if_neg (by decide), if_pos rfl]) ?_ rfl (by rfl)
        refine pl_set (s := { s with heap := h7, toks := _ }) hpl (by omega) (by omega) (by rw [Int.toNat_natCast]; exact hil) fun h8 hp8 hs8 => ?_
        rw [Int.toNat_natCast] at hp8
        have mv8 : Mv [l] h7 h8 := Mv.same hs8 (by simp)
        have F8 := Fr.mv F7 mv8 (by simpa using Ne.symm hlL) (by simpa using hln)
        dsimp only
        refine wpAny_execs_cons (wpAny_Assign_Name (ldG (s := { s with heap := h8, toks := _ }) F8 rfl (by rw [if_pos rfl]) ?_ rfl (by rfl)))
        refine stG F8 rfl (fun h9 F9 mv9 => ?_) rfl (by rfl)
        dsimp only
        refine wpAny_execs_nil ?_
        dsimp only
        refine wpAny_execs_nil ⟨rfl, h9, _, _, vs'.set i _, rfl, F9.ns, pl_mv hp8 mv9 (by simpa using hlL), by rw [List.length_set, hlen], ⟨?_, outs ++ [.num w1], w1, false, by simp [ho], ?_, ?_, ⟨tw, ?_⟩, ⟨tv, ?_⟩⟩, Mv.trans (Mv.sub mv8 (by simp)) (Mv.sub mv9 (by simp))⟩
        · dsimp only
          rw [if_neg (by decide), if_neg (by decide), if_neg (by decide)]; exact q1
        · have := Rel.setAt (v := .int (w1 : Int) tw) (y := El.num w1) hrel ho.symm ⟨tw, rfl⟩
          simpa using this
        · rw [hgo]; simp [go1]
        · dsimp only
          rw [if_neg (by decide), if_neg (by decide), if_neg (by decide)]; exact qw
        · dsimp only
          rw [if_pos rfl]
      | true =>
        rw [if_neg (by decide)]
        refine wpAny_execs_cons (wpAny_If (wpAny_isTrue_Compare1 (ldG F7 rfl (by rw [if_neg (by decide), if_neg (by decide)]; exact qp) ?_ rfl (by rfl))))
        refine wpAny_Constant_str ?_
        refine eq_let (b := false) (wpAny_truthy_bool ?_)
        cases p with
        | true =>
          rw [if_neg (by decide)]
          refine wpAny_execs_nil ?_
          dsimp only
          refine wpAny_execs_nil ?_
          dsimp only
          refine wpAny_execs_nil ⟨rfl, h7, _, _, vs', rfl, F7.ns, hpl, hlen, ⟨?_, outs ++ [.let_ true], w1, true, by simp [ho], by simpa using hrel, by rw [hgo]; simp [go1], ⟨tw, ?_⟩, ⟨tp, ?_⟩⟩, Mv.refl⟩
          · dsimp only
            rw [if_neg (by decide), if_neg (by decide)]; exact q1
          · dsimp only
            rw [if_neg (by decide), if_neg (by decide)]; exact qw
          · dsimp only
            rw [if_neg (by decide), if_neg (by decide)]; exact qp
        | false =>
          rw [if_pos (by decide)]
          refine wpAny_execs_cons (wpAny_Assign_Name (ldG F7 rfl (by rw [if_pos rfl]) ?_ rfl (by rfl)))
          refine stG F7 rfl (fun h8 F8 mv8 => ?_) rfl (by rfl)
          dsimp only
          refine wpAny_execs_cons (wpAny_AugAssign_Name (ldnG (s := { s with heap := h8, toks := _ }) F8 rfl (by rw [if_neg (by decide), if_neg (by decide), if_neg (by decide)]; exact qw) ?_ rfl (by rfl)))
          refine wpAny_Constant_int ?_
          refine iadd_int ?_
          refine stG (s := { s with heap := h8, toks := _ }) F8 rfl (fun h9 F9 mv9 => ?_) rfl (by rfl)
          dsimp only
          refine wpAny_execs_nil ?_
          dsimp only
          refine wpAny_execs_nil ?_
          dsimp only
          refine wpAny_execs_nil ⟨rfl, h9, _, _, vs', rfl, F9.ns, pl_mv (pl_mv hpl mv8 (by simpa using hlL)) mv9 (by simpa using hlL), hlen, ⟨?_, outs ++ [.let_ true], w1 + 1, true, by simp [ho], by simpa using hrel, by rw [hgo]; simp [go1], ?_, ⟨tv, ?_⟩⟩, Mv.trans (Mv.sub mv8 (by simp)) (Mv.sub mv9 (by simp))⟩
          · dsimp only
            rw [if_neg (by decide), if_neg (by decide), if_neg (by decide), if_neg (by decide)]; exact q1
          · apply Exists.intro
            dsimp only
            rw [if_pos rfl]; rfl
          · dsimp only
            rw [if_neg (by decide), if_pos rfl]
    case done =>
      rintro h7 tk7 m7 vs7 hns hpl hlen ⟨q1, outs, w1, p, ho, hrel, hgo, qw, qp⟩ hoth
      have hd : bs.reverse.drop ys.reverse.length = [] := by rw [List.length_reverse, hyl]; exact List.drop_of_length_le (by simp)
      rw [hd] at hrel hgo
      simp only [go1, List.append_nil, List.map_nil] at hrel hgo
      refine ⟨rfl, h7, tk7, m7, vs7, rfl, ⟨hns, fun b o e => hoth b o (hlold b o e) (hk6 _ _ (F5.keep b o e)), F5.above⟩, ?_, q1, hpl, by rw [hgo]; exact hrel, by rw [hgo]; exact qw, by rw [hgo]; exact qp⟩
      obtain ⟨o, ho', hd'⟩ := hc5
      refine ⟨o, hoth _ _ ?_ (hk6 _ _ ho'), hd'⟩
      simp only [List.mem_cons, List.not_mem_nil, or_false, not_or]
      exact ⟨by show @Ne Nat _ _; omega, Ne.symm hlc, by show @Ne Nat _ _; omega, by show @Ne Nat _ _; omega⟩
  obtain ⟨rfl, h6, tk6, m6, ys6, rfl, F6, hc6, o1, hp6, hr6, o2, o3⟩ := hm
  dsimp only
  have hyl6 : ys6.length = bs.length := by rw [hr6.1, go1_len, List.length_reverse]
  refine wpAny_execs_cons (Expr_none (MethodCall_ (ldLoc F6 o1 ?_)) (by rfl) (by rfl))
  refine pl_method hp6 PySem.F.slot_list_reverse rfl ?_
  refine callWith_method0 ?_
  refine pl_reverse hp6 (by omega) fun h7 hp7 hs7 => ⟨rfl, ?_⟩
  dsimp only at hs7 ⊢
  have mv7 : Mv [l] h6 h7 := Mv.same hs7 (by simp)
  have F7 := Fr.mv F6 mv7 (by simpa using Ne.symm hlL) (by simpa using hln)
  have hc7 := cell_mv hc6 mv7 (by simpa using Ne.symm hlc)
  have hlold7 : ∀ b o, s.heap.get? b = some o → b ∉ [L, l, h7.objs.size + 1, h7.objs.size] := fun b o e => by
    have h1 : @LT.lt Nat _ b s.heap.objs.size := Heap.lt_size e
    have h2 : @LT.lt Nat _ L h7.objs.size := F7.ns.lt
    have h3 : b ≠ l := fun q => by rw [q, hln] at e; cases e
    have h4 : @Ne Nat b L := by omega
    have e5 : @Ne Nat b (h7.objs.size + 1) := by omega
    have e6 : @Ne Nat b h7.objs.size := by omega
    simp only [List.mem_cons, List.not_mem_nil, or_false, not_or]
    exact ⟨h4, h3, e5, e6⟩
  have hl7 : @LT.lt Nat _ l h7.objs.size := plt_lt hp7
  have hL7 : @LT.lt Nat _ L h7.objs.size := F7.ns.lt
  have hC7 : @LT.lt Nat _ (L + 1) h7.objs.size := hc7.lt
  have hrel7 : Rel ElV ys6.reverse (go1 bs.reverse 0 false).1.reverse := hr6.reverse
  have hnoi : ∀ e ∈ (go1 bs.reverse 0 false).1.reverse, e ≠ .let_ false := fun e he => go1_noi _ _ _ e (List.mem_reverse.mp he)
  generalize hes : (go1 bs.reverse 0 false).1.reverse = es at hrel7 hnoi
  generalize hw0 : (go1 bs.reverse 0 false).2.1 = w0 at o2
  generalize hp0 : (go1 bs.reverse 0 false).2.2 = p0 at o3
  have hesl : es.length = bs.length := by rw [← hes, List.length_reverse, go1_len, List.length_reverse]
  refine wpAny_execs_cons (wpAny_mono (Q := fun f s' => f = .next ∧ Loop2 s L es w0 p0 l s') ?f3 (fun f s' hm => ?r3) (fun _ _ e => e))
  case f3 =>
    refine for_enum (L := L) rfl rfl (by rfl) (by rfl) (by exact hA.2.1) ?_
    refine Call_ (nameX_B F7 KX T (by k_is) (by boot_by_name) (by decide) ?_)
    refine cw_type1 ?_
    refine args_cons (ldLoc F7 o1 ?_)
    refine args_nil ?_
    refine call_enumerate_list (pl_list hp7) fun h8 he hit hsz hk8 => ?_
    refine ⟨h7.objs.size + 1, h7.objs.size, l, ys6.reverse, m6, J2 es w0 p0 l, rfl, he, hit, pl_keep hp7 hk8, F7.ns.keeps hk8, ⟨by show @Ne Nat _ _; omega, by show @Ne Nat _ _; omega, by show @Ne Nat _ _; omega, hlL, by show @Ne Nat _ _; omega, by show @Ne Nat _ _; omega⟩,
      ⟨o1, [], w0, p0, rfl, by simpa using hrel7, by simp, o2, ?j0⟩, ?step, ?done⟩
    case j0 =>
      obtain ⟨t, e⟩ := o3
      refine ⟨_, e, ?_⟩
      cases p0 with
      | true => exact .inl ⟨rfl, t, rfl⟩
      | false => exact .inr ⟨rfl, .inl ⟨t, rfl⟩⟩
    case step =>
      rintro i vs' v t m₁ h9 tk9 hv hlen ⟨q1, outs, w1, p, ho, hrel, hgo, ⟨tw, qw⟩, ⟨pv, qp, hpv⟩⟩ hns hpl hoth
      have F9 : Fr s.heap L h9 _ := ⟨hns, fun b o e => hoth b o (hlold7 b o e) (hk8 _ _ (F7.keep b o e)), F7.above⟩
      have hil : i < vs'.length := (List.getElem?_eq_some_iff.mp hv).1
      have hie : i < es.length := by rw [hlen, List.length_reverse, hyl6] at hil; omega
      have hi8 : i < 8 := by omega
      obtain ⟨e, hb⟩ : ∃ e, es[i]? = some e := ⟨es[i], List.getElem?_eq_getElem hie⟩
      have hdrop : es.drop i = e :: es.drop (i + 1) := by
        rw [List.drop_eq_getElem_cons hie]
        exact congrArg (· :: _) (List.getElem?_eq_some_iff.mp hb).2
      rw [hdrop] at hrel hgo
      have hve : ElV v e := hrel.2 i v e hv (by rw [List.getElem?_append_right (by simp; omega), List.length_map, ho, Nat.sub_self]; simp)
      have hne : e ≠ .let_ false := hnoi e (List.mem_of_getElem? hb)
      refine wpAny_execs_cons (wpAny_If (wpAny_isTrue_Compare1 (ldG F9 rfl (by rw [if_pos rfl]) ?_ rfl (by rfl))))
      refine wpAny_Constant_str ?_
      cases e with
      | let_ b =>
        cases b with
        | false => exact absurd rfl hne
        | true =>
          obtain ⟨tv, rfl⟩ : StrV v true := hve
          refine eq_let (b := true) (wpAny_truthy_bool ?_)
          rw [if_pos (by decide)]
          refine wpAny_execs_cons (wpAny_Assign_Subscript (ldG F9 rfl (by rw [if_neg (by decide), if_neg (by decide)]; exact qw) ?_ rfl (by rfl)))
          refine ldG F9 rfl (by rw [if_neg (by decide), if_neg (by decide)]; exact q1) ?_ rfl (by rfl)
          refine ldG F9 rfl (by rw [if_neg (by decide), if_pos rfl]) ?_ rfl (by rfl)
          refine pl_set (s := { s with heap := h9, toks := _ }) hpl (by omega) (by omega) (by rw [Int.toNat_natCast]; exact hil) fun h10 hp10 hs10 => ?_
          rw [Int.toNat_natCast] at hp10
          have mv10 : Mv [l] h9 h10 := Mv.same hs10 (by simp)
          have F10 := Fr.mv F9 mv10 (by simpa using Ne.symm hlL) (by simpa using hln)
          dsimp only
          refine wpAny_execs_cons (wpAny_Assign_Name (ldG (s := { s with heap := h10, toks := _ }) F10 rfl (by rw [if_pos rfl]) ?_ rfl (by rfl)))
          refine stG F10 rfl (fun h11 F11 mv11 => ?_) rfl (by rfl)
          dsimp only
          refine wpAny_execs_nil ?_
          dsimp only
          refine wpAny_execs_nil ⟨rfl, h11, _, _, vs'.set i _, rfl, F11.ns, pl_mv hp10 mv11 (by simpa using hlL), by rw [List.length_set, hlen], ⟨?_, outs ++ [w1], w1, true, by simp [ho], ?_, ?_, ⟨tw, ?_⟩, ⟨_, ?_, .inl ⟨rfl, tv, rfl⟩⟩⟩, Mv.trans (Mv.sub mv10 (by simp)) (Mv.sub mv11 (by simp))⟩
          · dsimp only
            rw [if_neg (by decide), if_neg (by decide), if_neg (by decide)]; exact q1
          · have := Rel.setAt (v := .int (w1 : Int) tw) (y := El.num w1) (i := i) hrel (by simp [ho]) ⟨tw, rfl⟩
            simpa using this
          · rw [hgo]; simp [go2]
          · dsimp only
            rw [if_neg (by decide), if_neg (by decide), if_neg (by decide)]; exact qw
          · dsimp only
            rw [if_pos rfl]
      | num a =>
        obtain ⟨tv, rfl⟩ : ∃ t, v = .int (a : Int) t := hve
        refine EqMixed.eq_int_str (wpAny_truthy_bool ?_)
        rw [if_neg (by decide)]
        refine wpAny_execs_cons (wpAny_If (wpAny_isTrue_Compare1 (ldG F9 rfl (by rw [if_neg (by decide), if_neg (by decide)]; exact qp) ?_ rfl (by rfl))))
        refine wpAny_Constant_str ?_
        rcases hpv with ⟨rfl, tp, rfl⟩ | ⟨rfl, hpv⟩
        · refine eq_let (b := true) (wpAny_truthy_bool ?_)
          rw [if_pos (by decide)]
          refine wpAny_execs_cons (wpAny_Assign_Name (ldG F9 rfl (by rw [if_pos rfl]) ?_ rfl (by rfl)))
          refine stG F9 rfl (fun h10 F10 mv10 => ?_) rfl (by rfl)
          dsimp only
          refine wpAny_execs_cons (wpAny_AugAssign_Name (ldnG (s := { s with heap := h10, toks := _ }) F10 rfl (by rw [if_neg (by decide), if_neg (by decide), if_neg (by decide)]; exact qw) ?_ rfl (by rfl)))
          refine wpAny_Constant_int ?_
          refine iadd_int ?_
          refine stG (s := { s with heap := h10, toks := _ }) F10 rfl (fun h11 F11 mv11 => ?_) rfl (by rfl)
          dsimp only
          refine wpAny_execs_nil ?_
          dsimp only
          refine wpAny_execs_nil ?_
          dsimp only
          refine wpAny_execs_nil ⟨rfl, h11, _, _, vs', rfl, F11.ns, pl_mv (pl_mv hpl mv10 (by simpa using hlL)) mv11 (by simpa using hlL), hlen, ⟨?_, outs ++ [a], w1 + 1, false, by simp [ho], by simpa using hrel, by rw [hgo]; simp [go2], ?_, ⟨_, ?_, .inr ⟨rfl, .inr ⟨a, tv, rfl⟩⟩⟩⟩, Mv.trans (Mv.sub mv10 (by simp)) (Mv.sub mv11 (by simp))⟩
          · dsimp only
            rw [if_neg (by decide), if_neg (by decide), if_neg (by decide), if_neg (by decide)]; exact q1
          · apply Exists.intro
            dsimp only
            rw [if_pos rfl]; rfl
          · dsimp only
            rw [if_neg (by decide), if_pos rfl]
        · have cmp : ∀ (Q : Value → Shared → Prop) (E' : Value → Shared → Prop) (s' : Shared) (u : Tok) (A' : Around), Q (.bool false) s' → wpAny (model PG w) A' (compareOp .Eq pv (.str (Str.ofString "d") u)) Q E' s' := by
            intro Q E' s' u A' hq
            rcases hpv with ⟨tp, rfl⟩ | ⟨n, tp, rfl⟩
            · exact eq_let (b := true) hq
            · exact EqMixed.eq_int_str hq
          refine cmp _ _ _ _ _ (wpAny_truthy_bool ?_)
          rw [if_neg (by decide)]
          refine wpAny_execs_nil ?_
          dsimp only
          refine wpAny_execs_nil ?_
          dsimp only
          refine wpAny_execs_nil ⟨rfl, h9, _, _, vs', rfl, F9.ns, hpl, hlen, ⟨?_, outs ++ [a], w1, false, by simp [ho], by simpa using hrel, by rw [hgo]; simp [go2], ⟨tw, ?_⟩, ⟨pv, ?_, .inr ⟨rfl, hpv⟩⟩⟩, Mv.refl⟩
          · dsimp only
            rw [if_neg (by decide), if_neg (by decide)]; exact q1
          · dsimp only
            rw [if_neg (by decide), if_neg (by decide)]; exact qw
          · dsimp only
            rw [if_neg (by decide), if_neg (by decide)]; exact qp
    case done =>
      rintro h9 tk9 m9 vs9 hns hpl hlen ⟨q1, outs, w1, p, ho, hrel, hgo, qw, qp⟩ hoth
      have hd : es.drop ys6.reverse.length = [] := by rw [List.length_reverse, hyl6]; exact List.drop_of_length_le (by omega)
      rw [hd] at hrel hgo
      simp only [go2, List.append_nil] at hrel hgo
      refine ⟨rfl, h9, tk9, m9, vs9, rfl, ⟨hns, fun b o e => hoth b o (hlold7 b o e) (hk8 _ _ (F7.keep b o e)), F7.above⟩, ?_, q1, hpl, by rw [hgo]; exact hrel, by rw [hgo]; exact qw, by rw [hgo]; exact qp⟩
      obtain ⟨o, ho', hd'⟩ := hc7
      refine ⟨o, hoth _ _ ?_ (hk8 _ _ ho'), hd'⟩
      simp only [List.mem_cons, List.not_mem_nil, or_false, not_or]
      exact ⟨by show @Ne Nat _ _; omega, Ne.symm hlc, by show @Ne Nat _ _; omega, by show @Ne Nat _ _; omega⟩
  obtain ⟨rfl, h8, tk8, m8, ys8, rfl, F8, hc8, r1, hp8, hr8, ⟨tw8, r2⟩, ⟨pv8, r3, r4⟩⟩ := hm
  dsimp only
  have hw1 : (wts bs).1 = (go2 es w0 p0).1 := by unfold wts; simp only [hes, hw0, hp0]
  have hw2 : (wts bs).2 = if (go2 es w0 p0).2.2 then (go2 es w0 p0).2.1 + 1 else (go2 es w0 p0).2.1 := by unfold wts; simp only [hes, hw0, hp0]
  obtain ⟨wf1, wf2, wf3, _⟩ := wts_facts hn2 hn
  refine wpAny_execs_cons (wpAny_mono (Q := fun f s' => f = .next ∧ ∃ h tk m, s' = { s with heap := h, toks := tk } ∧ Fr s.heap L h m ∧ m (Str.ofString "wseq") = some (.ref l) ∧ (∃ t, m (Str.ofString "w") = some (.int ((wts bs).2 : Nat) t)) ∧ Mv [L] h8 h) ?f4 (fun f s' hm => ?r4) (fun _ _ e => e))
  case f4 =>
    refine wpAny_If (wpAny_isTrue_Compare1 (ldG F8 rfl r3 ?_ rfl (by rfl)))
    refine wpAny_Constant_str ?_
    rw [hw2]
    generalize go2 es w0 p0 = q at r2 r4 ⊢
    rcases r4 with ⟨e, tp, rfl⟩ | ⟨e, r4⟩
    · rw [e]
      refine eq_let (b := true) (wpAny_truthy_bool ?_)
      rw [if_pos (by decide), if_pos rfl]
      refine wpAny_execs_cons (wpAny_AugAssign_Name (ldnG F8 rfl r2 ?_ rfl (by rfl)))
      refine wpAny_Constant_int ?_
      refine iadd_int ?_
      refine stG (s := { s with heap := h8, toks := _ }) F8 rfl (fun h9 F9 mv9 => ?_) rfl (by rfl)
      dsimp only
      refine wpAny_execs_nil ⟨rfl, h9, _, _, rfl, F9, ?_, ?_, mv9⟩
      · dsimp only
        rw [if_neg (by decide)]; exact r1
      · apply Exists.intro
        dsimp only
        rw [if_pos rfl]; rfl
    · rw [e]
      have fin : ∀ (Q' : Prop), Q' → Q' := fun _ x => x
      have cmp : ∀ (Q : Value → Shared → Prop) (E' : Value → Shared → Prop) (s' : Shared) (u : Tok) (A' : Around), Q (.bool false) s' → wpAny (model PG w) A' (compareOp .Eq pv8 (.str (Str.ofString "d") u)) Q E' s' := by
        intro Q E' s' u A' hq
        rcases r4 with ⟨tp, rfl⟩ | ⟨n, tp, rfl⟩
        · exact eq_let (b := true) hq
        · exact EqMixed.eq_int_str hq
      refine cmp _ _ _ _ _ (wpAny_truthy_bool ?_)
      rw [if_neg (by decide), if_neg (by decide)]
      exact wpAny_execs_nil ⟨rfl, h8, _, _, rfl, F8, r1, ⟨_, r2⟩, Mv.refl⟩
  obtain ⟨rfl, h9, tk9, m9, rfl, F9, q1, ⟨tw9, q2⟩, mv9⟩ := hm
  dsimp only
  have hp9 : h9.PlainList l ys8.toArray := pl_mv hp8 mv9 (by simpa using hlL)
  have hc9 := cell_mv hc8 mv9 (by simp)
  generalize hW : (wts bs).2 = W at wf1 wf2 wf3 q2
  refine wpAny_execs_cons (wpAny_Assign_Name (wpAny_BinOp (wpAny_Constant_int ?_)))
  refine ldG (s := { s with heap := h9, toks := _ }) F9 rfl q2 ?_ rfl (by rfl)
  have hfr : (Float64.ofFrac (decide ((1 : Int) < 0) != decide ((W : Int) < 0)) (1 : Int).natAbs (W : Int).natAbs) = Float64.ofFrac false 1 W := by
    have e1 : decide ((W : Int) < 0) = false := decide_eq_false (by omega)
    rw [e1, Int.natAbs_natCast]; rfl
  refine AutoIntOps.truediv_2 (by simp; omega) (by rw [hfr]; exact finf_of wf1 wf2) ?_
  rw [hfr]
  show wpAny _ _ (storeName _ _ (.float _ _)) _ _ _
  refine wpAny_storeName_cell rfl (by rfl) (c := L + 1) (by rfl) hc9 (fun h10 hc10 hs10 => ?_)
  dsimp only at hs10 ⊢
  have mv10 : Mv [L + 1] h9 h10 := Mv.same hs10 (by simp)
  have F10 : Fr s.heap L h10 m9 := Fr.mv F9 mv10 (by simp) (fun b hb => by
    rw [List.mem_singleton.mp hb]
    exact none_above F9 (by show @LT.lt Nat _ L (L + 1); omega))
  have hp10 : h10.PlainList l ys8.toArray := pl_mv hp9 mv10 (by simpa using hlc)
  have hyl8 : ys8.length = bs.length := by rw [hr8.1, List.length_map, ← hw1, wts_len]
  refine wpAny_execs_cons (wpAny_Return_some ?_)
  refine ListComp_u (cl := [(Str.ofString "wscale", L + 1)]) (by rfl) rfl (by decide) (by decide) ?_
  refine ldLoc (s := { s with heap := h10, toks := _ }) F10 q1 ?_
  refine wpAny_pyIter_list (pl_list hp10) ?_
  dsimp only
  have hlI : @Ne Nat l h10.objs.size := Nat.ne_of_lt (plt_lt hp10)
  have e5 : (h10.push (listIt l)).objs.size = h10.objs.size + 1 := Heap.size_push ..
  refine ⟨ys8.toArray.size, _, _, csrc_nameT (s₂ := { s with heap := h10.push (listIt l), toks := _ }) (Walks.list (by exact hA.2.1) h10.objs.size l hlI ys8.toArray) (by rw [List.size_toArray]; omega)
    ⟨⟨_, Heap.get?_push_size _ rfl, rfl, rfl⟩, (pl_list hp10).at fun o e => Heap.get?_push_of_some _ e⟩ (fun b hb' => ?hf5)
    (fun (j : Nat) (y : Value) (_ : Heap) => ∃ a t, (wts bs).1[j]? = some a ∧ 1 ≤ t ∧ y = .float (fw W a) t) (fun _ _ _ _ e _ => e) rfl (by rfl) ?hel, ?hfin⟩
  case hf5 =>
    simp only [List.mem_cons, List.not_mem_nil, or_false] at hb'
    show @LT.lt Nat _ b (h10.push (listIt l)).objs.size
    have := plt_lt hp10
    rcases hb' with rfl | rfl
    · omega
    · have : @LT.lt Nat _ b h10.objs.size := this
      omega
  case hel =>
    intro C' j v' h11 tk11 m11 Q' E' hC' hP hns11 hv11 hold htk11 hQ
    have hP' : ys8[j]? = some v' := by simpa using hP
    have hjl : j < (wts bs).1.length := by rw [wts_len, ← hyl8]; exact (List.getElem?_eq_some_iff.mp hP').1
    have hlj : (wts bs).1[j]? = some (wts bs).1[j] := List.getElem?_eq_getElem hjl
    obtain ⟨t11, rfl⟩ : ∃ t, v' = .int (((wts bs).1[j] : Nat) : Int) t := hr8.2 j v' (.num ((wts bs).1[j])) hP' (by rw [← hw1, List.getElem?_map, hlj]; rfl)
    have ha9 : (wts bs).1[j] ≤ 9 := Nat.le_trans (wf3 _ (List.mem_of_getElem? hlj)) wf2
    obtain ⟨tws, cW⟩ : ∃ t, h11.IsCell (L + 1) (some (.float (Float64.ofFrac false 1 W) t)) := by
      obtain ⟨o, ho, hd⟩ := hc10
      exact ⟨_, o, hold _ _ (by rw [List.mem_singleton]; exact (Nat.ne_of_lt (Heap.lt_size ho))) (Heap.get?_push_of_some _ ho), hd⟩
    refine wpAny_BinOp (ldVarK hns11 hv11 ?_)
    refine ldCellK (c := L + 1) (by rfl) cW ?_
    refine mul_if_fits (by rw [Int.natAbs_natCast]; exact Nat.lt_of_le_of_lt ha9 (by decide)) ?_
    exact hQ h11 _ _ (fun b o e => e) ⟨_, _, hlj, htk11, rfl⟩
  case hfin =>
    intro C' D' h11 h12 ys tk12 tw hpD hyl' ⟨hold, hyn, hel⟩ hs12
    obtain ⟨tw1, tw2, tw3, tw4, tw5⟩ := tw
    dsimp only at tw1 tw2 tw3 tw4 hold
    rw [e5] at tw1 tw2 tw3 tw4
    refine hR h12 tk12 D' ys (fun b o e => ?_) ?_ hpD ⟨by rw [hyn, List.size_toArray, List.length_map, wts_len, hyl8], fun j v x hv hx => ?_⟩
    · have e10 := F10.keep b o e
      have hb10 : @LT.lt Nat _ b h10.objs.size := Heap.lt_size e10
      refine hs12.extBut b o (by show @Ne Nat _ _; omega) (hold b o (by rw [List.mem_singleton]; show @Ne Nat _ _; omega) (Heap.get?_push_of_some _ e10))
    · exact none_above F10 (by have : @LT.lt Nat _ L h10.objs.size := F10.ns.lt; show @LT.lt Nat _ L D'; omega)
    · obtain ⟨a, t, ha, ht, rfl⟩ := hel j v hv
      rw [List.getElem?_map, ha] at hx
      cases hx
      rw [hW]
      exact ⟨t, ht, rfl⟩
end Mine
end

section
open PySem PySem.W PySem.Calls PyProof.Rows
set_option Elab.async false
set_option maxRecDepth 100000
set_option maxHeartbeats 8000000
namespace Mine
theorem fillK_NU : PySem.Challenge.rw_au6018_01 = PySem.Challenge.rw_au6018_01 → hd.heap_39 = hd.heap_39 → True := by
  k_fill
  intro _ _; trivial

def IsI (v : Value) : Prop := ∃ k t, v = .int k t
theorem intsOf {vs : List Value} (h : ∀ (i : Nat) (v : Value), vs[i]? = some v → IsI v) : ∃ ns, IntsAre vs ns := by
  induction vs with
  | nil => exact ⟨[], .nil⟩
  | cons v vs ih =>
    obtain ⟨ns, hns⟩ := ih fun i v e => h (i + 1) v (by simpa using e)
    obtain ⟨k, t, rfl⟩ := h 0 v rfl
    exact ⟨k :: ns, .cons _ _ hns⟩
theorem isI_of {vs : List Value} {ns : List Int} (h : IntsAre vs ns) {i : Nat} {v : Value} (e : vs[i]? = some v) : IsI v := by
  induction h generalizing i with
  | nil => simp at e
  | cons n t _ ih =>
    cases i with
    | zero => simp at e; subst e; exact ⟨n, t, rfl⟩
    | succ i => exact ih (by simpa using e)
theorem slice20 (items : Array Value) : (slicePick items none (some 20) none).size ≤ 20 ∧ ∀ (i : Nat) (v : Value), (slicePick items none (some 20) none)[i]? = some v → ∃ j : Nat, items[j]? = some v := by
  constructor
  · unfold slicePick
    rw [List.size_toArray]
    refine Nat.le_trans (List.length_filterMap_le _ _) (sliceRange_length_le _ _ _ 20 (fun _ => ?_) fun hc => ?_)
    · simp only [sliceBounds]
      constructor
      · simp
      · simp
        omega
    · simp [sliceBounds] at hc
  · intro i v e
    unfold slicePick at e
    have e' : ((sliceRange (sliceBounds none (some 20) none items.size).1 (sliceBounds none (some 20) none items.size).2.1 (sliceBounds none (some 20) none items.size).2.2).filterMap (items[·]?))[i]? = some v := by simpa using e
    have := List.mem_of_getElem? e'
    rw [List.mem_filterMap] at this
    obtain ⟨j, _, h⟩ := this
    exact ⟨j, h⟩

theorem numbers_spec {w : World} {A : Around} {s : Shared} {R : Result → Shared → Prop} {mg mb} (hA : AOk A 2)
  (KX : (hd.heap_39 w.params).In s.heap) (T : TopRead hd.view_39 LOOSE mg mb s.heap)
  {l : Addr} {vs : List Value} {ns : List Int} {tm : Tok} (hl : s.heap.IsList l vs.toArray) (hi : IntsAre vs ns) (hn : ns.length ≤ 100)
  (hR : ∀ h tk r (rs : List Value), (∀ b o, s.heap.get? b = some o → h.get? b = some o) → s.heap.get? r = none → h.PlainList r (rs : List Value).toArray → rs.length = 20 → (∀ (i : Nat) (v : Value), rs[i]? = some v → IsI v) → R (.ok (.ret (.ref r))) { s with heap := h, toks := tk }) :
  codeAny (model PG w) A (.call (.ref 683) ⟨[.ref l, .int 20 tm], []⟩) R s := by
  refine' enterK (binds := [(Str.ofString "script", .ref l), (Str.ofString "many", .int 20 tm)]) KX T.nolimit ?k1 ?k2 ?k3 ?k4 ?k5 ?h ?k6 ?k7 ?k8 ?k9
  case k1 => k_is
  case k2 => k_is
  case k3 => exact hA.room
  case k4 => exact BindsTo.of_eq (by rfl)
  case k5 => exact locs (by rfl)
  case k6 => decide
  case k7 => rfl
  case k8 => rfl
  case k9 => rfl
  intro h₀ F
  generalize hL : s.heap.objs.size = L at F ⊢
  generalize hm : (fun y => List.lookup y [(Str.ofString "script", Value.ref l), (Str.ofString "many", .int 20 tm)].reverse) = m₀ at F
  have m1 : m₀ (Str.ofString "script") = some (.ref l) := by rw [← hm]; rfl
  have m2 : m₀ (Str.ofString "many") = some (.int 20 tm) := by rw [← hm]; rfl
  clear hm
  have hvn : vs.length = ns.length := hi.length
  have hl0 : h₀.IsList l vs.toArray := hl.at fun o e => F.keep _ _ e
  have hll : @LT.lt Nat _ l s.heap.objs.size := by obtain ⟨o, ho, _⟩ := hl; exact Heap.lt_size ho
  have hlL : @Ne Nat l L := by omega
  refine wpAny_execs_cons ?_
  refine asg_comp (g := s.heap) (cl := []) (by rfl) (by rfl) rfl (by decide) (by decide) rfl (by rfl) ?_
  refine wpAny_Subscript_list_slice (ld F m1 ?_)
  refine wpAny_pure ?_
  refine ld F m2 ?_
  refine ⟨l, _, none, some 20, rfl, hl0, by rw [sizeLine_eq]; simp; omega, .none, .int _ _, ?_⟩
  dsimp only
  obtain ⟨hp20, hpi⟩ := slice20 vs.toArray
  generalize hpk : slicePick vs.toArray none (some 20) none = pk at hp20 hpi ⊢
  generalize hH : (h₀.push { cls := .type "slice", data := .fields #[Value.none, Value.int 20 tm, .none] }) = H1
  have hS : h₀.objs.size + 1 = H1.objs.size := by rw [← hH, Heap.size_push]
  rw [hS]
  generalize hH2 : (H1.push { cls := .type "list", data := .seq pk }) = H2
  have k2 : ∀ b o, h₀.get? b = some o → H2.get? b = some o := fun b o e => by rw [← hH2, ← hH]; exact Heap.get?_push_of_some _ (Heap.get?_push_of_some _ e)
  have F2 := F.keeps k2
  have hpl : H2.PlainList H1.objs.size pk := by rw [← hH2]; exact pl_new H1 _
  have hL0 : @LT.lt Nat _ L h₀.objs.size := F.ns.lt
  generalize hd1 : H1.objs.size = d1 at hpl
  have hs2 : H2.objs.size = d1 + 1 := by rw [← hH2, Heap.size_push, hd1]
  refine wpAny_pyIter_list (s := { s with heap := H2, toks := _ }) (pl_list hpl) ?_
  have F2p := F2.push (listIt d1)
  have hwr1 : ∀ b : Nat, b ∈ [H2.objs.size] → @LT.lt Nat _ L b := fun b hb => by
    have e : b = H2.objs.size := by simpa using hb
    show @LT.lt Nat _ L b; omega
  have nd : @Ne Nat d1 H2.objs.size := by omega
  have hck : ∀ b : Nat, b ∈ [H2.objs.size, d1] → @LT.lt Nat _ b (H2.push (listIt d1)).objs.size := fun b hb => by
    have e : (H2.push (listIt d1)).objs.size = H2.objs.size + 1 := Heap.size_push ..
    simp only [List.mem_cons, List.not_mem_nil, or_false] at hb
    omega
  refine ⟨_, _, _, _, [H2.objs.size], csrc_name (s₂ := { s with heap := H2.push (listIt d1), toks := _ }) (Walks.list (by exact hA.2.1) H2.objs.size d1 nd pk) (by omega) ⟨⟨_, Heap.get?_push_size _ rfl, rfl, rfl⟩, (pl_list hpl).at fun o e => Heap.get?_push_of_some _ e⟩
    hck (fun (j : Nat) (y : Value) (_ : Heap) => IsI y) (fun _ _ _ _ e _ => e) rfl (by rfl) ?_, F2p, hwr1, fun h2 ys hf => hf.1, ?_⟩
  · intro C i v h tk m Q E' hC hP hns hx hold hQ
    have hP' : pk[i]? = some v := by simpa using hP
    obtain ⟨j, hj⟩ := hpi _ _ hP'
    have hv : IsI v := isI_of hi (i := j) (by simpa using hj)
    refine eval_local hns hx ?_ rfl (lookup_relabel_local (by rfl)) (by decide)
    exact hQ h _ _ (fun b o e => e) hv
  rintro C1 D1 h2 ys h4 tk4 tw hy2 ⟨hk2, hlen2, hel2⟩ F4 hp4 mv4 _ hLD
  dsimp only
  have hys20 : ys.length ≤ 20 := by rw [hlen2]; exact hp20
  have hyI : ∀ (i : Nat) (v : Value), ys[i]? = some v → IsI v := hel2
  clear hel2 hlen2 hk2
  generalize hm4 : (fun z => if z = Str.ofString "found" then some (Value.ref D1) else m₀ z) = m4 at F4
  have q1 : m4 (Str.ofString "script") = some (.ref l) := by rw [← hm4]; exact m1
  have q2 : m4 (Str.ofString "many") = some (.int 20 tm) := by rw [← hm4]; exact m2
  have q3 : m4 (Str.ofString "found") = some (.ref D1) := by rw [← hm4]; rfl
  clear hm4
  have hl4 : h4.IsList l vs.toArray := hl.at fun o e => F4.keep _ _ e
  refine wpAny_execs_cons (wpAny_Assign_Name (wpAny_BinOp (wpAny_Constant_int ?_)))
  refine Call_ ?_
  refine name_B F4 KX T (by k_is) (by boot_by_name) (by decide) ?_
  refine callWith_method1 ?_
  refine args_cons (ld F4 q1 ?_)
  refine args_nil ?_
  refine len_list hl4 (by simp; omega) ?_
  refine add_int ?_
  have hsz : (7 + (vs.toArray.size : Int)) = 7 + (vs.length : Int) := by simp
  rw [hsz]
  refine stL (s := { s with heap := h4, toks := _ }) F4 (fun h5 F5 mv5 => ?_) rfl (by rfl)
  dsimp only
  have hDn : s.heap.get? D1 = none := none_above F4 hLD
  have hDL : @Ne Nat D1 L := by omega
  have hp5 : h5.PlainList D1 ys.toArray := pl_mv hp4 mv5 (by simpa using hDL)
  generalize hm5 : (fun z => if z = Str.ofString "last" then _ else _) = m5 at F5
  have r1 : m5 (Str.ofString "script") = some (.ref l) := by rw [← hm5]; exact q1
  have r2 : m5 (Str.ofString "many") = some (.int 20 tm) := by rw [← hm5]; exact q2
  have r3 : m5 (Str.ofString "found") = some (.ref D1) := by rw [← hm5]; exact q3
  have r4 : ∃ x t, 0 ≤ x ∧ x < 2147483647 ∧ m5 (Str.ofString "last") = some (.int x t) := ⟨_, _, by show (0:Int) ≤ 7 + (vs.length : Int); omega, by omega, by rw [← hm5]; rfl⟩
  clear hm5
  have hl5 : h5.IsList l vs.toArray := hl.at fun o e => F5.keep _ _ e
  have hL5 : @LT.lt Nat _ L h5.objs.size := F5.ns.lt
  have hD5 : @LT.lt Nat _ D1 h5.objs.size := plt_lt hp5
  refine wpAny_execs_cons (wpAny_mono (Q := fun f s' => f = .next ∧ ∃ h tk m, s' = { s with heap := h, toks := tk } ∧ Fr s.heap L h m ∧ (m (Str.ofString "many") = some (.int 20 tm) ∧ m (Str.ofString "found") = some (.ref D1) ∧
      ∃ x t, 0 ≤ x ∧ x < 2147483647 ∧ m (Str.ofString "last") = some (.int x t)) ∧ h.PlainList D1 ys.toArray) ?f1 (fun f s' hm => ?r1) (fun _ _ e => e))
  case f1 =>
    refine for_ (g := s.heap) rfl (by rfl) ?_
    refine ld F5 r1 ?_
    refine wpAny_pyIter_list (s := { s with heap := h5, toks := _ }) hl5 ?_
    have lI : @Ne Nat l h5.objs.size := by omega
    have LI : @Ne Nat L h5.objs.size := by omega
    have DI : @Ne Nat D1 h5.objs.size := by omega
    refine ⟨h5.objs.size, [h5.objs.size, l], [h5.objs.size], vs.toArray.size, _, _, m5, fun i h m => (m (Str.ofString "many") = some (.int 20 tm) ∧ m (Str.ofString "found") = some (.ref D1) ∧
      ∃ x t, 0 ≤ x ∧ x < 2147483647 ∧ m (Str.ofString "last") = some (.int x t)) ∧ h.PlainList D1 ys.toArray, ?live,
      ⟨rfl, Walks.list (by exact hA.2.1) h5.objs.size l lI vs.toArray, ?lf, ?wn, ⟨⟨_, Heap.get?_push_size _ rfl, rfl, rfl⟩, hl5.at fun o e => Heap.get?_push_of_some _ e⟩, F5.push _, ⟨⟨r2, r3, r4⟩, pl_keep hp5 fun b o e => Heap.get?_push_of_some _ e⟩, ?keep, ?step, ?done⟩⟩
    case live =>
      intro i h st b hb
      simp only [List.mem_cons, List.not_mem_nil, or_false] at hb
      rcases hb with rfl | rfl
      · exact let ⟨o, ho, _⟩ := st.1; ⟨o, ho⟩
      · exact let ⟨o, ho, _⟩ := st.2; ⟨o, ho⟩
    case lf =>
      simp only [List.mem_cons, List.not_mem_nil, or_false, not_or]
      exact ⟨LI, Ne.symm hlL⟩
    case wn => intro b hb; rw [List.mem_singleton.mp hb]; exact none_above F5 hL5
    case keep =>
      rintro i h h' m ⟨hm, ⟨n1, e1⟩⟩ hk
      exact ⟨hm, ⟨n1, hk _ _ (by simpa using DI) hDL e1⟩⟩
    case done =>
      rintro h tk m F ⟨hm, hp⟩
      exact ⟨rfl, h, tk, m, rfl, F, hm, hp⟩
    case step =>
      rintro i v h tk m E' hi' hP ⟨⟨a1, a2, x, tx, x0, x1, a3⟩, hp⟩ F hfp
      obtain ⟨y, ty, rfl⟩ : IsI v := isI_of hi (i := i) (by simpa using hP)
      refine wpAny_execs_cons (wpAny_Assign_Name (wpAny_BinOp (wpAny_BinOp (wpAny_BinOp (ld F (by rw [if_neg (by decide)]; exact a3) ?_)))))
      refine wpAny_Constant_int ?_
      refine mul_int ?_ ?_
      rotate_left
      · exact PySem.IntMulOk.of_left (PySem.intBits_le_64 (by omega) (by omega))
      refine ld (s := { s with heap := h, toks := _ }) F (by rw [if_pos rfl]) ?_
      refine add_int ?_
      refine wpAny_Constant_int ?_
      refine mod_int (by decide) ?_
      refine stL (s := { s with heap := h, toks := _ }) F (fun h' F' mv' => ?_) rfl (by rfl)
      refine wpAny_execs_nil ⟨rfl, h', _, _, rfl, F', ⟨⟨?_, ?_, _, _, Int.fmod_nonneg_of_pos _ (by decide), Int.fmod_lt_of_pos _ (by decide), if_pos rfl⟩, pl_mv hp mv' (by simpa using hDL)⟩, fun b hb o e => mv' b o ?_ e⟩
      · dsimp only; rw [if_neg (by decide), if_neg (by decide)]; exact a1
      · dsimp only; rw [if_neg (by decide), if_neg (by decide)]; exact a2
      · simp only [List.mem_cons, List.not_mem_nil, or_false] at hb
        rcases hb with rfl | rfl
        · simpa using Ne.symm LI
        · simpa using hlL
  obtain ⟨rfl, h6, tk6, m6, rfl, F6, ⟨g1, g2, g3⟩, hp6⟩ := hm
  dsimp only
  refine wpAny_execs_cons (wpAny_mono (Q := fun f s' => f = .next ∧ ∃ h tk m rs, s' = { s with heap := h, toks := tk } ∧ Fr s.heap L h m ∧ m (Str.ofString "found") = some (.ref D1) ∧
      h.PlainList D1 (rs : List Value).toArray ∧ rs.length = 20 ∧ ∀ (i : Nat) (v : Value), rs[i]? = some v → IsI v) ?f2 (fun f s' hm => ?r2) (fun _ _ e => e))
  case f2 =>
    refine while_ (fun k s' => ∃ h tk m rs, s' = { s with heap := h, toks := tk } ∧ Fr s.heap L h m ∧ (m (Str.ofString "many") = some (.int 20 tm) ∧ m (Str.ofString "found") = some (.ref D1) ∧
      ∃ x t, 0 ≤ x ∧ x < 2147483647 ∧ m (Str.ofString "last") = some (.int x t)) ∧
      h.PlainList D1 (rs : List Value).toArray ∧ rs.length + k = 20 ∧ ∀ (i : Nat) (v : Value), rs[i]? = some v → IsI v) ?turn (20 - ys.length) ⟨h6, _, m6, ys, rfl, F6, ⟨g1, g2, g3⟩, hp6, by omega, hyI⟩
    rintro k s' E' ⟨h, tk, m, rs, rfl, F, ⟨a1, a2, x, tx, x0, x1, a3⟩, hp, hk, hI⟩
    refine wpAny_isTrue_Compare1 (Call_ ?_)
    refine name_B F KX T (by k_is) (by boot_by_name) (by decide) ?_
    refine callWith_method1 ?_
    refine args_cons (ld F a2 ?_)
    refine args_nil ?_
    refine pl_len (s := { s with heap := h, toks := _ }) hp (by omega) fun t6 => ?_
    refine ld (s := { s with heap := h, toks := _ }) F a1 ?_
    refine PyProof.Rows.lt_int ?_
    refine wpAny_truthy_bool ?_
    by_cases hlt : rs.length < 20
    · rw [if_pos (by simpa using by omega)]
      refine wpAny_execs_cons (wpAny_Assign_Name (wpAny_BinOp (wpAny_BinOp (wpAny_BinOp (ld (s := { s with heap := h, toks := _ }) F a3 ?_)))))
      refine wpAny_Constant_int ?_
      refine mul_int ?_ ?_
      rotate_left
      · exact PySem.IntMulOk.of_left (PySem.intBits_le_64 (by omega) (by omega))
      refine wpAny_Constant_int ?_
      refine add_int ?_
      refine wpAny_Constant_int ?_
      refine mod_int (by decide) ?_
      refine stL (s := { s with heap := h, toks := _ }) F (fun h' F' mv' => ?_) rfl (by rfl)
      have hp' := pl_mv hp mv' (by simpa using hDL)
      refine wpAny_execs_cons (Expr_none (MethodCall_ (ld (s := { s with heap := h', toks := _ }) F' (by rw [if_neg (by decide)]; exact a2) ?_)) (by rfl) (by rfl))
      refine pl_method hp' PySem.F.slot_list_append rfl ?_
      refine callWith_method1 ?_
      refine args_cons (wpAny_BinOp (ld (s := { s with heap := h', toks := _ }) F' (by rw [if_pos rfl]) ?_))
      refine wpAny_Constant_int ?_
      refine floordiv_int (by decide) ?_
      refine args_nil ?_
      refine pl_append (s := { s with heap := h', toks := _ }) hp' (by omega) fun h8 hp8 hs8 => ⟨rfl, ?_⟩
      have mv8 : Mv [D1] h' h8 := Mv.same hs8 (by simp)
      have F8 := Fr.mv F' mv8 (by simpa using Ne.symm hDL) (by simpa using hDn)
      refine wpAny_execs_nil ⟨rfl, k - 1, by omega, h8, _, _, _, rfl, F8, ⟨?_, ?_, _, _, Int.fmod_nonneg_of_pos _ (by decide), Int.fmod_lt_of_pos _ (by decide), if_pos rfl⟩, hp8, by simp; omega, fun i v hv => ?_⟩
      · rw [if_neg (by decide)]; exact a1
      · rw [if_neg (by decide)]; exact a2
      · rcases Nat.lt_or_ge i rs.length with hi' | hi'
        · rw [List.getElem?_append_left hi'] at hv; exact hI i v hv
        · rw [List.getElem?_append_right hi'] at hv
          cases e : i - rs.length with
          | zero => rw [e] at hv; simp at hv; subst hv; exact ⟨_, _, rfl⟩
          | succ j => rw [e] at hv; simp at hv
    · rw [if_neg (by simpa using by omega)]
      exact ⟨rfl, h, _, m, rs, rfl, F, a2, hp, by omega, hI⟩
  obtain ⟨rfl, h7, tk7, m7, rs, rfl, F7, g7, hp7, hr7, hI7⟩ := hm
  dsimp only
  refine wpAny_execs_cons (wpAny_Return_some (ld F7 g7 ?_))
  exact hR h7 _ D1 _ F7.keep hDn hp7 hr7 hI7
end Mine
end

section
open PySem PySem.W PyProof.Rows
set_option Elab.async false
set_option maxRecDepth 100000
set_option maxHeartbeats 4000000
namespace Mine
abbrev LeW (P : List (Int × Int)) : Prop := P.Pairwise fun p q => p.1 ≤ q.1
abbrev SoW (P : List (Int × Int)) : Prop := P.Pairwise fun p q => pLt p q = true
theorem SoW.le {P : List (Int × Int)} (h : SoW P) : LeW P := h.imp fun e => by rcases pLt_spec.mp e with e | e <;> omega
theorem snoc_of {α : Type} {P : List α} (h : P ≠ []) : ∃ Q q, P = Q ++ [q] := ⟨P.dropLast, P.getLast h, (List.dropLast_concat_getLast h).symm⟩
theorem lastW_ge {P : List (Int × Int)} (h : LeW P) {r : Int × Int} (hr : r ∈ P) : r.1 ≤ lastW P := by
  obtain ⟨Q, q, rfl⟩ := snoc_of (P := P) (by rintro rfl; simp at hr)
  rw [lastW_snoc]
  rcases List.mem_append.mp hr with hr | hr
  · exact (List.pairwise_append.mp h).2.2 _ hr _ (by simp)
  · rw [List.mem_singleton.mp hr]; omega
theorem headW_le {P : List (Int × Int)} (h : LeW P) {r : Int × Int} (hr : r ∈ P) : (P.headD (0, 0)).1 ≤ r.1 := by
  cases P with
  | nil => simp at hr
  | cons p P =>
    rcases List.mem_cons.mp hr with e | hr
    · subst e; simp
    · exact (List.pairwise_cons.mp h).1 _ hr
theorem Peel.perm {T : Int} {P : List (Int × Int)} {C : List (Int × Bool)} (h : Peel T P C) : (C.map (·.1)).Perm (P.map (·.2)) := by
  induction h with
  | one p => simp
  | low _ _ _ ih => simpa using ih
  | high _ _ _ ih =>
    simp only [List.map_cons, List.map_append, List.map_nil]
    exact (List.Perm.cons _ ih).trans (List.perm_append_singleton _ _).symm
theorem Peel.ne {T : Int} {P : List (Int × Int)} {C : List (Int × Bool)} (h : Peel T P C) : C ≠ [] := by cases h <;> simp
theorem Peel.last {T : Int} {P : List (Int × Int)} {C : List (Int × Bool)} (h : Peel T P C) : ∃ k, C.reverse[0]? = some (k, true) := by
  induction h with
  | one p => exact ⟨p.2, rfl⟩
  | low _ _ hp ih =>
    obtain ⟨k, hk⟩ := ih
    refine ⟨k, ?_⟩
    rw [List.reverse_cons, List.getElem?_append_left (by have := (List.getElem?_eq_some_iff.mp hk).1; exact this)]; exact hk
  | high _ _ hp ih =>
    obtain ⟨k, hk⟩ := ih
    refine ⟨k, ?_⟩
    rw [List.reverse_cons, List.getElem?_append_left (by have := (List.getElem?_eq_some_iff.mp hk).1; exact this)]; exact hk
theorem Peel.det {T : Int} {P : List (Int × Int)} {C C' : List (Int × Bool)} (h : Peel T P C) (h' : Peel T P C') : C = C' := by
  induction h generalizing C' with
  | one p =>
    generalize hP : [p] = P at h'
    cases h' with
    | one q => cases hP; rfl
    | low hn _ _ => cases hP; exact absurd rfl hn
    | high hn _ _ => exact absurd (congrArg List.length hP) (by simp; intro e; exact hn e)
  | @low p P C hn hlt hp ih =>
    generalize hP : p :: P = P2 at h'
    cases h' with
    | one q => cases hP; exact absurd rfl hn
    | low hn2 hl2 hp2 => cases hP; rw [ih hp2]
    | @high P3 q C3 hn2 hl2 hp2 =>
      cases P3 with
      | nil => exact absurd rfl hn2
      | cons p3 P3 =>
        simp only [List.cons_append, List.cons.injEq] at hP
        obtain ⟨rfl, rfl⟩ := hP
        rw [lastW_snoc] at hlt
        exact absurd hlt (by simpa using hl2)
  | @high P q C hn hge hp ih =>
    generalize hP : P ++ [q] = P2 at h'
    cases h' with
    | one p => exact absurd (congrArg List.length hP) (by simp; intro e; exact hn e)
    | @low p3 P3 C3 hn2 hl2 hp2 =>
      cases P with
      | nil => exact absurd rfl hn
      | cons p P =>
        simp only [List.cons_append, List.cons.injEq] at hP
        obtain ⟨rfl, rfl⟩ := hP
        rw [lastW_snoc] at hl2
        exact absurd hl2 (by simpa using hge)
    | high hn2 hl2 hp2 =>
      obtain ⟨rfl, e⟩ := List.append_inj' hP rfl
      cases e
      rw [ih hp2]

def scl (g : Int) (p : Int × Int) : Int × Int := (g * p.1, p.2)
theorem lastW_map {g : Int} {P : List (Int × Int)} (h : P ≠ []) : lastW (P.map (scl g)) = g * lastW P := by
  obtain ⟨Q, q, rfl⟩ := snoc_of h
  rw [List.map_append, List.map_singleton, lastW_snoc, lastW_snoc]; rfl
theorem Peel.scale {T g : Int} (hg : 0 < g) {P : List (Int × Int)} {C : List (Int × Bool)} (h : Peel T P C) : Peel (g * T) (P.map (scl g)) C := by
  induction h with
  | one p => exact Peel.one (scl g p)
  | @low p P C hn hlt hp ih =>
    refine Peel.low (p := scl g p) (by simpa using hn) ?_ ih
    rw [lastW_map hn]
    show g * p.1 + g * lastW P < g * T
    rw [← Int.mul_add]
    exact Int.mul_lt_mul_of_pos_left hlt hg
  | @high P q C hn hge hp ih =>
    rw [List.map_append, List.map_singleton]
    refine Peel.high (q := scl g q) (by simpa using hn) ?_ ih
    have e : ((P.map (scl g)).headD (0, 0)).1 = g * (P.headD (0, 0)).1 := by cases P with
      | nil => exact absurd rfl hn
      | cons p P => rfl
    rw [e]
    show ¬ (g * _ + g * q.1 < g * T)
    rw [← Int.mul_add]
    intro hc
    exact hge (Int.lt_of_mul_lt_mul_left hc (Int.le_of_lt hg))
theorem SoW.scale {g : Int} (hg : 0 < g) {P : List (Int × Int)} (h : SoW P) : SoW (P.map (scl g)) := by
  rw [SoW, List.pairwise_map]
  refine h.imp fun {p q} e => pLt_spec.mpr ?_
  show g * p.1 < g * q.1 ∨ (g * p.1 = g * q.1 ∧ p.2 < q.2)
  rcases pLt_spec.mp e with e | ⟨e, e2⟩
  · exact .inl (Int.mul_lt_mul_of_pos_left e hg)
  · exact .inr ⟨by rw [e], e2⟩
theorem sorted_unique : ∀ {a b : List (Int × Int)}, SoW a → SoW b → a.Perm b → a = b
  | [], b, _, _, p => List.Perm.nil_eq p
  | x :: a, b, ha, hb, p => by
    cases b with
    | nil => exact absurd p.length_eq (by simp)
    | cons y b =>
      have h1 := List.pairwise_cons.mp ha
      have h2 := List.pairwise_cons.mp hb
      have xy : x = y := by
        have hx : x ∈ y :: b := p.mem_iff.mp (List.mem_cons_self ..)
        have hy : y ∈ x :: a := p.mem_iff.mpr (List.mem_cons_self ..)
        rcases List.mem_cons.mp hx with e | hx
        · exact e
        rcases List.mem_cons.mp hy with e | hy
        · exact e.symm
        have q1 := pLt_spec.mp (h1.1 _ hy)
        have q2 := pLt_spec.mp (h2.1 _ hx)
        omega
      subst xy
      rw [sorted_unique h1.2 h2.2 (List.perm_cons x |>.mp p)]

def eSet (W : Int → Int) (T : Int) (k : Int) (ls : List Int) : List Int := ls.filter fun j => decide (j ≠ k ∧ T < W k + W j)
theorem Peel.edges {T : Int} {P : List (Int × Int)} {C : List (Int × Bool)} (h : Peel T P C) (W : Int → Int) (hs : LeW P) (hW : ∀ p ∈ P, W p.2 = p.1) (hnd : (P.map (·.2)).Nodup)
    (ht : ∀ p ∈ P, ∀ q ∈ P, p.2 ≠ q.2 → p.1 + q.1 ≠ T) : ∀ r ∈ tgraph C.reverse, r.2.Perm (eSet W T r.1 (C.map (·.1))) := by
  induction h with
  | one p =>
    intro r hr
    have e : tgraph ([(p.2, true)] : List (Int × Bool)).reverse = [(p.2, [])] := rfl
    rw [e] at hr
    rw [List.mem_singleton.mp hr]
    simp [eSet]
  | @low p P C hn hlt hp ih =>
    have hs' := (List.pairwise_cons.mp hs)
    rw [List.map_cons, List.nodup_cons] at hnd
    have ih := ih hs'.2 (fun q hq => hW q (List.mem_cons_of_mem _ hq)) hnd.2 (fun a ha b hb => ht a (List.mem_cons_of_mem _ ha) b (List.mem_cons_of_mem _ hb))
    have hWp : W p.2 = p.1 := hW p (List.mem_cons_self ..)
    have hlow : ∀ k ∈ C.map (·.1), W k + p.1 < T := fun k hk => by
      obtain ⟨q, hq, rfl⟩ := List.mem_map.mp (hp.perm.mem_iff.mp hk)
      rw [hW q (List.mem_cons_of_mem _ hq)]
      have := lastW_ge hs'.2 hq
      omega
    intro r hr
    rw [List.reverse_cons, tgraph_snoc] at hr
    unfold tstep at hr
    simp only [Bool.false_eq_true, if_false, List.mem_append, List.mem_singleton] at hr
    rcases hr with hr | rfl
    · refine (ih r hr).trans ?_
      have hk : r.1 ∈ C.map (·.1) := by
        have : r.1 ∈ keysOf (tgraph C.reverse) := List.mem_map_of_mem hr
        rw [keysOf_tgraph, List.map_reverse, List.mem_reverse] at this
        exact this
      have := hlow _ hk
      unfold eSet
      rw [List.map_cons, List.filter_cons_of_neg]
      rw [decide_eq_true_eq]
      rw [hWp]
      omega
    · unfold eSet
      rw [List.map_cons, List.filter_cons_of_neg (by simp), List.filter_eq_nil_iff.mpr]
      intro k hk
      rw [decide_eq_true_eq, hWp]
      have := hlow k hk
      omega
  | @high P q C hn hge hp ih =>
    have hs' := List.pairwise_append.mp hs
    rw [List.map_append, List.map_singleton, List.nodup_append] at hnd
    have ih := ih hs'.1 (fun x hx => hW x (List.mem_append_left _ hx)) hnd.1 (fun a ha b hb => ht a (List.mem_append_left _ ha) b (List.mem_append_left _ hb))
    have hWq : W q.2 = q.1 := hW q (by simp)
    have hhigh : ∀ k ∈ C.map (·.1), T < W k + q.1 ∧ k ≠ q.2 := fun k hk => by
      obtain ⟨x, hx, rfl⟩ := List.mem_map.mp (hp.perm.mem_iff.mp hk)
      rw [hW x (List.mem_append_left _ hx)]
      have h1 := headW_le hs'.1 hx
      have h2 : x.2 ≠ q.2 := hnd.2.2 _ (List.mem_map_of_mem hx) _ (by simp)
      have h3 := ht x (List.mem_append_left _ hx) q (by simp) h2
      exact ⟨by omega, h2⟩
    intro r hr
    rw [List.reverse_cons, tgraph_snoc] at hr
    unfold tstep at hr
    simp only [if_true, List.mem_append, List.mem_singleton, List.mem_map] at hr
    rcases hr with ⟨r, hr, rfl⟩ | rfl
    · have hk : r.1 ∈ C.map (·.1) := by
        have : r.1 ∈ keysOf (tgraph C.reverse) := List.mem_map_of_mem hr
        rw [keysOf_tgraph, List.map_reverse, List.mem_reverse] at this
        exact this
      have := hhigh _ hk
      show (r.2 ++ [q.2]).Perm (eSet W T r.1 _)
      unfold eSet
      rw [List.map_cons, List.filter_cons_of_pos]
      · exact (List.perm_append_singleton _ _).trans (List.Perm.cons _ (ih r hr))
      · rw [decide_eq_true_eq, hWq]
        exact ⟨fun e => this.2 e.symm, this.1⟩
    · unfold eSet
      rw [List.map_cons, List.filter_cons_of_neg (by simp), List.filter_eq_self.mpr]
      · rw [keysOf_tgraph, List.map_reverse]; exact List.reverse_perm _
      · intro k hk
        rw [decide_eq_true_eq, hWq]
        have := hhigh k hk
        exact ⟨this.2, by omega⟩
end Mine
end

section
open PySem PySem.W PyProof.Rows
set_option Elab.async false
set_option maxRecDepth 100000
set_option maxHeartbeats 4000000
namespace Mine
def nearOf (V : List Int) (T : Int) : List (List Nat) := (List.range V.length).map fun a => (List.range V.length).filter fun b => decide (a ≠ b ∧ T < V.getD a 0 + V.getD b 0)
theorem nearOf_len (V : List Int) (T : Int) : (nearOf V T).length = V.length := by simp [nearOf]
theorem nearOf_small (V : List Int) (T : Int) (h : V.length ≤ 8) : ∀ l ∈ nearOf V T, l.length ≤ 8 ∧ ∀ b ∈ l, b < V.length := by
  intro l hl
  obtain ⟨a, ha, rfl⟩ := List.mem_map.mp hl
  refine ⟨Nat.le_trans (List.length_filter_le _ _) (by simpa using h), fun b hb => ?_⟩
  exact List.mem_range.mp (List.mem_filter.mp hb).1
theorem peel_law {V ns : List Int} {T : Int} {P' : List (Int × Int)} {C : List (Int × Bool)} (hl : ns.length = V.length) (hnd : ns.Nodup) (hp : P'.Perm (V.zip ns)) (hs : SoW P') (h : Peel T P' C)
    (hev : ∀ v ∈ V, v % 2 = 0) (hodd : T % 2 = 1) :
    (keysOf (tgraph C.reverse)).Perm ns ∧ ∀ (i : Nat) (k : Int) (l : List Nat), ns[i]? = some k → (nearOf V T)[i]? = some l → ∃ (j : Nat) (nb : List Int), (tgraph C.reverse)[j]? = some (k, nb) ∧ nb.Perm (l.map fun b => ns.getD b 0) := by
  have hz : (V.zip ns).map (·.2) = ns := by rw [List.map_snd_zip]; omega
  have hC : (C.map (·.1)).Perm ns := h.perm.trans ((hp.map _).trans (by rw [hz]))
  have hkeys : (keysOf (tgraph C.reverse)).Perm ns := by rw [keysOf_tgraph, List.map_reverse]; exact (List.reverse_perm _).trans hC
  refine ⟨hkeys, fun i k l hi hn => ?_⟩
  have hi' : i < ns.length := (List.getElem?_eq_some_iff.mp hi).1
  have hk : ns.getD i 0 = k := by simp [hi]
  let W : Int → Int := fun k => V.getD (ns.idxOf k) 0
  have hWi : ∀ j, j < ns.length → W (ns.getD j 0) = V.getD j 0 := fun j hj => by
    have e : ns.getD j 0 = ns[j] := by simp [hj]
    show V.getD (ns.idxOf (ns.getD j 0)) 0 = _
    rw [e, List.Nodup.idxOf_getElem hnd]
  have hW : ∀ p ∈ P', W p.2 = p.1 := fun p hpm => by
    have := hp.mem_iff.mp hpm
    obtain ⟨j, hj, e⟩ := List.mem_iff_getElem.mp this
    rw [List.length_zip] at hj
    rw [List.getElem_zip] at e
    have e2 : p.2 = ns.getD j 0 := by rw [← e]; simp [show j < ns.length by omega]
    rw [e2, hWi j (by omega), ← e]
    simp [show j < V.length by omega]
  have hPn : (P'.map (·.2)).Nodup := ((hp.map _).nodup_iff).mpr (by rw [hz]; exact hnd)
  have hV : ∀ p ∈ P', p.1 % 2 = 0 := fun p hpm => hev _ (List.of_mem_zip (hp.mem_iff.mp hpm)).1
  have hE := h.edges W hs.le hW hPn (fun p hpm q hq _ => by have := hV p hpm; have := hV q hq; omega)
  have hkm : k ∈ keysOf (tgraph C.reverse) := hkeys.mem_iff.mpr (List.mem_of_getElem? hi)
  obtain ⟨r, hr, rfl⟩ := List.mem_map.mp hkm
  obtain ⟨j, hj⟩ := List.getElem?_of_mem hr
  refine ⟨j, r.2, hj, (hE r hr).trans ?_⟩
  refine (List.Perm.filter _ hC).trans (List.Perm.of_eq ?_)
  have hln : l = (List.range V.length).filter fun b => decide (i ≠ b ∧ T < V.getD i 0 + V.getD b 0) := by
    unfold nearOf at hn
    rw [List.getElem?_map, List.getElem?_range (by omega)] at hn
    exact (Option.some.inj hn).symm
  rw [hln]
  conv => lhs; rw [← map_getD_range ns 0]
  rw [List.filter_map, hl]
  congr 1
  refine List.filter_congr fun b hb => ?_
  have hb' : b < ns.length := by rw [hl]; exact List.mem_range.mp hb
  show decide _ = decide _
  rw [hWi b hb', ← hk, hWi i hi']
  refine decide_eq_decide.mpr ⟨fun q => ⟨fun e => q.1 (by rw [e]), q.2⟩, fun q => ⟨fun e => q.1 ?_, q.2⟩⟩
  have e1 : ns.getD b 0 = ns[b] := by simp [hb']
  have e2 : ns.getD i 0 = ns[i] := by simp [hi']
  have e : ns.getD b 0 = ns.getD i 0 := e
  rw [e1, e2] at e
  have q := congrArg (fun z => ns.idxOf z) e
  simp only [List.Nodup.idxOf_getElem hnd] at q
  exact q.symm
end Mine
end

section
open PySem PySem.W PySem.Calls PyProof.Rows
set_option Elab.async false
set_option maxRecDepth 100000
set_option maxHeartbeats 8000000
namespace Mine
theorem lawfn_eq {K : Frag} {f : Addr} {G : Prop} {name qual name' qual' : Str} {params params' : Arguments} {body body' : List Stmt} {scope scope' : Scope} {dV kV doc pm cdv ct oc dV' kV' doc' pm' cdv' ct' oc' : Value} {an od an' od' : Option Addr} {osl osl' : Array (Option Value)}
    (h2 : K.lookup f = some ⟨oc', od', .func (fnOf name' qual' params' body' scope' dV' kV' doc' pm' an' cdv' ct'), osl'⟩) (ho : K.lookup f = some ⟨oc, od, .func (fnOf name qual params body scope dV kV doc pm an cdv ct), osl⟩)
    (h : qual = qual' → body = body' → scope = scope' → cdv = cdv' → G) : G := by
  have e := Option.some.inj (ho.symm.trans h2)
  injection e with e1 e2 e3 e4
  injection e3 with e5
  unfold fnOf at e5
  injection e5 with a1 a2 a3 a4 a5 a6 a7 a8 a9 a10 a11 a12 a13
  injection a4 with a4
  exact h a2 a4 a5 ‹cdv = cdv'›

structure Fc (g : Heap) (L : Addr) (sc : Scope) (h : Heap) (m cm : Str → Option Value) : Prop where
  F : Fr g L h m
  X : Cl L (cellsFrom (L + 1) sc.names []) h cm
abbrev DD (L : Nat) (sc : Scope) : List Addr := L :: (cellsFrom (L + 1) sc.names []).map (·.2)
section
variable {g h h' : Heap} {L : Addr} {sc : Scope} {m cm : Str → Option Value}
theorem Fc.keeps (X : Fc g L sc h m cm) (hk : ∀ b o, h.get? b = some o → h'.get? b = some o) : Fc g L sc h' m cm := ⟨X.F.keeps hk, X.X.keeps hk⟩
theorem Fc.push (X : Fc g L sc h m cm) (o : Obj) : Fc g L sc (h.push o) m cm := X.keeps fun _ _ e => Heap.get?_push_of_some _ e
theorem Fc.old (X : Fc g L sc h m cm) {b : Addr} (hb : b ∈ DD L sc) (hnd : ((cellsFrom 0 sc.names []).map (·.1)).Nodup) : ∃ o, h.get? b = some o := by
  rcases List.mem_cons.mp hb with rfl | hb
  · obtain ⟨o, _, _, ho, _⟩ := X.F.ns
    exact ⟨o, ho⟩
  · obtain ⟨p, hp, rfl⟩ := List.mem_map.mp hb
    obtain ⟨o, ho, _⟩ := X.X.cell p.1 p.2 (lookup_of_mem_nodup (cellsFrom_names sc.names 0 (L + 1) [] [] rfl ▸ hnd) hp)
    exact ⟨o, ho⟩
theorem Fc.new (X : Fc g L sc h m cm) (hnd : ((cellsFrom 0 sc.names []).map (·.1)).Nodup) {r : Addr} (hr : h.get? r = none) : r ∉ DD L sc := fun hb => by
  obtain ⟨o, ho⟩ := X.old hb hnd
  rw [hr] at ho; cases ho
theorem Fc.gnone (X : Fc g L sc h m cm) {b : Addr} (hb : h.get? b = none) : g.get? b = none := none_back X.F.keep hb
theorem Fc.DDnone (X : Fc g L sc h m cm) : ∀ b ∈ DD L sc, g.get? b = none := fun (b : Nat) hb => by
  rcases List.mem_cons.mp hb with q | hb
  · rw [q]
    cases e : g.get? L with
    | none => rfl
    | some o => exact absurd (Nat.lt_of_lt_of_le (Heap.lt_size e) X.F.above) (Nat.lt_irrefl _)
  · obtain ⟨p, hp, rfl⟩ := List.mem_map.mp hb
    exact none_above X.F (X.X.above p.1 p.2 hp)
theorem Fc.mvNew (X : Fc g L sc h m cm) {wr : List Addr} (hk : Mv wr h h') (hw : ∀ b ∈ wr, g.get? b = none ∧ b ∉ DD L sc) : Fc g L sc h' m cm :=
  ⟨Fr.mv X.F hk (fun q => (hw _ q).2 (List.mem_cons_self ..)) fun b hb => (hw b hb).1, Cl.mv X.X hk fun n c hc q => (hw _ q).2 (List.mem_cons_of_mem _ (List.mem_map.mpr ⟨_, hc, rfl⟩))⟩
end
def PL (D : List Addr) (h : Heap) (a : Addr) (vs : List Value) : Prop := a ∉ D ∧ h.PlainList a vs.toArray
theorem PL.mv {D : List Addr} {h h' : Heap} {a : Addr} {vs : List Value} (x : PL D h a vs) (mv : Mv D h h') : PL D h' a vs := ⟨x.1, pl_mv x.2 mv x.1⟩

section
variable {prog : Program} {w : World} {A : Around} {E : Value → Shared → Prop} {s : Shared} {name : Str} {sc : Scope} {L f : Addr} {cd : Value} {g : Heap} {m cm : Str → Option Value}
theorem stLc {x : Str} {v : Value} {Q : Unit → Shared → Prop} (X : Fc g L sc s.heap m cm)
    (h : ∀ h', Fc g L sc h' (fun y => if y = x then some v else m y) cm → Mv (DD L sc) s.heap h' → Q () { s with heap := h', toks := s.toks + 1 })
    (hk : sc.kind = .function := by rfl) (hl : (envOfC name sc L f cd).kindOf x = some .local := by rfl) :
    wpAny (model prog w) A (storeName (envOfC name sc L f cd) x v) Q E s :=
  wpAny_storeName_local hl X.F.ns (fun h' hn hs => h h' ⟨X.F.set hn hs, X.X.sameBut hs (Nat.le_refl _)⟩ (Mv.same hs (List.mem_cons_self ..)))
    (by show (sc.kind == .class || (sc.kind == .module && L != mainGlobals)) = false; rw [hk]; rfl)
theorem stCc {x : Str} {c : Addr} {v : Value} {Q : Unit → Shared → Prop} (X : Fc g L sc s.heap m cm) (hc : (cellsFrom (L + 1) sc.names []).lookup x = some c)
    (h : ∀ h', Fc g L sc h' m (fun y => if y = x then some v else cm y) → Mv (DD L sc) s.heap h' → Q () { s with heap := h' })
    (hk : sc.kind = .function := by rfl) (hl : (envOfC name sc L f cd).kindOf x = some .cell := by rfl) :
    wpAny (model prog w) A (storeName (envOfC name sc L f cd) x v) Q E s := by
  have hLc : L < c := X.X.above x c (mem_of_lookup hc)
  refine wpAny_storeName_cell hk hl hc (X.X.cell x c hc) fun h' hv hs => h h' ⟨⟨X.F.ns.sameBut hs (Nat.ne_of_lt hLc), fun b o e => (hs.2 b (Nat.ne_of_lt (Nat.lt_trans (Nat.lt_of_lt_of_le (Heap.lt_size e) X.F.above) hLc))).trans (X.F.keep b o e), X.F.above⟩,
    ⟨fun n c' e => ?_, X.X.apart, X.X.above⟩⟩ (Mv.same hs (List.mem_cons_of_mem _ (List.mem_map.mpr ⟨_, mem_of_lookup hc, rfl⟩)))
  by_cases hn : n = x
  · subst hn; rw [hc] at e; cases e; simpa using hv
  · have hcc : c' ≠ c := fun q => hn (name_of_addr X.X.apart (mem_of_lookup e) (q ▸ mem_of_lookup hc))
    simpa [hn] using (X.X.cell n c' e).sameBut hs hcc

def Stored (prog : Program) (w : World) (A : Around) (g : Heap) (L : Addr) (sc : Scope) (env : Env) (y : Str) (m cm : Str → Option Value) (m' cm' : Value → Str → Option Value) : Prop :=
  ∀ (s : Shared) (v : Value) (E : Value → Shared → Prop) (Q : Unit → Shared → Prop), Fc g L sc s.heap m cm → (∀ h' tk, Fc g L sc h' (m' v) (cm' v) → Mv (DD L sc) s.heap h' → Q () { s with heap := h', toks := tk }) →
    wpAny (model prog w) A (storeName env y v) Q E s
theorem stored_L {x : Str} (hk : sc.kind = .function := by rfl) (hl : (envOfC name sc L f cd).kindOf x = some .local := by rfl) :
    Stored prog w A g L sc (envOfC name sc L f cd) x m cm (fun v y => if y = x then some v else m y) (fun _ => cm) := fun _ _ _ _ X h => stLc X (fun h' a b => h h' _ a b) hk hl
theorem stored_C {x : Str} {c : Addr} (hc : (cellsFrom (L + 1) sc.names []).lookup x = some c) (hk : sc.kind = .function := by rfl) (hl : (envOfC name sc L f cd).kindOf x = some .cell := by rfl) :
    Stored prog w A g L sc (envOfC name sc L f cd) x m cm (fun _ => m) (fun v y => if y = x then some v else cm y) := fun _ _ _ _ X h => stCc X hc (fun h' a b => h h' _ a b) hk hl

theorem asgX {b : Bool} {elt target iter : Expr} {ifs : List Expr} {cscope : Scope} {cl : List (Str × Addr)} {m' cm' : Value → Str → Option Value} {pos py spos : Pos} {y : Str} {Q : Flow → Shared → Prop} (hnd : ((cellsFrom 0 sc.names []).map (·.1)).Nodup)
    (hst : Stored prog w A g L sc (envOfC name sc L f cd) y m cm m' cm')
    (hsw : swapsWith (.ListComp elt [⟨target, iter, ifs, 0⟩] cscope pos) (some (.Name y py)) spos.line (envOfC name sc L f cd) = pure b)
    (hclos : closureFor cscope (envOfC name sc L f cd) = pure cl) (hck : cscope.kind = .function) (hnames : ∀ x ∈ cscope.names, x.2 = .local → cscope.names.lookup x.1 = some .local) (hcell : ∀ y ∈ cscope.names, y.2 ≠ .cell)
    (h : wpAny (model prog w) A (eval iter (envOfC name sc L f cd)) (fun x s₁ => wpAny (model prog w) A (pyIter x) (fun it s₂ => ∃ n J Fin wr, CSrc prog w A (envOfC name sc L f cd) cscope cl target ifs elt it s₂ n J Fin ∧
      Fc g L sc s₂.heap m cm ∧ (∀ b ∈ wr, g.get? b = none ∧ b ∉ DD L sc) ∧ (∀ h₁ ys, Fin h₁ ys → Mv wr s₂.heap h₁) ∧
      (∀ D h₁ ys h₄ tk', @LE.le Nat _ s₂.heap.objs.size D → ys.length ≤ n → Fin h₁ ys → (∀ b o, b ∉ DD L sc → @Ne Nat b (s₂.heap.objs.size) → @Ne Nat b (s₂.heap.objs.size + 1) → h₁.get? b = some o → h₄.get? b = some o) →
        Fc g L sc h₄ (m' (.ref D)) (cm' (.ref D)) → PL (DD L sc) h₄ D ys → Mv (wr ++ DD L sc) s₂.heap h₄ → Q .next { s₂ with heap := h₄, toks := tk' })) E s₁) E s)
    (hs : ∀ x, foldedSetIterable iter (envOfC name sc L f cd) x = pure x := by intro _; rfl) :
    wpAny (model prog w) A (exec (.Assign [.Name y py] (.ListComp elt [⟨target, iter, ifs, 0⟩] cscope pos) spos) (envOfC name sc L f cd)) Q E s := by
  cases b with
  | true =>
    refine Assign_ListComp_u hsw hclos hck hnames hcell (wpAny_mono h (fun x s₁ h₁ => wpAny_mono h₁ (fun it s₂ h₂ => ?_) fun _ _ e => e) fun _ _ e => e) hs
    obtain ⟨n, J, Fin, wr, S, X, hwr, hfin, fin⟩ := h₂
    refine ⟨n, J, Fin, S, fun C D h₁ ys tk tw hp hy hf => ?_⟩
    have hk := hfin h₁ ys hf
    have X1 := X.mvNew hk hwr
    obtain ⟨tw1, tw2, tw3, tw4, tw5⟩ := tw
    have hCn : C ∉ DD L sc := X.new hnd (none_ge tw1)
    have hDn : D ∉ DD L sc := X.new hnd (none_ge tw2)
    refine hst _ _ _ _ X1 fun h₃ tk3 X3 mv3 => ⟨h₃, _, rfl, fun o e => mv3 C o hCn e, fun h₄ hs4 => ?_⟩
    have mv4 : Mv [C] h₃ h₄ := Mv.same hs4 (by simp)
    have X4 : Fc g L sc h₄ _ _ := X3.mvNew mv4 (fun b hb => by rw [List.mem_singleton.mp hb]; exact ⟨X.gnone (none_ge tw1), hCn⟩)
    refine fin D h₁ ys h₄ _ tw2 hy hf (fun b o hb n1 n2 e => ?_) X4 ⟨hDn, pl_mv (pl_mv hp mv3 hDn) mv4 (by simpa using Ne.symm tw5)⟩ (fun b o hb e => ?_)
    · have hbC : @Ne Nat b C := by
        have h1 : @LE.le Nat _ s₂.heap.objs.size C := tw1
        have h2 : @LT.lt Nat _ C (s₂.heap.objs.size + 2) := tw3
        omega
      exact mv4 b o (by simpa using hbC) (mv3 b o hb e)
    · rw [List.mem_append, not_or] at hb
      have hb' : @LT.lt Nat _ b s₂.heap.objs.size := Heap.lt_size e
      have hbC : @Ne Nat b C := by
        have h1 : @LE.le Nat _ s₂.heap.objs.size C := tw1
        omega
      exact mv4 b o (by simpa using hbC) (mv3 b o hb.2 (hk b o hb.1 e))
  | false =>
    refine wpAny_Assign_Name (ListComp_u hclos hck hnames hcell (wpAny_mono h (fun x s₁ h₁ => wpAny_mono h₁ (fun it s₂ h₂ => ?_) fun _ _ e => e) fun _ _ e => e) hs) hsw
    obtain ⟨n, J, Fin, wr, S, X, hwr, hfin, fin⟩ := h₂
    refine ⟨n, J, Fin, S, fun C D h₁ h₂ ys tk tw hp hy hf hs2 => ?_⟩
    have hk := hfin h₁ ys hf
    obtain ⟨tw1, tw2, tw3, tw4, tw5⟩ := tw
    have hCn : C ∉ DD L sc := X.new hnd (none_ge tw1)
    have hDn : D ∉ DD L sc := X.new hnd (none_ge tw2)
    have mv2 : Mv [C] h₁ h₂ := Mv.same hs2 (by simp)
    have X2 : Fc g L sc h₂ _ _ := (X.mvNew hk hwr).mvNew mv2 (fun b hb => by rw [List.mem_singleton.mp hb]; exact ⟨X.gnone (none_ge tw1), hCn⟩)
    refine hst _ _ _ _ X2 fun h₄ tk4 X4 mv4 => ?_
    refine fin D h₁ ys h₄ _ tw2 hy hf (fun b o hb n1 n2 e => ?_) X4 ⟨hDn, pl_mv hp mv4 hDn⟩ (fun b o hb e => ?_)
    · have hbC : @Ne Nat b C := by
        have h1 : @LE.le Nat _ s₂.heap.objs.size C := tw1
        have h2 : @LT.lt Nat _ C (s₂.heap.objs.size + 2) := tw3
        omega
      exact mv4 b o hb (mv2 b o (by simpa using hbC) e)
    · rw [List.mem_append, not_or] at hb
      have hb' : @LT.lt Nat _ b s₂.heap.objs.size := Heap.lt_size e
      have hbC : @Ne Nat b C := by
        have h1 : @LE.le Nat _ s₂.heap.objs.size C := tw1
        omega
      exact mv4 b o hb.2 (mv2 b o (by simpa using hbC) (hk b o hb.1 e))
end
end Mine
end

section
open PySem PySem.W PySem.Calls PyProof.Rows
set_option Elab.async false
set_option maxRecDepth 100000
set_option maxHeartbeats 4000000
namespace Mine
section
variable {M : Model} {A : Around} {E : Value → Shared → Prop} {s : Shared}
theorem newEnv_cell {scope : Scope} {globals : Addr} {cl : List (Str × Addr)} {x : Str} {qual : Str} {env : Env} {Q : Env → Shared → Prop}
    (hcs : ∀ n acc, cellsFrom n scope.names acc = (x, n) :: acc)
    (hQ : ∀ h', h'.Ns s.heap.objs.size (fun _ => none) → h'.IsCell (s.heap.objs.size + 1) none → (∀ b o, s.heap.get? b = some o → h'.get? b = some o) →
      Q { scope, locals := s.heap.objs.size, globals, cells := (x, s.heap.objs.size + 1) :: cl, qual, func := none, code := env.code, frame := env.frame, builtins := env.builtins } { s with heap := h' }) :
    wpAny M A (newFunctionEnv scope globals cl [] qual none .none (some env)) Q E s := by
  simp only [newFunctionEnv, Option.isSome_some, if_true]
  refine wpAny_bind (wpAny_alloc ?_)
  refine wpAny_bind (wpAny_layCells _ (fun name kind cells => by cases hkc : kind == NameKind.cell <;> simp [hkc]) _ _ _ _ ?_)
  have ok := cellsFrom_ok scope.names (s.heap.push { cls := .type "dict", data := .dict #[] }) (s.heap.objs.size + 1) [] ⟨fun _ _ hm => (nomatch hm), List.Pairwise.nil⟩ (by rw [Heap.size_push]; exact Nat.le_refl _)
  rw [Heap.size_push] at ok
  rw [show ({ s with heap := s.heap.push { cls := .type "dict", data := .dict #[] } } : Shared).heap.objs.size = s.heap.objs.size + 1 from Heap.size_push ..]
  rw [hcs]
  rw [hcs] at ok
  rw [List.forIn_nil]
  refine wpAny_bind (wpAny_pure (wpAny_pure ?_))
  exact hQ _ ((Heap.Ns.new s.heap (.type "dict")).keeps (pushCells_keeps _ _)) (ok.empty x _ (List.mem_cons_self ..)).1 (fun b o e => pushCells_keeps _ _ b o (Heap.get?_push_of_some _ e))
end
section
variable {prog : Program} {w : World} {A : Around}
structure CSrcC (prog : Program) (w : World) (A : Around) (env : Env) (scope : Scope) (cl : List (Str × Addr)) (x : Str) (target : Expr) (elt : Expr) (it : Value) (s₂ : Shared) (n : Nat)
    (J : Nat → Heap → List Value → Prop) (Fin : Heap → List Value → Prop) : Prop where
  size : n ≤ 1000
  self : ∀ h tk (Q E' : Value → Shared → Prop), J 0 h [] → Q it { s₂ with heap := h, toks := tk } → wpAny (model prog w) A (pyIter it) Q E' { s₂ with heap := h, toks := tk }
  start : ∀ h', (∀ b o, s₂.heap.get? b = some o → h'.get? b = some o) → h'.IsCell (s₂.heap.objs.size + 2) none → J 0 h' []
  turn : ∀ i h m ys tk (E' : Value → Shared → Prop), i < n → J i h ys → h.PlainList s₂.heap.objs.size ys.toArray → h.Ns (s₂.heap.objs.size + 1) m →
    wpAny (model prog w) A (pyNext it) (fun r s₃ => ∃ v, r = some v ∧ wpAny (model prog w) A (letOwnedTupleGo target it v) (fun _ s₄ => wpAny (model prog w) A (assign target (compEnvC scope ((x, s₂.heap.objs.size + 2) :: cl) (s₂.heap.objs.size + 1) env) v) (fun _ s₅ =>
      wpAny (model prog w) A (eval elt (compEnvC scope ((x, s₂.heap.objs.size + 2) :: cl) (s₂.heap.objs.size + 1) env)) (fun x s₇ => ∃ h₇ tk₇ m₇, s₇ = { s₂ with heap := h₇, toks := tk₇ } ∧ h₇.PlainList s₂.heap.objs.size ys.toArray ∧ h₇.Ns (s₂.heap.objs.size + 1) m₇ ∧
            ∀ h₈, Heap.SameBut s₂.heap.objs.size h₇ h₈ → h₈.PlainList s₂.heap.objs.size (ys ++ [x]).toArray → J (i + 1) h₈ (ys ++ [x])) E' s₅) E' s₄) E' s₃) E' { s₂ with heap := h, toks := tk }
  done : ∀ h m ys tk (E' : Value → Shared → Prop), J n h ys → h.PlainList s₂.heap.objs.size ys.toArray → h.Ns (s₂.heap.objs.size + 1) m →
    wpAny (model prog w) A (pyNext it) (fun r s₃ => r = none ∧ ∃ h₃ tk₃, s₃ = { s₂ with heap := h₃, toks := tk₃ } ∧ h₃.PlainList s₂.heap.objs.size ys.toArray ∧ h₃.Ns (s₂.heap.objs.size + 1) m ∧ Fin h₃ ys) E' { s₂ with heap := h, toks := tk }

theorem comp_c {elt target iter : Expr} {scope : Scope} {cl : List (Str × Addr)} {x : Str} {env : Env} {pos : Pos} {s : Shared} {E Q : Value → Shared → Prop} {use : Option (Value → Sem Unit)} {p0 : Pos}
    (hclos : closureFor scope env = pure cl) (hkind : scope.kind = .function) (hnames : ∀ x ∈ scope.names, x.2 = .local → scope.names.lookup x.1 = some .local) (hcs : ∀ n acc, cellsFrom n scope.names acc = (x, n) :: acc)
    (h : wpAny (model prog w) A (eval iter env) (fun xv s₁ => wpAny (model prog w) A (pyIter xv) (fun it s₂ => ∃ n J Fin, CSrcC prog w A env scope cl x target elt it s₂ n J Fin ∧
      (∀ h₁ ys tk m, h₁.PlainList s₂.heap.objs.size ys.toArray → h₁.Ns (s₂.heap.objs.size + 1) m → ys.length ≤ n → Fin h₁ ys → compPost (model prog w) A E use Q (.ref s₂.heap.objs.size) (s₂.heap.objs.size + 1) (.ok .next) { s₂ with heap := h₁, toks := tk })) E s₁) E s)
    (hs : ∀ x, foldedSetIterable iter env x = pure x := by intro _; rfl) :
    wpAny (model prog w) A (comprehension (.ListComp elt [⟨target, iter, [], 0⟩] scope pos) scope env p0 (newList []) false (eval iter env) use) Q E s := by
  refine wpAny_comprehension_free (cl := cl) rfl hs hclos hkind hnames (wpAny_mono h (fun xv s₁ h₁ => wpAny_mono h₁ (fun it s₂ h₂ => ?_) fun _ _ e => e) fun _ _ e => e)
  obtain ⟨n, J, Fin, S, fin⟩ := h₂
  refine wpAny_newObj_type (newEnv_cell (x := x) hcs (fun h₁ hns₁ hcell₁ hold₁ => ?_))
  dsimp only at hns₁ hcell₁ hold₁ ⊢
  generalize hH2 : s₂.heap.push { cls := .type "list", dict := none, data := .seq ([] : List Value).toArray } = H2 at hns₁ hcell₁ hold₁ ⊢
  have hC : H2.objs.size = s₂.heap.objs.size + 1 := by rw [← hH2, Heap.size_push]
  rw [hC] at hns₁ hcell₁ ⊢
  have old : ∀ b o, s₂.heap.get? b = some o → h₁.get? b = some o := fun b o e => hold₁ b o (hH2 ▸ Heap.get?_push_of_some _ e)
  have hacc : h₁.PlainList s₂.heap.objs.size ([] : List Value).toArray := ⟨_, hold₁ _ _ (hH2 ▸ Heap.get?_push_size _ rfl)⟩
  have hJ : J 0 h₁ [] := S.start h₁ old hcell₁
  have loop : codeAny (model prog w) A (.compLoop (.ListComp elt [⟨target, iter, [], 0⟩] scope pos) 0 it (.ref s₂.heap.objs.size) (compEnvC scope ((x, s₂.heap.objs.size + 2) :: cl) (s₂.heap.objs.size + 1) env))
        (compPost (model prog w) A E use Q (.ref s₂.heap.objs.size) (s₂.heap.objs.size + 1)) { s₂ with heap := h₁ } := by
    refine loop_u (fun k s' => ∃ i h tk m ys, s' = { s₂ with heap := h, toks := tk } ∧ k = n - i ∧ i ≤ n ∧ ys.length ≤ i ∧ J i h ys ∧ h.PlainList s₂.heap.objs.size ys.toArray ∧ h.Ns (s₂.heap.objs.size + 1) m) ?_ n
      ⟨0, h₁, _, _, [], rfl, rfl, Nat.zero_le _, Nat.le_refl _, hJ, hacc, hns₁⟩
    rintro k s' E' ⟨i, h, tk, m, ys, rfl, rfl, hi, hys, hj, hp, hn⟩
    by_cases hlt : i < n
    · refine wpAny_mono (S.turn i h m ys tk E' hlt hj hp hn) (fun r s₃ h₃ => ?_) fun _ _ e => e
      obtain ⟨v, rfl, h₃⟩ := h₃
      refine wpAny_mono h₃ (fun _ s₄ h₄ => wpAny_mono h₄ (fun _ s₅ h₅ => wpAny_tests_nil ?_) fun _ _ e => e) fun _ _ e => e
      simp only [if_true]
      refine wpAny_mono h₅ (fun x s₇ h₇ => ?_) fun _ _ e => e
      obtain ⟨h7, tk7, m7, rfl, a, b, c⟩ := h₇
      have hsz := S.size
      refine pl_append a (by omega) fun h8 hl8 hs8 => ?_
      exact ⟨n - (i + 1), by omega, i + 1, h8, tk7, m7, ys ++ [x], rfl, rfl, hlt, by simp; omega, c h8 hs8 hl8, hl8, b.sameBut hs8 (by show @Ne Nat _ _; omega)⟩
    · have : i = n := by omega
      subst this
      refine wpAny_mono (S.done h m ys tk E' hj hp hn) (fun r s₃ h₃ => ?_) fun _ _ e => e
      obtain ⟨rfl, h3, tk3, rfl, a, b, c⟩ := h₃
      exact fin h3 ys tk3 m a b hys c
  exact codeAny_compStart_list loop (S.self _ _ _ _ hJ loop)

theorem csrc_cell {env : Env} {scope : Scope} {cl : List (Str × Addr)} {x : Str} {q : Pos} {elt : Expr} {s₂ : Shared} {I : Addr} {fp wr : List Addr} {n : Nat} {P : Nat → Value → Prop}
    {St : Nat → Heap → Prop} (W : Walks prog w A I fp wr n P St) (hn : n ≤ 1000) (st0 : St 0 s₂.heap) (hfp : ∀ b ∈ fp, b < s₂.heap.objs.size)
    (El : Nat → Value → Heap → Prop) (hmono : ∀ i y h h', El i y h → (∀ b o, (s₂.heap.objs.size + 3 ≤ b ∨ (b < s₂.heap.objs.size ∧ b ∉ wr)) → h.get? b = some o → h'.get? b = some o) → El i y h')
    (hkind : scope.kind = .function) (h₁ : ∀ C, (compEnvC scope ((x, s₂.heap.objs.size + 2) :: cl) C env).kindOf x = some .cell)
    (hel : ∀ i v h tk m (Q E' : Value → Shared → Prop), s₂.heap.objs.size + 3 ≤ h.objs.size → P i v → h.Ns (s₂.heap.objs.size + 1) m → h.IsCell (s₂.heap.objs.size + 2) (some v) → (∀ b o, b ∉ wr → s₂.heap.get? b = some o → h.get? b = some o) →
      (∀ h' tk' y, (∀ b o, h.get? b = some o → h'.get? b = some o) → El i y h' → Q y { s₂ with heap := h', toks := tk' }) → wpAny (model prog w) A (eval elt (compEnvC scope ((x, s₂.heap.objs.size + 2) :: cl) (s₂.heap.objs.size + 1) env)) Q E' { s₂ with heap := h, toks := tk }) :
    CSrcC prog w A env scope cl x (.Name x q) elt (.ref I) s₂ n
      (fun i h ys => St i h ∧ (∀ b o, b ∉ wr → s₂.heap.get? b = some o → h.get? b = some o) ∧ (∃ v, h.IsCell (s₂.heap.objs.size + 2) v) ∧ ys.length = i ∧ ∀ j y, ys[j]? = some y → El j y h)
      (fun h ys => (∀ b o, b ∉ wr → s₂.heap.get? b = some o → h.get? b = some o) ∧ ys.length = n ∧ ∀ j y, ys[j]? = some y → El j y h) where
  size := hn
  self := fun h tk Q E' hj hq => W.self 0 _ Q E' hj.1 hq
  start := fun h' hk hc => ⟨W.frame 0 _ _ st0 fun b _ o e => hk b o e, fun b o _ e => hk b o e, ⟨_, hc⟩, rfl, fun j y e => by simp at e⟩
  turn := by
    rintro i h m ys tk E' hi ⟨hst, hk, ⟨v0, hcell⟩, hlen, hall⟩ hp hns
    have hwr : ∀ b : Nat, b ∈ wr → b < s₂.heap.objs.size := fun b hb => hfp b (W.sub b hb)
    generalize hz : s₂.heap.objs.size = z at *
    have hCw : (z + 1 : Nat) ∉ wr := fun hb => by have := hwr _ hb; omega
    have hXw : (z + 2 : Nat) ∉ wr := fun hb => by have := hwr _ hb; omega
    have hDw : z ∉ wr := fun hb => by have := hwr _ hb; omega
    have hfp' : ∀ b : Nat, b ∈ fp → b < z := hfp
    have hXf : ∀ b ∈ fp, @Ne Nat b (z + 2) := fun b hb e => by have := hfp' b hb; omega
    have hDf : ∀ b ∈ fp, @Ne Nat b z := fun b hb e => by have := hfp' b hb; omega
    refine W.item i _ _ E' hi hst fun v h₃ tk₃ hPv hst₃ hk₃ => ⟨_, rfl, ?_⟩
    show wpAny (model prog w) A (pure ()) _ _ _
    refine wpAny_pure ?_
    have hns₃ : h₃.Ns (z + 1) m := hns.at' fun o e => hk₃ _ o hCw e
    have hcell₃ : h₃.IsCell (z + 2) v0 := let ⟨o, ho, hd⟩ := hcell; ⟨o, hk₃ _ o hXw ho, hd⟩
    refine wpAny_assign_Name (wpAny_storeName_cell (by simp [compEnvC, relabel, hkind]) (h₁ _) (by simp [compEnvC]) hcell₃ (fun h₅ hcell₅ hs₅ => ?_))
    have up₅ : ∀ b o, b ∉ wr → @Ne Nat b (z + 2) → h.get? b = some o → h₅.get? b = some o := fun b o hb hc e => hs₅.extBut b o hc (hk₃ b o hb e)
    have hns₅ : h₅.Ns (z + 1) m := hns₃.sameBut hs₅ (by show @Ne Nat _ _; omega)
    have hX5 : @LT.lt Nat _ (z + 2) h₅.objs.size := hcell₅.lt
    have hp₅ : h₅.PlainList z ys.toArray := let ⟨nn, e⟩ := hp; ⟨nn, up₅ _ _ hDw (by omega) e⟩
    have hst₅ : St (i + 1) h₅ := W.frame _ _ _ hst₃ fun b hb o e => hs₅.extBut b o (hXf b hb) e
    have old₅ : ∀ b o, b ∉ wr → s₂.heap.get? b = some o → h₅.get? b = some o := fun b o hb e => by
      have hlt : @LT.lt Nat _ b s₂.heap.objs.size := Heap.lt_size e
      rw [hz] at hlt
      exact up₅ b o hb (by omega) (hk b o hb e)
    refine hel i v h₅ _ _ _ _ (by omega) hPv hns₅ hcell₅ old₅ fun h₇ tk₇ y hk₇ hEl => ?_
    refine ⟨h₇, tk₇, _, rfl, pl_keep hp₅ hk₇, hns₅.keeps hk₇, fun h₈ hs₈ hl₈ => ?_⟩
    have up₈ : ∀ b o, @Ne Nat b z → h₅.get? b = some o → h₈.get? b = some o := fun b o hb e => hs₈.extBut b o hb (hk₇ b o e)
    refine ⟨W.frame _ _ _ hst₅ fun b hb o e => up₈ b o (hDf b hb) e, fun b o hb e => ?_, ⟨_, let ⟨o, ho, hd⟩ := hcell₅; ⟨o, up₈ _ o (by omega) ho, hd⟩⟩, by simp [hlen], fun j y' hj => ?_⟩
    · have hlt : @LT.lt Nat _ b s₂.heap.objs.size := Heap.lt_size e
      rw [hz] at hlt
      exact up₈ b o (by omega) (old₅ b o hb e)
    · rcases Nat.lt_or_ge j ys.length with hlt | hge
      · rw [List.getElem?_append_left hlt] at hj
        refine hmono _ _ _ _ (hall j y' hj) fun b o hb e => ?_
        rcases hb with hb | ⟨hb, hbw⟩
        · have hb : @LE.le Nat _ (z + 3) b := hb
          have hbw : b ∉ wr := fun hw => by have := hwr b hw; omega
          exact up₈ b o (by omega) (up₅ b o hbw (by omega) e)
        · have hb' : @LT.lt Nat _ b z := hb
          exact up₈ b o (by omega) (up₅ b o hbw (by omega) e)
      · have hj' : j = ys.length := by
          have := (List.getElem?_eq_some_iff.mp hj).1
          simp at this; omega
        subst hj'
        simp at hj
        subst hj
        rw [hlen]
        refine hmono _ _ _ _ hEl fun b o hb e => ?_
        have hbD : @Ne Nat b z := by
          rcases hb with hb | ⟨hb, _⟩
          · have : @LE.le Nat _ (z + 3) b := hb; omega
          · have : @LT.lt Nat _ b z := hb; omega
        exact hs₈.extBut b o hbD e
  done := by
    rintro h m ys tk E' ⟨hst, hk, _, hlen, hall⟩ hp hns
    have hwr : ∀ b : Nat, b ∈ wr → b < s₂.heap.objs.size := fun b hb => hfp b (W.sub b hb)
    generalize hz : s₂.heap.objs.size = z at *
    have hCw : (z + 1 : Nat) ∉ wr := fun hb => by have := hwr _ hb; omega
    have hDw : z ∉ wr := fun hb => by have := hwr _ hb; omega
    refine W.done _ _ E' hst fun h₃ tk₃ hk₃ => ⟨rfl, h₃, tk₃, rfl, let ⟨nn, e⟩ := hp; ⟨nn, hk₃ _ _ hDw e⟩, hns.at' fun o e => hk₃ _ o hCw e, fun b o hb e => hk₃ b o hb (hk b o hb e), hlen, fun j y hj => ?_⟩
    refine hmono _ _ _ _ (hall j y hj) fun b o hb e => hk₃ b o (fun hw => ?_) e
    rcases hb with hb | ⟨_, hb⟩
    · have : @LE.le Nat _ (z + 3) b := hb
      have := hwr b hw; omega
    · exact hb hw
end
end Mine
end

section
open PySem PySem.W PySem.Calls PyProof.Rows
set_option Elab.async false
set_option maxRecDepth 100000
set_option maxHeartbeats 8000000
namespace Mine
section
variable {prog : Program} {w : World} {A : Around} {E : Value → Shared → Prop} {s : Shared} {name : Str} {sc : Scope} {L f : Addr} {cd : Value} {g : Heap} {m cm : Str → Option Value}
theorem asgXC {elt target iter : Expr} {cscope : Scope} {cl : List (Str × Addr)} {x : Str} {m' cm' : Value → Str → Option Value} {pos py spos : Pos} {y : Str} {Q : Flow → Shared → Prop} (hnd : ((cellsFrom 0 sc.names []).map (·.1)).Nodup)
    (hst : Stored prog w A g L sc (envOfC name sc L f cd) y m cm m' cm')
    (hsw : swapsWith (.ListComp elt [⟨target, iter, [], 0⟩] cscope pos) (some (.Name y py)) spos.line (envOfC name sc L f cd) = pure true)
    (hclos : closureFor cscope (envOfC name sc L f cd) = pure cl) (hck : cscope.kind = .function) (hnames : ∀ x ∈ cscope.names, x.2 = .local → cscope.names.lookup x.1 = some .local) (hcs : ∀ n acc, cellsFrom n cscope.names acc = (x, n) :: acc)
    (h : wpAny (model prog w) A (eval iter (envOfC name sc L f cd)) (fun xv s₁ => wpAny (model prog w) A (pyIter xv) (fun it s₂ => ∃ n J Fin wr, CSrcC prog w A (envOfC name sc L f cd) cscope cl x target elt it s₂ n J Fin ∧
      Fc g L sc s₂.heap m cm ∧ (∀ b ∈ wr, g.get? b = none ∧ b ∉ DD L sc) ∧ (∀ h₁ ys, Fin h₁ ys → Mv wr s₂.heap h₁) ∧
      (∀ D h₁ ys h₄ tk', D = s₂.heap.objs.size → ys.length ≤ n → Fin h₁ ys → (∀ b o, b ∉ DD L sc → @Ne Nat b (s₂.heap.objs.size) → @Ne Nat b (s₂.heap.objs.size + 1) → h₁.get? b = some o → h₄.get? b = some o) →
        Fc g L sc h₄ (m' (.ref D)) (cm' (.ref D)) → PL (DD L sc) h₄ D ys → Mv (wr ++ DD L sc) s₂.heap h₄ → Q .next { s₂ with heap := h₄, toks := tk' })) E s₁) E s)
    (hs : ∀ x, foldedSetIterable iter (envOfC name sc L f cd) x = pure x := by intro _; rfl) :
    wpAny (model prog w) A (exec (.Assign [.Name y py] (.ListComp elt [⟨target, iter, [], 0⟩] cscope pos) spos) (envOfC name sc L f cd)) Q E s := by
  rw [exec_Assign_Name_used _ _ _ _ hsw]
  refine wpAny_bind (wpAny_standAt (wpAny_bind ?_))
  show wpAny _ A (do let _ ← comprehension (.ListComp elt [⟨target, iter, [], 0⟩] cscope pos) cscope (envOfC name sc L f cd) _ (newList []) false (eval iter (envOfC name sc L f cd)) (some (assign (.Name y py) (envOfC name sc L f cd)))) _ _ s
  refine wpAny_bind (wpAny_mono (comp_c (x := x) (Q := fun _ s' => Q .next s') hclos hck hnames hcs (wpAny_mono h (fun xv s₁ h₁ => wpAny_mono h₁ (fun it s₂ h₂ => ?_) fun _ _ e => e) fun _ _ e => e) hs)
    (fun _ s' hq => wpAny_pure (wpAny_pure hq)) fun _ _ e => e)
  obtain ⟨n, J, Fin, wr, S, X, hwr, hfin, fin⟩ := h₂
  refine ⟨n, J, Fin, S, fun h₁ ys tk mc hp hn hy hf => ?_⟩
  show wpAny _ _ (assign (.Name y py) (envOfC name sc L f cd) (.ref _)) _ _ _
  refine wpAny_assign_Name ?_
  have hk := hfin h₁ ys hf
  have X1 := X.mvNew hk hwr
  have hCn : (s₂.heap.objs.size + 1 : Nat) ∉ DD L sc := X.new hnd (none_ge (Nat.le_succ _))
  have hDn : s₂.heap.objs.size ∉ DD L sc := X.new hnd (none_ge (Nat.le_refl _))
  refine hst _ _ _ _ X1 fun h₃ tk3 X3 mv3 => ⟨mc, hn.at' fun o e => mv3 _ o hCn e, fun h₄ hs4 => ?_⟩
  have mv4 : Mv [(s₂.heap.objs.size + 1 : Nat)] h₃ h₄ := Mv.same hs4 (by simp)
  have X4 : Fc g L sc h₄ _ _ := X3.mvNew mv4 (fun b hb => by rw [List.mem_singleton.mp hb]; exact ⟨X.gnone (none_ge (Nat.le_succ _)), hCn⟩)
  have hne : @Ne Nat s₂.heap.objs.size (s₂.heap.objs.size + 1) := by omega
  refine fin _ h₁ ys h₄ _ rfl hy hf (fun b o hb n1 n2 e => ?_) X4 ⟨hDn, pl_mv (pl_mv hp mv3 hDn) mv4 (by simpa using hne)⟩ (fun b o hb e => ?_)
  · exact mv4 b o (by simpa using n2) (mv3 b o hb e)
  · rw [List.mem_append, not_or] at hb
    have hb' : @LT.lt Nat _ b s₂.heap.objs.size := Heap.lt_size e
    have hbC : @Ne Nat b (s₂.heap.objs.size + 1) := by omega
    exact mv4 b o (by simpa using hbC) (mv3 b o hb.2 (hk b o hb.1 e))
end

section
variable {prog : Program} {w : World} {A : Around} {E : Value → Shared → Prop} {s : Shared} {env : Env}
theorem csrc_filter {scope : Scope} {cl : List (Str × Addr)} {x : Str} {q p1 : Pos} {test : Expr} {s₂ : Shared} {I : Addr} {fp wr : List Addr} {n : Nat} {P : Nat → Value → Prop}
    {St : Nat → Heap → Prop} (W : Walks prog w A I fp wr n P St) (hP : ∀ i v, P i v → ∃ t, v = .int (i : Nat) t) (hn : n ≤ 1000) (st0 : St 0 s₂.heap) (hfp : ∀ b ∈ fp, b < s₂.heap.objs.size)
    (p : Nat → Bool) (hkind : scope.kind = .function) (h₁ : scope.names.lookup x = some .local) (hd : (x == ("__debug__" : Str)) = false)
    (hel : ∀ C i t h tk m (Q : Bool → Shared → Prop) (E' : Value → Shared → Prop), i < n → h.Ns C m → m x = some (.int (i : Nat) t) → (∀ b o, b ∉ wr → s₂.heap.get? b = some o → h.get? b = some o) →
      (∀ h' tk', (∀ b o, h.get? b = some o → h'.get? b = some o) → Q (p i) { s₂ with heap := h', toks := tk' }) → wpAny (model prog w) A (isTrue test (compEnvC scope cl C env) (eval test (compEnvC scope cl C env))) Q E' { s₂ with heap := h, toks := tk }) :
    CSrc prog w A env scope cl (.Name x q) [test] (.Name x p1) (.ref I) s₂ n
      (fun i h ys => St i h ∧ (∀ b o, b ∉ wr → s₂.heap.get? b = some o → h.get? b = some o) ∧ IntsAre ys (((List.range i).filter p).map fun (j : Nat) => (j : Int)))
      (fun h ys => (∀ b o, b ∉ wr → s₂.heap.get? b = some o → h.get? b = some o) ∧ IntsAre ys (((List.range n).filter p).map fun (j : Nat) => (j : Int))) where
  size := hn
  self := fun h tk Q E' hj hq => W.self 0 _ Q E' hj.1 hq
  start := fun h' hk => ⟨W.frame 0 _ _ st0 fun b _ o e => hk b o e, fun b o _ e => hk b o e, .nil⟩
  turn := by
    rintro C D i h m ys tk E' ⟨tw1, tw2, tw3, tw4, tw5⟩ hi ⟨hst, hk, hall⟩ hp hns
    have hwr : ∀ b : Nat, b ∈ wr → b < s₂.heap.objs.size := fun b hb => hfp b (W.sub b hb)
    have hCw : C ∉ wr := fun hb => Nat.lt_irrefl _ (Nat.lt_of_lt_of_le (hwr C hb) tw1)
    have hDw : D ∉ wr := fun hb => Nat.lt_irrefl _ (Nat.lt_of_lt_of_le (hwr D hb) tw2)
    have hCf : ∀ b ∈ fp, b ≠ C := fun b hb e => Nat.lt_irrefl _ (Nat.lt_of_lt_of_le (e ▸ hfp b hb) tw1)
    have hDf : ∀ b ∈ fp, b ≠ D := fun b hb e => Nat.lt_irrefl _ (Nat.lt_of_lt_of_le (e ▸ hfp b hb) tw2)
    refine W.item i _ _ E' hi hst fun v h₃ tk₃ hPv hst₃ hk₃ => ⟨_, rfl, ?_⟩
    obtain ⟨t, rfl⟩ := hP i v hPv
    show wpAny (model prog w) A (pure ()) _ _ _
    refine wpAny_pure ?_
    have hns₃ : h₃.Ns C m := hns.at' fun o e => hk₃ C o hCw e
    have hl : (compEnvC scope cl C env).kindOf x = some .local := lookup_relabel_local h₁
    refine wpAny_assign_Name (wpAny_storeName_local hl hns₃ (fun h₅ hns₅ hs₅ => ?_) (by simp [compEnvC, relabel, hkind]))
    have up₅ : ∀ b o, b ∉ wr → b ≠ C → h.get? b = some o → h₅.get? b = some o := fun b o hb hc e => hs₅.extBut b o hc (hk₃ b o hb e)
    have hp₅ : h₅.PlainList D ys.toArray := let ⟨nn, e⟩ := hp; ⟨nn, up₅ D _ hDw (Ne.symm tw5) e⟩
    have hst₅ : St (i + 1) h₅ := W.frame _ _ _ hst₃ fun b hb o e => hs₅.extBut b o (hCf b hb) e
    have old₅ : ∀ b o, b ∉ wr → s₂.heap.get? b = some o → h₅.get? b = some o := fun b o hb e => by
      have hlt : @LT.lt Nat _ b s₂.heap.objs.size := Heap.lt_size e
      have hbC : @Ne Nat b C := by omega
      exact up₅ b o hb hbC (hk b o hb e)
    refine wpAny_tests_one (hel C i t h₅ _ _ _ _ hi hns₅ (by simp) old₅ fun h₇ tk₇ hk₇ => ?_)
    have old₇ : ∀ b o, b ∉ wr → s₂.heap.get? b = some o → h₇.get? b = some o := fun b o hb e => hk₇ b o (old₅ b o hb e)
    have er : (List.range (i + 1)).filter p = (List.range i).filter p ++ (if p i then [i] else []) := by
      rw [List.range_succ, List.filter_append]
      cases hpi : p i <;> simp [hpi]
    cases hpi : p i with
    | false =>
      simp only [Bool.false_eq_true, if_false]
      refine ⟨h₇, tk₇, _, rfl, pl_keep hp₅ hk₇, hns₅.keeps hk₇, W.frame _ _ _ hst₅ fun b _ o e => hk₇ b o e, old₇, ?_⟩
      rw [er, hpi]; simpa using hall
    | true =>
      simp only [if_true]
      refine eval_local (hns₅.keeps hk₇) (v := .int (i : Nat) t) (by simp) ?_ (by simp [compEnvC, relabel, hkind]) hl hd
      refine ⟨h₇, tk₇, _, rfl, pl_keep hp₅ hk₇, hns₅.keeps hk₇, fun h₈ hs₈ hl₈ => ?_⟩
      refine ⟨W.frame _ _ _ hst₅ fun b hb o e => hs₈.extBut b o (hDf b hb) (hk₇ b o e), fun b o hb e => ?_, ?_⟩
      · have hlt : @LT.lt Nat _ b s₂.heap.objs.size := Heap.lt_size e
        have hbD : @Ne Nat b D := by omega
        exact hs₈.extBut b o hbD (old₇ b o hb e)
      · rw [er, hpi]
        simp only [if_true, List.map_append, List.map_cons, List.map_nil]
        exact ints_snoc hall
  done := by
    rintro C D h m ys tk E' ⟨tw1, tw2, tw3, tw4, tw5⟩ ⟨hst, hk, hall⟩ hp hns
    have hwr : ∀ b : Nat, b ∈ wr → b < s₂.heap.objs.size := fun b hb => hfp b (W.sub b hb)
    have hCw : C ∉ wr := fun hb => Nat.lt_irrefl _ (Nat.lt_of_lt_of_le (hwr C hb) tw1)
    have hDw : D ∉ wr := fun hb => Nat.lt_irrefl _ (Nat.lt_of_lt_of_le (hwr D hb) tw2)
    exact W.done _ _ E' hst fun h₃ tk₃ hk₃ => ⟨rfl, h₃, tk₃, rfl, let ⟨nn, e⟩ := hp; ⟨nn, hk₃ D _ hDw e⟩, hns.at' fun o e => hk₃ C o hCw e, fun b o hb e => hk₃ b o hb (hk b o hb e), hall⟩

theorem range_it {nexpr : Expr} {p1 p2 : Pos} {n : Nat} {t : Tok} {P : Value → Shared → Prop} {K : Frag} {h₀ : Heap} {L : Addr} {m mg mb : Str → Option Value} {p : Program} {loose : List Str} (F : Fr h₀ L s.heap m) (X : K.In h₀) (T : TopRead p loose mg mb h₀)
    (e : PySem.W.nsIn K mainGlobals (Str.ofString "range") = some none) (hv : bootBuiltins (Str.ofString "range") = some (.type "range")) (hn : n ≤ 1000)
    (hne : ∀ (Q : Value → Shared → Prop), Q (.int (n : Nat) t) s → wpAny (model prog w) A (eval nexpr env) Q E s)
    (hk : env.scope.kind = .function) (hx : env.kindOf (Str.ofString "range") = some .globalImplicit) (hg : env.globals = mainGlobals) (hb : env.builtins = builtinsNs)
    (he : eval (.Call (.Name (Str.ofString "range") p1) [nexpr] [] p2) env = (do callWith p2 (← eval (.Name (Str.ofString "range") p1) env) [] (backTo p2 (starEach [nexpr] env)) (backToKw p2 (keywordEach [] env))))
    (he1 : starEach [nexpr] env = (false, eval nexpr env) :: starEach [] env)
    (h : ∀ H I tk, (∀ b o, s.heap.get? b = some o → H.get? b = some o) → @LE.le Nat _ s.heap.objs.size I → H.objs.size = I + 1 → IsRangeIter H I (0 + ((0 : Nat) : Int) * 1) ((n : Int) - ((0 : Nat) : Int)) 1 → P (.ref I) { s with heap := H, toks := tk }) :
    wpAny (model prog w) A (eval (.Call (.Name (Str.ofString "range") p1) [nexpr] [] p2) env) (fun xv s₁ => wpAny (model prog w) A (pyIter xv) P E s₁) E s := by
  refine Call_ ?_ he
  refine nameE_B F X T e hv (by decide) ?_ hk hx hg hb
  refine cw_type1 ?_ he1
  refine args_cons (hne _ ?_) he1
  refine args_nil ?_
  refine call_range_1 ?_
  refine iter_range (IsRange.new _ _ _ _ _ _ _) (n := n) (Or.inl (by omega)) (by omega) (by omega) fun hit => ?_
  refine h _ _ _ (fun b o e => Heap.get?_push_of_some _ (Heap.get?_push_of_some _ e)) ?_ (Heap.size_push ..) (hit _ rfl)
  rw [Heap.size_push]; exact Nat.le_succ _
end
end Mine
end

section
open PySem PySem.W PySem.Calls PyProof.Rows
set_option Elab.async false
set_option maxRecDepth 100000
set_option maxHeartbeats 8000000
namespace Mine
def NearD (D : List Addr) (h : Heap) (v : Value) (l : List Nat) : Prop := ∃ (b : Nat) (us : List Value), v = .ref b ∧ PL D h b us ∧ IntsAre us (l.map fun (i : Nat) => (i : Int))
theorem NearD.mv {D : List Addr} {h h' : Heap} {v : Value} {l : List Nat} (x : NearD D h v l) (mv : Mv D h h') : NearD D h' v l := let ⟨b, us, e, p, i⟩ := x; ⟨b, us, e, p.mv mv, i⟩
def IL (D : List Addr) (h : Heap) (a : Addr) (ns : List Int) : Prop := ∃ vs, PL D h a vs ∧ IntsAre vs ns
theorem IL.mv {D : List Addr} {h h' : Heap} {a : Addr} {ns : List Int} (x : IL D h a ns) (mv : Mv D h h') : IL D h' a ns := let ⟨vs, p, i⟩ := x; ⟨vs, p.mv mv, i⟩
theorem Fc.cellv {g h : Heap} {L : Addr} {sc : Scope} {m cm : Str → Option Value} (X : Fc g L sc h m cm) {x : Str} {c : Addr} {v : Value} (hc : (cellsFrom (L + 1) sc.names []).lookup x = some c) (hv : cm x = some v) : h.IsCell c (some v) := hv ▸ X.X.cell _ _ hc
theorem cell_new {h h' : Heap} {c : Addr} {v : Option Value} (x : h.IsCell c v) (hk : ∀ b o, h.get? b = some o → h'.get? b = some o) : h'.IsCell c v := let ⟨o, e, d⟩ := x; ⟨o, hk _ _ e, d⟩
section
variable {prog : Program} {w : World} {A : Around} {E : Value → Shared → Prop} {s : Shared} {name : Str} {sc : Scope} {L f : Addr} {cd : Value} {g : Heap} {m cm mg mb : Str → Option Value} {K : Frag} {p : Program} {loose : List Str}
theorem asg_ints {sb : Bool} {elt nexpr : Expr} {cscope : Scope} {cl : List (Str × Addr)} {m' cm' : Value → Str → Option Value} {pos py spos q p1 p2 : Pos} {y x : Str} {Q : Flow → Shared → Prop} {n : Nat} {tn : Tok} (ft : Nat → Int) (hh : A.handled = none)
    (X : Fc g L sc s.heap m cm) (KX : K.In g) (T : TopRead p loose mg mb g) (hnd : ((cellsFrom 0 sc.names []).map (·.1)).Nodup)
    (e : PySem.W.nsIn K mainGlobals (Str.ofString "range") = some none) (hv : bootBuiltins (Str.ofString "range") = some (.type "range")) (hn : n ≤ 1000)
    (hne : ∀ (Q : Value → Shared → Prop), Q (.int (n : Nat) tn) s → wpAny (model prog w) A (eval nexpr (envOfC name sc L f cd)) Q E s)
    (hst : Stored prog w A g L sc (envOfC name sc L f cd) y m cm m' cm')
    (hsw : swapsWith (.ListComp elt [⟨.Name x q, .Call (.Name (Str.ofString "range") p1) [nexpr] [] p2, [], 0⟩] cscope pos) (some (.Name y py)) spos.line (envOfC name sc L f cd) = pure sb)
    (hclos : closureFor cscope (envOfC name sc L f cd) = pure cl) (hck : cscope.kind = .function) (hnames : ∀ x ∈ cscope.names, x.2 = .local → cscope.names.lookup x.1 = some .local) (hcell : ∀ y ∈ cscope.names, y.2 ≠ .cell)
    (hk : sc.kind = .function) (hx : (envOfC name sc L f cd).kindOf (Str.ofString "range") = some .globalImplicit) (hxl : cscope.names.lookup x = some .local)
    (he : eval (.Call (.Name (Str.ofString "range") p1) [nexpr] [] p2) (envOfC name sc L f cd) = (do callWith p2 (← eval (.Name (Str.ofString "range") p1) (envOfC name sc L f cd)) [] (backTo p2 (starEach [nexpr] (envOfC name sc L f cd))) (backToKw p2 (keywordEach [] (envOfC name sc L f cd)))))
    (he1 : starEach [nexpr] (envOfC name sc L f cd) = (false, eval nexpr (envOfC name sc L f cd)) :: starEach [] (envOfC name sc L f cd))
    (hs : ∀ z, foldedSetIterable (.Call (.Name (Str.ofString "range") p1) [nexpr] [] p2) (envOfC name sc L f cd) z = pure z)
    (hel : ∀ C i t h tk mc (Q : Value → Shared → Prop) (E' : Value → Shared → Prop), i < n → h.Ns C mc → mc x = some (.int (i : Nat) t) → (∀ b o, s.heap.get? b = some o → h.get? b = some o) →
      (∀ tk' t', Q (.int (ft i) t') { s with heap := h, toks := tk' }) → wpAny (model prog w) A (eval elt (compEnvC cscope cl C (envOfC name sc L f cd))) Q E' { s with heap := h, toks := tk })
    (h : ∀ h₄ D tk, s.heap.get? D = none → Fc g L sc h₄ (m' (.ref D)) (cm' (.ref D)) → IL (DD L sc) h₄ D ((List.range n).map ft) → Mv (DD L sc) s.heap h₄ → Q .next { s with heap := h₄, toks := tk }) :
    wpAny (model prog w) A (exec (.Assign [.Name y py] (.ListComp elt [⟨.Name x q, .Call (.Name (Str.ofString "range") p1) [nexpr] [] p2, [], 0⟩] cscope pos) spos) (envOfC name sc L f cd)) Q E s := by
  refine asgX hnd hst hsw hclos hck hnames hcell ?_ hs
  refine range_it X.F KX T e hv hn hne hk hx rfl rfl he he1 fun H I tkH kH hI hH hit => ?_
  have XH := X.keeps kH
  have hIn : s.heap.get? I = none := none_ge hI
  have hfp : ∀ b : Nat, b ∈ [I] → @LT.lt Nat _ b H.objs.size := fun b hb => by rw [List.mem_singleton.mp hb, hH]; exact Nat.lt_succ_self _
  have hwr : ∀ b ∈ [I], g.get? b = none ∧ b ∉ DD L sc := fun b hb => by rw [List.mem_singleton.mp hb]; exact ⟨X.gnone hIn, X.new hnd hIn⟩
  refine ⟨_, _, _, [I], csrc_name (s₂ := { s with heap := H, toks := tkH }) (Walks.range hh I 0 1 n).bound hn hit hfp (fun (j : Nat) (y : Value) (_ : Heap) => ∃ t, y = .int (ft j) t) (fun _ _ _ _ e _ => e) hck hxl ?_, XH, hwr, fun h1 ys hf => hf.1, ?_⟩
  · rintro C i v h tk mc Q E' hC ⟨hi, tv, rfl⟩ hns hx hold hQ
    have e : (0 : Int) + (i : Int) * 1 = (i : Nat) := by omega
    rw [e] at hx
    refine hel C i tv h tk mc Q E' hi hns hx (fun b o eo => hold b o (fun q => ?_) (kH b o eo)) fun tk' t' => hQ h tk' _ (fun _ _ e => e) ⟨t', rfl⟩
    rw [List.mem_singleton.mp q, hIn] at eo; cases eo
  · rintro D h1 ys h4 tk4 hD hy ⟨hk1, hlen, hel1⟩ _ X4 P4 mv4
    have hDn : s.heap.get? D = none := none_ge (Nat.le_trans hI (Nat.le_trans (by rw [hH]; exact Nat.le_succ _) hD))
    refine h h4 D tk4 hDn X4 ⟨ys, P4, ints_of_get (by simp [hlen]) fun j v hj => ?_⟩ fun b o hb e => mv4 b o (fun q => ?_) (kH b o e)
    · obtain ⟨t, rfl⟩ := hel1 j v hj
      have hjn : j < n := by rw [← hlen]; exact (List.getElem?_eq_some_iff.mp hj).1
      exact ⟨_, t, by rw [List.getElem?_map, List.getElem?_range hjn]; rfl, rfl⟩
    · rcases List.mem_append.mp q with q | q
      · rw [List.mem_singleton.mp q, hIn] at e; cases e
      · exact hb q
end
end Mine
end

section
open PySem PySem.W PySem.Calls PyProof.Rows
set_option Elab.async false
set_option maxRecDepth 100000
set_option maxHeartbeats 8000000
namespace Mine
theorem fillK_LWA : PySem.Challenge.rw_au6018_01 = PySem.Challenge.rw_au6018_01 → hd.heap_39 = hd.heap_39 → True := by
  k_fill
  intro _ _; trivial
abbrev sfound : Str := Str.ofString "found"
def nOf (fs : List Int) : Nat := (2 + (fs.getD 0 0).fmod 6).toNat
def vOf (fs : List Int) : List Int := (List.range (nOf fs)).map fun k => 2 * (fs.getD (1 + k) 0).fmod 12 - 8
def tOf (fs : List Int) : Int := 2 * (fs.getD 8 0).fmod 12 - 7
def sOf (fs : List Int) : List Int := (List.range (nOf fs)).map fun k => 8 * (fs.getD (10 + k) 0).fmod 1000 + k
theorem fmod_bd (a b : Int) (hb : 0 < b) : 0 ≤ a.fmod b ∧ a.fmod b < b := ⟨Int.fmod_nonneg_of_pos _ hb, Int.fmod_lt_of_pos _ hb⟩
theorem nOf_bd (fs : List Int) : 2 ≤ nOf fs ∧ nOf fs ≤ 7 := by
  have := fmod_bd (fs.getD 0 0) 6 (by decide)
  unfold nOf
  omega

theorem seg1 {w : World} {A : Around} {s : Shared} {Q : Flow → Shared → Prop} {E : Value → Shared → Prop} {mg mb} {g : Heap} {L : Nat} {m cm : Str → Option Value} (hA : AOk A 4)
    {name qual : Str} {params : Arguments} {body : List Stmt} {sc : Scope} {dV kV doc pm cdv ct oc : Value} {an od : Option Addr} {osl : Array (Option Value)}
    (ho : (hd.heap_39 w.params).lookup 707 = some ⟨oc, od, .func (fnOf name qual params body sc dV kV doc pm an cdv ct), osl⟩)
    (X : Fc g L sc s.heap m cm) (KX : (hd.heap_39 w.params).In g) (T : TopRead hd.view_39 LOOSE mg mb g)
    {l : Addr} {vs : List Value} {ns : List Int} (hm : m (Str.ofString "script") = some (.ref l)) (hl : g.IsList l vs.toArray) (hi : IntsAre vs ns) (hn : ns.length ≤ 100)
    (rest : ∀ h tk cm' lf lv ln fs, fs.length = 20 → Fc g L sc h m cm' → (cm' (Str.ofString "found") = some (.ref lf) ∧ cm' (Str.ofString "values") = some (.ref lv) ∧ cm' (Str.ofString "names") = some (.ref ln) ∧ (∃ t, cm' (Str.ofString "n") = some (.int (nOf fs) t)) ∧ ∃ t, cm' (Str.ofString "limit") = some (.int (tOf fs) t)) →
      IL (DD L sc) h lf fs → IL (DD L sc) h lv (vOf fs) → IL (DD L sc) h ln (sOf fs) →
      wpS (model PG w) A (execs (body.drop 5) (envOfC qual sc L 707 cdv)) Q E { s with heap := h, toks := tk }) :
    wpS (model PG w) A (execs body (envOfC qual sc L 707 cdv)) Q E s := by
  refine' lawfn_eq ?k ho ?h
  case k => k_is
  case h =>
  rintro rfl rfl hsc rfl
  clear ho
  have hnd : ((cellsFrom 0 sc.names []).map (·.1)).Nodup := by rw [hsc]; decide
  subst hsc
  have KXs := kin_keeps KX X.F.keep
  refine execs_A (wpAny_Assign_Name (Call_ ?_))
  refine nameX_K X.F KX T (by k_is) ?_
  refine callWith_K KX (by k_is) ?_
  refine args_cons (ldLoc X.F hm ?_)
  refine args_cons (wpAny_Constant_int ?_)
  refine args_nil ?_
  refine ⟨KXs, wpAny_call ?_⟩
  refine numbers_spec (s := { s with toks := s.toks + 1 }) (hA.less (by omega)) KXs (T.keeps X.F.keep) (hl.at fun o e => X.F.keep _ _ e) hi hn fun h1 tk1 lf vs1 k1 hn1 hp1 hl1 hI1 => ?_
  dsimp only at k1 hn1 ⊢
  obtain ⟨fs, hfs⟩ := intsOf hI1
  have hfl : fs.length = 20 := by rw [← hfs.length]; exact hl1
  have X1 := X.keeps k1
  have P1 : PL (DD L _) h1 lf vs1 := ⟨X.new hnd hn1, hp1⟩
  refine stCc (s := { s with heap := h1, toks := tk1 }) X1 (by rfl) (fun h2 X2 mv2 => ?_) rfl (by rfl)
  dsimp only
  have P2 := P1.mv mv2
  have get : ∀ {k : Nat}, k < 20 → ∃ v t, vs1[k]? = some v ∧ v = .int (fs.getD k 0) t := fun {k} hk => by
    have e1 : vs1[k]? = some (vs1[k]'(by omega)) := List.getElem?_eq_getElem (by omega)
    have e2 : fs[k]? = some (fs[k]'(by omega)) := List.getElem?_eq_getElem (by omega)
    obtain ⟨t, e⟩ := ints_get hfs e1 e2
    exact ⟨_, t, e1, by rw [e]; simp [show k < fs.length by omega]⟩
  obtain ⟨v0, t0, g0, rfl⟩ := get (k := 0) (by omega)
  refine execs_A (wpAny_Assign_Name (wpAny_BinOp (wpAny_Constant_int ?_)))
  refine wpAny_BinOp (Subscript_ (ldC X2.X (by rfl) (if_pos rfl) ?_))
  refine wpAny_Constant_int ?_
  refine pl_item P2.2 (by omega) (by omega) g0 ?_
  refine wpAny_Constant_int ?_
  refine mod_int (by decide) ?_
  refine add_int ?_
  have bd := nOf_bd fs
  have en : 2 + (fs.getD 0 0).fmod 6 = ((nOf fs : Nat) : Int) := by
    have := fmod_bd (fs.getD 0 0) 6 (by decide)
    unfold nOf; omega
  rw [en]
  refine stCc (s := { s with heap := h2, toks := _ }) X2 (by rfl) (fun h3 X3 mv3 => ?_) rfl (by rfl)
  dsimp only
  have P3 := P2.mv mv3
  refine execs_A ?_
  refine asg_ints (s := { s with heap := h3, toks := _ }) (g := g) (m := m) (cl := [(Str.ofString "found", L + 1)]) (n := nOf fs) (fun k => 2 * (fs.getD (1 + k) 0).fmod 12 - 8) (by exact hA.2.1) X3 KX T hnd (by k_is) (by boot_by_name) (by omega) (fun Q h => ldC X3.X (by rfl) (if_pos rfl) h) (stored_C (c := L + 3) (by rfl)) (by rfl) (by rfl) rfl (by decide) (by decide) rfl (by rfl) (by rfl) (by rfl) (by rfl) (by intro _; rfl) ?_ ?_
  · intro C i t h tk mc Q E' hi hns hx hold hQ
    have cfH : h.IsCell (L + 1) (some (.ref lf)) := cell_new (X3.cellv (x := Str.ofString "found") (by rfl) (by rw [if_neg (by decide)]; exact if_pos rfl)) hold
    obtain ⟨v1, t1, g1, rfl⟩ := get (k := 1 + i) (by omega)
    refine wpAny_BinOp (wpAny_BinOp (wpAny_Constant_int ?_))
    refine wpAny_BinOp (Subscript_ (ldCellK (by rfl) cfH ?_))
    refine wpAny_BinOp (wpAny_Constant_int ?_)
    refine ldVarK hns hx ?_
    refine add_int ?_
    refine pl_item (pl_keep P3.2 hold) (by omega) (by omega) (by rw [show (1 + (i : Int)).toNat = 1 + i by omega]; exact g1) ?_
    refine wpAny_Constant_int ?_
    refine mod_int (by decide) ?_
    refine mul_int ?_ ?_
    rotate_left
    · exact PySem.IntMulOk.of_left (PySem.intBits_le_64 (by omega) (by omega))
    refine wpAny_Constant_int ?_
    refine sub_int ?_
    exact hQ _ _
  intro h4 lv tk4 hlvn X4 IV4 mv4
  dsimp only at hlvn mv4 ⊢
  have P4 := P3.mv mv4
  obtain ⟨v8, t8, g8, rfl⟩ := get (k := 8) (by omega)
  refine execs_A (wpAny_Assign_Name (wpAny_BinOp (wpAny_BinOp (wpAny_Constant_int ?_))))
  refine wpAny_BinOp (Subscript_ (ldC (s := { s with heap := h4, toks := _ }) (v := .ref lf) X4.X (by rfl) ?cv8 ?_))
  case cv8 => rw [if_neg (by decide), if_neg (by decide)]; exact if_pos rfl
  refine wpAny_Constant_int ?_
  refine pl_item P4.2 (by omega) (by omega) g8 ?_
  refine wpAny_Constant_int ?_
  refine mod_int (by decide) ?_
  refine mul_int ?_ ?_
  rotate_left
  · exact PySem.IntMulOk.of_left (PySem.intBits_le_64 (by omega) (by omega))
  refine wpAny_Constant_int ?_
  refine sub_int ?_
  refine stCc (s := { s with heap := h4, toks := _ }) X4 (by rfl) (fun h5 X5 mv5 => ?_) rfl (by rfl)
  dsimp only
  have P5 := P4.mv mv5
  refine execs_A ?_
  refine asg_ints (s := { s with heap := h5, toks := _ }) (g := g) (m := m) (cl := [(Str.ofString "found", L + 1)]) (n := nOf fs) (fun k => 8 * (fs.getD (10 + k) 0).fmod 1000 + k) (by exact hA.2.1) X5 KX T hnd (by k_is) (by boot_by_name) (by omega) (fun Q h => ldC X5.X (by rfl) (by rw [if_neg (by decide), if_neg (by decide)]; exact if_pos rfl) h) (stored_C (c := L + 5) (by rfl)) (by rfl) (by rfl) rfl (by decide) (by decide) rfl (by rfl) (by rfl) (by rfl) (by rfl) (by intro _; rfl) ?_ ?_
  · intro C i t h tk mc Q E' hi hns hx hold hQ
    have cfH : h.IsCell (L + 1) (some (.ref lf)) := cell_new (X5.cellv (x := Str.ofString "found") (by rfl) (by rw [if_neg (by decide), if_neg (by decide), if_neg (by decide)]; exact if_pos rfl)) hold
    obtain ⟨v1, t1, g1, rfl⟩ := get (k := 10 + i) (by omega)
    refine wpAny_BinOp (wpAny_BinOp (wpAny_Constant_int ?_))
    refine wpAny_BinOp (Subscript_ (ldCellK (by rfl) cfH ?_))
    refine wpAny_BinOp (wpAny_Constant_int ?_)
    refine ldVarK hns hx ?_
    refine add_int ?_
    refine pl_item (pl_keep P5.2 hold) (by omega) (by omega) (by rw [show (10 + (i : Int)).toNat = 10 + i by omega]; exact g1) ?_
    refine wpAny_Constant_int ?_
    refine mod_int (by decide) ?_
    refine mul_int ?_ ?_
    rotate_left
    · exact PySem.IntMulOk.of_left (PySem.intBits_le_64 (by omega) (by omega))
    refine ldVarK hns hx ?_
    refine add_int ?_
    exact hQ _ _
  intro h6 ln tk6 hlnn X6 IN6 mv6
  dsimp only at hlnn mv6 ⊢
  refine rest h6 _ _ lf lv ln fs hfl X6 ⟨?_, ?_, ?_, ?_, ?_⟩ ⟨_, P5.mv mv6, hfs⟩ ((IV4.mv mv5).mv mv6) IN6
  · rw [if_neg (by decide), if_neg (by decide), if_neg (by decide), if_neg (by decide)]; exact if_pos rfl
  · rw [if_neg (by decide), if_neg (by decide)]; exact if_pos rfl
  · exact if_pos rfl
  · exact ⟨_, (if_neg (by decide)).trans ((if_neg (by decide)).trans ((if_neg (by decide)).trans (if_pos rfl)))⟩
  · exact ⟨_, (if_neg (by decide)).trans (if_pos rfl)⟩
end Mine
end

section
open PySem PySem.W PySem.Calls PyProof.Rows
set_option Elab.async false
set_option maxRecDepth 100000
set_option maxHeartbeats 8000000
namespace Mine
theorem fillK_LWB : PySem.Challenge.rw_au6018_01 = PySem.Challenge.rw_au6018_01 → hd.heap_39 = hd.heap_39 → True := by
  k_fill
  intro _ _; trivial
def NL (D : List Addr) (h : Heap) (a : Addr) (near : List (List Nat)) : Prop := ∃ vs, PL D h a vs ∧ Rel (NearD D h) vs near
theorem NL.mv {D : List Addr} {h h' : Heap} {a : Addr} {n : List (List Nat)} (x : NL D h a n) (mv : Mv D h h') : NL D h' a n := let ⟨vs, p, i⟩ := x; ⟨vs, p.mv mv, i.mono fun _ _ y => y.mv mv⟩
theorem IL.new {D : List Addr} {h h' : Heap} {a : Addr} {ns : List Int} (x : IL D h a ns) (hk : ∀ b o, h.get? b = some o → h'.get? b = some o) : IL D h' a ns := x.mv (Mv.keep hk)

theorem seg2 {w : World} {A : Around} {s : Shared} {Q : Flow → Shared → Prop} {E : Value → Shared → Prop} {mg mb} {g : Heap} {L : Nat} {m cm : Str → Option Value} (hA : AOk A 4)
    {name qual : Str} {params : Arguments} {body : List Stmt} {sc : Scope} {dV kV doc pm cdv ct oc : Value} {an od : Option Addr} {osl : Array (Option Value)}
    (ho : (hd.heap_39 w.params).lookup 707 = some ⟨oc, od, .func (fnOf name qual params body sc dV kV doc pm an cdv ct), osl⟩)
    (X : Fc g L sc s.heap m cm) (KX : (hd.heap_39 w.params).In g) (T : TopRead hd.view_39 LOOSE mg mb g)
    {lv : Addr} {V : List Int} {lim : Int} {tn tl : Tok} (hV : V.length ≤ 8) (cv : cm (Str.ofString "values") = some (.ref lv)) (cn : cm (Str.ofString "n") = some (.int (V.length : Nat) tn)) (cl : cm (Str.ofString "limit") = some (.int lim tl))
    (IV : IL (DD L sc) s.heap lv V)
    (rest : ∀ h tk lr, Fc g L sc h (fun y => if y = Str.ofString "near" then some (.ref lr) else m y) cm → NL (DD L sc) h lr (nearOf V lim) → Mv (DD L sc) s.heap h →
      wpS (model PG w) A (execs (body.drop 6) (envOfC qual sc L 707 cdv)) Q E { s with heap := h, toks := tk }) :
    wpS (model PG w) A (execs (body.drop 5) (envOfC qual sc L 707 cdv)) Q E s := by
  refine' lawfn_eq ?k ho ?h
  case k => k_is
  case h =>
  rintro rfl rfl hsc rfl
  clear ho
  have hnd : ((cellsFrom 0 sc.names []).map (·.1)).Nodup := by rw [hsc]; decide
  subst hsc
  refine execs_A ?_
  refine asgXC (g := g) (m := m) (cm := cm) (x := Str.ofString "a") (cl := [(Str.ofString "values", L + 3), (Str.ofString "n", L + 2), (Str.ofString "limit", L + 4)]) hnd stored_L (by rfl) (by rfl) rfl (by decide) (by intro n acc; rfl) ?_
  refine range_it X.F KX T (by k_is) (by boot_by_name) (n := V.length) (by omega) (fun Q h => ldC X.X (by rfl) cn h) rfl (by rfl) rfl rfl (by rfl) (by rfl) fun H I tkH kH hI hH hit => ?_
  have XH := X.keeps kH
  have hIn : s.heap.get? I = none := none_ge hI
  have hfp : ∀ b : Nat, b ∈ [I] → @LT.lt Nat _ b H.objs.size := fun b hb => by rw [List.mem_singleton.mp hb, hH]; exact Nat.lt_succ_self _
  have hwr : ∀ b ∈ [I], g.get? b = none ∧ b ∉ DD L _ := fun b hb => by rw [List.mem_singleton.mp hb]; exact ⟨X.gnone hIn, X.new hnd hIn⟩
  refine ⟨_, _, _, [I], csrc_cell (s₂ := { s with heap := H, toks := tkH }) (Walks.range (by exact hA.2.1) I 0 1 V.length).bound (by omega) hit hfp
    (fun (j : Nat) (y : Value) (h : Heap) => ∃ (b : Nat) (us : List Value), y = .ref b ∧ @LE.le Nat _ (H.objs.size + 3) b ∧ h.PlainList b us.toArray ∧ IntsAre us (((List.range V.length).filter fun b => decide (j ≠ b ∧ lim < V.getD j 0 + V.getD b 0)).map fun (i : Nat) => (i : Int))) ?hmono rfl (by intro C; rfl) ?hel, XH, hwr, fun h1 ys hf => hf.1, ?_⟩
  case hmono =>
    rintro i y h h' ⟨b, us, e1, e2, e3, e4⟩ hk
    exact ⟨b, us, e1, e2, let ⟨n, e⟩ := e3; ⟨n, hk _ _ (.inl e2) e⟩, e4⟩
  case hel =>
    rintro i v h tk mc Q E' hC ⟨hi, tv, rfl⟩ hns hca hold hQ
    have e0 : (0 : Int) + (i : Int) * 1 = (i : Nat) := by omega
    rw [e0] at hca
    dsimp only at hC hold hQ
    have old : ∀ b o, s.heap.get? b = some o → h.get? b = some o := fun b o eo => hold b o (fun q => by rw [List.mem_singleton.mp q, hIn] at eo; cases eo) (kH b o eo)
    have Xh := X.keeps old
    obtain ⟨vvs, ⟨hlvD, hlv⟩, hvi⟩ := IV.new old
    have hvl : vvs.length = V.length := hvi.length
    refine ListComp_u (cl := [(Str.ofString "values", L + 3), (Str.ofString "limit", L + 4), (Str.ofString "a", H.objs.size + 2)]) (by rfl) rfl (by decide) (by decide) ?_
    refine range_it (s := { s with heap := h, toks := tk }) Xh.F KX T (by k_is) (by boot_by_name) (n := V.length) (by omega) (fun Q h => ldCellK (by rfl) (Xh.cellv (x := Str.ofString "n") (by rfl) cn) h) rfl (by rfl) rfl rfl (by rfl) (by rfl) fun H2 I2 tk2 kH2 hI2 hH2 hit2 => ?_
    dsimp only at kH2 hI2
    have hI2n : h.get? I2 = none := none_ge hI2
    have hfp2 : ∀ b : Nat, b ∈ [I2] → @LT.lt Nat _ b H2.objs.size := fun b hb => by rw [List.mem_singleton.mp hb, hH2]; exact Nat.lt_succ_self _
    refine ⟨_, _, _, csrc_filter (s₂ := { s with heap := H2, toks := tk2 }) (Walks.range (by exact hA.2.1) I2 0 1 V.length) (fun j v ⟨t, e⟩ => ⟨t, by rw [e]; congr 1; omega⟩) (by omega) hit2 hfp2 (fun b => decide (i ≠ b ∧ lim < V.getD i 0 + V.getD b 0)) rfl (by rfl) (by decide) ?test, ?fin⟩
    case test =>
      intro C j t h3 tk3 mc3 Q3 E3 hj hns3 hx3 hold3 hQ3
      dsimp only at hold3 hQ3
      have old3 : ∀ b o, h.get? b = some o → h3.get? b = some o := fun b o eo => hold3 b o (fun q => by rw [List.mem_singleton.mp q, hI2n] at eo; cases eo) (kH2 b o eo)
      have X3 := Xh.keeps old3
      have hca3 := cell_new hca old3
      have hlv3 := pl_keep hlv old3
      have gV : ∀ {k : Nat}, k < V.length → ∃ t, vvs[k]? = some (.int (V.getD k 0) t) := fun {k} hk => by
        have e1 : vvs[k]? = some (vvs[k]'(by omega)) := List.getElem?_eq_getElem (by omega)
        have e2 : V[k]? = some (V[k]'(by omega)) := List.getElem?_eq_getElem (by omega)
        obtain ⟨t, e⟩ := ints_get hvi e1 e2
        exact ⟨t, by rw [e1, e]; simp [hk]⟩
      obtain ⟨ti, gi⟩ := gV hi
      obtain ⟨tj, gj⟩ := gV hj
      refine isTrue_and (wpAny_isTrue_Compare1 (ldCellK (by rfl) hca3 ?_))
      refine ldVarK hns3 hx3 ?_
      refine PyProof.Rows.ne_int ?_
      refine wpAny_truthy_bool ?_
      have hij : ((i : Int) != (j : Int)) = decide (i ≠ j) := by
        rw [Bool.eq_iff_iff, bne_iff_ne, decide_eq_true_eq]
        constructor <;> intro h1 h2 <;> exact h1 (by omega)
      rw [hij]
      refine split_dec (fun hne => ?_) (fun hne => ?_)
      · refine isTrue_and (wpAny_isTrue_Compare1 ?_)
        refine wpAny_BinOp (Subscript_ (ldCellK (by rfl) (X3.cellv (x := Str.ofString "values") (by rfl) cv) ?_))
        refine ldCellK (by rfl) hca3 ?_
        refine pl_item hlv3 (by omega) (by omega) (by rw [Int.toNat_natCast]; exact gi) ?_
        refine Subscript_ (ldCellK (by rfl) (X3.cellv (x := Str.ofString "values") (by rfl) cv) ?_)
        refine ldVarK hns3 hx3 ?_
        refine pl_item hlv3 (by omega) (by omega) (by rw [Int.toNat_natCast]; exact gj) ?_
        refine add_int ?_
        refine ldCellK (by rfl) (X3.cellv (x := Str.ofString "limit") (by rfl) cl) ?_
        refine PyProof.Rows.gt_int ?_
        refine wpAny_truthy_bool ?_
        refine split_dec (fun hgt => ?_) (fun hgt => ?_)
        · refine isTrue_and_nil ?_
          have e : decide (i ≠ j ∧ lim < V.getD i 0 + V.getD j 0) = true := decide_eq_true ⟨hne, hgt⟩
          rw [← e]
          exact hQ3 h3 _ (fun _ _ e => e)
        · have e : decide (i ≠ j ∧ lim < V.getD i 0 + V.getD j 0) = false := decide_eq_false (fun q => hgt q.2)
          rw [← e]
          exact hQ3 h3 _ (fun _ _ e => e)
      · have e : decide (i ≠ j ∧ lim < V.getD i 0 + V.getD j 0) = false := decide_eq_false (fun q => hne q.1)
        rw [← e]
        exact hQ3 h3 _ (fun _ _ e => e)
    case fin =>
      rintro C D h1 h2 ys tk4 ⟨tw1, tw2, tw3, tw4, tw5⟩ hp2 hy ⟨hk1, hints⟩ hs2
      dsimp only at tw1 tw2 tw3 tw4
      have hzh : @LE.le Nat _ h.objs.size H2.objs.size := by rw [hH2]; exact Nat.le_succ_of_le hI2
      refine hQ h2 _ _ (fun b o eo => ?_) ⟨D, ys, rfl, ?_, hp2, hints⟩
      · have hb : @LT.lt Nat _ b h.objs.size := Heap.lt_size eo
        have hbC : @Ne Nat b C := by
          have : @LE.le Nat _ H2.objs.size C := tw1
          omega
        exact hs2.extBut b o hbC (hk1 b o (fun q => by rw [List.mem_singleton.mp q, hI2n] at eo; cases eo) (kH2 b o eo))
      · have : @LE.le Nat _ H2.objs.size D := tw2
        omega
  rintro D h1 ys h4 tk4 hD hy ⟨hk1, hlen, hel1⟩ hk4 X4 P4 mv4
  dsimp only at hD mv4 ⊢
  refine rest h4 tk4 D X4 ⟨ys, P4, by rw [nearOf_len]; exact hlen, fun j y l hj hl => ?_⟩ fun b o hb e => mv4 b o (fun q => ?_) (kH b o e)
  · obtain ⟨b, us, rfl, hb, hpb, hub⟩ := hel1 j y hj
    have hjn : j < V.length := by rw [← hlen]; exact (List.getElem?_eq_some_iff.mp hj).1
    unfold nearOf at hl
    rw [List.getElem?_map, List.getElem?_range hjn] at hl
    have hl := Option.some.inj hl
    subst hl
    have hbn : H.get? b = none := none_ge (by show @LE.le Nat _ _ _; omega)
    have hbD := XH.new hnd hbn
    exact ⟨b, us, rfl, ⟨hbD, let ⟨n, e⟩ := hpb; ⟨n, hk4 _ _ hbD (by show @Ne Nat _ _; have hb' : @LE.le Nat _ (H.objs.size + 3) b := hb; show @Ne Nat b H.objs.size; omega) (by show @Ne Nat b (H.objs.size + 1); have hb' : @LE.le Nat _ (H.objs.size + 3) b := hb; omega) e⟩⟩, hub⟩
  · rcases List.mem_append.mp q with q | q
    · rw [List.mem_singleton.mp q, hIn] at e; cases e
    · exact hb q
end Mine
end

section
open PySem PySem.W PySem.Calls PyProof.Rows PySem.SeqAt
set_option Elab.async false
set_option maxRecDepth 100000
set_option maxHeartbeats 8000000
namespace Mine
theorem Fc.notDD {g h : Heap} {L : Addr} {sc : Scope} {m cm : Str → Option Value} (X : Fc g L sc h m cm) (hnd : ((cellsFrom 0 sc.names []).map (·.1)).Nodup) {a : Addr} {o : Obj} (ha : h.get? a = some o) {xs : Array Value} {n : Nat} (hd : o.data = .seq xs n) : a ∉ DD L sc := fun hb => by
  rcases List.mem_cons.mp hb with rfl | hb
  · obtain ⟨o', es, ep, ho, hdd, _⟩ := X.F.ns
    rw [ha] at ho; cases ho
    rw [hd] at hdd; cases hdd
  · obtain ⟨p, hp, rfl⟩ := List.mem_map.mp hb
    obtain ⟨o', ho, hdd⟩ := X.X.cell p.1 p.2 (lookup_of_mem_nodup (cellsFrom_names sc.names 0 (L + 1) [] [] rfl ▸ hnd) hp)
    rw [ha] at ho; cases ho
    rw [hd] at hdd; cases hdd
def TL (D : List Addr) (h : Heap) (a : Addr) (C : List (Int × Bool)) : Prop := ∃ vs, PL D h a vs ∧ Rel (TupV D h) vs C
theorem TL.mv {D : List Addr} {h h' : Heap} {a : Addr} {C : List (Int × Bool)} (x : TL D h a C) (mv : Mv D h h') : TL D h' a C := let ⟨vs, p, i⟩ := x; ⟨vs, p.mv mv, i.mono fun _ _ y => y.mv mv fun _ q => q⟩
def SL' (D : List Addr) (h : Heap) (a : Addr) (bs : List Bool) : Prop := ∃ vs, PL D h a vs ∧ Rel StrV vs bs
theorem SL'.mv {D : List Addr} {h h' : Heap} {a : Addr} {bs : List Bool} (x : SL' D h a bs) (mv : Mv D h h') : SL' D h' a bs := let ⟨vs, p, i⟩ := x; ⟨vs, p.mv mv, i⟩
section
variable {M : Model} {A : Around} {E : Value → Shared → Prop} {s : Shared} {env : Env}
theorem CallKw_ {func : Expr} {args : List Expr} {kws : List Keyword} {pos : Pos} {Q : Value → Shared → Prop}
    (h : wpAny M A (eval func env) (fun f s₁ => wpAny M A (callWith pos f [] (backTo pos (starEach args env)) (backToKw pos (keywordEach kws env))) Q E s₁) E s)
    (he : eval (.Call func args kws pos) env = (do callWith pos (← eval func env) [] (backTo pos (starEach args env)) (backToKw pos (keywordEach kws env))) := by rfl) :
    wpAny M A (eval (.Call func args kws pos) env) Q E s := by
  rw [he]; exact wpAny_bind h
end
section
variable {prog : Program} {w : World} {A : Around} {E : Value → Shared → Prop} {s : Shared}
theorem pl_copy {l : Addr} {vs : List Value} {Q : Value → Shared → Prop} (hp : s.heap.PlainList l vs.toArray) (hz : vs.length ≤ 1000)
    (h : ∀ h' D, (∀ b o, s.heap.get? b = some o → h'.get? b = some o) → s.heap.get? D = none → h'.PlainList D vs.toArray → Q (.ref D) { s with heap := h' }) : wpAny (model prog w) A (call (.type "list") [.ref l]) Q E s := by
  obtain ⟨n, e⟩ := hp
  exact call_list_seq l (.inl rfl) e rfl rfl (fun h' c' hk hD => h h' _ hk (none_ge (Nat.le_refl _)) ⟨c', hD⟩) (by rw [sizeLine_eq]; simp; omega)
theorem range_list {r : Addr} {t u v : Tok} {n : Nat} {Q : Value → Shared → Prop} (hh : A.handled = none) (hr : IsRange s.heap r 0 (n : Int) 1 t u v) (hn : n ≤ 1000)
    (h : ∀ h' D tk vs, (∀ b o, s.heap.get? b = some o → h'.get? b = some o) → s.heap.get? D = none → h'.PlainList D (vs : List Value).toArray → IntsAre vs ((List.range n).map fun (i : Nat) => (i : Int)) → Q (.ref D) { s with heap := h', toks := tk }) : wpAny (model prog w) A (call (.type "list") [.ref r]) Q E s := by
  have hsz : Builtin.Range.rangeSize 0 (n : Int) 1 = n := by
    unfold Builtin.Range.rangeSize
    rw [if_pos (by omega)]
    split
    · rw [Int.ediv_one]; omega
    · omega
  refine call_list_range hh hr (small_one (by omega) (by omega) (by omega) (by omega)) hsz (by omega) fun h' tk acc' c' hk hD hacc => ?_
  refine h h' _ tk acc'.toList hk (none_ge (Nat.le_refl _)) ⟨c', by rw [Array.toArray_toList]; exact hD⟩ (ints_of_get (by simp [hacc.1]) fun j v hv => ?_)
  rw [Array.getElem?_toList] at hv
  obtain ⟨t, rfl⟩ := hacc.2 j v hv
  have hj : j < n := by rw [← hacc.1]; exact (Array.getElem?_eq_some_iff.mp hv).1
  exact ⟨_, t, by rw [List.getElem?_map, List.getElem?_range hj]; rfl, by congr 1; show (0 : Int) + (j : Int) * 1 = (j : Int); omega⟩

theorem ne_seq {a b : Addr} {vs us : List Value} {Q : Value → Shared → Prop} (hl : s.heap.PlainList a vs.toArray) (hl' : s.heap.PlainList b us.toArray) (hlen : vs.length = us.length)
    (he : ∀ (j : Nat) (v u : Value), vs[j]? = some v → us[j]? = some u → EqAt A.in1 s v u true) (hu : A.units < cLine) (h : Q (.bool false) s) : wpAny (model prog w) A (compareOp .NotEq (.ref a) (.ref b)) Q E s := by
  have q := RcNeAt.lists (A := A) (e := fun _ => true) (pl_list hl) (pl_list hl') (by simp; omega) hu (fun j h1 h2 => by
    have j1 : j < vs.length := by simpa using h1
    have j2 : j < us.length := by simpa using h2
    have := he j vs[j] us[j] (by simp [j1]) (by simp [j2])
    simpa using this)
  refine q prog w E Q ?_
  rw [List.all_eq_true.mpr (fun _ _ => rfl)]
  exact h
theorem ne_letters {a b : Addr} {vs us : List Value} {bs : List Bool} {Q : Value → Shared → Prop} (hl : s.heap.PlainList a vs.toArray) (hf : Rel StrV vs bs) (hl' : s.heap.PlainList b us.toArray) (hf' : Rel StrV us bs) (hu : A.units < cLine)
    (h : Q (.bool false) s) : wpAny (model prog w) A (compareOp .NotEq (.ref a) (.ref b)) Q E s := by
  refine ne_seq hl hl' (by rw [hf.1, hf'.1]) (fun j v u hv hu' => ?_) hu h
  have jl : j < bs.length := by rw [← hf.1]; exact (List.getElem?_eq_some_iff.mp hv).1
  obtain ⟨t, rfl⟩ := hf.2 j v bs[j] hv (by simp [jl])
  obtain ⟨t', rfl⟩ := hf'.2 j u bs[j] hu' (by simp [jl])
  have := EqAt.str_str (A := A.in1) (s := s) (letS bs[j]) t (letS bs[j]) t'
  rwa [beq_self_eq_true] at this
theorem eqAt_tup {A : Around} {v u : Value} {c : Int × Bool} {D D' : List Addr} (hv : TupV D s.heap v c) (hu' : TupV D' s.heap u c) (hu : A.units < cLine) : EqAt A s v u true := by
  obtain ⟨a, t, tt, n, rfl, _, ha⟩ := hv
  obtain ⟨b, t', tt', n', rfl, _, hb⟩ := hu'
  by_cases hab : a = b
  · subst hab; exact EqAt.same _
  · refine EqAt.of_refs hab ?_
    have ta : s.heap.IsTuple a #[.int c.1 t, .str (letS c.2) tt] := ⟨_, ha, rfl, _, rfl⟩
    have tb : s.heap.IsTuple b #[.int c.1 t', .str (letS c.2) tt'] := ⟨_, hb, rfl, _, rfl⟩
    exact RcAt.tuples (e := fun _ => true) ta tb hu (fun j h1 h2 => by
      have hj : j < 2 := h1
      rcases j with _ | _ | j
      · have := EqAt.int_int (A := A.in1) (s := s) c.1 t c.1 t'
        rwa [beq_self_eq_true] at this
      · have := EqAt.str_str (A := A.in1) (s := s) (letS c.2) tt (letS c.2) tt'
        rwa [beq_self_eq_true] at this
      · omega)
theorem ne_told {a b : Addr} {vs us : List Value} {C : List (Int × Bool)} {D D' : List Addr} {Q : Value → Shared → Prop} (hl : s.heap.PlainList a vs.toArray) (hf : Rel (TupV D s.heap) vs C) (hl' : s.heap.PlainList b us.toArray) (hf' : Rel (TupV D' s.heap) us C) (hu : A.units < cLine) (hu1 : A.in1.units < cLine)
    (h : Q (.bool false) s) : wpAny (model prog w) A (compareOp .NotEq (.ref a) (.ref b)) Q E s := by
  refine ne_seq hl hl' (by rw [hf.1, hf'.1]) (fun j v u hv hu' => ?_) hu h
  have jl : j < C.length := by rw [← hf.1]; exact (List.getElem?_eq_some_iff.mp hv).1
  exact eqAt_tup (hf.2 j v C[j] hv (by simp [jl])) (hf'.2 j u C[j] hu' (by simp [jl])) hu1
end
end Mine
end

section
open PySem PySem.W PySem.Calls PyProof.Rows PySem.SeqAt
set_option Elab.async false
set_option maxRecDepth 100000
set_option maxHeartbeats 8000000
namespace Mine
theorem kd7 {w : World} : nsIn (hd.heap_39 w.params) cStatics sharingNotToldKey = some none := by kernel_rfl
theorem isSame_float {w : World} {M : Model} {A : Around} {E : Value → Shared → Prop} {s : Shared} {y z : UInt64} {u v : Tok} {Q : Bool → Shared → Prop}
    (X : (hd.heap_39 w.params).In s.heap) (hu : 1 ≤ u) (hv : 1 ≤ v) (hq : ∀ b, Q b s) : wpAny M A (isSame (.float y u) (.float z v)) Q E s := by
  show wpAny M A (isSame.created (y == z && !Float64.isNaN y) u v) Q E s
  have L := looks_nsIn (M := M) X kd7
  have no : ∀ {t : Tok} {R : Bool → Shared → Prop}, R false s → wpAny M A (sharingNotTold t) R E s := fun {t R} h => by
    unfold sharingNotTold
    exact wpAny_bind (L.here (wpAny_pure h))
  unfold isSame.created
  refine wpAny_ite ?_
  split
  · rename_i h
    rw [Bool.or_eq_true, beq_iff_eq, beq_iff_eq] at h
    have h1 : @LE.le Nat _ 1 u := hu
    have h2 : @LE.le Nat _ 1 v := hv
    rcases h with h | h
    · have h : @Eq Nat u 0 := h
      omega
    · have h : @Eq Nat v 0 := h
      omega
  refine wpAny_ite ?_
  split
  · exact wpAny_pure (hq _)
  refine wpAny_ite ?_
  split
  · exact wpAny_pure (hq _)
  refine wpAny_bind (no ?_)
  first | rw [if_neg Bool.false_ne_true] | simp only [Bool.false_eq_true, if_false]
  refine wpAny_bind (no ?_)
  first | rw [if_neg Bool.false_ne_true] | simp only [Bool.false_eq_true, if_false]
  exact wpAny_bind (wpAny_rule (wpAny_bind (wpAny_askSetting (wpAny_pure (hq _)))))
theorem eqAt_float {w : World} {A : Around} {s : Shared} {x : UInt64} {t u : Tok} (X : (hd.heap_39 w.params).In s.heap) (ht : 1 ≤ t) (hu : 1 ≤ u) (hx : Float64.cmp x x = some Ordering.eq) : EqAt A s (.float x t) (.float x u) true := fun prog w' E Q h => by
  unfold eqBool
  refine wpAny_holding ?_
  refine wpAny_ite_split (fun _ => wpAny_bind (wpAny_rule (wpAny_pure h))) (fun _ => ?_)
  refine wpAny_bind (isSame_float X ht hu fun b => ?_)
  cases b with
  | true => exact wpAny_pure h
  | false =>
    refine wpAny_bind (m := richCompare .Eq (.float x t) (.float x u)) (AutoFloatOps.eq_0 ?_)
    rw [hx]
    exact wpAny_truthy_bool h
theorem ne_floats {prog : Program} {w w' : World} {A : Around} {E : Value → Shared → Prop} {s : Shared} {a b : Addr} {vs us : List Value} {xs : List UInt64} {Q : Value → Shared → Prop} (X : (hd.heap_39 w.params).In s.heap) (hl : s.heap.PlainList a vs.toArray) (hf : Rel FloatV vs xs)
    (hl' : s.heap.PlainList b us.toArray) (hf' : Rel FloatV us xs) (hs : ∀ x ∈ xs, Float64.cmp x x = some Ordering.eq) (hu : A.units < cLine) (h : Q (.bool false) s) : wpAny (model prog w') A (compareOp .NotEq (.ref a) (.ref b)) Q E s := by
  have e1 := hf.1
  have e2 := hf'.1
  have q := RcNeAt.lists (A := A) (e := fun _ => true) (pl_list hl) (pl_list hl') (by simp; omega) hu (fun j h1 h2 => by
    have j1 : j < vs.length := by simpa using h1
    have j2 : j < us.length := by simpa using h2
    have jx : j < xs.length := by omega
    obtain ⟨t, ht, e3⟩ := hf.2 j vs[j] xs[j] (by simp [j1]) (by simp [jx])
    obtain ⟨u, hu', e4⟩ := hf'.2 j us[j] xs[j] (by simp [j2]) (by simp [jx])
    have g1 : vs.toArray[j] = .float xs[j] t := by simpa using e3
    have g2 : us.toArray[j] = .float xs[j] u := by simpa using e4
    rw [g1, g2]
    exact eqAt_float X ht hu' (hs _ (List.getElem_mem ..)))
  refine q prog w' E Q ?_
  rw [List.all_eq_true.mpr (fun _ _ => rfl)]
  exact h
theorem fself8 : ((List.range 10).all fun W => W == 0 || (List.range (W + 1)).all fun a => Float64.cmp (fw W a) (fw W a) == some Ordering.eq) = true := by decide +kernel
theorem wts_self {bs : List Bool} (h0 : bs.length ≤ 8) (h1 : bs[0]? = some true) : ∀ x ∈ (wts bs).1.map (fw (wts bs).2), Float64.cmp x x = some Ordering.eq := by
  intro x hx
  obtain ⟨a, ha, rfl⟩ := List.mem_map.mp hx
  obtain ⟨w1, w2, w3, _⟩ := wts_facts h0 h1
  have := List.all_eq_true.mp fself8 (wts bs).2 (List.mem_range.mpr (by omega))
  rw [Bool.or_eq_true] at this
  rcases this with h | h
  · exact absurd (beq_iff_eq.mp h) (by omega)
  · exact beq_iff_eq.mp (List.all_eq_true.mp h a (List.mem_range.mpr (by have := w3 a ha; omega)))
end Mine
end

section
open PySem PySem.W PySem.Calls PyProof.Rows
set_option Elab.async false
set_option maxRecDepth 100000
set_option maxHeartbeats 8000000
namespace Mine
theorem fillK_LWC : PySem.Challenge.rw_au6018_01 = PySem.Challenge.rw_au6018_01 → hd.heap_39 = hd.heap_39 → True := by
  k_fill
  intro _ _; trivial

theorem seg3 {w : World} {A : Around} {s : Shared} {Q : Flow → Shared → Prop} {E : Value → Shared → Prop} {mg mb} {g : Heap} {L : Nat} {m cm : Str → Option Value} (hA : AOk A 6)
    {name qual : Str} {params : Arguments} {body : List Stmt} {sc : Scope} {dV kV doc pm cdv ct oc : Value} {an od : Option Addr} {osl : Array (Option Value)}
    (ho : (hd.heap_39 w.params).lookup 707 = some ⟨oc, od, .func (fnOf name qual params body sc dV kV doc pm an cdv ct), osl⟩)
    (X : Fc g L sc s.heap m cm) (KX : (hd.heap_39 w.params).In g) (T : TopRead hd.view_39 LOOSE mg mb g)
    {lv : Addr} {V : List Int} {lim : Int} {tn tl : Tok} (hV2 : 2 ≤ V.length) (hV : V.length ≤ 8) (cv : cm (Str.ofString "values") = some (.ref lv)) (cn : cm (Str.ofString "n") = some (.int (V.length : Nat) tn)) (cl : cm (Str.ofString "limit") = some (.int lim tl))
    (IV : IL (DD L sc) s.heap lv V)
    (rest : ∀ h tk r C P', Fc g L sc h (fun y => if y = Str.ofString "told" then some (.ref r) else m y) cm → TL (DD L sc) h r C.reverse → P'.Perm (enumP V) → SoW P' → Peel lim P' C → Mv (DD L sc) s.heap h →
      wpS (model PG w) A (execs (body.drop 8) (envOfC qual sc L 707 cdv)) Q E { s with heap := h, toks := tk }) :
    wpS (model PG w) A (execs (body.drop 6) (envOfC qual sc L 707 cdv)) Q E s := by
  refine' lawfn_eq ?k ho ?h
  case k => k_is
  case h =>
  rintro rfl rfl hsc rfl
  clear ho
  have hnd : ((cellsFrom 0 sc.names []).map (·.1)).Nodup := by rw [hsc]; decide
  subst hsc
  have KXs := kin_keeps KX X.F.keep
  obtain ⟨vvs, ⟨hlvD, hlv⟩, hvi⟩ := IV
  have hvl : vvs.length = V.length := hvi.length
  refine execs_A (wpAny_Assign_Name (CallKw_ ?_))
  refine nameX_K X.F KX T (by k_is) ?_
  refine callWith_KW KX (by k_is) (by rfl) ?_
  refine args_cons (Call_ ?_)
  refine nameX_B X.F KX T (by k_is) (by boot_by_name) (by decide) ?_
  refine cw_type1 ?_
  refine args_cons (ldC X.X (by rfl) cv ?_)
  refine args_nil ?_
  refine pl_copy hlv (by omega) fun h1 D1 k1 hD1 hp1 => ?_
  refine args_nil ?_
  have X1 := X.keeps k1
  refine kws_cons (ldC (s := { s with heap := h1 }) X1.X (by rfl) cl ?_)
  refine kws_cons (wpAny_Constant_bool ?_)
  refine kws_nil ?_
  refine ⟨kin_keeps KX X1.F.keep, wpAny_call ?_⟩
  refine w2cs_spec (s := { s with heap := h1 }) (hA.less (by omega)) (kin_keeps KX X1.F.keep) (T.keeps X1.F.keep) .lab (.list (pl_list hp1) hvi) (by rw [enumP_length]; exact hV2) (by rw [enumP_length]; exact hV) (enumP_nodup V) fun h2 tk2 v P' C k2 hperm hsort hpeel hres => ?_
  dsimp only at k2
  have X2 := X1.keeps k2
  obtain ⟨r, rs, rfl, hpr, hrn, hrel⟩ : ∃ (r : Addr) (rs : List Value), v = .ref r ∧ h2.PlainList r rs.toArray ∧ h1.get? r = none ∧ Rel (TupV [] h2) rs C.reverse := by
    cases hres with
    | lab a b c => exact ⟨_, _, rfl, a, b, c⟩
  have TL2 : TL (DD L _) h2 r C.reverse := ⟨rs, ⟨X1.new hnd hrn, hpr⟩, hrel.mono fun v c ⟨a, t, tt, n, e1, _, e3⟩ => ⟨a, t, tt, n, e1, X2.notDD hnd e3 rfl, e3⟩⟩
  refine stLc (s := { s with heap := h2, toks := tk2 }) X2 (fun h3 X3 mv3 => ?_) rfl (by rfl)
  dsimp only
  obtain ⟨rs3, ⟨hr3D, hpr3⟩, hrel3⟩ := TL2.mv mv3
  have hCl : C.length = V.length := by
    have := (hpeel.perm.trans (hperm.map (·.2))).length_eq
    simpa [enumP_length] using this
  have hrl : rs3.length = V.length := by rw [hrel3.1, List.length_reverse, hCl]
  obtain ⟨k0, hk0⟩ := hpeel.last
  obtain ⟨v0, hv0, a0, t0, tt0, n0, rfl, _, ha0⟩ := hrel3.get hk0
  refine execs_A (wpAny_If ?_)
  refine isTrue_or (isTrue_not (isTrue_plain (Call_ ?_)))
  refine nameX_B (s := { s with heap := h3, toks := _ }) X3.F KX T (by k_is) (by boot_by_name) (by decide) ?_
  refine callWith_method1 ?_
  refine args_cons (ldLoc (s := { s with heap := h3, toks := _ }) X3.F (if_pos rfl) ?_)
  refine args_cons ?_
  refine nameX_B (s := { s with heap := h3, toks := _ }) X3.F KX T (by k_is) (by boot_by_name) (by decide) ?_
  refine args_nil ?_
  refine IsiPair.isList_list (pl_list hpr3) (fun _ _ e => e) ?_
  refine wpAny_truthy_bool ?_
  rw [if_neg (by decide)]
  refine isTrue_or (wpAny_isTrue_Compare1 (Call_ ?_))
  refine nameX_B (s := { s with heap := h3, toks := _ }) X3.F KX T (by k_is) (by boot_by_name) (by decide) ?_
  refine callWith_method1 ?_
  refine args_cons (ldLoc (s := { s with heap := h3, toks := _ }) X3.F (if_pos rfl) ?_)
  refine args_nil ?_
  refine pl_len (s := { s with heap := h3, toks := _ }) hpr3 (by omega) fun t6 => ?_
  refine ldC (s := { s with heap := h3, toks := _ }) X3.X (by rfl) cn ?_
  refine PyProof.Rows.ne_int ?_
  refine wpAny_truthy_bool ?_
  rw [hrl, bne_self_eq_false, if_neg (by decide)]
  refine isTrue_or (wpAny_isTrue_Compare1 (Subscript_ (Subscript_ (ldLoc (s := { s with heap := h3, toks := _ }) X3.F (if_pos rfl) ?_))))
  refine wpAny_Constant_int ?_
  refine pl_item (s := { s with heap := h3, toks := _ }) hpr3 (by omega) (by omega) hv0 ?_
  refine wpAny_Constant_int ?_
  have ht0 : IsTup h3 a0 [Value.int k0 t0, Value.str (letS true) tt0].toArray := ⟨_, ha0, rfl, n0, rfl⟩
  refine tup_item (s := { s with heap := h3, toks := _ }) ht0 (by omega) (by omega) rfl ?_
  refine wpAny_Constant_str ?_
  refine (SeqAt.RcNeAt.str_str (letS true) tt0 (Str.ofString "d") _) PG w E _ ?_
  refine wpAny_truthy_bool ?_
  rw [show (!(letS true == Str.ofString "d")) = false by decide, if_neg (by decide)]
  refine isTrue_or_nil ?_
  rw [if_neg (by decide)]
  refine wpAny_execs_nil ?_
  dsimp only
  exact rest h3 _ r C P' X3 (TL2.mv mv3) hperm hsort hpeel ((Mv.keep fun b o e => k2 b o (k1 b o e)).trans mv3)
end Mine
end

section
open PySem PySem.W PySem.Calls PyProof.Rows
set_option Elab.async false
set_option maxRecDepth 100000
set_option maxHeartbeats 8000000
namespace Mine
theorem fillK_LWD : PySem.Challenge.rw_au6018_01 = PySem.Challenge.rw_au6018_01 → hd.heap_39 = hd.heap_39 → True := by
  k_fill
  intro _ _; trivial
abbrev idxs (n : Nat) : List Int := (List.range n).map fun (i : Nat) => (i : Int)
theorem idxs_nodup (n : Nat) : (idxs n).Nodup := by
  unfold idxs List.Nodup
  rw [List.pairwise_map]
  exact List.nodup_range.imp fun h e => h (by omega)
theorem enumP_zip (V : List Int) : enumP V = V.zip (idxs V.length) := by
  refine List.ext_getElem (by simp [enumP, idxs]) fun i h1 h2 => ?_
  simp [enumP, idxs]

theorem seg4 {w : World} {e₀ : Env} {s : Shared} {Q : Flow → Shared → Prop} {E : Value → Shared → Prop} {mean mg mb} {g base : Heap} {L : Nat} {m cm : Str → Option Value}
    {name qual : Str} {params : Arguments} {body : List Stmt} {sc : Scope} {dV kV doc pm cdv ct oc : Value} {an od : Option Addr} {osl : Array (Option Value)}
    (ho : (hd.heap_39 w.params).lookup 707 = some ⟨oc, od, .func (fnOf name qual params body sc dV kV doc pm an cdv ct), osl⟩) (he₀ : e₀ = envOfC qual sc L 707 cdv)
    (X : Fc g L sc s.heap m cm) (KX : (hd.heap_39 w.params).In g) (T : Top hd.view_39 LOOSE mean mg mb g) (B : Below callerA base [] g)
    {r lr : Addr} {V : List Int} {lim : Int} {tn : Tok} {C : List (Int × Bool)} {P' : List (Int × Int)} (hV2 : 2 ≤ V.length) (hV : V.length ≤ 8) (cn : cm (Str.ofString "n") = some (.int (V.length : Nat) tn))
    (mt : m (Str.ofString "told") = some (.ref r)) (mr : m (Str.ofString "near") = some (.ref lr)) (TLr : TL (DD L sc) s.heap r C.reverse) (NLr : NL (DD L sc) s.heap lr (nearOf V lim))
    (hperm : P'.Perm (enumP V)) (hsort : SoW P') (hpeel : Peel lim P' C) (hev : ∀ v ∈ V, v % 2 = 0) (hodd : lim % 2 = 1)
    (rest : ∀ h tk, Fc g L sc h m cm → Mv (DD L sc) s.heap h → wpS (model PG w) (callerA.deeper e₀) (execs (body.drop 9) (envOfC qual sc L 707 cdv)) Q E { s with heap := h, toks := tk }) :
    wpS (model PG w) (callerA.deeper e₀) (execs (body.drop 8) (envOfC qual sc L 707 cdv)) Q E s := by
  refine' lawfn_eq ?k ho ?h
  case k => k_is
  case h =>
  rintro rfl rfl hsc rfl
  clear ho
  have hnd : ((cellsFrom 0 sc.names []).map (·.1)).Nodup := by rw [hsc]; decide
  subst hsc
  have KXs := kin_keeps KX X.F.keep
  have T' := topRead_of T
  have Ts := T.keeps X.F.keep
  have Bs : Below (callerA.deeper e₀) base [e₀] s.heap := by subst he₀; exact pushX B X.F rfl rfl
  have hA : AOk (callerA.deeper e₀) 20 := ⟨by show callerA.depth + 1 + 20 < 1000; decide, rfl, by show callerA.units + 3 + 3 * 20 + 30 < 9900; decide⟩
  obtain ⟨rvs, ⟨hrD, hpr⟩, hrr⟩ := TLr
  obtain ⟨nvs, ⟨hlD, hpl⟩, hnr⟩ := NLr
  have hz : (V.zip (idxs V.length)).map (·.2) = idxs V.length := by rw [List.map_snd_zip]; simp [idxs]
  have hCp : (C.map (·.1)).Perm (idxs V.length) := hpeel.perm.trans ((hperm.map _).trans (by rw [enumP_zip, hz]))
  have hCl : C.length = V.length := by simpa [idxs] using hCp.length_eq
  have hCn : (C.reverse.map (·.1)).Nodup := by rw [List.map_reverse]; exact ((List.reverse_perm _).trans hCp).nodup_iff.mpr (idxs_nodup _)
  have hrl : rvs.length = V.length := by rw [hrr.1, List.length_reverse, hCl]
  obtain ⟨hkeys, hadj⟩ := peel_law (V := V) (ns := idxs V.length) (by simp [idxs]) (idxs_nodup _) (by rw [← enumP_zip]; exact hperm) hsort hpeel hev hodd
  refine execs_S (If_S (not_S (plain_S (Call_S ?_))))
  refine nameX_K X.F KX T' (by k_is) ?_
  refine callWith_KS (K := hd.heap_39 w.params) (by k_is) ?_
  refine args_S (.of (Call_ ?_))
  refine nameX_K X.F KX T' (by k_is) ?_
  refine callWith_K KX (by k_is) ?_
  refine args_cons (Call_ ?_)
  refine nameX_B X.F KX T' (by k_is) (by boot_by_name) (by decide) ?_
  refine cw_type1 ?_
  refine args_cons (ldLoc X.F mt ?_)
  refine args_nil ?_
  refine pl_copy hpr (by omega) fun h1 D1 k1 hD1 hp1 => ?_
  refine args_nil ?_
  have X1 := X.keeps k1
  refine ⟨kin_keeps KX X1.F.keep, wpAny_call ?_⟩
  refine threshold_graph_spec (s := { s with heap := h1 }) (kin_keeps KX X1.F.keep) (T.keeps X1.F.keep) (by subst he₀; exact pushX B X1.F rfl rfl) hp1 (hrr.mono fun v c ⟨a, t, tt, n, e1, e2, e3⟩ => ⟨a, t, tt, n, e1, e2, k1 _ _ e3⟩) (by simp; omega) (by simp; omega) hCn fun a h2 tk2 k2 Rg fpn => ?_
  dsimp only at k2 fpn ⊢
  have X2 := X1.keeps k2
  refine args_S (.of (Call_ ?_))
  refine nameX_B (s := { s with heap := h2, toks := _ }) X2.F KX T' (by k_is) (by boot_by_name) (by decide) ?_
  refine cw_type1 ?_
  refine args_cons (Call_ ?_)
  refine nameX_B (s := { s with heap := h2, toks := _ }) X2.F KX T' (by k_is) (by boot_by_name) (by decide) ?_
  refine cw_type1 ?_
  refine args_cons (ldC (s := { s with heap := h2, toks := _ }) X2.X (by rfl) cn ?_)
  refine args_nil ?_
  refine call_range_1 ?_
  refine args_nil ?_
  dsimp only
  generalize hH3 : h2.push _ = h3
  have k3 : ∀ b o, h2.get? b = some o → h3.get? b = some o := fun b o e => by rw [← hH3]; exact Heap.get?_push_of_some _ e
  refine range_list (s := { s with heap := h3, toks := _ }) (n := V.length) rfl (by rw [← hH3]; exact IsRange.new _ _ _ _ _ _ _) (by omega) fun h4 nl tk4 nlv k4 hnl hpnl hinl => ?_
  dsimp only at k4 hnl ⊢
  have k24 : ∀ b o, h2.get? b = some o → h4.get? b = some o := fun b o e => k4 b o (k3 b o e)
  have X4 := X2.keeps k24
  have R4 : GR w a (tgraph C.reverse) h4 := Rg.mv fun b o _ e => k24 b o e
  have k04 : ∀ b o, s.heap.get? b = some o → h4.get? b = some o := fun b o e => k24 b o (k2 b o (k1 b o e))
  refine args_S (.of (ldLoc (s := { s with heap := h4, toks := _ }) X4.F mr ?_))
  refine .of (args_nil ?_)
  refine ⟨kin_keeps KX X4.F.keep, wpS_call ?_⟩
  have hdx : h1.get? a.dx = none := fpn _ (by simp [GA.fp])
  refine law_is_spec (s := { s with heap := h4, toks := _ }) (ns := idxs V.length) (near := nearOf V lim) hA (Fr.sub X4.F) KX T' R4 (X1.gnone hdx) (R4.nomods _ (by simp [GA.dp])) hpnl hinl (pl_keep hpl k04)
    (hnr.mono fun v l ⟨b, us, e1, e2, e3⟩ => ⟨b, us, e1, pl_keep e2.2 k04, e3⟩) (by rw [nearOf_len]; simp [idxs]) (by simp [idxs]; exact hV) hkeys hadj (by
      intro l hl
      have := nearOf_small V lim hV l hl
      refine ⟨this.1, fun b hb => ?_⟩
      have := this.2 b hb
      simpa [idxs] using this) fun h5 tk5 k5 hz5 => ?_
  dsimp only at k5 hz5 ⊢
  have hdxn : s.heap.get? a.dx = none := none_back k1 hdx
  have k05 : ∀ b o, s.heap.get? b = some o → h5.get? b = some o := fun b o e => k5 b o (fun q => by rw [q, hdxn] at e; cases e) (k04 b o e)
  refine .of (wpAny_truthy_bool ?_)
  rw [if_neg (by decide)]
  refine .of (wpAny_execs_nil ?_)
  dsimp only
  exact rest h5 tk5 (X.keeps k05) (Mv.keep k05)
end Mine
end

section
open PySem PySem.W PySem.Calls PyProof.Rows
set_option Elab.async false
set_option maxRecDepth 100000
set_option maxHeartbeats 8000000
namespace Mine
theorem fillK_LWE : PySem.Challenge.rw_au6018_01 = PySem.Challenge.rw_au6018_01 → hd.heap_39 = hd.heap_39 → True := by
  k_fill
  intro _ _; trivial

theorem seg5 {w : World} {A : Around} {s : Shared} {Q : Flow → Shared → Prop} {E : Value → Shared → Prop} {mg mb} {g : Heap} {L : Nat} {m cm : Str → Option Value} (hA : AOk A 20)
    {name qual : Str} {params : Arguments} {body : List Stmt} {sc : Scope} {dV kV doc pm cdv ct oc : Value} {an od : Option Addr} {osl : Array (Option Value)}
    (ho : (hd.heap_39 w.params).lookup 707 = some ⟨oc, od, .func (fnOf name qual params body sc dV kV doc pm an cdv ct), osl⟩)
    (X : Fc g L sc s.heap m cm) (KX : (hd.heap_39 w.params).In g) (T : TopRead hd.view_39 LOOSE mg mb g)
    {lv r : Addr} {V : List Int} {lim : Int} {tl : Tok} {C : List (Int × Bool)} {P' : List (Int × Int)} (hV2 : 2 ≤ V.length) (hV : V.length ≤ 8) (cv : cm (Str.ofString "values") = some (.ref lv)) (cl : cm (Str.ofString "limit") = some (.int lim tl))
    (mt : m (Str.ofString "told") = some (.ref r)) (TLr : TL (DD L sc) s.heap r C.reverse)
    (IV : IL (DD L sc) s.heap lv V) (hperm : P'.Perm (enumP V)) (hsort : SoW P') (hpeel : Peel lim P' C)
    (rest : ∀ h tk lt, Fc g L sc h (fun y => if y = Str.ofString "letters" then some (.ref lt) else m y) cm → Mv (DD L sc) s.heap h →
      wpS (model PG w) A (execs (body.drop 12) (envOfC qual sc L 707 cdv)) Q E { s with heap := h, toks := tk }) :
    wpS (model PG w) A (execs (body.drop 9) (envOfC qual sc L 707 cdv)) Q E s := by
  refine' lawfn_eq ?k ho ?h
  case k => k_is
  case h =>
  rintro rfl rfl hsc rfl
  clear ho
  have hnd : ((cellsFrom 0 sc.names []).map (·.1)).Nodup := by rw [hsc]; decide
  subst hsc
  have hCl : C.length = V.length := by
    have := (hpeel.perm.trans (hperm.map (·.2))).length_eq
    simpa [enumP_length] using this
  obtain ⟨rvs, ⟨hrD, hpr⟩, hrr⟩ := TLr
  have hrl : rvs.length = V.length := by rw [hrr.1, List.length_reverse, hCl]
  have hr64 : @LT.lt Nat _ r s.heap.objs.size := plt_lt hpr
  refine execs_A ?_
  refine asgX (g := g) (m := m) (cm := cm) (cl := []) hnd stored_L (by rfl) (by rfl) rfl (by decide) (by decide) ?_
  refine ldLoc X.F mt ?_
  refine wpAny_pyIter_list (pl_list hpr) ?_
  have XI := X.push (listIt r)
  have hIn : s.heap.get? s.heap.objs.size = none := none_ge (Nat.le_refl _)
  refine ⟨_, _, _, [s.heap.objs.size], csrc_snd (by exact hA.2.1) (pl_list hpr) hrr (by simp; omega) rfl (by rfl) (by decide), XI, fun b hb => by rw [List.mem_singleton.mp hb]; exact ⟨X.gnone hIn, X.new hnd hIn⟩, fun h1 ys hf => hf.1, ?_⟩
  rintro D h1 ys h2 tk2 hD hy ⟨hk1, hlen, hel⟩ _ X2 P2 mv2
  dsimp only at mv2 ⊢
  have hys : Rel StrV ys (C.reverse.map (·.2)) := by
    refine ⟨by rw [hlen, List.size_toArray, List.length_map, hrr.1], fun j y b hj hb => ?_⟩
    obtain ⟨c, hc, hs⟩ := hel j y hj
    rw [List.getElem?_map, hc] at hb
    cases hb
    exact hs
  have mv02 : Mv (DD L _) s.heap h2 := fun b o hb e => mv2 b o (fun q => by
    rcases List.mem_append.mp q with q | q
    · rw [List.mem_singleton.mp q, hIn] at e; cases e
    · exact hb q) (Heap.get?_push_of_some _ e)
  have IV2 := IV.mv mv02
  obtain ⟨vvs, ⟨hlvD, hlv⟩, hvi⟩ := IV2
  have hvl : vvs.length = V.length := hvi.length
  refine execs_A (wpAny_If (wpAny_isTrue_Compare1 (CallKw_ ?_)))
  refine nameX_K (s := { s with heap := h2, toks := _ }) X2.F KX T (by k_is) ?_
  refine callWith_KW KX (by k_is) (by rfl) ?_
  refine args_cons (Call_ ?_)
  refine nameX_B (s := { s with heap := h2, toks := _ }) X2.F KX T (by k_is) (by boot_by_name) (by decide) ?_
  refine cw_type1 ?_
  refine args_cons (ldC (s := { s with heap := h2, toks := _ }) X2.X (by rfl) cv ?_)
  refine args_nil ?_
  refine pl_copy (s := { s with heap := h2, toks := _ }) hlv (by omega) fun h3 D3 k3 hD3 hp3 => ?_
  refine args_nil ?_
  dsimp only at k3
  have X3 := X2.keeps k3
  refine kws_cons (ldC (s := { s with heap := h3, toks := _ }) X3.X (by rfl) cl ?_)
  refine kws_nil ?_
  refine ⟨kin_keeps KX X3.F.keep, wpAny_call ?_⟩
  refine w2cs_spec (s := { s with heap := h3, toks := _ }) (hA.less (by omega)) (kin_keeps KX X3.F.keep) (T.keeps X3.F.keep) .plain (.list (pl_list hp3) hvi) (by rw [enumP_length]; exact hV2) (by rw [enumP_length]; exact hV) (enumP_nodup V) fun h4 tk4 v4 P4 C4 k4 hperm4 hsort4 hpeel4 hres4 => ?_
  dsimp only at k4 ⊢
  obtain rfl : P4 = P' := sorted_unique hsort4 hsort (hperm4.trans hperm.symm)
  obtain rfl : C4 = C := hpeel4.det hpeel
  obtain ⟨r4, rs4, rfl, hpr4, hrel4⟩ : ∃ (r : Addr) (rs : List Value), v4 = .ref r ∧ h4.PlainList r rs.toArray ∧ Rel StrV rs (C4.reverse.map (·.2)) := by
    cases hres4 with
    | plain a b c => exact ⟨_, _, rfl, a, c⟩
  have X4 := X3.keeps k4
  have P4' := (P2.mv (Mv.keep k3)).mv (Mv.keep k4)
  refine ldLoc (s := { s with heap := h4, toks := tk4 }) X4.F (if_pos rfl) ?_
  refine ne_letters (s := { s with heap := h4, toks := tk4 }) hpr4 hrel4 P4'.2 hys (by have := hA.2.2; show A.units < 9900; omega) ?_
  refine wpAny_truthy_bool ?_
  rw [if_neg (by decide)]
  refine wpAny_execs_nil ?_
  dsimp only
  have IV4 : IL (DD L _) h4 lv V := IL.mv ⟨vvs, ⟨hlvD, hlv⟩, hvi⟩ (Mv.keep fun b o e => k4 b o (k3 b o e))
  obtain ⟨vvs4, ⟨hlvD4, hlv4⟩, hvi4⟩ := IV4
  have hvl4 : vvs4.length = V.length := hvi4.length
  refine execs_A (wpAny_If (wpAny_isTrue_Compare1 (CallKw_ ?_)))
  refine nameX_K (s := { s with heap := h4, toks := _ }) X4.F KX T (by k_is) ?_
  refine callWith_KW KX (by k_is) (by rfl) ?_
  refine args_cons (Call_ ?_)
  refine nameX_B (s := { s with heap := h4, toks := _ }) X4.F KX T (by k_is) (by boot_by_name) (by decide) ?_
  refine cw_type1 ?_
  refine args_cons (ldC (s := { s with heap := h4, toks := _ }) X4.X (by rfl) cv ?_)
  refine args_nil ?_
  refine pl_copy (s := { s with heap := h4, toks := _ }) hlv4 (by omega) fun h5 D5 k5 hD5 hp5 => ?_
  refine args_nil ?_
  dsimp only at k5
  have X5 := X4.keeps k5
  refine kws_cons (ldC (s := { s with heap := h5, toks := _ }) X5.X (by rfl) cl ?_)
  refine kws_cons (wpAny_Constant_bool ?_)
  refine kws_nil ?_
  refine ⟨kin_keeps KX X5.F.keep, wpAny_call ?_⟩
  refine w2cs_spec (s := { s with heap := h5, toks := _ }) (hA.less (by omega)) (kin_keeps KX X5.F.keep) (T.keeps X5.F.keep) .com (.list (pl_list hp5) hvi4) (by rw [enumP_length]; exact hV2) (by rw [enumP_length]; exact hV) (enumP_nodup V) fun h6 tk6 v6 P6 C6 k6 hperm6 hsort6 hpeel6 hres6 => ?_
  dsimp only at k6 ⊢
  obtain rfl : P6 = P4 := sorted_unique hsort6 hsort (hperm6.trans hperm.symm)
  obtain rfl : C6 = C4 := hpeel6.det hpeel
  obtain ⟨r6, rs6, rfl, hpr6, hrel6⟩ : ∃ (r : Addr) (rs : List Value), v6 = .ref r ∧ h6.PlainList r rs.toArray ∧ IntsAre rs (runsOf (C6.reverse.map (·.2))) := by
    cases hres6 with
    | com a b c => exact ⟨_, _, rfl, a, c⟩
  have X6 := X5.keeps k6
  have P6' := (P4'.mv (Mv.keep k5)).mv (Mv.keep k6)
  refine Call_ ?_
  refine nameX_K (s := { s with heap := h6, toks := tk6 }) X6.F KX T (by k_is) ?_
  refine callWith_K KX (by k_is) ?_
  refine args_cons (ldLoc (s := { s with heap := h6, toks := tk6 }) X6.F (if_pos rfl) ?_)
  refine args_nil ?_
  refine ⟨kin_keeps KX X6.F.keep, wpAny_call ?_⟩
  refine law_runs_spec (s := { s with heap := h6, toks := tk6 }) (hA.less (by omega)) (kin_keeps KX X6.F.keep) (T.keeps X6.F.keep) P6'.2 hys (by simp; omega) (by simp; omega) fun h7 tk7 r7 rs7 k7 hrn7 hp7 hi7 => ?_
  dsimp only at k7 ⊢
  refine ne_intsK (s := { s with heap := h7, toks := tk7 }) (pl_list (pl_keep hpr6 k7)) hrel6 (pl_list hp7) hi7 (by have := hA.2.2; show A.units + 64 < 9900; omega) ?_
  rw [decide_eq_true rfl]
  refine wpAny_truthy_bool ?_
  rw [if_neg (by decide)]
  refine wpAny_execs_nil ?_
  dsimp only
  have k27 : ∀ b o, h2.get? b = some o → h7.get? b = some o := fun b o e => k7 b o (k6 b o (k5 b o (k4 b o (k3 b o e))))
  exact rest h7 _ D (X2.keeps k27) (mv02.trans (Mv.keep k27))
end Mine
end

section
open PySem PySem.W PySem.Calls PyProof.Rows
set_option Elab.async false
set_option maxRecDepth 100000
set_option maxHeartbeats 8000000
namespace Mine
theorem fillK_LWF : PySem.Challenge.rw_au6018_01 = PySem.Challenge.rw_au6018_01 → hd.heap_39 = hd.heap_39 → True := by
  k_fill
  intro _ _; trivial
theorem stored_in_order {FK : Value → Int → Prop} {FV : Value → Value → Prop} {kf vf : Nat → Int} (hinj : ∀ i j, i < j → kf i ≠ kf j → True) {l : List Value} {kvs : List (Int × Value)} (h : StoredAll FK FV l kvs) :
    ∀ N, (∀ (i : Nat), i < N → ∀ j, j < i → kf j ≠ kf i) → l.length ≤ N → (∀ (j : Nat) (v : Value), l[j]? = some v → (∀ k, FK v k → k = kf j) ∧ ∀ y, FV v y → ∃ t, y = .int (vf j) t) →
      kvs.length = l.length ∧ ∀ (j : Nat) (k : Int) (v : Value), kvs[j]? = some (k, v) → k = kf j ∧ ∃ t, v = .int (vf j) t := by
  induction h with
  | nil => intro N _ _ _; exact ⟨rfl, fun j k v e => by simp at e⟩
  | @snoc l kvs v k y _ hk hy ih =>
    intro N hN hl hall
    rw [List.length_append, List.length_singleton] at hl
    obtain ⟨i1, i2⟩ := ih N hN (by omega) fun j u e => hall j u (by rw [List.getElem?_append_left (List.getElem?_eq_some_iff.mp e).1]; exact e)
    obtain ⟨a1, a2⟩ := hall l.length v (by simp)
    obtain rfl := a1 k hk
    obtain ⟨t, rfl⟩ := a2 y hy
    have hst : stored kvs (kf l.length) (.int (vf l.length) t) = kvs ++ [(kf l.length, .int (vf l.length) t)] := by
      unfold stored
      rw [if_neg]
      intro hc
      obtain ⟨p, hp, hq⟩ := List.any_eq_true.mp hc
      obtain ⟨j, hj⟩ := List.getElem?_of_mem hp
      have hjl : j < l.length := by rw [← i1]; exact (List.getElem?_eq_some_iff.mp hj).1
      obtain ⟨e1, _⟩ := i2 j p.1 p.2 hj
      have e2 : p.1 = kf l.length := of_decide_eq_true hq
      exact hN l.length (by omega) j hjl (e1.symm.trans e2)
    rw [hst]
    refine ⟨by simp [i1], fun j k' v' e => ?_⟩
    rcases Nat.lt_or_ge j kvs.length with hlt | hge
    · rw [List.getElem?_append_left hlt] at e; exact i2 j k' v' e
    · rw [List.getElem?_append_right hge] at e
      cases q : j - kvs.length with
      | zero =>
        rw [q] at e
        simp only [List.getElem?_cons_zero, Option.some.injEq, Prod.mk.injEq] at e
        obtain ⟨rfl, rfl⟩ := e
        have : j = l.length := by omega
        subst this
        exact ⟨rfl, t, rfl⟩
      | succ z => rw [q] at e; simp at e

section
variable {prog : Program} {w : World} {A : Around} {E : Value → Shared → Prop} {s : Shared} {name : Str} {sc : Scope} {L f : Addr} {cd : Value} {g : Heap} {m cm mg mb : Str → Option Value} {K : Frag} {p : Program} {loose : List Str}
theorem asg_dict {kx vx nexpr : Expr} {cscope : Scope} {cl : List (Str × Addr)} {m' cm' : Value → Str → Option Value} {pos py spos q p1 p2 : Pos} {y x : Str} {Q : Flow → Shared → Prop} {n : Nat} {tn : Tok} (kf vf : Nat → Int) (hinj : ∀ i, i < n → ∀ j, j < i → kf j ≠ kf i) (hh : A.handled = none)
    (X : Fc g L sc s.heap m cm) (KX : K.In g) (T : TopRead p loose mg mb g) (hnd : ((cellsFrom 0 sc.names []).map (·.1)).Nodup)
    (e : PySem.W.nsIn K mainGlobals (Str.ofString "range") = some none) (hv : bootBuiltins (Str.ofString "range") = some (.type "range")) (hn : n ≤ 1000)
    (hne : ∀ (Q : Value → Shared → Prop), Q (.int (n : Nat) tn) s → wpAny (model prog w) A (eval nexpr (envOfC name sc L f cd)) Q E s)
    (hst : Stored prog w A g L sc (envOfC name sc L f cd) y m cm m' cm')
    (hsw : swapsWith (.DictComp kx vx [⟨.Name x q, .Call (.Name (Str.ofString "range") p1) [nexpr] [] p2, [], 0⟩] cscope pos) (some (.Name y py)) spos.line (envOfC name sc L f cd) = pure true)
    (hclos : closureFor cscope (envOfC name sc L f cd) = pure cl) (hck : cscope.kind = .function) (hnames : ∀ x ∈ cscope.names, x.2 = .local → cscope.names.lookup x.1 = some .local) (hcell : ∀ y ∈ cscope.names, y.2 ≠ .cell)
    (hk : sc.kind = .function) (hx : (envOfC name sc L f cd).kindOf (Str.ofString "range") = some .globalImplicit) (hxl : cscope.names.lookup x = some .local)
    (he : eval (.Call (.Name (Str.ofString "range") p1) [nexpr] [] p2) (envOfC name sc L f cd) = (do callWith p2 (← eval (.Name (Str.ofString "range") p1) (envOfC name sc L f cd)) [] (backTo p2 (starEach [nexpr] (envOfC name sc L f cd))) (backToKw p2 (keywordEach [] (envOfC name sc L f cd)))))
    (he1 : starEach [nexpr] (envOfC name sc L f cd) = (false, eval nexpr (envOfC name sc L f cd)) :: starEach [] (envOfC name sc L f cd))
    (hs : ∀ z, foldedSetIterable (.Call (.Name (Str.ofString "range") p1) [nexpr] [] p2) (envOfC name sc L f cd) z = pure z)
    (hkx : ∀ C i t (s₂ : Shared) mc (Q : Value → Shared → Prop) (E' : Value → Shared → Prop), i < n → s₂.heap.Ns C mc → mc x = some (.int (i : Nat) t) → (∀ b o, s.heap.get? b = some o → s₂.heap.get? b = some o) →
      (∀ tk' t', Q (.int (kf i) t') { s₂ with toks := tk' }) → wpAny (model prog w) A (eval kx (compEnvC cscope cl C (envOfC name sc L f cd))) Q E' s₂)
    (hvx : ∀ C i t (s₂ : Shared) mc (Q : Value → Shared → Prop) (E' : Value → Shared → Prop), i < n → s₂.heap.Ns C mc → mc x = some (.int (i : Nat) t) → (∀ b o, s.heap.get? b = some o → s₂.heap.get? b = some o) →
      (∀ tk' t', Q (.int (vf i) t') { s₂ with toks := tk' }) → wpAny (model prog w) A (eval vx (compEnvC cscope cl C (envOfC name sc L f cd))) Q E' s₂)
    (h : ∀ h₄ D tk kvs, @LT.lt Nat _ s.heap.objs.size D → Fc g L sc h₄ (m' (.ref D)) (cm' (.ref D)) → h₄.DictOf (intKind prog w) D kvs → kvs.length = n → (∀ (j : Nat) (k : Int) (v : Value), kvs[j]? = some (k, v) → k = kf j ∧ ∃ t, v = .int (vf j) t) → Mv (DD L sc) s.heap h₄ → Q .next { s with heap := h₄, toks := tk }) :
    wpAny (model prog w) A (exec (.Assign [.Name y py] (.DictComp kx vx [⟨.Name x q, .Call (.Name (Str.ofString "range") p1) [nexpr] [] p2, [], 0⟩] cscope pos) spos) (envOfC name sc L f cd)) Q E s := by
  rw [exec_Assign_Name_used _ _ _ _ hsw]
  refine wpAny_bind (wpAny_standAt (wpAny_bind ?_))
  show wpAny _ A (do let _ ← comprehension (.DictComp kx vx [⟨.Name x q, .Call (.Name (Str.ofString "range") p1) [nexpr] [] p2, [], 0⟩] cscope pos) cscope (envOfC name sc L f cd) _ newDict false (eval (.Call (.Name (Str.ofString "range") p1) [nexpr] [] p2) (envOfC name sc L f cd)) (some (assign (.Name y py) (envOfC name sc L f cd)))) _ _ s
  refine wpAny_bind (wpAny_mono (wpAny_comprehension_free (use := some (assign (.Name y py) (envOfC name sc L f cd))) (Q := fun _ s' => Q .next s') rfl hs hclos hck hnames
    (range_it X.F KX T e hv hn hne hk hx rfl rfl he he1 fun H I tkH kH hI hH hit => ?_)) (fun _ s' hq => wpAny_pure (wpAny_pure hq)) fun _ _ e => e)
  have XH := X.keeps kH
  have hIn : s.heap.get? I = none := none_ge hI
  have hfp : ∀ b : Nat, b ∈ [I] → @LT.lt Nat _ b H.objs.size := fun b hb => by rw [List.mem_singleton.mp hb, hH]; exact Nat.lt_succ_self _
  refine wpAny_newObj_type (wpAny_newFunctionEnv hcell (by intro y hy; simp at hy) (fun h₁ hns₁ hsb₁ => ?_) hck)
  dsimp only at hns₁ hsb₁ ⊢
  have hnew : (H.push { cls := .type "dict", dict := none, data := .dict #[] }).DictOf (intKind prog w) H.objs.size [] := Heap.DictOf.new H
  generalize hH2 : H.push { cls := .type "dict", dict := none, data := .dict #[] } = H2 at hns₁ hsb₁ hnew ⊢
  have hC : H2.objs.size = H.objs.size + 1 := by rw [← hH2, Heap.size_push]
  have hDC : @Ne Nat H.objs.size H2.objs.size := by omega
  have old : ∀ b o, H.get? b = some o → h₁.get? b = some o := fun b o e =>
    hsb₁.extBut b o (by have : @LT.lt Nat _ b H.objs.size := Heap.lt_size e; show @Ne Nat _ _; omega) (Heap.get?_push_of_some _ (hH2 ▸ Heap.get?_push_of_some _ e))
  have hacc : h₁.DictOf (intKind prog w) H.objs.size [] := hnew.at fun o e => hsb₁.extBut _ _ hDC (Heap.get?_push_of_some _ e)
  have hSI : @LE.le Nat _ s.heap.objs.size I := hI
  have up : ∀ (h : Heap), (∀ b o, b ≠ H2.objs.size → b ∉ [I] → b ≠ H.objs.size → h₁.get? b = some o → h.get? b = some o) → ∀ b o, s.heap.get? b = some o → h.get? b = some o := fun h hk b o e => by
    have hb : @LT.lt Nat _ b s.heap.objs.size := Heap.lt_size e
    exact hk b o (by show @Ne Nat _ _; omega) (by rw [List.mem_singleton]; show @Ne Nat _ _; omega) (by show @Ne Nat _ _; omega) (old b o (kH b o e))
  have loop : codeAny (model prog w) A (.compLoop (.DictComp kx vx [⟨.Name x q, .Call (.Name (Str.ofString "range") p1) [nexpr] [] p2, [], 0⟩] cscope pos) 0 (.ref I) (.ref H.objs.size) (compEnvC cscope cl H2.objs.size (envOfC name sc L f cd)))
        (compPost (model prog w) A E (some (assign (.Name y py) (envOfC name sc L f cd))) (fun _ s' => Q .next s') (.ref H.objs.size) H2.objs.size) { s with heap := h₁, toks := tkH + ([] : List (Str × Value)).length } := by
    refine codeAny_compLoop_walkD (hsz := by rw [sizeLine_eq]; omega) (knd := intKind prog w) (cenv := compEnvC cscope cl H2.objs.size (envOfC name sc L f cd)) (Walks.range hh I 0 1 n).bound (fun _ => true)
      (fun v k => ∃ (i : Nat) (t : Tok), v = .int (i : Int) t ∧ k = kf i) (fun v y => ∃ (i : Nat) (t u : Tok), v = .int (i : Int) t ∧ y = .int (vf i) u)
      (lookup_relabel_local hxl) (by simp [compEnvC, relabel, hck]) hDC (by rw [List.mem_singleton]; show @Ne Nat _ _; omega) (by rw [List.mem_singleton]; show @Ne Nat H2.objs.size I; omega) (old _ _ hit) hacc hns₁ ?_ ?_ ?_ ?_
    · rintro i v s₂ m₂ hP hn₂ hm₂ hk₂
      exact wpAny_tests_nil ⟨rfl, s₂.heap, s₂.toks, rfl, fun _ _ e => e⟩
    · rintro i v s₂ m₂ ⟨hi, t, rfl⟩ _ hn₂ hm₂ hk₂
      have e0 : (0 : Int) + (i : Int) * 1 = (i : Nat) := by omega
      rw [e0] at hm₂
      refine hkx _ i t s₂ m₂ _ _ hi hn₂ hm₂ (up s₂.heap hk₂) fun tk' t' => ⟨⟨kf i, intKind_is _ _ _ _, i, t, by rw [e0], rfl⟩, s₂.heap, tk', rfl, fun _ _ e => e⟩
    · rintro i v s₂ m₂ ⟨hi, t, rfl⟩ _ hn₂ hm₂ hk₂
      have e0 : (0 : Int) + (i : Int) * 1 = (i : Nat) := by omega
      rw [e0] at hm₂
      refine hvx _ i t s₂ m₂ _ _ hi hn₂ hm₂ (up s₂.heap hk₂) fun tk' t' => ⟨⟨i, t, t', by rw [e0], rfl⟩, s₂.heap, tk', rfl, fun _ _ e => e⟩
    · intro h5 tk5 m5 kvs vs5 hn5 hd5 hlen5 hP5 hS5 hk5
      rw [List.filter_eq_self.mpr (fun _ _ => rfl)] at hS5
      obtain ⟨q1, q2⟩ := stored_in_order (kf := kf) (vf := vf) (fun _ _ _ _ => trivial) hS5 n hinj (by omega) fun j v hj => by
        obtain ⟨hjn, t, rfl⟩ := hP5 j v hj
        have e0 : (0 : Int) + (j : Int) * 1 = (j : Nat) := by omega
        rw [e0]
        refine ⟨fun k ⟨i, t2, e1, e2⟩ => ?_, fun y ⟨i, t2, u, e1, e2⟩ => ?_⟩
        · injection e1 with e1 _
          have : i = j := by omega
          rw [e2, this]
        · injection e1 with e1 _
          have : i = j := by omega
          exact ⟨u, by rw [e2, this]⟩
      have k05 := up h5 hk5
      show wpAny _ A (assign (.Name y py) (envOfC name sc L f cd) (.ref H.objs.size)) _ _ _
      refine wpAny_assign_Name ?_
      have X5 : Fc g L sc h5 m cm := X.keeps k05
      have hCn : H2.objs.size ∉ DD L sc := X.new hnd (none_ge (by show @LE.le Nat _ _ _; omega))
      have hDn : H.objs.size ∉ DD L sc := X.new hnd (none_ge (by show @LE.le Nat _ _ _; omega))
      refine hst _ _ _ _ X5 fun h6 tk6 X6 mv6 => ⟨m5, hn5.at' fun o e => mv6 _ o hCn e, fun h7 hs7 => ?_⟩
      have mv7 : Mv [H2.objs.size] h6 h7 := Mv.same hs7 (by simp)
      refine h h7 H.objs.size tk6 kvs (by show @LT.lt Nat _ _ _; omega) (X6.mvNew mv7 fun b hb => by rw [List.mem_singleton.mp hb]; exact ⟨X.gnone (none_ge (by show @LE.le Nat _ _ _; omega)), hCn⟩) ((hd5.at fun o e => mv6 _ o hDn e).at fun o e => mv7 _ o (by rw [List.mem_singleton]; exact hDC) e) (by rw [q1, hlen5]) q2 fun b o hb eo => ?_
      have hbs : @LT.lt Nat _ b s.heap.objs.size := Heap.lt_size eo
      exact mv7 b o (by rw [List.mem_singleton]; show @Ne Nat _ _; omega) (mv6 b o hb (k05 b o eo))
  exact codeAny_compStart_dict loop ((Walks.range hh I 0 1 n).self 0 _ _ _ (old _ _ hit) loop)
end
end Mine
end

section
open PySem PySem.W PySem.Calls PyProof.Rows
set_option Elab.async false
set_option maxRecDepth 100000
set_option maxHeartbeats 8000000
namespace Mine
theorem fillK_LWG : PySem.Challenge.rw_au6018_01 = PySem.Challenge.rw_au6018_01 → hd.heap_39 = hd.heap_39 → True := by
  k_fill
  intro _ _; trivial

theorem seg6 {w : World} {e₀ : Env} {s : Shared} {Q : Flow → Shared → Prop} {E : Value → Shared → Prop} {mean mg mb} {g base : Heap} {L : Nat} {m cm : Str → Option Value}
    {name qual : Str} {params : Arguments} {body : List Stmt} {sc : Scope} {dV kV doc pm cdv ct oc : Value} {an od : Option Addr} {osl : Array (Option Value)}
    (ho : (hd.heap_39 w.params).lookup 707 = some ⟨oc, od, .func (fnOf name qual params body sc dV kV doc pm an cdv ct), osl⟩) (he₀ : e₀ = envOfC qual sc L 707 cdv)
    (X : Fc g L sc s.heap m cm) (KX : (hd.heap_39 w.params).In g) (T : Top hd.view_39 LOOSE mean mg mb g) (B : Below callerA base [] g)
    {lv ln lr : Addr} {V ns : List Int} {lim : Int} {tn tl : Tok} (hV2 : 2 ≤ V.length) (hV : V.length ≤ 8) (hlen : ns.length = V.length) (hnn : ns.Nodup) (cv : cm (Str.ofString "values") = some (.ref lv)) (cnm : cm (Str.ofString "names") = some (.ref ln))
    (cn : cm (Str.ofString "n") = some (.int (V.length : Nat) tn)) (cl : cm (Str.ofString "limit") = some (.int lim tl))
    (mr : m (Str.ofString "near") = some (.ref lr)) (IV : IL (DD L sc) s.heap lv V) (IN : IL (DD L sc) s.heap ln ns) (NLr : NL (DD L sc) s.heap lr (nearOf V lim)) (hev : ∀ v ∈ V, v % 2 = 0) (hodd : lim % 2 = 1)
    (rest : ∀ h tk D, Fc g L sc h (fun y => if y = Str.ofString "table" then some (.ref D) else m y) cm → Mv (DD L sc) s.heap h → wpS (model PG w) (callerA.deeper e₀) (execs (body.drop 14) (envOfC qual sc L 707 cdv)) Q E { s with heap := h, toks := tk }) :
    wpS (model PG w) (callerA.deeper e₀) (execs (body.drop 12) (envOfC qual sc L 707 cdv)) Q E s := by
  refine' lawfn_eq ?k ho ?h
  case k => k_is
  case h =>
  rintro rfl rfl hsc rfl
  clear ho
  have hnd : ((cellsFrom 0 sc.names []).map (·.1)).Nodup := by rw [hsc]; decide
  subst hsc
  have T' := topRead_of T
  have hA : AOk (callerA.deeper e₀) 20 := ⟨by show callerA.depth + 1 + 20 < 1000; decide, rfl, by show callerA.units + 3 + 3 * 20 + 30 < 9900; decide⟩
  obtain ⟨vvs, ⟨hlvD, hlv⟩, hvi⟩ := IV
  obtain ⟨nvs, ⟨hlnD, hln⟩, hni⟩ := IN
  have hvl : vvs.length = V.length := hvi.length
  have hnl : nvs.length = V.length := by rw [hni.length]; exact hlen
  have getV : ∀ {k : Nat}, k < V.length → ∃ t, vvs[k]? = some (.int (V.getD k 0) t) := fun {k} hk => by
    have e1 : vvs[k]? = some (vvs[k]'(by omega)) := List.getElem?_eq_getElem (by omega)
    have e2 : V[k]? = some (V[k]'(by omega)) := List.getElem?_eq_getElem (by omega)
    obtain ⟨t, e⟩ := ints_get hvi e1 e2
    exact ⟨t, by rw [e1, e]; simp [hk]⟩
  have getN : ∀ {k : Nat}, k < V.length → ∃ t, nvs[k]? = some (.int (ns.getD k 0) t) := fun {k} hk => by
    have e1 : nvs[k]? = some (nvs[k]'(by omega)) := List.getElem?_eq_getElem (by omega)
    have e2 : ns[k]? = some (ns[k]'(by omega)) := List.getElem?_eq_getElem (by omega)
    obtain ⟨t, e⟩ := ints_get hni e1 e2
    exact ⟨t, by rw [e1, e]; simp [show k < ns.length by omega]⟩
  refine execs_A ?_
  refine asg_dict (g := g) (m := m) (cm := cm) (cl := [(Str.ofString "values", L + 3), (Str.ofString "names", L + 5)]) (n := V.length) (fun k => ns.getD k 0) (fun k => V.getD k 0) ?inj rfl X KX T' hnd (by k_is) (by boot_by_name) (by omega) (fun Q h => ldC X.X (by rfl) cn h) stored_L (by rfl) (by rfl) rfl (by decide) (by decide) rfl (by rfl) (by rfl) (by rfl) (by rfl) (by intro _; rfl) ?kx ?vx ?_
  case inj =>
    intro i hi j hj (e : ns.getD j 0 = ns.getD i 0)
    have e1 : ns.getD j 0 = ns[j]'(by omega) := by simp [show j < ns.length by omega]
    have e2 : ns.getD i 0 = ns[i]'(by omega) := by simp [show i < ns.length by omega]

    rw [e1, e2] at e
    have q := congrArg (fun z => ns.idxOf z) e
    simp only [List.Nodup.idxOf_getElem hnn] at q
    omega
  case kx =>
    intro C i t s₂ mc Q E' hi hns hx hold hQ
    obtain ⟨t1, g1⟩ := getN hi
    refine Subscript_ (ldCellK (by rfl) (cell_new (X.cellv (x := Str.ofString "names") (by rfl) cnm) hold) ?_)
    refine ldVarK hns hx ?_
    refine pl_item (pl_keep hln hold) (by omega) (by omega) (by rw [Int.toNat_natCast]; exact g1) ?_
    exact hQ _ _
  case vx =>
    intro C i t s₂ mc Q E' hi hns hx hold hQ
    obtain ⟨t1, g1⟩ := getV hi
    refine Subscript_ (ldCellK (by rfl) (cell_new (X.cellv (x := Str.ofString "values") (by rfl) cv) hold) ?_)
    refine ldVarK hns hx ?_
    refine pl_item (pl_keep hlv hold) (by omega) (by omega) (by rw [Int.toNat_natCast]; exact g1) ?_
    exact hQ _ _
  intro h1 D tk1 kvs hDlt X1 hd1 hkl hk1 mv1
  dsimp only
  have hsys : @LT.lt Nat _ sysModules s.heap.objs.size := modules_low (T.keeps X.F.keep).nolimit
  have hDs : ((D : Addr) == sysModules) = false := by
    have : @Ne Nat D sysModules := by omega
    simpa using this
  obtain ⟨ob, es, ep, hd1'⟩ := hd1
  have hd1 : h1.DictAt (intKind PG w) D kvs ep := ⟨ob, es, hd1'⟩
  obtain ⟨lvs, ⟨hlrD, hlr⟩, hlrel⟩ := NLr.mv mv1
  obtain ⟨nvs1, ⟨_, hln1⟩, hni1⟩ : IL (DD L _) h1 ln ns := IL.mv ⟨nvs, ⟨hlnD, hln⟩, hni⟩ mv1
  have hz : (V.zip ns).map (·.2) = ns := by rw [List.map_snd_zip]; omega
  have hzl : (V.zip ns).length = V.length := by rw [List.length_zip]; omega
  refine execs_S (If_S (not_S (plain_S (Call_S ?_))))
  refine nameX_K (s := { s with heap := h1, toks := _ }) X1.F KX T' (by k_is) ?_
  refine callWith_KS (K := hd.heap_39 w.params) (by k_is) ?_
  refine args_S (.of (Call_ ?_))
  refine nameX_K (s := { s with heap := h1, toks := _ }) X1.F KX T' (by k_is) ?_
  refine callWith_K KX (by k_is) ?_
  refine args_cons (CallKw_ ?_)
  refine nameX_K (s := { s with heap := h1, toks := _ }) X1.F KX T' (by k_is) ?_
  refine callWith_KW KX (by k_is) (by rfl) ?_
  refine args_cons (ldLoc (s := { s with heap := h1, toks := _ }) X1.F (if_pos rfl) ?_)
  refine args_nil ?_
  refine kws_cons (ldC (s := { s with heap := h1, toks := _ }) X1.X (by rfl) cl ?_)
  refine kws_cons (wpAny_Constant_bool ?_)
  refine kws_nil ?_
  refine ⟨kin_keeps KX X1.F.keep, wpAny_call ?_⟩
  refine w2cs_spec (s := { s with heap := h1, toks := _ }) (P := V.zip ns) (hA.less (by omega)) (kin_keeps KX X1.F.keep) (T'.keeps X1.F.keep) .lab (.dict hd1 hDs (by rw [hkl, hzl]) ?hget) (by rw [hzl]; exact hV2) (by rw [hzl]; exact hV) (by rw [hz]; exact hnn) fun h2 tk2 v P' C k2 hperm hsort hpeel hres => ?_
  case hget =>
    intro i k v p hi hp
    obtain ⟨a1, t, a2⟩ := hk1 i k v hi
    have hiV : i < V.length := by rw [← hkl]; exact (List.getElem?_eq_some_iff.mp hi).1
    rw [List.getElem?_zip_eq_some] at hp
    obtain ⟨p1, p2⟩ := hp
    refine ⟨?_, t, ?_⟩
    · rw [a1, List.getD_eq_getElem?_getD, p2]; rfl
    · rw [a2, List.getD_eq_getElem?_getD, p1]; rfl
  dsimp only at k2
  have X2 := X1.keeps k2
  obtain ⟨r, rs, rfl, hpr, hrn, hrel⟩ : ∃ (r : Addr) (rs : List Value), v = .ref r ∧ h2.PlainList r rs.toArray ∧ h1.get? r = none ∧ Rel (TupV [] h2) rs C.reverse := by
    cases hres with
    | lab a b c => exact ⟨_, _, rfl, a, b, c⟩
  refine args_nil ?_
  have hCp : (C.map (·.1)).Perm ns := hpeel.perm.trans ((hperm.map _).trans (by rw [hz]))
  have hCl : C.length = V.length := by rw [← hlen]; simpa using hCp.length_eq
  have hCn : (C.reverse.map (·.1)).Nodup := by rw [List.map_reverse]; exact ((List.reverse_perm _).trans hCp).nodup_iff.mpr hnn
  have hrl : rs.length = V.length := by rw [hrel.1, List.length_reverse, hCl]
  obtain ⟨hkeys, hadj⟩ := peel_law (V := V) (ns := ns) hlen hnn hperm hsort hpeel hev hodd
  refine ⟨kin_keeps KX X2.F.keep, wpAny_call ?_⟩
  refine threshold_graph_spec (s := { s with heap := h2, toks := tk2 }) (kin_keeps KX X2.F.keep) (T.keeps X2.F.keep) (by subst he₀; exact pushX B X2.F rfl rfl) hpr hrel (by simp; omega) (by simp; omega) hCn fun a h3 tk3 k3 Rg fpn => ?_
  dsimp only at k3 fpn ⊢
  have X3 := X2.keeps k3
  have k13 : ∀ b o, h1.get? b = some o → h3.get? b = some o := fun b o e => k3 b o (k2 b o e)
  refine args_S (.of (ldC (s := { s with heap := h3, toks := _ }) X3.X (by rfl) cnm ?_))
  refine args_S (.of (ldLoc (s := { s with heap := h3, toks := _ }) X3.F ((if_neg (by decide)).trans mr) ?_))
  refine .of (args_nil ?_)
  refine ⟨kin_keeps KX X3.F.keep, wpS_call ?_⟩
  have hdx : h2.get? a.dx = none := fpn _ (by simp [GA.fp])
  refine law_is_spec (s := { s with heap := h3, toks := _ }) (ns := ns) (near := nearOf V lim) hA (Fr.sub X3.F) KX T' Rg (X2.gnone hdx) (Rg.nomods _ (by simp [GA.dp])) (pl_keep hln1 k13) hni1 (pl_keep hlr k13)
    (hlrel.mono fun v l ⟨b, us, e1, e2, e3⟩ => ⟨b, us, e1, pl_keep e2.2 k13, e3⟩) (by rw [nearOf_len, hlen]) (by omega) hkeys hadj (by
      intro l hl
      have := nearOf_small V lim hV l hl
      exact ⟨this.1, fun b hb => by have := this.2 b hb; omega⟩) fun h5 tk5 k5 hz5 => ?_
  dsimp only at k5 hz5 ⊢
  have hdxn : h1.get? a.dx = none := none_back k2 hdx
  have k15 : ∀ b o, h1.get? b = some o → h5.get? b = some o := fun b o e => k5 b o (fun q => by rw [q, hdxn] at e; cases e) (k13 b o e)
  refine .of (wpAny_truthy_bool ?_)
  rw [if_neg (by decide)]
  refine .of (wpAny_execs_nil ?_)
  dsimp only
  exact rest h5 tk5 D (X1.keeps k15) (mv1.trans (Mv.keep k15))
end Mine
end

section
open PySem PySem.W PySem.Calls PyProof.Rows
set_option Elab.async false
set_option maxRecDepth 100000
set_option maxHeartbeats 8000000
namespace Mine
theorem fillK_LWH : PySem.Challenge.rw_au6018_01 = PySem.Challenge.rw_au6018_01 → hd.heap_39 = hd.heap_39 → True := by
  k_fill
  intro _ _; trivial
theorem enumP_map (V : List Int) (G : Int) : enumP (V.map (G * ·)) = (enumP V).map (scl G) := by
  refine List.ext_getElem (by simp [enumP]) fun i h1 h2 => ?_
  simp [enumP, scl]

theorem seg7 {w : World} {A : Around} {s : Shared} {Q : Flow → Shared → Prop} {E : Value → Shared → Prop} {mg mb} {g : Heap} {L : Nat} {m cm : Str → Option Value} (hA : AOk A 20)
    {name qual : Str} {params : Arguments} {body : List Stmt} {sc : Scope} {dV kV doc pm cdv ct oc : Value} {an od : Option Addr} {osl : Array (Option Value)}
    (ho : (hd.heap_39 w.params).lookup 707 = some ⟨oc, od, .func (fnOf name qual params body sc dV kV doc pm an cdv ct), osl⟩)
    (X : Fc g L sc s.heap m cm) (KX : (hd.heap_39 w.params).In g) (T : TopRead hd.view_39 LOOSE mg mb g)
    {lf lv r : Addr} {fs V : List Int} {lim : Int} {tl : Tok} {C : List (Int × Bool)} {P' : List (Int × Int)} (hV2 : 2 ≤ V.length) (hV : V.length ≤ 8) (hfl : fs.length = 20) (hVb : ∀ v ∈ V, -100 ≤ v ∧ v ≤ 100) (hlb : -100 ≤ lim ∧ lim ≤ 100)
    (cf : cm (Str.ofString "found") = some (.ref lf)) (cv : cm (Str.ofString "values") = some (.ref lv)) (cl : cm (Str.ofString "limit") = some (.int lim tl))
    (mt : m (Str.ofString "told") = some (.ref r)) (IF : IL (DD L sc) s.heap lf fs) (IV : IL (DD L sc) s.heap lv V) (TLr : TL (DD L sc) s.heap r C.reverse)
    (hperm : P'.Perm (enumP V)) (hsort : SoW P') (hpeel : Peel lim P' C)
    (rest : ∀ h tk cm', (∀ x, x ≠ Str.ofString "great" → cm' x = cm x) → Fc g L sc h m cm' → Mv (DD L sc) s.heap h →
      wpS (model PG w) A (execs (body.drop 16) (envOfC qual sc L 707 cdv)) Q E { s with heap := h, toks := tk }) :
    wpS (model PG w) A (execs (body.drop 14) (envOfC qual sc L 707 cdv)) Q E s := by
  refine' lawfn_eq ?k ho ?h
  case k => k_is
  case h =>
  rintro rfl rfl hsc rfl
  clear ho
  have hnd : ((cellsFrom 0 sc.names []).map (·.1)).Nodup := by rw [hsc]; decide
  subst hsc
  obtain ⟨fvs, ⟨hlfD, hlf⟩, hfi⟩ := IF
  have hfvl : fvs.length = 20 := by rw [hfi.length]; exact hfl
  obtain ⟨t9, g9⟩ : ∃ t, fvs[9]? = some (.int (fs.getD 9 0) t) := by
    have e1 : fvs[9]? = some (fvs[9]'(by omega)) := List.getElem?_eq_getElem (by omega)
    have e2 : fs[9]? = some (fs[9]'(by omega)) := List.getElem?_eq_getElem (by omega)
    obtain ⟨t, e⟩ := ints_get hfi e1 e2
    exact ⟨t, by rw [e1, e]; simp [show 9 < fs.length by omega]⟩
  refine execs_A (wpAny_Assign_Name (wpAny_BinOp (wpAny_Constant_int ?_)))
  refine wpAny_BinOp (Subscript_ (ldC (s := { s with toks := _ }) X.X (by rfl) cf ?_))
  refine wpAny_Constant_int ?_
  refine pl_item (s := { s with toks := _ }) hlf (by omega) (by omega) g9 ?_
  refine wpAny_BinOp (wpAny_Constant_int ?_)
  refine wpAny_Constant_int ?_
  refine pow_int_small (by omega) (by omega) (by decide) ?_
  refine mod_int (by decide) ?_
  refine add_int ?_
  have hG : 0 < 1 + (fs.getD 9 0).fmod (10 ^ Int.toNat 30) := by
    have := Int.fmod_nonneg_of_pos (fs.getD 9 0) (b := 10 ^ Int.toNat 30) (by decide)
    omega
  generalize 1 + (fs.getD 9 0).fmod (10 ^ Int.toNat 30) = G at hG ⊢
  refine stCc (s := { s with toks := _ }) X (by rfl) (fun h1 X1 mv1 => ?_) rfl (by rfl)
  dsimp only at mv1 ⊢
  obtain ⟨vvs, ⟨hlvD, hlv⟩, hvi⟩ := IV.mv mv1
  have hvl : vvs.length = V.length := hvi.length
  generalize hcm1 : (fun y => if y = Str.ofString "great" then _ else cm y) = cm1 at X1
  have o1 : ∀ x, x ≠ Str.ofString "great" → cm1 x = cm x := fun x hx => by rw [← hcm1]; exact if_neg hx
  obtain ⟨tg, cg1⟩ : ∃ t, cm1 (Str.ofString "great") = some (.int G t) := ⟨_, by rw [← hcm1]; exact if_pos rfl⟩
  have cg : h1.IsCell (L + 6) (some (.int G tg)) := X1.cellv (x := Str.ofString "great") (by rfl) cg1
  have cv1 : cm1 (Str.ofString "values") = some (.ref lv) := (o1 _ (by decide)).trans cv
  have cl1 : cm1 (Str.ofString "limit") = some (.int lim tl) := (o1 _ (by decide)).trans cl
  refine execs_A (wpAny_If (wpAny_isTrue_Compare1 (CallKw_ ?_)))
  refine nameX_K (s := { s with heap := h1, toks := _ }) X1.F KX T (by k_is) ?_
  refine callWith_KW KX (by k_is) (by rfl) ?_
  refine args_cons ?_
  refine ListComp_u (cl := [(Str.ofString "great", L + 6)]) (by rfl) rfl (by decide) (by decide) ?_
  refine ldC (s := { s with heap := h1, toks := _ }) X1.X (by rfl) cv1 ?_
  refine wpAny_pyIter_list (s := { s with heap := h1, toks := _ }) (pl_list hlv) ?_
  dsimp only
  have hIn : h1.get? h1.objs.size = none := none_ge (Nat.le_refl _)
  have hlI : @Ne Nat lv h1.objs.size := Nat.ne_of_lt (plt_lt hlv)
  have e5 : (h1.push (listIt lv)).objs.size = h1.objs.size + 1 := Heap.size_push ..
  refine ⟨vvs.toArray.size, _, _, csrc_name (s₂ := { s with heap := h1.push (listIt lv), toks := _ }) (Walks.list (by exact hA.2.1) h1.objs.size lv hlI vvs.toArray) (by rw [List.size_toArray]; omega)
    ⟨⟨_, Heap.get?_push_size _ rfl, rfl, rfl⟩, (pl_list hlv).at fun o e => Heap.get?_push_of_some _ e⟩ (fun b hb' => ?hf5)
    (fun (j : Nat) (y : Value) (_ : Heap) => ∃ t, y = .int (G * V.getD j 0) t) (fun _ _ _ _ e _ => e) rfl (by rfl) ?hel, ?hfin⟩
  case hf5 =>
    simp only [List.mem_cons, List.not_mem_nil, or_false] at hb'
    show @LT.lt Nat _ b (h1.push (listIt lv)).objs.size
    have q : @LT.lt Nat _ lv h1.objs.size := plt_lt hlv
    rcases hb' with rfl | rfl <;> omega
  case hel =>
    intro C' j v' h11 tk11 m11 Q' E' hC' hP hns11 hv11 hold hQ
    have hP' : vvs[j]? = some v' := by simpa using hP
    have hjl : j < V.length := by rw [← hvl]; exact (List.getElem?_eq_some_iff.mp hP').1
    obtain ⟨t11, rfl⟩ := ints_get hvi hP' (k := V.getD j 0) (by simp [hjl])
    have hbd := hVb (V.getD j 0) (by rw [List.getD_eq_getElem?_getD, List.getElem?_eq_getElem hjl]; exact List.getElem_mem ..)
    have cg11 : h11.IsCell (L + 6) (some (.int G tg)) := let ⟨o, ho, hd⟩ := cg; ⟨o, hold _ _ (by rw [List.mem_singleton]; exact (Nat.ne_of_lt (Heap.lt_size ho))) (Heap.get?_push_of_some _ ho), hd⟩
    refine wpAny_BinOp (ldCellK (by rfl) cg11 ?_)
    refine ldVarK hns11 hv11 ?_
    refine mul_int ?_ ?_
    · exact hQ h11 _ _ (fun b o e => e) ⟨_, rfl⟩
    · exact PySem.IntMulOk.of_right (PySem.intBits_le_64 (by omega) (by omega))
  case hfin =>
  intro C' D' h11 h2 ys tk2 tw hpD hyl' ⟨hold, hyn, hel⟩ hs12
  obtain ⟨tw1, tw2, tw3, tw4, tw5⟩ := tw
  dsimp only at tw1 tw2 tw3 tw4 hold ⊢
  rw [e5] at tw1 tw2 tw3 tw4
  have k12 : ∀ b o, h1.get? b = some o → h2.get? b = some o := fun b o e => by
    have hb10 : @LT.lt Nat _ b h1.objs.size := Heap.lt_size e
    exact hs12.extBut b o (by show @Ne Nat _ _; omega) (hold b o (by rw [List.mem_singleton]; show @Ne Nat _ _; omega) (Heap.get?_push_of_some _ e))
  have X2 := X1.keeps k12
  have hyi : IntsAre ys (V.map (G * ·)) := ints_of_get (by rw [hyn, List.size_toArray, List.length_map, hvl]) fun j v hj => by
    obtain ⟨t, rfl⟩ := hel j v hj
    have hjl : j < V.length := by rw [← hvl, ← List.size_toArray, ← hyn]; exact (List.getElem?_eq_some_iff.mp hj).1
    exact ⟨_, t, by rw [List.getElem?_map, List.getElem?_eq_getElem hjl]; rfl, by simp [hjl]⟩
  refine args_nil ?_
  refine kws_cons (wpAny_BinOp (ldC (s := { s with heap := h2, toks := _ }) X2.X (by rfl) cg1 ?_))
  refine ldC (s := { s with heap := h2, toks := _ }) X2.X (by rfl) cl1 ?_
  refine mul_int ?_ ?_
  rotate_left
  · exact PySem.IntMulOk.of_right (PySem.intBits_le_64 (by omega) (by omega))
  refine kws_cons (wpAny_Constant_bool ?_)
  refine kws_nil ?_
  refine ⟨kin_keeps KX X2.F.keep, wpAny_call ?_⟩
  have hml : (enumP (V.map (G * ·))).length = V.length := by rw [enumP_length, List.length_map]
  refine w2cs_spec (s := { s with heap := h2, toks := _ }) (hA.less (by omega)) (kin_keeps KX X2.F.keep) (T.keeps X2.F.keep) .lab (.list (pl_list hpD) hyi) (by rw [hml]; exact hV2) (by rw [hml]; exact hV) (enumP_nodup _) fun h3 tk3 v P3 C3 k3 hperm3 hsort3 hpeel3 hres3 => ?_
  dsimp only at k3 ⊢
  obtain rfl : P3 = P'.map (scl G) := sorted_unique hsort3 (hsort.scale hG) (hperm3.trans (by rw [enumP_map]; exact (hperm.map _).symm))
  obtain rfl : C3 = C := hpeel3.det (hpeel.scale hG)
  obtain ⟨r3, rs3, rfl, hpr3, hrel3⟩ : ∃ (r : Addr) (rs : List Value), v = .ref r ∧ h3.PlainList r rs.toArray ∧ Rel (TupV [] h3) rs C3.reverse := by
    cases hres3 with
    | lab a b c => exact ⟨_, _, rfl, a, c⟩
  have X3 := X2.keeps k3
  have k13 : ∀ b o, h1.get? b = some o → h3.get? b = some o := fun b o e => k3 b o (k12 b o e)
  obtain ⟨rvs, ⟨hrD, hpr⟩, hrr⟩ := (TLr.mv mv1).mv (Mv.keep k13)
  refine ldLoc (s := { s with heap := h3, toks := tk3 }) X3.F mt ?_
  refine ne_told (s := { s with heap := h3, toks := tk3 }) hpr3 hrel3 hpr hrr (by have := hA.2.2; show A.units < 9900; omega) (by have := hA.2.2; show A.units + 1 < 9900; omega) ?_
  refine wpAny_truthy_bool ?_
  rw [if_neg (by decide)]
  refine wpAny_execs_nil ?_
  dsimp only
  exact rest h3 _ cm1 o1 X3 (mv1.trans (Mv.keep k13))
end Mine
end

section
open PySem PySem.W PySem.Calls PyProof.Rows PySem.SeqAt
set_option Elab.async false
set_option maxRecDepth 100000
set_option maxHeartbeats 8000000
namespace Mine
section
variable {prog : Program} {w : World} {A : Around} {E : Value → Shared → Prop} {s : Shared}
theorem pl_add {l b : Addr} {vs us : List Value} {Q : Value → Shared → Prop} (hl : s.heap.PlainList l vs.toArray) (hb : s.heap.PlainList b us.toArray) (hz : vs.length + us.length ≤ 1000)
    (h : ∀ h' D, (∀ b o, s.heap.get? b = some o → h'.get? b = some o) → s.heap.get? D = none → h'.PlainList D (vs ++ us).toArray → Q (.ref D) { s with heap := h' }) : wpAny (model prog w) A (binaryOp .Add (.ref l) (.ref b)) Q E s := by
  obtain ⟨n, ho⟩ := hl
  obtain ⟨n2, ho2⟩ := hb
  have e : vs.toArray ++ us.toArray = (vs ++ us).toArray := by simp
  refine concat_meets ⟨_, ho, rfl⟩ ⟨_, ho2, rfl⟩ noFill_list_add seq_list_add PySem.F.slot_list_add PySem.F.entry_list_add (PySem.F.args_list_add_2 _ _) (list_addW l b vs.toArray us.toArray n n2 none none #[] #[] (by rw [sizeLine_eq]; simp; omega)) ⟨ho, ho2, ?_⟩
  rw [e]
  exact h _ _ (fun b o x => Heap.get?_push_of_some _ x) (none_ge (Nat.le_refl _)) (pl_new _ _)
end
theorem strsOf {vs : List Value} {bs : List Bool} (h : Rel StrV vs bs) : StrsAre vs (bs.map letS) := by
  induction bs generalizing vs with
  | nil => cases vs with
    | nil => exact .nil
    | cons _ _ => exact absurd h.1 (by simp)
  | cons b bs ih =>
    cases vs with
    | nil => exact absurd h.1 (by simp)
    | cons v vs =>
      obtain ⟨t, rfl⟩ := h.2 0 v b rfl rfl
      exact .cons _ _ (ih ⟨by have := h.1; simpa using this, fun j v b p q => h.2 (j + 1) v b (by simpa using p) (by simpa using q)⟩)
theorem letS_one (b : Bool) : letS b = ⟨#[if b then 100 else 105]⟩ := by cases b <;> decide
theorem join_text0 : ∀ bs : List Bool, PySem.Str.join (Str.ofString "") (bs.map letS) = textOf bs
  | [] => rfl
  | [b] => by
    show letS b = _
    rw [letS_one]; simp [textOf]
  | b :: c :: r => by
    show letS b ++ Str.ofString "" ++ PySem.Str.join (Str.ofString "") ((c :: r).map letS) = _
    rw [join_text0 (c :: r), letS_one, show Str.ofString "" = (⟨#[]⟩ : Str) from by decide]
    show (⟨(#[if b then 100 else 105] ++ #[]) ++ _⟩ : Str) = _
    simp [textOf]
theorem join_text (bs : List Bool) : Txt.join (Str.ofString "") (bs.map letS) = textOf bs := by
  show Builtin.Str.glued (Str.ofString "") (bs.map letS) = _
  rw [StrLaws.glued_eq_join]
  exact join_text0 bs
theorem lets_weight (bs : List Bool) : ((bs.map letS).map (·.length)).sum + (bs.map letS).length = 2 * bs.length := by
  induction bs with
  | nil => rfl
  | cons b bs ih =>
    simp only [List.map_cons, List.sum_cons, List.length_cons] at ih ⊢
    have : (letS b).length = 1 := by cases b <;> rfl
    omega
end Mine
end

section
open PySem PySem.W PySem.Calls PyProof.Rows
set_option Elab.async false
set_option maxRecDepth 100000
set_option maxHeartbeats 8000000
namespace Mine
theorem fillK_LWI : PySem.Challenge.rw_au6018_01 = PySem.Challenge.rw_au6018_01 → hd.heap_39 = hd.heap_39 → True := by
  k_fill
  intro _ _; trivial
def FL (D : List Addr) (h : Heap) (a : Addr) (xs : List UInt64) : Prop := ∃ vs, PL D h a vs ∧ Rel FloatV vs xs
theorem FL.mv {D : List Addr} {h h' : Heap} {a : Addr} {xs : List UInt64} (x : FL D h a xs) (mv : Mv D h h') : FL D h' a xs := let ⟨vs, p, i⟩ := x; ⟨vs, p.mv mv, i⟩
def mOf (fs : List Int) : Nat := (1 + (fs.getD 17 0).fmod 8).toNat
def bitOf (x : Int) (k : Nat) : Bool := (x.fdiv (2 ^ k)).fmod 2 == 1
def rowOf (fs : List Int) : List Bool := true :: (List.range (mOf fs - 1)).map (bitOf (fs.getD 18 0))
theorem mOf_bd (fs : List Int) : 1 ≤ mOf fs ∧ mOf fs ≤ 8 := by
  have := fmod_bd (fs.getD 17 0) 8 (by decide)
  unfold mOf
  omega
theorem rowOf_len (fs : List Int) : (rowOf fs).length = mOf fs := by
  have := mOf_bd fs
  simp [rowOf]; omega

theorem seg8 {w : World} {A : Around} {s : Shared} {Q : Flow → Shared → Prop} {E : Value → Shared → Prop} {mg mb} {g : Heap} {L : Nat} {m cm : Str → Option Value} (hA : AOk A 20)
    {name qual : Str} {params : Arguments} {body : List Stmt} {sc : Scope} {dV kV doc pm cdv ct oc : Value} {an od : Option Addr} {osl : Array (Option Value)}
    (ho : (hd.heap_39 w.params).lookup 707 = some ⟨oc, od, .func (fnOf name qual params body sc dV kV doc pm an cdv ct), osl⟩)
    (X : Fc g L sc s.heap m cm) (KX : (hd.heap_39 w.params).In g) (T : TopRead hd.view_39 LOOSE mg mb g)
    {lf : Addr} {fs : List Int} (hfl : fs.length = 20)
    (cf : cm (Str.ofString "found") = some (.ref lf)) (IF : IL (DD L sc) s.heap lf fs)
    (rest : ∀ h tk m' cm' lr lw, (∀ x, x ≠ Str.ofString "row" → cm' x = cm x) → cm' (Str.ofString "row") = some (.ref lr) → (∃ t, m' (Str.ofString "m") = some (.int (mOf fs : Nat) t)) → m' (Str.ofString "weights") = some (.ref lw) → Fc g L sc h m' cm' → Mv (DD L sc) s.heap h →
      SL' (DD L sc) h lr (rowOf fs) → FL (DD L sc) h lw ((wts (rowOf fs)).1.map (fw (wts (rowOf fs)).2)) →
      wpS (model PG w) A (execs (body.drop 20) (envOfC qual sc L 707 cdv)) Q E { s with heap := h, toks := tk }) :
    wpS (model PG w) A (execs (body.drop 16) (envOfC qual sc L 707 cdv)) Q E s := by
  refine' lawfn_eq ?k ho ?h
  case k => k_is
  case h =>
  rintro rfl rfl hsc rfl
  clear ho
  have hnd : ((cellsFrom 0 sc.names []).map (·.1)).Nodup := by rw [hsc]; decide
  subst hsc
  obtain ⟨fvs, ⟨hlfD, hlf⟩, hfi⟩ := IF
  have hfvl : fvs.length = 20 := by rw [hfi.length]; exact hfl
  have get : ∀ {k : Nat}, k < 20 → ∃ t, fvs[k]? = some (.int (fs.getD k 0) t) := fun {k} hk => by
    have e1 : fvs[k]? = some (fvs[k]'(by omega)) := List.getElem?_eq_getElem (by omega)
    have e2 : fs[k]? = some (fs[k]'(by omega)) := List.getElem?_eq_getElem (by omega)
    obtain ⟨t, e⟩ := ints_get hfi e1 e2
    exact ⟨t, by rw [e1, e]; simp [show k < fs.length by omega]⟩
  obtain ⟨t17, g17⟩ := get (k := 17) (by omega)
  obtain ⟨t18, g18⟩ := get (k := 18) (by omega)
  have mb := mOf_bd fs
  refine execs_A (wpAny_Assign_Name (wpAny_BinOp (wpAny_Constant_int ?_)))
  refine wpAny_BinOp (Subscript_ (ldC (s := { s with toks := _ }) X.X (by rfl) cf ?_))
  refine wpAny_Constant_int ?_
  refine pl_item (s := { s with toks := _ }) hlf (by omega) (by omega) g17 ?_
  refine wpAny_Constant_int ?_
  refine mod_int (by decide) ?_
  refine add_int ?_
  have em : 1 + (fs.getD 17 0).fmod 8 = ((mOf fs : Nat) : Int) := by
    have := fmod_bd (fs.getD 17 0) 8 (by decide)
    unfold mOf; omega
  rw [em]
  refine stLc (s := { s with toks := _ }) X (fun h1 X1 mv1 => ?_) rfl (by rfl)
  dsimp only at mv1 ⊢
  generalize hm1 : (fun y => if y = Str.ofString "m" then _ else m y) = m1 at X1
  obtain ⟨tm, cm1⟩ : ∃ t, m1 (Str.ofString "m") = some (.int (mOf fs : Nat) t) := ⟨_, by rw [← hm1]; exact if_pos rfl⟩
  clear hm1
  have hlf1 := pl_mv hlf mv1 hlfD
  refine execs_A (wpAny_Assign_Name (wpAny_BinOp (List_ (args_cons (wpAny_Constant_str ?_)))))
  refine args_nil ?_
  refine wpAny_newList ?_ (by show (1 : Nat) ≤ _; rw [sizeLine_eq]; omega)
  dsimp only
  generalize htd : Value.str (Str.ofString "d") _ = vd
  have hvd : StrV vd true := by rw [← htd]; exact ⟨_, rfl⟩
  generalize hh2 : h1.push _ = h2
  have k2 : ∀ b o, h1.get? b = some o → h2.get? b = some o := fun b o e => by rw [← hh2]; exact Heap.get?_push_of_some _ e
  have hp2 : h2.PlainList h1.objs.size [vd].toArray := by rw [← hh2]; exact pl_new h1 _
  have hn2 : h1.get? h1.objs.size = none := none_ge (Nat.le_refl _)
  have X2 := X1.keeps k2
  have hDd : h1.objs.size ∉ DD L _ := X1.new hnd hn2
  generalize hdd : h1.objs.size = dd at hp2 hn2 hDd
  have hlf2 := pl_keep hlf1 k2
  refine ListComp_u (cl := [(Str.ofString "found", L + 1)]) (by rfl) rfl (by decide) (by decide) ?_
  refine Call_ ?_
  refine nameX_B (s := { s with heap := h2, toks := _ }) X2.F KX T (by k_is) (by boot_by_name) (by decide) ?_
  refine cw_type1 ?_
  refine args_cons (wpAny_BinOp (ldLoc (s := { s with heap := h2, toks := _ }) X2.F cm1 ?_))
  refine wpAny_Constant_int ?_
  refine sub_int ?_
  refine args_nil ?_
  refine call_range_1 ?_
  dsimp only
  refine iter_range (IsRange.new _ _ _ _ _ _ _) (n := mOf fs - 1) (Or.inl (by omega)) (by omega) (by omega) fun hit => ?_
  dsimp only at hit ⊢
  generalize hH : (h2.push _).push _ = H at hit ⊢
  generalize hIe : Array.size (Heap.objs (Heap.push h2 _)) = I at hit ⊢
  have hIs : I = h2.objs.size + 1 := by rw [← hIe, Heap.size_push]
  have hHs : H.objs.size = I + 1 := by rw [← hH, Heap.size_push, hIe]
  have kH : ∀ b o, h2.get? b = some o → H.get? b = some o := fun b o e => by rw [← hH]; exact Heap.get?_push_of_some _ (Heap.get?_push_of_some _ e)
  have hit := hit I rfl
  have hIn : h2.get? I = none := none_ge (by show @LE.le Nat _ _ _; omega)
  have XH := X2.keeps kH
  refine ⟨_, _, _, csrc_name (s₂ := { s with heap := H, toks := _ }) (Walks.range (by exact hA.2.1) I 0 1 (mOf fs - 1)).bound (by omega) hit (fun b hb => by rw [List.mem_singleton.mp hb]; show @LT.lt Nat _ I H.objs.size; omega)
    (fun (j : Nat) (y : Value) (_ : Heap) => StrV y (bitOf (fs.getD 18 0) j)) (fun _ _ _ _ e _ => e) rfl (by rfl) ?hel, ?hfin⟩
  case hel =>
    rintro C i v h tk mc Q' E' hC ⟨hi, tv, rfl⟩ hns hx hold hQ
    have e0 : (0 : Int) + (i : Int) * 1 = (i : Nat) := by omega
    rw [e0] at hx
    dsimp only at hold hQ
    have old : ∀ b o, h2.get? b = some o → h.get? b = some o := fun b o eo => hold b o (fun q => by rw [List.mem_singleton.mp q, hIn] at eo; cases eo) (kH b o eo)
    have cfi : h.IsCell (L + 1) (some (.ref lf)) := cell_new (X2.cellv (x := Str.ofString "found") (by rfl) cf) old
    refine IfExp_ (wpAny_isTrue_Compare1 ?_)
    refine wpAny_BinOp (wpAny_BinOp (Subscript_ (ldCellK (by rfl) cfi ?_)))
    refine wpAny_Constant_int ?_
    refine pl_item (s := { s with heap := h, toks := _ }) (pl_keep hlf2 old) (by omega) (by omega) g18 ?_
    refine wpAny_BinOp (wpAny_Constant_int ?_)
    refine ldVarK hns hx ?_
    refine pow_int_small (by omega) (by omega) (by decide) ?_
    rw [Int.toNat_natCast]
    have hpow : 0 < (2 : Int) ^ i := Int.pow_pos (by decide)
    have hpow2 : ((2 : Int) ^ i).natAbs < 1073741824 := by
      rw [Int.natAbs_pow]
      exact Nat.lt_of_le_of_lt (Nat.pow_le_pow_right (by decide) (show i ≤ 8 by omega)) (by decide)
    refine floordiv_int (by omega) ?_ (Or.inl (PyProof.noPylong_small hpow2))
    refine wpAny_Constant_int ?_
    refine mod_int (by decide) ?_
    refine wpAny_Constant_int ?_
    refine PyProof.Rows.eq_int ?_
    refine wpAny_truthy_bool ?_
    by_cases hb : bitOf (fs.getD 18 0) i = true
    · have hb' : (((fs.getD 18 0).fdiv (2 ^ i)).fmod 2 == 1) = true := hb
      rw [hb', if_pos rfl]
      refine wpAny_Constant_str ?_
      exact hQ h _ _ (fun _ _ e => e) ⟨_, by rw [hb]; rfl⟩
    · have hb2 : bitOf (fs.getD 18 0) i = false := Bool.eq_false_iff.mpr hb
      have hb' : (((fs.getD 18 0).fdiv (2 ^ i)).fmod 2 == 1) = false := hb2
      rw [hb', if_neg (by decide)]
      refine wpAny_Constant_str ?_
      exact hQ h _ _ (fun _ _ e => e) ⟨_, by rw [hb2]; rfl⟩
  case hfin =>
  intro C D h3 h4 ys tk4 tw hpD hyl ⟨hold, hyn, hel⟩ hs4
  obtain ⟨tw1, tw2, tw3, tw4, tw5⟩ := tw
  dsimp only at tw1 tw2 tw3 tw4 hold ⊢
  rw [hHs] at tw1 tw2 tw3 tw4
  have k24 : ∀ b o, h2.get? b = some o → h4.get? b = some o := fun b o e => by
    have hb : @LT.lt Nat _ b h2.objs.size := Heap.lt_size e
    exact hs4.extBut b o (by show @Ne Nat _ _; omega) (hold b o (by rw [List.mem_singleton]; show @Ne Nat _ _; omega) (kH b o e))
  have X4 := X2.keeps k24
  have hp4 := pl_keep hp2 k24
  refine pl_add (s := { s with heap := h4, toks := _ }) hp4 hpD (by rw [hyn]; simp; omega) fun h5 lr k5 hlrn hp5 => ?_
  dsimp only at k5 hlrn ⊢
  have X5 := X4.keeps k5
  have hrow : Rel StrV ([vd] ++ ys) (rowOf fs) := by
    refine ⟨by rw [rowOf_len]; simp [hyn]; omega, fun j v b hv hb => ?_⟩
    cases j with
    | zero =>
      simp at hv hb
      subst hv
      simp [rowOf] at hb
      subst hb
      exact hvd
    | succ j =>
      have hv' : ys[j]? = some v := by simpa using hv
      have hjn : j < mOf fs - 1 := by rw [← hyn]; exact (List.getElem?_eq_some_iff.mp hv').1
      simp only [rowOf, List.getElem?_cons_succ, List.getElem?_map, List.getElem?_range hjn, Option.map_some, Option.some.injEq] at hb
      subst hb
      exact hel j v hv'
  refine stCc (s := { s with heap := h5, toks := _ }) X5 (by rfl) (fun h6 X6 mv6 => ?_) rfl (by rfl)
  dsimp only at mv6 ⊢
  have P6 : PL (DD L _) h6 lr ([vd] ++ ys) := ⟨X4.new hnd hlrn, pl_mv hp5 mv6 (X4.new hnd hlrn)⟩
  have hryl : ([vd] ++ ys).length = mOf fs := by rw [hrow.1, rowOf_len]
  refine execs_A (wpAny_Assign_Name (Call_ ?_))
  refine nameX_K (s := { s with heap := h6, toks := _ }) X6.F KX T (by k_is) ?_
  refine callWith_K KX (by k_is) ?_
  refine args_cons (Call_ ?_)
  refine nameX_B (s := { s with heap := h6, toks := _ }) X6.F KX T (by k_is) (by boot_by_name) (by decide) ?_
  refine cw_type1 ?_
  refine args_cons (ldC (s := { s with heap := h6, toks := _ }) X6.X (by rfl) (if_pos rfl) ?_)
  refine args_nil ?_
  refine pl_copy (s := { s with heap := h6, toks := _ }) P6.2 (by omega) fun h7 D7 k7 hD7 hp7 => ?_
  refine args_nil ?_
  dsimp only at k7
  have X7 := X6.keeps k7
  refine ⟨kin_keeps KX X7.F.keep, wpAny_call ?_⟩
  refine cs2w_spec (s := { s with heap := h7, toks := _ }) (bs := rowOf fs) (hA.less (by omega)) (kin_keeps KX X7.F.keep) (T.keeps X7.F.keep) (.letters hp7 hrow) rfl (by rw [rowOf_len]; omega) fun h8 tk8 lw wvs k8 hlwn hp8 hw8 => ?_
  dsimp only at k8 hlwn ⊢
  have X8 := X7.keeps k8
  have P8 : PL (DD L _) h8 lw wvs := ⟨X7.new hnd hlwn, hp8⟩
  refine stLc (s := { s with heap := h8, toks := tk8 }) X8 (fun h9 X9 mv9 => ?_) rfl (by rfl)
  dsimp only at mv9 ⊢
  have P9 := P8.mv mv9
  have hwl : wvs.length = mOf fs := by rw [hw8.1, List.length_map, wts_len, rowOf_len]
  refine execs_A (wpAny_If ?_)
  refine isTrue_or (isTrue_not (isTrue_plain (Call_ ?_)))
  refine nameX_B (s := { s with heap := h9, toks := _ }) X9.F KX T (by k_is) (by boot_by_name) (by decide) ?_
  refine callWith_method1 ?_
  refine args_cons (ldLoc (s := { s with heap := h9, toks := _ }) X9.F (if_pos rfl) ?_)
  refine args_cons ?_
  refine nameX_B (s := { s with heap := h9, toks := _ }) X9.F KX T (by k_is) (by boot_by_name) (by decide) ?_
  refine args_nil ?_
  refine IsiPair.isList_list (pl_list P9.2) (fun _ _ e => e) ?_
  refine wpAny_truthy_bool ?_
  rw [if_neg (by decide)]
  refine isTrue_or (wpAny_isTrue_Compare1 (Call_ ?_))
  refine nameX_B (s := { s with heap := h9, toks := _ }) X9.F KX T (by k_is) (by boot_by_name) (by decide) ?_
  refine callWith_method1 ?_
  refine args_cons (ldLoc (s := { s with heap := h9, toks := _ }) X9.F (if_pos rfl) ?_)
  refine args_nil ?_
  refine pl_len (s := { s with heap := h9, toks := _ }) P9.2 (by omega) fun t6 => ?_
  refine ldLoc (s := { s with heap := h9, toks := _ }) X9.F ((if_neg (by decide)).trans cm1) ?_
  refine PyProof.Rows.ne_int ?_
  refine wpAny_truthy_bool ?_
  rw [hwl, bne_self_eq_false, if_neg (by decide)]
  refine isTrue_or_nil ?_
  rw [if_neg (by decide)]
  refine wpAny_execs_nil ?_
  dsimp only
  have k69 : Mv (DD L _) h6 h9 := (Mv.keep fun b o e => k8 b o (k7 b o e)).trans mv9
  refine rest h9 _ _ _ lr lw ?_ ?_ ⟨tm, ?_⟩ (if_pos rfl) X9 (((mv1.trans (Mv.keep fun b o e => k5 b o (k24 b o (k2 b o e)))).trans mv6).trans k69) ⟨_, P6.mv k69, hrow⟩ ⟨_, P9, hw8⟩
  · intro x hx; exact if_neg hx
  · exact if_pos rfl
  · exact (if_neg (by decide)).trans cm1
end Mine
end

section
open PySem PySem.W PySem.Calls PyProof.Rows PySem.SeqAt
set_option Elab.async false
set_option maxRecDepth 100000
set_option maxHeartbeats 8000000
namespace Mine
section
variable {prog : Program} {w : World} {A : Around} {s : Shared} {name : Str} {sc : Scope} {L f : Addr} {cd : Value} {g : Heap} {cm : Str → Option Value}
theorem forC {x : Str} {px pos : Pos} {iter : Expr} {body : List Stmt} {E : Value → Shared → Prop} {Q : Flow → Shared → Prop} (hnd : ((cellsFrom 0 sc.names []).map (·.1)).Nodup)
    (hk : sc.kind = .function) (hx : (envOfC name sc L f cd).kindOf x = some .local)
    (h : wpAny (model prog w) A (eval iter (envOfC name sc L f cd)) (fun xv s₁ => wpAny (model prog w) A (pyIter xv) (fun it s₂ => ∃ (I : Addr) (fp : List Addr) (n : Nat) (P : Nat → Value → Prop) (St : Nat → Heap → Prop) (m : Str → Option Value) (O : (Str → Option Value) → Prop),
        it = .ref I ∧ Walks prog w A I fp [I] n P St ∧ (∀ b ∈ fp, b ∉ DD L sc) ∧ (g.get? I = none) ∧ St 0 s₂.heap ∧ Fc g L sc s₂.heap m cm ∧ O m ∧
        (∀ i v h tk m₁ E', i < n → P i v → O m₁ → Fc g L sc h (fun y => if y = x then some v else m₁ y) cm → Mv (I :: DD L sc) s₂.heap h →
          wpAny (model prog w) A (execs body (envOfC name sc L f cd)) (fun fl s₃ => fl = .next ∧ ∃ h' tk' m', s₃ = { s with heap := h', toks := tk' } ∧ Fc g L sc h' m' cm ∧ O m' ∧ Mv (DD L sc) h h') E' { s with heap := h, toks := tk }) ∧
        (∃ h₂ tk₂, s₂ = { s with heap := h₂, toks := tk₂ }) ∧
        (∀ h tk m', Fc g L sc h m' cm → O m' → Mv (I :: DD L sc) s₂.heap h → Q .next { s with heap := h, toks := tk })) E s₁) E s)
    (hs : ∀ x, foldedSetIterable iter (envOfC name sc L f cd) x = pure x := by intro _; rfl) :
    wpAny (model prog w) A (exec (.For (.Name x px) iter body [] pos) (envOfC name sc L f cd)) Q E s := by
  refine wpAny_For (wpAny_mono h (fun xv s₁ h₁ => wpAny_mono h₁ (fun it s₂ h₂ => ?_) fun _ _ e => e) fun _ _ e => e) hs
  obtain ⟨I, fp, n, P, St, m, O, rfl, W, hfp, hIg, st0, X0, hO0, step, ⟨h2, tk2, rfl⟩, done⟩ := h₂
  have hLf : L ∉ fp := fun q => hfp L q (List.mem_cons_self ..)
  have hID : I ∉ DD L sc := hfp I (W.sub I (List.mem_singleton.mpr rfl))
  have hp : ((envOfC name sc L f cd).scope.kind == .class || ((envOfC name sc L f cd).scope.kind == .module && (envOfC name sc L f cd).locals != (envOfC name sc L f cd).globals)) = false := by
    show (sc.kind == .class || (sc.kind == .module && L != mainGlobals)) = false; rw [hk]; rfl
  refine codeAny_forLoop
    (fun k s' => ∃ h' tk m' i, s' = { s with heap := h', toks := tk } ∧ St i h' ∧ Fc g L sc h' m' cm ∧ O m' ∧ Mv (I :: DD L sc) h2 h' ∧ i ≤ n ∧ k = n + 1 - i) ?_ (n + 1)
    ⟨h2, tk2, m, 0, rfl, st0, X0, hO0, Mv.refl, Nat.zero_le _, rfl⟩
  rintro k s' ⟨h', tk, m', i, rfl, hst', X', hO', hmv', hi, rfl⟩
  have hIh : ∀ h₁ : Heap, (∀ b o, b ∉ [I] → h'.get? b = some o → h₁.get? b = some o) → Fc g L sc h₁ m' cm := fun h₁ hk₁ => X'.mvNew (wr := [I]) (fun b o hb e => hk₁ b o hb e) fun b hb => by
    rw [List.mem_singleton.mp hb]; exact ⟨hIg, hID⟩
  have mvI : ∀ h₁ : Heap, (∀ b o, b ∉ [I] → h'.get? b = some o → h₁.get? b = some o) → Mv (I :: DD L sc) h2 h₁ := fun h₁ hk₁ => hmv'.trans fun b o hb e => hk₁ b o (fun q => hb (List.mem_cons.mpr (.inl (List.mem_singleton.mp q)))) e
  by_cases hlt : i < n
  · refine W.item i _ _ _ hlt hst' fun v h₁ tk₁ hP hst₁ hk₁ => ?_
    have X₁ := hIh h₁ hk₁
    refine wpAny_assign_Name (wpAny_storeName_local hx X₁.F.ns (fun h₃ hn₃ hs₃ => ?_) hp)
    replace hs₃ : Heap.SameBut L h₁ h₃ := hs₃
    have X₃ : Fc g L sc h₃ (fun y => if y = x then some v else m' y) cm := ⟨X₁.F.set hn₃ hs₃, X₁.X.sameBut hs₃ (Nat.le_refl _)⟩
    have st₃ : St (i + 1) h₃ := W.frame _ _ _ hst₁ fun b hb o e => hs₃.extBut b o (fun (q : b = L) => hLf (q ▸ hb)) e
    have mv13 : Mv (DD L sc) h₁ h₃ := Mv.same hs₃ (List.mem_cons_self ..)
    refine wpAny_mono (step i v h₃ _ m' _ hlt hP hO' X₃ ((mvI h₁ hk₁).trans (Mv.sub mv13 fun b hb => List.mem_cons_of_mem _ hb))) (fun fl s₄ h₄ => ?_) fun _ _ e => e
    obtain ⟨rfl, h₄', tk₄, m₂, rfl, X₄, hO₄, mv₄⟩ := h₄
    exact ⟨n + 1 - (i + 1), by omega, h₄', tk₄, m₂, i + 1, rfl, W.frame _ _ _ st₃ fun b hb o e => mv₄ b o (hfp b hb) e, X₄, hO₄, ((mvI h₁ hk₁).trans (Mv.sub mv13 fun b hb => List.mem_cons_of_mem _ hb)).trans (Mv.sub mv₄ fun b hb => List.mem_cons_of_mem _ hb), hlt, rfl⟩
  · have hin : i = n := by omega
    subst hin
    refine W.done _ _ _ hst' fun h₁ tk₁ hk₁ => wpAny_execs_nil ?_
    exact done h₁ tk₁ m' (hIh h₁ hk₁) hO' (mvI h₁ hk₁)
end
end Mine
end

section
open PySem PySem.W PySem.Calls PyProof.Rows
set_option Elab.async false
set_option maxRecDepth 100000
set_option maxHeartbeats 8000000
namespace Mine
theorem fillK_LWJ : PySem.Challenge.rw_au6018_01 = PySem.Challenge.rw_au6018_01 → hd.heap_39 = hd.heap_39 → True := by
  k_fill
  intro _ _; trivial
theorem cs_keep {h h' : Heap} {v : Value} {bs : List Bool} (x : CsSrc h v bs) (hk : ∀ b o (xs : Array Value) (n : Nat), h.get? b = some o → o.data = .seq xs n → h'.get? b = some o) : CsSrc h' v bs := by
  cases x with
  | letters a b => exact .letters (let ⟨n, e⟩ := a; ⟨n, hk _ _ _ _ e rfl⟩) b
  | text => exact .text
  | pairs a b => exact .pairs (let ⟨n, e⟩ := a; ⟨n, hk _ _ _ _ e rfl⟩) (b.mono fun v c ⟨a, t, tt, n, e1, e2, e3⟩ => ⟨a, t, tt, n, e1, e2, hk _ _ _ _ e3 rfl⟩)
  | runs a b => exact .runs (let ⟨n, e⟩ := a; ⟨n, hk _ _ _ _ e rfl⟩) b

theorem seg9 {w : World} {A : Around} {s : Shared} {Q : Flow → Shared → Prop} {E : Value → Shared → Prop} {mg mb} {g : Heap} {L : Nat} {m cm : Str → Option Value} (hA : AOk A 20)
    {name qual : Str} {params : Arguments} {body : List Stmt} {sc : Scope} {dV kV doc pm cdv ct oc : Value} {an od : Option Addr} {osl : Array (Option Value)}
    (ho : (hd.heap_39 w.params).lookup 707 = some ⟨oc, od, .func (fnOf name qual params body sc dV kV doc pm an cdv ct), osl⟩)
    (X : Fc g L sc s.heap m cm) (KX : (hd.heap_39 w.params).In g) (T : TopRead hd.view_39 LOOSE mg mb g)
    {lr lw : Addr} {bs : List Bool} {tm : Tok} (hbl : bs.length ≤ 8) (hb0 : bs[0]? = some true) (cr : cm (Str.ofString "row") = some (.ref lr)) (mm : m (Str.ofString "m") = some (.int (bs.length : Nat) tm)) (mw : m (Str.ofString "weights") = some (.ref lw))
    (SR : SL' (DD L sc) s.heap lr bs) (FW : FL (DD L sc) s.heap lw ((wts bs).1.map (fw (wts bs).2)))
    (rest : ∀ h tk m', m' (Str.ofString "m") = some (.int (bs.length : Nat) tm) → m' (Str.ofString "weights") = some (.ref lw) → Fc g L sc h m' cm → Mv (DD L sc) s.heap h →
      wpS (model PG w) A (execs (body.drop 21) (envOfC qual sc L 707 cdv)) Q E { s with heap := h, toks := tk }) :
    wpS (model PG w) A (execs (body.drop 20) (envOfC qual sc L 707 cdv)) Q E s := by
  refine' lawfn_eq ?k ho ?h
  case k => k_is
  case h =>
  rintro rfl rfl hsc rfl
  clear ho
  have hnd : ((cellsFrom 0 sc.names []).map (·.1)).Nodup := by rw [hsc]; decide
  subst hsc
  obtain ⟨rvs, ⟨hlrD, hlr⟩, hrr⟩ := SR
  have hrl : rvs.length = bs.length := hrr.1
  have hb1 : 1 ≤ bs.length := by
    cases bs with
    | nil => simp at hb0
    | cons _ _ => simp
  refine execs_A ?_
  refine forC (g := g) (cm := cm) hnd rfl (by rfl) ?_
  refine List_ (args_cons (MethodCall_ (wpAny_Constant_str ?_)))
  refine getMethod_builtin (typeIs_str _ _ _) PySem.F.plainAttrs_str PySem.F.slot_str_join PySem.F.type_str_join (fun _ e => nomatch e) ?_
  refine callWith_method1 ?_
  refine args_cons (ldC (s := { s with toks := _ }) X.X (by rfl) cr ?_)
  refine args_nil ?_
  refine join_listW (s := { s with toks := _ }) (pl_list hlr) (strsOf hrr) (by decide) (by have := lets_weight bs; omega) fun t1 tk1 => ?_
  rw [join_text]
  dsimp only
  refine args_cons ?_
  refine ListComp_u (cl := [(Str.ofString "row", L + 7)]) (by rfl) rfl (by decide) (by decide) ?_
  refine range_it (s := { s with toks := tk1 }) X.F KX T (by k_is) (by boot_by_name) (n := bs.length) (by omega) (fun Q h => ldLoc (s := { s with toks := tk1 }) X.F mm h) rfl (by rfl) rfl rfl (by rfl) (by rfl) fun H I tkH kH hI hH hit => ?_
  dsimp only at kH hI ⊢
  have XH := X.keeps kH
  have hIn : s.heap.get? I = none := none_ge hI
  refine ⟨_, _, _, csrc_name (s₂ := { s with heap := H, toks := tkH }) (Walks.range (by exact hA.2.1) I 0 1 bs.length).bound (by omega) hit (fun b hb => by rw [List.mem_singleton.mp hb]; show @LT.lt Nat _ I H.objs.size; omega)
    (fun (j : Nat) (y : Value) (h : Heap) => ∃ (a : Nat) (t tt : Tok) (n : Nat), y = .ref a ∧ @LE.le Nat _ (H.objs.size + 2) a ∧ h.get? a = some { cls := .type "tuple", data := .seq #[.int (j : Int) t, .str (letS (bs.getD j false)) tt] n }) ?hmono rfl (by rfl) ?hel, ?hfin⟩
  case hmono =>
    rintro i y h h' ⟨a, t, tt, n, e1, e2, e3⟩ hk
    exact ⟨a, t, tt, n, e1, e2, hk _ _ (.inl e2) e3⟩
  case hel =>
    rintro C i v h tk mc Q' E' hC ⟨hi, tv, rfl⟩ hns hx hold hQ
    have e0 : (0 : Int) + (i : Int) * 1 = (i : Nat) := by omega
    rw [e0] at hx
    dsimp only at hold hQ hC
    have old : ∀ b o, s.heap.get? b = some o → h.get? b = some o := fun b o eo => hold b o (fun q => by rw [List.mem_singleton.mp q, hIn] at eo; cases eo) (kH b o eo)
    have cri : h.IsCell (L + 7) (some (.ref lr)) := cell_new (X.cellv (x := Str.ofString "row") (by rfl) cr) old
    obtain ⟨vi, hvi, ti, rfl⟩ := hrr.get (show bs[i]? = some (bs.getD i false) by simp [hi])
    refine Tuple_ ?_
    refine args_cons (ldVarK hns hx ?_)
    refine args_cons (Subscript_ (ldCellK (by rfl) cri ?_))
    refine ldVarK hns hx ?_
    refine pl_item (s := { s with heap := h, toks := tk }) (pl_keep hlr old) (by omega) (by omega) (by rw [Int.toNat_natCast]; exact hvi) ?_
    refine args_nil ?_
    refine wpAny_newTuple ?_ (by show (2 : Nat) ≤ _; rw [sizeLine_eq]; omega)
    exact hQ _ _ _ (fun b o e => Heap.get?_push_of_some _ e) ⟨h.objs.size, tv, ti, 0, rfl, hC, Heap.get?_push_size _ rfl⟩
  case hfin =>
  intro C D h3 h4 ys tk4 tw hpD hyl ⟨hold, hyn, hel⟩ hs4
  obtain ⟨tw1, tw2, tw3, tw4, tw5⟩ := tw
  dsimp only at tw1 tw2 tw3 tw4 hold ⊢
  have hsI : @LE.le Nat _ s.heap.objs.size I := hI
  have k04 : ∀ b o, s.heap.get? b = some o → h4.get? b = some o := fun b o e => by
    have hb : @LT.lt Nat _ b s.heap.objs.size := Heap.lt_size e
    exact hs4.extBut b o (by show @Ne Nat _ _; omega) (hold b o (by rw [List.mem_singleton]; show @Ne Nat _ _; omega) (kH b o e))
  have X4 := X.keeps k04
  have hpairs : Rel (TupV [] h4) ys ((List.range bs.length).map fun (j : Nat) => ((j : Int), bs.getD j false)) := by
    refine ⟨by rw [hyn]; simp, fun j v c hv hc => ?_⟩
    have hj : j < bs.length := by rw [← hyn]; exact (List.getElem?_eq_some_iff.mp hv).1
    rw [List.getElem?_map, List.getElem?_range hj] at hc
    obtain rfl := Option.some.inj hc
    obtain ⟨a, t, tt, n, rfl, ha, hga⟩ := hel j v hv
    exact ⟨a, t, tt, n, rfl, by simp, hs4.extBut _ _ (by show @Ne Nat a C; omega) hga⟩
  have hCm : ((List.range bs.length).map fun (j : Nat) => ((j : Int), bs.getD j false)).map (·.2) = bs := by
    rw [List.map_map]
    exact map_getD_range bs false
  refine args_cons (Call_ ?_)
  refine nameX_K (s := { s with heap := h4, toks := _ }) X4.F KX T (by k_is) ?_
  refine callWith_K KX (by k_is) ?_
  refine args_cons (ldC (s := { s with heap := h4, toks := _ }) X4.X (by rfl) cr ?_)
  refine args_nil ?_
  refine ⟨kin_keeps KX X4.F.keep, wpAny_call ?_⟩
  refine law_runs_spec (s := { s with heap := h4, toks := _ }) (hA.less (by omega)) (kin_keeps KX X4.F.keep) (T.keeps X4.F.keep) (pl_keep hlr k04) hrr hb1 hbl fun h5 tk5 r5 rs5 k5 hrn5 hp5 hi5 => ?_
  dsimp only at k5 hrn5 ⊢
  refine args_nil ?_
  refine wpAny_newList ?_ (by show (3 : Nat) ≤ _; rw [sizeLine_eq]; omega)
  dsimp only
  have X5 := X4.keeps k5
  have k05 : ∀ b o, s.heap.get? b = some o → h5.get? b = some o := fun b o e => k5 b o (k04 b o e)
  have src : ∀ v ∈ [Value.str (textOf bs) t1, .ref D, .ref r5], CsSrc h5 v bs := by
    intro v hv
    simp only [List.mem_cons, List.not_mem_nil, or_false] at hv
    rcases hv with rfl | rfl | rfl
    · exact .text
    · have q : CsSrc h5 (.ref D) (((List.range bs.length).map fun (j : Nat) => ((j : Int), bs.getD j false)).map (·.2)) := .pairs (D := []) (pl_keep hpD k5) (hpairs.mono fun v c ⟨a, t, tt, n, e1, e2, e3⟩ => ⟨a, t, tt, n, e1, e2, k5 _ _ e3⟩)
      rwa [hCm] at q
    · exact .runs hp5 hi5
  generalize hh6 : h5.push _ = h6
  have k56 : ∀ b o, h5.get? b = some o → h6.get? b = some o := fun b o e => by rw [← hh6]; exact Heap.get?_push_of_some _ e
  have hp6 : h6.PlainList h5.objs.size [Value.str (textOf bs) t1, .ref D, .ref r5].toArray := by rw [← hh6]; exact pl_new h5 _
  have hn5 : h5.get? h5.objs.size = none := none_ge (Nat.le_refl _)
  have hs6 : h6.objs.size = h5.objs.size + 1 := by rw [← hh6]; exact Heap.size_push ..
  generalize hd6 : h5.objs.size = d6 at hp6 hn5 hs6
  have X6 := X5.keeps k56
  refine wpAny_pyIter_list (s := { s with heap := h6, toks := _ }) (pl_list hp6) ?_
  dsimp only
  have hI6 : h6.get? h6.objs.size = none := none_ge (Nat.le_refl _)
  have hdI : @Ne Nat d6 h6.objs.size := by omega
  have hI5 : h5.get? h6.objs.size = none := none_ge (by show @LE.le Nat _ h5.objs.size h6.objs.size; omega)
  refine ⟨h6.objs.size, [h6.objs.size, d6], _, _, _, m, fun m' => m' (Str.ofString "m") = some (.int (bs.length : Nat) tm) ∧ m' (Str.ofString "weights") = some (.ref lw), rfl, Walks.list (by exact hA.2.1) h6.objs.size d6 hdI _, ?_, X6.gnone hI6,
    ⟨⟨_, Heap.get?_push_size _ rfl, rfl, rfl⟩, (pl_list hp6).at fun o e => Heap.get?_push_of_some _ e⟩, X6.push _, ⟨mm, mw⟩, ?step, ⟨_, _, rfl⟩, ?done⟩
  · intro b hb
    simp only [List.mem_cons, List.not_mem_nil, or_false] at hb
    rcases hb with rfl | rfl
    · exact X6.new hnd hI6
    · exact X5.new hnd hn5
  case done =>
    rintro h tk m' X' ⟨a1, a2⟩ mv
    exact rest h tk m' a1 a2 X' fun b o hb e => mv b o (fun q => by
      rcases List.mem_cons.mp q with q | q
      · rw [q] at e
        have := k05 _ _ e
        rw [hI5] at this; cases this
      · exact hb q) (Heap.get?_push_of_some _ (k56 _ _ (k05 _ _ e)))
  case step =>
    rintro i v h tk m₁ E' hi hP ⟨a1, a2⟩ X' mv
    have hv : v ∈ [Value.str (textOf bs) t1, .ref D, .ref r5] := List.mem_of_getElem? (by simpa using hP)
    have keep5 : ∀ b o, b ∉ DD L _ → h5.get? b = some o → h.get? b = some o := fun b o hb e => mv b o (fun q => by
      rcases List.mem_cons.mp q with q | q
      · rw [q, hI5] at e; cases e
      · exact hb q) (Heap.get?_push_of_some _ (k56 _ _ e))
    have srcv : CsSrc h v bs := cs_keep (src v hv) fun b o xs n e hd => keep5 b o (X5.notDD hnd e hd) e
    obtain ⟨wvs, ⟨hlwD, hlw⟩, hwr⟩ := FW
    have hlwh : h.PlainList lw wvs.toArray := let ⟨n, e⟩ := hlw; ⟨n, keep5 _ _ hlwD (k05 _ _ e)⟩
    refine wpAny_execs_cons (wpAny_If (wpAny_isTrue_Compare1 (Call_ ?_)))
    refine nameX_K (s := { s with heap := h, toks := tk }) X'.F KX T (by k_is) ?_
    refine callWith_K KX (by k_is) ?_
    refine args_cons (ldLoc (s := { s with heap := h, toks := tk }) X'.F (if_pos rfl) ?_)
    refine args_nil ?_
    refine ⟨kin_keeps KX X'.F.keep, wpAny_call ?_⟩
    refine cs2w_spec (s := { s with heap := h, toks := tk }) (hA.less (by omega)) (kin_keeps KX X'.F.keep) (T.keeps X'.F.keep) srcv hb0 hbl fun h7 tk7 r7 wvs7 k7 hrn7 hp7 hw7 => ?_
    dsimp only at k7 ⊢
    have X7 := X'.keeps k7
    refine ldLoc (s := { s with heap := h7, toks := tk7 }) X7.F ((if_neg (by decide)).trans a2) ?_
    refine ne_floats (s := { s with heap := h7, toks := tk7 }) (kin_keeps KX X7.F.keep) hp7 hw7 (pl_keep hlwh k7) hwr (wts_self hbl hb0) (by have := hA.2.2; show A.units < 9900; omega) ?_
    refine wpAny_truthy_bool ?_
    rw [if_neg (by decide)]
    refine wpAny_execs_nil ?_
    dsimp only
    refine wpAny_execs_nil ⟨rfl, h7, tk7, _, rfl, X7, ⟨(if_neg (by decide)).trans a1, (if_neg (by decide)).trans a2⟩, Mv.keep k7⟩
end Mine
end

section
open PySem PySem.W PySem.Calls PyProof.Rows
set_option Elab.async false
set_option maxRecDepth 100000
set_option maxHeartbeats 8000000
namespace Mine
theorem fillK_LWK : PySem.Challenge.rw_au6018_01 = PySem.Challenge.rw_au6018_01 → hd.heap_39 = hd.heap_39 → True := by
  k_fill
  intro _ _; trivial

theorem seg10 {w : World} {A : Around} {s : Shared} {Q : Flow → Shared → Prop} {E : Value → Shared → Prop} {mg mb} {g : Heap} {L : Nat} {m cm : Str → Option Value} (hA : AOk A 20)
    {name qual : Str} {params : Arguments} {body : List Stmt} {sc : Scope} {dV kV doc pm cdv ct oc : Value} {an od : Option Addr} {osl : Array (Option Value)}
    (ho : (hd.heap_39 w.params).lookup 707 = some ⟨oc, od, .func (fnOf name qual params body sc dV kV doc pm an cdv ct), osl⟩)
    (X : Fc g L sc s.heap m cm) (KX : (hd.heap_39 w.params).In g) (T : TopRead hd.view_39 LOOSE mg mb g)
    {lr lw : Addr} {bs : List Bool} {tm : Tok} (hbl : bs.length ≤ 8) (hb0 : bs[0]? = some true) (cr : cm (Str.ofString "row") = some (.ref lr)) (mm : m (Str.ofString "m") = some (.int (bs.length : Nat) tm)) (mw : m (Str.ofString "weights") = some (.ref lw))
    (SR : SL' (DD L sc) s.heap lr bs) (FW : FL (DD L sc) s.heap lw ((wts bs).1.map (fw (wts bs).2)))
    (rest : ∀ h tk m', Fc g L sc h m' cm → Mv (DD L sc) s.heap h →
      wpS (model PG w) A (execs (body.drop 22) (envOfC qual sc L 707 cdv)) Q E { s with heap := h, toks := tk }) :
    wpS (model PG w) A (execs (body.drop 21) (envOfC qual sc L 707 cdv)) Q E s := by
  refine' lawfn_eq ?k ho ?h
  case k => k_is
  case h =>
  rintro rfl rfl hsc rfl
  clear ho
  have hnd : ((cellsFrom 0 sc.names []).map (·.1)).Nodup := by rw [hsc]; decide
  subst hsc
  obtain ⟨w1, w2, w3, w4⟩ := wts_facts hbl hb0
  refine execs_A ?_
  refine forC (g := g) (cm := cm) hnd rfl (by rfl) ?_
  refine range_it X.F KX T (by k_is) (by boot_by_name) (n := bs.length) (by omega) (fun Q h => ldLoc X.F mm h) rfl (by rfl) rfl rfl (by rfl) (by rfl) fun H I tkH kH hI hH hit => ?_
  have XH := X.keeps kH
  have hIn : s.heap.get? I = none := none_ge hI
  refine ⟨I, [I], _, _, _, m, fun m' => m' (Str.ofString "weights") = some (.ref lw), rfl, (Walks.range (by exact hA.2.1) I 0 1 bs.length), fun b hb => by rw [List.mem_singleton.mp hb]; exact X.new hnd hIn, X.gnone hIn, hit, XH, mw, ?step, ⟨_, _, rfl⟩, ?done⟩
  case done =>
    intro h tk m' X' _ mv
    exact rest h tk m' X' fun b o hb e => mv b o (fun q => by
      rcases List.mem_cons.mp q with q | q
      · rw [q, hIn] at e; cases e
      · exact hb q) (kH _ _ e)
  case step =>
  rintro i v h tk m₁ E' hi ⟨tv, rfl⟩ a1 X' mv
  have e0 : (0 : Int) + (i : Int) * 1 = (i : Nat) := by omega
  rw [e0] at X'
  dsimp only at mv
  have mvs : Mv (DD L _) s.heap h := fun b o hb e => mv b o (fun q => by
      rcases List.mem_cons.mp q with q | q
      · rw [q, hIn] at e; cases e
      · exact hb q) (kH _ _ e)
  refine wpAny_execs_cons (wpAny_mono (Q := fun fl s₃ => fl = .next ∧ ∃ h' tk' m', s₃ = { s with heap := h', toks := tk' } ∧ Fc g L _ h' m' cm ∧ m' (Str.ofString "weights") = some (.ref lw) ∧ Mv (DD L _) h h') ?inner (fun fl s₃ hq => by
    obtain ⟨rfl, hq⟩ := hq
    exact wpAny_execs_nil ⟨rfl, hq⟩) (fun _ _ e => e))
  case inner =>
  refine forC (s := { s with heap := h, toks := tk }) (g := g) (cm := cm) hnd rfl (by rfl) ?_
  refine range_it (s := { s with heap := h, toks := tk }) X'.F KX T (by k_is) (by boot_by_name) (n := i) (by omega) (fun Q h' => ldLoc (s := { s with heap := h, toks := tk }) X'.F (if_pos rfl) h') rfl (by rfl) rfl rfl (by rfl) (by rfl) fun H2 I2 tk2 kH2 hI2 hH2 hit2 => ?_
  dsimp only at kH2 hI2
  have XH2 := X'.keeps kH2
  have hIn2 : h.get? I2 = none := none_ge hI2
  refine ⟨I2, [I2], _, _, _, _, fun m' => m' (Str.ofString "weights") = some (.ref lw) ∧ m' (Str.ofString "a") = some (.int (i : Nat) tv), rfl, (Walks.range (by exact hA.2.1) I2 0 1 i), fun b hb => by rw [List.mem_singleton.mp hb]; exact X'.new hnd hIn2, X'.gnone hIn2, hit2, XH2, ⟨(if_neg (by decide)).trans a1, if_pos rfl⟩, ?step2, ⟨_, _, rfl⟩, ?done2⟩
  case done2 =>
    rintro h' tk' m' X2 ⟨b1, b2⟩ mv2
    exact ⟨rfl, h', tk', m', rfl, X2, b1, fun b o hb e => mv2 b o (fun q => by
      rcases List.mem_cons.mp q with q | q
      · rw [q, hIn2] at e; cases e
      · exact hb q) (kH2 _ _ e)⟩
  case step2 =>
  rintro j v2 h2 tk3 m2 E2 hj ⟨tv2, rfl⟩ ⟨b1, b2⟩ X2 mv2
  have e2 : (0 : Int) + (j : Int) * 1 = (j : Nat) := by omega
  rw [e2] at X2
  have mvh : Mv (DD L _) h h2 := fun b o hb e => mv2 b o (fun q => by
      rcases List.mem_cons.mp q with q | q
      · rw [q, hIn2] at e; cases e
      · exact hb q) (kH2 _ _ e)
  obtain ⟨rvs, ⟨hlrD, hlr⟩, hrr⟩ := (SR.mv mvs).mv mvh
  obtain ⟨wvs, ⟨hlwD, hlw⟩, hwr⟩ := (FW.mv mvs).mv mvh
  have hwl : (wts bs).1.length = bs.length := wts_len bs
  have hgi : ((wts bs).1.map (fw (wts bs).2))[i]? = some (fw (wts bs).2 ((wts bs).1.getD i 0)) := by simp [hwl, hi]
  have hgj : ((wts bs).1.map (fw (wts bs).2))[j]? = some (fw (wts bs).2 ((wts bs).1.getD j 0)) := by simp [hwl, show j < bs.length by omega]
  obtain ⟨vi, hvi, ti, _, rfl⟩ := hwr.get hgi
  obtain ⟨vj, hvj, tj, _, rfl⟩ := hwr.get hgj
  obtain ⟨ri, hri, tr, rfl⟩ := hrr.get (show bs[i]? = some (bs.getD i false) by simp [hi])
  refine wpAny_execs_cons (wpAny_If (wpAny_isTrue_Compare1 (wpAny_Compare1 ?_)))
  refine wpAny_BinOp (wpAny_BinOp (wpAny_BinOp (Subscript_ (ldLoc (s := { s with heap := h2, toks := tk3 }) X2.F ((if_neg (by decide)).trans b1) ?_))))
  refine ldLoc (s := { s with heap := h2, toks := tk3 }) X2.F ((if_neg (by decide)).trans b2) ?_
  refine pl_item (s := { s with heap := h2, toks := tk3 }) hlw (by omega) (by omega) (by rw [Int.toNat_natCast]; exact hvi) ?_
  refine Subscript_ (ldLoc (s := { s with heap := h2, toks := tk3 }) X2.F ((if_neg (by decide)).trans b1) ?_)
  refine ldLoc (s := { s with heap := h2, toks := tk3 }) X2.F (if_pos rfl) ?_
  refine pl_item (s := { s with heap := h2, toks := tk3 }) hlw (by omega) (by omega) (by rw [Int.toNat_natCast]; exact hvj) ?_
  refine add_float ?_
  refine wpAny_Constant_int ?_
  refine sub_fi_fits (by decide) ?_
  refine wpAny_BinOp (wpAny_Constant_int ?_)
  refine wpAny_Constant_int ?_
  refine pow_int_small (by omega) (by omega) (by decide) ?_
  refine mul_fi_fits (by decide) ?_
  refine UnaryOp_ (wpAny_Constant_int (neg_int ?_))
  refine gt_fi ?_
  have hck : (Float64.cmpInt (fsum (wts bs).2 ((wts bs).1.getD i 0) ((wts bs).1.getD j 0)) (-1) == some Ordering.gt) = bs.getD i false := by
    rw [fchk_of w1 w2 (w3 _ (by rw [List.getD_eq_getElem?_getD, List.getElem?_eq_getElem (by omega)]; exact List.getElem_mem ..)) (w3 _ (by rw [List.getD_eq_getElem?_getD, List.getElem?_eq_getElem (by omega)]; exact List.getElem_mem ..))]
    exact w4 i j hi hj
  have hck' : (Float64.cmpInt (Float64.mul (Float64.sub (Float64.add (fw (wts bs).2 ((wts bs).1.getD i 0)) (fw (wts bs).2 ((wts bs).1.getD j 0))) (Float64.ofInt 1)) (Float64.ofInt (2 ^ Int.toNat 30))) (-1) == some Ordering.gt) = bs.getD i false := hck
  rw [hck']
  refine wpAny_Compare1 ?_
  refine Subscript_ (ldC (s := { s with heap := h2, toks := _ }) X2.X (by rfl) cr ?_)
  refine ldLoc (s := { s with heap := h2, toks := _ }) X2.F ((if_neg (by decide)).trans b2) ?_
  refine pl_item (s := { s with heap := h2, toks := _ }) hlr (by omega) (by omega) (by rw [Int.toNat_natCast]; exact hri) ?_
  refine wpAny_Constant_str ?_
  refine eq_let (b := true) ?_
  refine (SeqAt.RcNeAt.bool_bool (bs.getD i false) (bs.getD i false == true)) PG w _ _ ?_
  refine wpAny_truthy_bool ?_
  rw [show (!(bs.getD i false == (bs.getD i false == true))) = false by cases bs.getD i false <;> rfl, if_neg (by decide)]
  refine wpAny_execs_nil ?_
  dsimp only
  exact wpAny_execs_nil ⟨rfl, h2, _, _, rfl, X2, ⟨(if_neg (by decide)).trans b1, (if_neg (by decide)).trans b2⟩, Mv.refl⟩
end Mine
end

section
open PySem PySem.W PySem.Calls PyProof.Rows
set_option Elab.async false
set_option maxRecDepth 100000
set_option maxHeartbeats 8000000
namespace Mine
theorem fillK_LWY : PySem.Challenge.rw_au6018_01 = PySem.Challenge.rw_au6018_01 → hd.heap_39 = hd.heap_39 → True := by
  k_fill
  intro _ _; trivial
theorem vOf_len (fs : List Int) : (vOf fs).length = nOf fs := by simp [vOf]
theorem sOf_len (fs : List Int) : (sOf fs).length = nOf fs := by simp [sOf]
theorem vOf_even (fs : List Int) : ∀ v ∈ vOf fs, v % 2 = 0 := by
  intro v hv
  obtain ⟨k, _, rfl⟩ := List.mem_map.mp hv
  omega
theorem vOf_bd (fs : List Int) : ∀ v ∈ vOf fs, -100 ≤ v ∧ v ≤ 100 := by
  intro v hv
  obtain ⟨k, _, rfl⟩ := List.mem_map.mp hv
  have := fmod_bd (fs.getD (1 + k) 0) 12 (by decide)
  omega
theorem tOf_odd (fs : List Int) : tOf fs % 2 = 1 := by unfold tOf; omega
theorem tOf_bd (fs : List Int) : -100 ≤ tOf fs ∧ tOf fs ≤ 100 := by
  have := fmod_bd (fs.getD 8 0) 12 (by decide)
  unfold tOf
  omega
theorem sOf_nodup (fs : List Int) : (sOf fs).Nodup := by
  have hb := nOf_bd fs
  unfold sOf List.Nodup
  rw [List.pairwise_map]
  refine List.Pairwise.imp_of_mem ?_ (List.pairwise_lt_range (n := nOf fs))
  intro a b ha hb2 hlt e
  have h1 := List.mem_range.mp ha
  have h2 := List.mem_range.mp hb2
  omega

theorem law_spec {w : World} {s : Shared} {R : Result → Shared → Prop} {mean mg mb} {base : Heap}
    {name qual : Str} {params : Arguments} {body : List Stmt} {sc : Scope} {dV kV doc pm cdv ct oc : Value} {an od : Option Addr} {osl : Array (Option Value)}
    (ho : (hd.heap_39 w.params).lookup 707 = some ⟨oc, od, .func (fnOf name qual params body sc dV kV doc pm an cdv ct), osl⟩) (hcd : codeIn (hd.heap_39 w.params) cdv qual = true)
    (KX : (hd.heap_39 w.params).In s.heap) (T : Top hd.view_39 LOOSE mean mg mb s.heap) (B : Below callerA base [] s.heap)
    {l : Addr} {vs : List Value} {ns : List Int} (hl : s.heap.IsList l vs.toArray) (hi : IntsAre vs ns) (hn : ns.length ≤ 100)
    (hbind : BindsTo s (fnOf name qual params body sc dV kV doc pm an cdv ct) ⟨[.ref l], []⟩ [(Str.ofString "script", .ref l)]) (hsl : sc.names.lookup (Str.ofString "script") = some .local)
    (hco : sc.isCoroutine = false) (hgen : sc.isGenerator = false) (hk : sc.kind = .function)
    (hret : ∀ (L : Nat) (h : Heap) (tk : Nat) (m cm : Str → Option Value) (lv : Addr) (V : List Int), Fc s.heap L sc h m cm → cm (Str.ofString "values") = some (.ref lv) → IL (DD L sc) h lv V → V.length ≤ 8 →
      wpS (model PG w) (callerA.deeper (envOfC qual sc L 707 cdv)) (execs (body.drop 22) (envOfC qual sc L 707 cdv)) (fun fl s' => R (.ok (.ret (match fl with | .ret v => v | _ => .none))) s') (fun _ _ => False) { s with heap := h, toks := tk }) :
    codeS (model PG w) callerA (.call (.ref 707) ⟨[.ref l], []⟩) R s := by
  refine enterCS (binds := [(Str.ofString "script", .ref l)]) Sub.refl KX T.nolimit ho hcd (by decide) hbind ?_ ?_ hco hgen hk
  · intro n x hx
    rw [List.mem_singleton.mp hx]
    exact .inl hsl
  intro L h₁ tk hL F X hsub
  generalize hcm : bindC _ _ _ = cm at X
  have m1 : bindL (envOfC qual sc L 707 cdv).kindOf [(Str.ofString "script", .ref l)] (fun _ => none) (Str.ofString "script") = some (.ref l) := by
    have hkk : (envOfC qual sc L 707 cdv).kindOf (Str.ofString "script") = some .local := hsl
    unfold bindL
    rw [if_pos hkk]
    unfold bindL
    exact if_pos rfl
  generalize bindL _ _ _ = m₀ at F m1
  have T' := topRead_of T
  have hA : AOk (callerA.deeper (envOfC qual sc L 707 cdv)) 20 := ⟨by show callerA.depth + 1 + 20 < 1000; decide, rfl, by show callerA.units + 3 + 3 * 20 + 30 < 9900; decide⟩
  refine seg1 (s := { s with heap := h₁, toks := tk }) (hA.less (by omega)) ho ⟨F, X⟩ KX T' m1 hl hi hn ?_
  rintro h1 tk1 cm1 lf lv ln fs hfl X1 ⟨c1, c2, c3, ⟨tn, c4⟩, ⟨tl, c5⟩⟩ IF1 IV1 IN1
  have nb := nOf_bd fs
  have hvl := vOf_len fs
  have hsl2 := sOf_len fs
  dsimp only
  rw [← hvl] at c4
  refine seg2 (s := { s with heap := h1, toks := tk1 }) (hA.less (by omega)) ho X1 KX T' (by omega) c2 c4 c5 IV1 ?_
  intro h2 tk2 lr X2 NL2 mv2
  dsimp only at mv2 ⊢
  refine seg3 (s := { s with heap := h2, toks := tk2 }) (hA.less (by omega)) ho X2 KX T' (by omega) (by omega) c2 c4 c5 (IV1.mv mv2) ?_
  intro h3 tk3 r C P' X3 TL3 hperm hsort hpeel mv3
  dsimp only at mv3 ⊢
  have ev := vOf_even fs
  have od := tOf_odd fs
  have NL3 := NL2.mv mv3
  refine seg4 (s := { s with heap := h3, toks := tk3 }) ho rfl X3 KX T B (by omega) (by omega) c4 (if_pos rfl) ((if_neg (by decide)).trans (if_pos rfl)) TL3 NL3 hperm hsort hpeel ev od ?_
  intro h4 tk4 X4 mv4
  dsimp only at mv4 ⊢
  have mv14 := (mv2.trans mv3).trans mv4
  refine seg5 (s := { s with heap := h4, toks := tk4 }) hA ho X4 KX T' (by omega) (by omega) c2 c5 (if_pos rfl) (TL3.mv mv4) (IV1.mv mv14) hperm hsort hpeel ?_
  intro h5 tk5 lt X5 mv5
  dsimp only at mv5 ⊢
  have mv15 := mv14.trans mv5
  refine seg6 (s := { s with heap := h5, toks := tk5 }) ho rfl X5 KX T B (by omega) (by omega) (by omega) (sOf_nodup fs) c2 c3 c4 c5 ((if_neg (by decide)).trans ((if_neg (by decide)).trans (if_pos rfl))) (IV1.mv mv15) (IN1.mv mv15) ((NL3.mv mv4).mv mv5) ev od ?_
  intro h6 tk6 D6 X6 mv6
  dsimp only at mv6 ⊢
  have mv16 := mv15.trans mv6
  refine seg7 (s := { s with heap := h6, toks := tk6 }) hA ho X6 KX T' (by omega) (by omega) hfl (vOf_bd fs) (tOf_bd fs) c1 c2 c5 ((if_neg (by decide)).trans ((if_neg (by decide)).trans (if_pos rfl))) (IF1.mv mv16) (IV1.mv mv16) (((TL3.mv mv4).mv mv5).mv mv6) hperm hsort hpeel ?_
  intro h7 tk7 cm7 o7 X7 mv7
  dsimp only at mv7 ⊢
  have mv17 := mv16.trans mv7
  refine seg8 (s := { s with heap := h7, toks := tk7 }) hA ho X7 KX T' hfl ((o7 _ (by decide)).trans c1) (IF1.mv mv17) ?_
  rintro h8 tk8 m8 cm8 lrow lw o8 cr8 ⟨tm, mm8⟩ mw8 X8 mv8 SR8 FW8
  dsimp only at mv8 ⊢
  have mb := mOf_bd fs
  have hrl := rowOf_len fs
  rw [← hrl] at mm8
  refine seg9 (s := { s with heap := h8, toks := tk8 }) hA ho X8 KX T' (by omega) rfl cr8 mm8 mw8 SR8 FW8 ?_
  intro h9 tk9 m9 mm9 mw9 X9 mv9
  dsimp only at mv9 ⊢
  refine seg10 (s := { s with heap := h9, toks := tk9 }) hA ho X9 KX T' (by omega) rfl cr8 mm9 mw9 (SR8.mv mv9) (FW8.mv mv9) ?_
  intro h10 tk10 m10 X10 mv10
  dsimp only at mv10 ⊢
  exact hret L h10 tk10 m10 cm8 lv (vOf fs) X10 ((o8 _ (by decide)).trans ((o7 _ (by decide)).trans c2)) (IV1.mv (((mv17.trans mv8).trans mv9).trans mv10)) (by omega)
end Mine
end

section
open PySem PySem.W PySem.Calls PyProof.Rows
set_option Elab.async false
set_option maxRecDepth 100000
set_option maxHeartbeats 8000000
namespace Mine
def TrX (h B : Heap) (e : Addr) (cls c2 fl : Value) : Prop :=
  ∃ oe vs T oT ts, h.get? e = some oe ∧ oe.cls = cls ∧ oe.data = .fields vs ∧ vs[2]? = some c2 ∧ vs[1]? = some (.ref T) ∧ B.get? T = none ∧ T ≠ e ∧ h.get? T = some oT ∧ oT.data = .fields ts ∧ ts[3]? = some fl
structure FlyX (B : Heap) (l : List Env) (e : Addr) (cls c2 fl : Value) (h : Heap) : Prop where
  stays : B.StaysIn h
  new : B.get? e = none
  frames : h.FunFrames B l
  tr : TrX h B e cls c2 fl
section
variable {M : Model} {A : Around} {E : Value → Shared → Prop} {s : Shared}
theorem entryX {B : Heap} {env : Env} {outer : List Env} {L e : Addr} {oe : Obj} {vs : Array Value} {head c2 : Value} {hadNext : Bool} {Q : Unit → Shared → Prop}
    (hfr : A.frames = some (env :: outer)) (hl : s.heap.FunFrames B (env :: outer)) (hf : env.frame = some L)
    (he : s.heap.get? e = some oe) (hkb : B.StaysIn s.heap) (hen : B.get? e = none) (hd : oe.data = .fields vs) (hsz : 1 < vs.size) (h2 : vs[2]? = some c2)
    (h : ∀ h', FlyX B (env :: outer) e oe.cls c2 (rawInt L) h' → s.heap.UpToSlots h' → Q () { s with heap := h' }) :
    wpAny M A (do let a ← frameOf env; let pl ← entryPlaceOf L hadNext; let b ← EntryCells.newEntry head a .none (rawInt L) .none pl; setField (.ref e) 1 b) Q E s := by
  have hene : e ∉ (env :: outer).filterMap (·.frame) := fun hm => by
    obtain ⟨_, o, ho, hnf⟩ := hl.mem hm
    rw [he] at ho; cases ho; exact hnf vs hd
  refine wpAny_bind (wpAny_frameOf_fun hfr hl hf fun h₁ hs₁ => ?_)
  refine wpAny_bind (wpAny_entryPlaceOf fun pl hpl => ?_)
  unfold EntryCells.newEntry newFields
  refine wpAny_bind (wpAny_newObj_type ?_ (hpl.sizeOk5 _ _ _ _ _))
  dsimp only
  generalize hts : ([head, Value.ref L, .none, rawInt L, .none] ++ (if pl.isEmpty = true then List.replicate 6 Value.none else pl)).toArray = ts
  have ht3 : ts[3]? = some (rawInt L) := by rw [← hts]; simp
  have he₁ : h₁.get? e = some oe := (hs₁.2.1 e hene).trans he
  have kb₁ : B.StaysIn h₁ := fun b o hbo => (hs₁.2.1 b fun hm => by rw [(hl.mem hm).1] at hbo; cases hbo).trans (hkb b o hbo)
  generalize hH : h₁.push { cls := .type "traceback", dict := none, data := .fields ts } = H
  have hkH : ∀ b o, h₁.get? b = some o → H.get? b = some o := fun b o x => by rw [← hH]; exact Heap.get?_push_of_some _ x
  have hT : H.get? h₁.objs.size = some { cls := .type "traceback", dict := none, data := .fields ts } := by rw [← hH]; exact Heap.get?_push_size _ rfl
  have hTe : h₁.objs.size ≠ e := Nat.ne_of_gt (Heap.lt_size he₁)
  refine wpAny_setField (hkH _ _ he₁) hd hsz (h _ ?_ ?_)
  · have hd₃ := Obj.data_mapFields hd (·.setIfInBounds 1 (Value.ref h₁.objs.size))
    have other : ∀ b o, b ≠ e → h₁.get? b = some o → (H.update e (Obj.mapFields (·.setIfInBounds 1 (Value.ref h₁.objs.size)))).get? b = some o := fun b o hb x => (Heap.get?_update_other _ _ (Ne.symm hb)).trans (hkH b o x)
    refine ⟨fun b o hbo => other b o (fun q => by rw [q, hen] at hbo; cases hbo) (kb₁ b o hbo), hen, hl.of_keeps fun b o hb hnf => ?_, ?_⟩
    · obtain ⟨sl, hs⟩ := hs₁.2.2 b o hb
      exact ⟨_, other b _ (fun q => by rw [q, he] at hb; cases hb; exact hnf vs hd) hs, rfl⟩
    · exact ⟨_, _, h₁.objs.size, _, _, Heap.get?_update_self _ (hkH _ _ he₁) (Obj.isFreed_of_fields hd₃), Obj.cls_mapFields _ _, hd₃, by rw [Array.getElem?_setIfInBounds_ne (by decide)]; exact h2, by simp [hsz], kb₁.fresh, hTe,
        (Heap.get?_update_other _ _ (Ne.symm hTe)).trans hT, rfl, ht3⟩
  · intro b o hb hnf
    obtain ⟨sl, hs⟩ := hs₁.2.2 b o hb
    exact ⟨sl, (Heap.get?_update_other _ _ (fun q => by rw [← q, he] at hb; cases hb; exact hnf vs hd)).trans (hkH _ _ hs)⟩

theorem noteX_first {B : Heap} {env : Env} {outer : List Env} {L e : Addr} {oe : Obj} {vs : Array Value} {c2 : Value} {Q : Unit → Shared → Prop}
    (hfr : A.frames = some (env :: outer)) (hl : s.heap.FunFrames B (env :: outer)) (hf : env.frame = some L)
    (he : s.heap.get? e = some oe) (hkb : B.StaysIn s.heap) (hen : B.get? e = none) (hd : oe.data = .fields vs) (h1 : vs[1]? = some .none) (h2 : vs[2]? = some c2)
    (h : ∀ h', FlyX B (env :: outer) e oe.cls c2 (rawInt L) h' → s.heap.UpToSlots h' → Q () { s with heap := h' }) : wpAny M A (noteFrame (.ref e) env) Q E s := by
  unfold noteFrame
  simp only [hf]
  refine wpAny_bind (wpAny_field he hd h1 ?_)
  rw [if_neg (by decide)]
  exact entryX hfr hl hf he hkb hen hd (Array.getElem?_eq_some_iff.mp h1).1 h2 h
theorem noteX_next {B : Heap} {env : Env} {outer : List Env} {L e : Addr} {cls c2 : Value} {Q : Unit → Shared → Prop}
    (hfr : A.frames = some (env :: outer)) (hf : env.frame = some L) (x : FlyX B (env :: outer) e cls c2 .none s.heap)
    (h : ∀ h', FlyX B (env :: outer) e cls c2 (rawInt L) h' → s.heap.UpToSlots h' → Q () { s with heap := h' }) : wpAny M A (noteFrame (.ref e) env) Q E s := by
  obtain ⟨x1, x2, x3, oe, vs, T, oT, ts, he, hcls, hd, h2, h1, hnT, hTe, hT, hdT, h3⟩ := x
  subst hcls
  unfold noteFrame
  simp only [hf]
  refine wpAny_bind (wpAny_field he hd h1 ?_)
  rw [if_pos (show (Value.ref T != Value.none) = true from by simp)]
  refine wpAny_bind (wpAny_field hT hdT h3 ?_)
  rw [if_neg (show ¬ ((Value.none == rawInt L) = true) from by simp [rawInt])]
  refine wpAny_bind (wpAny_setField hT hdT (Array.getElem?_eq_some_iff.mp h3).1 ?_)
  have other : ∀ b, b ≠ T → (s.heap.update T (Obj.mapFields (·.setIfInBounds 3 Value.none))).get? b = s.heap.get? b := fun b hb => Heap.get?_update_other _ _ (Ne.symm hb)
  have noT : ∀ b o, s.heap.get? b = some o → (∀ vs, o.data ≠ .fields vs) → b ≠ T := fun b o hb hnf q => by
    rw [q, hT] at hb; cases hb; exact hnf ts hdT
  exact entryX hfr (x3.of_keeps fun b o hb hnf => ⟨o, (other b (noT b o hb hnf)).trans hb, rfl⟩) hf ((other e (Ne.symm hTe)).trans he)
    (fun b o hbo => (other b fun q => by rw [q, hnT] at hbo; cases hbo).trans (x1 b o hbo)) x2 hd (Array.getElem?_eq_some_iff.mp h1).1 h2
    fun h' y1 y2 => h h' y1 fun b o hb hnf => y2 b o ((other b (noT b o hb hnf)).trans hb) hnf
theorem flightX {B : Heap} {l : List Env} {e : Addr} {cls c2 fl : Value} {Q : Unit → Shared → Prop} (x : FlyX B l e cls c2 fl s.heap)
    (h : ∀ h', FlyX B l e cls c2 .none h' → s.heap.UpToSlots h' → Q () { s with heap := h' }) : wpAny M A (setFlight (.ref e) none) Q E s := by
  obtain ⟨x1, x2, x3, oe, vs, T, oT, ts, he, hcls, hd, h2, h1, hnT, hTe, hT, hdT, h3⟩ := x
  have hsz3 : 3 < ts.size := (Array.getElem?_eq_some_iff.mp h3).1
  have other : ∀ b, b ≠ T → (s.heap.update T (Obj.mapFields (·.setIfInBounds 3 ((none : Option Addr).elim Value.none fun f => rawInt f)))).get? b = s.heap.get? b := fun b hb => Heap.get?_update_other _ _ (Ne.symm hb)
  have noT : ∀ b o, s.heap.get? b = some o → (∀ vs, o.data ≠ .fields vs) → b ≠ T := fun b o hb hnf q => by
    rw [q, hT] at hb; cases hb; exact hnf ts hdT
  unfold setFlight
  refine wpAny_bind (wpAny_field he hd h1 ?_)
  rw [if_pos (show (Value.ref T != Value.none) = true from by simp)]
  refine wpAny_setField hT hdT hsz3 (h _ ⟨fun b o hbo => (other b fun q => by rw [q, hnT] at hbo; cases hbo).trans (x1 b o hbo), x2, x3.of_keeps fun b o hb hnf => ⟨o, (other b (noT b o hb hnf)).trans hb, rfl⟩,
    oe, vs, T, _, _, (other e (Ne.symm hTe)).trans he, hcls, hd, h2, h1, hnT, hTe, Heap.get?_update_self _ hT (Obj.isFreed_of_fields (Obj.data_mapFields hdT _)), Obj.data_mapFields hdT _, by simp [hsz3]⟩
    fun b o hb hnf => ⟨o.slots, (other b (noT b o hb hnf)).trans hb⟩)
theorem leaveX_first {B : Heap} {env : Env} {outer : List Env} {L e : Addr} {oe : Obj} {vs : Array Value} {c2 : Value} {Q : Unit → Shared → Prop}
    (hfr : A.frames = some (env :: outer)) (hl : s.heap.FunFrames B (env :: outer)) (hf : env.frame = some L)
    (he : s.heap.get? e = some oe) (hkb : B.StaysIn s.heap) (hen : B.get? e = none) (hd : oe.data = .fields vs) (h1 : vs[1]? = some .none) (h2 : vs[2]? = some c2)
    (h : ∀ h', FlyX B outer e oe.cls c2 .none h' → s.heap.UpToSlots h' → Q () { s with heap := h' }) : wpAny M A (leaving env (.ref e)) Q E s := by
  unfold leaving
  refine wpAny_bind (noteX_first hfr hl hf he hkb hen hd h1 h2 fun h₁ y1 u1 => ?_)
  refine flightX (s := { s with heap := h₁ }) y1 fun h₂ y2 u2 => ?_
  obtain ⟨z1, z2, ⟨_, _, z3⟩, z4⟩ := y2
  exact h h₂ ⟨z1, z2, z3, z4⟩ (u1.trans u2)
end
end Mine
end

section
open PySem PySem.W PySem.Calls PyProof.Rows
set_option Elab.async false
set_option maxRecDepth 100000
set_option maxHeartbeats 8000000
namespace Mine
theorem fillK_CR : PySem.Challenge.rw_au6018_01 = PySem.Challenge.rw_au6018_01 → hd.heap_39 = hd.heap_39 → True := by
  k_fill
  intro _ _; trivial
section
variable {prog : Program} {w : World} {A : Around} {s : Shared} {K : Frag} {R : Result → Shared → Prop}
theorem enterCE {g : Heap} {name qual : Str} {params : Arguments} {body : List Stmt} {scope : Scope} {dV kV doc pm cdv ct oc : Value} {an od : Option Addr} {osl : Array (Option Value)} {f : Addr} {args : Args} {binds : List (Str × Value)}
    (S : Sub g s.heap) (X : K.In g) (hlim : g.NoLimit)
    (ho : K.lookup f = some ⟨oc, od, .func (fnOf name qual params body scope dV kV doc pm an cdv ct), osl⟩) (hcd : codeIn K cdv qual = true) (hroom : A.depth < recursionLimit)
    (hbind : BindsTo s (fnOf name qual params body scope dV kV doc pm an cdv ct) args binds)
    (hkind : ∀ n, ∀ x ∈ binds, scope.names.lookup x.1 = some .local ∨ (scope.names.lookup x.1 = some .cell ∧ ((cellsFrom n scope.names []).lookup x.1).isSome = true))
    (h : ∀ L h₁ tk, L = s.heap.objs.size → Fr g L h₁ (bindL (envOfC qual scope L f cdv).kindOf binds fun _ => none) → Sub s.heap h₁ →
      wpAny (model prog w) (A.deeper (envOfC qual scope L f cdv)) (execs body (envOfC qual scope L f cdv))
        (fun fl s' => R (.ok (.ret (match fl with | .ret v => v | _ => .none))) s')
        (fun e s' => wpAny (model prog w) (A.deeper (envOfC qual scope L f cdv)) (leaving (envOfC qual scope L f cdv) e) (fun _ s'' => R (.error e) s'') (fun e' s'' => R (.error e') s'') s')
        { s with heap := h₁, toks := tk })
    (hco : scope.isCoroutine = false) (hgen : scope.isGenerator = false) (hk : scope.kind = .function) : codeAny (model prog w) A (.call (.ref f) args) R s := by
  refine codeAny_call_function (fd := fnOf name qual params body scope dV kV doc pm an cdv ct) hroom (S.keep _ _ (X _ _ ho)) rfl hco hgen rfl (codeRec_of (X.keeps S.keep) hcd) (hbind _ _ _ _ (wpAny_newFunctionEnv_cells hk (hkind _) fun env he s' Y => ?_))
  subst he
  obtain ⟨h₁, tk, rfl, _⟩ := Y.done
  exact ⟨(hlim.keeps S.keep).keeps Y.toInCall.keep, codeAny_func (h s.heap.objs.size h₁ tk rfl ⟨Y.toInCall.ns, fun b o e => Y.toInCall.keep b o (S.keep b o e), S.size⟩ ⟨Y.toInCall.keep, Nat.le_of_lt Y.toInCall.ns.lt⟩)⟩
end
def offF (l : List Env) (b : Addr) : Prop := b ∉ l.filterMap (·.frame)
theorem leave_new {M : Model} {A : Around} {E : Value → Shared → Prop} {s : Shared} {base g h : Heap} {env : Env} {outer : List Env} {L e : Addr} {cls : String} {c2 : Value} {m : Str → Option Value} {Q : Unit → Shared → Prop}
    (B : Below A base outer g) (F : Fr g L h m) (hf : env.frame = some L) (hk : env.scope.kind = .function) (hkeep : ∀ b o, h.get? b = some o → s.heap.get? b = some o) (hnew : h.get? e = none)
    {ob : Obj} {t : Value} (he : s.heap.get? e = some ob) (hcls : ob.cls = .type cls) (hd : ob.data = .fields #[t, .none, c2, .none, .bool false, .none])
    (hQ : ∀ h' B', (∀ b o, g.get? b = some o → offF outer b → B'.get? b = some o) → FlyX B' outer e (.type cls) c2 .none h' → h.UpToSlots h' → Q () { s with heap := h' }) :
    wpAny M (A.deeper env) (leaving env (.ref e)) Q E s := by
  have K' := pushX B F hf hk
  have hin : ∀ env' ∈ (env :: outer), ∀ b, env'.frame = some b → b ∈ (env :: outer).filterMap (·.frame) := fun env' he b hb => List.mem_filterMap.mpr ⟨env', he, hb⟩
  have hen : (hideAll h ((env :: outer).filterMap (·.frame))).get? e = none := by
    cases q : (hideAll h ((env :: outer).filterMap (·.frame))).get? e with
    | none => rfl
    | some o => have := of_hideAll _ q; rw [hnew] at this; cases this
  refine leaveX_first (B := hideAll h ((env :: outer).filterMap (·.frame))) (c2 := c2) (Around.frames_deeper B.stack) ((funFrames_hide K'.frames hin).of_keeps fun b o hb _ => ⟨o, hkeep b o hb, rfl⟩) hf he (fun b o hb => hkeep b o (of_hideAll _ hb)) hen hd rfl rfl fun h' y u => ?_
  rw [hcls] at y
  refine hQ h' _ (fun b o eb hoff => hideAll_get _ (F.keep b o eb) fun hm => ?_) y ((Heap.UpToSlots.of_keeps hkeep).trans u)
  rw [List.filterMap_cons, hf] at hm
  rcases List.mem_cons.mp hm with q | q
  · rw [q] at eb
    exact absurd (Nat.lt_of_lt_of_le (Heap.lt_size eb) F.above) (Nat.lt_irrefl _)
  · exact hoff q

theorem cs2w_raise {w : World} {A : Around} {s : Shared} {R : Result → Shared → Prop} {base : Heap} {outer : List Env} {mg mb} (hA : AOk A 2) (B : Below A base outer s.heap)
  (KX : (hd.heap_39 w.params).In s.heap) (T : TopRead hd.view_39 LOOSE mg mb s.heap)
  {l : Addr} (hl : s.heap.PlainList l ([Value.none] : List Value).toArray)
  (hR : ∀ h tk e B', (∀ b o, s.heap.get? b = some o → offF outer b → B'.get? b = some o) → FlyX B' outer e (.type "TypeError") .none .none h → s.heap.UpToSlots h → R (.error (.ref e)) { s with heap := h, toks := tk }) :
  codeAny (model PG w) A (.call (.ref 664) ⟨[.ref l], []⟩) R s := by
  refine' enterCE (binds := [(Str.ofString "creation_sequence", .ref l)]) Sub.refl KX T.nolimit ?k1 ?k2 ?k3 ?k4 ?k5 ?h ?k7 ?k8 ?k9
  case k1 => k_is
  case k2 => k_is
  case k3 => exact hA.room
  case k4 => exact BindsTo.of_eq (by rfl)
  case k5 =>
    intro n x hx
    simp only [List.mem_cons, List.not_mem_nil, or_false] at hx
    subst hx
    exact .inl (by rfl)
  case k7 => rfl
  case k8 => rfl
  case k9 => rfl
  intro L h₁ tk hL F hsub
  generalize hm : bindL _ _ _ = m₀ at F
  have m1 : m₀ (Str.ofString "creation_sequence") = some (.ref l) := by rw [← hm]; rfl
  clear hm
  refine wpAny_execs_cons (wpAny_Assign_Name (Subscript_ (ldLoc F m1 ?_)))
  refine wpAny_Constant_int ?_
  refine pl_item (s := { s with heap := h₁, toks := _ }) (pl_keep hl F.keep) (by omega) (by omega) rfl ?_
  refine stG F rfl (fun h2 F2 mv2 => ?_) rfl (by rfl)
  dsimp only
  refine wpAny_execs_cons (wpAny_If (isTrue_plain (Call_ ?_)))
  refine nameX_B (s := { s with heap := h2, toks := _ }) F2 KX T (by k_is) (by boot_by_name) (by decide) ?_
  refine callWith_method1 ?_
  refine args_cons (ldLoc (s := { s with heap := h2, toks := _ }) F2 (if_pos rfl) ?_)
  refine args_cons ?_
  refine nameX_B (s := { s with heap := h2, toks := _ }) F2 KX T (by k_is) (by boot_by_name) (by decide) ?_
  refine args_nil ?_
  refine IsiPair.NoneType_str ?_
  refine wpAny_truthy_bool ?_
  rw [if_neg Bool.false_ne_true]
  refine wpAny_execs_cons (wpAny_If (isTrue_plain (Call_ ?_)))
  refine nameX_B (s := { s with heap := h2, toks := _ }) F2 KX T (by k_is) (by boot_by_name) (by decide) ?_
  refine callWith_method1 ?_
  refine args_cons (ldLoc (s := { s with heap := h2, toks := _ }) F2 (if_pos rfl) ?_)
  refine args_cons ?_
  refine nameX_B (s := { s with heap := h2, toks := _ }) F2 KX T (by k_is) (by boot_by_name) (by decide) ?_
  refine args_nil ?_
  refine IsiPair.NoneType_tuple ?_
  refine wpAny_truthy_bool ?_
  rw [if_neg Bool.false_ne_true]
  refine wpAny_execs_cons (wpAny_If (isTrue_plain (Call_ ?_)))
  refine nameX_B (s := { s with heap := h2, toks := _ }) F2 KX T (by k_is) (by boot_by_name) (by decide) ?_
  refine callWith_method1 ?_
  refine args_cons (ldLoc (s := { s with heap := h2, toks := _ }) F2 (if_pos rfl) ?_)
  refine args_cons ?_
  refine nameX_B (s := { s with heap := h2, toks := _ }) F2 KX T (by k_is) (by boot_by_name) (by decide) ?_
  refine args_nil ?_
  refine IsiPair.NoneType_int ?_
  refine wpAny_truthy_bool ?_
  rw [if_neg Bool.false_ne_true]
  refine wpAny_execs_cons ?_
  refine Raise_new hA.2.1 (Call_ ?_)
  refine nameX_B (s := { s with heap := h2, toks := _ }) F2 KX T (by k_is) (by boot_by_name) (by decide) ?_
  refine cw_type1 ?_
  refine args_cons (wpAny_Constant_str ?_)
  refine args_nil ?_
  refine call_exc_raise excClass_TypeError fun h3 e hx => ?_
  dsimp only at hx
  obtain ⟨ob, t, he, hcls, hd⟩ := hx.there
  refine leave_new (s := { s with heap := h3, toks := _ }) B F2 rfl rfl hx.keeps hx.new he hcls hd fun h' B' hB' y u => ?_
  exact hR h' _ e B' hB' y ((Heap.UpToSlots.of_keeps F2.keep).trans u)
end Mine
end

section
open PySem PySem.W PySem.Calls PyProof.Rows
set_option Elab.async false
set_option maxRecDepth 100000
set_option maxHeartbeats 8000000
namespace Mine
theorem entry_unchain : entryFor table "proto.unchain" = some Builtin.«proto.unchain» := entryFor_of_tree (by kernel_rfl)
section
variable {prog : Program} {w : World} {A : Around} {E : Value → Shared → Prop} {s : Shared} {env : Env}
theorem unchain_none {a e0 : Addr} {oe : Obj} {vs0 : Array Value} {Q : Value → Shared → Prop} (he : s.heap.get? e0 = some oe) (hd : oe.data = .fields vs0) (h2 : vs0[2]? = some .none) (h : Q .none s) :
    wpAny (model prog w) A (runValue (.builtin "proto.unchain" ⟨[.ref a, .ref e0, .ref e0, .bool false], []⟩)) Q E s := by
  refine wpAny_runValue (codeAny_of_tree ?_)
  show wpAny _ _ (match entryFor table "proto.unchain" with | some b => b ⟨[.ref a, .ref e0, .ref e0, .bool false], []⟩ | none => unsupported ((withoutEnding? "proto.unchain" "#data").getD "proto.unchain")) _ _ s
  rw [entry_unchain]
  show wpAny _ _ (Builtin.«proto.unchain» ⟨[.ref a, .ref e0, .ref e0, .bool false], []⟩) _ _ s
  unfold Builtin.«proto.unchain»
  refine wpAny_bind (wpAny_field he hd h2 ?_)
  rw [if_pos (by decide)]
  exact wpAny_pure h

theorem Raise_ctx {x : Expr} {pos : Pos} {e0 : Addr} {Q : Flow → Shared → Prop} (hh : A.handled = some (.ref e0))
    (h : wpAny (model prog w) A (eval x env) (fun v s₁ => ∃ a ob vs X N I oe vs0, ExcClass X N I ∧ v = .ref a ∧ s₁.heap.get? a = some ob ∧ ob.cls = .type X ∧ ob.data = .fields vs ∧ vs[1]? = some .none ∧ 2 < vs.size ∧ a ≠ e0 ∧
      s₁.heap.get? e0 = some oe ∧ oe.data = .fields vs0 ∧ vs0[2]? = some .none ∧ E (.ref a) { s₁ with heap := s₁.heap.update a (Obj.mapFields (·.setIfInBounds 2 (.ref e0))) }) E s) :
    wpAny (model prog w) A (exec (.Raise (some x) none pos) env) Q E s := by
  show wpAny (model prog w) A (do standAt pos; raiseStmt env (some (do let v ← eval x env; standAt pos; pure v)) none) Q E s
  refine wpAny_bind (wpAny_standAt ?_)
  unfold raiseStmt
  dsimp only
  refine wpAny_bind (wpAny_bind (wpAny_mono h (fun v s₁ h₁ => wpAny_bind (wpAny_standAt (wpAny_pure ?_))) fun _ _ x => x))
  obtain ⟨a, ob, vs, X, N, I, oe, vs0, hc, rfl, ha, hcls, hd, h1, hsz, hne, he0, hd0, h20, hE⟩ := h₁
  have hT : s₁.TypeIs (.ref a) X := ⟨ob, ha, hcls⟩
  have hnt : ∀ {Q' : Bool → Shared → Prop}, Q' false s₁ → wpAny (model prog w) A (isType (.ref a)) Q' E s₁ := by
    intro Q' hq
    simp only [isType, loadHead]
    refine wpAny_bind (wpAny_loadPart ha ?_)
    rw [hd]; exact wpAny_pure hq
  refine wpAny_bind (wpAny_pure ?_)
  dsimp only
  refine wpAny_bind (wpAny_holding ?_)
  unfold excFromValue isExcClass
  refine wpAny_bind (wpAny_bind (hnt ?_))
  simp only [Bool.false_eq_true, if_false]
  refine wpAny_pure ?_
  simp only [Bool.false_eq_true, if_false]
  refine wpAny_bind (wpAny_isInstance hT hc.base ?_)
  simp only [if_true]
  refine wpAny_pure ?_
  refine wpAny_bind (hnt ?_)
  simp only [Bool.false_eq_true, if_false]
  unfold raisedInstance
  refine wpAny_bind (wpAny_bind (wpAny_typeOf hT (wpAny_bind (m := typeOf (.type X)) (wpAny_pure ?_))))
  rw [if_pos hc.metaType]
  refine wpAny_pure ?_
  unfold setFlight raiseNew
  refine wpAny_bind (wpAny_bind (wpAny_field ha hd h1 ?_))
  rw [if_neg (by decide)]
  refine wpAny_pure (wpAny_bind (wpAny_handled ?_))
  rw [hh]
  dsimp only
  rw [if_pos (show (Value.ref e0 != Value.ref a) = true by simpa using Ne.symm hne)]
  refine wpAny_bind (wpAny_holding (unchain_none he0 hd0 h20 ?_))
  refine wpAny_bind ?_
  unfold updateField
  refine wpAny_bind (wpAny_load ha ?_)
  rw [hd]
  dsimp only
  rw [if_pos hsz]
  exact wpAny_update ha (wpAny_throw hE)
end
end Mine
end

section
open PySem PySem.W PySem.Calls PyProof.Rows
set_option Elab.async false
set_option maxRecDepth 100000
set_option maxHeartbeats 8000000
namespace Mine
theorem fillK_WR : PySem.Challenge.rw_au6018_01 = PySem.Challenge.rw_au6018_01 → hd.heap_39 = hd.heap_39 → True := by
  k_fill
  intro _ _; trivial
theorem w2cs_raise {w : World} {A : Around} {s : Shared} {R : Result → Shared → Prop} {base : Heap} {outer : List Env} {mg mb} {e0 : Addr} {oe : Obj} {vs0 : Array Value} (hroom : A.depth < recursionLimit) (hh : A.handled = some (.ref e0)) (B : Below A base outer s.heap)
  (KX : (hd.heap_39 w.params).In s.heap) (T : TopRead hd.view_39 LOOSE mg mb s.heap) (he0 : s.heap.get? e0 = some oe) (hd0 : oe.data = .fields vs0) (h20 : vs0[2]? = some .none)
  {wv : Value}
  (hR : ∀ h tk e B', (∀ b o, s.heap.get? b = some o → offF outer b → B'.get? b = some o) → FlyX B' outer e (.type "ValueError") (.ref e0) .none h → s.heap.UpToSlots h → R (.error (.ref e)) { s with heap := h, toks := tk }) :
  codeAny (model PG w) A (.call (.ref 670) ⟨[wv], [(Str.ofString "with_labels", .bool true), (Str.ofString "compact", .bool true)]⟩) R s := by
  refine' enterCE (binds := [(Str.ofString "weights", wv), (Str.ofString "threshold", _), (Str.ofString "with_labels", .bool true), (Str.ofString "compact", .bool true)]) Sub.refl KX T.nolimit ?k1 ?k2 ?k3 ?k4 ?k5 ?h ?k7 ?k8 ?k9
  case k1 => k_is
  case k2 => k_is
  case k3 => exact hroom
  case k4 => exact binds_K KX rfl (by k_is) rfl (by rfl) (by rfl)
  case k5 =>
    intro n x hx
    simp only [List.mem_cons, List.not_mem_nil, or_false] at hx
    rcases hx with rfl | rfl | rfl | rfl <;> exact .inl (by rfl)
  case k7 => rfl
  case k8 => rfl
  case k9 => rfl
  intro L h₁ tk hL F hsub
  generalize hm : bindL _ _ _ = m₀ at F
  have m1 : m₀ (Str.ofString "with_labels") = some (.bool true) := by rw [← hm]; rfl
  have m2 : m₀ (Str.ofString "compact") = some (.bool true) := by rw [← hm]; rfl
  clear hm
  refine wpAny_execs_cons (wpAny_If (isTrue_and (isTrue_plain (ldLoc F m1 ?_))))
  refine wpAny_truthy_bool ?_
  rw [if_pos rfl]
  refine isTrue_and (isTrue_plain (ldLoc F m2 ?_))
  refine wpAny_truthy_bool ?_
  rw [if_pos rfl]
  refine isTrue_and_nil ?_
  rw [if_pos rfl]
  refine wpAny_execs_cons ?_
  refine Raise_ctx (e0 := e0) hh (Call_ ?_)
  refine nameX_B (s := { s with heap := h₁, toks := _ }) F KX T (by k_is) (by boot_by_name) (by decide) ?_
  refine cw_type1 ?_
  refine args_cons (wpAny_Constant_str ?_)
  refine args_nil ?_
  refine call_exc excClass_ValueError fun h3 e hx => ?_
  dsimp only at hx
  obtain ⟨ob, t, he, hcls, hd⟩ := hx.there
  have he1 : h₁.get? e0 = some oe := F.keep _ _ he0
  have hne : e ≠ e0 := fun q => by have := hx.new; rw [q, he1] at this; cases this
  refine ⟨e, ob, _, _, _, _, oe, vs0, excClass_ValueError, rfl, he, hcls, hd, rfl, by show 2 < 6; decide, hne, hx.keeps _ _ he1, hd0, h20, ?_⟩
  have hd3 := Obj.data_mapFields hd (·.setIfInBounds 2 (Value.ref e0))
  refine leave_new (s := { s with heap := h3.update e (Obj.mapFields (·.setIfInBounds 2 (Value.ref e0))), toks := _ }) (h := h₁) (t := t) (c2 := .ref e0) B F rfl rfl (fun b o eb => ?_) hx.new (Heap.get?_update_self _ he (Obj.isFreed_of_fields hd3)) ((Obj.cls_mapFields _ _).trans hcls) (hd3.trans (by simp)) fun h' B' hB' y u => ?_
  · exact (Heap.get?_update_other _ _ (fun q => by have := hx.new; rw [q, eb] at this; cases this)).trans (hx.keeps b o eb)
  · exact hR h' _ e B' hB' y ((Heap.UpToSlots.of_keeps F.keep).trans u)
end Mine
end

section
open PySem PySem.W PySem.Calls PyProof.Rows
set_option Elab.async false
set_option maxRecDepth 100000
set_option maxHeartbeats 8000000
namespace Mine
theorem fillK_RD : PySem.Challenge.rw_au6018_01 = PySem.Challenge.rw_au6018_01 → hd.heap_39 = hd.heap_39 → True := by
  k_fill
  intro _ _; trivial
theorem TrX.obj {h B : Heap} {e : Addr} {cls c2 fl : Value} (x : TrX h B e cls c2 fl) : ∃ oe vs, h.get? e = some oe ∧ oe.cls = cls ∧ oe.data = .fields vs ∧ vs[2]? = some c2 := let ⟨oe, vs, _, _, _, a, b, c, d, _⟩ := x; ⟨oe, vs, a, b, c, d⟩
theorem below_off {A : Around} {base h : Heap} {outer : List Env} (B : Below A base outer h) {b : Addr} {o : Obj} (e : base.get? b = some o) : offF outer b := fun hm => by
  have := (B.frames.mem hm).1
  rw [e] at this; cases this

theorem refused_spec {w : World} {A : Around} {s : Shared} {R : Result → Shared → Prop} {base : Heap} {outer : List Env} {mg mb} (hA : AOk A 6) (B : Below A base outer s.heap) (S : Sub base s.heap)
  (KX : (hd.heap_39 w.params).In base) (T : TopRead hd.view_39 LOOSE mg mb base)
  {lv : Addr} {vs : List Value} (hl : s.heap.PlainList lv vs.toArray) (hz : vs.length ≤ 8) (hoff : offF outer lv)
  (hR : ∀ h tk, (∀ b o, base.get? b = some o → h.get? b = some o) → R (.ok (.ret (.bool true))) { s with heap := h, toks := tk }) :
  codeAny (model PG w) A (.call (.ref 702) ⟨[.ref lv], []⟩) R s := by
  refine' enterC (binds := [(Str.ofString "values", .ref lv)]) S KX T.nolimit ?k1 ?k2 ?k3 ?k4 ?k5 ?h ?k7 ?k8 ?k9
  case k1 => k_is
  case k2 => k_is
  case k3 => exact hA.room
  case k4 => exact BindsTo.of_eq (by rfl)
  case k5 =>
    intro n x hx
    simp only [List.mem_cons, List.not_mem_nil, or_false] at hx
    subst hx
    exact .inl (by rfl)
  case k7 => rfl
  case k8 => rfl
  case k9 => rfl
  intro L h₁ tk hL F X hsub
  clear X
  generalize hm : bindL _ _ _ = m₀ at F
  have m1 : m₀ (Str.ofString "values") = some (.ref lv) := by rw [← hm]; rfl
  clear hm
  have FF : Fr s.heap L h₁ m₀ := ⟨F.ns, hsub.keep, by rw [hL]; exact Nat.le_refl _⟩
  have hlL : @LT.lt Nat _ lv L := by rw [hL]; exact plt_lt hl
  refine wpAny_execs_cons (wpAny_Try_except ?_)
  refine wpAny_execs_cons (Expr_none (wpAny_mono (Q := fun _ _ => False) (Call_ ?_) (fun _ _ f => f.elim) (fun _ _ e => e)) (by rfl) (by rfl))
  refine nameX_K F KX T (by k_is) ?_
  refine callWith_K KX (by k_is) ?_
  refine args_cons (List_ (args_cons (wpAny_Constant_none ?_)))
  refine args_nil ?_
  refine wpAny_newList ?_ (by show (1 : Nat) ≤ _; rw [sizeLine_eq]; omega)
  refine args_nil ?_
  dsimp only
  generalize hh2 : h₁.push _ = h2
  have k2 : ∀ b o, h₁.get? b = some o → h2.get? b = some o := fun b o e => by rw [← hh2]; exact Heap.get?_push_of_some _ e
  have hp2 : h2.PlainList h₁.objs.size ([Value.none] : List Value).toArray := by rw [← hh2]; exact pl_new h₁ _
  have F2 := F.keeps k2
  refine ⟨kin_keeps KX F2.keep, wpAny_call ?_⟩
  refine cs2w_raise (s := { s with heap := h2, toks := _ }) ((hA.deeper (d := 5) _).less (by omega)) (pushX B (FF.keeps k2) rfl rfl) (kin_keeps KX F2.keep) (T.keeps F2.keep) hp2 fun h3 tk3 e Bx hBx y u => ?_
  dsimp only at hBx u ⊢
  have stx : base.StaysIn Bx := fun b o eb => hBx b o (F2.keep b o eb) (below_off (pushX B (FF.keeps k2) rfl rfl) eb)
  have hlx : ∃ n, Bx.get? lv = some { cls := .type "list", data := .seq vs.toArray n } := by
    obtain ⟨n, el⟩ := hl
    refine ⟨n, hBx lv _ (k2 _ _ (hsub.keep _ _ el)) fun hq => ?_⟩
    rcases List.mem_cons.mp hq with q | q
    · exact absurd q (Nat.ne_of_lt hlL)
    · exact hoff q
  refine noteX_next (s := { s with heap := h3, toks := tk3 }) (Around.frames_deeper B.stack) rfl y fun h4 y4 u4 => ?_
  refine flightX (s := { s with heap := h4, toks := tk3 }) y4 fun h5 y5 u5 => ?_
  dsimp only at u4 u5 ⊢
  obtain ⟨oe5, vs5, he5, hc5, hd5, h25⟩ := y5.tr.obj
  have U5 : h₁.UpToSlots h5 := ((Heap.UpToSlots.of_keeps k2).trans u).trans (u4.trans u5)
  have F5 : Fr base L h5 m₀ := F.of_stays (fun b o eb => y5.stays b o (stx b o eb)) U5
  refine wpAny_handleBy_builtin (s := { s with heap := h5, toks := tk3 }) (X := "TypeError") (T := "TypeError") (b := true) PySem.F.isExc_TypeError PySem.F.notTuple_TypeError (by rw [isSubtype_type]; kernel_rfl) ?_
  refine nameX_B (s := { s with heap := h5, toks := tk3 }) F5 KX T (by k_is) (by boot_by_name) (by decide) ⟨rfl, ⟨oe5, he5, hc5⟩, ?_⟩
  rw [if_pos rfl]
  refine flightX (s := { s with heap := h5, toks := tk3 }) y5 fun h6 y6 u6 => ?_
  dsimp only at u6 ⊢
  obtain ⟨oe6, vs6, he6, hc6, hd6, h26⟩ := y6.tr.obj
  have st6 : base.StaysIn h6 := fun b o eb => y6.stays b o (stx b o eb)
  have F6 : Fr base L h6 m₀ := F.of_stays st6 (U5.trans u6)
  have hl6 : h6.PlainList lv vs.toArray := let ⟨n, e⟩ := hlx; ⟨n, y6.stays _ _ e⟩
  refine wpAny_noRaise ?_
  refine wpAny_execs_cons (wpAny_Try_except ?_)
  refine wpAny_execs_cons (Expr_none (wpAny_mono (Q := fun _ _ => False) (CallKw_ ?_) (fun _ _ f => f.elim) (fun _ _ e => e)) (by rfl) (by rfl))
  refine nameX_K (s := { s with heap := h6, toks := _ }) F6 KX T (by k_is) ?_
  refine callWith_KW KX (by k_is) (by rfl) ?_
  refine args_cons (Call_ ?_)
  refine nameX_B (s := { s with heap := h6, toks := _ }) F6 KX T (by k_is) (by boot_by_name) (by decide) ?_
  refine cw_type1 ?_
  refine args_cons (ldLoc (s := { s with heap := h6, toks := _ }) F6 m1 ?_)
  refine args_nil ?_
  refine pl_copy (s := { s with heap := h6, toks := _ }) hl6 (by omega) fun h7 D7 k7 hD7 hp7 => ?_
  refine args_nil ?_
  dsimp only at k7
  refine kws_cons (wpAny_Constant_bool ?_)
  refine kws_cons (wpAny_Constant_bool ?_)
  refine kws_nil ?_
  have F7 := F6.keeps k7
  have st7 : base.StaysIn h7 := fun b o eb => k7 b o (st6 b o eb)
  refine ⟨kin_keeps KX F7.keep, wpAny_call ?_⟩
  have fr7 := funFrames_base stx (y6.frames.of_keeps (h' := h7) fun b o eb _ => ⟨o, k7 b o eb, rfl⟩)
  have B7 : Below ((A.deeper _).mark (some (.ref e))) base _ h7 := ⟨Around.frames_deeper B.stack, st7, fr7⟩
  refine w2cs_raise (s := { s with heap := h7, toks := _ }) ?room ?hand B7 (kin_keeps KX F7.keep) (T.keeps F7.keep) (k7 _ _ he6) hd6 h26 fun h8 tk8 e2 By hBy y8 u8 => ?_
  case room => have := hA.1; show A.depth + 1 < 1000; omega
  case hand => rfl
  dsimp only at hBy u8 ⊢
  have sty : base.StaysIn By := fun b o eb => hBy b o (st7 b o eb) (below_off (pushX B (FF.keeps k2) rfl rfl) eb)
  refine noteX_next (s := { s with heap := h8, toks := tk8 }) (Around.frames_deeper B.stack) rfl y8 fun h9 y9 u9 => ?_
  refine flightX (s := { s with heap := h9, toks := tk8 }) y9 fun h10 y10 u10 => ?_
  dsimp only at u9 u10 ⊢
  obtain ⟨oe10, vs10, he10, hc10, hd10, _⟩ := y10.tr.obj
  have st10 : base.StaysIn h10 := fun b o eb => y10.stays b o (sty b o eb)
  have F10 : Fr base L h10 m₀ := F.of_stays st10 ((((U5.trans u6).trans (Heap.UpToSlots.of_keeps k7)).trans u8).trans (u9.trans u10))
  refine wpAny_handleBy_builtin (s := { s with heap := h10, toks := tk8 }) (X := "ValueError") (T := "ValueError") (b := true) PySem.F.isExc_ValueError PySem.F.notTuple_ValueError (by rw [isSubtype_type]; kernel_rfl) ?_
  refine nameX_B (s := { s with heap := h10, toks := tk8 }) F10 KX T (by k_is) (by boot_by_name) (by decide) ⟨rfl, ⟨oe10, he10, hc10⟩, ?_⟩
  rw [if_pos rfl]
  refine flightX (s := { s with heap := h10, toks := tk8 }) y10 fun h11 y11 u11 => ?_
  dsimp only at u11 ⊢
  refine wpAny_noRaise ?_
  refine wpAny_execs_cons (wpAny_Return_some (wpAny_Constant_bool ?_))
  exact hR h11 tk8 fun b o eb => y11.stays b o (sty b o eb)
end Mine
end

section
open PySem PySem.W PySem.Calls PyProof.Rows
set_option Elab.async false
set_option maxRecDepth 100000
set_option maxHeartbeats 8000000
namespace Mine
theorem fillK_LWZ : PySem.Challenge.rw_au6018_01 = PySem.Challenge.rw_au6018_01 → hd.heap_39 = hd.heap_39 → True := by
  k_fill
  intro _ _; trivial
theorem seg11 {w : World} {s : Shared} {R : Result → Shared → Prop} {mg mb} {g : Heap} {L : Nat} {m cm : Str → Option Value}
    {name qual : Str} {params : Arguments} {body : List Stmt} {sc : Scope} {dV kV doc pm cdv ct oc : Value} {an od : Option Addr} {osl : Array (Option Value)}
    (ho : (hd.heap_39 w.params).lookup 707 = some ⟨oc, od, .func (fnOf name qual params body sc dV kV doc pm an cdv ct), osl⟩)
    (X : Fc g L sc s.heap m cm) (KX : (hd.heap_39 w.params).In g) (T : TopRead hd.view_39 LOOSE mg mb g)
    {lv : Addr} {V : List Int} (cv : cm (Str.ofString "values") = some (.ref lv)) (IV : IL (DD L sc) s.heap lv V) (hV : V.length ≤ 8)
    (hR : ∀ h tk, (∀ b o, g.get? b = some o → h.get? b = some o) → R (.ok (.ret (.bool true))) { s with heap := h, toks := tk }) :
    wpS (model PG w) (callerA.deeper (envOfC qual sc L 707 cdv)) (execs (body.drop 22) (envOfC qual sc L 707 cdv)) (fun fl s' => R (.ok (.ret (match fl with | .ret v => v | _ => .none))) s') (fun _ _ => False) s := by
  refine' lawfn_eq ?k ho ?h
  case k => k_is
  case h =>
  rintro rfl rfl hsc rfl
  clear ho
  subst hsc
  obtain ⟨vvs, ⟨hlvD, hlv⟩, hvi⟩ := IV
  have hA : ∀ env, AOk (callerA.deeper env) 20 := fun env => ⟨by show callerA.depth + 1 + 20 < 1000; decide, rfl, by show callerA.units + 3 + 3 * 20 + 30 < 9900; decide⟩
  refine execs_A (wpAny_Return_some (Call_ ?_))
  refine nameX_K X.F KX T (by k_is) ?_
  refine callWith_K KX (by k_is) ?_
  refine args_cons (ldC X.X (by rfl) cv ?_)
  refine args_nil ?_
  refine ⟨kin_keeps KX X.F.keep, wpAny_call ?_⟩
  refine refused_spec ((hA _).less (by omega)) (pushX (below_caller g) X.F rfl rfl) (Fr.sub X.F) KX T hlv (by rw [hvi.length]; exact hV) (fun hq => ?_) fun h tk hk => hR h tk hk
  rcases List.mem_cons.mp hq with q | q
  · exact hlvD (List.mem_cons.mpr (.inl q))
  · cases q
end Mine
end

open PySem PySem.W PySem.Calls PyProof.Rows
set_option maxRecDepth 100000
set_option maxHeartbeats 8000000
theorem PySem.Challenge.cw_au6018_01_holds : PySem.Challenge.rw_au6018_01.Holds := by
  refine Mine.hd ?_
  intro w s₀ s₁ mg mb G Y a o pm cd doc dV kV ho hda hcd hdf hmg hgens args vals as hpre hlay hrd hwl hlo
  have KX := kIn_of Y
  refine Ground.open G ?_
  intro T B D TE TW
  have e707 : PySem.W.nsIn (Mine.hd.heap_39 w.params) mainGlobals (Str.ofString "law") = some (some (.ref 707)) := by k_is
  have hal : a = 707 := by
    have := mg_of KX T.g e707
    have q := hmg.symm.trans this
    injection q with q
    injection q
  clear hdf hcd hda hmg
  subst hal
  wrow_args hpre hlay hrd hwl hlo
  refine Mine.wpS_call ?_
  refine' Mine.law_spec (R := _) ?k1 ?k2 KX T (below_caller _) (by assumption) (by assumption) (by omega) ?k3 ?k4 ?k5 ?k6 ?k7 ?hret
  case k1 => k_is
  case k2 => k_is
  case k3 => exact BindsTo.of_eq (by rfl)
  case k4 => rfl
  case k5 => rfl
  case k6 => rfl
  case k7 => rfl
  case hret =>
    intro L h tk m cm lv V X cv IV hV
    refine' Mine.seg11 (s := { s₁ with heap := h, toks := tk }) ?k1 X KX (topRead_of T) cv IV hV fun h' tk' hk => ?_
    case k1 => k_is
    refine GoodW.toG ⟨.inl ⟨.bool true, .bool true, [], rfl, fun cls => ?_, .bool true, ?_, fun _ => ⟨List.nodup_nil, fun a ha => by cases ha⟩⟩, hk, rfl, hgens⟩
    · rfl
    · show (WShape.has [] (.bool true) .bool && (WTm.eq .res (.lit (.bool true))).holds [] { args := _, res := some (.bool true), after := _ }) = true
      rw [Bool.and_eq_true]
      refine ⟨?_, ?_⟩
      · first | rfl | decide | simp [WShape.has]
      · unfold WTm.holds
        rw [w_eq_bool (w_res rfl) w_lit]
        rfl
