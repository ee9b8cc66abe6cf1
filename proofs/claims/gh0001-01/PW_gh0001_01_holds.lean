import PyProof.Rows.All
import Wide.All
import OpenK.AllK
import Wide.FinOn
import PySem.Challenge.RW_gh0001_01
set_option Elab.async false

section
open PySem PySem.W PyProof.Rows PySem.Calls
open Sem (wp)
set_option linter.unusedVariables false
set_option linter.unusedSimpArgs false
set_option maxRecDepth 100000
set_option maxHeartbeats 4000000
namespace Mine

/-! ### contexts with no activation that could hold a bytearray's memory -/
def holdIds : List String := ["bytearray.__contains__", "bytearray.__mod__", "bytearray.__rmod__", "_struct.pack_into.held", "bytearray.find.held"] ++ Builtin.Bytes.decodersThatHold
def holdsOn : Code → Bool
  | .builtin id _ => holdIds.contains id
  | _ => false
def CleanBelow (Γ : Ctx) : Prop := ∀ x ∈ Γ.below, holdsOn x.1 = false
def wpC {α : Type} (M : Model) (A : Around) (t : Sem α) (Q : α → Shared → Prop) (E : Value → Shared → Prop) (s : Shared) : Prop :=
  ∀ Γ p, Γ.In A → holdsOn Γ.code = false → CleanBelow Γ → wp M Γ t (fun a _ s' => Q a s') (fun e _ s' => E e s') p s
def codeC (M : Model) (A : Around) (c : Code) (R : Result → Shared → Prop) (s : Shared) : Prop := ∀ Γ p, Γ.code = c → Γ.Below A → CleanBelow Γ → wpCode M Γ R p s

section
variable {α β : Type} {M : Model} {A : Around} {E : Value → Shared → Prop} {s : Shared}
theorem wpC_any {t : Sem α} {Q : α → Shared → Prop} (h : wpAny M A t Q E s) : wpC M A t Q E s := fun Γ p hΓ _ _ => h Γ p hΓ
theorem codeC_any {c : Code} {R : Result → Shared → Prop} (h : codeAny M A c R s) : codeC M A c R s := fun Γ p hc hΓ _ => h Γ p hc hΓ
theorem wpC_mono {t : Sem α} {Q Q' : α → Shared → Prop} {E' : Value → Shared → Prop} (h : wpC M A t Q E s) (hQ : ∀ a s, Q a s → Q' a s) (hE : ∀ e s, E e s → E' e s) : wpC M A t Q' E' s :=
  fun Γ p hΓ h1 h2 => Sem.wp_mono M Γ t (fun a _ s => hQ a s) (fun e _ s => hE e s) p s (h Γ p hΓ h1 h2)
theorem codeC_mono {c : Code} {R R' : Result → Shared → Prop} (h : codeC M A c R s) (hR : ∀ r s, R r s → R' r s) : codeC M A c R' s := fun Γ p hc hΓ h1 => wpCode_mono hR (h Γ p hc hΓ h1)
theorem wpC_bind {m : Sem α} {f : α → Sem β} {Q : β → Shared → Prop} (h : wpC M A m (fun a s' => wpC M A (f a) Q E s') E s) : wpC M A (m >>= f) Q E s := fun Γ p hΓ h1 h2 => by
  rw [Sem.wp_bind']
  exact Sem.wp_mono M Γ m (fun a p' s' h' => h' Γ p' hΓ h1 h2) (fun _ _ _ h' => h') p s (h Γ p hΓ h1 h2)
/-- a plain step, then the rest under the same contexts -/
theorem wpC_step {m : Sem α} {f : α → Sem β} {Q : β → Shared → Prop} (h : wpAny M A m (fun a s' => wpC M A (f a) Q E s') E s) : wpC M A (m >>= f) Q E s := wpC_bind (wpC_any h)
theorem wpC_pure {a : α} {Q : α → Shared → Prop} (h : Q a s) : wpC M A (pure a) Q E s := fun _ _ _ _ _ => h
theorem wpC_holding {vs : List Value} {m : Sem α} {Q : α → Shared → Prop} (h : wpC M A m Q E s) : wpC M A (holding vs m) Q E s := fun Γ p hΓ h1 h2 => by rw [Sem.wp_holding]; exact h Γ p hΓ h1 h2
theorem wpC_onRaise {m : Sem α} {k : Value → Sem Unit} {Q : α → Shared → Prop} (h : wpC M A m Q (fun e s' => wpC M A (k e) (fun _ s'' => E e s'') E s') s) : wpC M A (m.onRaise k) Q E s := fun Γ p hΓ h1 h2 => by
  rw [Sem.wp_onRaise]
  exact Sem.wp_mono M Γ m (fun _ _ _ h' => h') (fun e p' s' h' => h' Γ p' hΓ h1 h2) p s (h Γ p hΓ h1 h2)
theorem wpC_of_eq {m : Sem α} {a : α} {Q : α → Shared → Prop} (e : m = pure a) (h : Q a s) : wpC M A m Q E s := e ▸ wpC_pure h

theorem below_enter {Γ : Ctx} {c : Code} {hd : Option Value} {p : Pos} (h1 : holdsOn Γ.code = false) (h2 : CleanBelow Γ) : CleanBelow (Γ.enter c hd p) := by
  intro x hx
  rcases List.mem_cons.mp (show x ∈ (Γ.code, p) :: Γ.below from hx) with rfl | hx
  · exact h1
  · exact h2 x hx
theorem codeC_tree {c : Code} {R : Result → Shared → Prop} (hb : holdsOn c = false)
    (h : wpC M (A.under c) (M.den c) (fun fin s' => match fin with | .done f => R (.ok f) s' | .again c' => c'.quiet = true ∧ codeC M A c' R s') (fun e s' => R (.error e) s') s) : codeC M A c R s := fun Γ p hc hΓ h2 => by
  rw [wpCode_iff_wp, hc]
  refine Sem.wp_mono M Γ _ (fun fin p' s' h' => ?_) (fun _ _ _ h' => h') p s (h Γ p (hc ▸ hΓ.in) (by rw [hc]; exact hb) h2)
  cases fin with
  | done f => exact h'
  | again c' => exact ⟨h'.1, h'.2 (Γ.goto c') p' rfl (hΓ.goto c') h2⟩
theorem wpC_runValue {c : Code} {Q : Value → Shared → Prop} (hc : codeC M A c (fun r s' => match r with | .ok (.ret v) => Q v s' | .ok _ => False | .error e => E e s') s) : wpC M A (runValue c) Q E s := fun Γ p hΓ h1 h2 => by
  rw [Sem.wp_runValue]
  exact hc _ p rfl (hΓ.enter c none p (by intro x; cases x)) (below_enter h1 h2)
theorem wpC_call {f : Value} {pos : List Value} {kw : List (Str × Value)} {Q : Value → Shared → Prop}
    (hc : codeC M A (.call f ⟨pos, kw⟩) (fun r s' => match r with | .ok (.ret v) => Q v s' | .ok _ => False | .error e => E e s') s) : wpC M A (call f pos kw) Q E s := wpC_runValue hc
theorem wpC_run {c : Code} {Q : Flow → Shared → Prop} (hc : codeC M A c (fun r s' => match r with | .ok f => Q f s' | .error e => E e s') s) : wpC M A (run c) Q E s := fun Γ p hΓ h1 h2 => by
  rw [Sem.wp_run]
  exact hc _ p rfl (hΓ.enter c none p (by intro x; cases x)) (below_enter h1 h2)

theorem holds_dec {id : String} {args : Args} (h : holdsOn (.builtin id args) = false) : Builtin.Bytes.decodersThatHold.contains id = false := by
  cases hq : Builtin.Bytes.decodersThatHold.contains id with
  | false => rfl
  | true =>
    have h' : holdIds.contains id = false := h
    have : holdIds.contains id = true := by
      rw [List.contains_iff_mem] at hq ⊢
      exact List.mem_append_right _ hq
    rw [this] at h'; cases h'
theorem holds_lit {id : String} {args : Args} (h : holdsOn (.builtin id args) = false) (hi : holdIds.contains id = true) : False := by
  have h' : holdIds.contains id = false := h
  rw [hi] at h'; cases h'
theorem none_holds {v : Value} {f : Code × Pos → Bool} (hf : ∀ c p, holdsOn c = false → f (c, p) = false) : ∀ l : List (Code × Pos), (∀ x ∈ l, holdsOn x.1 = false) → l.any f = false
  | [], _ => rfl
  | (c, p) :: l, h => by rw [List.any_cons, hf c p (h _ (.head _)), none_holds (v := v) hf l fun x hx => h x (.tail _ hx)]; rfl
theorem wpC_exported {v : Value} {Q : Bool → Shared → Prop} (h : Q false s) : wpC M A (Builtin.Bytes.exported v) Q E s := fun Γ p hΓ h1 h2 => by
  unfold Builtin.Bytes.exported
  show Q (((Γ.code, p) :: Γ.below).any _) s
  rw [none_holds (v := v) ?_ _ ?_]
  · exact h
  · intro c p hc
    split
    all_goals first
      | rfl
      | (rename_i heq; cases heq; first | exact (holds_lit hc (by decide +kernel)).elim | (rw [holds_dec hc, Bool.and_false]))
  · intro x hx
    rcases List.mem_cons.mp hx with rfl | hx
    · exact h1
    · exact h2 x hx
end
end Mine
end

section
open PySem PySem.W PyProof.Rows PySem.Calls
open Sem (wp)
set_option linter.unusedVariables false
set_option linter.unusedSimpArgs false
set_option maxRecDepth 100000
set_option maxHeartbeats 4000000
namespace Mine
/-- a claim's thread, its one context being clean -/
theorem ends_clean {prog : Program} {w : World} {t : Sem PySem.Fin} {s : Shared} {R : Result → Shared → Prop} (hreg : s.asleep)
    (h : wpC (model prog w) callerA t (fun fin s' => ∃ f, fin = .done f ∧ (R (.ok f) s' ∧ leftWithCleanup s'.gens = false)) (fun e s' => R (.error e) s' ∧ leftWithCleanup s'.gens = false) s) :
    ∃ n r s' s'', runN (denote table) prog w n s ⟨t, .builtin "claim.caller" {}, default, []⟩ = .halted (outcomeOf r) s' ∧
      schedN (denote table) prog w n (.single s ⟨t, .builtin "claim.caller" {}, default, []⟩) = .halted (outcomeOf r) s' ∧ s'.forget = s''.forget ∧ R r s'' := by
  have h0 := h ⟨.builtin "claim.caller" {}, none, none, [], none⟩ default caller_in (by decide +kernel) (fun x hx => nomatch hx)
  have h1 := Sem.wp_mono _ _ t (post' := Sem.finPost (model prog w) ⟨.builtin "claim.caller" {}, none, none, [], none⟩ fun r s' => R r s' ∧ leftWithCleanup s'.gens = false)
    (fun fin p' s' q => by obtain ⟨f, rfl, hf⟩ := q; exact hf) (fun _ _ _ q => q) _ _ h0
  have h2 := wp_halts_full (M := model prog w) hreg h1
  obtain ⟨n, r, s₁, s₂, hs, hn, hfo, hR⟩ := h2
  exact ⟨n, r, s₂, s₁, hn, hs, hfo, hR⟩

/-- what the walk of a row has to give, under the clean context -/
abbrev WalkC (q : Program) (loose : List Str) (XP : (Str → Option Value) → Heap → Prop) (YP : World → Heap → Prop) (r : RowW) (d : DefRec) (kwd : List (Str × PySem.Expr)) : Prop :=
  ∀ (w : World) (s₀ s₁ : Shared) (mg mb : Str → Option Value), Ground q loose r.records XP w s₀ mg mb s₁.heap → YP w s₁.heap → ∀ (a : Addr) (o : Obj) (pm cd doc dV kV : Value), s₁.heap.get? a = some o →
    o.data = .func { docDef d.name d.params d.body d.scope pm cd doc with defaults := dV, kwdefaults := kV } → s₁.heap.CodeRec cd d.name → Dflts mg s₁.heap d.params kwd dV kV → mg d.name = some (.ref a) → s₁.gens = #[] →
    ∀ (args : List WData) (vals : List Value) (as : List Addr), r.claim.pre args = true → WData.layableAll args = true → ReadsAllW r.records (classAt s₀.heap) s₁.heap vals args as → WellAll w.params s₁.heap vals args → (∀ a ∈ as, (a == sysModules) = false) →
      wpC (model r.prog w) callerA (PySem.call (.ref a) vals) (fun v s' => GoodWG r.claim (classAt s₀.heap) (ExcName.means s₀.heap) args s₁ (.ok (.ret v)) s')
        (fun e s' => GoodWG r.claim (classAt s₀.heap) (ExcName.means s₀.heap) args s₁ (.error e) s') s₁

theorem PySem.W.holds_open {r : OpenRow} {q : Program} {loose : List Str} {Xt : Shared → Bool} {XP : (Str → Option Value) → Heap → Prop} {α : Type} {Yf : Shared → α} {Ya : World → α} {YP : World → Heap → Prop} {d : DefRec} {kwd : List (Str × PySem.Expr)} {N : Nat}
    (left : LeftO r.prog q loose Xt Yf Ya N) (hY : ∀ w s, Yf s = Ya w → YP w s.heap) (hYk : ∀ w h h', YP w h → (∀ b o, h.get? b = some o → h'.get? b = some o) → YP w h')
    (hX : ∀ s, Xt s = true → XP (s.heap.nsMap mainGlobals) s.heap) (hXk : ∀ mg h h', XP mg h → (∀ b o, h.get? b = some o → h'.get? b = some o) → XP mg h')
    (hdef : defOf q r.name = some (d, kwd)) (hp : r.prog.theDef r.name = some (d.params, d.body, d.scope)) (hk : kwWritten? d.params.kwonlyargs d.params.kw_defaults = some kwd) (hRf : ∀ s, Xt s = true → RecFacts r.records s.heap) (hwr : (!r.writes || r.records.isEmpty) = true)
    (k1 : r.wellSaid = true) (ok : (chainsOk q && opensWell r.prog && (frees r.toRowW && r.within.isEmpty)) = true) (hb : r.prog.bare) (hw : r.toRowW.promised)
    (call : WalkC q loose XP YP r.toRowW d kwd) : r.Holds := by
  rw [Bool.and_eq_true, Bool.and_eq_true, Bool.and_eq_true] at ok
  obtain ⟨⟨hch, o1⟩, k5, k6⟩ := ok
  obtain ⟨hsame, hu, ha, hap, hm⟩ := frees_parts k5
  have hi := ident_freeW hu ha hap
  have hwi : r.toRowW.claim.within = [] := List.isEmpty_iff.mp k6
  refine ⟨k1, hw, ⟨⟨hb, o1, by show r.makers.map _ = []; rw [hm]; rfl⟩, hw.witness, fun w => ⟨(left.behind hX hch w).1, fun s' hs' => ?_⟩⟩⟩
  have hbeh := (left.behind (XP := fun mg h => XP mg h ∧ RecFacts r.records h) (fun s hs => ⟨hX s hs, hRf s hs⟩) hch w).2 s' hs'
  obtain ⟨s₀, hf, hg0, s, hT, hz, hgens, hg, G00, y⟩ := hbeh
  have G0 : Ground q loose [] XP w s (s.heap.nsMap mainGlobals) (s.heap.nsMap builtinsNs) s.heap := ⟨G00.T, G00.B, G00.D, G00.TE, G00.TD, G00.W, G00.X.1, G00.cls, G00.has, G00.apart, G00.once, G00.K⟩
  have RF := G00.X.2
  have hT' := hT
  refine ⟨s₀, hf, hg0, s, hT, fun n hn => ?_, RF.1, RF.2.1, ?_⟩
  · obtain rfl : n = r.name := by split at hn <;> simp_all
    exact pinned_of_view hg G0 hdef hp hk
  have hgens : s.gens = #[] := Array.eq_empty_of_size_eq_zero (beq_iff_eq.mp hgens)
  have G : Ground q loose r.records XP w s _ _ s.heap := RF.ground G0
  intro args hpre hlay ord hord
  obtain ⟨⟨vs, s₁⟩, hlaid⟩ := Option.isSome_iff_exists.mp (layAllW_isSome (P := w.params) (ord := ord) G.has args r.args s (pre_splitW hpre).1)
  have keeps := layAllW_keeps _ _ _ hlaid
  have hal := layAllW_rest _ _ _ hlaid
  obtain ⟨as, hrd, hin, hold⟩ := reads_layAllW hord _ _ _ hlaid hlay s₁.heap (fun _ _ e => e)
  have L : Laid r.records w s s₁ args vs as := ⟨⟨ord, hord, hlaid⟩, hrd, hin, hold, keeps, hal.1.trans hgens, hal.2.2.1⟩
  have G₁ := G.keeps hXk keeps
  obtain ⟨a, o, pm, cd, doc, dV, kV, h1, h2, h3, h4, h5⟩ := G₁.fn hdef
  have hc := call w s s₁ _ _ G₁ (hYk _ _ _ (hY w s y) keeps) a o pm cd doc dV kV h2 h3 h4 h5 (defOf_name hdef ▸ h1) L.gens args vs as hpre hlay L.reads L.well (L.low G.low)
  have hrun := ends_clean (prog := r.prog) (w := w) (t := do match ← nsGet mainNs r.name with
      | some f => do ret (← PySem.call f vs)
      | none => unsupported "claim.caller:no-such-global") (s := s₁) (R := fun r' s' => GoodWG r.toRowW.claim (classAt s.heap) (ExcName.means s.heap) args s₁ r' s') (Shared.asleep_of_life hal.2.2.2 hz)
    (wpC_step (wpAny_nsGet G₁.T.g (by
      rw [h1]
      exact wpC_bind (wpC_mono hc (fun v s' g => wpC_pure ⟨_, rfl, g, leftWithCleanup_false_of_bare g.2.2.2⟩) fun e s' g => ⟨g, leftWithCleanup_false_of_bare g.2.2.2⟩))))
  obtain ⟨k, r', s', s'', hrn, hsched, hfo, g⟩ := hrun
  obtain ⟨eh, _, _, eo, _⟩ := Shared.forget_eq hfo
  have z := g.laid (c := r.toRowW.claim) hsame hwi hi L
  have hcase := z.1.congr eh
  have hos : s'.os = s.os := eo.trans z.2.1
  have hlife : s'.heap.life = s.heap.life := (runN_life _ _ _ hrn).trans hal.2.2.2
  refine ⟨vs, s₁, hlaid, k, _, s', hsched, ?_, (fun _ i x hx => by rw [hgens] at hx; simp at hx), ?_, by rw [hlife], Shared.rest_eq hos⟩
  · rcases hcase with ⟨v, rfl, d1, d2, d3, d4, d5⟩ | ⟨e, ob, cls, rfl, d1, d2, d3, d4, d5⟩
    · exact .inl ⟨v, rfl, d1, d2, d3, fun b o y _ => d4 b o y, d5⟩
    · exact .inr ⟨e, ob, cls, rfl, d1, d2, d3, d4, fun b o y _ => d5 b o y⟩
  · rw [eh]
    exact fun q => ⟨namesKept_of hT' hg r.keeps keeps g.2.1.old, noTable hwr q⟩
end Mine
end

section
open PySem PySem.W PyProof.Rows
namespace Mine
set_option maxRecDepth 100000 in
set_option maxHeartbeats 8000000 in
open_top hd for PySem.Challenge.rw_gh0001_01
end Mine
end

section
open PySem PySem.W PyProof.Rows PySem.Calls
set_option linter.unusedVariables false
set_option maxRecDepth 100000
set_option maxHeartbeats 4000000
namespace Mine

/-- a dict object with just these entries -/
def RawD (h : Heap) (d : Addr) (es : Array DictEntry) (ep : Nat) : Prop := ∃ o, h.get? d = some o ∧ o.ExactDict ∧ o.data = .dict es ep
theorem RawD.ty {s : Shared} {d : Addr} {es ep} (x : RawD s.heap d es ep) : s.TypeIs (.ref d) "dict" := let ⟨o, ho, hc, _⟩ := x; ⟨o, ho, hc.1⟩
theorem RawD.at {h h' : Heap} {d : Addr} {es ep} (x : RawD h d es ep) (e : ∀ o, h.get? d = some o → h'.get? d = some o) : RawD h' d es ep := let ⟨o, ho, r⟩ := x; ⟨o, e o ho, r⟩
theorem RawD.lt {h : Heap} {d : Addr} {es ep} (x : RawD h d es ep) : d < h.objs.size := let ⟨_, ho, _⟩ := x; Heap.lt_size ho
theorem RawD.noDict {h : Heap} {d : Addr} {es ep} (x : RawD h d es ep) : ∀ b, Value.ref d = .ref b → ∃ ob, h.get? b = some ob ∧ ob.dict = none :=
  fun b e => by injection e with e; subst e; exact let ⟨o, ho, hc, _⟩ := x; ⟨o, ho, hc.2.1⟩

section
variable {prog : Program} {w : World} {A : Around} {E : Value → Shared → Prop} {s : Shared} {env : Env}

/-! ### d.values() -/
theorem meets_values (d : Addr) (hd : (d == sysModules) = false) :
    MeetsIn prog w (Builtin.«dict.values» ⟨[.ref d], []⟩) (fun _ R s => (∃ es ep, RawD s.heap d es ep) ∧
      R (.ok (.ret (.ref s.heap.objs.size))) { s with heap := s.heap.push { cls := .type "dict_values", data := .fields #[.ref d] } }) :=
  .of_wp fun A R s ⟨⟨es, ep, hm⟩, h⟩ => by
    refine wpAny_bind ?_
    unfold Builtin.Dict.noArgs
    refine wpAny_bind (wpAny_notOrdered_dict hm.ty ?_)
    show wpAny _ _ (pure d) _ _ s
    refine wpAny_pure ?_
    show wpAny _ _ (Builtin.Dict.showsAll d >>= _) _ _ s
    unfold Builtin.Dict.showsAll
    rw [if_neg (by rw [hd]; exact Bool.false_ne_true)]
    exact wpAny_bind (wpAny_pure (wpAny_bind (wpAny_newObj_type (wpAny_pure ⟨_, rfl, h⟩))))

theorem call_values {o : PySem.Expr} {apos pos : Pos} {d : Addr} {es ep} {Q : Value → Shared → Prop} (hdS : (d == sysModules) = false) (hm : RawD s.heap d es ep)
    (hbase : attributeBase o "values" env (eval o env) = eval o env) (hline : (apos.endLine == pos.line) = true)
    (ho : ∀ Q', Q' (.ref d) s → wpAny (model prog w) A (eval o env) Q' E s)
    (hQ : Q (.ref s.heap.objs.size) { s with heap := s.heap.push { cls := .type "dict_values", data := .fields #[.ref d] } }) :
    wpAny (model prog w) A (eval (.Call (.Attribute o "values" apos) [] [] pos) env) Q E s := by
  refine wpAny_Call_method (T := "dict") (id := "dict.values") hbase rfl hline F.plainAttrs_dict F.slot_dict_values F.type_dict_values (ho _ ⟨hm.ty, hm.noDict, ?_⟩)
  show wpAny _ _ (callWith pos (.builtin "dict.values") [.ref d] [] []) Q E s
  exact method_meetsIn F.slot_dict_values F.entry_dict_values rfl (PySem.evalArgs_none ⟨rfl, hm.ty, F.args_dict_values_1 _, _, meets_values d hdS, ⟨es, ep, hm⟩, hQ⟩)

theorem iter_values {v d : Addr} {es : Array DictEntry} {ep : Nat} {Q : Value → Shared → Prop} (hv : s.heap.IsValuesView v d) (hm : RawD s.heap d es ep)
    (hQ : Q (.ref s.heap.objs.size) { s with heap := s.heap.push { cls := .type "dict_valueiterator", data := .fields #[.ref d, .int 0 0, .int es.size 0, .int ep 0] } }) :
    wpAny (model prog w) A (pyIter (.ref v)) Q E s := by
  obtain ⟨ov, hov, hcv, hdv⟩ := id hv
  obtain ⟨o, ho, hc, hdat⟩ := id hm
  refine wpAny_pyIter_slot hv.typeIs F.slot_dict_values_iter (wpAny_call_entry F.slot_dict_values_iter hv.typeIs F.entry_dict_values_iter ?_ (F.args_dict_values_iter_1 _))
  unfold Builtin.«dict_values.__iter__»
  refine wpAny_bind (wpAny_pure (wpAny_bind ?_))
  unfold Builtin.Dict_items.dictOf
  refine wpAny_bind (wpAny_field hov hdv (x := .ref d) rfl (wpAny_pure (wpAny_bind ?_)))
  unfold Builtin.Dict_items.newIterator
  refine wpAny_bind (wpAny_dictEntries ho hdat (wpAny_bind (wpAny_dictEpoch ho hdat ?_)))
  simp only [show Builtin.Dict_items.ownsTuple "dict_valueiterator" = false by decide, Bool.false_eq_true, if_false]
  refine wpAny_newObj_type (wpAny_pure ⟨_, rfl, "dict_valueiterator", _, ⟨_, Heap.get?_push_size _ rfl, rfl⟩, F.slot_dict_valueiterator_next.lookup, ?_⟩)
  simpa [rawInt] using hQ

theorem next_value {it d : Addr} {i ep : Nat} {es : Array DictEntry} {e : DictEntry} {Q : Option Value → Shared → Prop} (hit : s.heap.IsValIter it d i es.size ep)
    (hm : RawD s.heap d es ep) (hx : es[i]? = some e)
    (hQ : ∀ h', h'.IsValIter it d (i + 1) es.size ep → Heap.SameBut it s.heap h' → Q (some e.val) { s with heap := h' }) :
    wpAny (model prog w) A (pyNext (.ref it)) Q E s := by
  obtain ⟨o, ho, hc, hd⟩ := id hit
  obtain ⟨od, hod, hcd, hdd⟩ := id hm
  obtain ⟨hlt, rfl⟩ := Array.getElem?_eq_some_iff.mp hx
  unfold pyNext
  refine wpAny_bind (wpAny_attempt (wpAny_callSpecial?_slot (name := Str.ofString "__next__") hit.typeIs F.slot_dict_valueiterator_next
    (wpAny_call_entry F.slot_dict_valueiterator_next hit.typeIs F.entry_dict_valueiterator_next ?_ (F.args_dict_valueiterator_next_1 _))))
  refine wpAny_bind (wpAny_pure (wpAny_bind (wpAny_bind ?_)))
  first | refine wpAny_bind (wpAny_typeNameOfWhole_valiter hit.typeIs (wpAny_pure ?_)) | refine wpAny_bind (wpAny_typeNameOf_valiter hit.typeIs (wpAny_pure ?_))
  refine wpAny_bind (wpAny_fieldsOf ho hd ?_)
  simp only [show Builtin.Dict_items.ownsTuple "dict_valueiterator" = false by decide, Bool.false_eq_true, if_false]
  show wpAny _ _ (if (Value.ref d == Value.none) = true then _ else _) _ _ s
  rw [if_neg (show ¬ ((Value.ref d == Value.none) = true) from Bool.false_ne_true)]
  refine wpAny_bind (wpAny_pure (wpAny_bind (wpAny_dictEntries hod hdd ?_)))
  rw [if_neg (by simp)]
  refine wpAny_bind (wpAny_pure (wpAny_bind (wpAny_dictEpoch hod hdd ?_)))
  rw [if_neg (by simp)]
  refine wpAny_pure ?_
  simp only [show ¬ ((i : Int) < 0) from by omega, if_false, Int.toNat_natCast, Array.getElem?_eq_getElem hlt]
  refine wpAny_bind ?_
  first | refine wpAny_bind (wpAny_typeNameOfWhole_valiter hit.typeIs (wpAny_pure ?_)) | refine wpAny_bind (wpAny_typeNameOf_valiter hit.typeIs (wpAny_pure ?_))
  refine wpAny_bind (wpAny_isOneOf_valiter hit.typeIs ?_)
  show wpAny _ _ (setField (.ref it) 1 (rawInt ((i : Int) + 1)) >>= _) _ _ s
  refine wpAny_bind (wpAny_setField ho hd (by simp) ?_)
  have hit' : (s.heap.update it (Obj.mapFields (·.setIfInBounds 1 (rawInt ((i : Int) + 1))))).IsValIter it d (i + 1) es.size ep :=
    ⟨_, Heap.get?_update_self _ ho (Obj.isFreed_of_fields (Obj.data_mapFields hd _)), (Obj.cls_mapFields ..).trans hc, by rw [Obj.data_mapFields hd]; simp [rawInt]⟩
  refine wpAny_bind (wpAny_holding ?_)
  refine wpAny_bind (wpAny_isOneOf_valiter (s := { s with heap := s.heap.update it (Obj.mapFields (·.setIfInBounds 1 (rawInt ((i : Int) + 1)))) }) hit'.typeIs ?_)
  refine wpAny_bind (wpAny_isOneOf_valiter (s := { s with heap := s.heap.update it (Obj.mapFields (·.setIfInBounds 1 (rawInt ((i : Int) + 1)))) }) hit'.typeIs ?_)
  show wpAny _ _ (pure es[i].val) _ _ _
  exact wpAny_pure (wpAny_pure ⟨_, rfl, wpAny_pure (hQ _ hit' (Heap.SameBut.update ..))⟩)

theorem stop_value {it d : Addr} {i ep : Nat} {es : Array DictEntry} {Q : Option Value → Shared → Prop} (hh : A.handled = none) (hit : s.heap.IsValIter it d i es.size ep)
    (hm : RawD s.heap d es ep) (hx : es.size ≤ i)
    (hQ : ∀ h', Heap.ExtBut it s.heap h' → Q none { s with heap := h' }) : wpAny (model prog w) A (pyNext (.ref it)) Q E s := by
  obtain ⟨o, ho, hc, hd⟩ := id hit
  obtain ⟨od, hod, hcd, hdd⟩ := id hm
  unfold pyNext
  refine wpAny_bind (wpAny_attempt (wpAny_callSpecial?_slot (name := Str.ofString "__next__") hit.typeIs F.slot_dict_valueiterator_next
    (wpAny_call_entry F.slot_dict_valueiterator_next hit.typeIs F.entry_dict_valueiterator_next ?_ (F.args_dict_valueiterator_next_1 _))))
  refine wpAny_bind (wpAny_pure (wpAny_bind (wpAny_bind ?_)))
  first | refine wpAny_bind (wpAny_typeNameOfWhole_valiter hit.typeIs (wpAny_pure ?_)) | refine wpAny_bind (wpAny_typeNameOf_valiter hit.typeIs (wpAny_pure ?_))
  refine wpAny_bind (wpAny_fieldsOf ho hd ?_)
  simp only [show Builtin.Dict_items.ownsTuple "dict_valueiterator" = false by decide, Bool.false_eq_true, if_false]
  show wpAny _ _ (if (Value.ref d == Value.none) = true then _ else _) _ _ s
  rw [if_neg (show ¬ ((Value.ref d == Value.none) = true) from Bool.false_ne_true)]
  refine wpAny_bind (wpAny_pure (wpAny_bind (wpAny_dictEntries hod hdd ?_)))
  rw [if_neg (by simp)]
  refine wpAny_bind (wpAny_pure (wpAny_bind (wpAny_dictEpoch hod hdd ?_)))
  rw [if_neg (by simp)]
  refine wpAny_pure ?_
  simp only [show ¬ ((i : Int) < 0) from by omega, if_false, Int.toNat_natCast, Array.getElem?_eq_none hx]
  refine wpAny_bind ?_
  first | refine wpAny_bind (wpAny_typeNameOfWhole_valiter hit.typeIs (wpAny_pure ?_)) | refine wpAny_bind (wpAny_typeNameOf_valiter hit.typeIs (wpAny_pure ?_))
  show wpAny _ _ (setField (.ref it) 0 .none >>= _) _ _ s
  refine wpAny_bind (wpAny_setField ho hd (by simp) ?_)
  show wpAny _ _ (newExc (.type "StopIteration") [] >>= _) _ _ _
  refine wpAny_bind ?_
  simp only [newExc, newTuple]
  refine wpAny_bind (wpAny_newObj_type ?_ (by size_fits))
  refine wpAny_bind (m := firstArgMember _ _) (wpAny_of_eq (a := Value.none) (by first | rfl | (simp only [firstArgMember]; rfl)) ?_)
  refine wpAny_newObj_type ?_ (by size_fits)
  simp only [raiseNew]
  refine wpAny_bind (wpAny_handled ?_)
  rw [show A.in1.handled = none from hh]
  refine wpAny_bind (wpAny_pure (wpAny_throw ?_))
  refine wpAny_bind (wpAny_isInstance (T := "StopIteration") (b := true) ⟨_, Heap.get?_push_size _ rfl, rfl⟩ isSubtype_stop ?_)
  exact wpAny_pure (hQ _ (((Heap.SameBut.update ..).extBut.push _).push _))

theorem turns_values (hh : A.handled = none) {x : Str} {px : Pos} (I d : Addr) (hne : d ≠ I) (es : Array DictEntry) (ep : Nat) :
    KTurns prog w A (.Name x px) I [I, d] [I] es.size (fun i v _ => (es[i]?.map (·.val)) = some v) (fun i v h => (es[i]?.map (·.val)) = some v ∧ (h.IsValIter I d (i + 1) es.size ep ∧ RawD h d es ep)) (fun i h => h.IsValIter I d i es.size ep ∧ RawD h d es ep) where
  sub := fun b hb => by simp at hb; simp [hb]
  frame := fun i h h' st hk => ⟨let ⟨o, ho, r⟩ := st.1; ⟨o, hk I (by simp) o ho, r⟩, st.2.at fun o e => hk d (by simp) o e⟩
  item := fun i s Q E hi st hQ => by
    have hx : es[i]? = some es[i] := by simp [hi]
    refine next_value st.1 st.2 hx fun h' hit' hs' => hQ _ h' s.toks ⟨by simp [hi], hit', st.2.at fun o e => hs'.extBut d o hne e⟩ fun b o hb e => hs'.extBut b o (fun h => hb (by simp [h])) e
  go := fun i v s Q E hm hQ => wpAny_of_eq (a := ()) rfl (hQ s.heap hm.1 hm.2 fun _ _ _ e => e)
  done := fun s Q E st hQ => stop_value hh st.1 st.2 (Nat.le_refl _) fun h' he' => hQ h' s.toks fun b o hb e => he' b o (fun h => hb (by simp [h])) e

/-! ### d.items() -/
theorem meets_items (d : Addr) (hd : (d == sysModules) = false) :
    MeetsIn prog w (Builtin.«dict.items» ⟨[.ref d], []⟩) (fun _ R s => (∃ es ep, RawD s.heap d es ep) ∧
      R (.ok (.ret (.ref s.heap.objs.size))) { s with heap := s.heap.push { cls := .type "dict_items", data := .fields #[.ref d] } }) :=
  .of_wp fun A R s ⟨⟨es, ep, hm⟩, h⟩ => by
    unfold Builtin.«dict.items»
    refine wpAny_bind ?_
    unfold Builtin.Dict.noArgs
    refine wpAny_bind (wpAny_notOrdered_dict hm.ty ?_)
    show wpAny _ _ (pure d) _ _ s
    refine wpAny_pure ?_
    show wpAny _ _ (Builtin.Dict.showsAll d >>= _) _ _ s
    unfold Builtin.Dict.showsAll
    rw [if_neg (by rw [hd]; exact Bool.false_ne_true)]
    exact wpAny_bind (wpAny_pure (wpAny_bind (wpAny_newObj_type (wpAny_pure ⟨_, rfl, h⟩))))

theorem call_items {o : PySem.Expr} {apos pos : Pos} {d : Addr} {es ep} {Q : Value → Shared → Prop} (hdS : (d == sysModules) = false) (hm : RawD s.heap d es ep)
    (hbase : attributeBase o "items" env (eval o env) = eval o env) (hline : (apos.endLine == pos.line) = true)
    (ho : ∀ Q', Q' (.ref d) s → wpAny (model prog w) A (eval o env) Q' E s)
    (hQ : Q (.ref s.heap.objs.size) { s with heap := s.heap.push { cls := .type "dict_items", data := .fields #[.ref d] } }) :
    wpAny (model prog w) A (eval (.Call (.Attribute o "items" apos) [] [] pos) env) Q E s := by
  refine wpAny_Call_method (T := "dict") (id := "dict.items") hbase rfl hline F.plainAttrs_dict F.slot_dict_items F.type_dict_items (ho _ ⟨hm.ty, hm.noDict, ?_⟩)
  show wpAny _ _ (callWith pos (.builtin "dict.items") [.ref d] [] []) Q E s
  exact method_meetsIn F.slot_dict_items F.entry_dict_items rfl (PySem.evalArgs_none ⟨rfl, hm.ty, F.args_dict_items_1 _, _, meets_items d hdS, ⟨es, ep, hm⟩, hQ⟩)

theorem iter_items {v d : Addr} {es : Array DictEntry} {ep : Nat} {Q : Value → Shared → Prop} (hv : s.heap.IsItemsView v d) (hm : RawD s.heap d es ep)
    (hQ : Q (.ref s.heap.objs.size) { s with heap := s.heap.push { cls := .type "dict_itemiterator", data := .fields #[.none, .bool false, .ref d, .int 0 0, .int es.size 0, .int ep 0, .none, .none] } }) :
    wpAny (model prog w) A (pyIter (.ref v)) Q E s := by
  obtain ⟨ov, hov, hcv, hdv⟩ := id hv
  obtain ⟨o, ho, hc, hdat⟩ := id hm
  refine wpAny_pyIter_slot hv.typeIs F.slot_dict_items_iter (wpAny_call_entry F.slot_dict_items_iter hv.typeIs F.entry_dict_items_iter ?_ (F.args_dict_items_iter_1 _))
  unfold Builtin.«dict_items.__iter__»
  refine wpAny_bind (wpAny_pure (wpAny_bind ?_))
  unfold Builtin.Dict_items.dictOf
  refine wpAny_bind (wpAny_field hov hdv (x := .ref d) rfl (wpAny_pure (wpAny_bind ?_)))
  unfold Builtin.Dict_items.newIterator
  refine wpAny_bind (wpAny_dictEntries ho hdat (wpAny_bind (wpAny_dictEpoch ho hdat ?_)))
  simp only [show Builtin.Dict_items.ownsTuple "dict_itemiterator" = true by decide, if_true]
  refine wpAny_newObj_type (wpAny_pure ⟨_, rfl, "dict_itemiterator", _, ⟨_, Heap.get?_push_size _ rfl, rfl⟩, F.slot_dict_itemiterator_next.lookup, ?_⟩)
    (by simp only [sizeOk, Builtin.Dict_items.ownedTupleFields, List.size_toArray, List.length_append, List.length_cons, List.length_nil, sizeLine_eq]; omega)
  simpa [rawInt, Builtin.Dict_items.ownedTupleFields] using hQ

/-- the first item: the owned pair is free, a new tuple is handed out and noted as the owner's -/
theorem next_item {it d : Addr} {i ep : Nat} {es : Array DictEntry} {e : DictEntry} {ok ov : Value} {Q : Option Value → Shared → Prop} (hit : IsItemIter s.heap it d i es.size ep ok ov)
    (hm : RawD s.heap d es ep) (hx : es[i]? = some e)
    (hQ : ∀ h', IsItemIterOut h' it d (i + 1) es.size ep e.key e.val s.heap.objs.size →
      h'.get? s.heap.objs.size = some { cls := .type "tuple", data := .seq #[e.key, e.val] } → h'.objs.size = s.heap.objs.size + 1 →
      (∀ b o, b ≠ it → s.heap.get? b = some o → h'.get? b = some o) → Q (some (.ref s.heap.objs.size)) { s with heap := h' }) :
    wpAny (model prog w) A (pyNext (.ref it)) Q E s := by
  obtain ⟨hp, g, dr, tk, os⟩ := s
  obtain ⟨od, hod, hcd, hdd⟩ := id hm
  obtain ⟨hlt, rfl⟩ := Array.getElem?_eq_some_iff.mp hx
  have hT : Shared.TypeIs ⟨hp, g, dr, tk, os⟩ (.ref it) "dict_itemiterator" := ⟨_, hit, rfl⟩
  unfold pyNext
  refine wpAny_bind (wpAny_attempt (wpAny_callSpecial?_slot (name := Str.ofString "__next__") hT F.slot_dict_itemiterator_next
    (wpAny_call_entry F.slot_dict_itemiterator_next hT F.entry_dict_itemiterator_next ?_ (F.args_dict_itemiterator_next_1 _))))
  refine wpAny_bind (wpAny_pure (wpAny_bind (wpAny_bind ?_)))
  first | refine wpAny_bind (wpAny_typeNameOfWhole_itemiter hT (wpAny_pure ?_)) | refine wpAny_bind (wpAny_typeNameOf_itemiter hT (wpAny_pure ?_))
  refine wpAny_bind (wpAny_fieldsOf hit rfl ?_)
  simp only [show Builtin.Dict_items.ownsTuple "dict_itemiterator" = true by decide, if_true]
  show wpAny _ _ (if (Value.ref d == Value.none) = true then _ else _) _ _ _
  rw [if_neg (show ¬ ((Value.ref d == Value.none) = true) from Bool.false_ne_true)]
  refine wpAny_bind (wpAny_pure (wpAny_bind (wpAny_dictEntries hod hdd ?_)))
  rw [if_neg (by simp)]
  refine wpAny_bind (wpAny_pure (wpAny_bind (wpAny_dictEpoch hod hdd ?_)))
  rw [if_neg (by simp)]
  refine wpAny_pure ?_
  simp only [show ¬ ((i : Int) < 0) from by omega, if_false, Int.toNat_natCast, Array.getElem?_eq_getElem hlt]
  refine wpAny_bind ?_
  first | refine wpAny_bind (wpAny_typeNameOfWhole_itemiter hT (wpAny_pure ?_)) | refine wpAny_bind (wpAny_typeNameOf_itemiter hT (wpAny_pure ?_))
  refine wpAny_bind (wpAny_isOneOf_itemiter hT ?_)
  show wpAny _ _ (setField (.ref it) 3 (rawInt ((i : Int) + 1)) >>= _) _ _ ⟨hp, g, dr, tk, os⟩
  refine wpAny_bind (wpAny_setField_rec hit (by simp) fun h₁ he₁ hs₁ => ?_)
  replace hs₁ : Heap.SameBut it hp h₁ := hs₁
  replace he₁ : IsItemIter h₁ it d (i + 1) es.size ep ok ov := by
    have e : ((i + 1 : Nat) : Int) = (i : Int) + 1 := by omega
    unfold IsItemIter; rw [e]; simpa [rawInt] using he₁
  have hT₁ : Shared.TypeIs ⟨h₁, g, dr, tk, os⟩ (.ref it) "dict_itemiterator" := ⟨_, he₁, rfl⟩
  refine wpAny_bind (wpAny_holding ?_)
  refine wpAny_bind (wpAny_isOneOf_itemiter hT₁ (wpAny_bind (wpAny_isOneOf_itemiter hT₁ ?_)))
  show wpAny _ _ (Builtin.Dict_items.pairFromOwner (.ref it) 6 es[i].key es[i].val) _ _ ⟨h₁, g, dr, tk, os⟩
  unfold Builtin.Dict_items.pairFromOwner
  refine wpAny_bind (wpAny_newTuple ?_)
  have he₂ : IsItemIter (h₁.push { cls := .type "tuple", data := .seq #[es[i].key, es[i].val] }) it d (i + 1) es.size ep ok ov := Heap.get?_push_of_some _ he₁
  generalize hh₂ : h₁.push { cls := .type "tuple", data := .seq #[es[i].key, es[i].val] } = h₂ at he₂
  have hz₁ : h₁.objs.size = hp.objs.size := hs₁.1
  have hil : it < hp.objs.size := Heap.lt_size hit
  have ht₂ : h₂.get? hp.objs.size = some { cls := .type "tuple", data := .seq #[es[i].key, es[i].val] } := by rw [← hh₂, ← hz₁]; exact Heap.get?_push_size _ rfl
  have hz₂ : h₂.objs.size = hp.objs.size + 1 := by rw [← hh₂, Heap.size_push, hz₁]
  have hk₂ : ∀ b o, b ≠ it → hp.get? b = some o → h₂.get? b = some o := fun b o hb e => by rw [← hh₂]; exact Heap.get?_push_of_some _ (hs₁.extBut b o hb e)
  show wpAny _ _ (Builtin.Dict_items.ownedTupleIsFree (.ref it) >>= _) _ _ ⟨h₂, g, dr, tk, os⟩
  rw [hz₁]
  clear hh₂ he₁ hs₁ hT₁ hz₁ h₁
  refine wpAny_bind ?_
  unfold Builtin.Dict_items.ownedTupleIsFree
  refine wpAny_bind (wpAny_field he₂ rfl (x := .none) rfl (wpAny_pure ?_))
  simp only [if_true]
  refine wpAny_bind (wpAny_field he₂ rfl (x := ok) rfl (wpAny_bind (wpAny_field he₂ rfl (x := ov) rfl ?_)))
  refine wpAny_bind (wpAny_setField_rec he₂ (by simp) fun h₃ he₃ hs₃ => ?_)
  replace hs₃ : Heap.SameBut it h₂ h₃ := hs₃
  replace he₃ : IsItemIter h₃ it d (i + 1) es.size ep es[i].key ov := he₃
  refine wpAny_bind (wpAny_setField_rec he₃ (by simp) fun h₄ he₄ hs₄ => ?_)
  replace hs₄ : Heap.SameBut it h₃ h₄ := hs₄
  replace he₄ : IsItemIter h₄ it d (i + 1) es.size ep es[i].key es[i].val := he₄
  refine wpAny_bind (wpAny_setField_rec he₄ (by simp) fun h₅ he₅ hs₅ => ?_)
  replace hs₅ : Heap.SameBut it h₄ h₅ := hs₅
  replace he₅ : IsItemIterOut h₅ it d (i + 1) es.size ep es[i].key es[i].val hp.objs.size := he₅
  refine wpAny_bind (wpAny_setField_rec he₅ (by simp) fun h₆ he₆ hs₆ => ?_)
  replace hs₆ : Heap.SameBut it h₅ h₆ := hs₆
  replace he₆ : IsItemIterOut h₆ it d (i + 1) es.size ep es[i].key es[i].val hp.objs.size := he₆
  have up : ∀ b o, b ≠ it → h₂.get? b = some o → h₆.get? b = some o := fun b o hb e => hs₆.extBut b o hb (hs₅.extBut b o hb (hs₄.extBut b o hb (hs₃.extBut b o hb e)))
  refine wpAny_bind (wpAny_letGo (wpAny_pure (wpAny_pure ⟨_, rfl, wpAny_pure (hQ h₆ he₆ (up _ _ (Nat.ne_of_gt hil) ht₂) ?_ fun b o hb e => up b o hb (hk₂ b o hb e))⟩)))
  show h₆.objs.size = hp.objs.size + 1
  rw [hs₆.1, hs₅.1, hs₄.1, hs₃.1, hz₂]

theorem stop_item {it d : Addr} {i ep : Nat} {es : Array DictEntry} {ok ov : Value} {Q : Option Value → Shared → Prop} (hh : A.handled = none) (hit : IsItemIter s.heap it d i es.size ep ok ov)
    (hm : RawD s.heap d es ep) (hx : es.size ≤ i)
    (hQ : ∀ h', Heap.ExtBut it s.heap h' → Q none { s with heap := h' }) : wpAny (model prog w) A (pyNext (.ref it)) Q E s := by
  obtain ⟨od, hod, hcd, hdd⟩ := id hm
  have hT : s.TypeIs (.ref it) "dict_itemiterator" := ⟨_, hit, rfl⟩
  unfold pyNext
  refine wpAny_bind (wpAny_attempt (wpAny_callSpecial?_slot (name := Str.ofString "__next__") hT F.slot_dict_itemiterator_next
    (wpAny_call_entry F.slot_dict_itemiterator_next hT F.entry_dict_itemiterator_next ?_ (F.args_dict_itemiterator_next_1 _))))
  refine wpAny_bind (wpAny_pure (wpAny_bind (wpAny_bind ?_)))
  first | refine wpAny_bind (wpAny_typeNameOfWhole_itemiter hT (wpAny_pure ?_)) | refine wpAny_bind (wpAny_typeNameOf_itemiter hT (wpAny_pure ?_))
  refine wpAny_bind (wpAny_fieldsOf hit rfl ?_)
  simp only [show Builtin.Dict_items.ownsTuple "dict_itemiterator" = true by decide, if_true]
  show wpAny _ _ (if (Value.ref d == Value.none) = true then _ else _) _ _ s
  rw [if_neg (show ¬ ((Value.ref d == Value.none) = true) from Bool.false_ne_true)]
  refine wpAny_bind (wpAny_pure (wpAny_bind (wpAny_dictEntries hod hdd ?_)))
  rw [if_neg (by simp)]
  refine wpAny_bind (wpAny_pure (wpAny_bind (wpAny_dictEpoch hod hdd ?_)))
  rw [if_neg (by simp)]
  refine wpAny_pure ?_
  simp only [show ¬ ((i : Int) < 0) from by omega, if_false, Int.toNat_natCast, Array.getElem?_eq_none hx]
  refine wpAny_bind ?_
  first | refine wpAny_bind (wpAny_typeNameOfWhole_itemiter hT (wpAny_pure ?_)) | refine wpAny_bind (wpAny_typeNameOf_itemiter hT (wpAny_pure ?_))
  show wpAny _ _ (setField (.ref it) 2 .none >>= _) _ _ s
  refine wpAny_bind (wpAny_setField hit rfl (by simp) ?_)
  show wpAny _ _ (newExc (.type "StopIteration") [] >>= _) _ _ _
  refine wpAny_bind ?_
  simp only [newExc, newTuple]
  refine wpAny_bind (wpAny_newObj_type ?_ (by size_fits))
  refine wpAny_bind (m := firstArgMember _ _) (wpAny_of_eq (a := Value.none) (by first | rfl | (simp only [firstArgMember]; rfl)) ?_)
  refine wpAny_newObj_type ?_ (by size_fits)
  simp only [raiseNew]
  refine wpAny_bind (wpAny_handled ?_)
  rw [show A.in1.handled = none from hh]
  refine wpAny_bind (wpAny_pure (wpAny_throw ?_))
  refine wpAny_bind (wpAny_isInstance (T := "StopIteration") (b := true) ⟨_, Heap.get?_push_size _ rfl, rfl⟩ isSubtype_stop ?_)
  exact wpAny_pure (hQ _ (((Heap.SameBut.update ..).extBut.push _).push _))

/-- the pair that an item iterator hands out, at entry i -/
def PairAt (es : Array DictEntry) (i : Nat) (v : Value) (h : Heap) : Prop := ∃ T e, v = .ref T ∧ es[i]? = some e ∧ h.IsTuple T #[e.key, e.val]
theorem turns_items (hh : A.handled = none) {elts : List PySem.Expr} {k : Nat} {pos : Pos} (I d : Addr) (hne : d ≠ I) (es : Array DictEntry) (ep : Nat) :
    KTurns prog w A (.Tuple elts k pos) I [I, d] [I] es.size (fun i v h => PairAt es i v h)
      (fun i v h => ∃ T e, v = .ref T ∧ es[i]? = some e ∧ h.IsTuple T #[e.key, e.val] ∧ T ≠ I ∧ IsItemIterOut h I d (i + 1) es.size ep e.key e.val T ∧ RawD h d es ep)
      (fun i h => (∃ ok ov, IsItemIter h I d i es.size ep ok ov) ∧ RawD h d es ep) where
  sub := fun b hb => by simp at hb; simp [hb]
  frame := fun i h h' st hk => ⟨let ⟨ok, ov, e⟩ := st.1; ⟨ok, ov, hk I (by simp) _ e⟩, st.2.at fun o e => hk d (by simp) o e⟩
  item := fun i s Q E hi st hQ => by
    have hx : es[i]? = some es[i] := by simp [hi]
    obtain ⟨⟨ok, ov, hit⟩, hm⟩ := st
    have hil := Heap.lt_size hit
    exact next_item hit hm hx fun h' he' ht hz hk => hQ _ h' s.toks ⟨_, es[i], rfl, hx, ⟨_, ht, rfl, _, rfl⟩, Nat.ne_of_gt hil, he', hm.at fun o e => hk d o hne e⟩ fun b o hb e => hk b o (fun h => hb (by simp [h])) e
  go := fun i v s Q E hm hQ => by
    obtain ⟨T, e, rfl, hx, ht, hTI, ho, hd⟩ := hm
    exact wpAny_letOwnedTupleGo_items ho fun h' he' hs' => hQ h' ⟨T, e, rfl, hx, ht.at fun o e => hs'.extBut T o hTI e⟩ ⟨⟨_, _, he'⟩, hd.at fun o e => hs'.extBut d o hne e⟩ fun b o hb e => hs'.extBut b o (fun h => hb (by simp [h])) e
  done := fun s Q E st hQ => by
    obtain ⟨⟨ok, ov, hit⟩, hm⟩ := st
    exact stop_item hh hit hm (Nat.le_refl _) fun h' he' => hQ h' s.toks fun b o hb e => he' b o (fun h => hb (by simp [h])) e
end
end Mine
end

section
open PySem PySem.W PyProof.Rows PySem.Calls
set_option linter.unusedVariables false
set_option maxRecDepth 100000
set_option maxHeartbeats 4000000
namespace Mine

/-! ### keys: strs and ints side by side -/
def mixIs : Str ⊕ Int → Value → Bool
  | .inl x, v => Value.isStrOf x v
  | .inr n, v => Value.isInt n v
theorem mix_shape {k : Str ⊕ Int} {v : Value} (h : mixIs k v = true) : (∃ x t, k = .inl x ∧ v = .str x t) ∨ ∃ n t, k = .inr n ∧ v = .int n t := by
  cases k with
  | inl x => obtain ⟨t, e⟩ := Value.isStrOf_shape h; exact .inl ⟨x, t, rfl, e⟩
  | inr n => obtain ⟨t, e⟩ := Value.isInt_shape h; exact .inr ⟨n, t, rfl, e⟩
section
variable {prog : Program} {w : World} {A : Around} {E : Value → Shared → Prop} {s : Shared}
theorem eqBool_si {a : Str} {t : Tok} {b : Int} {u : Tok} {Q : Bool → Shared → Prop} (h : Q false s) : wpAny (model prog w) A (eqBool (.str a t) (.int b u)) Q E s := by
  unfold eqBool
  refine wpAny_holding ?_
  rw [if_neg (by intro x; cases eq_of_beq x)]
  exact wpAny_bind (EqMixed.eq_str_int (wpAny_truthy_bool h))
theorem eqBool_is {a : Int} {t : Tok} {b : Str} {u : Tok} {Q : Bool → Shared → Prop} (h : Q false s) : wpAny (model prog w) A (eqBool (.int a t) (.str b u)) Q E s := by
  unfold eqBool
  refine wpAny_holding ?_
  rw [if_neg (by intro x; cases eq_of_beq x)]
  exact wpAny_bind (EqMixed.eq_int_str (wpAny_truthy_bool h))
end
def mixKind (prog : Program) (w : World) : KeyKind prog w (Str ⊕ Int) where
  is := mixIs
  hash := fun k => match k with | .inl x => hashStr w x | .inr n => hashInt n
  inj := fun v a b ha hb => by
    rcases mix_shape ha with ⟨x, t, rfl, rfl⟩ | ⟨n, t, rfl, rfl⟩ <;> rcases mix_shape hb with ⟨y, u, rfl, e⟩ | ⟨k, u, rfl, e⟩ <;> cases e <;> rfl
  byValue := fun k v h => by rcases mix_shape h with ⟨x, t, rfl, rfl⟩ | ⟨n, t, rfl, rfl⟩ <;> rfl
  pyHash := fun hv h => by
    rcases mix_shape hv with ⟨x, t, rfl, rfl⟩ | ⟨n, t, rfl, rfl⟩
    · exact wpAny_pyHash_str h
    · exact wpAny_pyHash_int h
  eqBool := fun ha hb h => by
    rcases mix_shape ha with ⟨x, t, rfl, rfl⟩ | ⟨n, t, rfl, rfl⟩ <;> rcases mix_shape hb with ⟨y, u, rfl, rfl⟩ | ⟨k, u, rfl, rfl⟩
    · exact wpAny_eqBool_str (by simpa using h)
    · exact eqBool_si (by simpa using h)
    · exact eqBool_is (by simpa using h)
    · refine wpAny_eqBool_int ?_
      have e : decide ((Sum.inr n : Str ⊕ Int) = .inr k) = (n == k) := by
        by_cases q : n = k <;> simp [q]
      rw [← e]; exact h
  «strs» := fun k x t v h => by
    rcases mix_shape h with ⟨y, u, rfl, e⟩ | ⟨n, u, rfl, e⟩
    · cases e; cases v <;> rfl
    · cases e

/-- the key ('at', n, 'sum') -/
def key3 (n : Int) : List (Str ⊕ Int) := [.inl (Str.ofString "at"), .inr n, .inl (Str.ofString "sum")]
theorem key3_inj {n m : Int} (h : key3 n = key3 m) : n = m := by
  unfold key3 at h
  injection h with _ h
  injection h with h _
  injection h

/-! ### the written heap of the text, and entering a def -/
structure Gd (w : World) (mg mb : Str → Option Value) (h : Heap) : Prop where
  X : (hd.heap_39 w.params).In h
  T : TopRead hd.view_39 (looseW hd.view_39 []) mg mb h
theorem Gd.keeps {w : World} {mg mb : Str → Option Value} {h h' : Heap} (G : Gd w mg mb h) (k : ∀ b o, h.get? b = some o → h'.get? b = some o) : Gd w mg mb h' := ⟨G.X.keeps k, G.T.keeps k⟩

section
variable {prog : Program} {w : World} {A : Around} {s : Shared} {mg mb : Str → Option Value} {R : Result → Shared → Prop}
  {name qual : Str} {params : Arguments} {body : List Stmt} {scope : Scope} {dV kV doc pm cdv ct oc : Value} {an od : Option Addr} {osl : Array (Option Value)} {f : Addr} {args : Args} {binds : List (Str × Value)}

/-- a def without captured names: its frame is new, all that stood is kept -/
theorem enter (G : Gd w mg mb s.heap) (hroom : A.depth < recursionLimit)
    (ho : (hd.heap_39 w.params).lookup f = some ⟨oc, od, .func (fnX name qual params body scope [] dV kV doc pm an cdv ct), osl⟩) (hcd : codeIn (hd.heap_39 w.params) cdv qual = true)
    (hbind : BindsTo s (fnX name qual params body scope [] dV kV doc pm an cdv ct) args binds) (hloc : ∀ y ∈ binds, scope.names.lookup y.1 = some .local)
    (h : ∀ h₁, Fr s.heap s.heap.objs.size h₁ (fun y => binds.reverse.lookup y) →
      wpAny (model prog w) (A.deeper (envX qual scope s.heap.objs.size f cdv [])) (execs body (envX qual scope s.heap.objs.size f cdv []))
        (fun fl s' => R (.ok (.ret (match fl with | .ret v => v | _ => .none))) s') (fun _ _ => False) { s with heap := h₁, toks := s.toks + binds.length })
    (hcell : ∀ x ∈ scope.names, x.2 ≠ .cell) (hco : scope.isCoroutine = false) (hgen : scope.isGenerator = false) (hk : scope.kind = .function) : codeAny (model prog w) A (.call (.ref f) args) R s := by
  refine codeAny_call_def (fd := fnX name qual params body scope [] dV kV doc pm an cdv ct) (body := body) (binds := binds) hroom (G.X _ _ ho) rfl G.T.nolimit (codeRec_of G.X hcd) rfl hbind hcell hloc (fun h₁ hns hk₁ => ?_) hco hgen hk
  exact wpAny_mono (h h₁ ⟨hns, hk₁, Nat.le_refl _⟩) (fun _ _ x => x) fun _ _ x => x.elim

/-- a def with captured names: its cells are new objects behind the frame -/
theorem enterC (G : Gd w mg mb s.heap) (hroom : A.depth < recursionLimit)
    (ho : (hd.heap_39 w.params).lookup f = some ⟨oc, od, .func (fnX name qual params body scope [] dV kV doc pm an cdv ct), osl⟩) (hcd : codeIn (hd.heap_39 w.params) cdv qual = true)
    (hbind : BindsTo s (fnX name qual params body scope [] dV kV doc pm an cdv ct) args binds)
    (hkind : ∀ n, ∀ x ∈ binds, scope.names.lookup x.1 = some .local ∨ (scope.names.lookup x.1 = some .cell ∧ ((cellsFrom n scope.names []).lookup x.1).isSome = true))
    (hnd : ((cellsFrom 0 scope.names []).map (·.1)).Nodup)
    (h : ∀ h₁ tk cells, Fr s.heap s.heap.objs.size h₁ (bindL (envOfC qual scope s.heap.objs.size f cdv).kindOf binds fun _ => none) → News s.heap s.heap.objs.size h₁ cells →
      CellsAre (bindC (envOfC qual scope s.heap.objs.size f cdv).kindOf binds fun _ => none) (cellsFrom (s.heap.objs.size + 1) scope.names []) cells →
      wpAny (model prog w) (A.deeper (envOfC qual scope s.heap.objs.size f cdv)) (execs body (envOfC qual scope s.heap.objs.size f cdv))
        (fun fl s' => R (.ok (.ret (match fl with | .ret v => v | _ => .none))) s') (fun _ _ => False) { s with heap := h₁, toks := tk })
    (hco : scope.isCoroutine = false) (hgen : scope.isGenerator = false) (hk : scope.kind = .function) : codeAny (model prog w) A (.call (.ref f) args) R s := by
  refine codeAny_call_function hroom (G.X _ _ ho) rfl hco hgen rfl (codeRec_of G.X hcd) (hbind _ _ _ _ ?_)
  refine wpAny_newFunctionEnv_cells hk (hkind _) fun env' he s' x => ?_
  subst he
  refine ⟨G.T.nolimit.keeps x.toInCall.keep, codeAny_func ?_⟩
  obtain ⟨h₁, tk, rfl, _⟩ := x.done
  obtain ⟨cells, NC, Y⟩ := Cl.news (h₀ := s.heap) (Nat.le_refl _) fun n c hm => ⟨x.cell n c (lookup_of_mem_nodup (cellsFrom_names scope.names 0 (s.heap.objs.size + 1) [] [] rfl ▸ hnd) hm), x.above n c hm⟩
  exact wpAny_mono (h h₁ tk cells ⟨x.toInCall.ns, x.toInCall.keep, Nat.le_refl _⟩ NC Y) (fun _ _ y => y) fun _ _ y => y.elim
end

/-! ### for, by an invariant over the frame's map and the ledger -/
/-- what a turn hands back -/
def TurnEnd (h₀ : Heap) (L : Addr) (own : List (Addr × Obj)) (J : (Str → Option Value) → List (Addr × Obj) → Prop) (s₁ : Shared) (f : Flow) (s₂ : Shared) : Prop :=
  f = .next ∧ ∃ h' tk m' nx, s₂ = { s₁ with heap := h', toks := tk } ∧ Fr h₀ L h' m' ∧ News h₀ L h' (own ++ nx) ∧ (∀ p ∈ nx, ∀ q ∈ own, p.1 ≠ q.1) ∧ J m' nx
section
variable {prog : Program} {w : World} {A : Around} {E : Value → Shared → Prop} {s : Shared} {env : Env} {h₀ : Heap}

def LoopOf (prog : Program) (w : World) (A : Around) (h₀ : Heap) (env : Env) (target : PySem.Expr) (body : List Stmt) (Q : Flow → Shared → Prop) (it : Value) (s₂ : Shared) : Prop :=
  ∃ (I : Addr) (fp : List Addr) (n : Nat) (P Md : Nat → Value → Heap → Prop) (St : Nat → Heap → Prop) (m : Str → Option Value) (news : List (Addr × Obj)) (J : Nat → (Str → Option Value) → List (Addr × Obj) → Prop),
    it = .ref I ∧ KTurns prog w A target I fp [I] n P Md St ∧ env.locals ∉ fp ∧ h₀.get? I = none ∧ (∀ i h, St i h → ∀ b ∈ fp, ∃ o, h.get? b = some o) ∧ (∀ p ∈ news, ∀ b ∈ fp, h₀.get? b = none → p.1 ≠ b) ∧ St 0 s₂.heap ∧ Fr h₀ env.locals s₂.heap m ∧ News h₀ env.locals s₂.heap news ∧ J 0 m news ∧
    (∀ i v m₁ news₁ h₁ tk₁ own E', i < n → P i v h₁ → J i m₁ news₁ → (∀ p ∈ news₁, ∀ q ∈ own, p.1 ≠ q.1) → Fr h₀ env.locals h₁ m₁ → News h₀ env.locals h₁ (own ++ news₁) →
      wpAny (model prog w) A (assign target env v) (fun _ s₃ => wpAny (model prog w) A (execs body env) (TurnEnd h₀ env.locals own (J (i + 1)) { s₂ with heap := h₁, toks := tk₁ }) E' s₃) E' { s₂ with heap := h₁, toks := tk₁ }) ∧
    ∀ h' tk m' news', Fr h₀ env.locals h' m' → News h₀ env.locals h' news' → J n m' news' → Q .next { s₂ with heap := h', toks := tk }

theorem For_of {target iter : PySem.Expr} {body : List Stmt} {pos : Pos} {Q : Flow → Shared → Prop}
    (h : wpAny (model prog w) A (eval iter env) (fun xv s₁ => wpAny (model prog w) A (pyIter xv) (fun it s₂ => LoopOf prog w A h₀ env target body Q it s₂) E s₁) E s)
    (hs : ∀ x, foldedSetIterable iter env x = pure x := by intro _; rfl) :
    wpAny (model prog w) A (exec (.For target iter body [] pos) env) Q E s := by
  refine wpAny_For (wpAny_mono h (fun xv s₁ h₁ => wpAny_mono h₁ (fun it s₂ h₂ => ?_) fun _ _ e => e) fun _ _ e => e) hs
  obtain ⟨I, fp, n, P, Md, St, m, news, J, rfl, W, hLf, hI, alive, hnw, hst, F, N, h0, step, hQ⟩ := h₂
  refine ktu_loop (h₀ := h₀) (R := fun r s' => match r with | .ok f => Q f s' | .error e => cameBackBy (model prog w) A env E e s') (wr := [I]) W hLf (by intro b hb; rw [List.mem_singleton.mp hb]; exact hI)
    (fun p hp hm => hnw p hp I (W.sub I (by simp)) hI (List.mem_singleton.mp hm)) hst F N (fun i m₁ nx => J i m₁ nx ∧ ∀ p ∈ nx, ∀ b ∈ fp, h₀.get? b = none → p.1 ≠ b) ⟨h0, hnw⟩ ?_ (fun h' tk m' news' F' N' _ hJ => hQ h' tk m' news' F' N' hJ.1)
  rintro i v m₁ news₁ h₁ tk₁ own hi hP ⟨hJ, hoff⟩ _ hsub hget hall hst₁ F₁ N₁
  have hap : ∀ p ∈ news₁, ∀ q ∈ own, p.1 ≠ q.1 := fun p hp q hq => hoff p hp q.1 (hsub q hq) (N₁ q (List.mem_append_left _ hq)).2.2
  refine wpAny_mono (step i v m₁ news₁ h₁ tk₁ own _ hi hP hJ hap F₁ N₁) (fun _ s₃ h₃ => wpAny_mono h₃ (fun f s₄ h₄ => ?_) fun _ _ e => e) fun _ _ e => e
  obtain ⟨rfl, h', tk, m', nx, rfl, F', N', hap', hJ'⟩ := h₄
  have hoff' : ∀ p ∈ nx, ∀ b ∈ fp, h₀.get? b = none → p.1 ≠ b := fun p hp b hb hn e => by
    obtain ⟨o, ho⟩ := alive _ _ hst₁ b hb
    exact hap' p hp (b, o) (hall b hb hn o ho) e
  exact ⟨rfl, h', tk, m', nx, rfl, F', N', fun p hp hm => hoff' p hp I (W.sub I (by simp)) hI (List.mem_singleton.mp hm), hJ', hoff'⟩

/-- a plain name is bound by the turn -/
theorem turn_name {L : Addr} {cn : Str} {cs : Scope} {a : Addr} {ccd : Value} {cl : List (Str × Addr)} {x : Str} {px : Pos} {v : Value} {body : List Stmt} {m₁ : Str → Option Value} {led : List (Addr × Obj)} {Q : Flow → Shared → Prop}
    (F : Fr h₀ L s.heap m₁) (N : News h₀ L s.heap led)
    (h : ∀ h' tk, Fr h₀ L h' (fun y => if y = x then some v else m₁ y) → News h₀ L h' led → wpAny (model prog w) A (execs body (envX cn cs L a ccd cl)) Q E { s with heap := h', toks := tk })
    (hk : cs.kind = .function := by rfl) (hx : (envX cn cs L a ccd cl).kindOf x = some .local := by rfl) :
    wpAny (model prog w) A (assign (.Name x px) (envX cn cs L a ccd cl) v) (fun _ s₃ => wpAny (model prog w) A (execs body (envX cn cs L a ccd cl)) Q E s₃) E s :=
  wpAny_assign_Name (storeX_L F N (fun h' F' N' => h h' _ F' N') hk hx)

/-- two names are bound from a pair -/
theorem turn_pair {L : Addr} {cn : Str} {cs : Scope} {a : Addr} {ccd : Value} {cl : List (Str × Addr)} {x y : Str} {px py pt : Pos} {k : Nat} {T : Addr} {u v : Value} {body : List Stmt} {m₁ : Str → Option Value} {led : List (Addr × Obj)} {Q : Flow → Shared → Prop}
    (hh : A.handled = none) (hT : s.heap.IsTuple T #[u, v]) (F : Fr h₀ L s.heap m₁) (N : News h₀ L s.heap led)
    (h : ∀ h' tk, Fr h₀ L h' (fun z => if z = y then some v else if z = x then some u else m₁ z) → News h₀ L h' led → wpAny (model prog w) A (execs body (envX cn cs L a ccd cl)) Q E { s with heap := h', toks := tk })
    (hk : cs.kind = .function := by rfl) (hx : (envX cn cs L a ccd cl).kindOf x = some .local := by rfl) (hy : (envX cn cs L a ccd cl).kindOf y = some .local := by rfl) :
    wpAny (model prog w) A (assign (.Tuple [.Name x px, .Name y py] k pt) (envX cn cs L a ccd cl) (.ref T)) (fun _ s₃ => wpAny (model prog w) A (execs body (envX cn cs L a ccd cl)) Q E s₃) E s := by
  refine wpAny_assign_Tuple hh hT rfl rfl fun h₃ hx₃ => ?_
  have up : ∀ b o, s.heap.get? b = some o → h₃.get? b = some o := fun b o e => hx₃ b o (Nat.ne_of_lt (Heap.lt_size e)) e
  have F₃ : Fr h₀ L h₃ m₁ := ⟨F.ns.keeps up, fun b o e => up b o (F.keep b o e), F.above⟩
  have N₃ : News h₀ L h₃ led := fun p hp => ⟨up _ _ (N p hp).1, (N p hp).2⟩
  show wpAny _ _ (do holding [v] (assign (.Name x px) (envX cn cs L a ccd cl) u); do holding [] (assign (.Name y py) (envX cn cs L a ccd cl) v); pure ()) _ _ _
  refine wpAny_bind (wpAny_holding (wpAny_assign_Name (storeX_L F₃ N₃ (fun h₄ F₄ N₄ => ?_) hk hx)))
  refine wpAny_bind (wpAny_holding (wpAny_assign_Name (storeX_L F₄ N₄ (fun h₅ F₅ N₅ => wpAny_pure ?_) hk hy)))
  exact h h₅ _ F₅ N₅

theorem TurnEnd.next {L : Addr} {own nx : List (Addr × Obj)} {J : (Str → Option Value) → List (Addr × Obj) → Prop} {s₁ : Shared} {h' : Heap} {tk : Nat} {m' : Str → Option Value} (F : Fr h₀ L h' m') (N : News h₀ L h' (own ++ nx))
    (ha : ∀ p ∈ nx, ∀ q ∈ own, p.1 ≠ q.1) (hJ : J m' nx) : TurnEnd h₀ L own J s₁ .next { s₁ with heap := h', toks := tk } := ⟨rfl, h', tk, m', nx, rfl, F, N, ha, hJ⟩
end
end Mine
end

section
open PySem PySem.W PyProof.Rows PySem.Calls
set_option linter.unusedVariables false
set_option maxRecDepth 100000
set_option maxHeartbeats 4000000
namespace Mine
section
variable {prog : Program} {w : World} {A : Around} {E : Value → Shared → Prop} {s : Shared} {h₀ : Heap} {m : Str → Option Value} {news : List (Addr × Obj)} {d : Addr} {es : Array DictEntry} {ep : Nat} {env : Env}

theorem fr_new {h : Heap} {L : Addr} (F : Fr h₀ L h m) {b : Addr} (hb : h.objs.size ≤ b) : h₀.get? b = none := by
  cases q : h₀.get? b with
  | none => rfl
  | some o => exact absurd (Heap.lt_size (F.keep b o q)) (Nat.not_lt.mpr hb)
theorem news_lt {h : Heap} {L : Addr} (N : News h₀ L h news) {p : Addr × Obj} (hp : p ∈ news) : p.1 < h.objs.size := Heap.lt_size (N p hp).1
theorem news_up {h h' : Heap} {L : Addr} (N : News h₀ L h news) (up : ∀ b o, h.get? b = some o → h'.get? b = some o) : News h₀ L h' news := fun p hp => ⟨up _ _ (N p hp).1, (N p hp).2⟩
theorem fr_up {h h' : Heap} {L : Addr} (F : Fr h₀ L h m) (up : ∀ b o, h.get? b = some o → h'.get? b = some o) : Fr h₀ L h' m := ⟨F.ns.keeps up, fun b o e => up b o (F.keep b o e), F.above⟩

/-- for x in d.values(), d standing at the call -/
theorem For_values {x : Str} {px apos cpos pos : Pos} {o : PySem.Expr} {body : List Stmt} {Q : Flow → Shared → Prop} (hh : A.handled = none) (hS : (d == sysModules) = false)
    (F : Fr h₀ env.locals s.heap m) (N : News h₀ env.locals s.heap news) (r : RawD h₀ d es ep)
    (hbase : attributeBase o "values" env (eval o env) = eval o env) (hline : (apos.endLine == cpos.line) = true) (ho : ∀ Q', Q' (.ref d) s → wpAny (model prog w) A (eval o env) Q' E s)
    (J : Nat → (Str → Option Value) → List (Addr × Obj) → Prop) (h0 : J 0 m news)
    (step : ∀ i v m₁ news₁ h₁ tk₁ own E', (es[i]?.map (·.val)) = some v → J i m₁ news₁ → (∀ p ∈ news₁, ∀ q ∈ own, p.1 ≠ q.1) → Fr h₀ env.locals h₁ m₁ → News h₀ env.locals h₁ (own ++ news₁) →
      wpAny (model prog w) A (assign (.Name x px) env v) (fun _ s₃ => wpAny (model prog w) A (execs body env) (TurnEnd h₀ env.locals own (J (i + 1)) { s with heap := h₁, toks := tk₁ }) E' s₃) E' { s with heap := h₁, toks := tk₁ })
    (done : ∀ h' tk m' news', Fr h₀ env.locals h' m' → News h₀ env.locals h' news' → J es.size m' news' → Q .next { s with heap := h', toks := tk })
    (hs : ∀ y, foldedSetIterable (.Call (.Attribute o "values" apos) [] [] cpos) env y = pure y := by intro _; rfl) :
    wpAny (model prog w) A (exec (.For (.Name x px) (.Call (.Attribute o "values" apos) [] [] cpos) body [] pos) env) Q E s := by
  have r₁ : RawD s.heap d es ep := r.at fun o e => F.keep d o e
  refine For_of (h₀ := h₀) (call_values (es := es) (ep := ep) hS r₁ hbase hline ho ?_) hs
  refine iter_values (es := es) (ep := ep) ⟨_, Heap.get?_push_size _ rfl, rfl, rfl⟩ (r₁.at fun o e => Heap.get?_push_of_some _ e) ?_
  have hsz : (s.heap.push { cls := .type "dict_values", data := .fields #[.ref d] }).objs.size = s.heap.objs.size + 1 := Heap.size_push ..
  have hd₁ := r₁.lt
  have hL := F.ns.lt
  have hdL : d ≠ env.locals := fun e => absurd (Nat.lt_of_lt_of_le (e ▸ r.lt) F.above) (Nat.lt_irrefl _)
  refine ⟨(s.heap.push { cls := .type "dict_values", data := .fields #[.ref d] }).objs.size, [(s.heap.push { cls := .type "dict_values", data := .fields #[.ref d] }).objs.size, d], es.size, _, _, _, m, news, J, rfl,
    turns_values hh _ d (by rw [hsz]; exact Nat.ne_of_lt (Nat.lt_succ_of_lt hd₁)) es ep, ?_, fr_new F (by rw [hsz]; exact Nat.le_succ _), ?_, ?_, ⟨⟨_, Heap.get?_push_size _ rfl, rfl, rfl⟩, (r₁.at fun o e => Heap.get?_push_of_some _ e).at fun o e => Heap.get?_push_of_some _ e⟩, (F.push _).push _,
    news_up N (fun b o e => Heap.get?_push_of_some _ (Heap.get?_push_of_some _ e)), h0, ?_, done⟩
  · rw [hsz]; intro hm; rcases List.mem_cons.mp hm with e | hm
    · exact absurd hL (by rw [e]; exact Nat.not_lt.mpr (Nat.le_succ _))
    · exact hdL (List.mem_singleton.mp hm).symm
  · intro i h st b hb
    rcases List.mem_cons.mp hb with rfl | hb
    · obtain ⟨⟨o, ho, _⟩, _⟩ := st; exact ⟨o, ho⟩
    · rw [List.mem_singleton.mp hb]; obtain ⟨_, o, ho, _⟩ := st; exact ⟨o, ho⟩
  · intro p hp b hb hn e
    rcases List.mem_cons.mp hb with rfl | hb
    · have := news_lt N hp; rw [e, hsz] at this; exact absurd this (Nat.not_lt.mpr (Nat.le_succ _))
    · obtain ⟨o, ho, _⟩ := r; rw [List.mem_singleton.mp hb, ho] at hn; cases hn
  · intro i v m₁ news₁ h₁ tk₁ own E' hi hP hJ hap F₁ N₁
    exact step i v m₁ news₁ h₁ tk₁ own E' hP hJ hap F₁ N₁

/-- for x, y in d.items(), d standing at the call -/
theorem For_items {elts : List PySem.Expr} {k : Nat} {pt apos cpos pos : Pos} {o : PySem.Expr} {body : List Stmt} {Q : Flow → Shared → Prop} (hh : A.handled = none) (hS : (d == sysModules) = false)
    (F : Fr h₀ env.locals s.heap m) (N : News h₀ env.locals s.heap news) (r : RawD h₀ d es ep)
    (hbase : attributeBase o "items" env (eval o env) = eval o env) (hline : (apos.endLine == cpos.line) = true) (ho : ∀ Q', Q' (.ref d) s → wpAny (model prog w) A (eval o env) Q' E s)
    (J : Nat → (Str → Option Value) → List (Addr × Obj) → Prop) (h0 : J 0 m news)
    (step : ∀ i T e m₁ news₁ h₁ tk₁ own E', es[i]? = some e → h₁.IsTuple T #[e.key, e.val] → J i m₁ news₁ → (∀ p ∈ news₁, ∀ q ∈ own, p.1 ≠ q.1) → Fr h₀ env.locals h₁ m₁ → News h₀ env.locals h₁ (own ++ news₁) →
      wpAny (model prog w) A (assign (.Tuple elts k pt) env (.ref T)) (fun _ s₃ => wpAny (model prog w) A (execs body env) (TurnEnd h₀ env.locals own (J (i + 1)) { s with heap := h₁, toks := tk₁ }) E' s₃) E' { s with heap := h₁, toks := tk₁ })
    (done : ∀ h' tk m' news', Fr h₀ env.locals h' m' → News h₀ env.locals h' news' → J es.size m' news' → Q .next { s with heap := h', toks := tk })
    (hs : ∀ y, foldedSetIterable (.Call (.Attribute o "items" apos) [] [] cpos) env y = pure y := by intro _; rfl) :
    wpAny (model prog w) A (exec (.For (.Tuple elts k pt) (.Call (.Attribute o "items" apos) [] [] cpos) body [] pos) env) Q E s := by
  have r₁ : RawD s.heap d es ep := r.at fun o e => F.keep d o e
  refine For_of (h₀ := h₀) (call_items (es := es) (ep := ep) hS r₁ hbase hline ho ?_) hs
  refine iter_items (es := es) (ep := ep) ⟨_, Heap.get?_push_size _ rfl, rfl, rfl⟩ (r₁.at fun o e => Heap.get?_push_of_some _ e) ?_
  have hsz : (s.heap.push { cls := .type "dict_items", data := .fields #[.ref d] }).objs.size = s.heap.objs.size + 1 := Heap.size_push ..
  have hd₁ := r₁.lt
  have hL := F.ns.lt
  have hdL : d ≠ env.locals := fun e => absurd (Nat.lt_of_lt_of_le (e ▸ r.lt) F.above) (Nat.lt_irrefl _)
  refine ⟨(s.heap.push { cls := .type "dict_items", data := .fields #[.ref d] }).objs.size, [(s.heap.push { cls := .type "dict_items", data := .fields #[.ref d] }).objs.size, d], es.size, _, _, _, m, news, J, rfl,
    turns_items hh _ d (by rw [hsz]; exact Nat.ne_of_lt (Nat.lt_succ_of_lt hd₁)) es ep, ?_, fr_new F (by rw [hsz]; exact Nat.le_succ _), ?_, ?_, ⟨⟨_, _, Heap.get?_push_size _ rfl⟩, (r₁.at fun o e => Heap.get?_push_of_some _ e).at fun o e => Heap.get?_push_of_some _ e⟩, (F.push _).push _,
    news_up N (fun b o e => Heap.get?_push_of_some _ (Heap.get?_push_of_some _ e)), h0, ?_, done⟩
  · rw [hsz]; intro hm; rcases List.mem_cons.mp hm with e | hm
    · exact absurd hL (by rw [e]; exact Nat.not_lt.mpr (Nat.le_succ _))
    · exact hdL (List.mem_singleton.mp hm).symm
  · intro i h st b hb
    rcases List.mem_cons.mp hb with rfl | hb
    · obtain ⟨⟨_, _, e⟩, _⟩ := st; exact ⟨_, e⟩
    · rw [List.mem_singleton.mp hb]; obtain ⟨_, o, ho, _⟩ := st; exact ⟨o, ho⟩
  · intro p hp b hb hn e
    rcases List.mem_cons.mp hb with rfl | hb
    · have := news_lt N hp; rw [e, hsz] at this; exact absurd this (Nat.not_lt.mpr (Nat.le_succ _))
    · obtain ⟨o, ho, _⟩ := r; rw [List.mem_singleton.mp hb, ho] at hn; cases hn
  · rintro i v m₁ news₁ h₁ tk₁ own E' hi ⟨T, e, rfl, hx, hT⟩ hJ hap F₁ N₁
    exact step i T e m₁ news₁ h₁ tk₁ own E' hx hT hJ hap F₁ N₁
end
end Mine
end

section
open PySem PySem.W PyProof.Rows PySem.Calls
set_option linter.unusedVariables false
set_option maxRecDepth 100000
set_option maxHeartbeats 4000000
namespace Mine

/-- the entries' keys are ('at', n, 'sum'), their values ints -/
inductive Fits : List (List (Str ⊕ Int) × Addr × Value) → List (Int × Int) → Prop
  | nil : Fits [] []
  | cons {a : Addr} {n v : Int} {t : Tok} {xs l} : Fits xs l → Fits ((key3 n, a, .int v t) :: xs) ((n, v) :: l)
theorem Fits.length {xs l} (h : Fits xs l) : xs.length = l.length := by induction h with | nil => rfl | cons _ ih => simp [ih]
theorem Fits.get {xs l} (h : Fits xs l) : ∀ {i : Nat} {x}, xs[i]? = some x → ∃ n v t, x = (key3 n, x.2.1, .int v t) ∧ l[i]? = some (n, v) := by
  induction h with
  | nil => intro i x e; cases e
  | @cons a n v t xs l h ih =>
    intro i x e
    cases i with
    | zero => cases e; exact ⟨n, v, t, rfl, rfl⟩
    | succ i => exact ih (by simpa using e)
abbrev tk3 (prog : Program) (w : World) : HeapKind prog w (List (Str ⊕ Int)) := tupleKind (mixKind prog w)
def IsTab (prog : Program) (w : World) (h : Heap) (d : Addr) (l : List (Int × Int)) : Prop := ∃ xs, h.DictOfH (tk3 prog w) d xs ∧ Fits xs l

section
variable {prog : Program} {w : World} {A : Around} {E : Value → Shared → Prop} {s : Shared} {mg mb : Str → Option Value} {R : Result → Shared → Prop}

theorem raw_of {h : Heap} {d : Addr} {xs} (D : h.DictOfH (tk3 prog w) d xs) : ∃ es ep, RawD h d es ep ∧ es.toList = xs.map (entryOfKey (tk3 prog w)) :=
  let ⟨o, es, ep, ho, hx, hd, he, _⟩ := D; ⟨es, ep, ⟨o, ho, hx, hd⟩, he⟩

theorem count_calls_ok {d : Addr} {l : List (Int × Int)} (G : Gd w mg mb s.heap) (hS : (d == sysModules) = false) (hT : IsTab prog w s.heap d l) (hh : A.handled = none) (hroom : A.depth < recursionLimit)
    (h : ∀ t h' tk, (∀ b o, s.heap.get? b = some o → h'.get? b = some o) → R (.ok (.ret (.int (l.map (·.2)).sum t))) { s with heap := h', toks := tk }) :
    codeAny (model prog w) A (.call (.ref 28) ⟨[.ref d], []⟩) R s := by
  obtain ⟨xs, hD, hF⟩ := hT
  obtain ⟨es, ep, hr, he⟩ := raw_of hD
  have hal : ∀ i (hi : i < es.size), ∃ n v t, es[i].val = .int v t ∧ l[i]? = some (n, v) := by
    intro i hi
    have e1 : es[i]? = (xs[i]?).map (entryOfKey (tk3 prog w)) := entry_at he i
    rw [Array.getElem?_eq_getElem hi] at e1
    cases q : xs[i]? with
    | none => rw [q] at e1; cases e1
    | some x =>
      rw [q] at e1
      obtain ⟨n, v, t, hx, hl⟩ := hF.get q
      refine ⟨n, v, t, ?_, hl⟩
      rw [Option.some.inj e1]
      show x.2.2 = _
      rw [hx]
  have hlen : es.size = l.length := by rw [size_of_entries he, hF.length]
  refine enter (binds := [(Str.ofString "callers", .ref d)]) G hroom (by rfl) (by rfl) (BindsTo.of_eq rfl) (locs rfl) (fun h₁ F => ?_) (by decide) rfl rfl rfl
  refine wpAny_execs_cons (wpAny_Assign_Name (wpAny_Constant_int (storeX_L F News.nil fun h₂ F₂ N₂ => ?_)) (by rfl))
  show wpAny _ _ (execs _ _) _ _ _
  refine wpAny_execs_cons (For_values (h₀ := s.heap) (es := es) (ep := ep) hh hS F₂ N₂ hr rfl rfl (fun Q' hq => nameX_L F₂ rfl hq)
    (fun i m nx => nx = [] ∧ ∃ t, m (Str.ofString "nc") = some (.int ((l.take i).map (·.2)).sum t)) ⟨rfl, _, rfl⟩ ?_ ?_)
  · rintro i v m₁ news₁ h₁' tk₁ own E' hP ⟨rfl, t₀, hnc⟩ hap F₅ N₅
    have hi : i < es.size := by
      cases q : es[i]? with
      | none => rw [q] at hP; cases hP
      | some e => exact (Array.getElem?_eq_some_iff.mp q).1
    obtain ⟨n, vi, ti, hv, hl⟩ := hal i hi
    rw [Array.getElem?_eq_getElem hi, Option.map_some, Option.some.injEq, hv] at hP
    subst hP
    refine turn_name F₅ N₅ fun h₆ tk₆ F₆ N₆ => ?_
    refine wpAny_execs_cons (wpAny_AugAssign_Name (wpAny_loadName_local rfl rfl F₆.ns (by exact hnc) (nameX_L F₆ rfl (iadd_int (storeX_L F₆ N₆ fun h₇ F₇ N₇ => ?_)))))
    show wpAny _ _ (execs _ _) _ _ _
    refine wpAny_execs_nil (TurnEnd.next (nx := []) F₇ (by simpa using N₇) (fun p hp => nomatch hp) ⟨rfl, tk₆, ?_⟩)
    have hsum : ((l.take (i + 1)).map (·.2)).sum = ((l.take i).map (·.2)).sum + vi := by
      rw [List.take_add_one, hl]
      simp
    rw [hsum]
    rfl
  · rintro h' tk m' news' F' N' ⟨rfl, t, hnc⟩
    show wpAny _ _ (execs _ _) _ _ _
    refine wpAny_execs_cons (wpAny_Return_some (nameX_L F' hnc ?_))
    rw [hlen, List.take_length]
    exact h _ h' _ fun b o e => F'.keep b o e
end
end Mine
end

section
open PySem PySem.W PyProof.Rows PySem.Calls
set_option linter.unusedVariables false
set_option maxRecDepth 100000
set_option maxHeartbeats 4000000
namespace Mine

/-! ### tables as lists of pairs -/
def getT (l : List (Int × Int)) (n : Int) : Option Int := (l.find? fun p => p.1 == n).map (·.2)
def setT (l : List (Int × Int)) (n v : Int) : List (Int × Int) := if (getT l n).isSome then l.map fun p => if p.1 = n then (p.1, v) else p else l ++ [(n, v)]
def addT (l : List (Int × Int)) (p : Int × Int) : List (Int × Int) := match getT l p.1 with
  | some v => setT l p.1 (v + p.2)
  | none => setT l p.1 p.2
def mergeT (l₁ l₂ : List (Int × Int)) : List (Int × Int) := l₂.foldl addT l₁

theorem Fits.at {xs l} (h : Fits xs l) (n : Int) : (atKey xs (key3 n) = none ∧ getT l n = none) ∨ ∃ a v t, atKey xs (key3 n) = some (a, .int v t) ∧ getT l n = some v := by
  induction h with
  | nil => exact .inl ⟨rfl, rfl⟩
  | @cons a m v t xs l h ih =>
    by_cases e : m = n
    · subst e
      exact .inr ⟨a, v, t, by simp [atKey], by simp [getT]⟩
    · have ek : ¬ key3 m = key3 n := fun q => e (key3_inj q)
      have e1 : atKey ((key3 m, a, Value.int v t) :: xs) (key3 n) = atKey xs (key3 n) := by simp [atKey, List.find?_cons, ek]
      have e2 : getT ((m, v) :: l) n = getT l n := by simp [getT, List.find?_cons, e]
      rw [e1, e2]
      exact ih
theorem Fits.map {xs l} (h : Fits xs l) (n v : Int) (t : Tok) : Fits (xs.map (putAt (key3 n) (.int v t))) (l.map fun p => if p.1 = n then (p.1, v) else p) := by
  induction h with
  | nil => exact .nil
  | @cons a m u tu xs l h ih =>
    simp only [List.map_cons]
    by_cases e : m = n
    · subst e
      have : putAt (key3 m) (.int v t) (key3 m, a, Value.int u tu) = (key3 m, a, .int v t) := by simp [putAt]
      rw [this]
      simp only [if_true]
      exact .cons ih
    · have ek : ¬ key3 m = key3 n := fun q => e (key3_inj q)
      have : putAt (key3 n) (.int v t) (key3 m, a, Value.int u tu) = (key3 m, a, .int u tu) := by simp [putAt, ek]
      rw [this, if_neg e]
      exact .cons ih
theorem Fits.snoc {xs l} (h : Fits xs l) (n v : Int) (a : Addr) (t : Tok) : Fits (xs ++ [(key3 n, a, .int v t)]) (l ++ [(n, v)]) := by
  induction h with
  | nil => exact .cons .nil
  | cons h ih => exact .cons ih
theorem Fits.stored {xs l} (h : Fits xs l) (n v : Int) (a : Addr) (t : Tok) : Fits (storedH xs (key3 n) a (.int v t)) (setT l n v) := by
  unfold storedH setT
  rcases h.at n with ⟨e1, e2⟩ | ⟨b, u, tu, e1, e2⟩
  · rw [e1, e2]; simpa using h.snoc n v a t
  · rw [e1, e2]; simpa using h.map n v t
theorem Fits.take {xs l} (h : Fits xs l) : ∀ i, Fits (xs.take i) (l.take i) := by
  induction h with
  | nil => intro i; simp; exact .nil
  | cons h ih => intro i; cases i with
    | zero => exact .nil
    | succ i => simpa using .cons (ih i)
theorem Fits.none_of {xs l} (h : Fits xs l) {n : Int} (hn : key3 n ∉ xs.map (·.1)) : getT l n = none := by
  rcases h.at n with ⟨_, e⟩ | ⟨a, v, t, e, _⟩
  · exact e
  · exfalso
    unfold atKey at e
    cases q : xs.find? (fun x => decide (x.1 = key3 n)) with
    | none => rw [q] at e; cases e
    | some x =>
      have h1 := List.find?_some q
      have h2 := List.mem_of_find?_eq_some q
      exact hn (List.mem_map.mpr ⟨x, h2, of_decide_eq_true h1⟩)

/-! ### the dict object, apart from where its keys lie -/
section
variable {prog : Program} {w : World} {A : Around} {E : Value → Shared → Prop} {s : Shared} {mg mb : Str → Option Value} {R : Result → Shared → Prop} {h₀ h h' : Heap} {L : Addr}

def DObj (prog : Program) (w : World) (o : Obj) (zs : List (List (Str ⊕ Int) × Addr × Value)) : Prop := o.ExactDict ∧ ∃ es ep, o.data = .dict es ep ∧ es.toList = zs.map (entryOfKey (tk3 prog w)) ∧ (zs.map (·.1)).Nodup
def KeysAt (prog : Program) (w : World) (h : Heap) (zs : List (List (Str ⊕ Int) × Addr × Value)) : Prop := ∀ z ∈ zs, (tk3 prog w).is h z.1 z.2.1
theorem KeysAt.up {zs} (k : KeysAt prog w h zs) (up : ∀ b o, h.get? b = some o → h'.get? b = some o) : KeysAt prog w h' zs := fun z hz => let ⟨o, items, n, ho, r⟩ := k z hz; ⟨o, items, n, up _ _ ho, r⟩
theorem DObj.at {o : Obj} {r : Addr} {zs} (x : DObj prog w o zs) (e : h.get? r = some o) (k : KeysAt prog w h zs) : h.DictOfH (tk3 prog w) r zs := let ⟨hx, es, ep, hd, he, hn⟩ := x; ⟨o, es, ep, e, hx, hd, he, k, hn⟩
theorem dobj_of {r : Addr} {zs} (D : h.DictOfH (tk3 prog w) r zs) : ∃ o, h.get? r = some o ∧ DObj prog w o zs := let ⟨o, es, ep, ho, hx, hd, he, _, hn⟩ := D; ⟨o, ho, hx, es, ep, hd, he, hn⟩
theorem keys_of {r : Addr} {zs} (D : h.DictOfH (tk3 prog w) r zs) : KeysAt prog w h zs := let ⟨_, _, _, _, _, _, _, k, _⟩ := D; k

theorem led_set {own : List (Addr × Obj)} {r : Addr} {o o' : Obj} (N : News h₀ L h (own ++ [(r, o)])) (hap : ∀ p ∈ [(r, o)], ∀ q ∈ own, p.1 ≠ q.1) (hs : Heap.SameBut r h h') (ho' : h'.get? r = some o') : News h₀ L h' (own ++ [(r, o')]) :=
  News.setAt N (fun p hp => Ne.symm (hap _ (.head _) p hp)) (fun p hp => nomatch hp) hs ho'

/-- a store into the new dict, seen from the frame and the ledger -/
theorem store_led {own : List (Addr × Obj)} {r a : Addr} {o : Obj} {zs} {n v : Int} {t : Tok} {m : Str → Option Value} {Q : Unit → Shared → Prop} (F : Fr h₀ L s.heap m) (N : News h₀ L s.heap (own ++ [(r, o)])) (hap : ∀ p ∈ [(r, o)], ∀ q ∈ own, p.1 ≠ q.1)
    (hu : A.units + 1 < cLine) (D : DObj prog w o zs) (K : KeysAt prog w h₀ zs) (hk : (tk3 prog w).is h₀ (key3 n) a) (hz : zs.length ≤ sizeLine)
    (h : ∀ h' o' tk, Fr h₀ L h' m → News h₀ L h' (own ++ [(r, o')]) → DObj prog w o' (storedH zs (key3 n) a (.int v t)) → Q () { s with heap := h', toks := tk }) :
    wpAny (model prog w) A (setItem (.ref r) (.ref a) (.int v t)) Q E s := by
  have hr := N (r, o) (List.mem_append_right _ (.head _))
  have K' := K.up fun b o e => F.keep b o e
  refine wpAny_setItem_heap (hsz := hz) (knd := tk3 prog w) (k := key3 n) hu (let ⟨o, items, n, ho, r⟩ := hk; ⟨o, items, n, F.keep _ _ ho, r⟩) (D.at hr.1 K') fun h₁ D₁ hs₁ => ?_
  obtain ⟨o', ho', D'⟩ := dobj_of D₁
  exact h h₁ o' _ (F.change hs₁ hr.2.1 hr.2.2) (led_set N hap hs₁ ho') D'
end
end Mine
end

section
open PySem PySem.W PyProof.Rows PySem.Calls
set_option linter.unusedVariables false
set_option linter.unusedSimpArgs false
set_option maxRecDepth 100000
set_option maxHeartbeats 4000000
namespace Mine
section
variable {prog : Program} {w : World} {A : Around} {E : Value → Shared → Prop} {s : Shared} {mg mb : Str → Option Value} {R : Result → Shared → Prop} {h₀ h h' : Heap} {L : Addr}

theorem entry_of {xs : List (List (Str ⊕ Int) × Addr × Value)} {l : List (Int × Int)} {es : Array DictEntry} (he : es.toList = xs.map (entryOfKey (tk3 prog w))) (hF : Fits xs l) {i : Nat} {e : DictEntry} (hi : es[i]? = some e) :
    ∃ n v t a, xs[i]? = some (key3 n, a, .int v t) ∧ e.key = .ref a ∧ e.val = .int v t ∧ l[i]? = some (n, v) := by
  have e1 : es[i]? = (xs[i]?).map (entryOfKey (tk3 prog w)) := entry_at he i
  rw [hi] at e1
  cases q : xs[i]? with
  | none => rw [q] at e1; cases e1
  | some x =>
    rw [q] at e1
    obtain ⟨n, v, t, hx, hl⟩ := hF.get q
    have e2 := Option.some.inj e1
    refine ⟨n, v, t, x.2.1, ?_, ?_, ?_, hl⟩
    · rw [← hx]
    · rw [e2]; rfl
    · rw [e2]; show x.2.2 = _; rw [hx]

theorem nodup_snoc {xs : List (List (Str ⊕ Int) × Addr × Value)} (hn : (xs.map (·.1)).Nodup) {i : Nat} {x} (hi : xs[i]? = some x) : x.1 ∉ (xs.take i).map (·.1) := by
  intro hm
  obtain ⟨y, hy, e⟩ := List.mem_map.mp hm
  obtain ⟨j, hj⟩ := List.mem_iff_getElem?.mp hy
  have hjl : j < i := by
    have := (List.getElem?_eq_some_iff.mp hj).1
    rw [List.length_take] at this
    omega
  rw [List.getElem?_take_of_lt hjl] at hj
  have h1 : xs[j]? = some (x.1, y.2) := by rw [hj, ← e]
  have h2 : xs[i]? = some (x.1, x.2) := hi
  exact absurd (idxH_unique hn h1 h2) (by omega)

theorem add_callers_ok {d₁ d₂ : Addr} {xs ys} {l₁ l₂ : List (Int × Int)} (G : Gd w mg mb s.heap) (hS₁ : (d₁ == sysModules) = false) (hS₂ : (d₂ == sysModules) = false)
    (D₁ : s.heap.DictOfH (tk3 prog w) d₁ xs) (D₂ : s.heap.DictOfH (tk3 prog w) d₂ ys) (F₁ : Fits xs l₁) (F₂ : Fits ys l₂) (hz : xs.length + ys.length ≤ sizeLine) (hh : A.handled = none) (hroom : A.depth < recursionLimit) (hu : A.units + 8 < cLine)
    (h : ∀ r zs h' tk, (∀ b o, s.heap.get? b = some o → h'.get? b = some o) → s.heap.get? r = none → (r == sysModules) = false → h'.DictOfH (tk3 prog w) r zs → Fits zs (mergeT l₁ l₂) →
      (∀ z ∈ zs, ∃ x ∈ xs ++ ys, z.1 = x.1 ∧ z.2.1 = x.2.1) → R (.ok (.ret (.ref r))) { s with heap := h', toks := tk }) :
    codeAny (model prog w) A (.call (.ref 21) ⟨[.ref d₁, .ref d₂], []⟩) R s := by
  obtain ⟨es₁, ep₁, r₁, he₁⟩ := raw_of D₁
  obtain ⟨es₂, ep₂, r₂, he₂⟩ := raw_of D₂
  have K₁ := keys_of D₁
  have K₂ := keys_of D₂
  have n₁ : (xs.map (·.1)).Nodup := let ⟨_, _, _, _, _, _, _, _, n⟩ := D₁; n
  have c₁ : es₁.size = xs.length := size_of_entries he₁
  have c₂ : es₂.size = ys.length := size_of_entries he₂
  refine enter (binds := [(Str.ofString "target", .ref d₁), (Str.ofString "source", .ref d₂)]) G hroom (by rfl) (by rfl) (BindsTo.of_eq rfl) (locs rfl) (fun h₁ F => ?_) (by decide) rfl rfl rfl
  have Fp := F.push { cls := .type "dict", data := .dict #[] }
  have Np := News.push F (News.nil (h₀ := s.heap) (L := s.heap.objs.size)) { cls := .type "dict", data := .dict #[] }
  refine wpAny_execs_cons (wpAny_Assign_Name (wpAny_Dict_empty (storeX_L Fp Np fun h₂ Fa Na => ?_)) (by rfl))
  show wpAny _ _ (execs _ _) _ _ _

  have hr₀ : (h₁.objs.size == sysModules) = false := F.notModules (modules_low G.T.nolimit)
  -- the first loop copies
  refine wpAny_execs_cons (For_items (h₀ := s.heap) (es := es₁) (ep := ep₁) hh hS₁ Fa Na r₁ rfl rfl (fun Q' hq => nameX_L Fa rfl hq)
    (fun i m nx => ∃ o, nx = [(h₁.objs.size, o)] ∧ DObj prog w o (xs.take i) ∧ m (Str.ofString "new_callers") = some (.ref h₁.objs.size) ∧ m (Str.ofString "source") = some (.ref d₂))
    ⟨_, rfl, ⟨⟨rfl, rfl, rfl⟩, #[], 0, rfl, rfl, List.nodup_nil⟩, rfl, rfl⟩ ?_ ?_)
  · rintro i T e m₁ news₁ h₃ tk₃ own E' hx hT ⟨o, rfl, Do, hm1, hm2⟩ hap Fb Nb
    obtain ⟨n, v, t, a, hxi, hka, hva, hl⟩ := entry_of he₁ F₁ hx
    rw [hka, hva] at hT
    refine turn_pair hh hT Fb Nb fun h₄ tk₄ Fc Nc => ?_
    have hap' := hap
    refine wpAny_execs_cons (wpAny_Assign_Subscript (nameX_L Fc rfl (nameX_L Fc (by exact hm1) (nameX_L Fc rfl ?_))) (by rfl))
    have hnew : atKey (xs.take i) (key3 n) = none := atKey_none_of_get fun j p hj => nodup_snoc n₁ hxi (List.mem_map.mpr ⟨_, List.mem_of_getElem? hj, rfl⟩)
    refine store_led (n := n) Fc Nc hap' (by show A.units + 3 + 1 < cLine; omega) Do (fun z hz => K₁ z (List.mem_of_mem_take hz)) (K₁ _ (List.mem_of_getElem? hxi)) (by rw [List.length_take]; omega) fun h₅ o' tk₅ Fd Nd Do' => ?_
    show wpAny _ _ (execs _ _) _ _ _
    refine wpAny_execs_nil (TurnEnd.next Fd Nd (fun p hp q hq => by rw [List.mem_singleton.mp hp]; exact hap _ (.head _) q hq) ⟨o', rfl, ?_, by exact hm1, by exact hm2⟩)
    rw [List.take_add_one, hxi]
    show DObj prog w o' (xs.take i ++ [(key3 n, a, Value.int v t)])
    rw [← storedH_new hnew a (.int v t)]
    exact Do'
  rintro h₃ tk₃ m₃ news₃ Fb Nb ⟨o, rfl, Do, hm1, hm2⟩
  rw [c₁, List.take_length] at Do
  show wpAny _ _ (execs _ _) _ _ _
  -- the second loop adds
  refine wpAny_execs_cons (For_items (h₀ := s.heap) (es := es₂) (ep := ep₂) hh hS₂ Fb Nb r₂ rfl rfl (fun Q' hq => nameX_L Fb (by exact hm2) hq)
    (fun i m nx => ∃ o zs, nx = [(h₁.objs.size, o)] ∧ DObj prog w o zs ∧ Fits zs (mergeT l₁ (l₂.take i)) ∧ zs.length ≤ xs.length + i ∧ (∀ z ∈ zs, ∃ x ∈ xs ++ ys, z.1 = x.1 ∧ z.2.1 = x.2.1) ∧ m (Str.ofString "new_callers") = some (.ref h₁.objs.size))
    ⟨o, xs, rfl, Do, by simpa [mergeT] using F₁, by omega, fun z hz => ⟨z, List.mem_append_left _ hz, rfl, rfl⟩, hm1⟩ ?_ ?_)
  · rintro i T e m₁ news₁ h₄ tk₄ own E' hx hT ⟨o, zs, rfl, Do, hF, hlen, hsub, hm1⟩ hap Fc Nc
    obtain ⟨n, v, t, a, hxi, hka, hva, hl⟩ := entry_of he₂ F₂ hx
    have hil : i < ys.length := (List.getElem?_eq_some_iff.mp hxi).1
    have hkey : (tk3 prog w).is s.heap (key3 n) a := K₂ _ (List.mem_of_getElem? hxi)
    have Kz : KeysAt prog w s.heap zs := fun z hz => by
      obtain ⟨x, hx, e1, e2⟩ := hsub z hz
      rw [e1, e2]
      rcases List.mem_append.mp hx with hx | hx
      · exact K₁ x hx
      · exact K₂ x hx
    rw [hka, hva] at hT
    refine turn_pair hh hT Fc Nc fun h₅ tk₅ Fd Nd => ?_
    have hz' : zs.length ≤ sizeLine := by omega
    have hr := Nd (h₁.objs.size, o) (List.mem_append_right _ (.head _))
    have hmerge : mergeT l₁ (l₂.take (i + 1)) = addT (mergeT l₁ (l₂.take i)) (n, v) := by
      unfold mergeT
      rw [List.take_add_one, hl, Option.toList_some, List.foldl_append]; rfl
    have hsub' : ∀ v' t', ∀ z ∈ storedH zs (key3 n) a (.int v' t'), ∃ x ∈ xs ++ ys, z.1 = x.1 ∧ z.2.1 = x.2.1 := fun v' t' z hz => by
      rcases mem_storedH hz with ⟨y, hy, e1, e2⟩ | ⟨e1, e2⟩
      · obtain ⟨x, hx, f1, f2⟩ := hsub y hy
        exact ⟨x, hx, e1.trans f1, e2.trans f2⟩
      · exact ⟨_, List.mem_append_right _ (List.mem_of_getElem? hxi), e1, e2⟩
    have hlen' : ∀ v' t', (storedH zs (key3 n) a (.int v' t')).length ≤ xs.length + (i + 1) := fun v' t' => by
      unfold storedH
      split
      · rw [List.length_map]; omega
      · rw [List.length_append, List.length_singleton]; omega
    have fin : ∀ h₆ o' tk₆ v' t', Fr s.heap s.heap.objs.size h₆ (fun z => if z = Str.ofString "caller" then some (Value.int v t) else if z = Str.ofString "func" then some (.ref a) else m₁ z) →
        News s.heap s.heap.objs.size h₆ (own ++ [(h₁.objs.size, o')]) → DObj prog w o' (storedH zs (key3 n) a (.int v' t')) → setT (mergeT l₁ (l₂.take i)) n v' = addT (mergeT l₁ (l₂.take i)) (n, v) → ∀ s₁ : Shared,
        TurnEnd s.heap s.heap.objs.size own (fun m nx => ∃ o zs, nx = [(h₁.objs.size, o)] ∧ DObj prog w o zs ∧ Fits zs (mergeT l₁ (l₂.take (i + 1))) ∧ zs.length ≤ xs.length + (i + 1) ∧ (∀ z ∈ zs, ∃ x ∈ xs ++ ys, z.1 = x.1 ∧ z.2.1 = x.2.1) ∧ m (Str.ofString "new_callers") = some (.ref h₁.objs.size)) s₁ .next { s₁ with heap := h₆, toks := tk₆ } := by
      intro h₆ o' tk₆ v' t' Fe Ne Do' hset s₁
      refine TurnEnd.next Fe Ne (fun p hp q hq => by rw [List.mem_singleton.mp hp]; exact hap _ (.head _) q hq) ⟨o', _, rfl, Do', ?_, hlen' v' t', hsub' v' t', by exact hm1⟩
      rw [hmerge, ← hset]
      exact hF.stored n v' a t'
    have hkey' : (tk3 prog w).is h₅ (key3 n) a := let ⟨o, items, n, ho, r⟩ := hkey; ⟨o, items, n, Fd.keep _ _ ho, r⟩
    have Dn := Do.at hr.1 (Kz.up fun b o e => Fd.keep b o e)
    refine wpAny_execs_cons (wpAny_If (wpAny_isTrue_Compare1 (nameX_L Fd rfl (nameX_L Fd (by exact hm1) (wpAny_in_heap (knd := tk3 prog w) (k := key3 n) (by show A.units + 3 + 1 < cLine; omega) hkey' hr₀ Dn (wpAny_truthy_bool ?_))))))
    rcases hF.at n with ⟨e1, e2⟩ | ⟨b, u, tu, e1, e2⟩
    · rw [e1]
      show wpAny _ _ (execs _ _) _ _ _
      refine wpAny_execs_cons (wpAny_Assign_Subscript (nameX_L Fd rfl (nameX_L Fd (by exact hm1) (nameX_L Fd rfl ?_))) (by rfl))
      refine store_led (n := n) Fd Nd hap (by show A.units + 3 + 1 < cLine; omega) Do Kz hkey hz' fun h₆ o' tk₆ Fe Ne Do' => ?_
      show wpAny _ _ (execs _ _) _ _ _
      refine wpAny_execs_nil (wpAny_execs_nil (fin h₆ o' _ v t Fe Ne Do' ?_ _))
      simp [addT, e2]
    · rw [e1]
      show wpAny _ _ (execs _ _) _ _ _
      refine wpAny_execs_cons (wpAny_If (isTrue_plain (Call_ (nameX_B Fd (G.X) (G.T) (by rfl) boot_isinstance (by decide) (PyProof.Rows.callWith_builtin1 (spliced_more (nameX_L Fd rfl (spliced_more (nameX_B Fd G.X G.T (by rfl) boot_tuple (by decide) (spliced_none (IsiPair.int_tuple (wpAny_truthy_bool ?_)))))))))) ))
      show wpAny _ _ (execs _ _) _ _ _
      refine wpAny_execs_cons (wpAny_AugAssign_Subscript (nameX_L Fd (by exact hm1) (nameX_L Fd rfl (wpAny_getItem_heap (knd := tk3 prog w) (k := key3 n) (by show A.units + 3 + 1 < cLine; omega) hkey' Dn e1 (nameX_L Fd rfl (iadd_int ?_))))))
      refine store_led (n := n) Fd Nd hap (by show A.units + 3 + 1 < cLine; omega) Do Kz hkey hz' fun h₆ o' tk₆ Fe Ne Do' => ?_
      show wpAny _ _ (execs _ _) _ _ _
      refine wpAny_execs_nil (wpAny_execs_nil (wpAny_execs_nil (fin h₆ o' _ (u + v) _ Fe Ne Do' ?_ _)))
      simp [addT, e2]
  · rintro h₄ tk₄ m₄ news₄ Fc Nc ⟨o, zs, rfl, Do, hF, hlen, hsub, hm1⟩
    show wpAny _ _ (execs _ _) _ _ _
    refine wpAny_execs_cons (wpAny_Return_some (nameX_L Fc hm1 ?_))
    have hr := Nc (h₁.objs.size, o) (.head _)
    have Kz : KeysAt prog w s.heap zs := fun z hz => by
      obtain ⟨x, hx, e1, e2⟩ := hsub z hz
      rw [e1, e2]
      rcases List.mem_append.mp hx with hx | hx
      · exact K₁ x hx
      · exact K₂ x hx
    rw [c₂, F₂.length, List.take_length] at hF
    exact h h₁.objs.size zs h₄ _ (fun b o e => Fc.keep b o e) hr.2.2 hr₀ (Do.at hr.1 (Kz.up fun b o e => Fc.keep b o e)) hF hsub
end
end Mine
end

section
open PySem PySem.W PyProof.Rows PySem.Calls
set_option linter.unusedVariables false
set_option linter.unusedSimpArgs false
set_option maxRecDepth 100000
set_option maxHeartbeats 4000000
namespace Mine
def eqT (l₁ l₂ : List (Int × Int)) : Bool := l₁.length == l₂.length && l₁.all fun p => getT l₂ p.1 == some p.2
section
variable {prog : Program} {w : World} {A : Around} {E : Value → Shared → Prop} {s : Shared}

theorem same_pairs {nm : String} {a b : Addr} {xs ys} {l₁ l₂ : List (Int × Int)} {Q : Bool → Shared → Prop} (ha : (a == sysModules) = false) (hb : (b == sysModules) = false) (hu : A.units < cLine)
    (D₁ : s.heap.DictOfH (tk3 prog w) a xs) (D₂ : s.heap.DictOfH (tk3 prog w) b ys) (F₁ : Fits xs l₁) (F₂ : Fits ys l₂) (h : Q (eqT l₁ l₂) s) :
    wpAny (model prog w) A (Builtin.Dict.samePairs nm a b) Q E s := by
  obtain ⟨oa, es, ep, hoa, _, hda, hea, hka, _⟩ := id D₁
  obtain ⟨ob, es', ep', hob, _, hdb, heb, hkb, hnb⟩ := id D₂
  have c₁ : es.size = l₁.length := by rw [size_of_entries hea, F₁.length]
  have c₂ : es'.size = l₂.length := by rw [size_of_entries heb, F₂.length]
  unfold Builtin.Dict.samePairs Builtin.Dict.showsAll
  rw [if_neg (show ¬ (a == sysModules) = true by rw [ha]; exact Bool.false_ne_true), if_neg (show ¬ (b == sysModules) = true by rw [hb]; exact Bool.false_ne_true)]
  refine wpAny_bind (wpAny_pure (wpAny_bind (wpAny_pure (wpAny_bind (wpAny_dictEntries hoa hda ?_)))))
  dsimp only
  refine wpAny_bind (wpAny_dictEntries hob hdb ?_)
  by_cases hsz : es.size = es'.size
  case neg =>
    rw [if_pos (by simpa using hsz)]
    refine wpAny_bind (wpAny_rule (wpAny_pure ?_))
    have : eqT l₁ l₂ = false := by
      unfold eqT
      rw [show (l₁.length == l₂.length) = false by rw [← c₁, ← c₂]; simpa using hsz]
      rfl
    rw [← this]; exact h
  case pos =>
    have hall : eqT l₁ l₂ = l₁.all fun p => getT l₂ p.1 == some p.2 := by
      unfold eqT
      rw [show (l₁.length == l₂.length) = true by rw [← c₁, ← c₂]; simpa using hsz, Bool.true_and]
    rw [hall] at h
    rw [if_neg (by rw [hsz]; simp)]
    refine wpAny_bind (wpAny_dictEpoch hoa hda (wpAny_bind ?_))
    rw [Std.Legacy.Range.forIn_eq_forIn_range']
    simp only [Std.Legacy.Range.size, Nat.sub_zero, Nat.add_sub_cancel, Nat.div_one]
    refine wpAny_forIn_list _
      (fun rest q s' => s' = s ∧ q = (none, ()) ∧ ∃ i, rest = List.range' i (es.size - i) ∧ i ≤ es.size ∧ ((l₁.drop i).all fun p => getT l₂ p.1 == some p.2) = (l₁.all fun p => getT l₂ p.1 == some p.2))
      _ ?_ ?_ _ _ ⟨rfl, rfl, 0, by simp, Nat.zero_le _, by simp⟩
    · rintro x rest q s' ⟨rfl, rfl, i, hr, hi, hpre⟩
      have hlt : i < es.size := by
        rcases Nat.lt_or_ge i es.size with h | h
        · exact h
        · rw [Nat.sub_eq_zero_of_le h] at hr; simp at hr
      obtain ⟨rfl, hrest⟩ : x = i ∧ rest = List.range' (i + 1) (es.size - (i + 1)) := by
        have e : es.size - i = (es.size - (i + 1)) + 1 := by omega
        rw [e, List.range'_succ] at hr
        injection hr with h1 h2
        exact ⟨h1, h2⟩
      refine wpAny_bind (wpAny_dictEntries hoa hda ?_)
      have hx : es[x]? = some es[x] := Array.getElem?_eq_getElem hlt
      rw [hx]
      obtain ⟨n, v, t, ka, hxi, hkey, hval, hl⟩ := entry_of hea F₁ hx
      have hisk : (tk3 prog w).is s'.heap (key3 n) ka := hka _ (List.mem_of_getElem? hxi)
      have hhash : es[x].hash = (tk3 prog w).hash (key3 n) := by
        have e1 : es[x]? = (xs[x]?).map (entryOfKey (tk3 prog w)) := entry_at hea x
        rw [hx, hxi] at e1
        rw [Option.some.inj e1]; rfl
      have hdrop : l₁.drop x = (n, v) :: l₁.drop (x + 1) := by
        obtain ⟨hxl, e⟩ := List.getElem?_eq_some_iff.mp hl
        rw [← e]; exact List.drop_eq_getElem_cons hxl
      rw [hdrop, List.all_cons] at hpre
      show wpAny _ _ (holding [es[x].key, es[x].val] _ >>= _) _ _ _
      rw [hkey, hhash, hval]
      refine wpAny_bind (wpAny_holding (wpAny_bind (wpAny_dictFind_heap (knd := tk3 prog w) (k := key3 n) hu hisk hob hdb heb hkb hnb ?_ ?_)))
      · intro hno
        have hn : getT l₂ n = none := F₂.none_of (not_mem_keys_of_get hno)
        refine wpAny_pure ?_
        show wpAny _ _ (if (!false) = true then _ else _) _ _ _
        rw [if_pos (by decide)]
        refine wpAny_pure (wpAny_pure ?_)
        rw [← hpre, hn] at h
        simpa using h
      · intro j p hj
        refine wpAny_bind (wpAny_dictEntries hob hdb ?_)
        rw [entry_at heb j, hj]
        rcases F₂.at n with ⟨e1, _⟩ | ⟨b', u, tu, e1, e2⟩
        · rw [atKey_of_get hnb hj] at e1; cases e1
        · rw [atKey_of_get hnb hj] at e1
          have hp := Option.some.inj e1
          subst hp
          show wpAny _ _ (holding [Value.int u tu] (eqBool (.int v t) (.int u tu))) _ _ _
          refine wpAny_holding (wpAny_eqBool_int ?_)
          rw [← hpre, e2] at h
          by_cases huv : v = u
          · subst huv
            rw [show (v == v) = true by simp]
            show wpAny _ _ (if (!true) = true then _ else _) _ _ _
            rw [if_neg (by decide)]
            refine wpAny_bind (wpAny_dictEpoch hoa hda ?_)
            rw [if_neg (by simp)]
            refine wpAny_pure ⟨rfl, rfl, x + 1, hrest, hlt, ?_⟩
            rw [← hpre, e2]; simp
          · rw [show (v == u) = false by simpa using huv]
            show wpAny _ _ (if (!false) = true then _ else _) _ _ _
            rw [if_pos (by decide)]
            refine wpAny_pure (wpAny_pure ?_)
            have : (some u == some v) = false := by simpa using fun e => huv e.symm
            rw [this] at h
            simpa using h
    · rintro q s' ⟨rfl, rfl, i, hr, hi, hpre⟩
      have hin : i = es.size := by
        rcases Nat.lt_or_ge i es.size with h | h
        · have e : es.size - i = (es.size - (i + 1)) + 1 := by omega
          rw [e, List.range'_succ] at hr; exact nomatch hr
        · exact Nat.le_antisymm hi h
      rw [hin, c₁, List.drop_length] at hpre
      rw [← hpre] at h
      exact wpAny_pure (by simpa using h)

theorem ne_tabs {a b : Addr} {xs ys} {l₁ l₂ : List (Int × Int)} {Q : Value → Shared → Prop} (ha : (a == sysModules) = false) (hb : (b == sysModules) = false) (hu : A.units + 1 < cLine)
    (D₁ : s.heap.DictOfH (tk3 prog w) a xs) (D₂ : s.heap.DictOfH (tk3 prog w) b ys) (F₁ : Fits xs l₁) (F₂ : Fits ys l₂) (h : Q (.bool (!eqT l₁ l₂)) s) :
    wpAny (model prog w) A (compareOp .NotEq (.ref a) (.ref b)) Q E s := by
  refine wpAny_richCompare_same_room (op := .NotEq) D₁.typeIs D₂.typeIs PySem.F.slot_dict_ne (wpAny_call_entry PySem.F.slot_dict_ne D₁.typeIs PySem.F.entry_dict_ne ?_ (PySem.F.args_dict_ne_2 _ _)) (by omega)
  show wpAny _ _ (Builtin.Dict.dictSlotArgs "__ne__" ⟨[.ref a, .ref b], []⟩ >>= _) _ _ s
  refine wpAny_bind ?_
  unfold Builtin.Dict.dictSlotArgs
  refine wpAny_bind (wpAny_notOrdered_dict D₁.typeIs ?_)
  show wpAny _ _ (pure (Value.ref a, Value.ref b)) _ _ s
  refine wpAny_pure (wpAny_bind (wpAny_isInstance (T := "dict") D₂.typeIs PySem.F.sub_dict_dict ?_))
  simp only [Bool.not_true, Bool.false_eq_true, if_false]
  refine wpAny_bind (wpAny_pure (wpAny_bind (wpAny_pure (wpAny_bind (same_pairs ha hb hu D₁ D₂ F₁ F₂ ?_)))))
  refine wpAny_pure ⟨_, rfl, fun x => (nomatch x), ?_⟩
  simpa using h
end
end Mine
end

section
open PySem PySem.W PyProof.Rows PySem.Calls
set_option linter.unusedVariables false
set_option linter.unusedSimpArgs false
set_option maxRecDepth 100000
set_option maxHeartbeats 4000000
namespace Mine

/-- a heap that only grew -/
def Ext (h h' : Heap) : Prop := (∀ b o, h.get? b = some o → h'.get? b = some o) ∧ h.objs.size ≤ h'.objs.size
theorem Ext.refl (h : Heap) : Ext h h := ⟨fun _ _ e => e, Nat.le_refl _⟩
theorem Ext.trans {h₁ h₂ h₃ : Heap} (x : Ext h₁ h₂) (y : Ext h₂ h₃) : Ext h₁ h₃ := ⟨fun b o e => y.1 b o (x.1 b o e), Nat.le_trans x.2 y.2⟩
theorem Ext.push (h : Heap) (o : Obj) : Ext h (h.push o) := ⟨fun _ _ e => Heap.get?_push_of_some _ e, by rw [Heap.size_push]; exact Nat.le_succ _⟩
theorem Ext.none {h h' : Heap} (x : Ext h h') {b : Addr} (e : h'.get? b = none) : h.get? b = none := by
  cases q : h.get? b with
  | none => rfl
  | some o => rw [x.1 b o q] at e; cases e
theorem Ext.of_fr {h₀ h : Heap} {L : Addr} {m : Str → Option Value} (F : Fr h₀ L h m) : Ext h₀ h := ⟨F.keep, Nat.le_trans F.above (Nat.le_of_lt F.ns.lt)⟩

/-- what an iterator walks: its own object, and the objects it stands on -/
def Src (prog : Program) (w : World) (A : Around) (target : PySem.Expr) (h₁ : Heap) (I : Addr) (h₂ : Heap) (src : List Addr) (n : Nat) (P : Nat → Value → Heap → Prop) : Prop :=
  ∃ fp Md St, KTurns prog w A target I fp [I] n P Md St ∧ (∀ i (s : Shared) (Q : Value → Shared → Prop) (E : Value → Shared → Prop), St i s.heap → Q (.ref I) s → wpAny (model prog w) A (pyIter (.ref I)) Q E s) ∧
    (∀ i h, St i h → ∀ b ∈ fp, ∃ o, h.get? b = some o) ∧ St 0 h₂ ∧ h₁.get? I = none ∧ (∀ b ∈ fp, b = I ∨ b ∈ src) ∧ Ext h₁ h₂

section
variable {prog : Program} {w : World} {A : Around} {E : Value → Shared → Prop} {s : Shared} {env : Env} {h₀ : Heap} {target : PySem.Expr}

theorem size_none (h : Heap) : h.get? h.objs.size = none := Heap.get?_none_of_le (Nat.le_refl _)

theorem src_range {r : Addr} {a b c : Int} {t u v : Tok} {n : Nat} {Q : Value → Shared → Prop} (hh : A.handled = none) (hr : IsRange s.heap r a b c t u v) (hsm : Builtin.Range.small a b c = true) (hn : Builtin.Range.rangeSize a b c = (n : Int))
    (h : ∀ I h₂, (∀ x px, Src prog w A (.Name x px) s.heap I h₂ [] n (fun i v _ => i < n ∧ ∃ t, v = .int (a + i * c) t)) → Q (.ref I) { s with heap := h₂ }) :
    wpAny (model prog w) A (pyIter (.ref r)) Q E s := by
  refine wpAny_pyIter_range hr hsm (h _ _ fun x px => ?_)
  have W := (Walks.range (prog := prog) (w := w) (A := A) hh s.heap.objs.size a c n).bound
  refine ⟨_, _, _, KTurns.ofWalks W (fun i v s Q E _ q => wpAny_of_eq rfl q), W.self, ?_, ?_, size_none _, fun b hb => .inl (List.mem_singleton.mp hb), Ext.push _ _⟩
  · intro i h st b hb
    rw [List.mem_singleton.mp hb]
    have st' : h.get? _ = some _ := st
    exact ⟨_, st'⟩
  · rw [hn]
    have : IsRangeIter (s.heap.push { cls := .type "range_iterator", data := .fields #[rawInt a, rawInt (n : Int), rawInt c] }) s.heap.objs.size a n c := Heap.get?_push_size _ rfl
    simpa using this

theorem src_list {l : Addr} {its : Array Value} {Q : Value → Shared → Prop} (hh : A.handled = none) (hl : s.heap.IsList l its)
    (h : ∀ I h₂, (∀ x px, Src prog w A (.Name x px) s.heap I h₂ [l] its.size (fun i v _ => its[i]? = some v)) → Q (.ref I) { s with heap := h₂ }) :
    wpAny (model prog w) A (pyIter (.ref l)) Q E s := by
  refine wpAny_pyIter_list hl (h _ _ fun x px => ?_)
  have hlt : l < s.heap.objs.size := let ⟨_, e, _⟩ := hl; Heap.lt_size e
  have W := Walks.list (prog := prog) (w := w) (A := A) hh s.heap.objs.size l (Nat.ne_of_lt hlt) its
  refine ⟨_, _, _, KTurns.ofWalks W (fun i v s Q E _ q => wpAny_of_eq rfl q), W.self, ?_, ⟨⟨_, Heap.get?_push_size _ rfl, rfl, rfl⟩, hl.push _⟩, size_none _, fun b hb => ?_, Ext.push _ _⟩
  · intro i h st b hb
    rcases List.mem_cons.mp hb with rfl | hb
    · obtain ⟨⟨o, e, _⟩, _⟩ := st; exact ⟨o, e⟩
    · rw [List.mem_singleton.mp hb]; obtain ⟨_, o, e, _⟩ := st; exact ⟨o, e⟩
  · rcases List.mem_cons.mp hb with rfl | hb
    · exact .inl rfl
    · exact .inr hb

theorem src_bytes {b : Array UInt8} {t : Tok} {Q : Value → Shared → Prop} (hh : A.handled = none)
    (h : ∀ I h₂, (∀ x px, Src prog w A (.Name x px) s.heap I h₂ [] b.size (fun i v _ => ∃ c u, b[i]? = some c ∧ v = .int (c.toNat : Int) u)) → Q (.ref I) { s with heap := h₂ }) :
    wpAny (model prog w) A (pyIter (.bytes b t)) Q E s := by
  refine KBw.pyIter_bytes (h _ _ fun x px => ?_)
  have W := KBw.walks (prog := prog) (w := w) (A := A) hh s.heap.objs.size b t
  refine ⟨_, _, _, KTurns.ofWalks W (fun i v s Q E _ q => wpAny_of_eq rfl q), W.self, ?_, ⟨_, Heap.get?_push_size _ rfl, rfl, rfl⟩, size_none _, fun b hb => .inl (List.mem_singleton.mp hb), Ext.push _ _⟩
  intro i h st b hb
  rw [List.mem_singleton.mp hb]
  obtain ⟨o, e, _⟩ := st; exact ⟨o, e⟩

theorem src_items {v d : Addr} {es : Array DictEntry} {ep : Nat} {Q : Value → Shared → Prop} (hh : A.handled = none) (hv : s.heap.IsItemsView v d) (hm : RawD s.heap d es ep)
    (h : ∀ I h₂, (∀ elts k pos, Src prog w A (.Tuple elts k pos) s.heap I h₂ [d] es.size (fun i v h => PairAt es i v h)) → Q (.ref I) { s with heap := h₂ }) :
    wpAny (model prog w) A (pyIter (.ref v)) Q E s := by
  refine iter_items hv hm (h _ _ fun elts k pos => ?_)
  refine ⟨_, _, _, turns_items hh s.heap.objs.size d (Nat.ne_of_lt hm.lt) es ep, fun i s Q E st q => let ⟨_, _, e⟩ := st.1; kcp_self e q, ?_, ⟨⟨_, _, Heap.get?_push_size _ rfl⟩, hm.at fun o e => Heap.get?_push_of_some _ e⟩, size_none _, fun b hb => ?_, Ext.push _ _⟩
  · intro i h st b hb
    rcases List.mem_cons.mp hb with rfl | hb
    · obtain ⟨⟨_, _, e⟩, _⟩ := st; exact ⟨_, e⟩
    · rw [List.mem_singleton.mp hb]; obtain ⟨_, o, e, _⟩ := st; exact ⟨o, e⟩
  · rcases List.mem_cons.mp hb with rfl | hb
    · exact .inl rfl
    · exact .inr hb

/-- a for statement over such a source -/
theorem for_src {iter : PySem.Expr} {body : List Stmt} {pos : Pos} {Q : Flow → Shared → Prop}
    (h : wpAny (model prog w) A (eval iter env) (fun xv s₁ => wpAny (model prog w) A (pyIter xv) (fun it s₂ =>
      ∃ I src n P m news, ∃ (J : Nat → (Str → Option Value) → List (Addr × Obj) → Prop), it = .ref I ∧ Src prog w A target s₁.heap I s₂.heap src n P ∧ env.locals ∉ src ∧ (∀ p ∈ news, ∀ b ∈ src, h₀.get? b = none → p.1 ≠ b) ∧ Fr h₀ env.locals s₁.heap m ∧ News h₀ env.locals s₁.heap news ∧ J 0 m news ∧
        (∀ i v m₁ news₁ h₁ tk₁ own E', i < n → P i v h₁ → J i m₁ news₁ → (∀ p ∈ news₁, ∀ q ∈ own, p.1 ≠ q.1) → Fr h₀ env.locals h₁ m₁ → News h₀ env.locals h₁ (own ++ news₁) →
          wpAny (model prog w) A (assign target env v) (fun _ s₃ => wpAny (model prog w) A (execs body env) (TurnEnd h₀ env.locals own (J (i + 1)) { s₂ with heap := h₁, toks := tk₁ }) E' s₃) E' { s₂ with heap := h₁, toks := tk₁ }) ∧
        ∀ h' tk m' news', Fr h₀ env.locals h' m' → News h₀ env.locals h' news' → J n m' news' → Q .next { s₂ with heap := h', toks := tk }) E s₁) E s)
    (hs : ∀ x, foldedSetIterable iter env x = pure x := by intro _; rfl) :
    wpAny (model prog w) A (exec (.For target iter body [] pos) env) Q E s := by
  refine For_of (h₀ := h₀) (wpAny_mono h (fun xv s₁ h₁ => wpAny_mono h₁ (fun it s₂ h₂ => ?_) fun _ _ e => e) fun _ _ e => e) hs
  obtain ⟨I, src, n, P, m, news, J, rfl, ⟨fp, Md, St, W, self, alive, st, hI, hfp, up, _⟩, hLs, hap, F, N, h0, step, done⟩ := h₂
  have hI₀ : h₀.get? I = none := by
    cases q : h₀.get? I with
    | none => rfl
    | some o => have := F.keep I o q; rw [hI] at this; cases this
  refine ⟨I, fp, n, P, Md, St, m, news, J, rfl, W, fun hm => ?_, hI₀, alive, ?_, st, fr_up F up, news_up N up, h0, step, done⟩
  · rcases hfp _ hm with e | e
    · obtain ⟨o, _, _, ho, _⟩ := F.ns; rw [e, hI] at ho; cases ho
    · exact hLs e
  · intro p hp b hb hn e
    rcases hfp b hb with q | q
    · have := (N p hp).1; rw [e, q, hI] at this; cases this
    · exact hap p hp b q hn e

/-! ### the turns of one clause of a list comprehension -/
abbrev lst (ys : List Value) : Obj := PyProof.Rows.LCg.lst ys


theorem comp_turns {e : PySem.Expr} {d : Nat} {I : Addr} {fp : List Addr} {n : Nat} {P Md : Nat → Value → Heap → Prop} {St : Nat → Heap → Prop} {cenv : Env} {acc : Value} {R : Result → Shared → Prop} {T : (Shared → Prop) → (Value → Shared → Prop) → Shared → Prop}
    {m : Str → Option Value} {news : List (Addr × Obj)} (W : KTurns prog w A target I fp [I] n P Md St) (alive : ∀ i h, St i h → ∀ b ∈ fp, ∃ o, h.get? b = some o)
    (hq : (Code.compLoop e d (.ref I) acc cenv).quiet = true)
    (hden : ∀ Q E s, wpAny (model prog w) A (compTurn e d (.ref I) acc cenv) Q (notedBy (model prog w) A cenv E) s → wpAny (model prog w) (A.under (.compLoop e d (.ref I) acc cenv)) ((model prog w).den (.compLoop e d (.ref I) acc cenv)) Q E s)
    (turn : ∀ (Q : Fin → Shared → Prop) (E : Value → Shared → Prop) s, wpAny (model prog w) A (pyNext (.ref I)) (fun r s₁ => match r with
      | none => Q (.done .next) s₁
      | some v => wpAny (model prog w) A (letOwnedTupleGo target (.ref I) v) (fun _ s₂ => wpAny (model prog w) A (assign target cenv v) (fun _ s₃ => T (fun s₄ => Q (.again (.compLoop e d (.ref I) acc cenv)) s₄) E s₃) E s₂) E s₁) E s → wpAny (model prog w) A (compTurn e d (.ref I) acc cenv) Q E s)
    (mono : ∀ (Q Q' : Shared → Prop) E s, (∀ s, Q s → Q' s) → T Q E s → T Q' E s)
    (hLf : cenv.locals ∉ fp) (hI : h₀.get? I = none) (hnw : ∀ p ∈ news, ∀ b ∈ fp, h₀.get? b = none → p.1 ≠ b) (hst : St 0 s.heap) (F : Fr h₀ cenv.locals s.heap m) (N : News h₀ cenv.locals s.heap news)
    (J : Nat → (Str → Option Value) → List (Addr × Obj) → Prop) (h0 : J 0 m news)
    (step : ∀ i v m₁ news₁ h₁ tk₁ own E', i < n → P i v h₁ → J i m₁ news₁ → (∀ p ∈ news₁, ∀ q ∈ own, p.1 ≠ q.1) → Fr h₀ cenv.locals h₁ m₁ → News h₀ cenv.locals h₁ (own ++ news₁) →
      wpAny (model prog w) A (assign target cenv v) (fun _ s₂ => T (TurnEnd h₀ cenv.locals own (J (i + 1)) { s with heap := h₁, toks := tk₁ } .next) E' s₂) E' { s with heap := h₁, toks := tk₁ })
    (hR : ∀ h' tk m' news', Fr h₀ cenv.locals h' m' → News h₀ cenv.locals h' news' → J n m' news' → R (.ok .next) { s with heap := h', toks := tk }) :
    codeAny (model prog w) A (.compLoop e d (.ref I) acc cenv) R s := by
  have hIf : I ∈ fp := W.sub I (by simp)
  have hLw : cenv.locals ≠ I := fun e => hLf (e ▸ hIf)
  have old : ∀ b o, h₀.get? b = some o → b ≠ I := fun b o e hb => by rw [hb, hI] at e; cases e
  refine codeAny_loop hq
    (fun k s' => ∃ h' tk m' news' i, s' = { s with heap := h', toks := tk } ∧ St i h' ∧ Fr h₀ cenv.locals h' m' ∧ News h₀ cenv.locals h' news' ∧ (∀ p ∈ news', ∀ b ∈ fp, h₀.get? b = none → p.1 ≠ b) ∧ J i m' news' ∧ i ≤ n ∧ k = n + 1 - i) ?_ (n + 1)
    ⟨s.heap, s.toks, m, news, 0, rfl, hst, F, N, hnw, h0, Nat.zero_le _, rfl⟩
  rintro k s' ⟨h', tk, m', news', i, rfl, hst', F', N', hoff, hJ, hi, rfl⟩
  refine hden _ _ _ (turn _ _ _ ?_)
  have hnw' : ∀ p ∈ news', p.1 ≠ I := fun p hp => hoff p hp I hIf hI
  have next : ∀ h₁ : Heap, (∀ b o, b ∉ [I] → h'.get? b = some o → h₁.get? b = some o) → Fr h₀ cenv.locals h₁ m' ∧ News h₀ cenv.locals h₁ news' := fun h₁ hk₁ =>
    ⟨⟨F'.ns.at' fun o e => hk₁ _ o (by simpa using hLw) e, fun b o e => hk₁ b o (by simpa using old b o e) (F'.keep b o e), F'.above⟩, fun p hp => ⟨hk₁ _ _ (by simpa using hnw' p hp) (N' p hp).1, (N' p hp).2⟩⟩
  by_cases hlt : i < n
  · refine W.item i _ _ _ hlt hst' fun v h₁ tk₁ hMd hk₁ => ?_
    refine W.go i v _ _ _ hMd fun h₂ hP hst₂ hk₂ => ?_
    obtain ⟨F₂, N₂⟩ := next h₂ fun b o hb x => hk₂ b o hb (hk₁ b o hb x)
    have Nown : News h₀ cenv.locals h₂ (PyProof.Rows.ownOf h₀ fp h₂) := news_ownOf hLf
    have hall : ∀ b ∈ fp, h₀.get? b = none → ∀ o, h₂.get? b = some o → (b, o) ∈ PyProof.Rows.ownOf h₀ fp h₂ := fun b hb hn o e => mem_ownOf hb hn e
    have hap : ∀ p ∈ news', ∀ q ∈ PyProof.Rows.ownOf h₀ fp h₂, p.1 ≠ q.1 := fun p hp q hq => hoff p hp q.1 (ownOf_sub q hq) (Nown q hq).2.2
    refine wpAny_mono (step i v m' news' h₂ tk₁ (PyProof.Rows.ownOf h₀ fp h₂) _ hlt hP hJ hap F₂ (Nown.append N₂)) (fun _ s₂ h₂' => mono _ _ _ _ (fun s₃ h₃ => ?_) h₂') fun _ _ e => e
    obtain ⟨_, h₃', tk₃, m₂, news₂, rfl, F₃, N₃, ha₃, hJ₃⟩ := h₃
    refine ⟨rfl, n + 1 - (i + 1), by omega, h₃', tk₃, m₂, news₂, i + 1, rfl, ?_, F₃, N₃.right, ?_, hJ₃, hlt, rfl⟩
    · refine W.frame _ _ _ hst₂ fun b hb o e => ?_
      cases hn : h₀.get? b with
      | some o₀ =>
        have : o₀ = o := by have q := F₂.keep b o₀ hn; rw [e] at q; exact (Option.some.inj q).symm
        exact this ▸ F₃.keep b o₀ hn
      | none => exact (N₃ _ (List.mem_append_left _ (mem_ownOf hb hn e))).1
    · intro p hp b hb hn e
      obtain ⟨o, ho⟩ := alive _ _ hst₂ b hb
      exact ha₃ p hp (b, o) (hall b hb hn o ho) e
  · have hin : i = n := by omega
    subst hin
    refine W.done _ _ _ hst' fun h₁ tk₁ hk₁ => ?_
    obtain ⟨F₁, N₁⟩ := next h₁ hk₁
    exact hR h₁ tk₁ m' news' F₁ N₁ hJ

/-- the list grows by one -/
theorem append_led {C D : Addr} {own r : List (Addr × Obj)} {ys : List Value} {y : Value} {m : Str → Option Value} {Q : Value → Shared → Prop} (F : Fr h₀ C s.heap m) (N : News h₀ C s.heap (own ++ (D, lst ys) :: r))
    (h1 : ∀ p ∈ own, p.1 ≠ D) (h2 : ∀ p ∈ r, p.1 ≠ D) (hsz : ys.length ≤ sizeLine)
    (h : ∀ h', Fr h₀ C h' m → News h₀ C h' (own ++ (D, lst (ys ++ [y])) :: r) → Q .none { s with heap := h' }) :
    wpAny (model prog w) A (call (.builtin "list.append") [.ref D, y]) Q E s := by
  have hD := N (D, lst ys) (List.mem_append_right _ (.head _))
  refine append_at hD.1 (fun h' hs ho => ?_) (by simpa using hsz)
  refine h h' ⟨F.ns.at' fun o e => hs.extBut _ _ (Ne.symm hD.2.1) e, fun b o e => hs.extBut b o (fun q => ?_) (F.keep b o e), F.above⟩ (N.setAt h1 h2 hs ?_)
  · rw [q, hD.2.2] at e; cases e
  · rw [ho]; exact congrArg some (PyProof.Rows.LCg.lst_snoc ys y)

/-- the rest of a turn of the last clause -/
def lastT (prog : Program) (w : World) (A : Around) (elt : PySem.Expr) (ifs : List PySem.Expr) (acc : Value) (cenv : Env) (Q : Shared → Prop) (E : Value → Shared → Prop) (s : Shared) : Prop :=
  wpAny (model prog w) A (forIn ifs true fun c r => if r = true then do let ok ← isTrue c cenv (eval c cenv); pure (ForInStep.yield ok) else pure (ForInStep.yield r)) (fun ok s₃ =>
    if ok = true then wpAny (model prog w) A (eval elt cenv) (fun x s₄ => wpAny (model prog w) A (call (.builtin "list.append") [acc, x]) (fun _ s₅ => Q s₅) E s₄) E s₃ else Q s₃) E s
theorem lastT_mono {elt : PySem.Expr} {ifs : List PySem.Expr} {acc : Value} {cenv : Env} (Q Q' : Shared → Prop) (E : Value → Shared → Prop) (s : Shared) (hq : ∀ s, Q s → Q' s) (h : lastT prog w A elt ifs acc cenv Q E s) : lastT prog w A elt ifs acc cenv Q' E s := by
  refine wpAny_mono h (fun ok s₃ h₃ => ?_) fun _ _ e => e
  cases ok with
  | false => exact hq _ h₃
  | true => exact wpAny_mono h₃ (fun x s₄ h₄ => wpAny_mono h₄ (fun _ s₅ h₅ => hq _ h₅) fun _ _ e => e) fun _ _ e => e
theorem turn_one {elt iter : PySem.Expr} {ifs : List PySem.Expr} {scope : Scope} {pos : Pos} {it acc : Value} {cenv : Env} (Q : Fin → Shared → Prop) (E : Value → Shared → Prop) (s : Shared)
    (h : wpAny (model prog w) A (pyNext it) (fun r s₁ => match r with
      | none => Q (.done .next) s₁
      | some v => wpAny (model prog w) A (letOwnedTupleGo target it v) (fun _ s₂ => wpAny (model prog w) A (assign target cenv v) (fun _ s₃ => lastT prog w A elt ifs acc cenv (fun s₄ => Q (.again (.compLoop (.ListComp elt [⟨target, iter, ifs, 0⟩] scope pos) 0 it acc cenv)) s₄) E s₃) E s₂) E s₁) E s) :
    wpAny (model prog w) A (compTurn (.ListComp elt [⟨target, iter, ifs, 0⟩] scope pos) 0 it acc cenv) Q E s := by
  rw [compTurn_list]
  refine wpAny_bind (wpAny_standAt (wpAny_bind (wpAny_mono h (fun r s₁ h₁ => ?_) fun _ _ h' => h')))
  cases r with
  | none => exact wpAny_pure h₁
  | some v =>
    refine wpAny_bind (wpAny_mono h₁ (fun _ s₀ h₀' => ?_) fun _ _ h' => h')
    refine wpAny_bind (wpAny_mono h₀' (fun _ s₂ h₂ => ?_) fun _ _ h' => h')
    refine wpAny_bind (wpAny_mono h₂ (fun ok s₃ h₃ => ?_) fun _ _ h' => h')
    cases ok with
    | false => exact wpAny_pure h₃
    | true =>
      exact wpAny_bind (wpAny_bind (wpAny_mono h₃ (fun x s₄ h₄ => wpAny_bind (wpAny_mono h₄ (fun _ s₅ h₅ => wpAny_pure (wpAny_pure h₅)) fun _ _ h' => h')) fun _ _ h' => h'))

/-- what an element's evaluation hands back -/
def EltEnd (h₀ : Heap) (C : Addr) (own : List (Addr × Obj)) (D : Addr) (ys : List Value) (J : List (Addr × Obj) → Prop) (s₁ : Shared) (s₂ : Shared) : Prop :=
  ∃ h' tk m' nx, s₂ = { s₁ with heap := h', toks := tk } ∧ Fr h₀ C h' m' ∧ News h₀ C h' (own ++ (D, lst ys) :: nx) ∧ (∀ p ∈ nx, (∀ q ∈ own, p.1 ≠ q.1) ∧ p.1 ≠ D) ∧ J nx

/-- [elt for target in iter if ifs] -/
def CompAt (prog : Program) (w : World) (A : Around) (h₀ : Heap) (env : Env) (scope : Scope) (cl : List (Str × Addr)) (target elt : PySem.Expr) (ifs : List PySem.Expr) (Q : Value → Shared → Prop) (s₁ : Shared) (it : Value) (s₂ : Shared) : Prop :=
  ∃ I src n P, ∃ (nx : List (Addr × Obj)) (J : Nat → List Value → List (Addr × Obj) → Prop), it = .ref I ∧ Src prog w A target s₁.heap I s₂.heap src n P ∧ n ≤ sizeLine ∧ (∀ b ∈ src, ∃ o, s₁.heap.get? b = some o) ∧ Ext h₀ s₁.heap ∧
    (∀ p ∈ nx, s₁.heap.get? p.1 = some p.2 ∧ h₀.get? p.1 = none ∧ p.1 ∉ src) ∧ J 0 [] nx ∧
    (∀ i v ys nx₁ m₁ h₁ tk₁ own C D E', i < n → P i v h₁ → J i ys nx₁ → Fr h₀ C h₁ m₁ → News h₀ C h₁ (own ++ (D, lst ys) :: nx₁) → (∀ p ∈ nx₁, (∀ q ∈ own, p.1 ≠ q.1) ∧ p.1 ≠ D) →
      wpAny (model prog w) A (assign target (compEnvC scope cl C env) v) (fun _ s₃ => wpAny (model prog w) A (forIn ifs true fun c r => if r = true then do let ok ← isTrue c (compEnvC scope cl C env) (eval c (compEnvC scope cl C env)); pure (ForInStep.yield ok) else pure (ForInStep.yield r))
        (fun ok s₄ => if ok = true then wpAny (model prog w) A (eval elt (compEnvC scope cl C env)) (fun y s₅ => EltEnd h₀ C own D ys (J (i + 1) (ys ++ [y])) { s₂ with heap := h₁, toks := tk₁ } s₅) E' s₄
          else EltEnd h₀ C own D ys (J (i + 1) ys) { s₂ with heap := h₁, toks := tk₁ } s₄) E' s₃) E' { s₂ with heap := h₁, toks := tk₁ }) ∧
    ∀ D ys h' tk nx', Ext h₀ h' → h'.get? D = some (lst ys) → h₀.get? D = none → (∀ p ∈ nx', h'.get? p.1 = some p.2 ∧ h₀.get? p.1 = none ∧ p.1 ≠ D) → J n ys nx' → Q (.ref D) { s₂ with heap := h', toks := tk }

theorem comp_src {elt iter : PySem.Expr} {ifs : List PySem.Expr} {scope : Scope} {cl : List (Str × Addr)} {pos : Pos} {Q : Value → Shared → Prop}
    (hclos : closureFor scope env = pure cl) (hcell : ∀ y ∈ scope.names, y.2 ≠ .cell) (hkind : scope.kind = .function)
    (hnames : ∀ y ∈ scope.names, y.2 = .local → scope.names.lookup y.1 = some .local)
    (h : wpAny (model prog w) A (eval iter env) (fun xv s₁ => wpAny (model prog w) A (pyIter xv) (CompAt prog w A s.heap env scope cl target elt ifs Q s₁) E s₁) E s)
    (hs : ∀ x, foldedSetIterable iter env x = pure x := by intro _; rfl) :
    wpAny (model prog w) A (eval (.ListComp elt [⟨target, iter, ifs, 0⟩] scope pos) env) Q E s := by
  rw [eval_ListComp]
  refine wpAny_comprehension_free (use := none) rfl hs hclos hkind hnames (wpAny_mono h (fun xv s₁ h₁ => wpAny_mono h₁ (fun it s₂ h₂ => ?_) fun _ _ e => e) fun _ _ e => e)
  obtain ⟨I, src, n, P, nx, J, rfl, ⟨fp, Md, St, W, self, alive, st, hI, hfp, up, hsu⟩, hsz, hsrc, ⟨hk, hle⟩, hnx, h0, step, done⟩ := h₂
  have hI₀ : s.heap.get? I = none := by
    cases q : s.heap.get? I with
    | none => rfl
    | some o => have := hk I o q; rw [hI] at this; cases this
  have hIf : I ∈ fp := W.sub I (by simp)
  refine wpAny_newObj_type (wpAny_newFunctionEnv hcell (by intro y hy; simp at hy) (fun h₁ hns₁ hsb₁ => ?_) hkind)
  dsimp only at hns₁ hsb₁ ⊢
  generalize hH2 : s₂.heap.push { cls := .type "list", dict := none, data := .seq ([] : List Value).toArray } = H2 at hns₁ hsb₁ ⊢
  have hC : H2.objs.size = s₂.heap.objs.size + 1 := by rw [← hH2, Heap.size_push]
  have hDC : s₂.heap.objs.size ≠ H2.objs.size := by rw [hC]; exact Nat.ne_of_lt (Nat.lt_succ_self _)
  have below : ∀ b, b < s₂.heap.objs.size → b ≠ H2.objs.size ∧ b ≠ s₂.heap.objs.size := fun b hb => ⟨by rw [hC]; exact Nat.ne_of_lt (Nat.lt_succ_of_lt hb), Nat.ne_of_lt hb⟩
  have hfl : ∀ b ∈ fp, b < s₂.heap.objs.size := fun b hb => let ⟨o, e⟩ := alive _ _ st b hb; Heap.lt_size e
  have old : ∀ b o, s₂.heap.get? b = some o → h₁.get? b = some o := fun b o e => hsb₁.extBut b o (below b (Heap.lt_size e)).1 (Heap.get?_push_of_some _ (hH2 ▸ Heap.get?_push_of_some _ e))
  have hacc : h₁.get? s₂.heap.objs.size = some (lst []) := hsb₁.extBut _ _ hDC (Heap.get?_push_of_some _ (hH2 ▸ Heap.get?_push_size _ rfl))
  have hst₁ : St 0 h₁ := W.frame _ _ _ st fun b _ o e => old b o e
  have fresh : ∀ a, s₂.heap.objs.size ≤ a → s.heap.get? a = none := fun a ha => by
    cases e : s.heap.get? a with
    | none => rfl
    | some o' => exact absurd (Heap.lt_size (up _ _ (hk _ _ e))) (Nat.not_lt.mpr ha)
  have F₁ : Fr s.heap H2.objs.size h₁ _ := ⟨hns₁, fun b o e => old b o (up b o (hk b o e)), by
    rw [hC]; exact Nat.le_succ_of_le (Nat.le_trans hle hsu)⟩
  have N₁ : News s.heap H2.objs.size h₁ ((s₂.heap.objs.size, lst []) :: nx) := fun p hp => by
    rcases List.mem_cons.mp hp with rfl | hp
    · exact ⟨hacc, hDC, fresh _ (Nat.le_refl _)⟩
    · obtain ⟨e, e₀, _⟩ := hnx p hp
      exact ⟨old _ _ (up _ _ e), (below _ (Heap.lt_size (up _ _ e))).1, e₀⟩
  have loop : ∀ s₃ : Shared, s₃ = { s₂ with heap := h₁, toks := s₂.toks + ([] : List (Str × Value)).length } →
      codeAny (model prog w) A (.compLoop (.ListComp elt [⟨target, iter, ifs, 0⟩] scope pos) 0 (.ref I) (.ref s₂.heap.objs.size) (compEnvC scope cl H2.objs.size env))
        (compPost (model prog w) A E none Q (.ref s₂.heap.objs.size) H2.objs.size) s₃ := by
    rintro s₃ rfl
    refine comp_turns (h₀ := s.heap) (cenv := compEnvC scope cl H2.objs.size env) (T := lastT prog w A elt ifs (.ref s₂.heap.objs.size) (compEnvC scope cl H2.objs.size env)) W alive rfl (fun Q E s h => wpAny_noted h)
      (fun Q E s h => turn_one Q E s h) lastT_mono (fun hm => absurd (hfl _ hm) (by show ¬ H2.objs.size < _; rw [hC]; exact Nat.not_lt.mpr (Nat.le_succ _))) hI₀ ?_ hst₁ F₁ N₁
      (fun i m nx' => ∃ ys nx₁, nx' = (s₂.heap.objs.size, lst ys) :: nx₁ ∧ ys.length ≤ i ∧ (∀ p ∈ nx₁, p.1 ≠ s₂.heap.objs.size) ∧ J i ys nx₁) ⟨[], nx, rfl, Nat.le_refl _, ?_, h0⟩ ?_ ?_
    · intro p hp b hb hn e
      rcases List.mem_cons.mp hp with rfl | hp
      · exact absurd (hfl b hb) (e ▸ Nat.lt_irrefl _)
      · obtain ⟨e₁, e₀, hns⟩ := hnx p hp
        rcases hfp b hb with q | q
        · rw [e, q, hI] at e₁; cases e₁
        · exact hns (e ▸ q)
    · intro p hp
      obtain ⟨e₁, e₀, hns⟩ := hnx p hp
      exact Nat.ne_of_lt (Heap.lt_size (up _ _ e₁))
    · rintro i v m₁ news₁ h₃ tk₃ own E' hi hP ⟨ys, nx₁, rfl, hyl, hnD, hJ⟩ hap F₃ N₃
      have hoD : ∀ q ∈ own, q.1 ≠ s₂.heap.objs.size := fun q hq e => hap _ (.head _) q hq e.symm
      refine wpAny_mono (step i v ys nx₁ m₁ h₃ tk₃ own H2.objs.size s₂.heap.objs.size E' hi hP hJ F₃ N₃ fun p hp => ⟨fun q hq => hap p (.tail _ hp) q hq, hnD p hp⟩) (fun _ s₄ h₄ => ?_) fun _ _ e => e
      refine wpAny_mono h₄ (fun ok s₅ h₅ => ?_) fun _ _ e => e
      cases ok with
      | false =>
        obtain ⟨h', tk, m', nx₂, rfl, F₄, N₄, ha, hJ₂⟩ := (show EltEnd _ _ _ _ _ _ _ _ from h₅)
        refine ⟨rfl, h', tk, m', _, rfl, F₄, N₄, ?_, ys, nx₂, rfl, Nat.le_succ_of_le hyl, fun p hp => (ha p hp).2, hJ₂⟩
        intro p hp q hq
        rcases List.mem_cons.mp hp with rfl | hp
        · exact fun e => hoD q hq e.symm
        · exact (ha p hp).1 q hq
      | true =>
        refine wpAny_mono h₅ (fun y s₆ h₆ => ?_) fun _ _ e => e
        obtain ⟨h', tk, m', nx₂, rfl, F₄, N₄, ha, hJ₂⟩ := h₆
        refine append_led (s := { s₂ with heap := h', toks := tk }) F₄ N₄ hoD (fun p hp => (ha p hp).2) (by omega) fun h₇ F₇ N₇ => ?_
        refine ⟨rfl, h₇, tk, m', _, rfl, F₇, N₇, ?_, ys ++ [y], nx₂, rfl, by simp; omega, fun p hp => (ha p hp).2, hJ₂⟩
        intro p hp q hq
        rcases List.mem_cons.mp hp with rfl | hp
        · exact fun e => hoD q hq e.symm
        · exact (ha p hp).1 q hq
    · rintro h' tk m' news' F' N' ⟨ys, nx₁, rfl, hyl, hnD, hJ⟩
      refine ⟨m', F'.ns, fun h'' hs'' => ?_⟩
      have hne : ∀ p ∈ (s₂.heap.objs.size, lst ys) :: nx₁, p.1 ≠ H2.objs.size := fun p hp => (N' p hp).2.1
      have hk' : ∀ p ∈ (s₂.heap.objs.size, lst ys) :: nx₁, h''.get? p.1 = some p.2 := fun p hp => hs''.extBut _ _ (hne p hp) (N' p hp).1
      refine done _ ys h'' tk nx₁ ⟨fun b o e => hs''.extBut b o (fun q => ?_) (F'.keep b o e), Nat.le_trans F'.above (by rw [hs''.1]; exact Nat.le_of_lt F'.ns.lt)⟩ (hk' _ (.head _)) (fresh _ (Nat.le_refl _)) (fun p hp => ⟨hk' p (.tail _ hp), (N' p (.tail _ hp)).2.2, hnD p hp⟩) hJ
      rw [q, fresh _ (by rw [hC]; exact Nat.le_succ _)] at e; cases e
  exact codeAny_compStart_list (loop _ rfl) (self 0 _ _ _ hst₁ (loop _ rfl))
end
end Mine
end

section
open PySem PySem.W PyProof.Rows PySem.Calls
set_option linter.unusedVariables false
set_option linter.unusedSimpArgs false
set_option maxRecDepth 100000
set_option maxHeartbeats 4000000
namespace Mine

section
variable {M : Model} {A : Around} {E : Value → Shared → Prop} {s : Shared} {env : Env} {h₀ : Heap} {C : Addr} {m : Str → Option Value} {scope : Scope} {cl : List (Str × Addr)} {x : Str} {pos : Pos} {v : Value} {Q : Value → Shared → Prop} {c : Addr}
/-- names in a comprehension's own frame -/
theorem nameC_L (F : Fr h₀ C s.heap m) (hv : m x = some v) (h : Q v s) (hk : scope.kind = .function := by rfl) (hx : (compEnvC scope cl C env).kindOf x = some .local := by rfl) (hd : (x == ("__debug__" : Str)) = false := by decide) :
    wpAny M A (eval (.Name x pos) (compEnvC scope cl C env)) Q E s := wpAny_Name (wpAny_loadName_local hk hx F.ns hv h) hd
/-- and in the cells about it -/
theorem nameC_C (hc : cl.lookup x = some c) (hv : s.heap.IsCell c (some v)) (h : Q v s) (hk : scope.kind = .function := by rfl) (hx : (compEnvC scope cl C env).kindOf x = some .cell := by rfl) (hd : (x == ("__debug__" : Str)) = false := by decide) :
    wpAny M A (eval (.Name x pos) (compEnvC scope cl C env)) Q E s := wpAny_Name (wpAny_loadName_cell hk hx hc hv h) hd
theorem storeC_L {Q : Unit → Shared → Prop} {news : List (Addr × Obj)} (F : Fr h₀ C s.heap m) (N : News h₀ C s.heap news)
    (h : ∀ h', Fr h₀ C h' (fun y => if y = x then some v else m y) → News h₀ C h' news → Q () { s with heap := h', toks := s.toks + 1 })
    (hk : scope.kind = .function := by rfl) (hx : (compEnvC scope cl C env).kindOf x = some .local := by rfl) : wpAny M A (storeName (compEnvC scope cl C env) x v) Q E s :=
  wpAny_storeName_local hx F.ns (fun h' hn hs => h h' (F.set hn hs) (N.set hs)) (by show ((relabel scope env).kind == .class || ((relabel scope env).kind == .module && _)) = false; rw [show (relabel scope env).kind = scope.kind from rfl, hk]; rfl)
end

theorem cell_at {h h' : Heap} {c : Addr} {v : Option Value} (x : h.IsCell c v) (k : ∀ b o, h.get? b = some o → h'.get? b = some o) : h'.IsCell c v := let ⟨o, e, d⟩ := x; ⟨o, k _ _ e, d⟩
theorem small0 : ∀ n : Nat, n < 20 → Builtin.Range.small 0 n 1 = true ∧ Builtin.Range.rangeSize 0 n 1 = (n : Int) := by decide +kernel
theorem small1 : ∀ n : Nat, n < 20 → Builtin.Range.small 1 n 1 = true ∧ Builtin.Range.rangeSize 1 n 1 = ((n - 1 : Nat) : Int) := by decide +kernel

theorem Src.mono {prog : Program} {w : World} {A : Around} {target : PySem.Expr} {h₁ h₂ : Heap} {I : Addr} {src : List Addr} {n : Nat} {P P' : Nat → Value → Heap → Prop} (x : Src prog w A target h₁ I h₂ src n P) (hp : ∀ i v h, P i v h → P' i v h) :
    Src prog w A target h₁ I h₂ src n P' := by
  obtain ⟨fp, Md, St, W, r⟩ := x
  exact ⟨fp, Md, St, ⟨W.sub, W.frame, W.item, fun i v s Q E hm hQ => W.go i v s Q E hm fun h' p st k => hQ h' (hp _ _ _ p) st k, W.done⟩, r⟩
/-- the values of range(0, n) and of range(1, n), and of one long step -/
theorem src0 {prog : Program} {w : World} {A : Around} {target : PySem.Expr} {h₁ h₂ : Heap} {I : Addr} {src : List Addr} {n : Nat} (x : Src prog w A target h₁ I h₂ src n (fun i v _ => i < n ∧ ∃ t, v = .int (0 + i * 1) t)) :
    Src prog w A target h₁ I h₂ src n (fun i v _ => ∃ t, v = .int (i : Nat) t) := x.mono fun i v h ⟨_, t, e⟩ => ⟨t, by rw [e, Int.mul_one, Int.zero_add]⟩
theorem src1 {prog : Program} {w : World} {A : Around} {target : PySem.Expr} {h₁ h₂ : Heap} {I : Addr} {src : List Addr} {n : Nat} (x : Src prog w A target h₁ I h₂ src n (fun i v _ => i < n ∧ ∃ t, v = .int (1 + i * 1) t)) :
    Src prog w A target h₁ I h₂ src n (fun i v _ => ∃ t, v = .int ((i + 1 : Nat) : Int) t) := x.mono fun i v h ⟨_, t, e⟩ => ⟨t, by rw [e, Int.mul_one]; congr 1; omega⟩
theorem srcN {prog : Program} {w : World} {A : Around} {target : PySem.Expr} {h₁ h₂ : Heap} {I : Addr} {src : List Addr} {c : Int} (x : Src prog w A target h₁ I h₂ src 1 (fun i v _ => i < 1 ∧ ∃ t, v = .int (0 + i * c) t)) :
    Src prog w A target h₁ I h₂ src 1 (fun i v _ => ∃ t, v = .int 0 t) := x.mono fun i v h ⟨hi, t, e⟩ => ⟨t, by
    obtain rfl : i = 0 := by omega
    rw [e]
    congr 1
    simp⟩

/-! ### _law_falls -/
def fallsTo (ks : List Int) (i : Nat) : List Int := ((List.range i).filter (fun j => decide (ks.getD (j + 1) 0 < ks.getD j 0))).map fun (j : Nat) => (j : Int) + 1
def falls (ks : List Int) : List Int := fallsTo ks (ks.length - 1)
theorem fallsTo_succ (ks : List Int) (i : Nat) : fallsTo ks (i + 1) = fallsTo ks i ++ (if ks.getD (i + 1) 0 < ks.getD i 0 then [(i : Int) + 1] else []) := by
  unfold fallsTo
  rw [List.range_succ, List.filter_append, List.map_append]
  congr 1
  simp only [List.filter_cons, List.filter_nil]
  by_cases h : ks.getD (i + 1) 0 < ks.getD i 0
  · rw [if_pos h, if_pos (by simpa using h)]; rfl
  · rw [if_neg h, if_neg (by simpa using h)]; rfl

section
variable {prog : Program} {w : World} {A : Around} {E : Value → Shared → Prop} {s : Shared} {mg mb : Str → Option Value} {R : Result → Shared → Prop}

theorem law_falls_ok {b : Array UInt8} {t : Tok} {ks : List Int} (G : Gd w mg mb s.heap) (hk : KBw.bInts b = ks) (hz : ks.length < 20) (hh : A.handled = none) (hroom : A.depth < recursionLimit)
    (h : ∀ D vs h' tk, Ext s.heap h' → h'.IsList D vs.toArray → s.heap.get? D = none → IntsAre vs (falls ks) → R (.ok (.ret (.ref D))) { s with heap := h', toks := tk }) :
    codeAny (model prog w) A (.call (.ref 50) ⟨[.bytes b t], []⟩) R s := by
  refine enterC (binds := [(Str.ofString "order", .bytes b t)]) G hroom (by rfl) (by rfl) (BindsTo.of_eq rfl) (fun n x hx => ?_) (by decide) (fun h₁ tk₁ cells F N X => ?_) rfl rfl rfl
  · rw [List.mem_singleton.mp hx]; exact .inr ⟨rfl, rfl⟩
  obtain ⟨o, rfl, ho⟩ := X.one
  have hcell : h₁.IsCell (s.heap.objs.size + 1) (some (.bytes b t)) := ⟨o, (N _ (.head _)).1, ho⟩
  refine wpAny_execs_cons (wpAny_Return_some (comp_src (cl := [(Str.ofString "order", s.heap.objs.size + 1)]) rfl (by decide) rfl (by decide) ?_))
  refine Call_ (nameX_B F G.X G.T (by rfl) boot_range (by decide) (PyProof.Rows.callWith_type1 (spliced_more (wpAny_Constant_int (spliced_more (Call_ (nameX_B F G.X G.T (by rfl) boot_len (by decide) (PyProof.Rows.callWith_builtin1 (spliced_more (nameX_C N rfl (.head _) ho (spliced_none (KBw.len_K hk (by omega) (spliced_none (call_range_2 ?_))))))))))))))
  obtain ⟨hs, hn⟩ := small1 ks.length hz
  refine src_range hh (Heap.get?_push_size _ rfl) hs hn fun I h₂ hsrc => ?_
  refine ⟨I, _, _, _, [], fun i ys nx => IntsAre ys (fallsTo ks i) ∧ nx = [], rfl, hsrc _ _, by rw [sizeLine_eq]; omega, (fun b hb => nomatch hb), Ext.push _ _, (fun p hp => nomatch hp), ⟨.nil, rfl⟩, ?_, ?_⟩
  · rintro i v ys nx₁ m₁ h₃ tk₃ own C D E' hi ⟨_, t', rfl⟩ ⟨hys, rfl⟩ F₃ N₃ hap
    refine wpAny_assign_Name (storeC_L F₃ N₃ fun h₄ F₄ N₄ => ?_)
    have hcl : h₄.IsCell (s.heap.objs.size + 1) (some (.bytes b t)) := cell_at hcell F₄.keep
    have hi' : i < ks.length - 1 := hi
    have e1 : (1 + (i : Int) * 1 - 1).toNat = i := by omega
    have e2 : (1 + (i : Int) * 1).toNat = i + 1 := by omega
    refine wpAny_tests_one (wpAny_isTrue_Compare1 (Subscript_ (nameC_C rfl hcl (wpAny_BinOp (nameC_L F₄ rfl (wpAny_Constant_int (sub_int (KBw.item_K hk (by omega) (by omega) (by omega) fun t₁ tk₁ _ _ => ?_))))))))
    refine Subscript_ (nameC_C rfl hcl (nameC_L F₄ rfl (KBw.item_K hk (by omega) (by omega) (by omega) fun t₂ tk₂ _ _ => gt_int (wpAny_truthy_bool ?_))))
    rw [e1, e2]
    by_cases hlt : ks.getD (i + 1) 0 < ks.getD i 0
    · refine KBc.ite_yes (decide_eq_true hlt) ?_
      refine nameC_L F₄ rfl ⟨h₄, _, _, [], rfl, F₄, N₄, hap, ?_, rfl⟩
      rw [fallsTo_succ, if_pos hlt]
      have e3 : (1 : Int) + (i : Int) * 1 = (i : Int) + 1 := by omega
      rw [e3]
      exact hys.append (.cons _ _ .nil)
    · refine KBy.ite_no (fun e => hlt (of_decide_eq_true e)) ?_
      refine ⟨h₄, _, _, [], rfl, F₄, N₄, hap, ?_, rfl⟩
      rw [fallsTo_succ, if_neg hlt, List.append_nil]
      exact hys
  · rintro D ys h' tk nx' hup hD hD₀ _ ⟨hys, _⟩
    refine h D ys h' tk ((Ext.of_fr F).trans hup) ⟨_, hD, rfl, _, rfl⟩ ?_ hys
    cases q : s.heap.get? D with
    | none => rfl
    | some o => rw [F.keep D o q] at hD₀; cases hD₀
end
end Mine
end

section
open PySem PySem.W PyProof.Rows PySem.Calls
set_option linter.unusedVariables false
set_option linter.unusedSimpArgs false
set_option maxRecDepth 100000
set_option maxHeartbeats 4000000
namespace Mine
section
variable {prog : Program} {w : World} {A : Around} {E : Value → Shared → Prop} {s : Shared} {env : Env} {R : Result → Shared → Prop} {elt target target' iter iter' : PySem.Expr} {ifs ifs' : List PySem.Expr} {scope : Scope} {pos : Pos} {cl : List (Str × Addr)}

/-! ### two clauses -/
theorem compTurn_outer (it acc : Value) (env : Env) :
    compTurn (.ListComp elt [⟨target, iter, [], 0⟩, ⟨target', iter', ifs', 0⟩] scope pos) 0 it acc env = (do
      standAt iter.pos
      match ← pyNext it with
      | none => pure (.done .next)
      | some v =>
        letOwnedTupleGo target it v
        assign target env v
        let x ← eval iter' env
        standAt iter'.pos
        let x ← foldedSetIterable iter' env x
        let _ ← runOwn (.compStart (.ListComp elt [⟨target, iter, [], 0⟩, ⟨target', iter', ifs', 0⟩] scope pos) 1 (← holding [x] (pyIter x)) acc env) env
        again (.compLoop (.ListComp elt [⟨target, iter, [], 0⟩, ⟨target', iter', ifs', 0⟩] scope pos) 0 it acc env)) := by rfl
theorem compTurn_inner (it acc : Value) (env : Env) :
    compTurn (.ListComp elt [⟨target, iter, [], 0⟩, ⟨target', iter', ifs', 0⟩] scope pos) 1 it acc env = (do
      standAt iter'.pos
      match ← pyNext it with
      | none => pure (.done .next)
      | some v =>
        letOwnedTupleGo target' it v
        assign target' env v
        let mut ok := true
        for c in ifs' do
          if ok then ok ← isTrue c env (eval c env)
        if ok then
          (do let _ ← call (.builtin "list.append") [acc, ← eval elt env])
        again (.compLoop (.ListComp elt [⟨target, iter, [], 0⟩, ⟨target', iter', ifs', 0⟩] scope pos) 1 it acc env)) := by rfl

theorem turn_inner {it acc : Value} {cenv : Env} (Q : Fin → Shared → Prop) (E : Value → Shared → Prop) (s : Shared)
    (h : wpAny (model prog w) A (pyNext it) (fun r s₁ => match r with
      | none => Q (.done .next) s₁
      | some v => wpAny (model prog w) A (letOwnedTupleGo target' it v) (fun _ s₂ => wpAny (model prog w) A (assign target' cenv v) (fun _ s₃ => lastT prog w A elt ifs' acc cenv (fun s₄ => Q (.again (.compLoop (.ListComp elt [⟨target, iter, [], 0⟩, ⟨target', iter', ifs', 0⟩] scope pos) 1 it acc cenv)) s₄) E s₃) E s₂) E s₁) E s) :
    wpAny (model prog w) A (compTurn (.ListComp elt [⟨target, iter, [], 0⟩, ⟨target', iter', ifs', 0⟩] scope pos) 1 it acc cenv) Q E s := by
  rw [compTurn_inner]
  refine wpAny_bind (wpAny_standAt (wpAny_bind (wpAny_mono h (fun r s₁ h₁ => ?_) fun _ _ h' => h')))
  cases r with
  | none => exact wpAny_pure h₁
  | some v =>
    refine wpAny_bind (wpAny_mono h₁ (fun _ s₀ h₀' => ?_) fun _ _ h' => h')
    refine wpAny_bind (wpAny_mono h₀' (fun _ s₂ h₂ => ?_) fun _ _ h' => h')
    refine wpAny_bind (wpAny_mono h₂ (fun ok s₃ h₃ => ?_) fun _ _ h' => h')
    cases ok with
    | false => exact wpAny_pure h₃
    | true =>
      exact wpAny_bind (wpAny_bind (wpAny_mono h₃ (fun x s₄ h₄ => wpAny_bind (wpAny_mono h₄ (fun _ s₅ h₅ => wpAny_pure (wpAny_pure h₅)) fun _ _ h' => h')) fun _ _ h' => h'))

/-- the rest of a turn of the outer clause -/
def outerT (prog : Program) (w : World) (A : Around) (e iter' : PySem.Expr) (acc : Value) (cenv : Env) (Q : Shared → Prop) (E : Value → Shared → Prop) (s : Shared) : Prop :=
  wpAny (model prog w) A (eval iter' cenv) (fun x s₁ => wpAny (model prog w) A (pyIter x) (fun it s₂ => codeAny (model prog w) A (.compStart e 1 it acc cenv) (fun r s' => match r with | .ok _ => Q s' | .error x => cameBackBy (model prog w) A cenv E x s') s₂) E s₁) E s
theorem outerT_mono {e : PySem.Expr} {acc : Value} {cenv : Env} (Q Q' : Shared → Prop) (E : Value → Shared → Prop) (s : Shared) (hq : ∀ s, Q s → Q' s) (h : outerT prog w A e iter' acc cenv Q E s) : outerT prog w A e iter' acc cenv Q' E s := by
  refine wpAny_mono h (fun x s₁ h₁ => wpAny_mono h₁ (fun it s₂ h₂ => codeAny_mono h₂ fun r s' hr => ?_) fun _ _ e => e) fun _ _ e => e
  cases r with
  | ok f => exact hq _ hr
  | error x => exact hr
theorem turn_outer {it acc : Value} {cenv : Env} (hs : ∀ x, foldedSetIterable iter' cenv x = pure x) (Q : Fin → Shared → Prop) (E : Value → Shared → Prop) (s : Shared)
    (h : wpAny (model prog w) A (pyNext it) (fun r s₁ => match r with
      | none => Q (.done .next) s₁
      | some v => wpAny (model prog w) A (letOwnedTupleGo target it v) (fun _ s₂ => wpAny (model prog w) A (assign target cenv v) (fun _ s₃ => outerT prog w A (.ListComp elt [⟨target, iter, [], 0⟩, ⟨target', iter', ifs', 0⟩] scope pos) iter' acc cenv (fun s₄ => Q (.again (.compLoop (.ListComp elt [⟨target, iter, [], 0⟩, ⟨target', iter', ifs', 0⟩] scope pos) 0 it acc cenv)) s₄) E s₃) E s₂) E s₁) E s) :
    wpAny (model prog w) A (compTurn (.ListComp elt [⟨target, iter, [], 0⟩, ⟨target', iter', ifs', 0⟩] scope pos) 0 it acc cenv) Q E s := by
  rw [compTurn_outer]
  refine wpAny_bind (wpAny_standAt (wpAny_bind (wpAny_mono h (fun r s₁ h₁ => ?_) fun _ _ h' => h')))
  cases r with
  | none => exact wpAny_pure h₁
  | some v =>
    refine wpAny_bind (wpAny_mono h₁ (fun _ s₀ h₀' => ?_) fun _ _ h' => h')
    refine wpAny_bind (wpAny_mono h₀' (fun _ s₂ h₂ => ?_) fun _ _ h' => h')
    refine wpAny_bind (wpAny_mono h₂ (fun x s₃ h₃ => wpAny_bind (wpAny_standAt (wpAny_bind (wpAny_of_eq (hs x) ?_)))) fun _ _ h' => h')
    refine wpAny_bind (wpAny_holding (wpAny_mono h₃ (fun it' s₄ h₄ => wpAny_bind (wpAny_runOwn (codeAny_mono h₄ fun r s' hr => ?_))) fun _ _ h' => h'))
    cases r with
    | ok f => exact wpAny_pure hr
    | error x => exact hr

theorem codeAny_compStart_inner {it acc : Value} {env : Env}
    (h0 : codeAny (model prog w) A (.compLoop (.ListComp elt [⟨target, iter, [], 0⟩, ⟨target', iter', ifs', 0⟩] scope pos) 1 it acc env) R s)
    (h : wpAny (model prog w) A (pyIter it) (fun it' s' => codeAny (model prog w) A (.compLoop (.ListComp elt [⟨target, iter, [], 0⟩, ⟨target', iter', ifs', 0⟩] scope pos) 1 it' acc env) R s')
      (notedBy (model prog w) A env fun x s' => R (.error x) s') s) :
    codeAny (model prog w) A (.compStart (.ListComp elt [⟨target, iter, [], 0⟩, ⟨target', iter', ifs', 0⟩] scope pos) 1 it acc env) R s := by
  refine codeAny_of_tree ?_
  show wpAny _ _ ((compStart (.ListComp elt [⟨target, iter, [], 0⟩, ⟨target', iter', ifs', 0⟩] scope pos) 1 it acc env).onRaise (fun x => do noteFrame x env; standAt theWindowsPlace)) _ _ s
  refine wpAny_notedAt ?_
  unfold compStart
  show wpAny _ _ (ask >>= _) _ _ s
  refine wpAny_bind (wpAny_askSetting (wpAny_ite ?_))
  split
  · first
      | exact wpAny_bind (wpAny_pure (wpAny_pure (And.intro rfl h0)))
      | exact wpAny_pure (And.intro rfl h0)
  · first
      | exact wpAny_bind (wpAny_rule (wpAny_bind (wpAny_standAt (wpAny_bind (wpAny_mono h (fun it' s' h' => wpAny_pure (And.intro rfl h')) fun _ _ x => x)))))
      | (refine wpAny_bind (wpAny_rule ?_); show wpAny _ _ (standAt iter'.pos >>= _) _ _ s; exact wpAny_bind (wpAny_standAt (wpAny_bind (wpAny_mono h (fun it' s' h' => wpAny_pure (And.intro rfl h')) fun _ _ x => x))))

/-- a list comprehension up to its first loop -/
theorem comp_open {gs : List Comprehension} {Q : Value → Shared → Prop}
    (hclos : closureFor scope env = pure cl) (hcell : ∀ y ∈ scope.names, y.2 ≠ .cell) (hkind : scope.kind = .function)
    (hnames : ∀ y ∈ scope.names, y.2 = .local → scope.names.lookup y.1 = some .local)
    (h : wpAny (model prog w) A (eval iter env) (fun xv s₁ => wpAny (model prog w) A (pyIter xv) (fun it s₂ => ∃ I, it = .ref I ∧
      (∀ b o, s.heap.get? b = some o → s₂.heap.get? b = some o) ∧ s.heap.objs.size ≤ s₂.heap.objs.size ∧
      (∀ h' tk (Q' : Value → Shared → Prop) (E' : Value → Shared → Prop), (∀ b o, s₂.heap.get? b = some o → h'.get? b = some o) → Q' (.ref I) { s₂ with heap := h', toks := tk } → wpAny (model prog w) A (pyIter (.ref I)) Q' E' { s₂ with heap := h', toks := tk }) ∧
      ∀ C D h₁ tk m, Fr s.heap C h₁ m → News s.heap C h₁ [(D, lst [])] → (∀ b o, s₂.heap.get? b = some o → h₁.get? b = some o ∧ b ≠ C ∧ b ≠ D) →
        codeAny (model prog w) A (.compLoop (.ListComp elt (⟨target, iter, ifs, 0⟩ :: gs) scope pos) 0 (.ref I) (.ref D) (compEnvC scope cl C env)) (compPost (model prog w) A E none Q (.ref D) C) { s₂ with heap := h₁, toks := tk }) E s₁) E s)
    (hs : ∀ x, foldedSetIterable iter env x = pure x := by intro _; rfl) :
    wpAny (model prog w) A (eval (.ListComp elt (⟨target, iter, ifs, 0⟩ :: gs) scope pos) env) Q E s := by
  rw [eval_ListComp]
  refine wpAny_comprehension_free (use := none) rfl hs hclos hkind hnames (wpAny_mono h (fun xv s₁ h₁ => wpAny_mono h₁ (fun it s₂ h₂ => ?_) fun _ _ e => e) fun _ _ e => e)
  obtain ⟨I, rfl, hk, hle, self, go⟩ := h₂
  refine wpAny_newObj_type (wpAny_newFunctionEnv hcell (by intro y hy; simp at hy) (fun h₁ hns₁ hsb₁ => ?_) hkind)
  dsimp only at hns₁ hsb₁ ⊢
  generalize hH2 : s₂.heap.push { cls := .type "list", dict := none, data := .seq ([] : List Value).toArray } = H2 at hns₁ hsb₁ ⊢
  have hC : H2.objs.size = s₂.heap.objs.size + 1 := by rw [← hH2, Heap.size_push]
  have hDC : s₂.heap.objs.size ≠ H2.objs.size := by rw [hC]; exact Nat.ne_of_lt (Nat.lt_succ_self _)
  have below : ∀ b, b < s₂.heap.objs.size → b ≠ H2.objs.size ∧ b ≠ s₂.heap.objs.size := fun b hb => ⟨by rw [hC]; exact Nat.ne_of_lt (Nat.lt_succ_of_lt hb), Nat.ne_of_lt hb⟩
  have old : ∀ b o, s₂.heap.get? b = some o → h₁.get? b = some o := fun b o e => hsb₁.extBut b o (below b (Heap.lt_size e)).1 (Heap.get?_push_of_some _ (hH2 ▸ Heap.get?_push_of_some _ e))
  have hacc : h₁.get? s₂.heap.objs.size = some (lst []) := hsb₁.extBut _ _ hDC (Heap.get?_push_of_some _ (hH2 ▸ Heap.get?_push_size _ rfl))
  have F₁ : Fr s.heap H2.objs.size h₁ _ := ⟨hns₁, fun b o e => old b o (hk b o e), by rw [hC]; exact Nat.le_succ_of_le hle⟩
  have fresh : s.heap.get? s₂.heap.objs.size = none := by
    cases e : s.heap.get? s₂.heap.objs.size with
    | none => rfl
    | some o' => exact absurd (Heap.lt_size (hk _ _ e)) (Nat.lt_irrefl _)
  have loop := go H2.objs.size s₂.heap.objs.size h₁ (s₂.toks + ([] : List (Str × Value)).length) _ F₁ (fun p hp => by rw [List.mem_singleton.mp hp]; exact ⟨hacc, hDC, fresh⟩) (fun b o e => ⟨old b o e, below b (Heap.lt_size e)⟩)
  exact codeAny_compStart_list loop (self _ _ _ _ old loop)
end
end Mine
end

section
open PySem PySem.W PyProof.Rows PySem.Calls
set_option linter.unusedVariables false
set_option linter.unusedSimpArgs false
set_option maxRecDepth 100000
set_option maxHeartbeats 4000000
namespace Mine

/-! ### _law_wrong -/
def rowTo (ks : List Int) (k j : Nat) : Nat := ((List.range j).filter (fun i => decide (ks.getD k 0 < ks.getD i 0))).length
def wrongTo (ks : List Int) (k : Nat) : Nat := ((List.range k).map fun i => rowTo ks i i).sum
def wrong (ks : List Int) : Nat := wrongTo ks ks.length
theorem rowTo_succ (ks : List Int) (k j : Nat) : rowTo ks k (j + 1) = rowTo ks k j + (if ks.getD k 0 < ks.getD j 0 then 1 else 0) := by
  unfold rowTo
  rw [List.range_succ, List.filter_append, List.length_append]
  congr 1
  simp only [List.filter_cons, List.filter_nil]
  by_cases h : ks.getD k 0 < ks.getD j 0
  · rw [if_pos h, if_pos (by simpa using h)]; rfl
  · rw [if_neg h, if_neg (by simpa using h)]; rfl
theorem rowTo_yes {ks : List Int} {k j : Nat} (h : ks.getD k 0 < ks.getD j 0) : rowTo ks k (j + 1) = rowTo ks k j + 1 := by rw [rowTo_succ, if_pos h]
theorem rowTo_no {ks : List Int} {k j : Nat} (h : ¬ ks.getD k 0 < ks.getD j 0) : rowTo ks k (j + 1) = rowTo ks k j := by rw [rowTo_succ, if_neg h]; rfl
theorem wrongTo_succ (ks : List Int) (k : Nat) : wrongTo ks (k + 1) = wrongTo ks k + rowTo ks k k := by
  unfold wrongTo
  rw [List.range_succ, List.map_append, List.sum_append]
  simp
theorem rowTo_le (ks : List Int) (k j : Nat) : rowTo ks k j ≤ j := by
  unfold rowTo
  exact Nat.le_trans (List.length_filter_le _ _) (by simp)
theorem wrongTo_le (ks : List Int) : ∀ k, wrongTo ks k ≤ k * k
  | 0 => by simp [wrongTo]
  | k + 1 => by
    have h1 := wrongTo_le ks k
    have h2 := rowTo_le ks k k
    rw [wrongTo_succ]
    have : (k + 1) * (k + 1) = k * k + k + (k + 1) := by rw [Nat.succ_mul, Nat.mul_succ]
    omega

theorem nameC_B {M : Model} {A : Around} {E : Value → Shared → Prop} {s : Shared} {K : Frag} {env : Env} {h₀ : Heap} {C : Addr} {m mg mb : Str → Option Value} {scope : Scope} {cl : List (Str × Addr)} {p : Program} {loose : List Str} {x : Str} {pos : Pos} {v : Value} {Q : Value → Shared → Prop}
    (F : Fr h₀ C s.heap m) (X : K.In h₀) (T : TopRead p loose mg mb h₀) (e : nsIn K mainGlobals x = some none) (hv : bootBuiltins x = some v) (hn : x ≠ "__name__") (h : Q v s)
    (hg : env.globals = mainGlobals := by rfl) (hb : env.builtins = builtinsNs := by rfl)
    (hk : scope.kind = .function := by rfl) (hx : (compEnvC scope cl C env).kindOf x = some .globalImplicit := by rfl) (hd : (x == ("__debug__" : Str)) = false := by decide) :
    wpAny M A (eval (.Name x pos) (compEnvC scope cl C env)) Q E s :=
  Name_function_global hk hx (loadGlobal_builtin (env := compEnvC scope cl C env) (by show s.heap.Ns env.globals mg; rw [hg]; exact T.g.keeps F.keep) (mg_none_of X T.g e) (by show s.heap.Ns env.builtins mb; rw [hb]; exact T.b.keeps F.keep) ((T.builtins x hn).trans hv) h) hd

theorem le_of_push {h h₂ : Heap} {o : Obj} (x : (h.push o).objs.size ≤ h₂.objs.size) : h.objs.size ≤ h₂.objs.size := Nat.le_trans (by rw [Heap.size_push]; exact Nat.le_succ _) x

section
variable {prog : Program} {w : World} {A : Around} {E : Value → Shared → Prop} {s : Shared} {mg mb : Str → Option Value} {R : Result → Shared → Prop}

theorem law_wrong_ok {b : Array UInt8} {t : Tok} {ks : List Int} (G : Gd w mg mb s.heap) (hk : KBw.bInts b = ks) (hz : ks.length < 20) (hh : A.handled = none) (hroom : A.depth < recursionLimit)
    (h : ∀ t h' tk, (∀ b o, s.heap.get? b = some o → h'.get? b = some o) → R (.ok (.ret (.int (wrong ks : Nat) t))) { s with heap := h', toks := tk }) :
    codeAny (model prog w) A (.call (.ref 45) ⟨[.bytes b t], []⟩) R s := by
  refine enterC (binds := [(Str.ofString "order", .bytes b t)]) G hroom (by rfl) (by rfl) (BindsTo.of_eq rfl) (fun n x hx => ?_) (by decide) (fun h₁ tk₁ cells F N X => ?_) rfl rfl rfl
  · rw [List.mem_singleton.mp hx]; exact .inr ⟨rfl, rfl⟩
  obtain ⟨o, rfl, ho⟩ := X.one
  have hcell : h₁.IsCell (s.heap.objs.size + 1) (some (.bytes b t)) := ⟨o, (N _ (.head _)).1, ho⟩
  refine wpAny_execs_cons (wpAny_Return_some (Call_ (nameX_B F G.X G.T (by rfl) boot_len (by decide) (PyProof.Rows.callWith_builtin1 (spliced_more ?_)))))
  refine comp_open (cl := [(Str.ofString "order", s.heap.objs.size + 1)]) rfl (by decide) rfl (by decide) ?_
  refine Call_ (nameX_B F G.X G.T (by rfl) boot_range (by decide) (PyProof.Rows.callWith_type1 (spliced_more (Call_ (nameX_B F G.X G.T (by rfl) boot_len (by decide) (PyProof.Rows.callWith_builtin1 (spliced_more (nameX_C N rfl (.head _) ho (spliced_none (KBw.len_K hk (by omega) (spliced_none (call_range_1 ?_))))))))))))
  obtain ⟨hs, hn⟩ := small0 ks.length hz
  refine src_range hh (Heap.get?_push_size _ rfl) hs hn fun I h₂ hsrc => ?_
  obtain ⟨fp, Md, St, W, self, alive, st, hI, hfp, ⟨up, hsu⟩⟩ := hsrc (Str.ofString "k") ⟨36, 22, 36, 23⟩
  have upp : ∀ b o, h₁.get? b = some o → h₂.get? b = some o := fun b o e => up b o (Heap.get?_push_of_some _ e)
  have hI₁ : h₁.get? I = none := by
    cases q : h₁.get? I with
    | none => rfl
    | some o => rw [show (_ : Heap).get? I = some o from Heap.get?_push_of_some _ q] at hI; cases hI
  refine ⟨I, rfl, upp, ?_, ?_, ?_⟩
  · exact le_of_push hsu
  · intro h' tk Q' E' hup q
    exact self 0 _ _ _ (W.frame _ _ _ st fun b _ o e => hup b o e) q
  intro C D h₃ tk₃ m₃ F₃ N₃ hup₃
  refine comp_turns (h₀ := h₁) (cenv := compEnvC _ _ C _) W alive rfl (fun Q E s h => wpAny_noted h) (fun Q E s h => turn_outer (by intro _; rfl) Q E s h) outerT_mono ?_ hI₁ ?_ (W.frame _ _ _ st fun b _ o e => (hup₃ b o e).1) F₃ N₃
    (fun k m nx => ∃ ys, nx = [(D, lst ys)] ∧ ys.length = wrongTo ks k) ⟨[], rfl, rfl⟩ ?_ ?_
  · intro hm
    obtain ⟨o, e⟩ := alive _ _ st _ hm
    exact (hup₃ _ o e).2.1 rfl
  · intro p hp b hb hn e
    obtain ⟨o, e'⟩ := alive _ _ st b hb
    rw [List.mem_singleton.mp hp] at e
    exact (hup₃ _ o e').2.2 e.symm
  · rintro k v m₄ news₄ h₄ tk₄ own E' hk' ⟨_, t', rfl⟩ ⟨ys, rfl, hys⟩ hap F₄ N₄
    have e0 : (0 : Int) + (k : Int) * 1 = (k : Nat) := by omega
    rw [e0]
    refine wpAny_assign_Name (storeC_L F₄ N₄ fun h₅ F₅ N₅ => ?_)
    have G₁ : Gd w mg mb h₁ := G.keeps F.keep
    have hk'' : k < ks.length := hk'
    refine Call_ (nameC_B F₅ G₁.X G₁.T (by rfl) boot_range (by decide) (PyProof.Rows.callWith_type1 (spliced_more (nameC_L F₅ rfl (spliced_none (call_range_1 ?_))))))
    obtain ⟨hs', hn'⟩ := small0 k (by omega)
    refine src_range (n := k) hh (Heap.get?_push_size _ rfl) hs' hn' fun I' h₆ hsrc' => ?_
    obtain ⟨fp', Md', St', W', self', alive', st', hI', hfp', ⟨up', hsu'⟩⟩ := hsrc' (Str.ofString "j") ⟨36, 49, 36, 50⟩
    have upp' : ∀ b o, h₅.get? b = some o → h₆.get? b = some o := fun b o e => up' b o (Heap.get?_push_of_some _ e)
    have F₆ := fr_up F₅ upp'
    have N₆ := news_up N₅ upp'
    have hI₅ : h₅.get? I' = none := by
      cases q : h₅.get? I' with
      | none => rfl
      | some o => rw [show (_ : Heap).get? I' = some o from Heap.get?_push_of_some _ q] at hI'; cases hI'
    have hI₁' : h₁.get? I' = none := by
      cases q : h₁.get? I' with
      | none => rfl
      | some o => rw [F₅.keep _ _ q] at hI₅; cases hI₅
    have hfp1 : ∀ b ∈ fp', b = I' := fun b hb => by
      rcases hfp' b hb with q | q
      · exact q
      · cases q
    have hoffI : ∀ p ∈ own ++ [(D, lst ys)], p.1 ≠ I' := fun p hp e => by have := (N₅ p hp).1; rw [e, hI₅] at this; cases this
    have hCI : C ≠ I' := fun e => by obtain ⟨o, _, _, q, _⟩ := F₅.ns; rw [e, hI₅] at q; cases q
    refine (fun loop => codeAny_compStart_inner loop (self' 0 _ _ _ st' loop)) ?_
    refine comp_turns (h₀ := h₁) (cenv := compEnvC _ _ C _) W' alive' rfl (fun Q E s h => wpAny_noted h) (fun Q E s h => turn_inner Q E s h) lastT_mono (fun hm => hCI (hfp1 _ hm)) hI₁' (fun p hp b hb _ e => hoffI p hp (e.trans (hfp1 b hb))) st' F₆ N₆
        (fun j m nx => (∃ tk, m (Str.ofString "k") = some (.int k tk)) ∧ ∃ ys, nx = own ++ [(D, lst ys)] ∧ ys.length = wrongTo ks k + rowTo ks k j) ⟨⟨t', rfl⟩, ys, rfl, by rw [hys]; rfl⟩ ?_ ?_
    · rintro j v m₇ news₇ h₇ tk₇ own' E'' hj ⟨_, u', rfl⟩ ⟨⟨tkk, hmk⟩, zs, rfl, hzs⟩ hap' F₇ N₇
      have hj'' : j < k := hj
      have e1 : (0 : Int) + (j : Int) * 1 = (j : Nat) := by omega
      rw [e1]
      refine wpAny_assign_Name (storeC_L F₇ N₇ fun h₈ F₈ N₈ => ?_)
      have hcl : h₈.IsCell (s.heap.objs.size + 1) (some (.bytes b t)) := cell_at hcell F₈.keep
      refine wpAny_tests_one (wpAny_isTrue_Compare1 (Subscript_ (nameC_C rfl hcl (nameC_L F₈ rfl (KBw.item_K hk (by omega) (by omega) (by omega) fun t₁ tk₁ _ _ => ?_)))))
      refine Subscript_ (nameC_C rfl hcl (nameC_L F₈ (by exact hmk) (KBw.item_K hk (by omega) (by omega) (by omega) fun t₂ tk₂ _ _ => gt_int (wpAny_truthy_bool ?_))))
      have hD := N₈ (D, lst zs) (List.mem_append_right _ (List.mem_append_right _ (.head _)))
      have hoD : ∀ p ∈ own, p.1 ≠ D := fun p hp e => hap _ (.head _) p hp e.symm
      have hoD' : ∀ p ∈ own', p.1 ≠ D := fun p hp e => hap' _ (List.mem_append_right _ (.head _)) p hp e.symm
      have hle : zs.length ≤ sizeLine := by
        have q1 := wrongTo_le ks k
        have q2 := rowTo_le ks k j
        have q3 : k * k ≤ 20 * 20 := Nat.mul_le_mul (by omega) (by omega)
        rw [sizeLine_eq]; omega
      by_cases hdec : decide (ks.getD ((j : Nat) : Int).toNat 0 > ks.getD ((k : Nat) : Int).toNat 0) = true
      · have hlt : ks.getD k 0 < ks.getD j 0 := of_decide_eq_true hdec
        have hz2 : ∀ y : Value, (zs ++ [y]).length = wrongTo ks k + rowTo ks k (j + 1) := fun y => by rw [rowTo_yes hlt, List.length_append, hzs]; rfl
        refine KBc.ite_yes hdec ?_
        refine wpAny_Constant_int ?_
        rw [← List.append_assoc] at N₈
        refine append_led (own := own' ++ own) (r := []) F₈ N₈ (fun p hp => (List.mem_append.mp hp).elim (hoD' p) (hoD p)) (fun p hp => nomatch hp) hle fun h₉ F₉ N₉ => ?_
        rw [List.append_assoc] at N₉
        refine TurnEnd.next F₉ N₉ ?_ ⟨⟨tkk, by exact hmk⟩, _, rfl, hz2 _⟩
        intro p hp q hq
        rcases List.mem_append.mp hp with hp | hp
        · exact hap' p (List.mem_append_left _ hp) q hq
        · rw [List.mem_singleton.mp hp]; exact fun e => hoD' q hq e.symm
      · have hlt : ¬ ks.getD k 0 < ks.getD j 0 := fun e => hdec (decide_eq_true e)
        have hz2 : zs.length = wrongTo ks k + rowTo ks k (j + 1) := by rw [rowTo_no hlt, hzs]
        refine KBy.ite_no hdec ?_
        exact TurnEnd.next F₈ N₈ hap' ⟨⟨tkk, by exact hmk⟩, _, rfl, hz2⟩
    · rintro h' tk m' news' F' N' ⟨_, zs, rfl, hzs⟩
      refine TurnEnd.next F' N' ?_ ⟨zs, rfl, ?_⟩
      · intro p hp q hq
        rw [List.mem_singleton.mp hp]; exact hap _ (.head _) q hq
      · rw [wrongTo_succ, hzs]
  · rintro h' tk m' news' F' N' ⟨ys, rfl, hys⟩
    refine ⟨m', F'.ns, fun h'' hs'' => ?_⟩
    have hD := N' (D, lst ys) (.head _)
    have hDl : h''.IsList D ys.toArray := ⟨_, hs''.extBut _ _ hD.2.1 hD.1, rfl, _, rfl⟩
    have hle : ys.length ≤ 400 := by
      have := wrongTo_le ks ks.length
      have h2 : ks.length * ks.length ≤ 20 * 20 := Nat.mul_le_mul (by omega) (by omega)
      omega
    refine spliced_none (call_len_list hDl (by simp; omega) ?_)
    rw [List.size_toArray, hys]
    refine h _ h'' _ fun b o e => hs''.extBut _ _ (fun q => ?_) (F'.keep _ _ (F.keep b o e))
    exact absurd (q ▸ Heap.lt_size (F.keep b o e)) (Nat.not_lt.mpr F'.above)
end
end Mine
end

section
open PySem PySem.W PyProof.Rows PySem.Calls
set_option linter.unusedVariables false
set_option linter.unusedSimpArgs false
set_option maxRecDepth 100000
set_option maxHeartbeats 400000
namespace Mine

/-! ### _law_orders -/
mutual
def ordersN : Nat → List Int → List (List Int)
  | 0, ks => [ks]
  | n + 1, ks => if ks.length < 2 then [ks] else (List.range ks.length).flatMap fun k => (ordersN n (ks.take k ++ ks.drop (k + 1))).map fun r => (ks.drop k).take 1 ++ r
end
def partTo (n : Nat) (ks : List Int) (i : Nat) : List (List Int) := (List.range i).flatMap fun k => (ordersN n (ks.take k ++ ks.drop (k + 1))).map fun r => (ks.drop k).take 1 ++ r
theorem ordersN_lt {n : Nat} {ks : List Int} (h : ks.length < 2) : ordersN n ks = [ks] := by
  cases n with
  | zero => rw [ordersN]
  | succ n => rw [ordersN, if_pos h]
theorem ordersN_ge {n : Nat} {ks : List Int} (h : ¬ ks.length < 2) : ordersN (n + 1) ks = partTo n ks ks.length := by
  rw [ordersN, if_neg h]; rfl
theorem partTo_succ (n : Nat) (ks : List Int) (i : Nat) : partTo n ks (i + 1) = partTo n ks i ++ (ordersN n (ks.take i ++ ks.drop (i + 1))).map fun r => (ks.drop i).take 1 ++ r := by
  unfold partTo
  rw [List.range_succ, List.flatMap_append]
  simp
theorem drop_len {ks : List Int} {i : Nat} (hi : i < ks.length) : (ks.take i ++ ks.drop (i + 1)).length = ks.length - 1 := by
  rw [List.length_append, List.length_take, List.length_drop]; omega
def fac : Nat → Nat
  | 0 => 1
  | n + 1 => (n + 2) * fac n
theorem partTo_le {n : Nat} {ks : List Int} {B : Nat} (h : ∀ i, i < ks.length → (ordersN n (ks.take i ++ ks.drop (i + 1))).length ≤ B) : ∀ i, i ≤ ks.length → (partTo n ks i).length ≤ i * B
  | 0, _ => by simp [partTo]
  | i + 1, hi => by
    have h1 := partTo_le h i (by omega)
    have h2 := h i (by omega)
    rw [partTo_succ, List.length_append, List.length_map, Nat.succ_mul]
    omega
theorem fac_pos : ∀ n, 1 ≤ fac n
  | 0 => by decide
  | n + 1 => by have := fac_pos n; show 1 ≤ (n + 2) * fac n; exact Nat.mul_pos (by omega) this
theorem ordersN_le : ∀ (n : Nat) (ks : List Int), ks.length ≤ n + 1 → (ordersN n ks).length ≤ fac n
  | 0, ks, _ => by rw [ordersN]; simp [fac]
  | n + 1, ks, hk => by
    by_cases h2 : ks.length < 2
    · rw [ordersN_lt h2]; exact fac_pos _
    · rw [ordersN_ge h2]
      refine Nat.le_trans (partTo_le (B := fac n) (fun i hi => ordersN_le n _ (by rw [drop_len hi]; omega)) _ (Nat.le_refl _)) ?_
      exact Nat.mul_le_mul_right _ hk

theorem led_next {own : List (Addr × Obj)} {x d k o : Addr × Obj} (p : Addr × Obj) (hp : p ∈ own ++ [x, k, o]) : p ∈ x :: ((own ++ [d]) ++ k :: [o]) := by
  rcases List.mem_append.mp hp with hp | hp
  · exact .tail _ (List.mem_append_left _ (List.mem_append_left _ hp))
  · rcases List.mem_cons.mp hp with rfl | hp
    · exact .head _
    · exact .tail _ (List.mem_append_right _ hp)
theorem led_apart {own : List (Addr × Obj)} {x k o : Addr × Obj} (hx : ∀ q ∈ own, x.1 ≠ q.1) (hk : ∀ q ∈ own, k.1 ≠ q.1) (ho : ∀ q ∈ own, o.1 ≠ q.1) : ∀ p ∈ [x, k, o], ∀ q ∈ own, p.1 ≠ q.1 := by
  intro p hp
  rcases List.mem_cons.mp hp with rfl | hp
  · exact hx
  · rcases List.mem_cons.mp hp with rfl | hp
    · exact hk
    · rw [List.mem_singleton.mp hp]; exact ho
theorem take_next {α : Type} {l : List α} {i : Nat} {x : α} (h : l[i]? = some x) : l.take (i + 1) = l.take i ++ [x] := by rw [List.take_add_one, h]; rfl
theorem ordersN_len : ∀ (n : Nat) (ks o : List Int), o ∈ ordersN n ks → o.length ≤ ks.length
  | 0, ks, o, h => by rw [ordersN] at h; rw [List.mem_singleton.mp h]; exact Nat.le_refl _
  | n + 1, ks, o, h => by
    by_cases h2 : ks.length < 2
    · rw [ordersN_lt h2] at h; rw [List.mem_singleton.mp h]; exact Nat.le_refl _
    · rw [ordersN_ge h2] at h
      obtain ⟨k, hk, h⟩ := List.mem_flatMap.mp h
      obtain ⟨r, hr, rfl⟩ := List.mem_map.mp h
      have h3 := ordersN_len n _ r hr
      have h4 : k < ks.length := List.mem_range.mp hk
      rw [drop_len h4] at h3
      rw [List.length_append, List.length_take, List.length_drop]
      omega

inductive BytesAre : List Value → List (List Int) → Prop
  | nil : BytesAre [] []
  | cons {b : Array UInt8} {t : Tok} {ks : List Int} {vs os} : KBw.bInts b = ks → BytesAre vs os → BytesAre (.bytes b t :: vs) (ks :: os)
theorem BytesAre.append : ∀ {vs os ws ps}, BytesAre vs os → BytesAre ws ps → BytesAre (vs ++ ws) (os ++ ps)
  | _, _, _, _, .nil, h => h
  | _, _, _, _, .cons e r, h => .cons e (BytesAre.append r h)
theorem BytesAre.length {vs os} (h : BytesAre vs os) : vs.length = os.length := by induction h with | nil => rfl | cons _ _ ih => simp [ih]
theorem BytesAre.get {vs os} (h : BytesAre vs os) : ∀ {i : Nat} {v}, vs[i]? = some v → ∃ b t ks, v = .bytes b t ∧ KBw.bInts b = ks ∧ os[i]? = some ks := by
  induction h with
  | nil => intro i v e; cases e
  | cons e r ih =>
    intro i v q
    cases i with
    | zero => cases q; exact ⟨_, _, _, rfl, e, rfl⟩
    | succ i => exact ih (by simpa using q)

section
variable {M : Model} {A : Around} {E : Value → Shared → Prop} {s : Shared} {h₀ : Heap} {L a : Addr} {m : Str → Option Value} {cn : Str} {cs : Scope} {ccd : Value} {cl : List (Str × Addr)}
  {x : Str} {v : Value} {Q : Unit → Shared → Prop} {own rest : List (Addr × Obj)} {c : Addr} {o : Obj} {v₀ : Option Value}
theorem storeX_at (F : Fr h₀ L s.heap m) (N : News h₀ L s.heap (own ++ (c, o) :: rest)) (h1 : ∀ p ∈ own, p.1 ≠ c) (h2 : ∀ p ∈ rest, p.1 ≠ c) (hc : cl.lookup x = some c) (hd : o.data = .cell v₀)
    (h : ∀ h' o', Fr h₀ L h' m → News h₀ L h' (own ++ (c, o') :: rest) → o'.data = .cell (some v) → Q () { s with heap := h' })
    (hk : cs.kind = .function := by rfl) (hx : (envX cn cs L a ccd cl).kindOf x = some .cell := by rfl) : wpAny M A (storeName (envX cn cs L a ccd cl) x v) Q E s := by
  have hmem := N (c, o) (List.mem_append_right _ (.head _))
  refine wpAny_storeName_cell hk hx hc ⟨o, hmem.1, hd⟩ fun h' hv hs => ?_
  obtain ⟨o', ho', hd'⟩ := hv
  refine h h' o' ⟨F.ns.sameBut hs (Ne.symm hmem.2.1), fun b ob e => (hs.2 b (fun q => ?_)).trans (F.keep b ob e), F.above⟩ (N.setAt h1 h2 hs ho') hd'
  rw [q, hmem.2.2] at e; cases e
end

theorem cutK {ks : List Int} {k : Nat} (hk : k < ks.length) : (ks.drop ((some ((k : Nat) : Int)).elim 0 (clipAt ks.length))).take ((some (((k : Nat) : Int) + 1)).elim ks.length (clipAt ks.length) - (some ((k : Nat) : Int)).elim 0 (clipAt ks.length)) = (ks.drop k).take 1 := by
  have e : ((k : Nat) : Int) + 1 = ((k + 1 : Nat) : Int) := by omega
  show (ks.drop (clipAt ks.length (k : Nat))).take (clipAt ks.length (((k : Nat) : Int) + 1) - clipAt ks.length (k : Nat)) = _
  rw [e, clipAt_nat, clipAt_nat, Nat.min_eq_left (by omega), Nat.min_eq_left (by omega)]
  congr 1; omega
theorem cutL {ks : List Int} {k : Nat} (hk : k < ks.length) : (ks.drop ((none : Option Int).elim 0 (clipAt ks.length))).take ((some ((k : Nat) : Int)).elim ks.length (clipAt ks.length) - (none : Option Int).elim 0 (clipAt ks.length)) = ks.take k := by
  show (ks.drop 0).take (clipAt ks.length (k : Nat) - 0) = _
  rw [clipAt_nat, Nat.min_eq_left (by omega)]; simp
theorem cutR {ks : List Int} {k : Nat} (hk : k < ks.length) : (ks.drop ((some (((k : Nat) : Int) + 1)).elim 0 (clipAt ks.length))).take ((none : Option Int).elim ks.length (clipAt ks.length) - (some (((k : Nat) : Int) + 1)).elim 0 (clipAt ks.length)) = ks.drop (k + 1) := by
  have e : ((k : Nat) : Int) + 1 = ((k + 1 : Nat) : Int) := by omega
  show (ks.drop (clipAt ks.length (((k : Nat) : Int) + 1))).take (ks.length - clipAt ks.length (((k : Nat) : Int) + 1)) = _
  rw [e, clipAt_nat, Nat.min_eq_left (by omega)]
  exact List.take_of_length_le (by rw [List.length_drop]; omega)

section
variable {prog : Program} {w : World} {A : Around} {E : Value → Shared → Prop} {s : Shared} {value slice : PySem.Expr} {b : Array UInt8} {t : Tok} {l u : Value} {lo hi : Option Int} {Q : Value → Shared → Prop} {ks : List Int}
theorem slice_U (hk : KBw.bInts b = ks) (hl : IsPart l lo) (hu : IsPart u hi) (hz : ks.length ≤ 16777216)
    (h : ∀ h' t' k, Ext s.heap h' → KBw.bInts (KBy.picked b lo hi) = (ks.drop (lo.elim 0 (clipAt ks.length))).take (hi.elim ks.length (clipAt ks.length) - lo.elim 0 (clipAt ks.length)) → Q (.bytes (KBy.picked b lo hi) t') { s with heap := h', toks := k })
    (hs : subscripted slice false (.bytes b t) (.ref s.heap.objs.size) = operate [.ref s.heap.objs.size, .bytes b t] (getItem (.bytes b t) (.ref s.heap.objs.size)) := by with_unfolding_all rfl)
    (ht : ∀ r, letTemporaryGo value (.bytes b t) r = pure () := by intro _; with_unfolding_all rfl) :
    wpAny (model prog w) A (subscriptTail value slice (.bytes b t) (.ref s.heap.objs.size)) Q E { s with heap := s.heap.push { cls := .type "slice", data := .fields #[l, u, .none] } } :=
  tail_of_ItemOn ⟨"bytes", _, FB.slot_bytes_getitem.lookup, typeIs_bytes _ _ _, getItem_meets (typeIs_bytes _ _ _) (by decide) FB.slot_bytes_getitem FB.entry_bytes_getitem (FB.args_bytes_getitem_2 _ _) (KBc.meets_slice2 b t _ hl hu)
    ⟨Heap.IsSliceOf.new _ _ _ _, Nat.le_trans (KBc.size_picked_le b lo hi) (by rw [← KBw.ints_length b, hk, sizeLine_eq]; exact hz), fun t' k => h _ _ _ (Ext.push _ _) (KBc.ints_picked hk lo hi)⟩⟩ hs ht
end

section
variable {prog : Program} {w : World} {mg mb : Str → Option Value}

def OrdOk (prog : Program) (w : World) (mg mb : Str → Option Value) (n : Nat) : Prop := ∀ {A : Around} {s : Shared} {R : Result → Shared → Prop} {b : Array UInt8} {t : Tok} {ks : List Int} (G : Gd w mg mb s.heap) (hk : KBw.bInts b = ks) (hz : ks.length ≤ n + 1) (hh : A.handled = none) (hroom : A.depth + n < recursionLimit)
    (h : ∀ D vs h' tk, Ext s.heap h' → h'.IsList D vs.toArray → s.heap.get? D = none → BytesAre vs (ordersN n ks) → R (.ok (.ret (.ref D))) { s with heap := h', toks := tk }),
    codeAny (model prog w) A (.call (.ref 40) ⟨[.bytes b t], []⟩) R s

theorem law_orders_step (n : Nat) (hn : n < 5) (ih : ∀ n', n = n' + 1 → OrdOk prog w mg mb n') : OrdOk prog w mg mb n := by
  intro A s R b t ks G hk hz hh hroom h
  refine enterC (binds := [(Str.ofString "octets", .bytes b t)]) G (by omega) (by rfl) (by rfl) (BindsTo.of_eq rfl) (fun n x hx => ?_) (by decide) (fun h₁ tk₁ cells F N X => ?_) rfl rfl rfl
  · rw [List.mem_singleton.mp hx]; exact .inr ⟨rfl, rfl⟩
  obtain ⟨oK, oO, rfl, hoK, hoO⟩ := X.two
  refine wpAny_execs_cons (wpAny_If (wpAny_isTrue_Compare1 (Call_ (nameX_B F G.X G.T (by rfl) boot_len (by decide) (PyProof.Rows.callWith_builtin1 (spliced_more (nameX_C (o := oO) N rfl (.tail _ (.head _)) hoO (spliced_none (KBw.len_K hk (by omega) (wpAny_Constant_int (lt_int (wpAny_truthy_bool ?_))))))))))))
  by_cases h2 : decide (((ks.length : Nat) : Int) < 2) = true
  · refine KBc.ite_yes h2 ?_
    have h2' : ks.length < 2 := by have := of_decide_eq_true h2; omega
    refine wpAny_execs_cons (wpAny_Return_some (List_ (spliced_more (nameX_C (o := oO) N rfl (.tail _ (.head _)) hoO (spliced_none (newList_N F N fun h' F' N' => ?_))))))
    have hD := N' _ (.head _)
    refine h _ [.bytes b t] h' _ (Ext.of_fr F') ⟨_, hD.1, rfl, _, rfl⟩ hD.2.2 ?_
    rw [ordersN_lt h2']
    exact .cons hk .nil
  · refine KBy.ite_no h2 ?_
    have h2' : ¬ ks.length < 2 := fun e => h2 (decide_eq_true (by omega))
    obtain ⟨n', rfl⟩ : ∃ n', n = n' + 1 := ⟨n - 1, by omega⟩
    refine wpAny_execs_nil ?_
    show wpAny _ _ (execs _ _) _ _ _
    refine wpAny_execs_cons (wpAny_Assign_Name (List_ (spliced_none (newList_N F N fun h₂ F₂ N₂ => storeX_L F₂ N₂ fun h₃ F₃ N₃ => ?_))) (by rfl))
    show wpAny _ _ (execs _ _) _ _ _
    refine wpAny_execs_cons (for_src (h₀ := s.heap) (Call_ (nameX_B F₃ G.X G.T (by rfl) boot_range (by decide) (PyProof.Rows.callWith_type1 (spliced_more (Call_ (nameX_B F₃ G.X G.T (by rfl) boot_len (by decide) (PyProof.Rows.callWith_builtin1 (spliced_more (nameX_C (o := oO) N₃ rfl (.tail _ (.tail _ (.head _))) hoO (spliced_none (KBw.len_K hk (by omega) (spliced_none (call_range_1 ?_))))))))))))))
    obtain ⟨hs, hrn⟩ := small0 ks.length (by omega)
    refine src_range hh (Heap.get?_push_size _ rfl) hs hrn fun I h₄ hsrc => ?_
    refine ⟨I, _, _, _, _, _, fun k m nx => ∃ oK v0 D oD vs, nx = [(D, oD), (s.heap.objs.size + 2, oK), (s.heap.objs.size + 1, oO)] ∧ oK.data = .cell v0 ∧ m (Str.ofString "found") = some (.ref D) ∧ oD.cls = .type "list" ∧ (∃ n, oD.data = .seq vs.toArray n) ∧ BytesAre vs (partTo n' ks k),
      rfl, hsrc _ _, (fun hm => nomatch hm), (fun p hp b hb => nomatch hb), F₃.push _, N₃.pushKeep _, ⟨oK, _, _, _, [], rfl, hoK, rfl, rfl, ⟨_, rfl⟩, .nil⟩, ?_, ?_⟩
    · rintro k v m₅ news₅ h₅ tk₅ own E' hk' ⟨_, u', rfl⟩ ⟨oK₅, v0, D, oD, vs, rfl, hoK₅, hmf, hcD, ⟨nD, hdD⟩, hvs⟩ hap F₅ N₅
      have hk'' : k < ks.length := hk'
      have e0 : (0 : Int) + (k : Int) * 1 = (k : Nat) := by omega
      have hlen : (ks.take k ++ ks.drop (k + 1)).length ≤ n' + 1 := by rw [drop_len hk'']; omega
      have hadd : (ks.take k).length + (ks.drop (k + 1)).length ≤ 16777216 := by rw [← List.length_append]; omega
      have hbig : ks.length ≤ 16777216 := by omega
      have hroom' : A.depth + 1 + n' < recursionLimit := by omega
      have hcutb : ∀ ks', ks' ∈ ordersN n' (ks.take k ++ ks.drop (k + 1)) → ((ks.drop k).take 1).length + ks'.length ≤ 16777216 := fun ks' hm => by
        have q1 := ordersN_len _ _ _ hm
        rw [drop_len hk''] at q1
        rw [List.length_take, List.length_drop]
        omega
      have hfac : fac n' ≤ 120 := by
        obtain rfl | rfl | rfl | rfl : n' = 0 ∨ n' = 1 ∨ n' = 2 ∨ n' = 3 := by omega
        all_goals decide
      have hvl : vs.length ≤ 3000 := by
        rw [hvs.length]
        refine Nat.le_trans (partTo_le (B := fac n') (fun i hi => ordersN_le n' _ (by rw [drop_len hi]; omega)) k (Nat.le_of_lt hk'')) ?_
        exact Nat.le_trans (Nat.mul_le_mul (show k ≤ 20 by omega) hfac) (by decide)
      rw [e0]
      have hDK : D ≠ s.heap.objs.size + 2 := fun e => by
        have q1 := (N₅ (D, oD) (List.mem_append_right _ (.head _))).1
        have q2 := (N₅ (s.heap.objs.size + 2, oK₅) (List.mem_append_right _ (.tail _ (.head _)))).1
        rw [e] at q1; rw [q1] at q2
        have e2 : oD = oK₅ := Option.some.inj q2
        rw [e2, hoK₅] at hdD; cases hdD
      have N₅' : News s.heap s.heap.objs.size h₅ ((own ++ [(D, oD)]) ++ (s.heap.objs.size + 2, oK₅) :: [(s.heap.objs.size + 1, oO)]) := fun p hp => N₅ p (by simpa using hp)
      refine wpAny_assign_Name (storeX_at F₅ N₅' ?_ ?_ rfl hoK₅ fun h₆ oK₆ F₆ N₆ hoK₆ => ?_)
      · intro p hp
        rcases List.mem_append.mp hp with hp | hp
        · exact fun e => hap _ (.tail _ (.head _)) p hp e.symm
        · rw [List.mem_singleton.mp hp]; exact hDK
      · intro p hp; rw [List.mem_singleton.mp hp]; exact Nat.ne_of_lt (Nat.lt_succ_self _)
      have hmK : (s.heap.objs.size + 2, oK₆) ∈ (own ++ [(D, oD)]) ++ (s.heap.objs.size + 2, oK₆) :: [(s.heap.objs.size + 1, oO)] := List.mem_append_right _ (.head _)
      have hmO : (s.heap.objs.size + 1, oO) ∈ (own ++ [(D, oD)]) ++ (s.heap.objs.size + 2, oK₆) :: [(s.heap.objs.size + 1, oO)] := List.mem_append_right _ (.tail _ (.head _))
      have hmD : (D, oD) ∈ (own ++ [(D, oD)]) ++ (s.heap.objs.size + 2, oK₆) :: [(s.heap.objs.size + 1, oO)] := List.mem_append_left _ (List.mem_append_right _ (.head _))
      refine wpAny_execs_cons (wpAny_Assign_Name (wpAny_BinOp (nameX_L F₆ (by exact hmf) (comp_src (cl := [(Str.ofString "octets", s.heap.objs.size + 1), (Str.ofString "k", s.heap.objs.size + 2)]) rfl (by decide) rfl (by decide) ?_))) (by rfl))
      refine Call_ (nameX_K F₆ G.X G.T (by rfl) (callWith_K (G.keeps F₆.keep).X (by rfl) (spliced_more (wpAny_BinOp (Subscript_ (nameX_C (o := oO) N₆ rfl hmO hoO (wpAny_Slice (evalPart_none_step (evalPart_some_step (nameX_C (o := oK₆) N₆ rfl hmK hoK₆ (evalPart_none_step (slice_U hk .none (.int _ _) hbig fun h₇ t₇ tk₇ up₇ hc₇ => ?_))))))))))))
      rw [cutL hk''] at hc₇
      have F₇ := fr_up F₆ up₇.1
      have N₇ := news_up N₆ up₇.1
      refine Subscript_ (nameX_C (o := oO) N₇ rfl hmO hoO (wpAny_Slice (evalPart_some_step (wpAny_BinOp (nameX_C (o := oK₆) N₇ rfl hmK hoK₆ (wpAny_Constant_int (add_int (evalPart_none_step (evalPart_none_step (slice_U hk (.int _ _) .none hbig fun h₈ t₈ tk₈ up₈ hc₈ => ?_))))))))))
      rw [cutR hk''] at hc₈
      have F₈ := fr_up F₇ up₈.1
      have N₈ := news_up N₇ up₈.1
      refine KBa.add_K hc₇ hc₈ hadd fun t₉ tk₉ hc₉ => spliced_none ⟨(G.keeps F₈.keep).X, ?_⟩
      refine wpAny_call (ih n' rfl (G.keeps F₈.keep) hc₉ hlen hh hroom' fun D' vs' h₁₀ tk₁₀ up₁₀ hl₁₀ hn₁₀ hb₁₀ => ?_)
      have up68 : Ext h₆ h₁₀ := (up₇.trans up₈).trans up₁₀
      have hsz : vs'.length ≤ 120 := Nat.le_trans (Nat.le_of_eq hb₁₀.length) (Nat.le_trans (ordersN_le n' _ hlen) hfac)
      have hgets : ∀ (i : Nat) (v : Value), vs'.toArray[i]? = some v → ∃ (b' : Array UInt8) (t' : Tok) (ks' : List Int), v = .bytes b' t' ∧ KBw.bInts b' = ks' ∧ (ordersN n' (ks.take k ++ ks.drop (k + 1)))[i]? = some ks' := fun i v e => BytesAre.get hb₁₀ (by rw [← List.getElem?_toArray]; exact e)
      refine src_list hh hl₁₀ fun I' h₁₁ hsrc' => ?_
      refine ⟨I', [D'], _, _, [], fun i ys nx => BytesAre ys (((ordersN n' (ks.take k ++ ks.drop (k + 1))).take i).map fun r => (ks.drop k).take 1 ++ r) ∧ nx = [], rfl, hsrc' _ _, by rw [List.size_toArray, sizeLine_eq]; exact Nat.le_trans hsz (by decide), ?_, up68, (fun p hp => nomatch hp), ⟨.nil, rfl⟩, ?_, ?_⟩
      · intro b hb; rw [List.mem_singleton.mp hb]; obtain ⟨o, e, _⟩ := hl₁₀; exact ⟨o, e⟩
      · rintro i v ys nx₁ m₁₂ h₁₂ tk₁₂ own₂ C D₂ E₂ hi hv ⟨hys, rfl⟩ F₁₂ N₁₂ hap₂
        have hg : ∃ (b' : Array UInt8) (t' : Tok) (ks' : List Int), v = .bytes b' t' ∧ KBw.bInts b' = ks' ∧ (ordersN n' (ks.take k ++ ks.drop (k + 1)))[i]? = some ks' := hgets i v hv
        clear hv
        obtain ⟨b', t', ks', hveq, hb', hos⟩ := hg
        subst hveq
        have hnext : ∀ (b₁ : Array UInt8) (t₁ : Tok), KBw.bInts b₁ = (ks.drop k).take 1 ++ ks' → BytesAre (ys ++ [.bytes b₁ t₁]) (((ordersN n' (ks.take k ++ ks.drop (k + 1))).take (i + 1)).map fun r => (ks.drop k).take 1 ++ r) := fun b₁ t₁ h₁ => by
          rw [take_next hos, List.map_append]
          exact hys.append (.cons h₁ .nil)
        refine wpAny_assign_Name (storeC_L F₁₂ N₁₂ fun h₁₃ F₁₃ N₁₃ => wpAny_tests_nil ?_)
        refine KBc.ite_yes rfl ?_
        have hcK : h₁₃.IsCell (s.heap.objs.size + 2) (some (.int k u')) := ⟨oK₆, F₁₃.keep _ _ (N₆ _ hmK).1, hoK₆⟩
        have hcO : h₁₃.IsCell (s.heap.objs.size + 1) (some (.bytes b t)) := ⟨oO, F₁₃.keep _ _ (N₆ _ hmO).1, hoO⟩
        refine wpAny_BinOp (Subscript_ (nameC_C rfl hcO (wpAny_Slice (evalPart_some_step (nameC_C rfl hcK (evalPart_some_step (wpAny_BinOp (nameC_C rfl hcK (wpAny_Constant_int (add_int (evalPart_none_step (slice_U hk (.int _ _) (.int _ _) hbig fun h₁₄ t₁₄ tk₁₄ up₁₄ hc₁₄ => ?_))))))))))))
        rw [cutK hk''] at hc₁₄
        have F₁₄ := fr_up F₁₃ up₁₄.1
        have N₁₄ := news_up N₁₃ up₁₄.1
        exact nameC_L F₁₄ rfl (KBa.add_K hc₁₄ hb' (hcutb _ (List.mem_of_getElem? hos)) fun t₁₅ tk₁₅ hc₁₅ => ⟨h₁₄, _, _, [], rfl, F₁₄, N₁₄, hap₂, hnext _ _ hc₁₅, rfl⟩)
      · rintro Dc ys h₁₂ tk₁₂ nx' up₁₂ hDc hDn _ ⟨hys, _⟩
        have hys' : BytesAre ys ((ordersN n' (ks.take k ++ ks.drop (k + 1))).map fun r => (ks.drop k).take 1 ++ r) := by
          rw [List.size_toArray, hb₁₀.length, List.take_length] at hys
          exact hys
        have hyl : ys.length ≤ 120 := by rw [hys'.length, List.length_map, ← hb₁₀.length]; exact hsz
        have hsum : vs.length + ys.length ≤ sizeLine := by rw [sizeLine_eq]; exact Nat.le_trans (Nat.add_le_add hvl hyl) (by decide)
        have hall : BytesAre (vs ++ ys) (partTo n' ks (k + 1)) := by rw [partTo_succ]; exact hvs.append hys'
        have F₁₂ := fr_up F₆ up₁₂.1
        have N₁₂ := news_up N₆ up₁₂.1
        refine add_lists (hsz := hsum) F₁₂ N₁₂ ⟨oD, (N₁₂ _ hmD).1, hcD, nD, hdD⟩ ⟨_, hDc, rfl, _, rfl⟩ fun h₁₃ F₁₃ N₁₃ => storeX_L F₁₃ N₁₃ fun h₁₄ F₁₄ N₁₄ => ?_
        show wpAny _ _ (execs _ _) _ _ _
        have hax : ∀ q ∈ own, h₁₂.objs.size ≠ q.1 := fun q hq => Nat.ne_of_gt (news_lt N₁₂ (List.mem_append_left _ (List.mem_append_left _ hq)))
        have hak : ∀ q ∈ own, s.heap.objs.size + 2 ≠ q.1 := fun q hq => hap (s.heap.objs.size + 2, oK₅) (.tail _ (.head _)) q hq
        have hao : ∀ q ∈ own, s.heap.objs.size + 1 ≠ q.1 := fun q hq => hap (s.heap.objs.size + 1, oO) (.tail _ (.tail _ (.head _))) q hq
        refine wpAny_execs_nil (TurnEnd.next (nx := [(h₁₂.objs.size, { cls := .type "list", data := .seq (vs ++ ys).toArray }), (s.heap.objs.size + 2, oK₆), (s.heap.objs.size + 1, oO)]) F₁₄ (fun p hp => N₁₄ p (led_next p hp)) (led_apart hax hak hao) ⟨oK₆, _, _, _, vs ++ ys, rfl, hoK₆, rfl, rfl, ⟨_, rfl⟩, hall⟩)
    · rintro h' tk m' news' F' N' ⟨oK₅, v0, D, oD, vs, rfl, hoK₅, hmf, hcD, ⟨nD, hdD⟩, hvs⟩
      show wpAny _ _ (execs _ _) _ _ _
      refine wpAny_execs_cons (wpAny_Return_some (nameX_L F' hmf ?_))
      have hD := N' (D, oD) (.head _)
      refine h D vs h' _ (Ext.of_fr F') ⟨oD, hD.1, hcD, nD, hdD⟩ hD.2.2 ?_
      rw [ordersN_ge h2']
      exact hvs
theorem law_orders_ok : ∀ n, n < 5 → OrdOk prog w mg mb n
  | 0, h => law_orders_step 0 h fun n' e => nomatch e
  | n + 1, h => law_orders_step (n + 1) h fun n' e => by
    obtain rfl : n' = n := by omega
    exact law_orders_ok n' (by omega)
end
end Mine
end

section
open PySem PySem.W PyProof.Rows PySem.Calls
open Sem (wp)
set_option linter.unusedVariables false
set_option linter.unusedSimpArgs false
set_option maxRecDepth 100000
set_option maxHeartbeats 4000000
namespace Mine
theorem by_mro : mroOf (.type "bytearray") = pure [.type "bytearray", .type "object"] := by rw [mroOf_type]; kernel_rfl
theorem by_lookup_new : typeLookup (.type "bytearray") "__new__" = pure (some (.builtin "bytearray.__new__")) := by rw [typeLookup_type, builtinLookup_eq_fast]; kernel_rfl
theorem by_slot_init : Slot "bytearray" "__init__" "bytearray.__init__" :=
  .of (owner := "bytearray") (n := "__init__") (by rw [typeLookup_type, builtinLookup_eq_fast]; kernel_rfl) (by decide +kernel) (by decide +kernel) (by decide +kernel)
    (by first | exact .inl (by decide +kernel) | exact .inr (by decide +kernel)) (by rw [isSubtype_type]; kernel_rfl)
theorem by_sub : isSubtype (.type "bytearray") (.type "bytearray") = pure true := by rw [isSubtype_type]; kernel_rfl
theorem by_called : TypeCalled "bytearray" "bytearray.__new__" "bytearray.__init__" :=
  ⟨by decide +kernel, by decide +kernel, ⟨_, _, by_mro⟩, madeBy_type by_mro by_lookup_new (by decide +kernel), by decide +kernel, by_sub, by_slot_init⟩
theorem by_typeCall (a : Value) : checkTypeCall "bytearray" ⟨[a], []⟩ = pure () := by kernel_rfl
theorem by_newCall (a : Value) : checkBuiltinCall "bytearray.__new__" ⟨[.type "bytearray", a], []⟩ = pure () := by kernel_rfl
theorem by_entry_new : entryFor table "bytearray.__new__" = some Builtin.«list.__new__» := entryFor_alias (id' := "list.__new__") (by kernel_rfl) rfl (by decide +kernel) (by kernel_rfl)
theorem by_entry_init : entryFor table "bytearray.__init__" = some Builtin.«bytearray.__init__» := by first | exact entryFor_of_fast (by kernel_rfl) | exact entryFor_of_tree (by kernel_rfl)
theorem by_args_init (a v : Value) : argsOk "bytearray.__init__" ⟨[a, v], []⟩ := by unfold argsOk; kernel_rfl
theorem by_bind (v : Value) : Builtin.Bytes.bindOptional "bytearray.__init__" "bytearray" ["source", "encoding", "errors"] [v] [] = pure [some v, none, none] := by kernel_rfl
theorem by_plain_new : plainId "bytearray.__new__" = true := by decide +kernel
theorem by_plain_init : plainId "bytearray.__init__" = true := by decide +kernel
theorem by_owner : ("bytearray.__new__".splitOn ".__new__").headD "" = "bytearray" := by simp +decide [String.splitOn, String.splitOnAux]
section
variable {prog : Program} {w : World} {A : Around} {E : Value → Shared → Prop} {s : Shared} {R : Result → Shared → Prop}
theorem codeC_builtin {id : String} {args : Args} {b : Builtin} (hb : entryFor table id = some b) (hn : holdsOn (.builtin id args) = false)
    (h : wpC (model prog w) (A.under (.builtin id args)) (b args) (fun fin s' => match fin with | .done f => R (.ok f) s' | .again c' => c'.quiet = true ∧ codeC (model prog w) A c' R s') (fun e s' => R (.error e) s') s) :
    codeC (model prog w) A (.builtin id args) R s := by
  refine codeC_tree hn ?_
  show wpC _ _ (match entryFor table id with | some b => b args | none => unsupported ((withoutEnding? id "#data").getD id)) _ _ s
  rw [hb]; exact h
theorem by_new (a : Value) {Q₁ : Value → Shared → Prop} (h : Q₁ (.ref s.heap.objs.size) { s with heap := s.heap.push { cls := .type "bytearray", data := .bytearray #[] } }) :
    codeAny (model prog w) A (.call (.builtin "bytearray.__new__") ⟨[.type "bytearray", a], []⟩) (wants Q₁ E) s := by
  refine codeAny_of_tree ?_
  show wpAny _ A.in1 (do checkBuiltinCall "bytearray.__new__" ⟨[.type "bytearray", a], []⟩; again (.builtin "bytearray.__new__" ⟨[.type "bytearray", a], []⟩)) _ _ s
  refine wpAny_bind (wpAny_of_eq (by_newCall a) (wpAny_pure ⟨plainId_quiet by_plain_new _, codeAny_builtin_stack by_entry_new rfl fun p st => ?_⟩))
  rw [Around.under_plainId by_plain_new _]
  have hsub := by_sub
  have hown := by_owner
  obtain ⟨hp, g, d, tk, os⟩ := s
  simp only [hown]
  wp_walk
  exact h
end
end Mine
end

section
open PySem PySem.W PyProof.Rows PySem.Calls
open Sem (wp)
set_option linter.unusedVariables false
set_option linter.unusedSimpArgs false
set_option maxRecDepth 100000
set_option maxHeartbeats 4000000
namespace Mine
section
variable {prog : Program} {w : World} {A : Around} {E : Value → Shared → Prop} {s : Shared} {R : Result → Shared → Prop}
theorem wpC_if_false {α : Type} {M : Model} {c : Bool} {a b : Sem α} {Q : α → Shared → Prop} (hc : c = false) (h : wpC M A b Q E s) : wpC M A (if c = true then a else b) Q E s := by
  subst hc
  exact h
theorem wpC_if_true {α : Type} {M : Model} {c : Bool} {a b : Sem α} {Q : α → Shared → Prop} (hc : c = true) (h : wpC M A a Q E s) : wpC M A (if c = true then a else b) Q E s := by
  subst hc
  exact h
theorem wpC_special {M : Model} {self : Value} {T : String} {name : Str} {id : String} {args : List Value} {kw : List (Str × Value)} {Q : Option Value → Shared → Prop} (hT : s.TypeIs self T) (h : Slot T name id)
    (hc : wpC M A (call (.builtin id) (self :: args) kw) (fun v => Q (some v)) E s) : wpC M A (callSpecial? self name args kw) Q E s := by
  simp only [callSpecial?]
  refine wpC_step (wpAny_specialOf hT h.lookup ?_)
  simp only [h.bind]
  exact wpC_holding (wpC_bind (wpC_pure (wpC_bind (wpC_mono hc (fun v s' h' => wpC_pure h') fun _ _ h' => h'))))
theorem wpC_call_init {T id : String} {b : Builtin} {args : List Value} {self : Value} {Q : Value → Shared → Prop} (hs : Slot T "__init__" id) (hb : entryFor table id = some b) (hn : holdsOn (.builtin id ⟨self :: args, []⟩) = false) (hp : plainId id = true)
    (hT : s.TypeIs self T) (ha : argsOk id ⟨self :: args, []⟩)
    (h : wpC (model prog w) A.in1 (b ⟨self :: args, []⟩) (fun fin s' => ∃ v, fin = .done (.ret v) ∧ Q v s') E s) : wpC (model prog w) A (call (.builtin id) (self :: args) []) Q E s := by
  refine wpC_call (codeC_tree rfl ?_)
  show wpC _ A.in1 (do checkBuiltinCall id ⟨self :: args, []⟩; again (.builtin id ⟨self :: args, []⟩)) _ _ s
  refine wpC_step (hs.check _ _ _ _ _ _ _ _ hT ha ?_)
  refine wpC_pure ⟨plainId_quiet hp _, codeC_builtin hb hn ?_⟩
  rw [Around.under_plainId hp _]
  refine wpC_mono h (fun fin s' hf => ?_) fun _ _ e => e
  obtain ⟨v, rfl, hq⟩ := hf
  exact hq

theorem by_asStr (i : Int) (t : Tok) : asStr? (.int i t) = pure none := rfl
theorem by_asIndex (i : Int) (t : Tok) : asIndex (.int i t) = pure i := rfl
theorem by_index {i : Int} {t : Tok} {Q : Option Value → Shared → Prop} (h : Q (some (.builtin "int.__index__")) s) : wpAny (model prog w) A (specialOf (.int i t) (Str.ofString "__index__")) Q E s :=
  wpAny_specialOf (name := Str.ofString "__index__") (PySem.typeIs_int s i t) PySem.F.slot_int_index.lookup h
theorem by_rel : typeLookup (.type "bytearray") "__release_buffer__" = pure (some (.builtin "bytearray.__release_buffer__")) := by rw [typeLookup_type, builtinLookup_eq_fast]; kernel_rfl
theorem by_rel_end : (!("bytearray.__release_buffer__" : String).endsWith ("." ++ "__release_buffer__")) = false := by decide +kernel
theorem by_rel_drop : ("bytearray.__release_buffer__" : String).dropRight (("__release_buffer__" : String).length + 1) = "bytearray" := by decide +kernel
theorem by_ownRelease {self : Value} {Q : Bool → Shared → Prop} (hT : s.TypeIs self "bytearray") (h : Q false s) : wpAny (model prog w) A (Builtin.Bytes.ownRelease self) Q E s := by
  unfold Builtin.Bytes.ownRelease
  refine wpAny_bind ?_
  unfold Builtin.Bytes.slotIsOwn
  refine wpAny_bind (wpAny_specialOf hT by_rel ?_)
  dsimp only
  rw [by_rel_end, by_rel_drop]
  refine wpAny_ite (KBy.ite_no (by decide) ?_)
  refine wpAny_isInstance hT by_sub (wpAny_pure h)
theorem by_write {a : Addr} {x : Array UInt8} {k : Nat} {f : Array UInt8 → Array UInt8} {Q : Unit → Shared → Prop} (ho : s.heap.get? a = some { cls := .type "bytearray", data := .bytearray x k }) (hz : (f x).size ≤ sizeLine)
    (h : ∀ h', h'.get? a = some { cls := .type "bytearray", data := .bytearray (f x) k } → Heap.SameBut a s.heap h' → Q () { s with heap := h' }) : wpAny (model prog w) A (Builtin.Bytes.write (.ref a) f) Q E s := by
  show wpAny _ _ (updateBytearray a f) _ _ _
  unfold updateBytearray
  refine wpAny_bind (wpAny_load ho ?_)
  show wpAny _ _ (update a (Obj.mapBytearray f) >>= fun _ => lookBehind a) _ _ _
  refine wpAny_bind (wpAny_update ho ?_)
  have ho' : (s.heap.update a (Obj.mapBytearray f)).get? a = some { cls := .type "bytearray", data := .bytearray (f x) k } := Heap.get?_update_self (Obj.mapBytearray f) ho rfl
  refine wpAny_lookBehind ho' ?_ (h _ ho' (Heap.SameBut.update ..))
  show (if (f x).size > sizeLine then some "bytearray:memory" else none) = none
  rw [if_neg (Nat.not_lt.mpr hz)]

theorem wpC_call_bytearray {n : Nat} {t : Tok} {Q : Value → Shared → Prop} (hn : n ≤ 100) (hn1 : 1 ≤ n)
    (h : ∀ h' k, Ext s.heap h' → h'.get? s.heap.objs.size = some { cls := .type "bytearray", data := .bytearray (Array.replicate n 0) } → Q (.ref s.heap.objs.size) { s with heap := h', toks := k }) : wpC (model prog w) A (call (.type "bytearray") [.int n t]) Q E s := by
  refine wpC_call (codeC_tree rfl ?_)
  show wpC _ _ (callAny (.type "bytearray") _) _ _ _
  refine wpC_pure ⟨Code.quiet_builtin _ (by decide +kernel), codeC_builtin F.entry_type_call (show holdIds.contains "type.__call__" = false by decide +kernel) ?_⟩
  rw [Around.under_plain (weight_type_call_type "bytearray" [.int n t] []) rfl]
  unfold Builtin.«type.__call__»
  refine wpC_if_false by_called.notType ?_
  refine wpC_if_false by_called.canCreate ?_
  refine wpC_bind (wpC_of_eq (by_typeCall (.int n t)) ?_)
  refine wpC_bind (wpC_of_eq by_mro ?_)
  refine wpC_if_false rfl ?_
  refine wpC_bind (wpC_of_eq by_called.made ?_)
  refine wpC_bind (wpC_pure ?_)
  refine wpC_bind (wpC_holding (wpC_any (wpAny_call (codeAny_mono (by_new (E := fun _ _ => False) (Q₁ := fun obj s₁ => obj = .ref s.heap.objs.size ∧ s₁ = { s with heap := s.heap.push { cls := .type "bytearray", data := .bytearray #[] } }) (.int n t) ⟨rfl, rfl⟩) fun r s₁ hr => ?_))))
  cases r with
  | error e => exact hr.elim
  | ok fl =>
    cases fl with
    | ret obj =>
      obtain ⟨rfl, rfl⟩ := hr
      have hS : (s.heap.push { cls := .type "bytearray", data := .bytearray #[] }).get? s.heap.objs.size = some { cls := .type "bytearray", data := .bytearray #[] } := Heap.get?_push_size _ rfl
      refine wpC_step (wpAny_isInstance (T := "bytearray") ⟨_, hS, rfl⟩ by_sub ?_)
      refine wpC_if_false rfl ?_
      refine wpC_bind (wpC_holding (wpC_special (T := "bytearray") ⟨_, hS, rfl⟩ by_slot_init (wpC_call_init by_slot_init by_entry_init (show holdIds.contains "bytearray.__init__" = false by decide +kernel) by_plain_init ⟨_, hS, rfl⟩ (by_args_init _ _) ?_)))
      have hfit : (!Builtin.Bytes.fitsIndex (n : Int)) = false := by
        simp only [Builtin.Bytes.fitsIndex, Bool.not_eq_false', Bool.and_eq_true, decide_eq_true_eq]; omega
      have hne : ((n : Int) == 2 ^ 63 - 1) = false := by
        simp only [beq_eq_false_iff_ne, ne_eq]; omega
      have htl : Builtin.Bytes.tooLong (n : Int).toNat = false := by
        show decide (n > sizeLine) = false
        rw [sizeLine_eq]; exact decide_eq_false (by omega)
      unfold Builtin.«bytearray.__init__»
      refine wpC_step (by_ownRelease ⟨_, hS, rfl⟩ ?_)
      refine wpC_if_false rfl ?_
      refine wpC_bind (wpC_of_eq (by_bind _) ?_)
      refine wpC_bind (wpC_of_eq (a := ()) rfl ?_)
      refine wpC_bind (wpC_of_eq (a := ()) rfl ?_)
      refine wpC_bind ?_
      refine wpC_bind (wpC_exported ?_)
      refine wpC_any ?_
      show wpAny _ _ (Builtin.Bytes.exportsOf (.ref s.heap.objs.size) >>= fun n => pure (decide (n > 0))) _ _ _
      refine wpAny_bind ?_
      show wpAny _ _ (load s.heap.objs.size >>= _) _ _ _
      refine wpAny_bind (wpAny_load hS (wpAny_pure (wpAny_pure ?_)))
      refine wpC_if_false rfl (wpC_any ?_)
      refine wpAny_bind (by_write hS (Nat.zero_le _) fun h₁ hS₁ hs₁ => ?_)
      simp only [by_asStr, by_asIndex, hfit, hne, htl, pure_bind, Option.isSome_none, Option.isSome_some, Bool.false_eq_true, if_false, if_true, Bool.not_false, Bool.not_true]
      refine wpAny_bind ?_
      refine by_index ?_
      simp only [Option.isSome_some, if_true]
      refine wpAny_bind ?_
      refine wpAny_attempt ?_
      refine wpAny_pure ?_
      have hneg : ¬ (n : Int) < 0 := by omega
      simp only [hfit, hne, htl, hneg, Bool.false_eq_true, if_false]
      refine wpAny_bind ?_
      refine wpAny_rule ?_
      have hpos : (n : Int) > 0 := by omega
      refine wpAny_ite (KBc.ite_yes hpos ?_)
      refine wpAny_bind ?_
      refine by_write hS₁ ?_ fun h₂ hS₂ hs₂ => ?_
      · rw [Array.size_replicate]
        have := hn
        rw [sizeLine_eq]
        show (n : Int).toNat ≤ _
        omega
      refine wpAny_pure ⟨.none, rfl, ?_⟩
      refine wpC_if_false rfl ?_
      refine wpC_pure ?_
      refine h h₂ s.toks ⟨fun b o e => ?_, ?_⟩ hS₂
      · have hb : b ≠ s.heap.objs.size := Nat.ne_of_lt (Heap.lt_size e)
        exact hs₂.extBut b o hb (hs₁.extBut b o hb (Heap.get?_push_of_some _ e))
      · rw [hs₂.1, hs₁.1]
        exact (Ext.push s.heap _).2
    | _ => exact hr.elim
end
end Mine
end

section
open PySem PySem.W PyProof.Rows PySem.Calls
open Sem (wp)
set_option linter.unusedVariables false
set_option linter.unusedSimpArgs false
set_option maxRecDepth 100000
set_option maxHeartbeats 4000000
namespace Mine
section
variable {M : Model} {A : Around} {E : Value → Shared → Prop} {s : Shared} {env : Env}
theorem wpC_keep {α : Type} {vs : List Value} {m : Sem α} {Q : α → Shared → Prop} (h : wpC M A m Q E s) : wpC M A (m.keep vs) Q E s := fun Γ p hΓ h1 h2 => by rw [Sem.wp_keep]; exact h Γ p hΓ h1 h2
theorem wpC_execs_cons {st : Stmt} {rest : List Stmt} {Q : Flow → Shared → Prop} (h : wpC M A (exec st env) (fun f s' => match f with | .next => wpC M A (execs rest env) Q E s' | f => Q f s') E s) : wpC M A (execs (st :: rest) env) Q E s := by
  rw [execs_cons]
  refine wpC_bind (wpC_mono h (fun f s' h' => ?_) fun _ _ e => e)
  cases f <;> first | exact h' | exact wpC_pure h'
theorem wpC_Assign_Name {x : Str} {pos' pos : Pos} {value : PySem.Expr} {Q : Flow → Shared → Prop} (h : wpC M A (eval value env) (fun v s₁ => wpAny M A (storeName env x v) (fun _ => Q .next) E s₁) E s)
    (hs : swapsWith value (some (.Name x pos')) pos.line env = pure false := by rfl) : wpC M A (exec (.Assign [.Name x pos'] value pos) env) Q E s := by
  rw [exec_Assign_Name env x pos' value pos hs]
  refine wpC_step (wpAny_standAt (wpC_bind (wpC_mono h (fun v s₁ h₁ => wpC_any ?_) fun _ _ e => e)))
  exact wpAny_bind (wpAny_standAt (wpAny_bind (wpAny_bindName (wpAny_mono h₁ (fun _ _ q => wpAny_pure q) fun _ _ e => e))))
theorem wpC_Call {func : PySem.Expr} {args : List PySem.Expr} {pos : Pos} {Q : Value → Shared → Prop}
    (h : wpAny M A (eval func env) (fun f s₁ => wpC M A (callWith pos f [] (backTo pos (starEach args env)) []) Q E s₁) E s)
    (he : eval (.Call func args [] pos) env = (do callWith pos (← eval func env) [] (backTo pos (starEach args env)) (backToKw pos (keywordEach [] env))) := by rfl) :
    wpC M A (eval (.Call func args [] pos) env) Q E s := by
  rw [he]; exact wpC_step h
theorem wpC_tail {t : Sem Value} {Q : Value → Shared → Prop} (h : wpC M A t Q E s) : wpC M A (t >>= fun r => holding [r] point >>= fun _ => pure r) Q E s :=
  wpC_bind (wpC_mono h (fun r s₂ hr => wpC_any (wpAny_bind (wpAny_holding (wpAny_point (wpAny_pure hr))))) fun _ _ e => e)
theorem wpC_callWith_type {pos : Pos} {T : String} {e : PySem.Expr} {rest : List PySem.Expr} {Q : Value → Shared → Prop}
    (h : wpAny M A (spliced (backTo pos (starEach (e :: rest) env))) (fun vs s₁ => wpC M A (call (.type T) vs) Q E s₁) E s)
    (he : starEach (e :: rest) env = (false, eval e env) :: starEach rest env := by rfl)
    (hplain : (backTo pos (starEach rest env)).any (·.1) = false := by rfl) :
    wpC M A (callWith pos (.type T) [] (backTo pos (starEach (e :: rest) env)) []) Q E s := by
  rw [he] at h ⊢
  have hp : (((false, eval e env) :: starEach rest env : List (Bool × Sem Value)).any (·.1)) = false ∨ True := .inr trivial
  unfold callWith
  refine wpC_bind (wpC_holding (wpC_any (evalArgs_plain (wpAny_mono h (fun vs s₁ h₁ => ?_) fun _ _ x => x))))
  refine wpC_step (wpAny_standAt ?_)
  simp only [show ((backTo pos ((false, eval e env) :: starEach rest env)).any (·.1)) = false from (by show (false || (backTo pos (starEach rest env)).any (·.1)) = false; rw [hplain]; rfl), List.any_nil, Bool.or_false]
  refine wpC_bind (wpC_pure ?_)
  exact wpC_tail h₁
theorem wpC_callWith_K {K : Frag} {f : Value} {pos : Pos} {h₀ : Heap} {e : PySem.Expr} {rest : List PySem.Expr} {Q : Value → Shared → Prop} (hk : keepIn K f = true)
    (h : wpAny M A (spliced (backTo pos (starEach (e :: rest) env))) (fun vs s₁ => K.In s₁.heap ∧ wpC M A (call f vs) Q E s₁) E s)
    (he : starEach (e :: rest) env = (false, eval e env) :: starEach rest env := by rfl) (hplain : (backTo pos (starEach rest env)).any (·.1) = false := by rfl) :
    wpC M A (callWith pos f [] (backTo pos (starEach (e :: rest) env)) []) Q E s := by
  rw [he] at h ⊢
  unfold callWith
  refine wpC_bind (wpC_holding (wpC_any (evalArgs_plain (wpAny_mono h (fun vs s₁ h₁ => ?_) fun _ _ x => x))))
  refine wpC_step (wpAny_standAt ?_)
  obtain ⟨k, hk', Lk⟩ := keeps_K (M := M) hk _ h₁.1
  simp only [show ((backTo pos ((false, eval e env) :: starEach rest env)).any (·.1)) = false from (by show (false || (backTo pos (starEach rest env)).any (·.1)) = false; rw [hplain]; rfl), List.any_nil, Bool.or_false]
  refine wpC_step (Lk.here ?_)
  have marked (mk : Value) : wpC M A (callMarked mk f vs []) Q E s₁ := by unfold callMarked; exact wpC_keep h₁.2
  rcases hk' with rfl | rfl | rfl <;> dsimp only <;> first | exact wpC_tail h₁.2 | (split <;> first | exact wpC_tail h₁.2 | exact wpC_tail (marked _))
end

section
variable {prog : Program} {w : World} {A : Around} {E : Value → Shared → Prop} {s : Shared} {R : Result → Shared → Prop} {mg mb : Str → Option Value}
theorem codeC_func {body : List Stmt} {env : Env} (h : wpC (model prog w) (A.deeper env) (execs body env) (fun f s' => R (.ok (.ret (match f with | .ret v => v | _ => .none))) s') (fun _ _ => False) s) :
    codeC (model prog w) A (.func body env) R s := by
  refine codeC_tree rfl ?_
  show wpC _ (A.deeper env) (do point; match ← (execs body env).onRaise (leaving env) with | .ret v => ret v | _ => ret .none) _ _ s
  refine wpC_step (wpAny_point (wpC_bind (wpC_onRaise (wpC_mono h (fun f s' h' => ?_) fun _ _ e => e.elim))))
  cases f <;> exact wpC_pure h'
theorem codeC_call_fn {a : Addr} {args : Args} {o : Obj} {fd : FuncData} {body : List Stmt} (hroom : A.depth < recursionLimit) (ho : s.heap.get? a = some o)
    (hd' : o.data = .func fd) (hco : fd.scope.isCoroutine = false) (hgen : fd.scope.isGenerator = false) (hbody : fd.body = .stmts body) (hcd : s.heap.CodeRec fd.code fd.qualname)
    (h : wpAny (model prog w) A.in1 (bindArgs fd args) (fun binds s₁ =>
      wpAny (model prog w) A.in1 (newFunctionEnv fd.scope fd.globals fd.closure binds (fd.qualname ++ ".<locals>.") (some a) fd.code none fd.builtins)
        (fun env s₂ => s₂.heap.NoLimit ∧ codeC (model prog w) A (.func body env) R s₂) (fun e s' => R (.error e) s') s₁) (fun e s' => R (.error e) s') s) :
    codeC (model prog w) A (.call (.ref a) args) R s := by
  refine codeC_tree rfl (wpC_any ?_)
  show wpAny _ A.in1 (callAny (.ref a) args) _ _ s
  simp only [callAny]
  refine wpAny_bind (wpAny_load ho ?_)
  obtain ⟨c, oc, vs, tq, hc, hoc, hdc, hq⟩ := hcd
  simp only [hd', callFunction, hco, hgen, hbody, hc]
  rw [hc] at h
  refine wpAny_bind (m := field (.ref c) 1) (wpAny_field hoc hdc hq (wpAny_bind (wpAny_pure ?_)))
  exact wpAny_bind (wpAny_mono h (fun binds s₁ h₁ => wpAny_bind (wpAny_mono h₁ (fun env s₂ h₂ => wpAny_bind (wpAny_enterFrame h₂.1 hroom (wpAny_pure (And.intro rfl h₂.2)))) fun _ _ h' => h')) fun _ _ h' => h')

variable {name qual : Str} {params : Arguments} {body : List Stmt} {scope : Scope} {dV kV doc pm cdv ct oc : Value} {an od : Option Addr} {osl : Array (Option Value)} {f : Addr} {args : Args} {binds : List (Str × Value)}
/-- a def without captured names, entered under the restricted logic -/
theorem enterR (G : Gd w mg mb s.heap) (hroom : A.depth < recursionLimit)
    (ho : (hd.heap_39 w.params).lookup f = some ⟨oc, od, .func (fnX name qual params body scope [] dV kV doc pm an cdv ct), osl⟩) (hcd : codeIn (hd.heap_39 w.params) cdv qual = true)
    (hbind : BindsTo s (fnX name qual params body scope [] dV kV doc pm an cdv ct) args binds) (hloc : ∀ y ∈ binds, scope.names.lookup y.1 = some .local)
    (h : ∀ h₁, Fr s.heap s.heap.objs.size h₁ (fun y => binds.reverse.lookup y) →
      wpC (model prog w) (A.deeper (envX qual scope s.heap.objs.size f cdv [])) (execs body (envX qual scope s.heap.objs.size f cdv []))
        (fun fl s' => R (.ok (.ret (match fl with | .ret v => v | _ => .none))) s') (fun _ _ => False) { s with heap := h₁, toks := s.toks + binds.length })
    (hcell : ∀ x ∈ scope.names, x.2 ≠ .cell) (hco : scope.isCoroutine = false) (hgen : scope.isGenerator = false) (hk : scope.kind = .function) : codeC (model prog w) A (.call (.ref f) args) R s := by
  refine codeC_call_fn hroom (G.X _ _ ho) rfl hco hgen rfl (codeRec_of G.X hcd) (hbind _ _ _ _ ?_)
  refine wpAny_newFunctionEnv hcell hloc (fun h₁ hns hsb => ⟨G.T.nolimit.fresh _ hsb, codeC_func ?_⟩) hk
  exact h h₁ ⟨hns, fun b o e => hsb.extBut b o (Nat.ne_of_lt (Heap.lt_size e)) (Heap.get?_push_of_some _ e), Nat.le_refl _⟩
end
end Mine
end

section
open PySem PySem.W PyProof.Rows PySem.Calls
open Sem (wp)
set_option linter.unusedVariables false
set_option linter.unusedSimpArgs false
set_option maxRecDepth 100000
set_option maxHeartbeats 4000000
namespace Mine
abbrev baObj (x : Array UInt8) : Obj := { cls := .type "bytearray", data := .bytearray x }
theorem by_slot_set : Slot "bytearray" "__setitem__" "bytearray.__setitem__" :=
  .of (owner := "bytearray") (n := "__setitem__") (by rw [typeLookup_type, builtinLookup_eq_fast]; kernel_rfl) (by decide +kernel) (by decide +kernel) (by decide +kernel)
    (by first | exact .inl (by decide +kernel) | exact .inr (by decide +kernel)) (by rw [isSubtype_type]; kernel_rfl)
theorem by_entry_set : entryFor table "bytearray.__setitem__" = some Builtin.«bytearray.__setitem__» := by first | exact entryFor_of_fast (by kernel_rfl) | exact entryFor_of_tree (by kernel_rfl)
theorem by_args_set (a b c : Value) : argsOk "bytearray.__setitem__" ⟨[a, b, c], []⟩ := by unfold argsOk; kernel_rfl
theorem by_no_bytes : typeLookup (.type "bytearray") "__bytes__" = pure none := by rw [typeLookup_type, builtinLookup_eq_fast]; kernel_rfl
theorem by_no_index : typeLookup (.type "bytearray") "__index__" = pure none := by rw [typeLookup_type, builtinLookup_eq_fast]; kernel_rfl
theorem by_buffer : typeLookup (.type "bytearray") "__buffer__" = pure (some (.builtin "bytearray.__buffer__")) := by rw [typeLookup_type, builtinLookup_eq_fast]; kernel_rfl
theorem by_buf_end : (!("bytearray.__buffer__" : String).endsWith ("." ++ "__buffer__")) = false := by decide +kernel
theorem by_buf_drop : ("bytearray.__buffer__" : String).dropRight (("__buffer__" : String).length + 1) = "bytearray" := by decide +kernel
section
variable {prog : Program} {w : World} {A : Around} {E : Value → Shared → Prop} {s : Shared}
theorem by_setItem {a : Addr} {x : Array UInt8} {k v : Int} {t u : Tok} {Q : Unit → Shared → Prop} (ho : s.heap.get? a = some (baObj x)) (hx : x.size ≤ 100) (h0 : 0 ≤ k) (h1 : k < x.size) (hv0 : 0 ≤ v) (hv1 : v < 256)
    (h : ∀ h', h'.get? a = some (baObj (x.setIfInBounds k.toNat v.toNat.toUInt8)) → Heap.SameBut a s.heap h' → Q () { s with heap := h' }) :
    wpAny (model prog w) A (setItem (.ref a) (.int k t) (.int v u)) Q E s := by
  have hT : s.TypeIs (.ref a) "bytearray" := ⟨_, ho, rfl⟩
  unfold setItem
  try with_reducible refine wpAny_holding ?_
  first | refine wpAny_bind (wpAny_pure ?_) | skip
  refine wpAny_bind (wpAny_sequenceKey hT (by decide) ?_)
  refine wpAny_bind (wpAny_callSpecial?_slot (name := Str.ofString "__setitem__") hT by_slot_set
    (wpAny_call_entry by_slot_set hT by_entry_set ?_ (by_args_set _ _ _)))
  have hfit : (!Builtin.Bytes.fitsIndex k) = false := by
    simp only [Builtin.Bytes.fitsIndex, Bool.not_eq_false', Bool.and_eq_true, decide_eq_true_eq]; omega
  unfold Builtin.«bytearray.__setitem__»
  refine bm_if_false rfl ?_
  show wpAny _ _ (Builtin.Bytes.subscript? (.int k t) >>= _) _ _ s
  refine wpAny_bind ?_
  unfold Builtin.Bytes.subscript?
  refine wpAny_bind ?_
  refine by_index ?_
  simp only [Option.isNone_some, Bool.false_eq_true, if_false, by_asIndex, pure_bind, hfit]
  refine wpAny_pure ?_
  show wpAny _ _ (Builtin.Bytes.byteValue (.int v u) >>= _) _ _ s
  refine wpAny_bind ?_
  unfold Builtin.Bytes.byteValue
  have hb : (decide (v < 0) || decide (v ≥ 256)) = false := by
    simp only [Bool.or_eq_false_iff, decide_eq_false_iff_not]; omega
  simp only [by_asIndex, pure_bind, hb, Bool.false_eq_true, if_false]
  refine wpAny_pure ?_
  show wpAny _ _ (Builtin.Bytes.payload (.ref a) >>= _) _ _ s
  refine wpAny_bind ?_
  unfold Builtin.Bytes.payload Builtin.Bytes.payload?
  refine wpAny_bind (wpAny_bind (wpAny_load ho ?_))
  refine wpAny_pure (wpAny_pure ?_)
  have hidx : seqIndex? k x.size = some k.toNat := by
    have hn : ¬ k < 0 := by omega
    simp [seqIndex?, hn, h0, h1]
  rw [hidx]
  show wpAny _ _ (Builtin.Bytes.write (.ref a) _ >>= _) _ _ s
  refine wpAny_bind (by_write ho ?_ fun h' ho' hs' => ?_)
  · rw [Array.size_setIfInBounds, sizeLine_eq]; omega
  · exact wpAny_pure ⟨_, rfl, wpAny_pure (h h' ho' hs')⟩

theorem by_buffer? {a : Addr} {x : Array UInt8} {id : String} {Q : Option (Array UInt8) → Shared → Prop} (ho : s.heap.get? a = some (baObj x)) (h : Q (some x) s) : wpAny (model prog w) A (Builtin.Bytes.buffer? id (.ref a) true) Q E s := by
  have hT : s.TypeIs (.ref a) "bytearray" := ⟨_, ho, rfl⟩
  unfold Builtin.Bytes.buffer?
  refine wpAny_bind (wpAny_specialOf hT by_buffer ?_)
  try dsimp only
  refine wpAny_bind ?_
  unfold Builtin.Bytes.slotIsOwn
  refine wpAny_bind (wpAny_specialOf hT by_buffer ?_)
  try dsimp only
  rw [by_buf_end, by_buf_drop]
  refine wpAny_ite (KBy.ite_no (by decide) ?_)
  refine wpAny_isInstance hT by_sub ?_
  simp only [Bool.not_true, Bool.false_eq_true, if_false]
  refine wpAny_bind (wpAny_specialOf hT by_buffer ?_)
  try dsimp only
  refine wpAny_bind (by_ownRelease hT ?_)
  simp only [Bool.false_eq_true, if_false]
  refine wpAny_bind ?_
  unfold Builtin.Bytes.payload Builtin.Bytes.payload?
  exact wpAny_bind (wpAny_bind (wpAny_load ho (wpAny_pure (wpAny_pure (wpAny_pure h)))))

theorem by_bytes {a : Addr} {x : Array UInt8} {Q : Value → Shared → Prop} (ho : s.heap.get? a = some (baObj x)) (hx : x.size ≤ 100) (h : ∀ t k, Q (.bytes x t) { s with toks := k }) : wpAny (model prog w) A (call (.type "bytes") [.ref a]) Q E s := by
  have hT : s.TypeIs (.ref a) "bytearray" := ⟨_, ho, rfl⟩
  refine callType_codes (Q₁ := fun obj s₁ => s₁.TypeIs obj "bytes" ∧ Q obj s₁) F.bm_called (F.bm_typeCall _) F.entry_object_init ?_ fun obj s₁ h₁ => ?_
  · refine codeAny_of_tree ?_
    show wpAny _ A.in1.in1 (do checkBuiltinCall "bytes.__new__" ⟨[.type "bytes", .ref a], []⟩; again (.builtin "bytes.__new__" ⟨[.type "bytes", .ref a], []⟩)) _ _ s
    refine wpAny_bind (wpAny_of_eq (F.bm_newCall _) (wpAny_pure ⟨plainId_quiet F.bm_plain _, codeAny_builtin F.bm_entry ?_⟩))
    rw [Around.under_plainId F.bm_plain _]
    unfold Builtin.«bytes.__new__»
    refine wpAny_bind (wpAny_of_eq (a := true) rfl ?_)
    refine bm_if_false rfl ?_
    refine wpAny_bind (wpAny_of_eq F.bm_sub ?_)
    refine bm_if_false rfl ?_
    refine wpAny_bind (wpAny_of_eq (F.bm_bind _) ?_)
    refine wpAny_bind (wpAny_of_eq (a := ()) rfl ?_)
    refine wpAny_bind (wpAny_of_eq (a := ()) rfl ?_)
    refine bm_if_false rfl ?_
    refine wpAny_bind (wpAny_specialOf hT by_no_bytes ?_)
    refine wpAny_bind (wpAny_bind ?_)
    show wpAny _ _ (load a >>= _) _ _ _
    refine wpAny_bind (wpAny_load ho ?_)
    refine wpAny_pure (wpAny_pure ?_)
    refine bm_if_false rfl ?_
    refine wpAny_bind (wpAny_specialOf hT by_no_index ?_)
    refine bm_if_true rfl ?_
    first
      | show wpAny _ _ (Builtin.Bytes.buffer? "bytes.__new__" (.ref a) true >>= _) _ _ _
      | (refine wpAny_bind ?_; show wpAny _ _ (Builtin.Bytes.buffer? "bytes.__new__" (.ref a) true >>= _) _ _ _)
    refine wpAny_bind (by_buffer? ho ?_)
    refine wpAny_bind (wpAny_rule ?_)
    refine wpAny_bind (wpAny_mkBytes ?_ (by rw [sizeLine_eq]; omega))
    show wpAny _ _ (if (Value.type "bytes" == Value.type "bytes") = true then _ else _) _ _ _
    refine bm_if_true (by decide) ?_
    first
      | exact wpAny_pure ⟨PySem.W.typeIs_bytes _ _ _, h _ _⟩
      | exact wpAny_pure (wpAny_pure ⟨PySem.W.typeIs_bytes _ _ _, h _ _⟩)
      | exact wpAny_bind (wpAny_pure (wpAny_pure ⟨PySem.W.typeIs_bytes _ _ _, h _ _⟩))
  · exact ⟨h₁.1, F.args_object_init_2 obj _, object_init_meets F.bm_called.init.lookup F.bm_called.made (by decide) prog w A.in1 _ s₁ ⟨h₁.1, rfl, h₁.2⟩⟩
end
end Mine
end

section
open PySem PySem.W PyProof.Rows PySem.Calls
open Sem (wp)
set_option linter.unusedVariables false
set_option linter.unusedSimpArgs false
set_option maxRecDepth 100000
set_option maxHeartbeats 4000000
namespace Mine
/-! ### _byteswap, the whole width at once -/
def swapTo (ks : List Int) (j : Nat) : List Int := List.replicate (ks.length - j) 0 ++ (ks.take j).reverse
theorem smallN : ∀ n : Nat, n < 20 → 1 ≤ n → Builtin.Range.small 0 n n = true ∧ Builtin.Range.rangeSize 0 n n = ((1 : Nat) : Int) := by decide +kernel
theorem boot_bytearray : bootBuiltins "bytearray" = some (.type "bytearray") := by decide +kernel
theorem swapTo_zero (ks : List Int) : swapTo ks 0 = List.replicate ks.length 0 := by simp [swapTo]
theorem swapTo_len (ks : List Int) {j : Nat} (hj : j ≤ ks.length) : (swapTo ks j).length = ks.length := by simp [swapTo]; omega
theorem swapTo_all (ks : List Int) : swapTo ks ks.length = ks.reverse := by simp [swapTo]
theorem rep_set {r : List Int} {x : Int} : ∀ m, (List.replicate (m + 1) 0 ++ r).set m x = List.replicate m 0 ++ x :: r
  | 0 => by simp
  | m + 1 => by
    rw [List.replicate_succ, List.cons_append, List.set_cons_succ, rep_set m, List.replicate_succ, List.cons_append]
theorem swapTo_set (ks : List Int) {j : Nat} (hj : j < ks.length) : (swapTo ks j).set (ks.length - 1 - j) (ks.getD j 0) = swapTo ks (j + 1) := by
  unfold swapTo
  have e1 : ks.length - j = (ks.length - 1 - j) + 1 := by omega
  have e2 : ks.length - (j + 1) = ks.length - 1 - j := by omega
  have e3 : ks.getD j 0 = ks[j] := by rw [List.getD_eq_getElem?_getD, List.getElem?_eq_getElem hj]; rfl
  have e4 : ks.take (j + 1) = ks.take j ++ [ks[j]] := by rw [List.take_add_one, List.getElem?_eq_getElem hj]; rfl
  rw [e1, rep_set, e2, e3, e4, List.reverse_append]; rfl
theorem swapTo_succ (ks : List Int) {j : Nat} (hj : j < ks.length) : (byteArr (swapTo ks j)).setIfInBounds (ks.length - 1 - j) (ks.getD j 0).toNat.toUInt8 = byteArr (swapTo ks (j + 1)) := by
  unfold byteArr
  rw [← swapTo_set ks hj, List.map_set, List.setIfInBounds_toArray]
theorem byteArr_rep (n : Nat) : byteArr (List.replicate n 0) = Array.replicate n 0 := by
  unfold byteArr
  rw [List.map_replicate]
  simp

/-- one object of the ledger is changed -/
theorem set_at {h₀ h h' : Heap} {L D : Addr} {m : Str → Option Value} {own r : List (Addr × Obj)} {o o' : Obj} (F : Fr h₀ L h m) (N : News h₀ L h (own ++ (D, o) :: r)) (h1 : ∀ p ∈ own, p.1 ≠ D) (h2 : ∀ p ∈ r, p.1 ≠ D)
    (hs : Heap.SameBut D h h') (ho : h'.get? D = some o') : Fr h₀ L h' m ∧ News h₀ L h' (own ++ (D, o') :: r) := by
  have hD := N (D, o) (List.mem_append_right _ (.head _))
  refine ⟨⟨F.ns.at' fun o e => hs.extBut _ _ (Ne.symm hD.2.1) e, fun b o e => hs.extBut b o (fun q => ?_) (F.keep b o e), F.above⟩, N.setAt h1 h2 hs ho⟩
  rw [q, hD.2.2] at e; cases e

theorem hoffs {own own' : List (Addr × Obj)} {D : Addr} {o o₁ : Obj} (hap : ∀ p ∈ [(D, o)], ∀ q ∈ own, p.1 ≠ q.1) (hap' : ∀ p ∈ own ++ [(D, o₁)], ∀ q ∈ own', p.1 ≠ q.1) : ∀ p ∈ own' ++ own, p.1 ≠ D := by
  intro p hp
  rcases List.mem_append.mp hp with hp | hp
  · exact fun e => hap' (D, o₁) (List.mem_append_right _ (.head _)) p hp e.symm
  · exact fun e => hap (D, o) (.head _) p hp e.symm
theorem hap2 {own own' : List (Addr × Obj)} {D : Addr} {o o' : Obj} (hap' : ∀ p ∈ own ++ [(D, o)], ∀ q ∈ own', p.1 ≠ q.1) : ∀ p ∈ own ++ [(D, o')], ∀ q ∈ own', p.1 ≠ q.1 := by
  intro p hp q hq
  rcases List.mem_append.mp hp with hp | hp
  · exact hap' p (List.mem_append_left _ hp) q hq
  · rw [List.mem_singleton.mp hp]; exact hap' (D, o) (List.mem_append_right _ (.head _)) q hq
theorem hap1 {own : List (Addr × Obj)} {D : Addr} {o o' : Obj} (hap : ∀ p ∈ [(D, o)], ∀ q ∈ own, p.1 ≠ q.1) : ∀ p ∈ [(D, o')], ∀ q ∈ own, p.1 ≠ q.1 := by
  intro p hp q hq
  rw [List.mem_singleton.mp hp]; exact hap (D, o) (.head _) q hq

section
variable {prog : Program} {w : World} {A : Around} {E : Value → Shared → Prop} {s : Shared} {mg mb : Str → Option Value} {R : Result → Shared → Prop}
theorem byteswap_ok {b : Array UInt8} {t u : Tok} {ks : List Int} (G : Gd w mg mb s.heap) (hk : KBw.bInts b = ks) (hz : ks.length < 20) (h1 : 1 ≤ ks.length) (hh : A.handled = none) (hroom : A.depth < recursionLimit)
    (h : ∀ b' t' h' tk, Ext s.heap h' → KBw.bInts b' = ks.reverse → R (.ok (.ret (.bytes b' t'))) { s with heap := h', toks := tk }) :
    codeC (model prog w) A (.call (.ref 35) ⟨[.bytes b t, .int (ks.length : Nat) u], []⟩) R s := by
  have hin : ∀ j, 0 ≤ ks.getD j 0 ∧ ks.getD j 0 < 256 := fun j => KBw.getD_in fun k hm => KBw.ints_in (hk ▸ hm)
  have hrev : KBw.bInts (byteArr ks.reverse) = ks.reverse := KBa.ints_make fun n hn => KBw.ints_in (b := b) (by rw [hk]; exact List.mem_reverse.mp hn)
  have hbig : ks.length ≤ 1099511627776 := by omega
  have h100 : ks.length ≤ 100 := by omega
  have hc0 : ((ks.length : Nat) : Int) ≠ 0 := by omega
  refine enterR (binds := [(Str.ofString "data", .bytes b t), (Str.ofString "width", .int (ks.length : Nat) u)]) G hroom (by rfl) (by rfl) (BindsTo.of_eq rfl) (locs rfl) (fun h₁ F => ?_) (by decide) rfl rfl rfl
  refine wpC_execs_cons (wpC_Assign_Name (wpC_Call (nameX_B F G.X G.T (by rfl) boot_bytearray (by decide) (wpC_callWith_type (spliced_more (Call_ (nameX_B F G.X G.T (by rfl) boot_len (by decide) (PyProof.Rows.callWith_builtin1 (spliced_more (nameX_L F rfl (spliced_none (KBw.len_K hk hbig (spliced_none (wpC_call_bytearray h100 h1 fun h₂ tk₂ up₂ hB => ?_))))))))))))))
  have F₂ := fr_up F up₂.1
  have hBL : h₁.objs.size ≠ s.heap.objs.size := Nat.ne_of_gt F.ns.lt
  have N₂ : News s.heap s.heap.objs.size h₂ [(h₁.objs.size, baObj (byteArr (swapTo ks 0)))] := fun p hp => by
    rw [List.mem_singleton.mp hp, swapTo_zero, byteArr_rep]
    exact ⟨hB, hBL, fr_new F (Nat.le_refl _)⟩
  refine storeX_L F₂ N₂ fun h₃ F₃ N₃ => ?_
  refine wpC_any ?_
  show wpAny _ _ (execs _ _) _ _ _
  refine wpAny_execs_cons (for_src (h₀ := s.heap) (Call_ (nameX_B F₃ G.X G.T (by rfl) boot_range (by decide) (PyProof.Rows.callWith_type1 (spliced_more (wpAny_Constant_int (spliced_more (Call_ (nameX_B F₃ G.X G.T (by rfl) boot_len (by decide) (PyProof.Rows.callWith_builtin1 (spliced_more (nameX_L F₃ rfl (spliced_none (KBw.len_K hk hbig (spliced_more (nameX_L F₃ rfl (spliced_none (call_range_3 hc0 ?_))))))))))))))))))
  refine src_range hh (Heap.get?_push_size _ rfl) (smallN ks.length hz h1).1 (smallN ks.length hz h1).2 fun I h₄ hsrc' => ?_
  have hsrc := fun x px => srcN (hsrc' x px)
  clear hsrc'
  refine ⟨I, _, _, _, _, _, fun k m nx => (∃ x, nx = [(h₁.objs.size, baObj x)] ∧ (k = 0 → x = byteArr (swapTo ks 0)) ∧ (k = 1 → x = byteArr ks.reverse)) ∧ m (Str.ofString "swapped_data") = some (.ref h₁.objs.size) ∧ m (Str.ofString "data") = some (.bytes b t) ∧ m (Str.ofString "width") = some (.int (ks.length : Nat) u),
    rfl, hsrc _ _, (fun hm => nomatch hm), (fun p hp b hb => nomatch hb), F₃.push _, N₃.pushKeep _, ⟨⟨_, rfl, fun _ => rfl, fun e => nomatch e⟩, rfl, rfl, rfl⟩, ?_, ?_⟩
  · rintro i v m₅ news₅ h₅ tk₅ own E' hi ⟨u', rfl⟩ ⟨⟨x, rfl, hx0, _⟩, hms, hmd, hmw⟩ hap F₅ N₅
    have hi0 : i = 0 := by omega
    subst hi0
    have hx := hx0 rfl
    subst hx
    refine turn_name F₅ N₅ fun h₆ tk₆ F₆ N₆ => ?_
    refine wpAny_execs_cons (for_src (h₀ := s.heap) (Call_ (nameX_B F₆ G.X G.T (by rfl) boot_range (by decide) (PyProof.Rows.callWith_type1 (spliced_more (nameX_L F₆ (by exact hmw) (spliced_none (call_range_1 ?_))))))))
    refine src_range hh (Heap.get?_push_size _ rfl) (small0 ks.length hz).1 (small0 ks.length hz).2 fun I' h₇ hsrc₀ => ?_
    have hsrc' := fun x px => src0 (hsrc₀ x px)
    clear hsrc₀
    refine ⟨I', _, _, _, _, _, fun j m nx => nx = own ++ [(h₁.objs.size, baObj (byteArr (swapTo ks j)))] ∧ (∃ ti, m (Str.ofString "i") = some (.int 0 ti)) ∧ m (Str.ofString "swapped_data") = some (.ref h₁.objs.size) ∧ m (Str.ofString "data") = some (.bytes b t) ∧ m (Str.ofString "width") = some (.int (ks.length : Nat) u),
      rfl, hsrc' _ _, (fun hm => nomatch hm), (fun p hp b hb => nomatch hb), F₆.push _, N₆.pushKeep _, ⟨rfl, ⟨_, rfl⟩, by exact hms, by exact hmd, by exact hmw⟩, ?_, ?_⟩
    · rintro j v m₈ news₈ h₈ tk₈ own' E'' hj ⟨u'', rfl⟩ ⟨rfl, ⟨ti, hmi⟩, hms', hmd', hmw'⟩ hap' F₈ N₈
      have hj' : j < ks.length := hj
      have q1 : (0 : Int) ≤ 0 + ((j : Nat) : Int) := by omega
      have q2 : (0 : Int) + ((j : Nat) : Int) < ((ks.length : Nat) : Int) := by omega
      have q3 : ((0 : Int) + ((j : Nat) : Int)).toNat = j := by omega
      have q4 : (0 : Int) ≤ 0 + ((ks.length : Nat) : Int) - 1 - ((j : Nat) : Int) := by omega
      have q5 : ((0 : Int) + ((ks.length : Nat) : Int) - 1 - ((j : Nat) : Int)).toNat = ks.length - 1 - j := by omega
      have q6 : (byteArr (swapTo ks j)).size = ks.length := by rw [byteArr_size, swapTo_len ks (Nat.le_of_lt hj')]
      have q7 : (0 : Int) + ((ks.length : Nat) : Int) - 1 - ((j : Nat) : Int) < ((byteArr (swapTo ks j)).size : Nat) := by rw [q6]; omega
      have q8 : (byteArr (swapTo ks j)).size ≤ 100 := by rw [q6]; exact h100
      have q9 := hin ((0 : Int) + ((j : Nat) : Int)).toNat
      have q10 : (byteArr (swapTo ks j)).setIfInBounds ((0 : Int) + ((ks.length : Nat) : Int) - 1 - ((j : Nat) : Int)).toNat (ks.getD ((0 : Int) + ((j : Nat) : Int)).toNat 0).toNat.toUInt8 = byteArr (swapTo ks (j + 1)) := by rw [q5, q3]; exact swapTo_succ ks hj'
      refine turn_name F₈ N₈ fun h₉ tk₉ F₉ N₉ => ?_
      have N₉' : News s.heap s.heap.objs.size h₉ ((own' ++ own) ++ (h₁.objs.size, baObj (byteArr (swapTo ks j))) :: []) := fun p hp => N₉ p (by rw [← List.append_assoc]; exact hp)
      refine wpAny_execs_cons (wpAny_Assign_Subscript (Subscript_ (nameX_L F₉ (by exact hmd') (wpAny_BinOp (nameX_L F₉ (by exact hmi) (nameX_L F₉ rfl (add_int (KBw.item_K hk hbig q1 q2 fun t₁ tk₁ _ _ => ?_))))))) (by rfl))
      refine nameX_L F₉ (by exact hms') (wpAny_BinOp (wpAny_BinOp (wpAny_BinOp (nameX_L F₉ (by exact hmi) (nameX_L F₉ (by exact hmw') (add_int (wpAny_Constant_int (sub_int (nameX_L F₉ rfl (sub_int ?_))))))))))
      have hoff : ∀ p ∈ own' ++ own, p.1 ≠ h₁.objs.size := hoffs hap hap'
      refine by_setItem (N₉' _ (List.mem_append_right _ (.head _))).1 q8 q4 q7 q9.1 q9.2 fun h₁₀ ho₁₀ hs₁₀ => ?_
      have FN := set_at F₉ N₉' hoff (fun p hp => nomatch hp) hs₁₀ (ho₁₀.trans (congrArg (fun z => some (baObj z)) q10))
      show wpAny _ _ (execs _ _) _ _ _
      exact wpAny_execs_nil (TurnEnd.next (nx := own ++ [(h₁.objs.size, baObj (byteArr (swapTo ks (j + 1))))]) FN.1 (fun p hp => FN.2 p (by rw [List.append_assoc]; exact hp)) (hap2 hap') ⟨rfl, ⟨_, by exact hmi⟩, by exact hms', by exact hmd', by exact hmw'⟩)
    · rintro h' tk m' news' F' N' ⟨rfl, _, hms', hmd', hmw'⟩
      exact wpAny_execs_nil (TurnEnd.next (nx := [(h₁.objs.size, baObj (byteArr (swapTo ks ks.length)))]) F' N' (hap1 hap) ⟨⟨_, rfl, (fun e => absurd e (Nat.succ_ne_zero _)), (fun _ => congrArg byteArr (swapTo_all ks))⟩, hms', hmd', hmw'⟩)
  · rintro h' tk m' news' F' N' ⟨⟨x, rfl, _, hx⟩, hms, hmd, hmw⟩
    have hx' := hx rfl
    have hB' : h'.get? h₁.objs.size = some (baObj (byteArr ks.reverse)) := hx' ▸ (N' _ (.head _)).1
    have hsz : (byteArr ks.reverse).size ≤ 100 := by rw [byteArr_size, List.length_reverse]; exact h100
    show wpAny _ _ (execs _ _) _ _ _
    exact wpAny_execs_cons (wpAny_Return_some (Call_ (nameX_B F' G.X G.T (by rfl) boot_bytes (by decide) (PyProof.Rows.callWith_type1 (spliced_more (nameX_L F' hms (spliced_none (by_bytes hB' hsz fun t' k => h _ t' h' k (Ext.of_fr F') hrev))))))))
end
end Mine
end

section
open PySem PySem.W PyProof.Rows PySem.Calls
open Sem (wp)
set_option linter.unusedVariables false
set_option linter.unusedSimpArgs false
set_option maxRecDepth 100000
set_option maxHeartbeats 4000000
namespace Mine
section
variable {prog : Program} {w : World} {A : Around} {E : Value → Shared → Prop} {s : Shared} {R : Result → Shared → Prop} {mg mb : Str → Option Value}
  {name qual : Str} {params : Arguments} {body : List Stmt} {scope : Scope} {dV kV doc pm cdv ct oc : Value} {an od : Option Addr} {osl : Array (Option Value)} {f : Addr} {args : Args} {binds : List (Str × Value)}
/-- a def with captured names, entered under the restricted logic -/
theorem enterRC (G : Gd w mg mb s.heap) (hroom : A.depth < recursionLimit)
    (ho : (hd.heap_39 w.params).lookup f = some ⟨oc, od, .func (fnX name qual params body scope [] dV kV doc pm an cdv ct), osl⟩) (hcd : codeIn (hd.heap_39 w.params) cdv qual = true)
    (hbind : BindsTo s (fnX name qual params body scope [] dV kV doc pm an cdv ct) args binds)
    (hkind : ∀ n, ∀ x ∈ binds, scope.names.lookup x.1 = some .local ∨ (scope.names.lookup x.1 = some .cell ∧ ((cellsFrom n scope.names []).lookup x.1).isSome = true))
    (hnd : ((cellsFrom 0 scope.names []).map (·.1)).Nodup)
    (h : ∀ h₁ tk cells, Fr s.heap s.heap.objs.size h₁ (bindL (envOfC qual scope s.heap.objs.size f cdv).kindOf binds fun _ => none) → News s.heap s.heap.objs.size h₁ cells →
      CellsAre (bindC (envOfC qual scope s.heap.objs.size f cdv).kindOf binds fun _ => none) (cellsFrom (s.heap.objs.size + 1) scope.names []) cells →
      wpC (model prog w) (A.deeper (envOfC qual scope s.heap.objs.size f cdv)) (execs body (envOfC qual scope s.heap.objs.size f cdv))
        (fun fl s' => R (.ok (.ret (match fl with | .ret v => v | _ => .none))) s') (fun _ _ => False) { s with heap := h₁, toks := tk })
    (hco : scope.isCoroutine = false) (hgen : scope.isGenerator = false) (hk : scope.kind = .function) : codeC (model prog w) A (.call (.ref f) args) R s := by
  refine codeC_call_fn hroom (G.X _ _ ho) rfl hco hgen rfl (codeRec_of G.X hcd) (hbind _ _ _ _ ?_)
  refine wpAny_newFunctionEnv_cells hk (hkind _) fun env' he s' x => ?_
  subst he
  refine ⟨G.T.nolimit.keeps x.toInCall.keep, codeC_func ?_⟩
  obtain ⟨h₁, tk, rfl, _⟩ := x.done
  obtain ⟨cells, NC, Y⟩ := Cl.news (h₀ := s.heap) (Nat.le_refl _) fun n c hm => ⟨x.cell n c (lookup_of_mem_nodup (cellsFrom_names scope.names 0 (s.heap.objs.size + 1) [] [] rfl ▸ hnd) hm), x.above n c hm⟩
  exact h h₁ tk cells ⟨x.toInCall.ns, x.toInCall.keep, Nat.le_refl _⟩ NC Y
end
end Mine
end

section
open PySem PySem.W PyProof.Rows PySem.Calls
open Sem (wp)
set_option linter.unusedVariables false
set_option linter.unusedSimpArgs false
set_option maxRecDepth 100000
set_option maxHeartbeats 4000000
namespace Mine
/-- what the law's own walk has to give -/
def LawOk : Prop := ∀ (prog : Program) (w : World) (s : Shared) (mg mb : Str → Option Value) (l : Addr) (vs : List Value) (ns : List Int) (R : Result → Shared → Prop), Gd w mg mb s.heap → s.heap.IsList l vs.toArray → IntsAre vs ns → ns.length ≤ 63 →
  (∀ h' tk, (∀ b o, s.heap.get? b = some o → h'.get? b = some o) → R (.ok (.ret (.bool true))) { s with heap := h', toks := tk }) → codeC (model prog w) callerA (.call (.ref 62) ⟨[.ref l], []⟩) R s
theorem top_of_law (law : LawOk) : PySem.Challenge.rw_gh0001_01.Holds := by
  refine hd ?_
  intro w s₀ s₁ mg mb G Y a o pm cd doc dV kV ho hd' hcd hD hmg hgens args vals as hpre hlay hrd hwl hlo
  have Gd' : Gd w mg mb s₁.heap := ⟨kIn_of Y, topRead_of G.T⟩
  have ha : a = 62 := by
    have q := mg_of Gd'.X Gd'.T.g (n := Str.ofString "law") (v := .ref 62) (by rfl)
    have q2 := hmg.symm.trans q
    simpa using q2
  subst ha
  clear ho hd' hcd hD hmg
  wrow_args hpre hlay hrd hwl hlo
  rename_i ns _ _ _ _ _ _ _ l vs _ hL _ _ _ hI _ hlen _
  refine wpC_call (law _ w s₁ mg mb l vs ns _ Gd' hL hI (by omega) fun h' tk up => ?_)
  refine GoodW.toG ?_
  refine ⟨.inl ⟨.bool true, .bool true, [], rfl, fun cls => ?_, .bool _, ?_, fun _ => ⟨.nil, fun a ha => nomatch ha⟩⟩, up, rfl, hgens⟩
  · first | rfl | wrow_none_raised
  · first | rfl | wrow_post
end Mine
end

section
open PySem PySem.W PyProof.Rows PySem.Calls
set_option linter.unusedVariables false
set_option linter.unusedSimpArgs false
set_option maxRecDepth 100000
set_option maxHeartbeats 4000000
namespace Mine
/-! ### _law_drawn -/
def drawStep (p : List Int × List Int) (x : Int) : List Int × List Int :=
  (p.1.eraseIdx (x.fmod (p.1.length : Int)).toNat, p.2 ++ [p.1.getD (x.fmod (p.1.length : Int)).toNat 0])
def drawTo (n : Nat) (xs : List Int) : List Int × List Int := xs.foldl drawStep ((List.range n).map fun (i : Nat) => (i : Int), [])
def dxs (ns : List Int) (n : Nat) : List Int := (ns ++ [0, 0, 0, 0]).take n
def drawn (ns : List Int) (n : Nat) : List Int := (drawTo n (dxs ns n)).2
theorem ints_erase : ∀ {vs : List Value} {ns : List Int}, IntsAre vs ns → ∀ k, IntsAre (vs.eraseIdx k) (ns.eraseIdx k)
  | _, _, .nil, _ => .nil
  | _, _, .cons n t r, 0 => r
  | _, _, .cons n t r, k + 1 => .cons n t (ints_erase r k)
theorem ints_at : ∀ {vs : List Value} {ns : List Int}, IntsAre vs ns → ∀ {k : Nat}, k < ns.length → ∃ t, vs[k]? = some (.int (ns.getD k 0) t)
  | _, _, .cons n t r, 0, _ => ⟨t, rfl⟩
  | _, _, .cons n t r, k + 1, h => by
    obtain ⟨t', e⟩ := ints_at r (k := k) (by simpa using h)
    exact ⟨t', by simpa using e⟩
theorem ints_look {items : Array Value} {ns : List Int} (h : IntsAre items.toList ns) {i : Nat} {v : Value} (e : items[i]? = some v) : i < ns.length ∧ ∃ t, v = .int (ns.getD i 0) t := by
  have hi : i < items.size := (Array.getElem?_eq_some_iff.mp e).1
  have hl : i < ns.length := by rw [← h.length, Array.length_toList]; exact hi
  obtain ⟨t, e'⟩ := ints_at h hl
  rw [Array.getElem?_toList] at e'
  exact ⟨hl, t, Option.some.inj (e.symm.trans e')⟩
theorem led_off {own : List (Addr × Obj)} {D2 D1 : Addr} {o2 o1 o2' : Obj} (hap : ∀ p ∈ [(D2, o2), (D1, o1)], ∀ q ∈ own, p.1 ≠ q.1) (hne : D2 ≠ D1) : ∀ p ∈ own ++ [(D2, o2')], p.1 ≠ D1 := by
  intro p hp
  rcases List.mem_append.mp hp with hp | hp
  · exact fun e => hap (D1, o1) (.tail _ (.head _)) p hp e.symm
  · rw [List.mem_singleton.mp hp]; exact hne
theorem drawStep_len {p : List Int × List Int} {x : Int} (h : 0 < p.1.length) : (drawStep p x).1.length = p.1.length - 1 := by
  unfold drawStep
  have h1 := Int.fmod_nonneg_of_pos x (show (0 : Int) < (p.1.length : Int) by omega)
  have h2 := Int.fmod_lt_of_pos x (show (0 : Int) < (p.1.length : Int) by omega)
  show (p.1.eraseIdx _).length = _
  rw [List.length_eraseIdx, if_pos (by omega)]
theorem fmod_in {x : Int} {n : Nat} (h : 0 < n) : 0 ≤ x.fmod (n : Int) ∧ x.fmod (n : Int) < n :=
  ⟨Int.fmod_nonneg_of_pos x (by omega), Int.fmod_lt_of_pos x (by omega)⟩

section
variable {prog : Program} {w : World} {A : Around} {E : Value → Shared → Prop} {s : Shared} {h₀ : Heap} {L D : Addr} {m : Str → Option Value} {own r : List (Addr × Obj)} {its : Array Value} {n : Nat}
theorem pop_led {i : Int} {u : Tok} {y : Value} {Q : Value → Shared → Prop} (F : Fr h₀ L s.heap m) (N : News h₀ L s.heap (own ++ (D, PySem.W.listOf its n) :: r)) (h1 : ∀ p ∈ own, p.1 ≠ D) (h2 : ∀ p ∈ r, p.1 ≠ D)
    (h0 : 0 ≤ i) (hi : i < its.size) (hz : its.size ≤ 100) (hy : its[i.toNat]? = some y)
    (h : ∀ h', Fr h₀ L h' m → News h₀ L h' (own ++ (D, PySem.W.listOf (its.eraseIdxIfInBounds i.toNat) (n + 1)) :: r) → Q y { s with heap := h' }) :
    wpAny (model prog w) A (call (.builtin "list.pop") [.ref D, .int i u]) Q E s := by
  have z := N (D, PySem.W.listOf its n) (List.mem_append_right _ (.head _))
  have hf : Builtin.List.listFitsIndex i = true := by
    simp only [Builtin.List.listFitsIndex, Bool.and_eq_true, decide_eq_true_eq]; omega
  have hk : seqIndex? i its.size = some i.toNat := by
    have hn : ¬ i < 0 := by omega
    simp [seqIndex?, hn, h0, hi]
  have hz' : its.size ≤ sizeLine := by rw [sizeLine_eq]; omega
  refine call_meets PySem.F.slot_list_pop ⟨_, z.1, rfl⟩ PySem.F.entry_list_pop (PySem.F.args_list_pop_2 _ _) (PySem.MeetsSeq.list_pop_at D its n i u i.toNat y hf hk hy hz') ⟨z.1, ?_⟩
  refine h _ (F.change (Heap.SameBut.update ..) z.2.1 z.2.2) (kl_turn _ N h1 h2 rfl ?_)
  have hlt : i.toNat < its.size := by omega
  unfold Array.eraseIdxIfInBounds
  rw [dif_pos hlt, Array.size_eraseIdx]
  omega
end

section
variable {prog : Program} {w : World} {A : Around} {E : Value → Shared → Prop} {s : Shared} {h₀ : Heap} {L D : Addr} {m : Str → Option Value} {own r : List (Addr × Obj)} {its : Array Value} {c : Nat}
theorem app_led {y : Value} {Q : Value → Shared → Prop} (F : Fr h₀ L s.heap m) (N : News h₀ L s.heap (own ++ (D, PySem.W.listOf its c) :: r)) (h1 : ∀ p ∈ own, p.1 ≠ D) (h2 : ∀ p ∈ r, p.1 ≠ D) (hz : its.size ≤ 100)
    (h : ∀ h', Fr h₀ L h' m → News h₀ L h' (own ++ (D, PySem.W.listOf (its.push y) (c + 1)) :: r) → Q .none { s with heap := h' }) :
    wpAny (model prog w) A (call (.builtin "list.append") [.ref D, y]) Q E s := by
  have hD := N (D, PySem.W.listOf its c) (List.mem_append_right _ (.head _))
  refine append_at hD.1 (fun h' hs ho => ?_) (by rw [sizeLine_eq]; omega)
  exact h h' (F.change hs hD.2.1 hD.2.2) (N.setAt h1 h2 hs ho)
end

theorem drawStep_in {p : List Int × List Int} {x : Int} (h1 : KBa.In p.1) (h2 : KBa.In p.2) : KBa.In (drawStep p x).1 ∧ KBa.In (drawStep p x).2 := by
  constructor
  · intro k hk; exact h1 k (List.mem_of_mem_eraseIdx hk)
  · intro k hk
    rcases List.mem_append.mp (show k ∈ p.2 ++ [p.1.getD _ 0] from hk) with hk | hk
    · exact h2 k hk
    · rw [List.mem_singleton.mp hk]; exact KBw.getD_in h1
theorem foldl_in : ∀ (xs : List Int) (p : List Int × List Int), KBa.In p.1 → KBa.In p.2 → KBa.In (xs.foldl drawStep p).2
  | [], p, _, h2 => h2
  | x :: xs, p, h1, h2 => foldl_in xs _ (drawStep_in h1 h2).1 (drawStep_in h1 h2).2
theorem drawTo_in {n : Nat} (hn : n < 20) (xs : List Int) : KBa.In (drawTo n xs).2 := by
  refine foldl_in xs _ ?_ (fun k hk => nomatch hk)
  intro k hk
  obtain ⟨i, hi, rfl⟩ := List.mem_map.mp hk
  have := List.mem_range.mp hi
  omega
theorem drawTo_snoc (n : Nat) (xs : List Int) (x : Int) : drawTo n (xs ++ [x]) = drawStep (drawTo n xs) x := by unfold drawTo; rw [List.foldl_append]; rfl
theorem drawTo_len : ∀ {n : Nat} (xs : List Int), xs.length ≤ n → (drawTo n xs).1.length = n - xs.length
  | n, xs, h => by
    have key : ∀ (xs : List Int) (p : List Int × List Int), xs.length ≤ p.1.length → (xs.foldl drawStep p).1.length = p.1.length - xs.length := by
      intro xs
      induction xs with
      | nil => intro p _; simp
      | cons x xs ih =>
        intro p hp
        rw [List.length_cons] at hp
        have e := drawStep_len (p := p) (x := x) (by omega)
        rw [List.foldl_cons, ih _ (by omega), e, List.length_cons]; omega
    unfold drawTo
    rw [key xs _ (by simpa using h)]
    simp
theorem items_ints {n : Nat} {acc : Array Value} (h : ItemsOf (fun i v => ∃ t, v = Value.int (0 + i * 1) t) acc n) : IntsAre acc.toList ((List.range n).map fun (i : Nat) => (i : Int)) := by
  have key : ∀ (vs : List Value) (k : Nat), (∀ j v, vs[j]? = some v → ∃ t, v = Value.int ((k + j : Nat) : Int) t) → IntsAre vs ((List.range' k vs.length).map fun (i : Nat) => (i : Int)) := by
    intro vs
    induction vs with
    | nil => intro k _; exact .nil
    | cons v vs ih =>
      intro k hv
      obtain ⟨t, rfl⟩ := hv 0 v rfl
      rw [List.length_cons, List.range'_succ, List.map_cons]
      exact .cons _ _ (ih (k + 1) fun j w e => by
        obtain ⟨t', e'⟩ := hv (j + 1) w (by simpa using e)
        exact ⟨t', by rw [e']; congr 1; omega⟩)
  have h2 := key acc.toList 0 fun j v e => by
    obtain ⟨t, e'⟩ := h.2 j v (by simpa using e)
    exact ⟨t, by rw [e']; congr 1; omega⟩
  have e : acc.toList.length = n := by rw [Array.length_toList]; exact h.1
  rw [e] at h2
  rw [List.range_eq_range']
  exact h2

theorem ext_fr {h₀ h h' : Heap} {L : Addr} {m : Str → Option Value} (F : Fr h₀ L h m) (up : ∀ b o, h.get? b = some o → h'.get? b = some o) : Ext h₀ h' := by
  refine ⟨fun b o e => up b o (F.keep b o e), ?_⟩
  obtain ⟨o, _, _, e, _⟩ := F.ns
  exact Nat.le_trans F.above (Nat.le_of_lt (Heap.lt_size (up _ _ e)))
theorem led_mid {own : List (Addr × Obj)} {x y p : Addr × Obj} (hp : p ∈ own ++ x :: [y]) : p ∈ (own ++ [x]) ++ y :: [] := by rw [List.append_assoc]; exact hp
theorem led_one {D1 D2 : Addr} {o : Obj} (h : D2 ≠ D1) : ∀ p ∈ [(D1, o)], p.1 ≠ D2 := fun p hp => by rw [List.mem_singleton.mp hp]; exact h.symm
theorem led_two {own : List (Addr × Obj)} {D2 D1 : Addr} {o2 o1 o2' o1' : Obj} (hap : ∀ p ∈ [(D2, o2), (D1, o1)], ∀ q ∈ own, p.1 ≠ q.1) : ∀ p ∈ [(D2, o2'), (D1, o1')], ∀ q ∈ own, p.1 ≠ q.1 := by
  intro p hp
  rcases List.mem_cons.mp hp with rfl | hp
  · exact hap (D2, o2) (.head _)
  · rw [List.mem_singleton.mp hp]; exact hap (D1, o1) (.tail _ (.head _))
theorem take_all {items : Array Value} {xs : List Int} (h : IntsAre items.toList xs) : xs.take items.size = xs := List.take_of_length_le (by rw [← h.length, Array.length_toList]; exact Nat.le_refl _)
theorem draw_next {its its' : Array Value} {p q : List Int × List Int} {k : Nat} {v : Int} {y : Tok} (hI : IntsAre its.toList p.1) (hI' : IntsAre its'.toList p.2) (hn : q = (p.1.eraseIdx k, p.2 ++ [v])) :
    IntsAre (its.eraseIdxIfInBounds k).toList q.1 ∧ IntsAre (its'.push (.int v y)).toList q.2 := by
  subst hn
  constructor
  · have e : (its.eraseIdxIfInBounds k).toList = its.toList.eraseIdx k := by
      unfold Array.eraseIdxIfInBounds
      split
      · rw [Array.toList_eraseIdx]
      · rw [List.eraseIdx_of_length_le (by rw [Array.length_toList]; omega)]
    rw [e]
    exact ints_erase hI k
  · rw [Array.toList_push]
    exact hI'.append (.cons v y .nil)
theorem draw_facts {ns : List Int} {n i : Nat} {its : Array Value} (hn : n < 5) (hxl : (dxs ns n).length = n) (hin : i < n) (hI : IntsAre its.toList (drawTo n ((dxs ns n).take i)).1) :
    its.size ≤ 100 ∧ 0 < its.size ∧ (its.size : Int) < 2 ^ 63 ∧ ((its.size : Nat) : Int) ≠ 0 ∧ 0 ≤ ((dxs ns n).getD i 0).fmod (its.size : Int) ∧ ((dxs ns n).getD i 0).fmod (its.size : Int) < its.size := by
  have hlt : ((dxs ns n).take i).length = i := by rw [List.length_take, hxl]; omega
  have hll : (drawTo n ((dxs ns n).take i)).1.length = n - i := by rw [drawTo_len _ (by rw [hlt]; omega), hlt]
  have hil : its.size = n - i := by rw [← Array.length_toList, hI.length, hll]
  have hpos : 0 < its.size := by rw [hil]; omega
  have hmod := fmod_in (x := (dxs ns n).getD i 0) hpos
  refine ⟨by omega, hpos, by omega, by omega, hmod⟩
theorem draw_facts' {ns : List Int} {n i : Nat} {its : Array Value} (hn : n < 5) (hxl : (dxs ns n).length = n) (hin : i < n) (hI : IntsAre its.toList (drawTo n ((dxs ns n).take i)).1) :
    (∃ t, its[(((dxs ns n).getD i 0).fmod (its.size : Int)).toNat]? = some (.int ((drawTo n ((dxs ns n).take i)).1.getD (((dxs ns n).getD i 0).fmod (its.size : Int)).toNat 0) t)) ∧
    drawTo n ((dxs ns n).take (i + 1)) = ((drawTo n ((dxs ns n).take i)).1.eraseIdx (((dxs ns n).getD i 0).fmod (its.size : Int)).toNat, (drawTo n ((dxs ns n).take i)).2 ++ [(drawTo n ((dxs ns n).take i)).1.getD (((dxs ns n).getD i 0).fmod (its.size : Int)).toNat 0]) := by
  have hlt : ((dxs ns n).take i).length = i := by rw [List.length_take, hxl]; omega
  have hll : (drawTo n ((dxs ns n).take i)).1.length = n - i := by rw [drawTo_len _ (by rw [hlt]; omega), hlt]
  have hil : its.size = n - i := by rw [← Array.length_toList, hI.length, hll]
  have hpos : 0 < its.size := by rw [hil]; omega
  have hmod := fmod_in (x := (dxs ns n).getD i 0) hpos
  have hxi : i < (dxs ns n).length := by omega
  constructor
  · obtain ⟨t', e⟩ := ints_at hI (k := (((dxs ns n).getD i 0).fmod (its.size : Int)).toNat) (by rw [hll, ← hil]; omega)
    rw [Array.getElem?_toList] at e
    exact ⟨t', e⟩
  · have e1 : (dxs ns n).take (i + 1) = (dxs ns n).take i ++ [(dxs ns n).getD i 0] := take_next (by rw [List.getD_eq_getElem?_getD, List.getElem?_eq_getElem hxi]; rfl)
    rw [e1, drawTo_snoc]
    unfold drawStep
    rw [hll, ← hil]
theorem drawn_len : ∀ (xs : List Int) (p : List Int × List Int), (xs.foldl drawStep p).2.length = p.2.length + xs.length
  | [], p => rfl
  | x :: xs, p => by
    rw [List.foldl_cons, drawn_len xs]
    show (p.2 ++ [_]).length + xs.length = _
    rw [List.length_append, List.length_singleton, List.length_cons]; omega
theorem drawn_small {ns : List Int} {n : Nat} (hn : n < 5) (hxl : (dxs ns n).length = n) : (drawn ns n).length ≤ 100 := by
  unfold drawn drawTo
  rw [drawn_len, hxl]
  simp
  omega
theorem draw_small {ns : List Int} {n i : Nat} {its : Array Value} (hn : n < 5) (hxl : (dxs ns n).length = n) (hin : i < n) (hI : IntsAre its.toList (drawTo n ((dxs ns n).take i)).2) : its.size ≤ 100 := by
  have hlt : ((dxs ns n).take i).length = i := by rw [List.length_take, hxl]; omega
  have := hI.length
  unfold drawTo at this
  rw [drawn_len, hlt, Array.length_toList] at this
  simp at this
  omega

section
variable {prog : Program} {w : World} {A : Around} {E : Value → Shared → Prop} {s : Shared} {mg mb : Str → Option Value} {R : Result → Shared → Prop}
theorem law_drawn_ok {l : Addr} {vs : List Value} {ns : List Int} {n : Nat} {u : Tok} (G : Gd w mg mb s.heap) (hl : s.heap.IsList l vs.toArray) (hi : IntsAre vs ns) (hz : ns.length ≤ 100) (hn : n < 5) (hh : A.handled = none) (hroom : A.depth < recursionLimit)
    (h : ∀ b t h' tk, Ext s.heap h' → KBw.bInts b = drawn ns n → R (.ok (.ret (.bytes b t))) { s with heap := h', toks := tk }) :
    codeAny (model prog w) A (.call (.ref 57) ⟨[.ref l, .int (n : Nat) u], []⟩) R s := by
  refine enter (binds := [(Str.ofString "numbers", .ref l), (Str.ofString "many", .int (n : Nat) u)]) G hroom (by rfl) (by rfl) (BindsTo.of_eq rfl) (locs rfl) (fun h₁ F => ?_) (by decide) rfl rfl rfl
  refine wpAny_execs_cons (Assign_Tuple_swapped (names := [Str.ofString "left", Str.ofString "found"]) (Tuple_ (spliced_more (Call_ (nameX_B F G.X G.T (by rfl) boot_list (by decide) (PyProof.Rows.callWith_type1 (spliced_more (Call_ (nameX_B F G.X G.T (by rfl) boot_range (by decide) (PyProof.Rows.callWith_type1 (spliced_more (nameX_L F rfl (spliced_none (call_range_1 ?_))))))))))))) (by rfl) (by rfl))
  have hsm := small0 n (by omega)
  refine spliced_none (call_list_range hh (Heap.get?_push_size _ rfl) hsm.1 hsm.2 (Nat.le_trans (Nat.le_of_lt hn) (by decide)) fun h₂ tk₂ acc c up₂ hS hacc => ?_)
  have hD1 : (h₁.push { cls := .type "range", data := .fields #[.int 0 (s.toks + 2), .int (n : Nat) u, .int 1 (s.toks + 2 + 1)] }).objs.size = h₁.objs.size + 1 := Heap.size_push ..
  have up₂' : ∀ b o, h₁.get? b = some o → h₂.get? b = some o := fun b o e => up₂ b o (Heap.get?_push_of_some _ e)
  have F₂ := fr_up F up₂'
  generalize hDD : ({ s with heap := h₁.push { cls := .type "range", data := .fields #[.int 0 (s.toks + 2), .int (n : Nat) u, .int 1 (s.toks + 2 + 1)] } } : Shared).heap.objs.size = D1 at hS ⊢
  have hDe : D1 = h₁.objs.size + 1 := hDD.symm.trans hD1
  have N₂ : News s.heap s.heap.objs.size h₂ [(D1, PySem.W.listOf acc c)] := fun p hp => by
    rw [List.mem_singleton.mp hp]
    refine ⟨hS, ?_, fr_new F ?_⟩
    · show D1 ≠ _
      rw [hDe]; exact Nat.ne_of_gt (Nat.lt_succ_of_lt F.ns.lt)
    · show _ ≤ D1
      rw [hDe]; exact Nat.le_succ _
  have hne12 : h₂.objs.size ≠ D1 := Nat.ne_of_gt (news_lt N₂ (.head _))
  refine spliced_more (List_ (spliced_none (newList_N F₂ N₂ fun h₃ F₃ N₃ => spliced_none (newTuple_N F₃ N₃ fun h₄ F₄ N₄ => ?_))))
  refine unpackItems_tuple (items := #[.ref D1, .ref h₂.objs.size]) hh ⟨_, (N₄ _ (.head _)).1, rfl, _, rfl⟩ fun h₅ he₅ => ?_
  have up₅ : ∀ b o, h₄.get? b = some o → h₅.get? b = some o := fun b o e => he₅ b o (Nat.ne_of_lt (Heap.lt_size e)) e
  have F₅ := fr_up F₄ up₅
  have N₅ : News s.heap s.heap.objs.size h₅ [(h₂.objs.size, PySem.W.listOf #[] 0), (D1, PySem.W.listOf acc c)] := fun p hp => news_up N₄ up₅ p (.tail _ hp)
  show wpAny _ _ (do holding [.ref D1] (bindName _ (Str.ofString "found") (.ref h₂.objs.size)); do holding [] (bindName _ (Str.ofString "left") (.ref D1)); pure ()) _ _ _
  refine wpAny_bind (wpAny_holding (wpAny_bindName (storeX_L F₅ N₅ fun h₆ F₆ N₆ => ?_)))
  refine wpAny_bind (wpAny_holding (wpAny_bindName (storeX_L F₆ N₆ fun h₇ F₇ N₇ => wpAny_pure ?_)))
  show wpAny _ _ (execs _ _) _ _ _
  have hl₇ : h₇.IsList l vs.toArray := let ⟨o, e, q⟩ := hl; ⟨o, F₇.keep _ _ e, q⟩
  refine wpAny_execs_cons (for_src (h₀ := s.heap) (Subscript_ (wpAny_BinOp (nameX_L F₇ rfl (List_ (spliced_more (wpAny_Constant_int (spliced_more (wpAny_Constant_int (spliced_more (wpAny_Constant_int (spliced_more (wpAny_Constant_int (spliced_none (newList_N F₇ N₇ fun h₈ F₈ N₈ => ?_)))))))))))))))
  have hl₈ : h₈.IsList l vs.toArray := let ⟨o, e, q⟩ := hl; ⟨o, F₈.keep _ _ e, q⟩
  have hsz : vs.length + 4 ≤ sizeLine := by rw [sizeLine_eq, hi.length]; omega
  refine add_lists (hsz := hsz) F₈ N₈ hl₈ ⟨_, (N₈ _ (.head _)).1, rfl, _, rfl⟩ fun h₉ F₉ N₉ => ?_
  have hsz2 : ∀ a b c d : Value, (vs ++ [a, b, c, d]).toArray.size ≤ sizeLine := fun a b c d => by
    rw [List.size_toArray, List.length_append]; exact hsz
  refine wpAny_Slice (evalPart_none_step (evalPart_some_step (nameX_L F₉ rfl (evalPart_none_step (kba_turn (value' := .Name (Str.ofString "numbers") default) (by intro _; rfl) (slice_list (hsz := hsz2 _ _ _ _) F₉ N₉ ⟨_, (N₉ _ (.head _)).1, rfl, _, rfl⟩ .none (.int _ _) fun h₁₀ F₁₀ N₁₀ => ?_))))))
  have hvals : ∀ a b c d : Tok, IntsAre (slicePick (vs ++ [Value.int 0 a, Value.int 0 b, Value.int 0 c, Value.int 0 d]).toArray none (some ((n : Nat) : Int)) none).toList (dxs ns n) := fun a b c d => by
    have q := slice_ints_uptoW (hi.append (.cons 0 a (.cons 0 b (.cons 0 c (.cons 0 d .nil))))) (y := ((n : Nat) : Int)) (by omega)
    rwa [Int.toNat_natCast] at q
  have hxl : (dxs ns n).length = n := by unfold dxs; rw [List.length_take, List.length_append]; simp; omega
  refine src_list hh ⟨_, (N₁₀ _ (.head _)).1, rfl, _, rfl⟩ fun I h₁₁ hsrc => ?_
  have N₁₀' : News s.heap s.heap.objs.size h₁₀ [(h₂.objs.size, PySem.W.listOf #[] 0), (D1, PySem.W.listOf acc c)] := fun p hp => N₁₀ p (.tail _ (.tail _ (.tail _ hp)))
  refine ⟨I, _, _, _, _, _, fun (i : Nat) m nx => (∃ (its its' : Array Value) (c c' : Nat), nx = [(h₂.objs.size, PySem.W.listOf its' c'), (D1, PySem.W.listOf its c)] ∧ IntsAre its.toList (drawTo n ((dxs ns n).take i)).1 ∧ IntsAre its'.toList (drawTo n ((dxs ns n).take i)).2) ∧
      m (Str.ofString "left") = some (.ref D1) ∧ m (Str.ofString "found") = some (.ref h₂.objs.size), rfl, hsrc _ _, ?_, ?_, F₁₀, N₁₀', ⟨⟨acc, #[], c, 0, rfl, by rw [List.take_zero]; exact items_ints hacc, .nil⟩, rfl, rfl⟩, ?_, ?_⟩
  · intro hm
    exact (N₁₀ _ (.head _)).2.1 (List.mem_singleton.mp hm).symm
  · intro p hp b hb _ e
    rw [List.mem_singleton.mp hb] at e
    have q : p.1 < h₉.objs.size := news_lt N₉ (.tail _ (.tail _ hp))
    rw [e] at q
    exact absurd q (Nat.not_lt.mpr (Nat.le_succ _))
  · rintro i v m₁₂ news₁₂ h₁₂ tk₁₂ own E' hi' hv ⟨⟨its, its', c, c', rfl, hI, hI'⟩, hml, hmf⟩ hap F₁₂ N₁₂
    have hq := ints_look (hvals _ _ _ _) hv
    have hin : i < n := by rw [← hxl]; exact hq.1
    have hxi : i < (dxs ns n).length := hq.1
    have hv' := hq.2
    have hfa := draw_facts hn hxl hin hI
    have hfb := draw_facts' hn hxl hin hI
    have hil' : its'.size ≤ 100 := draw_small hn hxl hin hI'
    have hmod := hfa.2.2.2.2
    have hy := hfb.1
    have hnext := hfb.2
    obtain ⟨t₁, rfl⟩ := hv'
    obtain ⟨t₂, hy⟩ := hy
    refine turn_name F₁₂ N₁₂ fun h₁₃ tk₁₃ F₁₃ N₁₃ => ?_
    have g1 := (N₁₃ (D1, PySem.W.listOf its c) (List.mem_append_right _ (.tail _ (.head _)))).1
    have g2 := (N₁₃ (h₂.objs.size, PySem.W.listOf its' c') (List.mem_append_right _ (.head _))).1
    have hD12 : h₂.objs.size ≠ D1 := hne12
    have ha1 : ∀ p ∈ own ++ [(h₂.objs.size, PySem.W.listOf its' c')], p.1 ≠ D1 := led_off hap hD12
    have ha2 : ∀ p ∈ own, p.1 ≠ h₂.objs.size := fun p hp e => hap _ (.head _) p hp e.symm
    have N₁₃' : News s.heap s.heap.objs.size h₁₃ ((own ++ [(h₂.objs.size, PySem.W.listOf its' c')]) ++ (D1, PySem.W.listOf its c) :: []) := fun p hp => N₁₃ p (by simpa using hp)
    have hfit := hfa.2.2.1
    have hne0 := hfa.2.2.2.1
    have hz1 := hfa.1
    refine wpAny_execs_cons (wpAny_Expr_any (wpAny_Call_method (T := "list") (id := "list.append") rfl rfl rfl PySem.F.plainAttrs_list PySem.F.slot_list_append PySem.F.type_list_append (nameX_L (v := .ref h₂.objs.size) F₁₃ (by exact hmf) ⟨⟨_, g2, rfl⟩, (fun a e => by cases e; exact ⟨_, g2, rfl⟩), callWith_method1 (spliced_more ?_)⟩)))
    refine wpAny_Call_method (T := "list") (id := "list.pop") rfl rfl rfl PySem.F.plainAttrs_list PySem.F.slot_list_pop PySem.F.type_list_pop (nameX_L (v := .ref D1) F₁₃ (by exact hml) ⟨⟨_, g1, rfl⟩, (fun a e => by cases e; exact ⟨_, g1, rfl⟩), callWith_method1 (spliced_more ?_)⟩)
    refine wpAny_BinOp (nameX_L F₁₃ rfl (Call_ (nameX_B F₁₃ G.X G.T (by rfl) boot_len (by decide) (PyProof.Rows.callWith_builtin1 (spliced_more (nameX_L F₁₃ (by exact hml) (spliced_none (call_len_list ⟨_, g1, rfl, _, rfl⟩ hfit (mod_int hne0 (spliced_none (pop_led F₁₃ N₁₃' ha1 (fun p hp => nomatch hp) hmod.1 hmod.2 hz1 hy fun h₁₄ F₁₄ N₁₄ => ?_)))))))))))
    refine spliced_none (app_led (own := own) (r := [(D1, PySem.W.listOf (its.eraseIdxIfInBounds (((dxs ns n).getD i 0).fmod (its.size : Int)).toNat) (c + 1))]) F₁₄ (fun p hp => N₁₄ p (led_mid hp)) ha2 (led_one hD12) hil' fun h₁₅ F₁₅ N₁₅ => ?_)
    show wpAny _ _ (execs _ _) _ _ _
    have hnx := draw_next (y := t₂) hI hI' hnext
    refine wpAny_execs_nil (TurnEnd.next (nx := [(h₂.objs.size, PySem.W.listOf (its'.push (.int ((drawTo n ((dxs ns n).take i)).1.getD (((dxs ns n).getD i 0).fmod (its.size : Int)).toNat 0) t₂)) (c' + 1)), (D1, PySem.W.listOf (its.eraseIdxIfInBounds (((dxs ns n).getD i 0).fmod (its.size : Int)).toNat) (c + 1))]) F₁₅ N₁₅ (led_two hap) ⟨⟨_, _, _, _, rfl, hnx.1, hnx.2⟩, by exact hml, by exact hmf⟩)
  · rintro h' tk m' news' F' N' ⟨⟨its, its', c, c', rfl, hI, hI'⟩, hml, hmf⟩
    have hfin : IntsAre its'.toList (drawn ns n) := by
      have q := hI'
      rw [take_all (hvals _ _ _ _)] at q
      exact q
    have hdl : (drawn ns n).length ≤ 100 := drawn_small hn hxl
    have hzz : its'.toList.length ≤ sizeLine := by rw [hfin.length, sizeLine_eq]; exact Nat.le_trans hdl (by decide)
    have hin' : KBa.In (drawn ns n) := drawTo_in (Nat.lt_of_lt_of_le hn (by decide)) _
    show wpAny _ _ (execs _ _) _ _ _
    refine wpAny_execs_cons (wpAny_Return_some (Call_ (nameX_B F' G.X G.T (by rfl) boot_bytes (by decide) (PyProof.Rows.callWith_type1 (spliced_more (nameX_L F' (by exact hmf) (spliced_none (call_bytes_ints (kso_isList N' (.head _) rfl) hfin hin' hzz hh fun h'' t'' k'' up'' => ?_))))))))
    exact h _ t'' h'' k'' (ext_fr F' up'') (KBa.ints_make hin')
end
end Mine
end

section
open PySem PySem.W PyProof.Rows PySem.Calls
set_option linter.unusedVariables false
set_option linter.unusedSimpArgs false
set_option maxRecDepth 100000
set_option maxHeartbeats 4000000
namespace Mine
theorem du_entry : entryFor table "dict.update.loop" = some Builtin.«dict.update.loop» := by first | exact entryFor_of_fast (by kernel_rfl) | exact entryFor_of_tree (by kernel_rfl)
theorem du_plain : plainId "dict.update.loop" = true := by decide +kernel
theorem du_no_keys : typeLookup (.type "list") "keys" = pure none := by rw [typeLookup_type, builtinLookup_eq_fast]; kernel_rfl
section
variable {prog : Program} {w : World} {A : Around} {E : Value → Shared → Prop} {s : Shared}
theorem du_getAttr {l : Addr} {items : Array Value} {Q : Option Value → Shared → Prop} {n : Nat} (hh : A.handled = none) (hl : s.heap.get? l = some { cls := .type "list", data := .seq items n }) (h : ∀ h' tk, (∀ b o, s.heap.get? b = some o → h'.get? b = some o) → Q none { s with heap := h', toks := tk }) : wpAny (model prog w) A (getAttr? (.ref l) (Str.ofString "keys")) Q E s := by
  obtain ⟨hp, g, d, tk, os⟩ := s
  have hT : ∀ tk', (⟨hp, g, d, tk', os⟩ : Shared).TypeIs (.ref l) "list" := fun _ => ⟨_, hl, rfl⟩
  have f1 := sub_AttributeError
  have f3 := PySem.F.slot_list_getattribute.lookup
  have f4 := PySem.F.slot_list_getattribute.bind (.ref l)
  have f5 := am_list_getattr_none
  unfold getAttr? getAttrBy? getAttrBy
  refine wpAny_bind ?_
  refine wpAny_mkText ?_
  refine wpAny_bind (wpAny_attempt ?_)
  have hname : (["__module__", "__name__", "__qualname__", "__doc__", "__annotations__"] : List Str).contains (Str.ofString "keys") = false := by decide +kernel
  repeat (any_goals (first | assumption | exact hT _ | ((with_reducible show wpAny _ _ (call (Value.builtin "list.__getattribute__") _ _) _ _ _); refine call_meets PySem.F.slot_list_getattribute (hT _) am_entry_list_getattribute (PySem.F.args_list_getattribute_2 _ _) (meets_getattribute_miss_list l items n #[] (Str.ofString "keys") _ du_no_keys hname) ⟨hl, hh, fun h' tk' e hx' => ?_⟩) | wp_step))
  obtain ⟨t', u', he⟩ := hx'.there
  show wpAny _ _ (getattributeRaised _ _ _ _ _ _ _) _ _ _
  unfold getattributeRaised
  repeat (any_goals (first | assumption | wp_step))
  exact h _ _ hx'.of.1
/-- the i-th item is a pair of a key tuple and a value -/
def PairsAt (prog : Program) (w : World) (h : Heap) (items : Array Value) (ps : List (Int × Addr × Value)) : Prop :=
  items.size = ps.length ∧ ∀ (i : Nat) (v : Value), items[i]? = some v → ∃ (T : Addr) (p : Int × Addr × Value), v = Value.ref T ∧ ps[i]? = some p ∧ h.IsTuple T #[.ref p.2.1, p.2.2] ∧ (tk3 prog w).is h (key3 p.1) p.2.1
/-- what the pairs make of the table -/
def putAll (zs : List (List (Str ⊕ Int) × Addr × Value)) (ps : List (Int × Addr × Value)) : List (List (Str ⊕ Int) × Addr × Value) := ps.foldl (fun z p => storedH z (key3 p.1) p.2.1 p.2.2) zs
theorem storedH_len (zs : List (List (Str ⊕ Int) × Addr × Value)) (k : List (Str ⊕ Int)) (a : Addr) (v : Value) : (storedH zs k a v).length ≤ zs.length + 1 := by
  unfold storedH
  split
  · rw [List.length_map]; omega
  · rw [List.length_append, List.length_singleton]; exact Nat.le_refl _

section
variable {prog : Program} {w : World} {A : Around} {R : Result → Shared → Prop}
theorem du_loop {hb : Heap} {l I D : Addr} {items : Array Value} {ps : List (Int × Addr × Value)} (hh : A.handled = none) (hu : A.units + 1 < cLine) (hP : PairsAt prog w hb items ps) (hl : hb.IsList l items) (hI0 : hb.get? I = none) (hD0 : hb.get? D = none) (hID : I ≠ D) (hsz : ps.length ≤ 1000) :
    ∀ (k i : Nat) (s : Shared) (zs : List (List (Str ⊕ Int) × Addr × Value)) (t : Tok), ps.length - i = k → i ≤ ps.length → (∀ b o, hb.get? b = some o → s.heap.get? b = some o) → s.heap.IsListIter I l i → (∃ o, s.heap.get? D = some o ∧ DObj prog w o zs) → KeysAt prog w hb zs → zs.length ≤ i →
      (∀ h' tk, (∀ b o, hb.get? b = some o → h'.get? b = some o) → h'.DictOfH (tk3 prog w) D (putAll zs (ps.drop i)) → R (.ok (.ret .none)) { s with heap := h', toks := tk }) →
      codeAny (model prog w) A (.builtin "dict.update.loop" ⟨[.ref D, .ref I, .int (i : Nat) t, .none], []⟩) R s := by
  have hne : ∀ b o, hb.get? b = some o → b ≠ I ∧ b ≠ D := fun b o e => ⟨(fun q => by rw [q, hI0] at e; cases e), (fun q => by rw [q, hD0] at e; cases e)⟩
  intro k
  induction k with
  | zero =>
    rintro i s zs t hk hi up hit ⟨o, hD, Do⟩ hK hz hR
    have hin : i = ps.length := by omega
    refine codeAny_builtin du_entry ?_
    rw [Around.under_plainId du_plain _]
    unfold Builtin.«dict.update.loop»
    have hl' : s.heap.IsList l items := let ⟨o, e, r⟩ := hl; ⟨o, up _ _ e, r⟩
    refine wpAny_bind (wpAny_pyNext_list_end (A := A.in1) hh hit hl' (Array.getElem?_eq_none (by rw [hP.1]; omega)) fun h' he => ?_)
    have up' : ∀ b o, hb.get? b = some o → h'.get? b = some o := fun b o e => he b o (hne b o e).1 (up b o e)
    have hD' := Do.at (he D o (Ne.symm hID) hD) (hK.up up')
    refine wpAny_bind (wpAny_pure (wpAny_pure ?_))
    refine hR h' s.toks up' ?_
    rw [hin, List.drop_length]
    exact hD'
  | succ k ih =>
    rintro i s zs t hk hi up hit ⟨o, hD, Do⟩ hK hz hR
    have hlt : i < ps.length := by omega
    refine codeAny_builtin du_entry ?_
    rw [Around.under_plainId du_plain _]
    unfold Builtin.«dict.update.loop»
    have hl' : s.heap.IsList l items := let ⟨o, e, r⟩ := hl; ⟨o, up _ _ e, r⟩
    obtain ⟨v, hv⟩ : ∃ v, items[i]? = some v := ⟨_, Array.getElem?_eq_getElem (show i < items.size by rw [hP.1]; exact hlt)⟩
    have hPi := hP.2 i v hv
    obtain ⟨T, p, rfl, hp, hT, hkey⟩ := hPi
    refine wpAny_bind (wpAny_pyNext_list_item hit hl' hv fun h₁ hit₁ hs₁ => ?_)
    have up₁ : ∀ b o, hb.get? b = some o → h₁.get? b = some o := fun b o e => hs₁.extBut b o (hne b o e).1 (up b o e)
    have hD₁ := Do.at (hs₁.extBut D o (Ne.symm hID) hD) (hK.up up₁)
    refine wpAny_bind (wpAny_holding ?_)
    have hTh : h₁.IsTuple T #[.ref p.2.1, p.2.2] := let ⟨o, e, r⟩ := hT; ⟨o, up₁ _ _ e, r⟩
    have hkh : (tk3 prog w).is h₁ (key3 p.1) p.2.1 := let ⟨o, it, n, e, r⟩ := hkey; ⟨o, it, n, up₁ _ _ e, r⟩
    obtain ⟨oT, eT, cT, nT, dT⟩ := id hTh
    refine wpAny_bind ?_
    refine wpAny_tryCatch ?_
    unfold Builtin.Dict.pairItems
    refine wpAny_bind (wpAny_typeOf (T := "tuple") ⟨oT, eT, cT⟩ ?_)
    refine bm_if_true (by decide) ?_
    refine wpAny_bind (wpAny_seqItems eT dT ?_)
    refine wpAny_pure ?_
    show wpAny _ _ (holding [.ref p.2.1, p.2.2] (dictSet D (.ref p.2.1) p.2.2)) _ _ _
    refine wpAny_holding ?_
    refine wpAny_dictSet_heap (A := A.in1) (by show A.units + 1 < cLine; exact hu) hkh hD₁ (fun h₂ hD₂ hs₂ => ?_) (by rw [sizeLine_eq]; omega)
    have up₂ : ∀ b o, hb.get? b = some o → h₂.get? b = some o := fun b o e => hs₂.extBut b o (hne b o e).2 (up₁ b o e)
    refine wpAny_pure ⟨plainId_quiet du_plain _, ?_⟩
    have hit₂ : h₂.IsListIter I l (i + 1) := hit₁.extBut hs₂.extBut hID
    have hdrop : ps.drop i = p :: ps.drop (i + 1) := by
      obtain ⟨hlp, e⟩ := List.getElem?_eq_some_iff.mp hp
      rw [← e]; exact List.drop_eq_getElem_cons hlp
    have hK₂ : KeysAt prog w hb (storedH zs (key3 p.1) p.2.1 p.2.2) := fun z hz => by
      rcases mem_storedH hz with ⟨y, hy, e1, e2⟩ | ⟨e1, e2⟩
      · rw [e1, e2]; exact hK y hy
      · rw [e1, e2]; exact hkey
    refine ih (i + 1) { s with heap := h₂, toks := _ } (storedH zs (key3 p.1) p.2.1 p.2.2) 0 (by omega) hlt up₂ hit₂ (dobj_of hD₂) hK₂ (Nat.le_trans (storedH_len ..) (Nat.succ_le_succ hz)) fun h' tk up' hD' => ?_
    refine hR h' tk up' ?_
    rw [hdrop]
    exact hD'
end
end
section
variable {prog : Program} {w : World} {A : Around} {E : Value → Shared → Prop} {s : Shared}
theorem call_dict_pairs {l : Addr} {items : Array Value} {n : Nat} {ps : List (Int × Addr × Value)} {Q : Value → Shared → Prop} (hh : A.handled = none) (hu : A.units + 3 < cLine) (ho : s.heap.get? l = some { cls := .type "list", data := .seq items n }) (hP : PairsAt prog w s.heap items ps) (hsz : ps.length ≤ 1000)
    (h : ∀ h' tk, (∀ b o, s.heap.get? b = some o → h'.get? b = some o) → h'.DictOfH (tk3 prog w) s.heap.objs.size (putAll [] ps) → Q (.ref s.heap.objs.size) { s with heap := h', toks := tk }) :
    wpAny (model prog w) A (call (.type "dict") [.ref l]) Q E s := by
  refine callType_codes (Q₁ := fun obj s₁ => obj = .ref s.heap.objs.size ∧ s₁ = { s with heap := s.heap.push { cls := .type "dict", data := .dict #[] } }) PySem.F.kt_called_dict (PySem.F.kt_typeCall_dict_1 _) PySem.F.entry_dict_init (kt_code_dict_new _ ⟨rfl, rfl⟩) ?_
  rintro obj s₁ ⟨rfl, rfl⟩
  have hDn : (s.heap.push { cls := .type "dict", data := .dict #[] }).get? s.heap.objs.size = some { cls := .type "dict", data := .dict #[] } := Heap.get?_push_size _ rfl
  have hTd : ({ s with heap := s.heap.push { cls := .type "dict", data := .dict #[] } } : Shared).TypeIs (.ref s.heap.objs.size) "dict" := ⟨_, hDn, rfl⟩
  have ho₁ : (s.heap.push { cls := .type "dict", data := .dict #[] }).get? l = some { cls := .type "list", data := .seq items n } := Heap.get?_push_of_some _ ho
  refine ⟨hTd, PySem.F.args_dict_init_2 _ _, ?_⟩
  unfold Builtin.«dict.__init__»
  refine wpAny_bind ?_
  unfold Builtin.Dict.selfAndRest
  refine wpAny_bind (wpAny_notOrdered_dict hTd ?_)
  show wpAny _ _ (pure (s.heap.objs.size, [Value.ref l])) _ _ _
  refine wpAny_pure ?_
  show wpAny _ _ (Builtin.Dict.updateFrom "dict.__init__" s.heap.objs.size (.ref l) [] .none) _ _ _
  unfold Builtin.Dict.updateFrom
  refine wpAny_bind (wpAny_typeOf (T := "list") ⟨_, ho₁, rfl⟩ ?_)
  refine wpAny_ite (KBc.ite_yes (by decide) ?_)
  refine wpAny_bind (du_getAttr hh ho₁ fun h₂ tk₂ up₂ => ?_)
  refine bm_if_true rfl ?_
  refine wpAny_bind (wpAny_rule ?_)
  refine wpAny_bind (wpAny_pyIter_list ⟨_, up₂ _ _ ho₁, rfl, _, rfl⟩ ?_)
  have hu2 : A.in1.units + 1 < cLine := by show A.units + 1 + 1 < cLine; omega
  have kp : ∀ b o, s.heap.get? b = some o → h₂.get? b = some o := fun b o e => up₂ b o (Heap.get?_push_of_some _ e)
  have hI0 : s.heap.get? h₂.objs.size = none := by
    cases q : s.heap.get? h₂.objs.size with
    | none => rfl
    | some o => exact absurd (Heap.lt_size (kp _ _ q)) (Nat.lt_irrefl _)
  have hDl : s.heap.objs.size < h₂.objs.size := Heap.lt_size (up₂ _ _ hDn)
  have hdo : DObj prog w { cls := .type "dict", data := .dict #[] } [] := ⟨⟨rfl, rfl, rfl⟩, #[], 0, rfl, rfl, List.nodup_nil⟩
  have key := du_loop (prog := prog) (w := w) (A := A.in1) (R := wants (fun r s₂ => r = .none ∧ Q (.ref s.heap.objs.size) s₂) E) (hb := s.heap) (l := l) (I := h₂.objs.size) (D := s.heap.objs.size) hh hu2 hP ⟨_, ho, rfl, _, rfl⟩ hI0 (size_none _) (Nat.ne_of_gt hDl) hsz
    ps.length 0 { s with heap := h₂.push { cls := .type "list_iterator", data := .fields #[.ref l, .int 0 0] }, toks := tk₂ } [] 0 rfl (Nat.zero_le _) (fun b o e => Heap.get?_push_of_some _ (kp b o e)) ⟨_, Heap.get?_push_size _ rfl, rfl, rfl⟩
    ⟨_, Heap.get?_push_of_some _ (up₂ _ _ hDn), hdo⟩ (fun z hz => nomatch hz) (Nat.le_refl _) fun h' tk up' hD' => ⟨rfl, h h' tk up' hD'⟩
  exact wpAny_pure ⟨plainId_quiet du_plain _, key⟩
end
end Mine
end

section
open PySem PySem.W PyProof.Rows PySem.Calls
set_option linter.unusedVariables false
set_option linter.unusedSimpArgs false
set_option maxRecDepth 100000
set_option maxHeartbeats 4000000
namespace Mine
def upto (n : Nat) : List Int := (List.range n).map fun (i : Nat) => (i : Int)
theorem upto_succ (n : Nat) : upto (n + 1) = upto n ++ [(n : Int)] := by unfold upto; rw [List.range_succ, List.map_append]; rfl
theorem upto_len (n : Nat) : (upto n).length = n := by simp [upto]
theorem byteArr_snoc (ks : List Int) (n : Int) : byteArr (ks ++ [n]) = (byteArr ks).push n.toNat.toUInt8 := by unfold byteArr; rw [List.map_append]; simp
theorem br_no_bytes : typeLookup (.type "range") "__bytes__" = pure none := by rw [typeLookup_type, builtinLookup_eq_fast]; kernel_rfl
theorem br_no_index : typeLookup (.type "range") "__index__" = pure none := by rw [typeLookup_type, builtinLookup_eq_fast]; kernel_rfl
theorem br_no_buffer : typeLookup (.type "range") "__buffer__" = pure none := by rw [typeLookup_type, builtinLookup_eq_fast]; kernel_rfl
theorem br_split : splitId "range.__len__" = some ("range", "__len__") := by decide +kernel
theorem br_sub : isSubtype (.type "range") (.type "range") = pure true := by rw [isSubtype_type]; kernel_rfl
section
variable {prog : Program} {w : World} {A : Around} {E : Value → Shared → Prop} {s : Shared}
theorem small0' : ∀ n : Nat, n ≤ 100 → Builtin.Range.small 0 n 1 = true ∧ Builtin.Range.rangeSize 0 n 1 = (n : Int) := by decide +kernel
theorem br_loop {R : Result → Shared → Prop} {I S : Addr} {n : Nat} (hh : A.handled = none) (hn : n ≤ 100) (hIS : I ≠ S) :
    ∀ (k i : Nat) (s : Shared), n - i = k → i ≤ n → IsRangeIter s.heap I (i : Nat) ((n : Int) - (i : Nat)) 1 → s.heap.get? S = some { cls := .type "bytearray", data := .bytearray (byteArr (upto i)) } →
      (∀ h' t k', (∀ b o, b ≠ I → b ≠ S → s.heap.get? b = some o → h'.get? b = some o) → R (.ok (.ret (.bytes (byteArr (upto n)) t))) { s with heap := h', toks := k' }) →
      codeAny (model prog w) A (.builtin "bytes.__new__.loop" ⟨[.type "bytes", .ref I, .ref S], []⟩) R s := by
  intro k
  induction k with
  | zero =>
    intro i s hk hle hit hS hR
    have hin : i = n := by omega
    subst hin
    refine codeAny_builtin PySem.F.bm_entry_loop ?_
    rw [Around.under_plainId PySem.F.bm_plain_loop _]
    show wpAny _ A.in1 (pyNext (.ref I) >>= _) _ _ s
    refine wpAny_bind (wpAny_pyNext_range_end (A := A.in1) hh hit (by omega) fun h' he => ?_)
    have hS' := he S _ (Ne.symm hIS) hS
    refine wpAny_bind ?_
    unfold Builtin.Bytes.payload Builtin.Bytes.payload?
    refine wpAny_bind (wpAny_bind (wpAny_load hS' ?_))
    refine wpAny_pure (wpAny_pure ?_)
    refine wpAny_bind (wpAny_mkBytes ?_ (by rw [byteArr_size, upto_len, sizeLine_eq]; omega))
    show wpAny _ _ (if (Value.type "bytes" == Value.type "bytes") = true then _ else _) _ _ _
    refine bm_if_true (by decide) ?_
    first
      | exact wpAny_pure (hR h' _ _ fun b o hb _ e => he b o hb e)
      | exact wpAny_bind (wpAny_pure (wpAny_pure (hR h' _ _ fun b o hb _ e => he b o hb e)))
  | succ k ih =>
    intro i s hk hle hit hS hR
    have hlt : i < n := by omega
    refine codeAny_builtin PySem.F.bm_entry_loop ?_
    rw [Around.under_plainId PySem.F.bm_plain_loop _]
    show wpAny _ A.in1 (pyNext (.ref I) >>= _) _ _ s
    refine wpAny_bind (wpAny_pyNext_range_item hit (by omega) fun h' hit' hs => ?_)
    have hS' := (hs.2 S (Ne.symm hIS)).trans hS
    refine wpAny_bind (wpAny_holding (wpAny_of_eq (rfl : asIndex (.int ((i : Nat) : Int) s.toks) = pure ((i : Nat) : Int)) ?_))
    refine wpAny_bind (wpAny_letGo ?_)
    refine bm_if_false (by simp only [Bool.or_eq_false_iff, decide_eq_false_iff_not]; omega) ?_
    refine wpAny_bind ?_
    show wpAny _ _ (updateBytearray S (·.push ((i : Nat) : Int).toNat.toUInt8)) _ _ _
    unfold updateBytearray
    refine wpAny_bind (wpAny_load hS' ?_)
    show wpAny _ _ (update S (Obj.mapBytearray (·.push ((i : Nat) : Int).toNat.toUInt8)) >>= fun _ => lookBehind S) _ _ _
    refine wpAny_bind (wpAny_update hS' ?_)
    have hS₂ : (h'.update S (Obj.mapBytearray (·.push ((i : Nat) : Int).toNat.toUInt8))).get? S = some { cls := .type "bytearray", data := .bytearray (byteArr (upto (i + 1))) } := by
      rw [upto_succ, byteArr_snoc]
      exact Heap.get?_update_self (Obj.mapBytearray (·.push ((i : Nat) : Int).toNat.toUInt8)) hS' rfl
    refine wpAny_lookBehind hS₂ ?_ ?_
    · show (if (byteArr (upto (i + 1))).size > sizeLine then some "bytearray:memory" else none) = none
      rw [if_neg]
      rw [byteArr_size, upto_len, sizeLine_eq]
      omega
    · have hit₂ : IsRangeIter (h'.update S (Obj.mapBytearray (·.push ((i : Nat) : Int).toNat.toUInt8))) I ((i + 1 : Nat) : Int) ((n : Int) - ((i + 1 : Nat) : Int)) 1 := by
        have e1 : ((i + 1 : Nat) : Int) = (i : Int) + 1 := by omega
        have e2 : (n : Int) - ((i + 1 : Nat) : Int) = (n : Int) - (i : Int) - 1 := by omega
        rw [e2, e1]
        exact (Heap.get?_update_other _ _ hIS.symm).trans hit'
      refine wpAny_pure ⟨plainId_quiet PySem.F.bm_plain_loop _, ih (i + 1) { s with heap := h'.update S (Obj.mapBytearray (·.push ((i : Nat) : Int).toNat.toUInt8)), toks := s.toks + 1 } (by omega) hlt hit₂ hS₂ fun h3 t' k' hk3 => ?_⟩
      exact hR h3 t' k' fun b o hbI hbS e => hk3 b o hbI hbS ((Heap.get?_update_other _ _ (Ne.symm hbS)).trans (hs.extBut b o hbI e))
theorem br_hint {r : Addr} {n : Nat} {t u v : Tok} {Q : Unit → Shared → Prop} (hn : n ≤ 100) (hr : IsRange s.heap r 0 (n : Nat) 1 t u v) (h : ∀ tk, Q () { s with toks := tk }) : wpAny (model prog w) A (Builtin.Bytes.lengthHint "bytes.__new__" (.ref r)) Q E s := by
  have hT : s.TypeIs (.ref r) "range" := ⟨_, hr, rfl⟩
  unfold Builtin.Bytes.lengthHint
  refine wpAny_bind (wpAny_specialOf hT PySem.F.slot_range_len.lookup ?_)
  dsimp only
  rw [br_split]
  dsimp only
  refine wpAny_bind (wpAny_isInstance hT br_sub ?_)
  refine bm_if_false rfl ?_
  refine bm_if_false (by decide +kernel) ?_
  refine bm_if_true rfl ?_
  refine wpAny_bind (wpAny_rule ?_)
  have hsm := small0' n hn
  refine wpAny_bind (wpAny_attempt (call_len_range hr hsm.2 (by omega) ?_))
  refine wpAny_bind ?_
  refine wpAny_of_eq (a := some ((n : Nat) : Int)) rfl ?_
  refine bm_if_false (show decide (((n : Nat) : Int).toNat > sizeLine) = false by rw [sizeLine_eq]; exact decide_eq_false (by omega)) ?_
  exact wpAny_pure (h _)
theorem br_new {r : Addr} {n : Nat} {t u v : Tok} {Q : Value → Shared → Prop} (hh : A.handled = none) (hn : n ≤ 100) (hr : IsRange s.heap r 0 (n : Nat) 1 t u v)
    (hQ : ∀ h' t k, (∀ b o, s.heap.get? b = some o → h'.get? b = some o) → Q (.bytes (byteArr (upto n)) t) { s with heap := h', toks := k }) :
    codeAny (model prog w) A (.call (.builtin "bytes.__new__") ⟨[.type "bytes", .ref r], []⟩) (wants Q E) s := by
  refine codeAny_of_tree ?_
  show wpAny _ A.in1 (do checkBuiltinCall "bytes.__new__" ⟨[.type "bytes", .ref r], []⟩; again (.builtin "bytes.__new__" ⟨[.type "bytes", .ref r], []⟩)) _ _ s
  refine wpAny_bind (wpAny_of_eq (PySem.F.bm_newCall _) (wpAny_pure ⟨plainId_quiet PySem.F.bm_plain _, codeAny_builtin PySem.F.bm_entry ?_⟩))
  rw [Around.under_plainId PySem.F.bm_plain _]
  have hT : s.TypeIs (.ref r) "range" := ⟨_, hr, rfl⟩
  have hsm := small0' n hn
  unfold Builtin.«bytes.__new__»
  refine wpAny_bind (wpAny_of_eq (a := true) rfl ?_)
  refine bm_if_false rfl ?_
  refine wpAny_bind (wpAny_of_eq PySem.F.bm_sub ?_)
  refine bm_if_false rfl ?_
  refine wpAny_bind (wpAny_of_eq (PySem.F.bm_bind _) ?_)
  refine wpAny_bind (wpAny_of_eq (a := ()) rfl ?_)
  refine wpAny_bind (wpAny_of_eq (a := ()) rfl ?_)
  refine bm_if_false rfl ?_
  refine wpAny_bind (wpAny_specialOf hT br_no_bytes ?_)
  refine wpAny_bind (wpAny_bind ?_)
  show wpAny _ _ (load r >>= _) _ _ _
  refine wpAny_bind (wpAny_load hr ?_)
  refine wpAny_pure (wpAny_pure ?_)
  refine bm_if_false rfl ?_
  refine wpAny_bind (wpAny_specialOf hT br_no_index ?_)
  refine bm_if_true rfl ?_
  first
    | show wpAny _ _ (Builtin.Bytes.buffer? "bytes.__new__" (.ref r) true >>= _) _ _ _
    | (refine wpAny_bind ?_; show wpAny _ _ (Builtin.Bytes.buffer? "bytes.__new__" (.ref r) true >>= _) _ _ _)
  refine wpAny_bind ?_
  unfold Builtin.Bytes.buffer?
  refine wpAny_bind (wpAny_specialOf hT br_no_buffer ?_)
  refine wpAny_bind (wpAny_specialOf hT br_no_buffer ?_)
  refine wpAny_pure ?_
  refine wpAny_bind (wpAny_tryCatch (wpAny_pyIter_range hr hsm.1 ?_))
  have hr₁ : IsRange (s.heap.push { cls := .type "range_iterator", data := .fields #[rawInt 0, rawInt (Builtin.Range.rangeSize 0 (n : Nat) 1), rawInt 1] }) r 0 (n : Nat) 1 t u v := Heap.get?_push_of_some _ hr
  refine wpAny_bind (wpAny_holding (br_hint hn hr₁ fun tk => ?_))
  refine wpAny_bind ?_
  unfold Builtin.Bytes.newBytearray
  refine wpAny_newObj_type ?_ (Nat.zero_le _)
  have hsz : (s.heap.push { cls := .type "range_iterator", data := .fields #[rawInt 0, rawInt (Builtin.Range.rangeSize 0 (n : Nat) 1), rawInt 1] }).objs.size = s.heap.objs.size + 1 := Heap.size_push _ _
  have hIt : IsRangeIter ((s.heap.push { cls := .type "range_iterator", data := .fields #[rawInt 0, rawInt (Builtin.Range.rangeSize 0 (n : Nat) 1), rawInt 1] }).push { cls := .type "bytearray", data := .bytearray #[] }) s.heap.objs.size ((0 : Nat) : Int) ((n : Int) - ((0 : Nat) : Int)) 1 := by
    refine Heap.get?_push_of_some _ ?_
    rw [hsm.2]
    have e : (n : Int) - ((0 : Nat) : Int) = n := by omega
    rw [e]
    exact Heap.get?_push_size _ rfl
  have main := br_loop (prog := prog) (w := w) (A := A) (R := wants Q E) (I := s.heap.objs.size) (S := (s.heap.push { cls := .type "range_iterator", data := .fields #[rawInt 0, rawInt (Builtin.Range.rangeSize 0 (n : Nat) 1), rawInt 1] }).objs.size) hh hn (by rw [hsz]; exact Nat.ne_of_lt (Nat.lt_succ_self _))
    n 0 { s with heap := (s.heap.push { cls := .type "range_iterator", data := .fields #[rawInt 0, rawInt (Builtin.Range.rangeSize 0 (n : Nat) 1), rawInt 1] }).push { cls := .type "bytearray", data := .bytearray #[] }, toks := tk } rfl (Nat.zero_le _) hIt (Heap.get?_push_size _ rfl)
    fun h' t' k hk => hQ h' t' k fun b o e => hk b o (Nat.ne_of_lt (Heap.lt_size e)) (by rw [hsz]; exact Nat.ne_of_lt (Nat.lt_succ_of_lt (Heap.lt_size e))) (Heap.get?_push_of_some _ (Heap.get?_push_of_some _ e))
  first
    | exact wpAny_pure ⟨plainId_quiet PySem.F.bm_plain_loop _, main⟩
    | exact wpAny_pure (wpAny_pure ⟨plainId_quiet PySem.F.bm_plain_loop _, main⟩)
theorem call_bytes_range {r : Addr} {n : Nat} {t u v : Tok} {Q : Value → Shared → Prop} (hh : A.handled = none) (hn : n ≤ 100) (hr : IsRange s.heap r 0 (n : Nat) 1 t u v)
    (hQ : ∀ h' t k, (∀ b o, s.heap.get? b = some o → h'.get? b = some o) → Q (.bytes (byteArr (upto n)) t) { s with heap := h', toks := k }) : wpAny (model prog w) A (call (.type "bytes") [.ref r]) Q E s := by
  refine callType_codes (Q₁ := fun obj s₁ => s₁.TypeIs obj "bytes" ∧ Q obj s₁) PySem.F.bm_called (PySem.F.bm_typeCall _) PySem.F.entry_object_init
    (br_new hh hn hr fun h' t k hk => ⟨PySem.W.typeIs_bytes _ _ _, hQ h' t k hk⟩) fun obj s₁ h₁ => ?_
  exact ⟨h₁.1, PySem.F.args_object_init_2 obj _, object_init_meets PySem.F.bm_called.init.lookup PySem.F.bm_called.made (by decide) prog w A.in1 _ s₁ ⟨h₁.1, rfl, h₁.2⟩⟩
end
end Mine
end

section
open PySem PySem.W PyProof.Rows PySem.Calls
set_option linter.unusedVariables false
set_option linter.unusedSimpArgs false
set_option maxRecDepth 100000
set_option maxHeartbeats 4000000
namespace Mine
theorem octs_key : ∀ (vs : List Value) (bs : List UInt8), vs.length = bs.length → (∀ (j : Nat) (v : Value), vs[j]? = some v → ∃ (c : UInt8) (u : Tok), bs[j]? = some c ∧ v = Value.int (c.toNat : Int) u) → IntsAre vs (bs.map fun c => (c.toNat : Int))
  | [], [], _, _ => .nil
  | [], _ :: _, h, _ => nomatch h
  | _ :: _, [], h, _ => nomatch h
  | v :: vs, c :: bs, h, hv => by
    obtain ⟨c', u, e, rfl⟩ := hv 0 v rfl
    have e' : c' = c := by simpa using e.symm
    rw [e', List.map_cons]
    exact .cons _ _ (octs_key vs bs (by simpa using h) fun j w q => by
      have := hv (j + 1) w (by simpa using q)
      simpa using this)
section
variable {prog : Program} {w : World} {A : Around} {E : Value → Shared → Prop} {s : Shared}
def ByteAt (b : Array UInt8) (i : Nat) (v : Value) : Prop := ∃ c u, b[i]? = some c ∧ v = .int (c.toNat : Int) u
theorem octs_ints {b : Array UInt8} {ks : List Int} {acc : Array Value} (hk : KBw.bInts b = ks) (h : ItemsOf (ByteAt b) acc b.size) : IntsAre acc.toList ks := by
  rw [← hk]
  refine octs_key acc.toList b.toList (by rw [Array.length_toList, Array.length_toList]; exact h.1) fun j v e => ?_
  obtain ⟨c, u, e1, e2⟩ := h.2 j v (by rw [← Array.getElem?_toList]; exact e)
  exact ⟨c, u, by rw [Array.getElem?_toList]; exact e1, e2⟩
theorem bytes_typeIs (s : Shared) (b : Array UInt8) (t : Tok) : s.TypeIs (.bytes b t) "bytes" := PySem.W.typeIs_bytes s b t
/-- a new list takes up the octets -/
theorem extend_bytes {R : Result → Shared → Prop} (hh : A.handled = none) (b : Array UInt8) (t : Tok) (S : Addr) (res : Value) (c₀ : Nat) (hS : s.heap.get? S = some { cls := .type "list", data := .seq #[] c₀ }) (hn : b.size ≤ sizeLine)
    (hR : ∀ h' tk acc' c', (∀ a o, a ≠ S → s.heap.get? a = some o → h'.get? a = some o) → h'.get? S = some { cls := .type "list", dict := none, data := .seq acc' c', slots := #[] } →
      ItemsOf (ByteAt b) acc' b.size → R (.ok (.ret res)) { s with heap := h', toks := tk }) :
    wpAny (model prog w) A.in1 (Builtin.List.listExtendWith (.ref S) (.bytes b t) res)
      (fun fin s' => match fin with | .done f => R (.ok f) s' | .again c' => c'.quiet = true ∧ codeAny (model prog w) A c' R s') (fun e s' => R (.error e) s') s := by
  have hSI : S ≠ s.heap.objs.size := Nat.ne_of_lt (Heap.lt_size hS)
  have hSf : S ∉ [s.heap.objs.size] := fun hm => hSI (List.mem_singleton.mp hm)
  unfold Builtin.List.listExtendWith
  refine wpAny_bind (wpAny_typeOf (bytes_typeIs _ b t) ?_)
  have h1 : Builtin.List.listSameRef (.ref S) (.bytes b t) = false := rfl
  have h2 : (Value.type "bytes" == Value.type "list") = false := by decide
  have h3 : (Value.type "bytes" == Value.type "tuple") = false := by decide
  simp only [h1, h2, h3, Bool.or_false, Bool.false_eq_true, if_false]
  refine wpAny_bind (KBw.pyIter_bytes ?_)
  refine wpAny_bind (wpAny_holding ?_)
  unfold Builtin.List.listLengthHint
  refine wpAny_bind (wpAny_specialOf (bytes_typeIs _ b t) FB.slot_bytes_len.lookup ?_)
  wp_delta
  refine wpAny_bind (wpAny_isInstance (T := "bytes") (v := .bytes b t) (b := true) (bytes_typeIs _ b t) (by rw [isSubtype_type]; kernel_rfl) ?_)
  show wpAny _ _ (typeOf (Value.bytes b t) >>= _) _ _ _
  refine wpAny_bind (wpAny_typeOf (bytes_typeIs _ b t) ?_)
  refine wpAny_pure ?_
  rw [if_neg (by decide)]
  have W := (KBw.walks (prog := prog) (w := w) (A := A.in1) hh s.heap.objs.size b t).toS
  refine wpAny_pure ⟨plainId_quiet PySem.F.plain_extend_loop _, codeAny_extend_loopS W hn _ hSf _ b.size 0 _ _ _ rfl (Nat.zero_le _) ⟨_, Heap.get?_push_size _ rfl, rfl, rfl⟩ (Heap.get?_push_of_some _ hS) (ItemsOf.nil _) fun s' acc' c' hm hS' hacc => ?_⟩
  rw [Moved.eq_with hm]
  refine hR s'.heap s'.toks acc' c' (fun a ob ha e => hm.heap a ob (fun hmem => ?_) (Heap.get?_push_of_some _ e)) hS' hacc
  rcases List.mem_cons.mp hmem with e' | hmem
  · exact ha e'
  · exact absurd (Heap.lt_size e) (by rw [List.mem_singleton.mp hmem]; exact Nat.lt_irrefl _)
theorem call_list_bytes {Q : Value → Shared → Prop} {b : Array UInt8} {t : Tok} {ks : List Int} (hh : A.handled = none) (hk : KBw.bInts b = ks) (hn : ks.length ≤ 100)
    (hQ : ∀ h' tk acc' c', (∀ a o, s.heap.get? a = some o → h'.get? a = some o) → h'.get? s.heap.objs.size = some { cls := .type "list", dict := none, data := .seq acc' c', slots := #[] } → IntsAre acc'.toList ks → Q (.ref s.heap.objs.size) { s with heap := h', toks := tk }) :
    wpAny (model prog w) A (call (.type "list") [.bytes b t]) Q E s := by
  have hbs : b.size = ks.length := by rw [← hk, KBw.ints_length]
  have hsz : b.size ≤ sizeLine := by rw [hbs, sizeLine_eq]; omega
  refine callType_codes (Q₁ := fun obj s₁ => obj = .ref s.heap.objs.size ∧ s₁ = { s with heap := s.heap.push { cls := .type "list", data := .seq #[] } }) PySem.F.called_list (PySem.F.typeCall_list_1 _) PySem.F.entry_list_init
    (code_list_new _ ⟨rfl, rfl⟩) fun obj s₁ h₁ => ?_
  obtain ⟨rfl, rfl⟩ := h₁
  have hS : (s.heap.push { cls := .type "list", data := .seq #[] }).get? s.heap.objs.size = some { cls := .type "list", data := .seq #[] } := Heap.get?_push_size _ rfl
  refine ⟨⟨_, hS, rfl⟩, PySem.F.args_list_init_2 _ _, ?_⟩
  show wpAny _ _ (do let old ← Builtin.List.listItems (.ref s.heap.objs.size); Builtin.List.listUpdate (.ref s.heap.objs.size) (fun _ => #[]); letGo old.toList.reverse; Builtin.List.listExtendWith (.ref s.heap.objs.size) (.bytes b t) .none) _ _ _
  refine wpAny_bind ?_
  unfold Builtin.List.listItems
  refine wpAny_bind (wpAny_seqItems hS rfl (wpAny_pure ?_))
  show wpAny _ _ (updateSeq s.heap.objs.size (fun _ => #[]) >>= fun _ => letGo (#[] : Array Value).toList.reverse >>= fun _ => Builtin.List.listExtendWith (.ref s.heap.objs.size) (.bytes b t) .none) _ _ _
  refine wpAny_bind (wpAny_updateSeq hS rfl ?_)
  have hS₂ := Heap.get?_update_self (Obj.mapSeq (fun _ => (#[] : Array Value))) hS rfl
  refine wpAny_bind (wpAny_letGo ?_)
  refine extend_bytes (A := A.in1) hh b t _ .none _ hS₂ hsz fun h' tk acc' c' hk' hS' hacc => ⟨rfl, hQ h' tk acc' c' (fun a o e => ?_) hS' ?_⟩
  · have ha : a ≠ s.heap.objs.size := Nat.ne_of_lt (Heap.lt_size e)
    exact hk' a o ha ((Heap.get?_update_other _ _ (Ne.symm ha)).trans (Heap.get?_push_of_some _ e))
  · exact octs_ints hk hacc
end
end Mine
end

section
open PySem PySem.W PyProof.Rows PySem.Calls
set_option linter.unusedVariables false
set_option linter.unusedSimpArgs false
set_option maxRecDepth 100000
set_option maxHeartbeats 4000000
namespace Mine
section
variable {prog : Program} {w : World} {A : Around} {E : Value → Shared → Prop} {s : Shared}
theorem sum_ok {l : Addr} {vs : List Value} {ns : List Int} {Q : Value → Shared → Prop} (hh : A.handled = none) (hl : s.heap.IsList l vs.toArray) (hi : IntsAre vs ns)
    (h : ∀ h' tk t, (∀ b o, s.heap.get? b = some o → h'.get? b = some o) → Q (.int ns.sum t) { s with heap := h', toks := tk }) :
    wpAny (model prog w) A (call (.builtin "sum") [.ref l]) Q E s := by
  have hall := hi.allInts
  have hnum := hi.numsOf
  generalize hvs : vs.toArray = items at hl hall
  have hv2 : items.toList = vs := by rw [← hvs]
  obtain ⟨xs, rfl⟩ := hall.items
  refine sum_intListG hh hl fun h' tk t' hk => ?_
  have q := h h' tk t' hk
  have e : preSum (numAt xs) xs.size = ns.sum := by
    rw [preSum_eq, List.take_of_length_le (by simp), ← hnum, ← hv2]
    rw [nums_intItems]
  rw [e]
  exact q
end
end Mine
end

section
open PySem PySem.W PyProof.Rows PySem.Calls
set_option linter.unusedVariables false
set_option linter.unusedSimpArgs false
set_option maxRecDepth 100000
set_option maxHeartbeats 4000000
namespace Mine
section
variable {prog : Program} {w : World} {A : Around} {E : Value → Shared → Prop} {s : Shared} {env : Env}
/-- a tuple object that is the key ('at', n, 'sum') -/
def keyObj (n : Int) (o : Obj) : Prop := o.cls = .type "tuple" ∧ ∃ k t u v, o.data = .seq #[.str (Str.ofString "at") t, .int n u, .str (Str.ofString "sum") v] k
theorem key_is {h : Heap} {a : Addr} {o : Obj} {n : Int} (ho : h.get? a = some o) (hk : keyObj n o) : (tk3 prog w).is h (key3 n) a := by
  obtain ⟨hc, k, t, u, v, hd⟩ := hk
  refine ⟨o, _, k, ho, hc, hd, .cons ?_ (.cons ?_ (.cons ?_ .nil))⟩
  · show Value.isStrOf (Str.ofString "at") (.str (Str.ofString "at") t) = true
    simp [Value.isStrOf]
  · show Value.isInt n (.int n u) = true
    simp [Value.isInt]
  · show Value.isStrOf (Str.ofString "sum") (.str (Str.ofString "sum") v) = true
    simp [Value.isStrOf]
/-- {key: value}, one entry, its key a tuple -/
theorem dict_one {k v : PySem.Expr} {pos : Pos} {Q : Value → Shared → Prop} (hu : A.units + 1 < cLine)
    (h : wpAny (model prog w) A (eval k env) (fun kv s₁ => ∃ a n, kv = .ref a ∧ (tk3 prog w).is s₁.heap (key3 n) a ∧ s₁.heap.get? s.heap.objs.size = some { cls := .type "dict", data := .dict #[] } ∧
      wpAny (model prog w) A (eval v env) (fun vv s₂ => (tk3 prog w).is s₂.heap (key3 n) a ∧ s₂.heap.get? s.heap.objs.size = some { cls := .type "dict", data := .dict #[] } ∧
        ∀ h' tk, h'.DictOfH (tk3 prog w) s.heap.objs.size [(key3 n, a, vv)] → Heap.SameBut s.heap.objs.size s₂.heap h' → Q (.ref s.heap.objs.size) { s₂ with heap := h', toks := tk }) E s₁) E
      { s with heap := s.heap.push { cls := .type "dict", data := .dict #[] } }) :
    wpAny (model prog w) A (eval (.Dict [some k] [v] pos) env) Q E s := by
  refine wpAny_Dict_any rfl rfl (by simp) (by simp) ?_
  show wpAny _ _ (do let kv ← eval k env; let vv ← holding [kv] (do let x ← eval v env; standAt pos; pure x); return (kv, vv) :: (← holding [kv, vv] (evalPairs []))) _ _ _
  refine wpAny_bind (wpAny_mono h (fun kv s₁ h₁ => ?_) fun _ _ e => e)
  obtain ⟨a, n, rfl, hk, hd, h₁⟩ := h₁
  refine wpAny_bind (wpAny_holding (wpAny_bind (wpAny_mono h₁ (fun vv s₂ h₂ => ?_) fun _ _ e => e)))
  obtain ⟨hk₂, hd₂, hQ⟩ := h₂
  refine wpAny_bind (wpAny_standAt (wpAny_pure ?_))
  refine wpAny_bind (wpAny_holding (wpAny_pure (wpAny_pure ?_)))
  unfold storeAll
  rw [List.forIn_cons]
  have hD : s₂.heap.DictOfH (tk3 prog w) s.heap.objs.size [] := ⟨_, #[], 0, hd₂, ⟨rfl, rfl, rfl⟩, rfl, rfl, (fun x hx => nomatch hx), List.nodup_nil⟩
  refine wpAny_bind (wpAny_bind (wpAny_dictSet_heap (by show A.units < cLine; omega) hk₂ hD (fun h' hD' hs' => wpAny_pure ?_) (by rw [sizeLine_eq]; exact Nat.zero_le _)))
  show wpAny _ _ (forIn [] _ _) _ _ _
  rw [List.forIn_nil]
  exact wpAny_pure (hQ h' _ hD' hs')
end
end Mine
end

section
open PySem PySem.W PyProof.Rows PySem.Calls
set_option linter.unusedVariables false
set_option linter.unusedSimpArgs false
set_option maxRecDepth 100000
set_option maxHeartbeats 4000000
namespace Mine
/-! ### the law's own body and frame -/
def lawDef : Stmt := PySem.Challenge.pw_gh0001_01.main.body[10]?.getD (.Pass default)
def lawBody : List Stmt := match lawDef with | .FunctionDef _ _ b _ _ _ _ _ _ _ => b | _ => []
def lawScope : Scope := match lawDef with | .FunctionDef _ _ _ _ _ _ s _ _ _ => s | _ => default
def lawStmt (i : Nat) : Stmt := lawBody[i]?.getD (.Pass default)
abbrev lawEnv (L : Addr) : Env := envX (Str.ofString "law") lawScope L 62 (.ref 61) [(Str.ofString "step", L + 2), (Str.ofString "many", L + 1)]

/-! ### tables in the ledger -/
def TabIn (prog : Program) (w : World) (led : List (Addr × Obj)) (d : Addr) (l : List (Int × Int)) : Prop :=
  (d == sysModules) = false ∧ ∃ o zs, (d, o) ∈ led ∧ DObj prog w o zs ∧ Fits zs l ∧ ∀ z ∈ zs, ∃ n ok, z.1 = key3 n ∧ (z.2.1, ok) ∈ led ∧ keyObj n ok
section
variable {prog : Program} {w : World} {A : Around} {E : Value → Shared → Prop} {s : Shared} {h₀ h : Heap} {L d : Addr} {l : List (Int × Int)} {led led' nx : List (Addr × Obj)}
theorem TabIn.mono (T : TabIn prog w led d l) (sub : ∀ p ∈ led, p ∈ led') : TabIn prog w led' d l :=
  let ⟨hS, o, zs, ho, D, F, k⟩ := T
  ⟨hS, o, zs, sub _ ho, D, F, fun z hz => let ⟨n, ok, e, hm, hk⟩ := k z hz; ⟨n, ok, e, sub _ hm, hk⟩⟩
theorem TabIn.dict (T : TabIn prog w led d l) (N : News h₀ L h led) : ∃ zs, h.DictOfH (tk3 prog w) d zs ∧ Fits zs l ∧ ∀ z ∈ zs, ∃ n ok, z.1 = key3 n ∧ (z.2.1, ok) ∈ led ∧ keyObj n ok :=
  let ⟨hS, o, zs, ho, D, F, k⟩ := T
  ⟨zs, D.at (N _ ho).1 fun z hz => let ⟨n, ok, e, hm, hk⟩ := k z hz; e ▸ key_is (N _ hm).1 hk, F, k⟩
theorem TabIn.of {zs : List (List (Str ⊕ Int) × Addr × Value)} {o : Obj} (hS : (d == sysModules) = false) (D : h.DictOfH (tk3 prog w) d zs) (ho : h.get? d = some o) (hm : (d, o) ∈ led) (F : Fits zs l)
    (k : ∀ z ∈ zs, ∃ n ok, z.1 = key3 n ∧ (z.2.1, ok) ∈ led ∧ keyObj n ok) : TabIn prog w led d l := by
  obtain ⟨o', ho', D'⟩ := dobj_of D
  have e : o' = o := Option.some.inj (ho'.symm.trans ho)
  exact ⟨hS, o, zs, hm, e ▸ D', F, k⟩
def HasTab (prog : Program) (w : World) (m : Str → Option Value) (led : List (Addr × Obj)) (x : Str) (l : List (Int × Int)) : Prop := ∃ d, m x = some (.ref d) ∧ TabIn prog w led d l
theorem HasTab.mono {m : Str → Option Value} {x : Str} (T : HasTab prog w m led x l) (sub : ∀ p ∈ led, p ∈ led') : HasTab prog w m led' x l := let ⟨d, e, t⟩ := T; ⟨d, e, t.mono sub⟩
theorem HasTab.other {m : Str → Option Value} {x y : Str} {v : Value} (T : HasTab prog w m led x l) (hne : x ≠ y) : HasTab prog w (fun z => if z = y then some v else m z) led x l := let ⟨d, e, t⟩ := T; ⟨d, by simpa [hne] using e, t⟩
theorem HasTab.new {m : Str → Option Value} {x : Str} (t : TabIn prog w led d l) : HasTab prog w (fun z => if z = x then some (.ref d) else m z) led x l := ⟨d, by simp, t⟩

/-- objects that were not there before -/
def Fresh (h : Heap) (new : List (Addr × Obj)) : Prop := ∀ p ∈ new, h.get? p.1 = none
theorem Fresh.apart {new own : List (Addr × Obj)} (f : Fresh h new) (ho : ∀ q ∈ own, h.get? q.1 = some q.2) : ∀ p ∈ new, ∀ q ∈ own, p.1 ≠ q.1 := fun p hp q hq e => by
  have := f p hp; rw [e, ho q hq] at this; cases this
theorem Fresh.append {new new' : List (Addr × Obj)} {h' : Heap} (f : Fresh h new) (f' : Fresh h' new') (up : ∀ b o, h.get? b = some o → h'.get? b = some o) : Fresh h (new' ++ new) := fun p hp => by
  rcases List.mem_append.mp hp with hp | hp
  · have := f' p hp
    cases q : h.get? p.1 with
    | none => rfl
    | some o => rw [up _ _ q] at this; cases this
  · exact f p hp

/-- add_callers upon two tables of the ledger -/
theorem add_tabs {R : Result → Shared → Prop} {mg mb : Str → Option Value} {m : Str → Option Value} {d₁ d₂ : Addr} {l₁ l₂ : List (Int × Int)} (G : Gd w mg mb h₀) (F : Fr h₀ L s.heap m) (N : News h₀ L s.heap led) (sub₀ : ∀ p ∈ nx, p ∈ led) (T₁ : TabIn prog w nx d₁ l₁) (T₂ : TabIn prog w nx d₂ l₂)
    (hz : l₁.length + l₂.length ≤ 10000) (hh : A.handled = none) (hroom : A.depth < recursionLimit) (hu : A.units + 8 < cLine)
    (h : ∀ r o h' tk, (∀ b o, s.heap.get? b = some o → h'.get? b = some o) → Fr h₀ L h' m → News h₀ L h' ((r, o) :: led) → s.heap.get? r = none → TabIn prog w ((r, o) :: nx) r (mergeT l₁ l₂) → R (.ok (.ret (.ref r))) { s with heap := h', toks := tk }) :
    codeAny (model prog w) A (.call (.ref 21) ⟨[.ref d₁, .ref d₂], []⟩) R s := by
  have Nx : News h₀ L s.heap nx := fun p hp => N p (sub₀ p hp)
  have T₁' := T₁.dict Nx
  have T₂' := T₂.dict Nx
  obtain ⟨xs, D₁, F₁, k₁⟩ := T₁'
  obtain ⟨ys, D₂, F₂, k₂⟩ := T₂'
  refine add_callers_ok (G.keeps F.keep) T₁.1 T₂.1 D₁ D₂ F₁ F₂ (by rw [F₁.length, F₂.length, sizeLine_eq]; omega) hh hroom hu fun r zs h' tk up hr hS D Fz sub => ?_
  have hd := dobj_of D
  obtain ⟨o, ho, _⟩ := hd
  have F' := fr_up F up
  have hN : News h₀ L h' ((r, o) :: led) := fun p hp => by
    rcases List.mem_cons.mp hp with rfl | hp
    · refine ⟨ho, fun e => ?_, ?_⟩
      · have e' : r = L := e
        obtain ⟨oL, _, _, eL, _⟩ := F.ns
        rw [e', eL] at hr; cases hr
      · cases q : h₀.get? r with
        | none => rfl
        | some o' => have := F.keep _ _ q; rw [hr] at this; cases this
    · exact ⟨up _ _ (N p hp).1, (N p hp).2⟩
  refine h r o h' tk up F' hN hr (TabIn.of hS D ho (.head _) Fz fun z hz => ?_)
  obtain ⟨x, hx, e1, e2⟩ := sub z hz
  rw [e1, e2]
  rcases List.mem_append.mp hx with hx | hx
  · obtain ⟨n, ok, a, b, c⟩ := k₁ x hx; exact ⟨n, ok, a, .tail _ b, c⟩
  · obtain ⟨n, ok, a, b, c⟩ := k₂ x hx; exact ⟨n, ok, a, .tail _ b, c⟩
end
end Mine
end

section
open PySem PySem.W PyProof.Rows PySem.Calls
set_option linter.unusedVariables false
set_option linter.unusedSimpArgs false
set_option maxRecDepth 100000
set_option maxHeartbeats 4000000
namespace Mine
section
variable {prog : Program} {w : World} {A : Around} {E : Value → Shared → Prop} {s : Shared} {h₀ : Heap} {L : Addr} {led nx : List (Addr × Obj)} {m mg mb : Str → Option Value}
theorem key_obj {n : Int} {t u v : Tok} : keyObj n { cls := .type "tuple", data := .seq #[.str (Str.ofString "at") t, .int n u, .str (Str.ofString "sum") v] } := ⟨rfl, _, _, _, _, rfl⟩
theorem newTuple_P {M : Model} {vs : List Value} {Q : Value → Shared → Prop} (h : Q (.ref s.heap.objs.size) { s with heap := s.heap.push { cls := .type "tuple", data := .seq vs.toArray } }) (hsz : vs.length ≤ sizeLine := by size_fits) : wpAny M A (newTuple vs) Q E s :=
  wpAny_newObj_type h (by show vs.toArray.size ≤ sizeLine; rw [List.size_toArray]; exact hsz)
/-- {('at', e, 'sum'): 1} -/
theorem tab_one {env : Env} {e : PySem.Expr} {k1 k2 k3 k4 : Nat} {p1 p2 p3 p4 pos : Pos} {n : Int} {Q : Value → Shared → Prop} (hu : A.units + 1 < cLine) (F : Fr h₀ L s.heap m) (N : News h₀ L s.heap led)
    (he : ∀ h₁ tk₁ (Q' : Value → Shared → Prop), Fr h₀ L h₁ m → (∀ b o, s.heap.get? b = some o → h₁.get? b = some o) → (∀ t h' tk, (∀ b o, h₁.get? b = some o → h'.get? b = some o) → Q' (.int n t) { s with heap := h', toks := tk }) →
      wpAny (model prog w) A (eval e env) Q' E { s with heap := h₁, toks := tk₁ })
    (h : ∀ h' tk d new, (∀ b o, s.heap.get? b = some o → h'.get? b = some o) → Fr h₀ L h' m → News h₀ L h' (new ++ led) → Fresh s.heap new → TabIn prog w new d [(n, 1)] → Q (.ref d) { s with heap := h', toks := tk })
    (hS : (s.heap.objs.size == sysModules) = false)
    (hst : starEach (e :: [.Constant (.str (Str.ofString "sum")) k2 p2]) env = (false, eval e env) :: starEach [.Constant (.str (Str.ofString "sum")) k2 p2] env := by rfl) :
    wpAny (model prog w) A (eval (.Dict [some (.Tuple [.Constant (.str (Str.ofString "at")) k1 p1, e, .Constant (.str (Str.ofString "sum")) k2 p2] k3 p3)] [.Constant (.int 1) k4 p4] pos) env) Q E s := by
  have Fp := F.push { cls := .type "dict", data := .dict #[] }
  have Np := N.push F { cls := .type "dict", data := .dict #[] }
  refine dict_one hu (Tuple_ (spliced_more (wpAny_Constant_str (spliced_more ?_ hst))))
  refine he _ _ _ Fp (fun b o e => Heap.get?_push_of_some _ e) fun t h₁ tk₁ up₁ => ?_
  have F₁ := fr_up Fp up₁
  have N₁ := news_up Np up₁
  refine spliced_more (wpAny_Constant_str (spliced_none (newTuple_P ?_)))
  have F₂ := F₁.push { cls := .type "tuple", data := .seq #[.str (Str.ofString "at") s.toks, .int n t, .str (Str.ofString "sum") tk₁] }
  have N₂ := N₁.push F₁ { cls := .type "tuple", data := .seq #[.str (Str.ofString "at") s.toks, .int n t, .str (Str.ofString "sum") tk₁] }
  have up₂ : ∀ b o, s.heap.get? b = some o → (h₁.push { cls := .type "tuple", data := .seq #[.str (Str.ofString "at") s.toks, .int n t, .str (Str.ofString "sum") tk₁] }).get? b = some o := fun b o e => Heap.get?_push_of_some _ (up₁ b o (Heap.get?_push_of_some _ e))
  have hk : (tk3 prog w).is _ (key3 n) h₁.objs.size := key_is (N₂ _ (.head _)).1 key_obj
  have hd := (N₂ _ (.tail _ (.head _))).1
  refine ⟨_, n, rfl, hk, hd, wpAny_Constant_int ⟨hk, hd, fun h' tk hD hs => ?_⟩⟩
  obtain ⟨o, ho, Do⟩ := dobj_of hD
  have z := N₂ (s.heap.objs.size, { cls := .type "dict", data := .dict #[] }) (.tail _ (.head _))
  have F₃ := F₂.change hs z.2.1 z.2.2
  have hlt : s.heap.objs.size < h₁.objs.size := Heap.lt_size (N₁ _ (.head _)).1
  have N₃ : News h₀ L h' ([(h₁.objs.size, _)] ++ (s.heap.objs.size, o) :: led) := News.setAt (own := [(h₁.objs.size, _)]) N₂ (fun p hp => by rw [List.mem_singleton.mp hp]; exact Nat.ne_of_gt hlt) (fun p hp => Nat.ne_of_lt (news_lt N hp)) hs ho
  refine h h' tk _ [(h₁.objs.size, _), (s.heap.objs.size, o)] (fun b o e => hs.extBut b o (Nat.ne_of_lt (Heap.lt_size e)) (up₂ b o e)) F₃ N₃ (fun p hp => ?_) (TabIn.of hS hD ho (.tail _ (.head _)) (.cons .nil) fun z hz => ?_)
  · rcases List.mem_cons.mp hp with rfl | hp
    · exact Heap.get?_none_of_le (Nat.le_of_lt hlt)
    · rw [List.mem_singleton.mp hp]; exact size_none _
  · rw [List.mem_singleton.mp hz]
    exact ⟨n, _, rfl, .head _, key_obj⟩

/-- _law_wrong(x) -/
theorem eval_wrong {x : Str} {p1 p2 p3 : Pos} {b : Array UInt8} {t : Tok} {ks : List Int} {Q : Value → Shared → Prop} (G : Gd w mg mb h₀) (F : Fr h₀ L s.heap m) (hx : m x = some (.bytes b t)) (hk : KBw.bInts b = ks) (hz : ks.length < 20) (hh : A.handled = none) (hroom : A.depth < recursionLimit)
    (h : ∀ t h' tk, (∀ b o, s.heap.get? b = some o → h'.get? b = some o) → Q (.int (wrong ks : Nat) t) { s with heap := h', toks := tk })
    (hkx : (lawEnv L).kindOf x = some .local := by rfl) (hd : (x == ("__debug__" : Str)) = false := by decide)
    (hst : starEach [.Name x p2] (lawEnv L) = (false, eval (.Name x p2) (lawEnv L)) :: starEach [] (lawEnv L) := by rfl) :
    wpAny (model prog w) A (eval (.Call (.Name (Str.ofString "_law_wrong") p1) [.Name x p2] [] p3) (lawEnv L)) Q E s := by
  refine Call_ (nameX_K F G.X G.T (by rfl) (callWith_K (G.keeps F.keep).X (by rfl) (spliced_more (nameX_L F hx (spliced_none ⟨(G.keeps F.keep).X, ?_⟩) rfl hkx hd) hst) hst))
  exact wpAny_call (law_wrong_ok (G.keeps F.keep) hk hz hh hroom h)
/-- _law_falls(x) -/
theorem eval_falls {x : Str} {p1 p2 p3 : Pos} {b : Array UInt8} {t : Tok} {ks : List Int} {Q : Value → Shared → Prop} (G : Gd w mg mb h₀) (F : Fr h₀ L s.heap m) (hx : m x = some (.bytes b t)) (hk : KBw.bInts b = ks) (hz : ks.length < 20) (hh : A.handled = none) (hroom : A.depth < recursionLimit)
    (h : ∀ D vs h' tk, Ext s.heap h' → h'.IsList D vs.toArray → s.heap.get? D = none → IntsAre vs (falls ks) → Q (.ref D) { s with heap := h', toks := tk })
    (hkx : (lawEnv L).kindOf x = some .local := by rfl) (hd : (x == ("__debug__" : Str)) = false := by decide)
    (hst : starEach [.Name x p2] (lawEnv L) = (false, eval (.Name x p2) (lawEnv L)) :: starEach [] (lawEnv L) := by rfl) :
    wpAny (model prog w) A (eval (.Call (.Name (Str.ofString "_law_falls") p1) [.Name x p2] [] p3) (lawEnv L)) Q E s := by
  refine Call_ (nameX_K F G.X G.T (by rfl) (callWith_K (G.keeps F.keep).X (by rfl) (spliced_more (nameX_L F hx (spliced_none ⟨(G.keeps F.keep).X, ?_⟩) rfl hkx hd) hst) hst))
  exact wpAny_call (law_falls_ok (G.keeps F.keep) hk hz hh hroom h)
/-- sum(_law_falls(x)) -/
theorem eval_sumfalls {x : Str} {p1 p2 p3 p4 p5 : Pos} {b : Array UInt8} {t : Tok} {ks : List Int} {Q : Value → Shared → Prop} (G : Gd w mg mb h₀) (F : Fr h₀ L s.heap m) (hx : m x = some (.bytes b t)) (hk : KBw.bInts b = ks) (hz : ks.length < 20) (hh : A.handled = none) (hroom : A.depth < recursionLimit)
    (h : ∀ t h' tk, (∀ b o, s.heap.get? b = some o → h'.get? b = some o) → Q (.int (falls ks).sum t) { s with heap := h', toks := tk })
    (hkx : (lawEnv L).kindOf x = some .local := by rfl) (hd : (x == ("__debug__" : Str)) = false := by decide)
    (hst : starEach [.Name x p2] (lawEnv L) = (false, eval (.Name x p2) (lawEnv L)) :: starEach [] (lawEnv L) := by rfl) :
    wpAny (model prog w) A (eval (.Call (.Name (Str.ofString "sum") p4) [.Call (.Name (Str.ofString "_law_falls") p1) [.Name x p2] [] p3] [] p5) (lawEnv L)) Q E s := by
  refine Call_ (nameX_B F G.X G.T (by rfl) boot_sum (by decide) (PyProof.Rows.callWith_builtin1 (spliced_more ?_)))
  exact eval_falls G F hx hk hz hh hroom (fun D vs h' tk up hl hn hi => spliced_none (sum_ok hh hl hi fun h'' tk' t' up' => h t' h'' tk' fun b o e => up' b o (up.1 b o e))) hkx hd hst

/-- X = add_callers(X, {('at', e, 'sum'): 1}), the value -/
theorem add_one {x : Str} {e : PySem.Expr} {k1 k2 k3 k4 : Nat} {p1 p2 p3 p4 pos q1 q2 q3 : Pos} {n : Int} {l : List (Int × Int)} {Q : Value → Shared → Prop} (G : Gd w mg mb h₀) (F : Fr h₀ L s.heap m) (N : News h₀ L s.heap led) (sub₀ : ∀ p ∈ nx, p ∈ led) (T : HasTab prog w m nx x l)
    (hz : l.length + 1 ≤ 10000) (hh : A.handled = none) (hroom : A.depth < recursionLimit) (hu : A.units + 8 < cLine)
    (he : ∀ h₁ tk₁ (Q' : Value → Shared → Prop), Fr h₀ L h₁ m → (∀ b o, s.heap.get? b = some o → h₁.get? b = some o) → (∀ t h' tk, (∀ b o, h₁.get? b = some o → h'.get? b = some o) → Q' (.int n t) { s with heap := h', toks := tk }) →
      wpAny (model prog w) A (eval e (lawEnv L)) Q' E { s with heap := h₁, toks := tk₁ })
    (h : ∀ h' tk d new, (∀ b o, s.heap.get? b = some o → h'.get? b = some o) → Fr h₀ L h' m → News h₀ L h' (new ++ led) → Fresh s.heap new → TabIn prog w (new ++ nx) d (mergeT l [(n, 1)]) → Q (.ref d) { s with heap := h', toks := tk })
    (hkx : (lawEnv L).kindOf x = some .local := by rfl) (hd : (x == ("__debug__" : Str)) = false := by decide)
    (hst : starEach (e :: [.Constant (.str (Str.ofString "sum")) k2 p2]) (lawEnv L) = (false, eval e (lawEnv L)) :: starEach [.Constant (.str (Str.ofString "sum")) k2 p2] (lawEnv L) := by rfl)
    (hs2 : ∀ rest, starEach (.Name x q2 :: rest) (lawEnv L) = (false, eval (.Name x q2) (lawEnv L)) :: starEach rest (lawEnv L) := by intro _; rfl) :
    wpAny (model prog w) A (eval (.Call (.Name (Str.ofString "add_callers") q1) [.Name x q2, .Dict [some (.Tuple [.Constant (.str (Str.ofString "at")) k1 p1, e, .Constant (.str (Str.ofString "sum")) k2 p2] k3 p3)] [.Constant (.int 1) k4 p4] pos] [] q3) (lawEnv L)) Q E s := by
  obtain ⟨d, hx, hT⟩ := T
  refine Call_ (nameX_K F G.X G.T (by rfl) (callWith_K (G.keeps F.keep).X (by rfl) (spliced_more (nameX_L F hx (spliced_more ?_) rfl hkx hd) (hs2 _)) (hs2 _)))
  have hS : (s.heap.objs.size == sysModules) = false := F.notModules (modules_low G.T.nolimit)
  refine tab_one (by omega) F N he (fun h₁ tk₁ d' new up₁ F₁ N₁ f₁ T₁ => spliced_none ⟨(G.keeps F₁.keep).X, ?_⟩) hS hst
  refine wpAny_call (add_tabs (nx := new ++ nx) G F₁ N₁ (fun p hp => ?_) (hT.mono fun p hp => List.mem_append_right _ hp) (T₁.mono fun p hp => List.mem_append_left _ hp) hz hh hroom hu fun r o h₂ tk₂ up₂ F₂ N₂ hr T₂ => ?_)
  · rcases List.mem_append.mp hp with hp | hp
    · exact List.mem_append_left _ hp
    · exact List.mem_append_right _ (sub₀ p hp)
  exact h h₂ tk₂ r ((r, o) :: new) (fun b o e => up₂ b o (up₁ b o e)) F₂ N₂ (Fresh.append (new := new) (new' := [(r, o)]) f₁ (fun p hp => by rw [List.mem_singleton.mp hp]; exact hr) up₁) T₂
end
end Mine
end

section
open PySem PySem.W PyProof.Rows PySem.Calls
set_option linter.unusedVariables false
set_option linter.unusedSimpArgs false
set_option maxRecDepth 100000
set_option maxHeartbeats 4000000
namespace Mine
/-! ### the first loop: all orders -/
def tally (f : List Int → Int) (os : List (List Int)) : List (Int × Int) := os.foldl (fun T ks => mergeT T [(f ks, 1)]) []
theorem tally_snoc (f : List Int → Int) (os : List (List Int)) (ks : List Int) : tally f (os ++ [ks]) = mergeT (tally f os) [(f ks, 1)] := by unfold tally; rw [List.foldl_append]; rfl
theorem setT_len (l : List (Int × Int)) (n v : Int) : (setT l n v).length ≤ l.length + 1 := by
  unfold setT
  split
  · rw [List.length_map]; omega
  · rw [List.length_append, List.length_singleton]; exact Nat.le_refl _
theorem addT_len (l : List (Int × Int)) (p : Int × Int) : (addT l p).length ≤ l.length + 1 := by
  unfold addT
  split <;> exact setT_len _ _ _
theorem mergeT_len : ∀ (l₂ l₁ : List (Int × Int)), (mergeT l₁ l₂).length ≤ l₁.length + l₂.length
  | [], l₁ => Nat.le_refl _
  | p :: l₂, l₁ => by
    have h1 := mergeT_len l₂ (addT l₁ p)
    have h2 := addT_len l₁ p
    rw [List.length_cons]
    show (mergeT (addT l₁ p) l₂).length ≤ _
    omega
theorem tally_len (f : List Int → Int) (os : List (List Int)) : (tally f os).length ≤ os.length := by
  have key : ∀ (os : List (List Int)) (T : List (Int × Int)), (os.foldl (fun T ks => mergeT T [(f ks, 1)]) T).length ≤ T.length + os.length := by
    intro os
    induction os with
    | nil => intro T; exact Nat.le_refl _
    | cons k os ih =>
      intro T
      have h1 := ih (mergeT T [(f k, 1)])
      have h2 := mergeT_len [(f k, 1)] T
      rw [List.foldl_cons, List.length_cons]
      rw [List.length_singleton] at h2
      omega
  have := key os []
  rw [List.length_nil, Nat.zero_add] at this
  exact this
theorem upto_in {n : Nat} (hn : n ≤ 100) : KBa.In (upto n) := fun k hk => by
  obtain ⟨i, hi, rfl⟩ := List.mem_map.mp hk
  have := List.mem_range.mp hi
  omega
def wrongI (ks : List Int) : Int := (wrong ks : Nat)
def fallsI (ks : List Int) : Int := (falls ks).sum

theorem shuf {own led new n1 n2 : List (Addr × Obj)} : ∀ p ∈ own ++ ((n2 ++ (n1 ++ new)) ++ led), p ∈ n2 ++ (n1 ++ (own ++ (new ++ led))) := by
  intro p hp
  simp only [List.mem_append] at hp ⊢
  rcases hp with hp | (hp | hp | hp) | hp
  · exact .inr (.inr (.inl hp))
  · exact .inl hp
  · exact .inr (.inl hp)
  · exact .inr (.inr (.inr (.inl hp)))
  · exact .inr (.inr (.inr (.inr hp)))
theorem shuf2 {led new n1 n2 : List (Addr × Obj)} : ∀ p ∈ n2 ++ (n1 ++ (new ++ led)), p ∈ (n2 ++ (n1 ++ new)) ++ led := by
  intro p hp
  simp only [List.mem_append] at hp ⊢
  rcases hp with hp | hp | hp | hp
  · exact .inl (.inl hp)
  · exact .inl (.inr (.inl hp))
  · exact .inl (.inr (.inr hp))
  · exact .inr hp
theorem shuf1 {led new n1 n2 : List (Addr × Obj)} : ∀ p ∈ n1 ++ (new ++ led), p ∈ (n2 ++ (n1 ++ new)) ++ led := fun p hp => shuf2 p (List.mem_append_right _ hp)
theorem shuf0 {led new n1 n2 : List (Addr × Obj)} : ∀ p ∈ new ++ led, p ∈ (n2 ++ (n1 ++ new)) ++ led := fun p hp => shuf1 p (List.mem_append_right _ hp)

section
variable {prog : Program} {w : World} {A : Around} {E : Value → Shared → Prop} {s : Shared} {h₀ : Heap} {L : Addr} {led nx : List (Addr × Obj)} {m mg mb : Str → Option Value}
/-- what the first loop keeps -/
def J3 (prog : Program) (w : World) (l : Addr) (led : List (Addr × Obj)) (os : List (List Int)) (i : Nat) (m : Str → Option Value) (nx : List (Addr × Obj)) : Prop :=
  ∃ new, nx = new ++ led ∧ (∀ p ∈ new, ∀ q ∈ led, p.1 ≠ q.1) ∧ HasTab prog w m nx (Str.ofString "wrong") (tally wrongI (os.take i)) ∧ HasTab prog w m nx (Str.ofString "falls") (tally fallsI (os.take i)) ∧ HasTab prog w m nx (Str.ofString "made") [(0, 1)] ∧ m (Str.ofString "script") = some (.ref l)

theorem law_s3 {st : Stmt} (hst : st = lawStmt 2) {n : Nat} {l : Addr} {oM : Obj} {t : Tok} {Q : Flow → Shared → Prop} (G : Gd w mg mb h₀) (F : Fr h₀ L s.heap m) (N : News h₀ L s.heap led) (hmM : (L + 1, oM) ∈ led) (hoM : oM.data = .cell (some (.int (n : Nat) t))) (hn4 : n ≤ 4)
    (hw : HasTab prog w m led (Str.ofString "wrong") []) (hf : HasTab prog w m led (Str.ofString "falls") []) (hm : HasTab prog w m led (Str.ofString "made") [(0, 1)]) (hl : m (Str.ofString "script") = some (.ref l))
    (hh : A.handled = none) (hroom : A.depth + 10 < recursionLimit) (hu : A.units + 8 < cLine)
    (h : ∀ h' tk m' nx', Fr h₀ L h' m' → News h₀ L h' nx' → J3 prog w l led (ordersN 3 (upto n)) (ordersN 3 (upto n)).length m' nx' → Q .next { s with heap := h', toks := tk }) :
    wpAny (model prog w) A (exec st (lawEnv L)) Q E s := by
  subst hst
  refine for_src (h₀ := h₀) (Call_ (nameX_K F G.X G.T (by rfl) (callWith_K (G.keeps F.keep).X (by rfl) (spliced_more ?_))))
  refine Call_ (nameX_B F G.X G.T (by rfl) boot_bytes (by decide) (PyProof.Rows.callWith_type1 (spliced_more ?_)))
  refine Call_ (nameX_B F G.X G.T (by rfl) boot_range (by decide) (PyProof.Rows.callWith_type1 (spliced_more (nameX_C (o := oM) N rfl hmM hoM (spliced_none (call_range_1 ?_))))))
  refine spliced_none (call_bytes_range hh (show n ≤ 100 by omega) (Heap.get?_push_size _ rfl) fun h₁ t₁ tk₁ up₁ => ?_)
  have up₁' : ∀ b o, s.heap.get? b = some o → h₁.get? b = some o := fun b o e => up₁ b o (Heap.get?_push_of_some _ e)
  have F₁ := fr_up F up₁'
  refine spliced_none ⟨(G.keeps F₁.keep).X, ?_⟩
  have hul : (upto n).length ≤ 3 + 1 := by rw [upto_len]; omega
  refine wpAny_call (law_orders_ok 3 (by omega) (G.keeps F₁.keep) (KBa.ints_make (upto_in (n := n) (by omega))) hul hh (by omega) fun D vs h₂ tk₂ up₂ hL₂ hn₂ hB₂ => ?_)
  have up02 : ∀ b o, s.heap.get? b = some o → h₂.get? b = some o := fun b o e => up₂.1 b o (up₁' b o e)
  have F₂ := fr_up F up02
  have N₂ := news_up N up02
  have hD0 : s.heap.get? D = none := by
    cases q : s.heap.get? D with
    | none => rfl
    | some o => rw [up₁' _ _ q] at hn₂; cases hn₂
  have hlen : (ordersN 3 (upto n)).length ≤ 24 := Nat.le_trans (ordersN_le 3 _ hul) (by decide)
  refine src_list hh hL₂ fun I h₃ hsrc => ?_
  refine ⟨I, [D], _, _, m, led, J3 prog w l led (ordersN 3 (upto n)), rfl, hsrc _ _, ?_, ?_, F₂, N₂, ⟨[], rfl, (fun p hp => nomatch hp), by rw [List.take_zero]; exact hw, by rw [List.take_zero]; exact hf, hm, hl⟩, ?_, ?_⟩
  · intro hm'
    obtain ⟨oL, _, _, eL, _⟩ := F.ns
    have e : L = D := List.mem_singleton.mp hm'
    rw [e, hD0] at eL; cases eL
  · intro p hp b hb _ e
    rw [List.mem_singleton.mp hb] at e
    have := (N p hp).1
    rw [e, hD0] at this; cases this
  · rintro i v m₄ nx₄ h₄ tk₄ own E' hi hv ⟨new, rfl, hap0, hw₄, hf₄, hm₄, hl₄⟩ hap F₄ N₄
    have hg := BytesAre.get hB₂ (i := i) (v := v) (by rw [← List.getElem?_toArray]; exact hv)
    clear hv
    obtain ⟨b, t', ks, rfl, hks, hos⟩ := hg
    have hkl : ks.length < 20 := by
      have := ordersN_len 3 _ _ (List.mem_of_getElem? hos)
      omega
    have htake := take_next hos
    have hil : i ≤ 24 := by
      have := (List.getElem?_eq_some_iff.mp hos).1
      omega
    have tl : ∀ f, (tally f ((ordersN 3 (upto n)).take i)).length + 1 ≤ 10000 := fun f => by
      have := tally_len f ((ordersN 3 (upto n)).take i)
      rw [List.length_take] at this
      omega
    refine turn_name F₄ N₄ fun h₅ tk₅ F₅ N₅ => ?_
    have hw₅ := hw₄.other (y := Str.ofString "order") (v := .bytes b t') (by decide)
    have hf₅ := hf₄.other (y := Str.ofString "order") (v := .bytes b t') (by decide)
    have hm₅ := hm₄.other (y := Str.ofString "order") (v := .bytes b t') (by decide)
    refine wpAny_execs_cons (wpAny_Assign_Name (add_one (nx := new ++ led) (n := wrongI ks) G F₅ N₅ (fun p hp => List.mem_append_right _ hp) hw₅ (tl _) hh (by omega) hu (fun h₆ tk₆ Q' F₆ up₆ hQ' => eval_wrong G F₆ rfl hks hkl hh (by omega) hQ') fun h₆ tk₆ d₆ n₆ up₆ F₆ N₆ f₆ T₆ => ?_) (by rfl))
    refine storeX_L F₆ N₆ fun h₇ F₇ N₇ => ?_
    show wpAny _ _ (execs _ _) _ _ _
    have hf₇ := (hf₅.mono (fun p hp => List.mem_append_right n₆ hp)).other (y := Str.ofString "wrong") (v := .ref d₆) (by decide)
    refine wpAny_execs_cons (wpAny_Assign_Name (add_one (nx := n₆ ++ (new ++ led)) (n := fallsI ks) G F₇ N₇ (fun p hp => ?_) hf₇ (tl _) hh (by omega) hu (fun h₈ tk₈ Q' F₈ up₈ hQ' => eval_sumfalls G F₈ rfl hks hkl hh (by omega) hQ') fun h₈ tk₈ d₈ n₈ up₈ F₈ N₈ f₈ T₈ => ?_) (by rfl))
    · rcases List.mem_append.mp hp with hp | hp
      · exact List.mem_append_left _ hp
      · exact List.mem_append_right _ (List.mem_append_right _ hp)
    refine storeX_L F₈ N₈ fun h₉ F₉ N₉ => ?_
    show wpAny _ _ (execs _ _) _ _ _
    have own₅ : ∀ q ∈ own ++ (new ++ led), h₅.get? q.1 = some q.2 := fun q hq => (N₅ q hq).1
    have own₇ : ∀ q ∈ n₆ ++ (own ++ (new ++ led)), h₇.get? q.1 = some q.2 := fun q hq => (N₇ q hq).1
    have a₆ := f₆.apart own₅
    have a₈ := f₈.apart own₇
    refine wpAny_execs_nil (TurnEnd.next (nx := (n₈ ++ (n₆ ++ new)) ++ led) F₉ (fun p hp => N₉ p (shuf p hp)) ?_ ⟨n₈ ++ (n₆ ++ new), rfl, ?_, ?_, ?_, ?_, ?_⟩)
    · intro p hp q hq
      rcases List.mem_append.mp hp with hp | hp
      · rcases List.mem_append.mp hp with hp | hp
        · exact a₈ p hp q (List.mem_append_right _ (List.mem_append_left _ hq))
        · rcases List.mem_append.mp hp with hp | hp
          · exact a₆ p hp q (List.mem_append_left _ hq)
          · exact hap p (List.mem_append_left _ hp) q hq
      · exact hap p (List.mem_append_right _ hp) q hq
    · intro p hp q hq
      rcases List.mem_append.mp hp with hp | hp
      · exact a₈ p hp q (List.mem_append_right _ (List.mem_append_right _ (List.mem_append_right _ hq)))
      · rcases List.mem_append.mp hp with hp | hp
        · exact a₆ p hp q (List.mem_append_right _ (List.mem_append_right _ hq))
        · exact hap0 p hp q hq
    · rw [htake, tally_snoc]
      exact ((HasTab.new T₆).other (by decide)).mono shuf1
    · rw [htake, tally_snoc]
      exact (HasTab.new T₈).mono shuf2
    · exact ((hm₅.other (by decide)).other (by decide)).mono shuf0
    · exact hl₄
  · rintro h' tk m' nx' F' N' hJ
    have e : vs.toArray.size = (ordersN 3 (upto n)).length := by rw [List.size_toArray, hB₂.length]
    rw [e] at hJ
    exact h h' tk m' nx' F' N' hJ
end
end Mine
end

section
open PySem PySem.W PyProof.Rows PySem.Calls
set_option linter.unusedVariables false
set_option linter.unusedSimpArgs false
set_option maxRecDepth 100000
set_option maxHeartbeats 4000000
namespace Mine
/-! ### the comprehension of shifted pairs -/
def lawComp : PySem.Expr := match lawStmt 3 with
  | .For _ _ [_, .For _ _ [.Assign _ (.Call _ [_, .Call _ [c] _ _] _ _) _] _ _, _] _ _ => c
  | e => .Constant (.int 0) 0 default
inductive Prs (nx : List (Addr × Obj)) : List Value → List (Int × Int) → List (Int × Addr × Value) → Prop
  | nil : Prs nx [] [] []
  | snoc {ys l ps} {T K : Addr} {oT oK : Obj} {n x : Int} {t : Tok} {k : Nat} : Prs nx ys l ps → (T, oT) ∈ nx → oT.cls = .type "tuple" → oT.data = .seq #[.ref K, .int x t] k → (K, oK) ∈ nx → keyObj n oK → Prs nx (ys ++ [.ref T]) (l ++ [(n, x)]) (ps ++ [(n, K, .int x t)])
theorem Prs.mono {nx nx' : List (Addr × Obj)} {ys l ps} (h : Prs nx ys l ps) (sub : ∀ p ∈ nx, p ∈ nx') : Prs nx' ys l ps := by
  induction h with
  | nil => exact .nil
  | snoc _ a b c d e ih => exact .snoc ih (sub _ a) b c (sub _ d) e
theorem Prs.len {nx : List (Addr × Obj)} {ys l ps} (h : Prs nx ys l ps) : ys.length = l.length ∧ ps.length = l.length := by
  induction h with
  | nil => exact ⟨rfl, rfl⟩
  | snoc _ a b c d e ih => simp [ih.1, ih.2]
def shiftL (l : List (Int × Int)) (step : Int) : List (Int × Int) := l.map fun p => (p.1 + step, p.2)
theorem shiftL_snoc {l : List (Int × Int)} {i : Nat} {n x step : Int} (h : l[i]? = some (n, x)) : shiftL (l.take (i + 1)) step = shiftL (l.take i) step ++ [(n + step, x)] := by
  unfold shiftL
  rw [take_next h, List.map_append]; rfl
section
variable {prog : Program} {w : World} {A : Around} {E : Value → Shared → Prop} {s : Shared} {h₀ : Heap} {L : Addr} {led nx : List (Addr × Obj)} {m mg mb : Str → Option Value}
theorem elt_fin {h : Heap} {C D T K : Addr} {own nx₁ : List (Addr × Obj)} {ys : List Value} {oT oK : Obj} {m' : Str → Option Value} {s₁ : Shared} {tk : Nat} {n x : Int} {t : Tok} {k : Nat} {l l' : List (Int × Int)} {ps : List (Int × Addr × Value)} (F : Fr h₀ C h m') (N : News h₀ C h ((T, oT) :: (K, oK) :: (own ++ (D, lst ys) :: nx₁)))
    (hT : ∀ p ∈ own ++ (D, lst ys) :: nx₁, T ≠ p.1) (hK : ∀ p ∈ own ++ (D, lst ys) :: nx₁, K ≠ p.1) (hap : ∀ p ∈ nx₁, (∀ q ∈ own, p.1 ≠ q.1) ∧ p.1 ≠ D) (hl : l' = l ++ [(n, x)]) (P : Prs nx₁ ys l ps)
    (hc : oT.cls = .type "tuple") (hd : oT.data = .seq #[.ref K, .int x t] k) (hk : keyObj n oK) :
    EltEnd h₀ C own D ys (fun nx => ∃ ps, Prs nx (ys ++ [.ref T]) l' ps) s₁ { s₁ with heap := h, toks := tk } := by
  subst hl
  refine ⟨h, tk, m', (T, oT) :: (K, oK) :: nx₁, rfl, F, fun p hp => N p ?_, ?_, ps ++ [(n, K, .int x t)], .snoc (P.mono fun p hp => .tail _ (.tail _ hp)) (.head _) hc hd (.tail _ (.head _)) hk⟩
  · rcases List.mem_append.mp hp with hp | hp
    · exact .tail _ (.tail _ (List.mem_append_left _ hp))
    · rcases List.mem_cons.mp hp with rfl | hp
      · exact .tail _ (.tail _ (List.mem_append_right _ (.head _)))
      · rcases List.mem_cons.mp hp with rfl | hp
        · exact .head _
        · rcases List.mem_cons.mp hp with rfl | hp
          · exact .tail _ (.head _)
          · exact .tail _ (.tail _ (List.mem_append_right _ (.tail _ hp)))
  · intro p hp
    rcases List.mem_cons.mp hp with rfl | hp
    · exact ⟨fun q hq => hT q (List.mem_append_left _ hq), hT _ (List.mem_append_right _ (.head _))⟩
    · rcases List.mem_cons.mp hp with rfl | hp
      · exact ⟨fun q hq => hK q (List.mem_append_left _ hq), hK _ (List.mem_append_right _ (.head _))⟩
      · exact hap p hp
theorem eval_comp {d : Addr} {l : List (Int × Int)} {step : Int} {oS : Obj} {ts : Tok} {Q : Value → Shared → Prop} (G : Gd w mg mb h₀) (F : Fr h₀ L s.heap m) (N : News h₀ L s.heap led) (sub₀ : ∀ p ∈ nx, p ∈ led) (hm : m (Str.ofString "made") = some (.ref d)) (T : TabIn prog w nx d l)
    (hS : (L + 2, oS) ∈ led) (hoS : oS.data = .cell (some (.int step ts))) (hz : l.length ≤ 1000) (hh : A.handled = none)
    (h : ∀ D ys h' tk nx' ps, Ext s.heap h' → h'.get? D = some (lst ys) → s.heap.get? D = none → (∀ p ∈ nx', h'.get? p.1 = some p.2 ∧ s.heap.get? p.1 = none ∧ p.1 ≠ D) → Prs nx' ys (shiftL l step) ps → Q (.ref D) { s with heap := h', toks := tk }) :
    wpAny (model prog w) A (eval lawComp (lawEnv L)) Q E s := by
  have Nx : News h₀ L s.heap nx := fun p hp => N p (sub₀ p hp)
  obtain ⟨zs, D, Fz, kz⟩ := T.dict Nx
  obtain ⟨es, ep, r, he⟩ := raw_of D
  have hes : es.size = l.length := by rw [size_of_entries he, Fz.length]
  refine comp_src (cl := [(Str.ofString "step", L + 2)]) rfl (by decide) rfl (by decide) ?_
  refine call_items (es := es) (ep := ep) T.1 r rfl rfl (fun Q' hq => nameX_L F hm hq) ?_
  have rp : RawD (s.heap.push { cls := .type "dict_items", data := .fields #[.ref d] }) d es ep := r.at fun o e => Heap.get?_push_of_some _ e
  refine src_items hh ⟨_, Heap.get?_push_size _ rfl, rfl, rfl⟩ rp fun I h₂ hsrc => ?_
  have hcS : s.heap.IsCell (L + 2) (some (.int step ts)) := ⟨oS, (N _ hS).1, hoS⟩
  refine ⟨I, [d], _, _, [], fun i ys nx => ∃ ps, Prs nx ys (shiftL (l.take i) step) ps, rfl, hsrc _ _ _, by rw [hes, sizeLine_eq]; omega, ?_, Ext.push _ _, (fun p hp => nomatch hp), ⟨[], by rw [List.take_zero]; exact .nil⟩, ?_, ?_⟩
  · intro b hb
    rw [List.mem_singleton.mp hb]
    obtain ⟨o, ho, _⟩ := rp
    exact ⟨o, ho⟩
  · rintro i v ys nx₁ m₁ h₃ tk₃ own C D' E' hi ⟨T', e, rfl, hei, hT'⟩ ⟨ps, hps⟩ F₃ N₃ hap
    obtain ⟨n, x, t, a, hzi, hka, hva, hli⟩ := entry_of he Fz hei
    have hz2 := kz _ (List.mem_of_getElem? hzi)
    obtain ⟨n', ok, hk1, hk2, hk3⟩ := hz2
    have hnn : n' = n := (key3_inj hk1).symm
    subst hnn
    rw [hka, hva] at hT'
    refine wpAny_assign_Tuple hh hT' rfl rfl fun h₄ hx₄ => ?_
    have up₄ : ∀ b o, h₃.get? b = some o → h₄.get? b = some o := fun b o e => hx₄ b o (Nat.ne_of_lt (Heap.lt_size e)) e
    have F₄ := fr_up F₃ up₄
    have N₄ := news_up N₃ up₄
    show wpAny _ _ (do holding [Value.int x t] (assign (.Name (Str.ofString "word") _) _ (.ref a)); do holding [] (assign (.Name (Str.ofString "often") _) _ (.int x t)); pure ()) _ _ _
    refine wpAny_bind (wpAny_holding (wpAny_assign_Name (storeC_L F₄ N₄ fun h₅ F₅ N₅ => ?_)))
    refine wpAny_bind (wpAny_holding (wpAny_assign_Name (storeC_L F₅ N₅ fun h₆ F₆ N₆ => wpAny_pure ?_)))
    refine wpAny_tests_nil ?_
    refine KBc.ite_yes rfl ?_
    obtain ⟨hkc, kk, t1, u1, v1, hkd⟩ := id hk3
    have hkt : h₆.IsTuple a #[.str (Str.ofString "at") t1, .int n' u1, .str (Str.ofString "sum") v1] := ⟨ok, F₆.keep _ _ (N _ (sub₀ _ hk2)).1, hkc, kk, hkd⟩
    refine Tuple_ (spliced_more (Tuple_ (spliced_more (wpAny_Constant_str (spliced_more (wpAny_BinOp (Subscript_ (nameC_L F₆ rfl (wpAny_Constant_int ?_)))))))))
    refine item_tuple (j := 1) hkt (by decide) (by decide) rfl rfl ?_
    refine nameC_C rfl (cell_at hcS F₆.keep) (add_int (spliced_more (wpAny_Constant_str ?_)))
    refine spliced_none (newTuple_N F₆ N₆ fun h₇ F₇ N₇ => ?_)
    refine spliced_more (nameC_L F₇ rfl ?_)
    refine spliced_none (newTuple_N F₇ N₇ fun h₈ F₈ N₈ => ?_)
    have hK6 : ∀ p ∈ own ++ (D', lst ys) :: nx₁, h₆.objs.size ≠ p.1 := fun p hp => Nat.ne_of_gt (news_lt N₆ hp)
    have hT7 : ∀ p ∈ own ++ (D', lst ys) :: nx₁, h₇.objs.size ≠ p.1 := fun p hp => Nat.ne_of_gt (news_lt N₇ (.tail _ hp))
    have hsn := shiftL_snoc (step := step) hli
    exact elt_fin F₈ N₈ hT7 hK6 hap hsn hps rfl rfl key_obj
  · rintro Dl ys h' tk nx' up hD hDn hnx ⟨ps, hps⟩
    rw [hes, List.take_length] at hps
    exact h Dl ys h' tk nx' ps up hD hDn hnx hps
end
end Mine
end

section
open PySem PySem.W PyProof.Rows PySem.Calls
set_option linter.unusedVariables false
set_option linter.unusedSimpArgs false
set_option maxRecDepth 100000
set_option maxHeartbeats 4000000
namespace Mine
/-! ### whole = add_callers(whole, dict([..])) -/
def lawAdd : PySem.Expr := match lawStmt 3 with
  | .For _ _ [_, .For _ _ [.Assign _ v _] _ _, _] _ _ => v
  | e => .Constant (.int 0) 0 default
def dictT (l : List (Int × Int)) : List (Int × Int) := l.foldl (fun T p => setT T p.1 p.2) []
theorem dictT_snoc (l : List (Int × Int)) (p : Int × Int) : dictT (l ++ [p]) = setT (dictT l) p.1 p.2 := by unfold dictT; rw [List.foldl_append]; rfl
theorem putAll_snoc (ps : List (Int × Addr × Value)) (p : Int × Addr × Value) : putAll [] (ps ++ [p]) = storedH (putAll [] ps) (key3 p.1) p.2.1 p.2.2 := by unfold putAll; rw [List.foldl_append]; rfl
theorem Prs.fits {nx : List (Addr × Obj)} {ys l ps} (h : Prs nx ys l ps) : Fits (putAll [] ps) (dictT l) := by
  induction h with
  | nil => exact .nil
  | snoc _ a b c d e ih => rw [putAll_snoc, dictT_snoc]; exact ih.stored _ _ _ _
theorem Prs.keys {nx : List (Addr × Obj)} {ys l ps} (h : Prs nx ys l ps) : ∀ z ∈ putAll [] ps, ∃ n ok, z.1 = key3 n ∧ (z.2.1, ok) ∈ nx ∧ keyObj n ok := by
  induction h with
  | nil => intro z hz; cases hz
  | snoc _ a b c d e ih =>
    intro z hz
    rw [putAll_snoc] at hz
    rcases mem_storedH hz with ⟨y, hy, e1, e2⟩ | ⟨e1, e2⟩
    · rw [e1, e2]; exact ih y hy
    · rw [e1, e2]; exact ⟨_, _, rfl, d, e⟩
theorem Prs.pairs {prog : Program} {w : World} {h : Heap} {nx : List (Addr × Obj)} {ys l ps} (P : Prs nx ys l ps) (hn : ∀ p ∈ nx, h.get? p.1 = some p.2) : PairsAt prog w h ys.toArray ps := by
  refine ⟨by rw [List.size_toArray, P.len.1, P.len.2], ?_⟩
  have key : ∀ (i : Nat) (v : Value), ys[i]? = some v → ∃ (T : Addr) (p : Int × Addr × Value), v = Value.ref T ∧ ps[i]? = some p ∧ h.IsTuple T #[.ref p.2.1, p.2.2] ∧ (tk3 prog w).is h (key3 p.1) p.2.1 := by
    induction P with
    | nil => intro i v e; cases e
    | @snoc ys l ps T K oT oK n x t k P a b c d e ih =>
      intro i v hv
      have hl := P.len
      by_cases hi : i < ys.length
      · rw [List.getElem?_append_left hi] at hv
        obtain ⟨T', p, e1, e2, e3⟩ := ih i v hv
        exact ⟨T', p, e1, by rw [List.getElem?_append_left (by omega)]; exact e2, e3⟩
      · have hi' : i = ys.length := by
          have := (List.getElem?_eq_some_iff.mp hv).1
          rw [List.length_append, List.length_singleton] at this
          omega
        subst hi'
        rw [List.getElem?_append_right (Nat.le_refl _), Nat.sub_self] at hv
        have hv' : v = .ref T := (Option.some.inj hv).symm
        refine ⟨T, (n, K, .int x t), hv', ?_, ⟨oT, hn _ a, b, k, c⟩, key_is (hn _ d) e⟩
        rw [hl.1, ← hl.2, List.getElem?_append_right (Nat.le_refl _), Nat.sub_self]; rfl
  intro i v hv
  exact key i v (by rw [← List.getElem?_toArray]; exact hv)

section
variable {prog : Program} {w : World} {A : Around} {E : Value → Shared → Prop} {s : Shared} {h₀ : Heap} {L : Addr} {led nx : List (Addr × Obj)} {m mg mb : Str → Option Value}
theorem news_fresh {h h' : Heap} {a : Addr} {o : Obj} (F : Fr h₀ L h m) (hn : h.get? a = none) (ho : h'.get? a = some o) : h'.get? a = some o ∧ a ≠ L ∧ h₀.get? a = none := by
  refine ⟨ho, fun e => ?_, ?_⟩
  · obtain ⟨oL, _, _, eL, _⟩ := F.ns
    rw [e, eL] at hn; cases hn
  · cases q : h₀.get? a with
    | none => rfl
    | some o' => have := F.keep _ _ q; rw [hn] at this; cases this

theorem eval_add {l lw : List (Int × Int)} {step : Int} {oS : Obj} {ts : Tok} {Q : Value → Shared → Prop} (G : Gd w mg mb h₀) (F : Fr h₀ L s.heap m) (N : News h₀ L s.heap led) (sub₀ : ∀ p ∈ nx, p ∈ led)
    (Tw : HasTab prog w m nx (Str.ofString "whole") lw) (Tm : HasTab prog w m nx (Str.ofString "made") l)
    (hS : (L + 2, oS) ∈ led) (hoS : oS.data = .cell (some (.int step ts))) (hz : l.length ≤ 1000) (hz2 : lw.length + (dictT (shiftL l step)).length ≤ 10000) (hh : A.handled = none) (hroom : A.depth < recursionLimit) (hu : A.units + 8 < cLine)
    (h : ∀ h' tk d new, Fr h₀ L h' m → News h₀ L h' (new ++ led) → Fresh s.heap new → TabIn prog w (new ++ nx) d (mergeT lw (dictT (shiftL l step))) → Q (.ref d) { s with heap := h', toks := tk }) :
    wpAny (model prog w) A (eval lawAdd (lawEnv L)) Q E s := by
  obtain ⟨dw, hmw, hTw⟩ := Tw
  obtain ⟨dm, hmm, hTm⟩ := Tm
  refine Call_ (nameX_K F G.X G.T (by rfl) (callWith_K (G.keeps F.keep).X (by rfl) (spliced_more (nameX_L F hmw (spliced_more ?_)))))
  refine Call_ (nameX_B F G.X G.T (by rfl) boot_dict (by decide) (PyProof.Rows.callWith_type1 (spliced_more ?_)))
  refine eval_comp G F N sub₀ hmm hTm hS hoS hz hh fun D ys h₁ tk₁ nx₁ ps up₁ hD hDn hnx hP => spliced_none ?_
  have F₁ := fr_up F up₁.1
  have hPl : ps.length ≤ 1000 := by rw [hP.len.2]; unfold shiftL; rw [List.length_map]; exact hz
  refine call_dict_pairs hh (by omega) hD (hP.pairs fun p hp => (hnx p hp).1) hPl fun h₂ tk₂ up₂ hD₂ => spliced_none ?_
  have hdS : (h₁.objs.size == sysModules) = false := F₁.notModules (modules_low G.T.nolimit)
  have F₂ := fr_up F₁ up₂
  have hd := dobj_of hD₂
  obtain ⟨od, hod, _⟩ := hd
  have hN₂ : News h₀ L h₂ (((h₁.objs.size, od) :: nx₁) ++ led) := fun p hp => by
    rcases List.mem_append.mp hp with hp | hp
    · rcases List.mem_cons.mp hp with rfl | hp
      · exact news_fresh F₁ (size_none _) hod
      · exact news_fresh F (hnx p hp).2.1 (up₂ _ _ (hnx p hp).1)
    · exact ⟨up₂ _ _ (up₁.1 _ _ (N p hp).1), (N p hp).2⟩
  have hT₂ : TabIn prog w ((h₁.objs.size, od) :: nx₁) h₁.objs.size (dictT (shiftL l step)) := TabIn.of hdS hD₂ hod (.head _) hP.fits fun z hz => by
    obtain ⟨n, ok, a, b, c⟩ := hP.keys z hz
    exact ⟨n, ok, a, .tail _ b, c⟩
  refine ⟨(G.keeps F₂.keep).X, wpAny_call (add_tabs (nx := ((h₁.objs.size, od) :: nx₁) ++ nx) G F₂ hN₂ (fun p hp => ?_) (hTw.mono fun p hp => List.mem_append_right _ hp) (hT₂.mono fun p hp => List.mem_append_left _ hp) hz2 hh hroom hu fun r o h₃ tk₃ up₃ F₃ N₃ hr T₃ => ?_)⟩
  · rcases List.mem_append.mp hp with hp | hp
    · exact List.mem_append_left _ hp
    · exact List.mem_append_right _ (sub₀ p hp)
  · have hf : Fresh s.heap ((h₁.objs.size, od) :: nx₁) := fun p hp => by
      rcases List.mem_cons.mp hp with rfl | hp
      · exact up₁.none (size_none _)
      · exact (hnx p hp).2.1
    exact h h₃ tk₃ r ((r, o) :: (h₁.objs.size, od) :: nx₁) F₃ N₃ (Fresh.append (new := (h₁.objs.size, od) :: nx₁) (new' := [(r, o)]) hf (fun p hp => by rw [List.mem_singleton.mp hp]; exact hr) fun b o e => up₂ b o (up₁.1 b o e)) T₃
end
end Mine
end

section
open PySem PySem.W PyProof.Rows PySem.Calls
set_option linter.unusedVariables false
set_option linter.unusedSimpArgs false
set_option maxRecDepth 100000
set_option maxHeartbeats 4000000
namespace Mine
/-! ### the second loop: made -/
def lawInner : Stmt := match lawStmt 3 with
  | .For _ _ [_, x, _] _ _ => x
  | e => e
def wholeT (tm : List (Int × Int)) (j : Nat) : List (Int × Int) := (List.range j).foldl (fun W (step : Nat) => mergeT W (dictT (shiftL tm (step : Int)))) []
theorem wholeT_succ (tm : List (Int × Int)) (j : Nat) : wholeT tm (j + 1) = mergeT (wholeT tm j) (dictT (shiftL tm (j : Int))) := by unfold wholeT; rw [List.range_succ, List.foldl_append]; rfl
def HasTabs (prog : Program) (w : World) (m : Str → Option Value) (led : List (Addr × Obj)) (tabs : List (Str × List (Int × Int))) : Prop := ∀ e ∈ tabs, HasTab prog w m led e.1 e.2
section
variable {prog : Program} {w : World} {m : Str → Option Value} {led led' : List (Addr × Obj)} {tabs : List (Str × List (Int × Int))}
theorem HasTabs.mono (T : HasTabs prog w m led tabs) (sub : ∀ p ∈ led, p ∈ led') : HasTabs prog w m led' tabs := fun e he => (T e he).mono sub
theorem HasTabs.other {y : Str} {v : Value} (T : HasTabs prog w m led tabs) (hne : (tabs.all fun e => e.1 != y) = true) : HasTabs prog w (fun z => if z = y then some v else m z) led tabs := fun e he =>
  (T e he).other (by have := List.all_eq_true.mp hne e he; simpa using this)
theorem HasTabs.cons {x : Str} {l : List (Int × Int)} (h : HasTab prog w m led x l) (T : HasTabs prog w m led tabs) : HasTabs prog w m led ((x, l) :: tabs) := fun e he => by
  rcases List.mem_cons.mp he with rfl | he
  · exact h
  · exact T e he
theorem HasTabs.tail {x : Str × List (Int × Int)} (T : HasTabs prog w m led (x :: tabs)) : HasTabs prog w m led tabs := fun e he => T e (.tail _ he)
end
/-- what both loops keep: own, the step's cell, the rest -/
def St4 (prog : Program) (w : World) (L l : Addr) (oM : Obj) (own : List (Addr × Obj)) (tabs : List (Str × List (Int × Int))) (m : Str → Option Value) (nx : List (Addr × Obj)) : Prop :=
  ∃ oS vS rest, nx = own ++ (L + 2, oS) :: rest ∧ oS.data = .cell vS ∧ (∀ p ∈ rest, p.1 ≠ L + 2) ∧ (∀ p ∈ rest, ∀ q ∈ own, p.1 ≠ q.1) ∧ (L + 1, oM) ∈ rest ∧ HasTabs prog w m rest tabs ∧ m (Str.ofString "script") = some (.ref l)

theorem shufA {own' own rest new : List (Addr × Obj)} {c : Addr × Obj} : ∀ p ∈ own' ++ (own ++ c :: (new ++ rest)), p ∈ new ++ ((own' ++ own) ++ c :: rest) := by
  intro p hp
  simp only [List.mem_append, List.mem_cons] at hp ⊢
  rcases hp with hp | hp | hp | hp | hp
  · exact .inr (.inl (.inl hp))
  · exact .inr (.inl (.inr hp))
  · exact .inr (.inr (.inl hp))
  · exact .inl hp
  · exact .inr (.inr (.inr hp))
section
variable {prog : Program} {w : World} {A : Around} {E : Value → Shared → Prop} {s : Shared} {h₀ : Heap} {L : Addr} {led nx : List (Addr × Obj)} {m mg mb : Str → Option Value}
theorem law_inner {l : Addr} {oM : Obj} {own : List (Addr × Obj)} {tw tf tm : List (Int × Int)} {k : Nat} {t : Tok} {Q : Flow → Shared → Prop} (G : Gd w mg mb h₀) (F : Fr h₀ L s.heap m) (N : News h₀ L s.heap nx) (hown : ∀ p ∈ own, p.1 ≠ L + 2)
    (J : St4 prog w L l oM own [(Str.ofString "whole", []), (Str.ofString "wrong", tw), (Str.ofString "falls", tf), (Str.ofString "made", tm)] m nx) (hnum : m (Str.ofString "number") = some (.int (k : Nat) t)) (hk : k < 20)
    (hb : tm.length ≤ 1000) (hb2 : ∀ j, j < k → (wholeT tm j).length + (dictT (shiftL tm (j : Nat))).length ≤ 10000) (hh : A.handled = none) (hroom : A.depth < recursionLimit) (hu : A.units + 8 < cLine)
    (h : ∀ h' tk m' nx', Fr h₀ L h' m' → News h₀ L h' nx' → St4 prog w L l oM own [(Str.ofString "whole", wholeT tm k), (Str.ofString "wrong", tw), (Str.ofString "falls", tf), (Str.ofString "made", tm)] m' nx' → Q .next { s with heap := h', toks := tk }) :
    wpAny (model prog w) A (exec lawInner (lawEnv L)) Q E s := by
  refine for_src (h₀ := h₀) (Call_ (nameX_B F G.X G.T (by rfl) boot_range (by decide) (PyProof.Rows.callWith_type1 (spliced_more (nameX_L F hnum (spliced_none (call_range_1 ?_)))))))
  refine src_range hh (Heap.get?_push_size _ rfl) (small0 k hk).1 (small0 k hk).2 fun I h₁ hsrc₀ => ?_
  have hsrc := fun x px => src0 (hsrc₀ x px)
  clear hsrc₀
  refine ⟨I, _, _, _, m, nx, fun j m nx => St4 prog w L l oM own [(Str.ofString "whole", wholeT tm j), (Str.ofString "wrong", tw), (Str.ofString "falls", tf), (Str.ofString "made", tm)] m nx, rfl, hsrc _ _, (fun hm => nomatch hm), (fun p hp b hb => nomatch hb), F.push _, N.pushKeep _, J, ?_, ?_⟩
  · rintro j v m₂ nx₂ h₂ tk₂ own' E' hj ⟨u, rfl⟩ ⟨oS, vS, rest, rfl, hoS, hr2, hro, hrM, hT, hl⟩ hap F₂ N₂
    have hj' : j < k := hj
    have N₂' : News h₀ L h₂ ((own' ++ own) ++ (L + 2, oS) :: rest) := fun p hp => N₂ p (by rw [← List.append_assoc]; exact hp)
    refine wpAny_assign_Name (storeX_at F₂ N₂' ?_ hr2 rfl hoS fun h₃ oS₃ F₃ N₃ hoS₃ => ?_)
    · intro p hp
      rcases List.mem_append.mp hp with hp | hp
      · exact fun e => hap _ (List.mem_append_right _ (.head _)) p hp e.symm
      · exact hown p hp
    refine wpAny_execs_cons (wpAny_Assign_Name (eval_add (nx := rest) G F₃ N₃ (fun p hp => List.mem_append_right _ (.tail _ hp)) (hT _ (.head _)) (hT _ (.tail _ (.tail _ (.tail _ (.head _))))) (List.mem_append_right _ (.head _)) hoS₃ hb (hb2 j hj') hh hroom hu fun h₄ tk₄ d₄ new F₄ N₄ f₄ T₄ => ?_) (by rfl))
    refine storeX_L F₄ N₄ fun h₅ F₅ N₅ => ?_
    show wpAny _ _ (execs _ _) _ _ _
    have a₄ := f₄.apart (fun q hq => (N₃ q hq).1)
    refine wpAny_execs_nil (TurnEnd.next (nx := own ++ (L + 2, oS₃) :: (new ++ rest)) F₅ (fun p hp => N₅ p (shufA p hp)) ?_ ⟨oS₃, _, new ++ rest, rfl, hoS₃, ?_, ?_, List.mem_append_right _ hrM, ?_, hl⟩)
    · intro p hp q hq
      rcases List.mem_append.mp hp with hp | hp
      · exact hap p (List.mem_append_left _ hp) q hq
      · rcases List.mem_cons.mp hp with rfl | hp
        · exact hap (L + 2, oS) (List.mem_append_right _ (.head _)) q hq
        · rcases List.mem_append.mp hp with hp | hp
          · exact a₄ p hp q (List.mem_append_left _ (List.mem_append_left _ hq))
          · exact hap p (List.mem_append_right _ (.tail _ hp)) q hq
    · intro p hp
      rcases List.mem_append.mp hp with hp | hp
      · exact a₄ p hp (L + 2, oS₃) (List.mem_append_right _ (.head _))
      · exact hr2 p hp
    · intro p hp q hq
      rcases List.mem_append.mp hp with hp | hp
      · exact a₄ p hp q (List.mem_append_left _ (List.mem_append_right _ hq))
      · exact hro p hp q hq
    · rw [wholeT_succ]
      exact .cons (.new T₄) ((hT.tail.mono fun p hp => List.mem_append_right _ hp).other (by rfl))
  · rintro h' tk m' nx' F' N' hJ
    exact h h' tk m' nx' F' N' hJ
end
end Mine
end

section
open PySem PySem.W PyProof.Rows PySem.Calls
set_option linter.unusedVariables false
set_option linter.unusedSimpArgs false
set_option maxRecDepth 100000
set_option maxHeartbeats 4000000
namespace Mine
def madeT : Nat → List (Int × Int)
  | 0 => [(0, 1)]
  | i + 1 => wholeT (madeT i) (i + 1)
theorem madeT_small : ∀ i, i < 4 → (madeT i).length ≤ 1000 ∧ ∀ j, j < i + 1 → (wholeT (madeT i) j).length + (dictT (shiftL (madeT i) (j : Nat))).length ≤ 10000 := by decide +kernel
theorem small1' : ∀ n : Nat, n ≤ 4 → Builtin.Range.small 1 ((n : Int) + 1) 1 = true ∧ Builtin.Range.rangeSize 1 ((n : Int) + 1) 1 = (n : Int) := by decide +kernel
theorem shufB {own rest : List (Addr × Obj)} {c d : Addr × Obj} : ∀ p ∈ own ++ c :: (d :: rest), p ∈ d :: (own ++ ([] ++ c :: rest)) := by
  intro p hp
  simp only [List.mem_append, List.mem_cons, List.nil_append] at hp ⊢
  rcases hp with hp | hp | hp | hp
  · exact .inr (.inl hp)
  · exact .inr (.inr (.inl hp))
  · exact .inl hp
  · exact .inr (.inr (.inr hp))
section
variable {prog : Program} {w : World} {A : Around} {E : Value → Shared → Prop} {s : Shared} {h₀ : Heap} {L : Addr} {led nx : List (Addr × Obj)} {m mg mb : Str → Option Value}
theorem law_s4 {st : Stmt} (hst : st = lawStmt 3) {l : Addr} {oM : Obj} {tw tf : List (Int × Int)} {n : Nat} {t : Tok} {Q : Flow → Shared → Prop} (G : Gd w mg mb h₀) (F : Fr h₀ L s.heap m) (N : News h₀ L s.heap nx)
    (J : St4 prog w L l oM [] [(Str.ofString "wrong", tw), (Str.ofString "falls", tf), (Str.ofString "made", madeT 0)] m nx) (hoM : oM.data = .cell (some (.int (n : Nat) t))) (hn4 : n ≤ 4)
    (hh : A.handled = none) (hroom : A.depth < recursionLimit) (hu : A.units + 8 < cLine)
    (h : ∀ h' tk m' nx', Fr h₀ L h' m' → News h₀ L h' nx' → St4 prog w L l oM [] [(Str.ofString "wrong", tw), (Str.ofString "falls", tf), (Str.ofString "made", madeT n)] m' nx' → Q .next { s with heap := h', toks := tk }) :
    wpAny (model prog w) A (exec st (lawEnv L)) Q E s := by
  subst hst
  have hmM : (L + 1, oM) ∈ nx := by
    obtain ⟨oS, vS, rest, rfl, _, _, _, hm, _⟩ := J
    exact List.mem_append_right _ (.tail _ hm)
  refine for_src (h₀ := h₀) (Call_ (nameX_B F G.X G.T (by rfl) boot_range (by decide) (PyProof.Rows.callWith_type1 (spliced_more (wpAny_Constant_int (spliced_more ?_))))))
  refine wpAny_BinOp (nameX_C (o := oM) N rfl hmM hoM (wpAny_Constant_int (add_int (spliced_none (call_range_2 ?_)))))
  refine src_range hh (Heap.get?_push_size _ rfl) (small1' n hn4).1 (small1' n hn4).2 fun I h₁ hsrc₀ => ?_
  have hsrc := fun x px => src1 (hsrc₀ x px)
  clear hsrc₀
  refine ⟨I, _, _, _, m, nx, fun i m nx => St4 prog w L l oM [] [(Str.ofString "wrong", tw), (Str.ofString "falls", tf), (Str.ofString "made", madeT i)] m nx, rfl, hsrc _ _, (fun hm => nomatch hm), (fun p hp b hb => nomatch hb), F.push _, N.pushKeep _, J, ?_, ?_⟩
  · rintro i v m₂ nx₂ h₂ tk₂ own E' hi ⟨u, rfl⟩ ⟨oS, vS, rest, rfl, hoS, hr2, hro, hrM, hT, hl⟩ hap F₂ N₂
    have hi' : i < n := hi
    have hbnd := madeT_small i (by omega)
    refine turn_name F₂ N₂ fun h₃ tk₃ F₃ N₃ => ?_
    have Fp := F₃.push { cls := .type "dict", data := .dict #[] }
    have Np := News.push F₃ N₃ { cls := .type "dict", data := .dict #[] }
    have hdS : (h₃.objs.size == sysModules) = false := F₃.notModules (modules_low G.T.nolimit)
    have hfr : ∀ q ∈ own ++ ([] ++ (L + 2, oS) :: rest), h₃.objs.size ≠ q.1 := fun q hq => Nat.ne_of_gt (news_lt N₃ hq)
    have hT₀ : TabIn prog w ((h₃.objs.size, { cls := .type "dict", data := .dict #[] }) :: rest) h₃.objs.size [] := ⟨hdS, _, [], .head _, ⟨⟨rfl, rfl, rfl⟩, #[], 0, rfl, rfl, List.nodup_nil⟩, .nil, fun z hz => nomatch hz⟩
    refine wpAny_execs_cons (wpAny_Assign_Name (wpAny_Dict_empty (storeX_L Fp Np fun h₄ F₄ N₄ => ?_)) (by rfl))
    show wpAny _ _ (execs (lawInner :: _) _) _ _ _
    refine wpAny_execs_cons (law_inner (own := own) (l := l) (oM := oM) (tw := tw) (tf := tf) (tm := madeT i) (k := i + 1) G F₄ (fun p hp => N₄ p (shufB p hp)) ?_ ⟨oS, vS, (h₃.objs.size, { cls := .type "dict", data := .dict #[] }) :: rest, rfl, hoS, ?_, ?_, .tail _ hrM, ?_, hl⟩ rfl (by omega) hbnd.1 hbnd.2 hh hroom hu fun h₅ tk₅ m₅ nx₅ F₅ N₅ J₅ => ?_)
    · intro p hp e
      exact hap (L + 2, oS) (.head _) p hp e.symm
    · intro p hp
      rcases List.mem_cons.mp hp with rfl | hp
      · exact hfr (L + 2, oS) (List.mem_append_right _ (.head _))
      · exact hr2 p hp
    · intro p hp q hq
      rcases List.mem_cons.mp hp with rfl | hp
      · exact hfr q (List.mem_append_left _ hq)
      · exact hap p (.tail _ hp) q hq
    · exact .cons (.new hT₀) (((hT.mono fun p hp => .tail _ hp).other (by rfl)).other (by rfl))
    · obtain ⟨oS₅, vS₅, rest₅, rfl, hoS₅, hr2₅, hro₅, hrM₅, hT₅, hl₅⟩ := J₅
      have hwhole := hT₅ _ (.head _)
      obtain ⟨dw, hmw, hTw⟩ := hwhole
      show wpAny _ _ (execs _ _) _ _ _
      refine wpAny_execs_cons (wpAny_Assign_Name (nameX_L F₅ hmw (storeX_L F₅ N₅ fun h₆ F₆ N₆ => ?_)) (by rfl))
      show wpAny _ _ (execs _ _) _ _ _
      refine wpAny_execs_nil (TurnEnd.next (nx := [] ++ (L + 2, oS₅) :: rest₅) F₆ N₆ ?_ ⟨oS₅, vS₅, rest₅, rfl, hoS₅, hr2₅, (fun p hp q hq => nomatch hq), hrM₅, ?_, hl₅⟩)
      · intro p hp q hq
        rcases List.mem_cons.mp hp with rfl | hp
        · exact hap (L + 2, oS) (.head _) q hq
        · exact hro₅ p hp q hq
      · refine .cons ((hT₅ _ (.tail _ (.head _))).other (show Str.ofString "wrong" ≠ Str.ofString "made" by decide)) (.cons ((hT₅ _ (.tail _ (.tail _ (.head _)))).other (show Str.ofString "falls" ≠ Str.ofString "made" by decide)) (.cons (.new hTw) fun e he => nomatch he))
  · rintro h' tk m' nx' F' N' hJ
    exact h h' tk m' nx' F' N' hJ
end
end Mine
end

section
open PySem PySem.W PyProof.Rows PySem.Calls
set_option linter.unusedVariables false
set_option linter.unusedSimpArgs false
set_option maxRecDepth 100000
set_option maxHeartbeats 4000000
namespace Mine
/-! ### the first test -/
def facL : List Int := [1, 2, 6, 24]
section
variable {prog : Program} {w : World} {A : Around} {E : Value → Shared → Prop} {s : Shared} {h₀ : Heap} {L : Addr} {led nx : List (Addr × Obj)} {m mg mb : Str → Option Value}
theorem HasTab.isTab {d : Addr} {l : List (Int × Int)} (T : TabIn prog w nx d l) (N : News h₀ L s.heap nx) : IsTab prog w s.heap d l := let ⟨zs, D, F, _⟩ := T.dict N; ⟨zs, D, F⟩
theorem law_s5 {st : Stmt} (hst : st = lawStmt 4) {oM : Obj} {tw tf tm : List (Int × Int)} {n : Nat} {t : Tok} {Q : Flow → Shared → Prop} (G : Gd w mg mb h₀) (F : Fr h₀ L s.heap m) (N : News h₀ L s.heap nx)
    (hT : HasTabs prog w m nx [(Str.ofString "wrong", tw), (Str.ofString "falls", tf), (Str.ofString "made", tm)]) (hmM : (L + 1, oM) ∈ nx) (hoM : oM.data = .cell (some (.int (n : Nat) t))) (hn1 : 1 ≤ n) (hn4 : n ≤ 4)
    (e1 : eqT tw tf = true) (e2 : eqT tw tm = true) (e3 : (tw.map (·.2)).sum = facL.getD (n - 1) 0)
    (hh : A.handled = none) (hroom : A.depth < recursionLimit) (hu : A.units + 64 < cLine)
    (h : ∀ h' tk nx', Fr h₀ L h' m → News h₀ L h' (nx' ++ nx) → Q .next { s with heap := h', toks := tk }) :
    wpAny (model prog w) A (exec st (lawEnv L)) Q E s := by
  subst hst
  obtain ⟨dw, hmw, Tw⟩ := hT _ (.head _)
  obtain ⟨df, hmf, Tf⟩ := hT _ (.tail _ (.head _))
  obtain ⟨dm, hmm, Tm⟩ := hT _ (.tail _ (.tail _ (.head _)))
  obtain ⟨zw, Dw, Fw, _⟩ := Tw.dict N
  obtain ⟨zf, Df, Ff, _⟩ := Tf.dict N
  obtain ⟨zm, Dm, Fm, _⟩ := Tm.dict N
  refine wpAny_If (wpAny_isTrue_BoolOp (wpAny_allTrue_Or_cons (wpAny_isTrue_Compare1 (nameX_L F hmw (nameX_L F hmf (ne_tabs Tw.1 Tf.1 (by omega) Dw Df Fw Ff (wpAny_truthy_bool ?_)))))))
  refine KBy.ite_no (by rw [e1]; decide) ?_
  refine wpAny_allTrue_Or_cons (wpAny_isTrue_Compare1 (nameX_L F hmw (nameX_L F hmm (ne_tabs Tw.1 Tm.1 (by omega) Dw Dm Fw Fm (wpAny_truthy_bool ?_)))))
  refine KBy.ite_no (by rw [e2]; decide) ?_
  refine wpAny_allTrue_Or_cons (wpAny_isTrue_Compare1 (Call_ (nameX_K F G.X G.T (by rfl) (callWith_K (G.keeps F.keep).X (by rfl) (spliced_more (nameX_L F hmw (spliced_none ⟨(G.keeps F.keep).X, ?_⟩)))))))
  refine wpAny_call (count_calls_ok (G.keeps F.keep) Tw.1 ⟨zw, Dw, Fw⟩ hh hroom fun t₁ h₁ tk₁ up₁ => ?_)
  have F₁ := fr_up F up₁
  have N₁ := news_up N up₁
  refine Subscript_ (List_ (spliced_more (wpAny_Constant_int (spliced_more (wpAny_Constant_int (spliced_more (wpAny_Constant_int (spliced_more (wpAny_Constant_int (spliced_none (newList_N F₁ N₁ fun h₂ F₂ N₂ => ?_)))))))))))
  refine wpAny_BinOp (nameX_C (o := oM) N₂ rfl (.tail _ hmM) hoM (wpAny_Constant_int (sub_int ?_)))
  have hi : ∀ a b c d : Tok, IntsAre [Value.int 1 a, Value.int 2 b, Value.int 6 c, Value.int 24 d] facL := fun a b c d => .cons _ _ (.cons _ _ (.cons _ _ (.cons _ _ .nil)))
  refine kba_turn (value' := .Name (Str.ofString "numbers") default) (by intro _; rfl) (item_list_intsR (ns := facL) ⟨_, (N₂ _ (.head _)).1, rfl, _, rfl⟩ (hi _ _ _ _) (by omega) (show (n : Int) - 1 < 4 by omega) (by omega) fun t₂ => ne_int (wpAny_truthy_bool ?_))
  have e4 : ((n : Int) - 1).toNat = n - 1 := by omega
  refine KBy.ite_no (by rw [e3, e4]; simp) ?_
  refine wpAny_allTrue_Or_nil ?_
  refine KBy.ite_no (by decide) ?_
  exact wpAny_execs_nil (h _ _ [_] F₂ N₂)
end
end Mine
end

section
open PySem PySem.W PyProof.Rows PySem.Calls
set_option linter.unusedVariables false
set_option linter.unusedSimpArgs false
set_option maxRecDepth 100000
set_option maxHeartbeats 4000000
namespace Mine
/-! ### the law's short statements -/
section
variable {M : Model} {A : Around} {E : Value → Shared → Prop} {s : Shared} {env : Env}
theorem wpC_Assign_Tuple_swapped {elts : List PySem.Expr} {k : Nat} {tpos pos : Pos} {value : PySem.Expr} {names : List Str} {Q : Flow → Shared → Prop}
    (h : wpC M A (eval value env) (fun v s₁ => wpAny M A (unpackItems v names.length none) (fun items s₂ =>
      wpAny M A (assignInOrder (names.reverse.map fun n => bindName env n) items.reverse) (fun _ => Q .next) E s₂) E s₁) E s)
    (hs : swapsWithSole [.Tuple elts k tpos] value pos.line env = pure false := by rfl)
    (hw : swappedStores [.Tuple elts k tpos] value env = pure (some names) := by rfl) :
    wpC M A (exec (.Assign [.Tuple elts k tpos] value pos) env) Q E s := by
  rw [exec_Assign]
  refine wpC_step (wpAny_standAt ?_)
  rw [hs]
  refine wpC_bind (wpC_pure ?_)
  rw [if_neg (by decide)]
  refine wpC_bind (wpC_mono h (fun v s₁ h₁ => ?_) fun _ _ x => x)
  rw [hw]
  refine wpC_any ?_
  refine wpAny_bind (wpAny_pure ?_)
  show wpAny M A (do rule "assign.swapped-stores"; let items ← unpackItems v names.length none; assignInOrder (names.reverse.map fun n => bindName env n) items.reverse; pure .next) Q E s₁
  exact wpAny_bind (wpAny_rule (wpAny_bind (wpAny_mono h₁ (fun items s₂ h₂ => wpAny_bind (wpAny_mono h₂ (fun _ _ x => wpAny_pure x) fun _ _ x => x)) fun _ _ x => x)))
theorem wpC_Tuple {elts : List PySem.Expr} {k : Nat} {pos : Pos} {Q : Value → Shared → Prop}
    (h : wpC M A (spliced (backTo pos (starEach elts env))) (fun vs s₁ => wpAny M A (newTuple vs) Q E s₁) E s) : wpC M A (eval (.Tuple elts k pos) env) Q E s := by
  show wpC M A (do standAt pos; newTuple (← spliced (backTo pos (starEach elts env)))) Q E s
  exact wpC_step (wpAny_standAt (wpC_bind (wpC_mono h (fun _ _ x => wpC_any x) fun _ _ x => x)))
theorem wpC_spliced_more {e : PySem.Expr} {rest : List PySem.Expr} {pos : Pos} {Q : List Value → Shared → Prop}
    (h : wpC M A (eval e env) (fun v s₁ => wpAny M A (spliced (backTo pos (starEach rest env))) (fun vs s₂ => Q (v :: vs) s₂) E s₁) E s)
    (he : starEach (e :: rest) env = (false, eval e env) :: starEach rest env := by rfl) : wpC M A (spliced (backTo pos (starEach (e :: rest) env))) Q E s := by
  rw [he]
  show wpC M A (spliced ((false, eval e env) :: backTo pos (starEach rest env))) Q E s
  rw [spliced]
  refine wpC_bind (wpC_mono h (fun v s₁ h₁ => wpC_any ?_) fun _ _ x => x)
  simp only [Bool.false_eq_true, if_false]
  exact wpAny_bind (wpAny_pure (wpAny_bind (wpAny_holding (wpAny_mono h₁ (fun vs s₂ h₂ => wpAny_pure h₂) fun _ _ x => x))))
end
section
variable {prog : Program} {w : World} {A : Around} {E : Value → Shared → Prop} {s : Shared} {h₀ : Heap} {L : Addr} {led nx : List (Addr × Obj)} {m mg mb : Str → Option Value}
theorem Fresh.down {h h' : Heap} {new : List (Addr × Obj)} (f : Fresh h' new) (up : ∀ b o, h.get? b = some o → h'.get? b = some o) : Fresh h new := fun p hp => by
  have := f p hp
  cases q : h.get? p.1 with
  | none => rfl
  | some o => rw [up _ _ q] at this; cases this
theorem fresh_top {h h' : Heap} (up : ∀ b o, h.get? b = some o → h'.get? b = some o) : h.get? h'.objs.size = none := by
  cases q : h.get? h'.objs.size with
  | none => rfl
  | some o => exact absurd (Heap.lt_size (up _ _ q)) (Nat.lt_irrefl _)
theorem empty_tab {d : Addr} (hS : (d == sysModules) = false) (hm : (d, { cls := .type "dict", data := .dict #[] }) ∈ led) : TabIn prog w led d [] :=
  ⟨hS, _, [], hm, ⟨⟨rfl, rfl, rfl⟩, #[], 0, rfl, rfl, List.nodup_nil⟩, .nil, fun z hz => nomatch hz⟩
theorem s2_end {l : Addr} {Q : Flow → Shared → Prop} (h' : Heap) (tk : Nat) (a : Addr) (oT : Obj) (d : Addr) (new : List (Addr × Obj)) (d0 d1 : Addr)
    (F : Fr h₀ L h' (fun y => if y = Str.ofString "wrong" then some (.ref d0) else if y = Str.ofString "falls" then some (.ref d1) else if y = Str.ofString "made" then some (.ref d) else m y))
    (N : News h₀ L h' ((a, oT) :: (new ++ (d1, { cls := .type "dict", data := .dict #[] }) :: (d0, { cls := .type "dict", data := .dict #[] }) :: led)))
    (f : Fresh s.heap new) (fa : s.heap.get? a = none) (f0 : s.heap.get? d0 = none) (f1 : s.heap.get? d1 = none) (hS₀ : (d0 == sysModules) = false) (hS₁ : (d1 == sysModules) = false) (T : TabIn prog w new d [(0, 1)])
    (hl : m (Str.ofString "script") = some (.ref l))
    (h : ∀ h' tk m' nx', Fr h₀ L h' m' → News h₀ L h' (nx' ++ led) → Fresh s.heap nx' → HasTab prog w m' nx' (Str.ofString "wrong") [] → HasTab prog w m' nx' (Str.ofString "falls") [] → HasTab prog w m' nx' (Str.ofString "made") [(0, 1)] →
      m' (Str.ofString "script") = some (.ref l) → Q .next { s with heap := h', toks := tk }) : Q .next { s with heap := h', toks := tk } := by
  have sub : ∀ p ∈ ((a, oT) :: (new ++ [(d1, { cls := .type "dict", data := .dict #[] }), (d0, { cls := .type "dict", data := .dict #[] })])) ++ led, p ∈ (a, oT) :: (new ++ (d1, { cls := .type "dict", data := .dict #[] }) :: (d0, { cls := .type "dict", data := .dict #[] }) :: led) := by
    intro p hp
    simp only [List.mem_append, List.mem_cons, List.cons_append, List.append_assoc, List.nil_append] at hp ⊢
    exact hp
  refine h h' tk _ ((a, oT) :: (new ++ [(d1, { cls := .type "dict", data := .dict #[] }), (d0, { cls := .type "dict", data := .dict #[] })])) F (fun p hp => N p (sub p hp)) ?_ ⟨d0, rfl, empty_tab hS₀ (.tail _ (List.mem_append_right _ (.tail _ (.head _))))⟩ ⟨d1, rfl, empty_tab hS₁ (.tail _ (List.mem_append_right _ (.head _)))⟩ ⟨d, rfl, T.mono fun p hp => .tail _ (List.mem_append_left _ hp)⟩ hl
  intro p hp
  rcases List.mem_cons.mp hp with rfl | hp
  · exact fa
  · rcases List.mem_append.mp hp with hp | hp
    · exact f p hp
    · rcases List.mem_cons.mp hp with rfl | hp
      · exact f1
      · rw [List.mem_singleton.mp hp]; exact f0
theorem law_s2 {st : Stmt} (hst : st = lawStmt 1) {l : Addr} {Q : Flow → Shared → Prop} (G : Gd w mg mb h₀) (F : Fr h₀ L s.heap m) (N : News h₀ L s.heap led) (hl : m (Str.ofString "script") = some (.ref l))
    (hh : A.handled = none) (hu : A.units + 1 < cLine)
    (h : ∀ h' tk m' nx', Fr h₀ L h' m' → News h₀ L h' (nx' ++ led) → Fresh s.heap nx' → HasTab prog w m' nx' (Str.ofString "wrong") [] → HasTab prog w m' nx' (Str.ofString "falls") [] → HasTab prog w m' nx' (Str.ofString "made") [(0, 1)] →
      m' (Str.ofString "script") = some (.ref l) → Q .next { s with heap := h', toks := tk }) :
    wpAny (model prog w) A (exec st (lawEnv L)) Q E s := by
  subst hst
  show wpAny _ _ (exec (.Assign [.Tuple _ _ _] _ _) _) _ _ _
  refine Assign_Tuple_swapped (names := [Str.ofString "wrong", Str.ofString "falls", Str.ofString "made"]) ?_ ?_ ?_
  rotate_left
  · rfl
  · rfl
  refine Tuple_ ?_
  refine spliced_more ?_
  refine wpAny_Dict_empty ?_
  refine spliced_more ?_
  refine wpAny_Dict_empty ?_
  refine spliced_more ?_
  have F₁ := F.push { cls := .type "dict", data := .dict #[] }
  have N₁ := News.push F N { cls := .type "dict", data := .dict #[] }
  have F₂ := F₁.push { cls := .type "dict", data := .dict #[] }
  have N₂ := News.push F₁ N₁ { cls := .type "dict", data := .dict #[] }
  have hS₀ : (s.heap.objs.size == sysModules) = false := F.notModules (modules_low G.T.nolimit)
  have hS₁ : ((s.heap.push { cls := .type "dict", data := .dict #[] }).objs.size == sysModules) = false := F₁.notModules (modules_low G.T.nolimit)
  have hS₂ : (((s.heap.push { cls := .type "dict", data := .dict #[] }).push { cls := .type "dict", data := .dict #[] }).objs.size == sysModules) = false := F₂.notModules (modules_low G.T.nolimit)
  refine tab_one (n := 0) hu F₂ N₂ (fun h₃ tk₃ Q' F₃ up₃ hQ' => wpAny_Constant_int (hQ' _ _ _ fun b o e => e)) (fun h₃ tk₃ d new up₃ F₃ N₃ f₃ T₃ => ?_) hS₂
  refine spliced_none (newTuple_N F₃ N₃ fun h₄ F₄ N₄ => ?_)
  refine unpackItems_tuple (items := #[.ref s.heap.objs.size, .ref (s.heap.push { cls := .type "dict", data := .dict #[] }).objs.size, .ref d]) hh ⟨_, (N₄ _ (.head _)).1, rfl, _, rfl⟩ fun h₅ he₅ => ?_
  have up₅ : ∀ b o, h₄.get? b = some o → h₅.get? b = some o := fun b o e => he₅ b o (Nat.ne_of_lt (Heap.lt_size e)) e
  have F₅ := fr_up F₄ up₅
  have N₅ := news_up N₄ up₅
  show wpAny _ _ (do holding [.ref (s.heap.push { cls := .type "dict", data := .dict #[] }).objs.size, .ref s.heap.objs.size] (bindName _ (Str.ofString "made") (.ref d)); do holding [.ref s.heap.objs.size] (bindName _ (Str.ofString "falls") (.ref (s.heap.push { cls := .type "dict", data := .dict #[] }).objs.size)); do holding [] (bindName _ (Str.ofString "wrong") (.ref s.heap.objs.size)); pure ()) _ _ _
  refine wpAny_bind (wpAny_holding (wpAny_bindName (storeX_L F₅ N₅ fun h₆ F₆ N₆ => ?_)))
  refine wpAny_bind (wpAny_holding (wpAny_bindName (storeX_L F₆ N₆ fun h₇ F₇ N₇ => ?_)))
  refine wpAny_bind (wpAny_holding (wpAny_bindName (storeX_L F₇ N₇ fun h₈ F₈ N₈ => wpAny_pure ?_)))
  have up2 : ∀ b o, s.heap.get? b = some o → ((s.heap.push { cls := .type "dict", data := .dict #[] }).push { cls := .type "dict", data := .dict #[] }).get? b = some o := fun b o e => Heap.get?_push_of_some _ (Heap.get?_push_of_some _ e)
  refine s2_end (s := s) h₈ _ h₃.objs.size _ d new s.heap.objs.size (s.heap.push { cls := .type "dict", data := .dict #[] }).objs.size F₈ N₈ (f₃.down up2) (fresh_top fun b o e => up₃ b o (up2 b o e)) (size_none _) (Heap.get?_none_of_le (by rw [Heap.size_push]; exact Nat.le_succ _)) hS₀ hS₁ T₃ hl h
end
end Mine
end

section
open PySem PySem.W PyProof.Rows PySem.Calls
set_option linter.unusedVariables false
set_option linter.unusedSimpArgs false
set_option maxRecDepth 100000
set_option maxHeartbeats 4000000
namespace Mine
section
variable {prog : Program} {w : World} {A : Around} {E : Value → Shared → Prop} {s : Shared} {h₀ : Heap} {L : Addr} {led nx : List (Addr × Obj)} {m mg mb : Str → Option Value}
theorem law_s6 {st : Stmt} (hst : st = lawStmt 5) {l : Addr} {oM : Obj} {n : Nat} {t : Tok} {vs : List Value} {ns : List Int} {Q : Flow → Shared → Prop} (G : Gd w mg mb h₀) (F : Fr h₀ L s.heap m) (N : News h₀ L s.heap nx) (hl : m (Str.ofString "script") = some (.ref l))
    (hL : h₀.IsList l vs.toArray) (hi : IntsAre vs ns) (hz : ns.length ≤ 100) (hmM : (L + 1, oM) ∈ nx) (hoM : oM.data = .cell (some (.int (n : Nat) t))) (hn4 : n ≤ 4) (hh : A.handled = none) (hroom : A.depth < recursionLimit)
    (h : ∀ h' tk b t', Fr h₀ L h' (fun y => if y = Str.ofString "order" then some (.bytes b t') else m y) → News h₀ L h' nx → KBw.bInts b = drawn ns n → Q .next { s with heap := h', toks := tk }) :
    wpAny (model prog w) A (exec st (lawEnv L)) Q E s := by
  subst hst
  show wpAny _ _ (exec (.Assign [.Name _ _] _ _) _) _ _ _
  refine wpAny_Assign_Name ?_ (by rfl)
  have hLs : s.heap.IsList l vs.toArray := let ⟨o, e, q⟩ := hL; ⟨o, F.keep _ _ e, q⟩
  refine Call_ (nameX_K F G.X G.T (by rfl) (callWith_K (G.keeps F.keep).X (by rfl) (spliced_more (nameX_L F hl (spliced_more (nameX_C (o := oM) N rfl hmM hoM (spliced_none ⟨(G.keeps F.keep).X, ?_⟩)))))))
  refine wpAny_call (law_drawn_ok (G.keeps F.keep) hLs hi hz (show n < 5 by omega) hh hroom fun b t' h₁ tk₁ up₁ hb => ?_)
  exact storeX_L (fr_up F up₁.1) (news_up N up₁.1) fun h₂ F₂ N₂ => h h₂ _ b t' F₂ N₂ hb

theorem bits_small : ∀ x : Nat, x < 10 → Builtin.Int.intBits (x : Int) ≤ 64 := by decide +kernel
theorem mulok {a b : Int} (ha : 0 ≤ a ∧ a < 10) : PySem.IntMulOk a b := by
  obtain ⟨x, rfl⟩ : ∃ x : Nat, a = x := ⟨a.toNat, by omega⟩
  exact IntMulOk.of_left (bits_small x (by omega))
theorem law_s7 {st : Stmt} (hst : st = lawStmt 6) {oM : Obj} {b : Array UInt8} {t t' : Tok} {ks : List Int} {Q : Flow → Shared → Prop} (G : Gd w mg mb h₀) (F : Fr h₀ L s.heap m) (N : News h₀ L s.heap nx) (hb : m (Str.ofString "order") = some (.bytes b t')) (hk : KBw.bInts b = ks)
    (hmM : (L + 1, oM) ∈ nx) (hoM : oM.data = .cell (some (.int (ks.length : Nat) t))) (hk1 : 1 ≤ ks.length) (hk4 : ks.length ≤ 4) (hh : A.handled = none) (hroom : A.depth < recursionLimit)
    (h : ∀ h' tk b' u u', Fr h₀ L h' (fun y => if y = Str.ofString "turned" then some (.bytes b' u) else if y = Str.ofString "pairs" then some (.int (((ks.length : Int) * ((ks.length : Int) - 1)).fdiv 2) u') else m y) → News h₀ L h' nx → KBw.bInts b' = ks.reverse → Q .next { s with heap := h', toks := tk }) :
    wpC (model prog w) A (exec st (lawEnv L)) Q E s := by
  subst hst
  show wpC _ _ (exec (.Assign [.Tuple _ _ _] _ _) _) _ _ _
  refine wpC_Assign_Tuple_swapped (names := [Str.ofString "turned", Str.ofString "pairs"]) ?_ ?_ ?_
  rotate_left
  · rfl
  · rfl
  refine wpC_Tuple ?_
  refine wpC_spliced_more ?_
  refine wpC_Call ?_
  refine nameX_K F G.X G.T (by rfl) ?_
  refine wpC_callWith_K (K := hd.heap_39 w.params) (h₀ := h₀) (by rfl) ?_
  refine spliced_more (nameX_L F hb (spliced_more (nameX_C (o := oM) N rfl hmM hoM (spliced_none ⟨(G.keeps F.keep).X, ?_⟩))))
  refine wpC_call (byteswap_ok (G.keeps F.keep) hk (by omega) hk1 hh hroom fun b' u h₁ tk₁ up₁ hb' => ?_)
  have F₁ := fr_up F up₁.1
  have N₁ := news_up N up₁.1
  refine spliced_more ?_
  refine wpAny_BinOp (wpAny_BinOp (nameX_C (o := oM) N₁ rfl hmM hoM ?_))
  refine wpAny_BinOp (nameX_C (o := oM) N₁ rfl hmM hoM (wpAny_Constant_int (sub_int ?_)))
  refine mul_int ?_ (mulok (by omega))
  refine wpAny_Constant_int ?_
  refine floordiv_int (by decide) ?_ (Or.inl (PyProof.noPylong_of_log2 (by decide +kernel)))
  refine spliced_none ?_
  refine newTuple_N F₁ N₁ fun h₂ F₂ N₂ => ?_
  refine unpackItems_tuple (items := #[_, _]) hh ⟨_, (N₂ _ (.head _)).1, rfl, _, rfl⟩ fun h₃ he₃ => ?_
  have up₃ : ∀ b o, h₂.get? b = some o → h₃.get? b = some o := fun b o e => he₃ b o (Nat.ne_of_lt (Heap.lt_size e)) e
  have F₃ := fr_up F₂ up₃
  have N₃ : News h₀ L h₃ nx := fun p hp => news_up N₂ up₃ p (.tail _ hp)
  show wpAny _ _ (do holding [_] (bindName _ (Str.ofString "pairs") _); do holding [] (bindName _ (Str.ofString "turned") _); pure ()) _ _ _
  refine wpAny_bind (wpAny_holding (wpAny_bindName (storeX_L F₃ N₃ fun h₄ F₄ N₄ => ?_)))
  refine wpAny_bind (wpAny_holding (wpAny_bindName (storeX_L F₄ N₄ fun h₅ F₅ N₅ => wpAny_pure ?_)))
  exact h h₅ _ b' u _ F₅ N₅ hb'
end
end Mine
end

section
open PySem PySem.W PyProof.Rows PySem.Calls
set_option linter.unusedVariables false
set_option linter.unusedSimpArgs false
set_option maxRecDepth 100000
set_option maxHeartbeats 4000000
namespace Mine
theorem byteArr_bInts (b : Array UInt8) : byteArr (KBw.bInts b) = b := by
  unfold byteArr KBw.bInts
  rw [List.map_map]
  have e : ((fun n : Int => n.toNat.toUInt8) ∘ fun c : UInt8 => (c.toNat : Int)) = id := by
    funext c
    show (Int.toNat (c.toNat : Int)).toUInt8 = c
    rw [Int.toNat_natCast]
    simp
  rw [e, List.map_id]
def revL (ks : List Int) : List Int := pickNums ks none none (some (-1))
section
variable {prog : Program} {w : World} {A : Around} {E : Value → Shared → Prop} {s : Shared} {h₀ : Heap} {L : Addr} {led nx : List (Addr × Obj)} {m mg mb : Str → Option Value}
theorem law_s8 {st : Stmt} (hst : st = lawStmt 7) {b b' : Array UInt8} {t u u' : Tok} {P : Int} {ks : List Int} {Q : Flow → Shared → Prop} (G : Gd w mg mb h₀) (F : Fr h₀ L s.heap m) (N : News h₀ L s.heap nx) (hb : m (Str.ofString "order") = some (.bytes b t)) (hk : KBw.bInts b = ks)
    (hb' : m (Str.ofString "turned") = some (.bytes b' u)) (hk' : KBw.bInts b' = ks.reverse) (hP : m (Str.ofString "pairs") = some (.int P u')) (hk4 : ks.length ≤ 4) (hh : A.handled = none) (hroom : A.depth < recursionLimit)
    (e1 : revL ks = ks.reverse) (e2 : ((wrong ks.reverse : Nat) : Int) = P - (wrong ks : Nat))
    (h : ∀ h' tk, Fr h₀ L h' m → News h₀ L h' nx → Q .next { s with heap := h', toks := tk }) :
    wpAny (model prog w) A (exec st (lawEnv L)) Q E s := by
  subst hst
  have hrl : ks.reverse.length < 20 := by rw [List.length_reverse]; omega
  refine wpAny_If (wpAny_isTrue_BoolOp (wpAny_allTrue_Or_cons (wpAny_isTrue_Compare1 (nameX_L F hb' ?_))))
  refine Call_ (nameX_B F G.X G.T (by rfl) boot_bytes (by decide) ?_)
  refine PyProof.Rows.callWith_type1 (spliced_more ?_)
  refine Subscript_ (Call_ (nameX_B F G.X G.T (by rfl) boot_list (by decide) ?_))
  refine PyProof.Rows.callWith_type1 (spliced_more (nameX_L F hb (spliced_none ?_)))
  refine call_list_bytes hh hk (by omega) fun h₁ tk₁ acc c up₁ hS₁ hI₁ => ?_
  have F₁ := fr_up F up₁
  have N₁ := news_up N up₁
  have hasz : acc.size ≤ sizeLine := by
    have := hI₁.length
    rw [Array.length_toList] at this
    rw [sizeLine_eq]; omega
  refine wpAny_Slice (evalPart_none_step (evalPart_none_step (evalPart_some_step ?_)))
  refine UnaryOp_ (wpAny_Constant_int (neg_int ?_))
  refine kba_turn (value' := .Name (Str.ofString "numbers") default) (by intro _; rfl) ?_
  refine slice_list3 (hsz := hasz) F₁ N₁ ⟨_, hS₁, rfl, _, rfl⟩ .none .none (.int _ _) (by decide) fun h₂ F₂ N₂ => ?_
  have hrI : IntsAre (slicePick acc none none (some (-1))).toList ks.reverse := e1 ▸ hI₁.pick none none (some (-1))
  have hin : ∀ k ∈ ks.reverse, 0 ≤ k ∧ k < 256 := fun k hk0 => KBw.ints_in (b := b') (hk' ▸ hk0)
  have hsz2 : (slicePick acc none none (some (-1))).toList.length ≤ sizeLine := by rw [hrI.length, sizeLine_eq]; omega
  refine spliced_none (call_bytes_ints ⟨_, (N₂ _ (.head _)).1, rfl, _, rfl⟩ hrI hin hsz2 hh fun h₃ t₃ tk₃ up₃ => ?_)
  have F₃ := fr_up F₂ up₃
  have N₃ : News h₀ L h₃ nx := fun p hp => news_up N₂ up₃ p (.tail _ hp)
  refine ne_bytes (wpAny_truthy_bool ?_)
  have e3 : (b'.toList != (byteArr ks.reverse).toList) = false := by
    rw [← hk', byteArr_bInts]; simp
  refine KBy.ite_no (by rw [e3]; decide) ?_
  refine wpAny_allTrue_Or_cons (wpAny_isTrue_Compare1 (eval_wrong G F₃ hb' hk' hrl hh hroom fun t₄ h₄ tk₄ up₄ => ?_))
  have F₄ := fr_up F₃ up₄
  have N₄ := news_up N₃ up₄
  refine wpAny_BinOp (nameX_L F₄ hP (eval_wrong G F₄ hb hk (by omega) hh hroom fun t₅ h₅ tk₅ up₅ => ?_))
  have F₅ := fr_up F₄ up₅
  have N₅ := news_up N₄ up₅
  refine sub_int (ne_int (wpAny_truthy_bool ?_))
  refine KBy.ite_no (by rw [e2]; simp) ?_
  refine wpAny_allTrue_Or_nil ?_
  refine KBy.ite_no (by decide) ?_
  exact wpAny_execs_nil (h _ _ F₅ N₅)
end
end Mine
end

section
open PySem PySem.W PyProof.Rows PySem.Calls
set_option linter.unusedVariables false
set_option linter.unusedSimpArgs false
set_option maxRecDepth 100000
set_option maxHeartbeats 4000000
namespace Mine
theorem items_intsG {f : Nat → Int} {n : Nat} {acc : Array Value} (h : ItemsOf (fun i v => ∃ t, v = Value.int (f i) t) acc n) : IntsAre acc.toList ((List.range n).map f) := by
  have key : ∀ (vs : List Value) (k : Nat), (∀ j v, vs[j]? = some v → ∃ t, v = Value.int (f (k + j)) t) → IntsAre vs ((List.range' k vs.length).map f) := by
    intro vs
    induction vs with
    | nil => intro k _; exact .nil
    | cons v vs ih =>
      intro k hv
      obtain ⟨t, rfl⟩ := hv 0 v rfl
      rw [List.length_cons, List.range'_succ, List.map_cons]
      exact .cons _ _ (ih (k + 1) fun j w e => by
        obtain ⟨t', e'⟩ := hv (j + 1) w (by simpa using e)
        exact ⟨t', by rw [e']; congr 2; omega⟩)
  have h2 := key acc.toList 0 fun j v e => by
    obtain ⟨t, e'⟩ := h.2 j v (by simpa using e)
    exact ⟨t, by rw [e', Nat.zero_add]⟩
  have e : acc.toList.length = n := by rw [Array.length_toList]; exact h.1
  rw [e] at h2
  rw [List.range_eq_range']
  exact h2
def mid (n : Nat) : List Int := (List.range (n - 1)).map fun (i : Nat) => 1 + (i : Int) * 1
def turnL (n : Nat) (fs : List Int) : List Int := fs.map fun k => (n : Int) - k
theorem falls_len (ks : List Int) : (falls ks).length ≤ ks.length := by
  unfold falls fallsTo
  rw [List.length_map]
  exact Nat.le_trans (List.length_filter_le _ _) (by rw [List.length_range]; omega)
section
variable {prog : Program} {w : World} {A : Around} {E : Value → Shared → Prop} {s : Shared} {h₀ : Heap} {L : Addr} {led nx : List (Addr × Obj)} {m mg mb : Str → Option Value}
theorem list_at {h h' : Heap} {D : Addr} {its : Array Value} (hl : h.IsList D its) (up : ∀ b o, h.get? b = some o → h'.get? b = some o) : h'.IsList D its := let ⟨o, e, q⟩ := hl; ⟨o, up _ _ e, q⟩
/-- list(range(1, many)) -/
theorem eval_mid {oM : Obj} {n : Nat} {t : Tok} {p1 p2 p3 p4 p5 p6 : Pos} {k1 : Nat} {Q : Value → Shared → Prop} (G : Gd w mg mb h₀) (F : Fr h₀ L s.heap m) (N : News h₀ L s.heap nx) (hmM : (L + 1, oM) ∈ nx) (hoM : oM.data = .cell (some (.int (n : Nat) t))) (hn4 : n ≤ 4) (hh : A.handled = none)
    (h : ∀ D vs h' tk, (∀ b o, s.heap.get? b = some o → h'.get? b = some o) → h'.IsList D vs.toArray → IntsAre vs (mid n) → Q (.ref D) { s with heap := h', toks := tk }) :
    wpAny (model prog w) A (eval (.Call (.Name (Str.ofString "list") p1) [.Call (.Name (Str.ofString "range") p2) [.Constant (.int 1) k1 p3, .Name (Str.ofString "many") p4] [] p5] [] p6) (lawEnv L)) Q E s := by
  refine Call_ (nameX_B F G.X G.T (by rfl) boot_list (by decide) ?_)
  refine PyProof.Rows.callWith_type1 (spliced_more ?_)
  refine Call_ (nameX_B F G.X G.T (by rfl) boot_range (by decide) ?_)
  refine PyProof.Rows.callWith_type1 (spliced_more (wpAny_Constant_int (spliced_more (nameX_C (o := oM) N rfl hmM hoM (spliced_none (call_range_2 ?_))))))
  obtain ⟨hs, hn⟩ := small1 n (by omega)
  refine spliced_none (call_list_range hh (Heap.get?_push_size _ rfl) hs hn (Nat.le_trans (show n - 1 ≤ 4 by omega) (by decide)) fun h₁ tk₁ acc c up₁ hS hI => ?_)
  exact h _ acc.toList h₁ _ (fun b o e => up₁ b o (Heap.get?_push_of_some _ e)) ⟨_, hS, rfl, c, rfl⟩ (items_intsG hI)

theorem law_s9 {st : Stmt} (hst : st = lawStmt 8) {oM : Obj} {n : Nat} {tn : Tok} {b b' : Array UInt8} {t u : Tok} {ks : List Int} {Q : Flow → Shared → Prop} (G : Gd w mg mb h₀) (F : Fr h₀ L s.heap m) (N : News h₀ L s.heap nx) (hb : m (Str.ofString "order") = some (.bytes b t)) (hk : KBw.bInts b = ks)
    (hb' : m (Str.ofString "turned") = some (.bytes b' u)) (hk' : KBw.bInts b' = ks.reverse) (hmM : (L + 1, oM) ∈ nx) (hoM : oM.data = .cell (some (.int (n : Nat) tn))) (hn4 : n ≤ 4) (hk4 : ks.length ≤ 4) (hh : A.handled = none) (hroom : A.depth < recursionLimit) (hu : A.units + 64 < cLine)
    (e1 : ∀ zs : List Int, zs.Perm (falls ks ++ turnL n (falls ks.reverse)) → zs.Pairwise (· ≤ ·) → zs = mid n)
    (h : ∀ h' tk nx', Fr h₀ L h' m → News h₀ L h' (nx' ++ nx) → Q .next { s with heap := h', toks := tk }) :
    wpAny (model prog w) A (exec st (lawEnv L)) Q E s := by
  subst hst
  have hrl : ks.reverse.length < 20 := by rw [List.length_reverse]; omega
  refine wpAny_If (wpAny_isTrue_Compare1 ?_)
  refine Call_ (nameX_B F G.X G.T (by rfl) boot_sorted (by decide) ?_)
  refine PyProof.Rows.callWith_builtin1 (spliced_more ?_)
  refine wpAny_BinOp (eval_falls G F hb hk (by omega) hh hroom fun D₁ vs₁ h₁ tk₁ up₁ hl₁ hn₁ hi₁ => ?_)
  have F₁ := fr_up F up₁.1
  have N₁ := news_up N up₁.1
  refine comp_src (cl := [(Str.ofString "many", L + 1)]) rfl (by decide) rfl (by decide) ?_
  refine eval_falls G F₁ hb' hk' hrl hh hroom fun D₂ vs₂ h₂ tk₂ up₂ hl₂ hn₂ hi₂ => ?_
  have hl2 : vs₂.length ≤ 4 := by
    rw [hi₂.length]
    exact Nat.le_trans (falls_len _) (by rw [List.length_reverse]; exact hk4)
  have hcM : h₁.IsCell (L + 1) (some (.int (n : Nat) tn)) := ⟨oM, (N₁ _ hmM).1, hoM⟩
  refine src_list hh hl₂ fun I h₃ hsrc => ?_
  refine ⟨I, [D₂], _, _, [], fun i ys nx => IntsAre ys (turnL n ((falls ks.reverse).take i)) ∧ nx = [], rfl, hsrc _ _, by rw [List.size_toArray, sizeLine_eq]; exact Nat.le_trans hl2 (by decide), ?_, up₂, (fun p hp => nomatch hp), ⟨by rw [List.take_zero]; exact .nil, rfl⟩, ?_, ?_⟩
  · intro b hb; rw [List.mem_singleton.mp hb]; obtain ⟨o, e, _⟩ := hl₂; exact ⟨o, e⟩
  · rintro i v ys nx₁ m₄ h₄ tk₄ own C Dc E' hi hv ⟨hys, rfl⟩ F₄ N₄ hap
    have hq := ints_look (items := vs₂.toArray) hi₂ hv
    clear hv
    obtain ⟨hil, t', rfl⟩ := hq
    have hnext : turnL n ((falls ks.reverse).take (i + 1)) = turnL n ((falls ks.reverse).take i) ++ [(n : Int) - (falls ks.reverse).getD i 0] := by
      unfold turnL
      rw [take_next (x := (falls ks.reverse).getD i 0) (by rw [List.getD_eq_getElem?_getD, List.getElem?_eq_getElem hil]; rfl), List.map_append]; rfl
    refine wpAny_assign_Name (storeC_L F₄ N₄ fun h₅ F₅ N₅ => wpAny_tests_nil ?_)
    refine KBc.ite_yes rfl ?_
    refine wpAny_BinOp (nameC_C rfl (cell_at hcM F₅.keep) (nameC_L F₅ rfl (sub_int ?_)))
    refine ⟨h₅, _, _, [], rfl, F₅, N₅, hap, ?_, rfl⟩
    rw [hnext]
    exact hys.append (.cons _ _ .nil)
  · rintro Dc ys h₄ tk₄ nx' up₄ hDc hDn _ ⟨hys, _⟩
    have hys' : IntsAre ys (turnL n (falls ks.reverse)) := by
      rw [List.size_toArray, hi₂.length, List.take_length] at hys
      exact hys
    have F₄ := fr_up F₁ up₄.1
    have N₄ := news_up N₁ up₄.1
    have l1 : (falls ks).length ≤ 4 := Nat.le_trans (falls_len _) hk4
    have l2 : (turnL n (falls ks.reverse)).length ≤ 4 := by unfold turnL; rw [List.length_map, ← hi₂.length]; exact hl2
    refine add_lists_ints (hsz := by rw [sizeLine_eq]; omega) F₄ N₄ (list_at hl₁ up₄.1) ⟨_, hDc, rfl, _, rfl⟩ hi₁ hys' fun h₅ F₅ N₅ hi₅ => ?_
    refine spliced_none (kso_sorted F₅ N₅ ⟨_, (N₅ _ (.head _)).1, rfl, _, rfl⟩ hi₅ (by rw [List.length_append]; omega) fun D₆ vs₆ ns₆ c₆ h₆ F₆ N₆ _ hi₆ _ hp₆ hs₆ _ => ?_)
    have e6 := e1 ns₆ hp₆ hs₆
    refine eval_mid G F₆ N₆ (.tail _ (.tail _ hmM)) hoM hn4 hh fun D₇ vs₇ h₇ tk₇ up₇ hl₇ hi₇ => ?_
    have F₇ := fr_up F₆ up₇
    have N₇ := news_up N₆ up₇
    refine ne_intsK ⟨_, (N₇ _ (.head _)).1, rfl, _, rfl⟩ hi₆ hl₇ hi₇ hu (wpAny_truthy_bool ?_)
    refine KBy.ite_no (by rw [e6]; simp) ?_
    exact wpAny_execs_nil (h _ _ [_, _] F₇ N₇)
end
end Mine
end

section
open PySem PySem.W PyProof.Rows PySem.Calls
set_option linter.unusedVariables false
set_option linter.unusedSimpArgs false
set_option maxRecDepth 100000
set_option maxHeartbeats 4000000
namespace Mine
def compl (n : Nat) (ks : List Int) : List Int := ks.map fun k => (n : Int) - 1 - k
section
variable {prog : Program} {w : World} {A : Around} {E : Value → Shared → Prop} {s : Shared} {h₀ : Heap} {L : Addr} {led nx : List (Addr × Obj)} {m mg mb : Str → Option Value}
theorem law_s10 {st : Stmt} (hst : st = lawStmt 9) {oM : Obj} {n : Nat} {tn : Tok} {b : Array UInt8} {t : Tok} {ks : List Int} {Q : Flow → Shared → Prop} (G : Gd w mg mb h₀) (F : Fr h₀ L s.heap m) (N : News h₀ L s.heap nx) (hb : m (Str.ofString "order") = some (.bytes b t)) (hk : KBw.bInts b = ks)
    (hmM : (L + 1, oM) ∈ nx) (hoM : oM.data = .cell (some (.int (n : Nat) tn))) (hk4 : ks.length ≤ 4) (hh : A.handled = none) (hin : KBa.In (compl n ks))
    (h : ∀ h' tk b' u, Fr h₀ L h' (fun y => if y = Str.ofString "other" then some (.bytes b' u) else m y) → News h₀ L h' nx → KBw.bInts b' = compl n ks → Q .next { s with heap := h', toks := tk }) :
    wpAny (model prog w) A (exec st (lawEnv L)) Q E s := by
  subst hst
  show wpAny _ _ (exec (.Assign [.Name _ _] _ _) _) _ _ _
  refine wpAny_Assign_Name ?_ (by rfl)
  refine Call_ (nameX_B F G.X G.T (by rfl) boot_bytes (by decide) ?_)
  refine PyProof.Rows.callWith_type1 (spliced_more ?_)
  have hcM : s.heap.IsCell (L + 1) (some (.int (n : Nat) tn)) := ⟨oM, (N _ hmM).1, hoM⟩
  have hbk : b.size = ks.length := by rw [← hk, KBw.ints_length]
  refine comp_src (cl := [(Str.ofString "many", L + 1)]) rfl (by decide) rfl (by decide) ?_
  refine nameX_L F hb ?_
  refine src_bytes hh fun I h₁ hsrc => ?_
  refine ⟨I, [], _, _, [], fun i ys nx => IntsAre ys (compl n (ks.take i)) ∧ nx = [], rfl, hsrc _ _, by rw [hbk, sizeLine_eq]; omega, (fun b hb => nomatch hb), Ext.refl _, (fun p hp => nomatch hp), ⟨by rw [List.take_zero]; exact .nil, rfl⟩, ?_, ?_⟩
  · rintro i v ys nx₁ m₂ h₂ tk₂ own C Dc E' hi ⟨c, u, hc, rfl⟩ ⟨hys, rfl⟩ F₂ N₂ hap
    have hki : ks[i]? = some (c.toNat : Int) := by
      rw [← hk]
      unfold KBw.bInts
      rw [List.getElem?_map, Array.getElem?_toList, hc]; rfl
    have hnext : compl n (ks.take (i + 1)) = compl n (ks.take i) ++ [(n : Int) - 1 - (c.toNat : Int)] := by
      unfold compl
      rw [take_next hki, List.map_append]; rfl
    refine wpAny_assign_Name (storeC_L F₂ N₂ fun h₃ F₃ N₃ => wpAny_tests_nil ?_)
    refine KBc.ite_yes rfl ?_
    refine wpAny_BinOp (wpAny_BinOp (nameC_C rfl (cell_at hcM F₃.keep) (wpAny_Constant_int (sub_int (nameC_L F₃ rfl (sub_int ?_))))))
    refine ⟨h₃, _, _, [], rfl, F₃, N₃, hap, ?_, rfl⟩
    rw [hnext]
    exact hys.append (.cons _ _ .nil)
  · rintro Dc ys h₂ tk₂ nx' up₂ hDc hDn _ ⟨hys, _⟩
    have hys' : IntsAre ys (compl n ks) := by
      rw [hbk, List.take_length] at hys
      exact hys
    have hyl : ys.length ≤ sizeLine := by
      rw [hys'.length, sizeLine_eq]; unfold compl; rw [List.length_map]; omega
    refine spliced_none (call_bytes_ints ⟨_, hDc, rfl, _, rfl⟩ hys' hin hyl hh fun h₃ t₃ tk₃ up₃ => ?_)
    have F₃ := fr_up (fr_up F up₂.1) up₃
    have N₃ := news_up (news_up N up₂.1) up₃
    exact storeX_L F₃ N₃ fun h₄ F₄ N₄ => h h₄ _ _ t₃ F₄ N₄ (KBa.ints_make hin)

theorem law_s11 {st : Stmt} (hst : st = lawStmt 10) {oM : Obj} {n : Nat} {tn : Tok} {b b' : Array UInt8} {t u u' : Tok} {P : Int} {ks : List Int} {Q : Flow → Shared → Prop} (G : Gd w mg mb h₀) (F : Fr h₀ L s.heap m) (N : News h₀ L s.heap nx) (hb : m (Str.ofString "order") = some (.bytes b t)) (hk : KBw.bInts b = ks)
    (hb' : m (Str.ofString "other") = some (.bytes b' u)) (hk' : KBw.bInts b' = compl n ks) (hP : m (Str.ofString "pairs") = some (.int P u')) (hmM : (L + 1, oM) ∈ nx) (hoM : oM.data = .cell (some (.int (n : Nat) tn))) (hn4 : n ≤ 4) (hk4 : ks.length ≤ 4) (hh : A.handled = none) (hroom : A.depth < recursionLimit) (hu : A.units + 64 < cLine)
    (e1 : ((wrong (compl n ks) : Nat) : Int) = P - (wrong ks : Nat)) (e2 : ∀ zs : List Int, zs.Perm (falls ks ++ falls (compl n ks)) → zs.Pairwise (· ≤ ·) → zs = mid n)
    (h : ∀ h' tk, Fr h₀ L h' m → Q (.ret (.bool true)) { s with heap := h', toks := tk }) :
    wpAny (model prog w) A (exec st (lawEnv L)) Q E s := by
  subst hst
  have hrl : (compl n ks).length < 20 := by unfold compl; rw [List.length_map]; omega
  refine wpAny_Return_some (BoolOp_and ?_)
  refine wpAny_Compare1 (eval_wrong G F hb' hk' hrl hh hroom fun t₁ h₁ tk₁ up₁ => ?_)
  have F₁ := fr_up F up₁
  have N₁ := news_up N up₁
  refine wpAny_BinOp (nameX_L F₁ hP (eval_wrong G F₁ hb hk (by omega) hh hroom fun t₂ h₂ tk₂ up₂ => ?_))
  have F₂ := fr_up F₁ up₂
  have N₂ := news_up N₁ up₂
  refine sub_int (eq_int (wpAny_truthy_bool ?_))
  refine KBc.ite_yes (by rw [e1]; simp) ?_
  refine BoolOp_one (wpAny_Compare1 ?_)
  refine Call_ (nameX_B F₂ G.X G.T (by rfl) boot_sorted (by decide) ?_)
  refine PyProof.Rows.callWith_builtin1 (spliced_more ?_)
  refine wpAny_BinOp (eval_falls G F₂ hb hk (by omega) hh hroom fun D₃ vs₃ h₃ tk₃ up₃ hl₃ hn₃ hi₃ => ?_)
  have F₃ := fr_up F₂ up₃.1
  have N₃ := news_up N₂ up₃.1
  refine eval_falls G F₃ hb' hk' hrl hh hroom fun D₄ vs₄ h₄ tk₄ up₄ hl₄ hn₄ hi₄ => ?_
  have F₄ := fr_up F₃ up₄.1
  have N₄ := news_up N₃ up₄.1
  have l1 : (falls ks).length ≤ 4 := Nat.le_trans (falls_len _) hk4
  have l2 : (falls (compl n ks)).length ≤ 20 := Nat.le_trans (falls_len _) (Nat.le_of_lt hrl)
  refine add_lists_ints (hsz := by rw [sizeLine_eq]; omega) F₄ N₄ (list_at hl₃ up₄.1) hl₄ hi₃ hi₄ fun h₅ F₅ N₅ hi₅ => ?_
  refine spliced_none (kso_sorted F₅ N₅ ⟨_, (N₅ _ (.head _)).1, rfl, _, rfl⟩ hi₅ (by rw [List.length_append]; omega) fun D₆ vs₆ ns₆ c₆ h₆ F₆ N₆ _ hi₆ _ hp₆ hs₆ _ => ?_)
  have e6 := e2 ns₆ hp₆ hs₆
  refine eval_mid G F₆ N₆ (.tail _ (.tail _ hmM)) hoM hn4 hh fun D₇ vs₇ h₇ tk₇ up₇ hl₇ hi₇ => ?_
  have F₇ := fr_up F₆ up₇
  have N₇ := news_up N₆ up₇
  refine eq_intsK ⟨_, (N₇ _ (.head _)).1, rfl, _, rfl⟩ hi₆ hl₇ hi₇ hu ?_
  have e7 : decide (ns₆ = mid n) = true := decide_eq_true e6
  rw [e7]
  exact h _ _ F₇
end
end Mine
end

section
open PySem PySem.W PyProof.Rows PySem.Calls
set_option linter.unusedVariables false
set_option linter.unusedSimpArgs false
set_option maxRecDepth 100000
set_option maxHeartbeats 4000000
namespace Mine
/-! ### the plain law -/
theorem tables_ok : ∀ n, n < 5 → 1 ≤ n → eqT (tally wrongI (ordersN 3 (upto n))) (tally fallsI (ordersN 3 (upto n))) = true ∧ eqT (tally wrongI (ordersN 3 (upto n))) (madeT n) = true ∧ ((tally wrongI (ordersN 3 (upto n))).map (·.2)).sum = facL.getD (n - 1) 0 := by decide +kernel
abbrev OneOk (n : Nat) (ks : List Int) : Prop := ks.length = n ∧ revL ks = ks.reverse ∧ ((wrong ks.reverse : Nat) : Int) = ((n : Int) * ((n : Int) - 1)).fdiv 2 - (wrong ks : Nat) ∧ (falls ks ++ turnL n (falls ks.reverse)).Perm (mid n) ∧
  (∀ k ∈ compl n ks, 0 ≤ k ∧ k < 256) ∧ ((wrong (compl n ks) : Nat) : Int) = ((n : Int) * ((n : Int) - 1)).fdiv 2 - (wrong ks : Nat) ∧ (falls ks ++ falls (compl n ks)).Perm (mid n)
theorem ones_ok : ∀ n, n < 5 → 1 ≤ n → ∀ ks ∈ ordersN 3 (upto n), OneOk n ks := by decide +kernel
def pickAt (p : List Int × List Int) (i : Nat) : List Int × List Int := (p.1.eraseIdx i, p.2 ++ [p.1.getD i 0])
def states (n : Nat) : Nat → List (List Int × List Int)
  | 0 => [(upto n, [])]
  | k + 1 => (states n k).flatMap fun p => (List.range p.1.length).map (pickAt p)
theorem states_len : ∀ n, n < 5 → ∀ k, k < n + 1 → ∀ p ∈ states n k, p.1.length = n - k := by decide +kernel
theorem states_end : ∀ n, n < 5 → 1 ≤ n → ∀ p ∈ states n n, p.2 ∈ ordersN 3 (upto n) := by decide +kernel
theorem draw_in {n : Nat} (hn : n < 5) : ∀ (xs : List Int) (k : Nat) (p : List Int × List Int), p ∈ states n k → k + xs.length ≤ n → xs.foldl drawStep p ∈ states n (k + xs.length)
  | [], k, p, h, _ => h
  | x :: xs, k, p, h, hk => by
    rw [List.length_cons] at hk
    have hl := states_len n hn k (by omega) p h
    have hm := fmod_in (x := x) (n := p.1.length) (by omega)
    have e : drawStep p x = pickAt p (x.fmod (p.1.length : Int)).toNat := rfl
    have h1 : drawStep p x ∈ states n (k + 1) := by
      rw [e]
      exact List.mem_flatMap.mpr ⟨p, h, List.mem_map.mpr ⟨_, List.mem_range.mpr (by omega), rfl⟩⟩
    have := draw_in hn xs (k + 1) _ h1 (by omega)
    rw [List.foldl_cons, List.length_cons]
    rw [show k + (xs.length + 1) = k + 1 + xs.length by omega]
    exact this
theorem drawn_in (ns : List Int) {n : Nat} (hn : n < 5) (h1 : 1 ≤ n) : drawn ns n ∈ ordersN 3 (upto n) := by
  have hxl : (dxs ns n).length = n := by unfold dxs; rw [List.length_take, List.length_append]; simp; omega
  have := draw_in hn (dxs ns n) 0 (upto n, []) (.head _) (by omega)
  rw [hxl, Nat.zero_add] at this
  exact states_end n hn h1 _ this
theorem mid_sorted : ∀ n, n < 5 → (mid n).Pairwise (· ≤ ·) := by decide +kernel
theorem sorted_is {n : Nat} (hn : n < 5) {l zs : List Int} (hl : l.Perm (mid n)) (hp : zs.Perm l) (hs : zs.Pairwise (· ≤ ·)) : zs = mid n :=
  List.Perm.eq_of_pairwise (fun _ _ _ _ a b => Int.le_antisymm a b) hs (mid_sorted n hn) (hp.trans hl)
end Mine
end

section
open PySem PySem.W PyProof.Rows PySem.Calls
set_option linter.unusedVariables false
set_option linter.unusedSimpArgs false
set_option maxRecDepth 100000
set_option maxHeartbeats 4000000
namespace Mine
theorem many_nat (ns : List Int) : ∃ n : Nat, 1 ≤ n ∧ n ≤ 4 ∧ (1 : Int) + ns.sum.fmod 4 = (n : Nat) := by
  have h1 := Int.fmod_nonneg_of_pos ns.sum (show (0 : Int) < 4 by decide)
  have h2 := Int.fmod_lt_of_pos ns.sum (show (0 : Int) < 4 by decide)
  exact ⟨(1 + ns.sum.fmod 4).toNat, by omega, by omega, by omega⟩
theorem lawBody_eq : lawBody = [lawStmt 0, lawStmt 1, lawStmt 2, lawStmt 3, lawStmt 4, lawStmt 5, lawStmt 6, lawStmt 7, lawStmt 8, lawStmt 9, lawStmt 10] := rfl
section
variable {prog : Program} {w : World} {A : Around} {E : Value → Shared → Prop} {s : Shared} {h₀ : Heap} {L : Addr} {led nx : List (Addr × Obj)} {m mg mb : Str → Option Value}
theorem cell_not {o oS : Obj} {v : Option Value} (hS : oS.data = .cell v) (ho : (∃ es ep, o.data = .dict es ep) ∨ ∃ x k, o.data = .seq x k) : o ≠ oS := by
  rintro rfl
  rcases ho with ⟨es, ep, e⟩ | ⟨x, k, e⟩ <;> rw [hS] at e <;> cases e
theorem TabIn.drop {rest : List (Addr × Obj)} {c d : Addr} {oS : Obj} {v : Option Value} {l : List (Int × Int)} (T : TabIn prog w nx d l) (hS : oS.data = .cell v) (sub : ∀ p ∈ nx, p ∈ rest ∨ p = (c, oS)) : TabIn prog w rest d l := by
  obtain ⟨hd, o, zs, ho, D, F, k⟩ := T
  have hD := D
  obtain ⟨_, es, ep, hdat, _⟩ := hD
  refine ⟨hd, o, zs, ?_, D, F, fun z hz => ?_⟩
  · rcases sub _ ho with h | h
    · exact h
    · exact absurd (congrArg Prod.snd h) (cell_not hS (.inl ⟨es, ep, hdat⟩))
  · obtain ⟨n, ok, e, hm, hk⟩ := k z hz
    refine ⟨n, ok, e, ?_, hk⟩
    rcases sub _ hm with h | h
    · exact h
    · obtain ⟨_, kk, t, u, v', hkd⟩ := hk
      exact absurd (congrArg Prod.snd h) (cell_not hS (.inr ⟨_, _, hkd⟩))
theorem HasTab.drop {rest : List (Addr × Obj)} {c : Addr} {oS : Obj} {v : Option Value} {x : Str} {l : List (Int × Int)} (T : HasTab prog w m nx x l) (hS : oS.data = .cell v) (sub : ∀ p ∈ nx, p ∈ rest ∨ p = (c, oS)) : HasTab prog w m rest x l :=
  let ⟨d, e, t⟩ := T; ⟨d, e, t.drop hS sub⟩
theorem law_s1 {st : Stmt} (hst : st = lawStmt 0) {l : Addr} {oS oM : Obj} {v₀ : Option Value} {vs : List Value} {ns : List Int} {Q : Flow → Shared → Prop} (G : Gd w mg mb h₀) (F : Fr h₀ L s.heap m) (N : News h₀ L s.heap ([(L + 2, oS)] ++ (L + 1, oM) :: [])) (hl : m (Str.ofString "script") = some (.ref l))
    (hL : h₀.IsList l vs.toArray) (hi : IntsAre vs ns) (hoM : oM.data = .cell v₀) (hh : A.handled = none)
    (h : ∀ h' tk oM' n t, Fr h₀ L h' m → News h₀ L h' ([(L + 2, oS)] ++ (L + 1, oM') :: []) → oM'.data = .cell (some (.int ((n : Nat) : Int) t)) → 1 ≤ n → n ≤ 4 → Q .next { s with heap := h', toks := tk }) :
    wpAny (model prog w) A (exec st (lawEnv L)) Q E s := by
  subst hst
  show wpAny _ _ (exec (.Assign [.Name _ _] _ _) _) _ _ _
  refine wpAny_Assign_Name ?_ (by rfl)
  refine wpAny_BinOp (wpAny_Constant_int (wpAny_BinOp ?_))
  refine Call_ (nameX_B F G.X G.T (by rfl) boot_sum (by decide) ?_)
  refine PyProof.Rows.callWith_builtin1 (spliced_more (nameX_L F hl (spliced_none ?_)))
  refine sum_ok hh (list_at hL F.keep) hi fun h₂ tk₂ t₂ up₂ => ?_
  have F₂ := fr_up F up₂
  have N₂ := news_up N up₂
  obtain ⟨n, hn1, hn4, hmn⟩ := many_nat ns
  refine wpAny_Constant_int (mod_int (by decide) (add_int ?_))
  refine storeX_at F₂ N₂ (fun p hp => by rw [List.mem_singleton.mp hp]; exact Nat.ne_of_gt (Nat.lt_succ_self _)) (fun p hp => nomatch hp) rfl hoM fun h₃ oM₃ F₃ N₃ hoM₃ => ?_
  rw [hmn] at hoM₃
  exact h h₃ _ oM₃ n _ F₃ N₃ hoM₃ hn1 hn4
/-- from the first loop's end to the second's start -/
theorem st_of_j3 {l : Addr} {oS oM : Obj} {vS : Option Value} {n₄ : List (Addr × Obj)} {os : List (List Int)} {i : Nat} (hS : oS.data = .cell vS) (hne : ∀ p ∈ n₄, p.1 ≠ L + 2) (J : J3 prog w l (n₄ ++ ((L + 2, oS) :: (L + 1, oM) :: [])) os i m nx) :
    ∃ nx', (∀ p ∈ nx', p ∈ nx) ∧ St4 prog w L l oM [] [(Str.ofString "wrong", tally wrongI (os.take i)), (Str.ofString "falls", tally fallsI (os.take i)), (Str.ofString "made", madeT 0)] m nx' := by
  obtain ⟨new, rfl, hap, hw, hf, hm, hl⟩ := J
  have sub : ∀ p ∈ new ++ (n₄ ++ ((L + 2, oS) :: (L + 1, oM) :: [])), p ∈ new ++ (n₄ ++ [(L + 1, oM)]) ∨ p = (L + 2, oS) := by
    intro p hp
    simp only [List.mem_append, List.mem_cons] at hp ⊢
    rcases hp with hp | hp | hp | hp | hp
    · exact .inl (.inl hp)
    · exact .inl (.inr (.inl hp))
    · exact .inr hp
    · exact .inl (.inr (.inr (.inl hp)))
    · exact .inl (.inr (.inr (.inr hp)))
  refine ⟨[] ++ (L + 2, oS) :: (new ++ (n₄ ++ [(L + 1, oM)])), ?_, oS, vS, new ++ (n₄ ++ [(L + 1, oM)]), rfl, hS, ?_, (fun p hp q hq => nomatch hq), List.mem_append_right _ (List.mem_append_right _ (.head _)), ?_, hl⟩
  · intro p hp
    simp only [List.mem_append, List.mem_cons, List.nil_append] at hp ⊢
    rcases hp with hp | hp | hp | hp | hp
    · exact .inr (.inr (.inl hp))
    · exact .inl hp
    · exact .inr (.inl hp)
    · exact .inr (.inr (.inr (.inl hp)))
    · exact .inr (.inr (.inr (.inr hp)))
  · intro p hp
    rcases List.mem_append.mp hp with hp | hp
    · exact hap p hp (L + 2, oS) (List.mem_append_right _ (.head _))
    · rcases List.mem_append.mp hp with hp | hp
      · exact hne p hp
      · rw [List.mem_singleton.mp hp]; exact Nat.ne_of_lt (Nat.lt_succ_self _)
  · exact .cons (hw.drop hS sub) (.cons (hf.drop hS sub) (.cons (hm.drop hS sub) fun e he => nomatch he))
/-- the whole body -/
theorem law_walk {s0 s1 s2 s3 s4 s5 s6 s7 s8 s9 s10 : Stmt} (h0 : s0 = lawStmt 0) (h1 : s1 = lawStmt 1) (h2 : s2 = lawStmt 2) (h3 : s3 = lawStmt 3) (h4 : s4 = lawStmt 4) (h5 : s5 = lawStmt 5) (h6 : s6 = lawStmt 6) (h7 : s7 = lawStmt 7) (h8 : s8 = lawStmt 8) (h9 : s9 = lawStmt 9) (h10 : s10 = lawStmt 10) {l : Addr} {oS oM : Obj} {v₀ v₁ : Option Value} {vs : List Value} {ns : List Int} {R : Shared → Prop} (G : Gd w mg mb h₀) (F : Fr h₀ L s.heap m) (N : News h₀ L s.heap ([(L + 2, oS)] ++ (L + 1, oM) :: [])) (hl : m (Str.ofString "script") = some (.ref l))
    (hL : h₀.IsList l vs.toArray) (hi : IntsAre vs ns) (hz : ns.length ≤ 63) (hoS : oS.data = .cell v₁) (hoM : oM.data = .cell v₀) (hh : A.handled = none) (hd10 : A.depth + 10 < recursionLimit) (hu : A.units + 64 < cLine)
    (h : ∀ h' tk, (∀ b o, h₀.get? b = some o → h'.get? b = some o) → R { s with heap := h', toks := tk }) :
    wpC (model prog w) A (execs [s0, s1, s2, s3, s4, s5, s6, s7, s8, s9, s10] (lawEnv L)) (fun f s' => f = .ret (.bool true) ∧ R s') (fun _ _ => False) s := by
  have hd0 : A.depth < recursionLimit := by omega
  refine wpC_execs_cons ?_
  refine wpC_any ?_
  refine law_s1 h0 G F N hl hL hi hoM hh fun h₁ tk₁ oM₁ n t F₁ N₁ hoM₁ hn1 hn4 => ?_
  dsimp only
  refine wpC_execs_cons ?_
  refine wpC_any ?_
  refine law_s2 h1 G F₁ N₁ hl hh (by omega) fun h₂ tk₂ m₂ n₂ F₂ N₂ f₂ hw₂ hf₂ hm₂ hl₂ => ?_
  have hne₂ : ∀ p ∈ n₂, p.1 ≠ L + 2 := fun p hp e => by
    have q1 := f₂ p hp
    have q2 := (N₁ (L + 2, oS) (.head _)).1
    rw [e] at q1
    rw [q1] at q2; cases q2
  dsimp only
  refine wpC_execs_cons ?_
  refine wpC_any ?_
  refine law_s3 h2 (led := n₂ ++ ((L + 2, oS) :: (L + 1, oM₁) :: [])) G F₂ N₂ (List.mem_append_right _ (.tail _ (.head _))) hoM₁ hn4 (hw₂.mono fun p hp => List.mem_append_left _ hp) (hf₂.mono fun p hp => List.mem_append_left _ hp) (hm₂.mono fun p hp => List.mem_append_left _ hp) hl₂ hh hd10 (by omega) fun h₃ tk₃ m₃ n₃ F₃ N₃ J₃ => ?_
  have J₃' := st_of_j3 hoS hne₂ J₃
  rw [List.take_length] at J₃'
  obtain ⟨n₃', sub₃, St₃⟩ := J₃'
  dsimp only
  refine wpC_execs_cons ?_
  refine wpC_any ?_
  refine law_s4 h3 G F₃ (fun p hp => N₃ p (sub₃ p hp)) St₃ hoM₁ hn4 hh hd0 (by omega) fun h₄ tk₄ m₄ n₄ F₄ N₄ St₄ => ?_
  obtain ⟨oS₄, vS₄, rest₄, rfl, _, _, _, hmM₄, hT₄, hl₄⟩ := St₄
  have hmM₄' : (L + 1, oM₁) ∈ ([] : List (Addr × Obj)) ++ (L + 2, oS₄) :: rest₄ := .tail _ hmM₄
  have tok := tables_ok n (by omega) hn1
  dsimp only
  refine wpC_execs_cons ?_
  refine wpC_any ?_
  refine law_s5 h4 G F₄ N₄ (hT₄.mono fun p hp => .tail _ hp) hmM₄' hoM₁ hn1 hn4 tok.1 tok.2.1 tok.2.2 hh hd0 hu fun h₅ tk₅ n₅ F₅ N₅ => ?_
  have hmM₅ : (L + 1, oM₁) ∈ n₅ ++ (([] : List (Addr × Obj)) ++ (L + 2, oS₄) :: rest₄) := List.mem_append_right _ hmM₄'
  dsimp only
  refine wpC_execs_cons ?_
  refine wpC_any ?_
  refine law_s6 h5 G F₅ N₅ hl₄ hL hi (by omega) hmM₅ hoM₁ hn4 hh hd0 fun h₆ tk₆ b t₆ F₆ N₆ hb₆ => ?_
  have ok := ones_ok n (by omega) hn1 _ (drawn_in ns (n := n) (by omega) hn1)
  generalize hks : drawn ns n = ks at hb₆ ok
  obtain ⟨k1, k2, k3, k4, k5, k6, k7⟩ := ok
  have k41 : ks.length ≤ 4 := by omega
  dsimp only
  refine wpC_execs_cons ?_
  refine law_s7 h6 G F₆ N₆ rfl hb₆ hmM₅ (k1.symm ▸ hoM₁) (by omega) k41 hh hd0 fun h₇ tk₇ b₇ u₇ u₇' F₇ N₇ hb₇ => ?_
  have k3' : ((wrong ks.reverse : Nat) : Int) = ((ks.length : Int) * ((ks.length : Int) - 1)).fdiv 2 - (wrong ks : Nat) := by rw [k1]; exact k3
  have k6' : ((wrong (compl n ks) : Nat) : Int) = ((ks.length : Int) * ((ks.length : Int) - 1)).fdiv 2 - (wrong ks : Nat) := by rw [k1]; exact k6
  dsimp only
  refine wpC_execs_cons ?_
  refine wpC_any ?_
  refine law_s8 h7 G F₇ N₇ rfl hb₆ rfl hb₇ rfl k41 hh hd0 k2 k3' fun h₈ tk₈ F₈ N₈ => ?_
  dsimp only
  refine wpC_execs_cons ?_
  refine wpC_any ?_
  refine law_s9 h8 G F₈ N₈ rfl hb₆ rfl hb₇ hmM₅ hoM₁ hn4 k41 hh hd0 hu (fun zs hp hs => sorted_is (by omega) k4 hp hs) fun h₉ tk₉ n₉ F₉ N₉ => ?_
  have hmM₉ : (L + 1, oM₁) ∈ n₉ ++ (n₅ ++ (([] : List (Addr × Obj)) ++ (L + 2, oS₄) :: rest₄)) := List.mem_append_right _ hmM₅
  dsimp only
  refine wpC_execs_cons ?_
  refine wpC_any ?_
  refine law_s10 h9 G F₉ N₉ rfl hb₆ hmM₉ hoM₁ k41 hh k5 fun h₁₀ tk₁₀ b₁₀ u₁₀ F₁₀ N₁₀ hb₁₀ => ?_
  dsimp only
  refine wpC_execs_cons ?_
  refine wpC_any ?_
  refine law_s11 h10 G F₁₀ N₁₀ rfl hb₆ rfl hb₁₀ rfl hmM₉ hoM₁ hn4 k41 hh hd0 hu k6' (fun zs hp hs => sorted_is (by omega) k7 hp hs) fun h₁₁ tk₁₁ F₁₁ => ?_
  exact ⟨rfl, h _ _ F₁₁.keep⟩
end

theorem law_ok : LawOk := by
  intro prog w s mg mb l vs ns R G hl hi hz h
  refine enterRC (body := lawBody) (scope := lawScope) (binds := [(Str.ofString "script", .ref l)]) G (by decide +kernel) (by rfl) (by rfl) (BindsTo.of_eq rfl) (fun n x hx => ?_) (by decide) (fun h₁ tk₁ cells F N X => ?_) rfl rfl rfl
  · rw [List.mem_singleton.mp hx]; exact .inl rfl
  obtain ⟨oS, oM, rfl, hoS, hoM⟩ := X.two
  have hh : (callerA.deeper (lawEnv s.heap.objs.size)).handled = none := rfl
  have hd10 : (callerA.deeper (lawEnv s.heap.objs.size)).depth + 10 < recursionLimit := by
    show callerA.depth + 1 + 10 < recursionLimit
    decide +kernel
  have hd0 : (callerA.deeper (lawEnv s.heap.objs.size)).depth < recursionLimit := by omega
  have hu : (callerA.deeper (lawEnv s.heap.objs.size)).units + 64 < cLine := by
    show callerA.units + 3 + 64 < cLine
    decide +kernel
  show wpC _ (callerA.deeper (lawEnv s.heap.objs.size)) (execs [lawStmt 0, lawStmt 1, lawStmt 2, lawStmt 3, lawStmt 4, lawStmt 5, lawStmt 6, lawStmt 7, lawStmt 8, lawStmt 9, lawStmt 10] (lawEnv s.heap.objs.size)) _ _ _
  generalize e0 : lawStmt 0 = s0
  generalize e1 : lawStmt 1 = s1
  generalize e2 : lawStmt 2 = s2
  generalize e3 : lawStmt 3 = s3
  generalize e4 : lawStmt 4 = s4
  generalize e5 : lawStmt 5 = s5
  generalize e6 : lawStmt 6 = s6
  generalize e7 : lawStmt 7 = s7
  generalize e8 : lawStmt 8 = s8
  generalize e9 : lawStmt 9 = s9
  generalize e10 : lawStmt 10 = s10
  refine wpC_mono (law_walk e0.symm e1.symm e2.symm e3.symm e4.symm e5.symm e6.symm e7.symm e8.symm e9.symm e10.symm G F N rfl hl hi hz hoS hoM hh hd10 hu fun h' tk F' => h h' tk F') (fun f s' q => ?_) (fun _ _ e => e)
  obtain ⟨rfl, q⟩ := q
  exact q
end Mine
end

theorem PySem.Challenge.cw_gh0001_01_holds : PySem.Challenge.rw_gh0001_01.Holds := by
  exact Mine.top_of_law Mine.law_ok
