import PyProof.Rows.All
import Wide.All
import OpenK.AllK
import Wide.FinOn
import Lean
import PySem.Challenge.RW_ez0011_01
set_option Elab.async false
set_option maxRecDepth 100000
section
open PySem PySem.W PyProof.Rows PySem.Calls
open Sem (wp)
namespace Mine

/-! the logic over stacks on which no built-in stands that holds a bytearray's memory -/

def heldIds : List String := ["bytearray.__contains__", "bytearray.__mod__", "bytearray.__rmod__", "_struct.pack_into.held", "bytearray.find.held"] ++ Builtin.Bytes.decodersThatHold

def holdsMem : Code → Bool
  | .builtin id _ => heldIds.contains id
  | _ => false

def Clean (l : List (Code × Pos)) : Prop := ∀ x ∈ l, holdsMem x.1 = false

def wpC {α : Type} (M : Model) (A : Around) (t : Sem α) (Q : α → Shared → Prop) (E : Value → Shared → Prop) (s : Shared) : Prop :=
  ∀ Γ p, Γ.In A → (holdsMem Γ.code = false ∧ Clean Γ.below) → wp M Γ t (fun a _ s' => Q a s') (fun e _ s' => E e s') p s

def codeC (M : Model) (A : Around) (c : Code) (R : Result → Shared → Prop) (s : Shared) : Prop :=
  ∀ Γ p, Γ.code = c → Γ.Below A → Clean Γ.below → wpCode M Γ R p s

section
variable {α β : Type} {M : Model} {A : Around} {E : Value → Shared → Prop} {s : Shared}

theorem wpC_of_any {t : Sem α} {Q : α → Shared → Prop} (h : wpAny M A t Q E s) : wpC M A t Q E s := fun Γ p hΓ _ => h Γ p hΓ
theorem codeC_of_any {c : Code} {R : Result → Shared → Prop} (h : codeAny M A c R s) : codeC M A c R s := fun Γ p hc hΓ _ => h Γ p hc hΓ
theorem wpC_pure {a : α} {Q : α → Shared → Prop} (h : Q a s) : wpC M A (pure a) Q E s := fun _ _ _ _ => h
theorem wpC_mono {t : Sem α} {Q Q' : α → Shared → Prop} {E' : Value → Shared → Prop} (h : wpC M A t Q E s)
    (hQ : ∀ a s, Q a s → Q' a s) (hE : ∀ e s, E e s → E' e s) : wpC M A t Q' E' s :=
  fun Γ p hΓ hc => Sem.wp_mono M Γ t (fun a _ s => hQ a s) (fun e _ s => hE e s) p s (h Γ p hΓ hc)
theorem wpC_bind {m : Sem α} {f : α → Sem β} {Q : β → Shared → Prop} (h : wpC M A m (fun a s' => wpC M A (f a) Q E s') E s) :
    wpC M A (m >>= f) Q E s := fun Γ p hΓ hc => by
  rw [Sem.wp_bind']
  exact Sem.wp_mono M Γ m (fun a p' s' h' => h' Γ p' hΓ hc) (fun _ _ _ h' => h') p s (h Γ p hΓ hc)
/-- what stands ahead is walked by the library's rules -/
theorem wpC_ahead {m : Sem α} {f : α → Sem β} {Q : β → Shared → Prop} (h : wpAny M A m (fun a s' => wpC M A (f a) Q E s') E s) :
    wpC M A (m >>= f) Q E s := wpC_bind (wpC_of_any h)
/-- what stands behind is walked by the library's rules -/
theorem wpC_behind {m : Sem α} {f : α → Sem β} {Q : β → Shared → Prop} (h : wpC M A m (fun a s' => wpAny M A (f a) Q E s') E s) :
    wpC M A (m >>= f) Q E s := wpC_bind (wpC_mono h (fun _ _ x => wpC_of_any x) fun _ _ x => x)
theorem wpC_map {m : Sem α} {f : α → β} {Q : β → Shared → Prop} (h : wpC M A m (fun a s' => Q (f a) s') E s) :
    wpC M A (f <$> m) Q E s := fun Γ p hΓ hc => by rw [Sem.wp_map]; exact h Γ p hΓ hc
theorem wpC_holding {vs : List Value} {m : Sem α} {Q : α → Shared → Prop} (h : wpC M A m Q E s) : wpC M A (holding vs m) Q E s :=
  fun Γ p hΓ hc => by rw [Sem.wp_holding]; exact h Γ p hΓ hc
theorem wpC_onRaise {m : Sem α} {k : Value → Sem Unit} {Q : α → Shared → Prop}
    (h : wpC M A m Q (fun e s' => wpAny M A (k e) (fun _ s'' => E e s'') E s') s) : wpC M A (m.onRaise k) Q E s := fun Γ p hΓ hc => by
  rw [Sem.wp_onRaise]
  exact Sem.wp_mono M Γ m (fun _ _ _ h' => h') (fun e p' s' h' => h' Γ p' hΓ) p s (h Γ p hΓ hc)
theorem wpC_ite {c : Prop} [Decidable c] {a b : Sem α} {Q : α → Shared → Prop} (h : if c then wpC M A a Q E s else wpC M A b Q E s) :
    wpC M A (if c then a else b) Q E s := by split <;> simp_all
theorem wpC_stack {Q : List (Code × Pos) → Shared → Prop} (h : ∀ st, Clean st → Q st s) : wpC M A stack Q E s := fun Γ p _ hc => by
  show Q ((Γ.code, p) :: Γ.below) s
  exact h _ fun x hx => by rcases List.mem_cons.mp hx with rfl | hx; exact hc.1; exact hc.2 x hx

theorem clean_enter {Γ : Ctx} (c : Code) (hd : Option Value) (p : Pos) (hc : holdsMem Γ.code = false ∧ Clean Γ.below) : Clean (Γ.enter c hd p).below := by
  intro x hx
  have hx' : x ∈ (Γ.code, p) :: Γ.below := hx
  rcases List.mem_cons.mp hx' with rfl | hx'
  · exact hc.1
  · exact hc.2 x hx'
theorem wpC_run {c : Code} {h : Option Value} {Q : Flow → Shared → Prop}
    (hc : codeC M (A.mark h) c (fun r s' => match r with | .ok f => Q f s' | .error e => E e s') s) (hnb : h ≠ some byPass := by intro x; cases x) :
    wpC M A (run c h) Q E s :=
  fun Γ p hΓ hk => by rw [Sem.wp_run]; exact hc _ p rfl (hΓ.enter c h p hnb) (clean_enter c h p hk)
theorem wpC_runValue {c : Code} {Q : Value → Shared → Prop}
    (hc : codeC M A c (fun r s' => match r with | .ok (.ret v) => Q v s' | .ok _ => False | .error e => E e s') s) :
    wpC M A (runValue c) Q E s := fun Γ p hΓ hk => by
  rw [Sem.wp_runValue]; exact hc _ p rfl (hΓ.enter c none p (by intro x; cases x)) (clean_enter c none p hk)
theorem wpC_call {f : Value} {pos : List Value} {kw : List (Str × Value)} {Q : Value → Shared → Prop}
    (hc : codeC M A (.call f ⟨pos, kw⟩) (fun r s' => match r with | .ok (.ret v) => Q v s' | .ok _ => False | .error e => E e s') s) :
    wpC M A (call f pos kw) Q E s := wpC_runValue hc
theorem codeC_of_tree {c : Code} {R : Result → Shared → Prop} (hold : holdsMem c = false)
    (h : wpC M (A.under c) (M.den c) (fun fin s' => match fin with | .done f => R (.ok f) s' | .again c' => c'.quiet = true ∧ codeC M A c' R s')
      (fun e s' => R (.error e) s') s) : codeC M A c R s := fun Γ p hc hΓ hk => by
  rw [wpCode_iff_wp, hc]
  refine Sem.wp_mono M Γ _ (fun fin p' s' h' => ?_) (fun _ _ _ h' => h') p s (h Γ p (hc ▸ hΓ.in) ⟨hc ▸ hold, hk⟩)
  cases fin with
  | done f => exact h'
  | again c' => exact ⟨h'.1, h'.2 (Γ.goto c') p' rfl (hΓ.goto c') hk⟩
theorem codeC_mono {c : Code} {R R' : Result → Shared → Prop} (h : codeC M A c R s) (hR : ∀ r s, R r s → R' r s) : codeC M A c R' s :=
  fun Γ p hc hΓ hk => wpCode_mono hR (h Γ p hc hΓ hk)

theorem wpC_exported {self : Value} {Q : Bool → Shared → Prop} (h : Q false s) : wpC M A (Builtin.Bytes.exported self) Q E s := by
  unfold Builtin.Bytes.exported
  refine wpC_bind (wpC_stack fun st hst => wpC_pure ?_)
  generalize hb : List.any st _ = b
  have e : b = false := by
    subst hb
    rw [List.any_eq_false]
    intro x hx
    have hh := hst x hx
    split <;> simp_all [holdsMem, heldIds]
  rw [e]
  exact h
end
end Mine
end

section
open PySem PySem.W PyProof.Rows PySem.Calls PySem.Spec
open Sem (wp)
namespace Mine

theorem caller_clean : holdsMem (.builtin "claim.caller" {}) = false ∧ Clean ([] : List (Code × Pos)) := ⟨by decide +kernel, fun _ h => nomatch h⟩

theorem ends_of_wpC {prog : Program} {w : World} {t : Sem Fin} {s : Shared} {R : Result → Shared → Prop} (hreg : s.asleep)
    (h : wpC (model prog w) callerA t (fun fin s' => ∃ f, fin = .done f ∧ (R (.ok f) s' ∧ leftWithCleanup s'.gens = false)) (fun e s' => R (.error e) s' ∧ leftWithCleanup s'.gens = false) s) :
    ∃ n r s' s'', runN (denote table) prog w n s ⟨t, .builtin "claim.caller" {}, default, []⟩ = .halted (outcomeOf r) s' ∧
      schedN (denote table) prog w n (.single s ⟨t, .builtin "claim.caller" {}, default, []⟩) = .halted (outcomeOf r) s' ∧ s'.forget = s''.forget ∧ R r s'' := by
  have h1 := h _ default caller_in caller_clean
  have h2 : wp (model prog w) ⟨.builtin "claim.caller" {}, none, none, [], none⟩ t
      (Sem.finPost (model prog w) ⟨.builtin "claim.caller" {}, none, none, [], none⟩ (fun r s' => R r s' ∧ leftWithCleanup s'.gens = false))
      (fun e _ s' => R (.error e) s' ∧ leftWithCleanup s'.gens = false) default s := by
    refine Sem.wp_mono _ _ t (fun fin p' s' h' => ?_) (fun _ _ _ h' => h') default s h1
    obtain ⟨f, rfl, hf⟩ := h'
    exact hf
  obtain ⟨n, r, s₁, s₂, hs, hn, hfo, hR⟩ := wp_halts_full (M := model prog w) (R := R) hreg h2
  exact ⟨n, r, s₂, s₁, hn, hs, hfo, hR⟩

theorem callFromC {c : ClaimW} {tree : List Value → Sem Fin} {w : World} {s : Shared} {free : Addr → Prop} {gens : Prop} {kept : Heap → Prop} (hz : s.asleep) (hgens : s.gens = #[])
    (hspec : ∀ args, c.pre args = true → WData.layableAll args = true →
      ∀ ord : List DictEntry → List DictEntry, (∀ l, (ord l).Perm l) →
      ∃ vs s₁, layAllW c.records (classAt s.heap) w.params ord args s = some (vs, s₁) ∧
        wpC (model c.prog w) callerA (tree vs) (fun fin s' => ∃ f, fin = .done f ∧ (c.Ends s args vs s₁ (.ok f) s' ∧ s'.os = s.os ∧ AllBare s'.gens ∧ kept s'.heap))
          (fun e s' => c.Ends s args vs s₁ (.error e) s' ∧ s'.os = s.os ∧ AllBare s'.gens ∧ kept s'.heap) s₁) :
    c.CallFrom (fun vs => ⟨tree vs, .builtin "claim.caller" {}, default, []⟩) w free gens kept s := by
  intro args hpre hlay ord hord
  obtain ⟨vs, s₁, hlaid, hcode⟩ := hspec args hpre hlay ord hord
  have hal := layAllW_rest _ _ _ hlaid
  obtain ⟨k, r, s', s'', hrun, hsched, hfo, hcase, hos, hkp⟩ := ends_of_wpC (prog := c.prog) (w := w) (t := tree vs) (s := s₁)
    (R := fun r s' => c.Ends s args vs s₁ r s' ∧ s'.os = s.os ∧ kept s'.heap)
    (Shared.asleep_of_life hal.2.2.2 hz)
    (wpC_mono hcode (by
      rintro fin s' ⟨f, e, h1, h2, h3, h4⟩
      exact ⟨f, e, ⟨h1, h2, h4⟩, leftWithCleanup_false_of_bare h3⟩) (by
      rintro e s' ⟨h1, h2, h3, h4⟩
      exact ⟨⟨h1, h2, h4⟩, leftWithCleanup_false_of_bare h3⟩))
  obtain ⟨eh, _, _, eo, _⟩ := Shared.forget_eq hfo
  have hcase := hcase.congr eh
  have hkp : kept s'.heap := by first | exact eh ▸ hkp | (rw [eh] at hkp; exact hkp) | (rw [← eh] at hkp; exact hkp)
  rw [← eo] at hos
  have hlife : s'.heap.life = s.heap.life := (runN_life _ _ _ hrun).trans hal.2.2.2
  refine ⟨vs, s₁, hlaid, k, _, s', hsched, ?_, (fun _ i x hx => by rw [hgens] at hx; simp at hx), hkp, by rw [hlife], Shared.rest_eq hos⟩
  rcases hcase with ⟨v, rfl, d1, d2, d3, d4, d5⟩ | ⟨e, ob, cls, rfl, d1, d2, d3, d4, d5⟩
  · exact .inl ⟨v, rfl, d1, d2, d3, fun b o y _ => d4 b o y, d5⟩
  · exact .inr ⟨e, ob, cls, rfl, d1, d2, d3, d4, fun b o y _ => d5 b o y⟩

abbrev WalkC (q : Program) (loose : List Str) (XP : (Str → Option Value) → Heap → Prop) (YP : World → Heap → Prop) (r : RowW) (d : DefRec) (kwd : List (Str × Expr)) : Prop :=
  ∀ (w : World) (s₀ s₁ : Shared) (mg mb : Str → Option Value), Ground q loose r.records XP w s₀ mg mb s₁.heap → YP w s₁.heap → ∀ (a : Addr) (o : Obj) (pm cd doc dV kV : Value), s₁.heap.get? a = some o →
    o.data = .func { docDef d.name d.params d.body d.scope pm cd doc with defaults := dV, kwdefaults := kV } → s₁.heap.CodeRec cd d.name → Dflts mg s₁.heap d.params kwd dV kV → mg d.name = some (.ref a) → s₁.gens = #[] →
    ∀ (args : List WData) (vals : List Value) (as : List Addr), r.claim.pre args = true → WData.layableAll args = true → ReadsAllW r.records (classAt s₀.heap) s₁.heap vals args as → WellAll w.params s₁.heap vals args → (∀ a ∈ as, (a == sysModules) = false) →
      wpC (model r.prog w) callerA (PySem.call (.ref a) vals) (fun v s' => GoodWG r.claim (classAt s₀.heap) (ExcName.means s₀.heap) args s₁ (.ok (.ret v)) s')
        (fun e s' => GoodWG r.claim (classAt s₀.heap) (ExcName.means s₀.heap) args s₁ (.error e) s') s₁

/-- as the library's head of an open row, but the call is asked for over clean stacks alone; it stands under this name so that the head's own tactic takes it -/
theorem PySem.W.holds_open {r : OpenRow} {q : Program} {loose : List Str} {Xt : Shared → Bool} {XP : (Str → Option Value) → Heap → Prop} {α : Type} {Yf : Shared → α} {Ya : World → α} {YP : World → Heap → Prop} {d : DefRec} {kwd : List (Str × Expr)} {N : Nat}
    (left : LeftO r.prog q loose Xt Yf Ya N) (hY : ∀ w s, Yf s = Ya w → YP w s.heap) (hYk : ∀ w h h', YP w h → (∀ b o, h.get? b = some o → h'.get? b = some o) → YP w h')
    (hX : ∀ s, Xt s = true → XP (s.heap.nsMap mainGlobals) s.heap) (hXk : ∀ mg h h', XP mg h → (∀ b o, h.get? b = some o → h'.get? b = some o) → XP mg h')
    (hdef : defOf q r.name = some (d, kwd)) (hp : r.prog.theDef r.name = some (d.params, d.body, d.scope)) (hk : kwWritten? d.params.kwonlyargs d.params.kw_defaults = some kwd) (hRf : ∀ s, Xt s = true → RecFacts r.records s.heap) (hwr : (!r.writes || r.records.isEmpty) = true)
    (k1 : r.wellSaid = true) (ok : (chainsOk q && opensWell r.prog && (frees r.toRowW && r.within.isEmpty)) = true) (hb : r.prog.bare) (hw : r.toRowW.promised)
    (call : WalkC q loose XP YP r.toRowW d kwd) : r.Holds := by
  refine ⟨k1, hw, ?_⟩
  obtain ⟨ok, k5⟩ := Bool.and_eq_true_iff.mp ok
  obtain ⟨hch, o1⟩ := Bool.and_eq_true_iff.mp ok
  obtain ⟨k5, k6⟩ := Bool.and_eq_true_iff.mp k5
  obtain ⟨hsame, hu, ha, hap, hm⟩ := frees_parts k5
  refine ⟨⟨hb, o1, by show r.makers.map _ = []; rw [hm]; rfl⟩, hw.witness, fun w => ⟨(left.behind hX hch w).1, fun s' hs' => ?_⟩⟩
  obtain ⟨s₀, hf, hg0, s, hT, hz, hgens, hg, G00, y⟩ := (left.behind (XP := fun mg h => XP mg h ∧ RecFacts r.records h) (fun s hs => ⟨hX s hs, hRf s hs⟩) hch w).2 s' hs'
  have G0 : Ground q loose [] XP w s (s.heap.nsMap mainGlobals) (s.heap.nsMap builtinsNs) s.heap := ⟨G00.T, G00.B, G00.D, G00.TE, G00.TD, G00.W, G00.X.1, G00.cls, G00.has, G00.apart, G00.once, G00.K⟩
  have RF := G00.X.2
  have hT' := hT
  refine ⟨s₀, hf, hg0, s, hT, ?pin, RF.1, RF.2.1, ?_⟩
  case pin =>
    intro n hn
    obtain rfl : n = r.name := by split at hn <;> simp_all
    exact pinned_of_view hg G0 hdef hp hk
  have hgens : s.gens = #[] := Array.eq_empty_of_size_eq_zero (beq_iff_eq.mp hgens)
  have G : Ground q loose r.records XP w s _ _ s.heap := RF.ground G0
  refine callFromC (c := r.claim) hz hgens fun args hpre hlay ord hord => ?_
  obtain ⟨⟨vs, s₁⟩, hlaid⟩ := Option.isSome_iff_exists.mp (layAllW_isSome (P := w.params) (ord := ord) G.has args r.args s (pre_splitW hpre).1)
  have keeps := layAllW_keeps _ _ _ hlaid
  have hal := layAllW_rest _ _ _ hlaid
  obtain ⟨as, hrd, hin, hold⟩ := reads_layAllW hord _ _ _ hlaid hlay s₁.heap (fun _ _ e => e)
  have L : Laid r.records w s s₁ args vs as := ⟨⟨ord, hord, hlaid⟩, hrd, hin, hold, keeps, hal.1.trans hgens, hal.2.2.1⟩
  have G₁ := G.keeps hXk keeps
  obtain ⟨a, o, pm, cd, doc, dV, kV, h1, h2, h3, h4, h5⟩ := G₁.fn hdef
  have h := call w s s₁ _ _ G₁ (hYk _ _ _ (hY w s y) keeps) a o pm cd doc dV kV h2 h3 h4 h5 (defOf_name hdef ▸ h1) L.gens args vs as hpre hlay L.reads L.well (L.low G.low)
  have hi := ident_freeW hu ha hap
  have hwi : r.claim.within = [] := List.isEmpty_iff.mp k6
  refine ⟨vs, s₁, hlaid, wpC_ahead (wpAny_nsGet G₁.T.g ?_)⟩
  rw [h1]
  refine wpC_bind (wpC_mono h (fun v s' g => wpC_pure ⟨_, rfl, ?_⟩) fun e s' g => ?_)
  · have z := g.laid (c := r.claim) hsame hwi hi L
    exact ⟨z.1, z.2.1, z.2.2, fun q => ⟨namesKept_of hT' hg r.keeps keeps g.2.1.old, noTable hwr q⟩⟩
  · have z := g.laid (c := r.claim) hsame hwi hi L
    exact ⟨z.1, z.2.1, z.2.2, fun q => ⟨namesKept_of hT' hg r.keeps keeps g.2.1.old, noTable hwr q⟩⟩

set_option maxHeartbeats 8000000 in
open_top hd for PySem.Challenge.rw_ez0011_01
end Mine
end
section
open PySem PySem.W PyProof.Rows PySem.Calls
namespace Mine
theorem filled : (fun (_ : OpenLaw) (_ : Params → Frag) => True) PySem.Challenge.rw_ez0011_01 hd.heap_39 := by
  k_fill
  trivial
end Mine
end
section
open PySem PySem.W PyProof.Rows PySem.Calls
namespace Mine

section
variable {prog : Program} {w : World} {A A₀ : Around} {s : Shared} {K : Frag} {L : Addr} {h₀ base : Heap} {m mg mb : Str → Option Value} {p : Program} {loose : List Str} {mean : ExcName → Option Value}

/-- a def of the text is entered: what stood stays -/
theorem enterM {env : Env} {outer : List Env} {R : Result → Shared → Prop} {name qual : Str} {params : Arguments} {body : List Stmt} {scope : Scope} {dV kV doc pm cdv ct oc : Value} {an od : Option Addr} {osl : Array (Option Value)} {f : Addr} {args : Args} {binds : List (Str × Value)}
    (B : Below A₀ base outer h₀) (F : Fr h₀ L s.heap m) (X₀ : K.In h₀) (T : Top p loose mean mg mb h₀) (hA : A.frames = some (env :: outer)) (hf : env.frame = some L) (hke : env.scope.kind = .function)
    (ho : K.lookup f = some ⟨oc, od, .func (fnOf name qual params body scope dV kV doc pm an cdv ct), osl⟩) (hcd : codeIn K cdv qual = true) (hroom : A.depth < recursionLimit)
    (hbind : BindsTo s (fnOf name qual params body scope dV kV doc pm an cdv ct) args binds) (hloc : ∀ y ∈ binds, scope.names.lookup y.1 = some .local)
    (h : ∀ L' h₁, Fr s.heap L' h₁ (fun y => binds.reverse.lookup y) → News s.heap L' h₁ [] → Below A base (env :: outer) s.heap → K.In s.heap → Top p loose mean mg mb s.heap →
      wpAny (model prog w) (A.deeper (envOf qual scope L' f cdv)) (execs body (envOf qual scope L' f cdv))
        (fun fl s' => R (.ok (.ret (match fl with | .ret v => v | _ => .none))) s')
        (fun e s' => wpAny (model prog w) (A.deeper (envOf qual scope L' f cdv)) (leaving (envOf qual scope L' f cdv) e) (fun _ s'' => R (.error e) s'') (fun e' s'' => R (.error e') s'') s')
        { s with heap := h₁, toks := s.toks + binds.length })
    (hco : scope.isCoroutine = false) (hgen : scope.isGenerator = false) (hk : scope.kind = .function)
    (hcell : ∀ x ∈ scope.names, x.2 ≠ .cell) : codeAny (model prog w) A (.call (.ref f) args) R s := by
  have X := X₀.keeps F.keep
  have B₁ := pushX B F hf hke
  refine codeAny_call_def (fd := fnOf name qual params body scope dV kV doc pm an cdv ct) (body := body) (binds := binds) hroom (X _ _ ho) rfl (T.nolimit.keeps F.keep) (codeRec_of X hcd) rfl hbind hcell hloc (fun h₁ hns hk₁ => ?_) hco hgen hk
  exact h s.heap.objs.size h₁ ⟨hns, hk₁, Nat.le_refl _⟩ News.nil ⟨hA, B₁.stays, B₁.frames⟩ X (T.keeps F.keep)
end

/-- what a call of a def of the text hands back, wherever it is called from; what stood stays -/
abbrev Con (K : Frag) (w : World) (f : Addr) (vs : List Value) (k u : Nat) (P : Value → Prop) : Prop :=
  ∀ (prog : Program) (p : Program) (loose : List Str) (mean : ExcName → Option Value) (mg mb : Str → Option Value)
    (dp un : Nat) (gd : Option (List Code)) (cn : Str) (cs : Scope) (a : Addr) (ccd : Value) (cl : List (Str × Addr)) (outer : List Env) (A₀ : Around) (base h₀ : Heap) (L : Addr) (m : Str → Option Value) (s : Shared) (Q E : Value → Shared → Prop),
    Below A₀ base outer h₀ → Fr h₀ L s.heap m → K.In h₀ → Top p loose mean mg mb h₀ → cs.kind = .function → dp + k < recursionLimit → un + u < cLine →
    (∀ v h' tk', (∀ b o, s.heap.get? b = some o → h'.get? b = some o) → P v → Q v { s with heap := h', toks := tk' }) →
    wpAny (model prog w) (ktrTop dp un gd cn cs L a ccd cl outer) (call (.ref f) vs) Q E s

theorem keepN {h₀ h h' : Heap} {L : Addr} {news : List (Addr × Obj)} (N : News h₀ L h news) (k : ∀ b o, h.get? b = some o → h'.get? b = some o) : News h₀ L h' news :=
  fun p hp => ⟨k _ _ (N p hp).1, (N p hp).2⟩
theorem keepF {h₀ h h' : Heap} {L : Addr} {m : Str → Option Value} (F : Fr h₀ L h m) (k : ∀ b o, h.get? b = some o → h'.get? b = some o) : Fr h₀ L h' m := by
  obtain ⟨oL, es, ep, hL, hd, hk, hf⟩ := F.ns
  exact ⟨⟨oL, es, ep, k _ _ hL, hd, hk, hf⟩, fun b o e => k _ _ (F.keep b o e), F.above⟩

theorem Con.use {K : Frag} {w : World} {f : Addr} {vs : List Value} {k u : Nat} {P : Value → Prop} (c : Con K w f vs k u P) {prog : Program} {p : Program} {loose : List Str} {mean : ExcName → Option Value} {mg mb : Str → Option Value}
    {dp un : Nat} {gd : Option (List Code)} {cn : Str} {cs : Scope} {a : Addr} {ccd : Value} {cl : List (Str × Addr)} {outer : List Env} {A₀ : Around} {base h₀ : Heap} {L : Addr} {m : Str → Option Value} {s : Shared} {Q E : Value → Shared → Prop} {news : List (Addr × Obj)}
    (B : Below A₀ base outer h₀) (F : Fr h₀ L s.heap m) (X : K.In h₀) (N : News h₀ L s.heap news) (T : Top p loose mean mg mb h₀) (hk : cs.kind = .function) (hd : dp + k < recursionLimit) (hu : un + u < cLine)
    (h : ∀ v h' tk', Fr h₀ L h' m → News h₀ L h' news → P v → Q v { s with heap := h', toks := tk' }) :
    wpAny (model prog w) (ktrTop dp un gd cn cs L a ccd cl outer) (call (.ref f) vs) Q E s :=
  c prog p loose mean mg mb dp un gd cn cs a ccd cl outer A₀ base h₀ L m s Q E B F X T hk hd hu fun v h' tk' k p => h v h' tk' (keepF F k) (keepN N k) p
end Mine
end

section
open PySem PySem.W PyProof.Rows PySem.Calls
namespace Mine
section
variable {prog : Program} {w : World} {A : Around} {E : Value → Shared → Prop} {s : Shared}

theorem bytes_has_bytes : typeLookup (.type "bytes") "__bytes__" = pure (some (.builtin "bytes.__bytes__")) := by rw [typeLookup_type, builtinLookup_eq_fast]; kernel_rfl

theorem call_bytes_bytes {b : Array UInt8} {t : Tok} {Q : Value → Shared → Prop} (hQ : Q (.bytes b t) s) : wpAny (model prog w) A (call (.type "bytes") [.bytes b t]) Q E s := by
  refine callType_codes (Q₁ := fun obj s₁ => s₁.TypeIs obj "bytes" ∧ Q obj s₁) F.bm_called (F.bm_typeCall _) F.entry_object_init ?_ fun obj s₁ h₁ => ?_
  · refine codeAny_of_tree ?_
    show wpAny _ A.in1.in1 (do checkBuiltinCall "bytes.__new__" ⟨[.type "bytes", .bytes b t], []⟩; again (.builtin "bytes.__new__" ⟨[.type "bytes", .bytes b t], []⟩)) _ _ s
    refine wpAny_bind (wpAny_of_eq (F.bm_newCall _) (wpAny_pure ⟨plainId_quiet F.bm_plain _, codeAny_builtin F.bm_entry ?_⟩))
    rw [Around.under_plainId F.bm_plain _]
    unfold Builtin.«bytes.__new__»
    refine wpAny_bind (wpAny_of_eq (a := true) rfl ?_)
    refine bm_if_false rfl ?_
    refine wpAny_bind (wpAny_of_eq F.bm_sub ?_)
    refine bm_if_false rfl ?_
    refine wpAny_bind (wpAny_of_eq (F.bm_bind _) ?_)
    refine wpAny_bind (wpAny_of_eq (a := ()) rfl ?_)
    refine wpAny_bind (wpAny_of_eq (a := ()) rfl ?_)
    refine bm_if_false rfl ?_
    refine wpAny_bind (wpAny_specialOf (typeIs_bytes s b t) bytes_has_bytes ?_)
    show wpAny _ _ (rule "bytes.__new__.of-bytes" >>= _) _ _ _
    refine wpAny_bind (wpAny_rule ?_)
    refine wpAny_bind (wpAny_typeOf (typeIs_bytes s b t) ?_)
    refine bm_if_true (by decide) ?_
    refine wpAny_pure ?_
    exact ⟨typeIs_bytes _ _ _, hQ⟩
  · exact ⟨h₁.1, F.args_object_init_2 obj _, object_init_meets F.bm_called.init.lookup F.bm_called.made (by decide) prog w A.in1 _ s₁ ⟨h₁.1, rfl, h₁.2⟩⟩
end
end Mine
end

section
open PySem PySem.W PyProof.Rows PySem.Calls
namespace Mine
section
variable {prog : Program} {w : World} {A : Around} {E : Value → Shared → Prop} {s : Shared}

theorem slot_lstrip : Slot "bytes" "lstrip" "bytes.lstrip" :=
  .of (owner := "bytes") (n := "lstrip") (by rw [typeLookup_type, builtinLookup_eq_fast]; kernel_rfl) (by decide +kernel) (by decide +kernel) (by decide +kernel)
    (by first | exact .inl (by decide +kernel) | exact .inr (by decide +kernel)) (by rw [isSubtype_type]; kernel_rfl)
theorem type_lstrip : typeOf (.builtin "bytes.lstrip") = pure (.type "method_descriptor") := by show builtinType _ = _; rw [builtinType_eq_fast]; kernel_rfl
theorem entry_lstrip : entryFor table "bytes.lstrip" = some Builtin.«bytes.lstrip» := by first | exact entryFor_of_fast (by kernel_rfl) | exact entryFor_of_tree (by kernel_rfl)
theorem args_lstrip (a b : Value) : argsOk "bytes.lstrip" ⟨[a, b], []⟩ := by unfold argsOk; kernel_rfl
theorem slot_translate : Slot "bytes" "translate" "bytes.translate" :=
  .of (owner := "bytes") (n := "translate") (by rw [typeLookup_type, builtinLookup_eq_fast]; kernel_rfl) (by decide +kernel) (by decide +kernel) (by decide +kernel)
    (by first | exact .inl (by decide +kernel) | exact .inr (by decide +kernel)) (by rw [isSubtype_type]; kernel_rfl)
theorem type_translate : typeOf (.builtin "bytes.translate") = pure (.type "method_descriptor") := by show builtinType _ = _; rw [builtinType_eq_fast]; kernel_rfl
theorem entry_translate : entryFor table "bytes.translate" = some Builtin.«bytes.translate» := by first | exact entryFor_of_fast (by kernel_rfl) | exact entryFor_of_tree (by kernel_rfl)
theorem args_translate (a b : Value) : argsOk "bytes.translate" ⟨[a, b], []⟩ := by unfold argsOk; kernel_rfl
theorem args_translate3 (a b c : Value) : argsOk "bytes.translate" ⟨[a, b, c], []⟩ := by unfold argsOk; kernel_rfl
theorem slot_hex : Slot "bytes" "hex" "bytes.hex" :=
  .of (owner := "bytes") (n := "hex") (by rw [typeLookup_type, builtinLookup_eq_fast]; kernel_rfl) (by decide +kernel) (by decide +kernel) (by decide +kernel)
    (by first | exact .inl (by decide +kernel) | exact .inr (by decide +kernel)) (by rw [isSubtype_type]; kernel_rfl)
theorem type_hex : typeOf (.builtin "bytes.hex") = pure (.type "method_descriptor") := by show builtinType _ = _; rw [builtinType_eq_fast]; kernel_rfl
theorem entry_hex : entryFor table "bytes.hex" = some Builtin.«bytes.hex» := by first | exact entryFor_of_fast (by kernel_rfl) | exact entryFor_of_tree (by kernel_rfl)
theorem args_hex (a : Value) : argsOk "bytes.hex" ⟨[a], []⟩ := by unfold argsOk; kernel_rfl

theorem getm_lstrip {M : Model} {b : Array UInt8} {t : Tok} {pl : Sem Bool} {Q : Value × List Value → Shared → Prop} (h : Q (.builtin "bytes.lstrip", [.bytes b t]) s) : wpAny M A (getMethod (.bytes b t) (PySem.Str.ofString "lstrip") pl) Q E s := by
  with_reducible exact KBd.method_of (.bytes b t) (typeIs_bytes _ _ _) slot_lstrip type_lstrip KBd.noRef h
theorem getm_translate {M : Model} {b : Array UInt8} {t : Tok} {pl : Sem Bool} {Q : Value × List Value → Shared → Prop} (h : Q (.builtin "bytes.translate", [.bytes b t]) s) : wpAny M A (getMethod (.bytes b t) (PySem.Str.ofString "translate") pl) Q E s := by
  with_reducible exact KBd.method_of (.bytes b t) (typeIs_bytes _ _ _) slot_translate type_translate KBd.noRef h
theorem getm_hex {M : Model} {b : Array UInt8} {t : Tok} {pl : Sem Bool} {Q : Value × List Value → Shared → Prop} (h : Q (.builtin "bytes.hex", [.bytes b t]) s) : wpAny M A (getMethod (.bytes b t) (PySem.Str.ofString "hex") pl) Q E s := by
  with_reducible exact KBd.method_of (.bytes b t) (typeIs_bytes _ _ _) slot_hex type_hex KBd.noRef h

/-- lstrip, as a list -/
@[irreducible] def lstrip (b c : Array UInt8) : Array UInt8 := (b.toList.dropWhile c.contains).toArray
theorem lstrip_size (b c : Array UInt8) : (lstrip b c).size ≤ b.size := by
  unfold lstrip
  simp only [List.size_toArray]
  have := (List.dropWhile_suffix (l := b.toList) c.contains).length_le
  simpa using this

theorem call_lstrip {b c : Array UInt8} {t u : Tok} {Q : Value → Shared → Prop} (hb : b.size ≤ 16777216) (h : ∀ t' k, Q (.bytes (lstrip b c) t') { s with toks := k }) :
    wpAny (model prog w) A (call (.builtin "bytes.lstrip") [.bytes b t, .bytes c u]) Q E s := by
  refine wpAny_call_entry slot_lstrip (typeIs_bytes _ _ _) entry_lstrip ?_ (args_lstrip _ _)
  unfold Builtin.«bytes.lstrip» Builtin.Bytes.stripM
  refine wpAny_bind (wpAny_of_eq (a := (Value.bytes b t, [Value.bytes c u])) rfl ?_)
  dsimp only
  refine wpAny_bind (wpAny_of_eq KBd.like_eq ?_)
  refine wpAny_bind (wpAny_pure ?_)
  refine wpAny_bind (wpAny_of_eq (a := b) rfl ?_)
  simp only [if_true, Bool.false_eq_true, if_false]
  by_cases hl : ((b.toList.dropWhile c.contains).length == b.size) = true
  · rw [if_pos hl]
    refine wpAny_bind (wpAny_rule ?_)
    have e : lstrip b c = b := by
      have h1 := beq_iff_eq.mp hl
      have h2 := List.dropWhile_suffix (l := b.toList) c.contains
      have h3 : b.toList.dropWhile c.contains = b.toList := h2.eq_of_length (by simpa using h1)
      unfold lstrip
      rw [h3]
    have hq := h t s.toks
    rw [e] at hq
    refine wpAny_bind ?_
    show wpAny _ _ (Builtin.Bytes.Kind.same _ _) _ _ _
    unfold Builtin.Bytes.Kind.same
    refine wpAny_bind (wpAny_typeOf (typeIs_bytes s b t) ?_)
    first
      | exact wpAny_pure (wpAny_pure ⟨_, rfl, hq⟩)
      | (refine bm_if_true (by decide) ?_; exact wpAny_pure (wpAny_pure ⟨_, rfl, hq⟩))
  · rw [if_neg hl]
    refine wpAny_bind ?_
    unfold Builtin.Bytes.Kind.new
    have := lstrip_size b c
    have ed : lstrip b c = (b.toList.dropWhile c.contains).toArray := by unfold lstrip; rfl
    rw [ed] at this h
    refine wpAny_mkBytes (wpAny_pure ⟨_, rfl, h _ _⟩) ?_
    rw [sizeLine_eq]
    exact Nat.le_trans this hb
end
end Mine
end

section
open PySem PySem.W PyProof.Rows PySem.Calls
namespace Mine
section
variable {prog : Program} {w : World} {A : Around} {E : Value → Shared → Prop} {s : Shared}

@[irreducible] def translated (b tbl : Array UInt8) : Array UInt8 := b.map fun c => tbl.getD c.toNat c
@[irreducible] def without (b del : Array UInt8) : Array UInt8 := b.filter (!del.contains ·)

theorem wp_same {b : Array UInt8} {t : Tok} {Q : Value → Shared → Prop} (h : Q (.bytes b t) s) : wpAny (model prog w) A (Builtin.Bytes.Kind.same .bytes (.bytes b t)) Q E s := by
  unfold Builtin.Bytes.Kind.same
  exact wpAny_bind (wpAny_typeOf (typeIs_bytes s b t) (wpAny_pure h))
theorem wp_new {b : Array UInt8} {Q : Value → Shared → Prop} (hz : b.size ≤ 16777216) (h : ∀ t' k, Q (.bytes b t') { s with toks := k }) : wpAny (model prog w) A (Builtin.Bytes.Kind.new .bytes b) Q E s := by
  unfold Builtin.Bytes.Kind.new
  exact wpAny_mkBytes (h _ _) (by rw [sizeLine_eq]; exact hz)

theorem translate_end {id : String} {b out : Array UInt8} {t : Tok} {Q : Value → Shared → Prop} (hz : out.size ≤ 16777216) (h : ∀ t' k, Q (.bytes out t') { s with toks := k }) :
    wpAny (model prog w) A (if (out == b) = true then do rule id; ret (← Builtin.Bytes.Kind.same .bytes (.bytes b t)) else do ret (← Builtin.Bytes.Kind.new .bytes out))
      (fun fin s' => ∃ v, fin = .done (.ret v) ∧ Q v s') E s := by
  by_cases hl : (out == b) = true
  · rw [if_pos hl]
    obtain rfl := eq_of_beq hl
    exact wpAny_bind (wpAny_rule (wpAny_bind (wp_same (wpAny_pure ⟨_, rfl, h t s.toks⟩))))
  · rw [if_neg hl]
    exact wpAny_bind (wp_new hz fun t' k => wpAny_pure ⟨_, rfl, h t' k⟩)

theorem call_translate {b c : Array UInt8} {t u : Tok} {Q : Value → Shared → Prop} (hb : b.size ≤ 16777216) (hc : c.size = 256) (h : ∀ t' k, Q (.bytes (translated b c) t') { s with toks := k }) :
    wpAny (model prog w) A (call (.builtin "bytes.translate") [.bytes b t, .bytes c u]) Q E s := by
  refine wpAny_call_entry slot_translate (typeIs_bytes _ _ _) entry_translate ?_ (args_translate _ _)
  unfold Builtin.«bytes.translate» Builtin.Bytes.translateM
  dsimp only
  refine wpAny_ite (KBy.ite_no (show ¬ ((1 : Nat) > 2) from by decide) ?_)
  refine bm_if_false (by rfl) ?_
  refine wpAny_bind (wpAny_of_eq KBd.like_eq ?_)
  refine bm_if_false (by rw [hc]; rfl) ?_
  refine wpAny_bind (wpAny_pure ?_)
  refine wpAny_bind (wpAny_pure ?_)
  refine wpAny_bind (wpAny_of_eq (a := b) rfl ?_)
  have e : ((b.filter fun x => !(#[] : Array UInt8).contains x).map fun x => c.getD x.toNat x) = translated b c := by
    unfold translated
    rw [show (b.filter fun x => !(#[] : Array UInt8).contains x) = b from Array.filter_eq_self.mpr (by simp)]
  show wpAny _ _ (if (((b.filter fun x => !(#[] : Array UInt8).contains x).map fun x => c.getD x.toNat x) == b) = true then _ else _) _ _ _
  rw [e]
  exact translate_end (by unfold translated; simpa using hb) h

theorem call_translate_none {b c : Array UInt8} {t u : Tok} {Q : Value → Shared → Prop} (hb : b.size ≤ 16777216) (h : ∀ t' k, Q (.bytes (without b c) t') { s with toks := k }) :
    wpAny (model prog w) A (call (.builtin "bytes.translate") [.bytes b t, .none, .bytes c u]) Q E s := by
  refine wpAny_call_entry slot_translate (typeIs_bytes _ _ _) entry_translate ?_ (args_translate3 _ _ _)
  unfold Builtin.«bytes.translate» Builtin.Bytes.translateM
  dsimp only
  refine wpAny_ite (KBy.ite_no (show ¬ ((2 : Nat) > 2) from by decide) ?_)
  refine bm_if_false (by rfl) ?_
  refine wpAny_bind ?_
  show wpAny _ _ (pure none) _ _ _
  refine wpAny_pure ?_
  show wpAny _ _ (Builtin.Bytes.bytesLike _ (Value.bytes c u) >>= _) _ _ _
  refine wpAny_bind (wpAny_of_eq KBd.like_eq ?_)
  refine wpAny_bind (wpAny_of_eq (a := b) rfl ?_)
  have e : ((b.filter fun x => !c.contains x).map fun x => x) = without b c := by
    unfold without
    simp
  show wpAny _ _ (if (((b.filter fun x => !c.contains x).map fun x => x) == b) = true then _ else _) _ _ _
  rw [e]
  exact translate_end (by unfold without; exact Nat.le_trans (Array.size_filter_le) hb) h
end
end Mine
end

section
open PySem PySem.W PyProof.Rows PySem.Calls
namespace Mine
section
variable {prog : Program} {w : World} {M : Model} {A : Around} {E : Value → Shared → Prop} {s : Shared} {h₀ : Heap} {L : Addr} {m : PySem.Str → Option Value} {news : List (Addr × Obj)}

/-- the number that octets tell, the highest first -/
@[irreducible] def num (b : Array UInt8) : Nat := b.toList.foldl (fun (acc : Nat) (b : UInt8) => acc * 256 + b.toNat) 0

theorem num_lt (b : Array UInt8) : num b < 256 ^ b.size := by
  have h := KFB.fold_lt b.toList 0
  rw [Nat.zero_add, Nat.one_mul, Array.length_toList] at h
  unfold num
  exact h

theorem keeps_bound {u : Addr} (h : Heap) (X : KFB.StandsAt u h) : ∃ k, (k = Keeper.frame ∨ k = Keeper.machine ∨ k = Keeper.boundFrame) ∧ Looks M h (keeperOf (.ref u)) k :=
  ⟨.machine, .inr (.inl rfl), (Looks.ld (part := none) X).andThen (Looks.of_pure rfl)⟩

theorem callWith_boundKW {pos : Pos} {u : Addr} {first : List Value} {env : Env} {e : Expr} {rest : List Expr} {kws : List Keyword} {Q : Value → Shared → Prop} (hall : (backToKw pos (keywordEach kws env)).all (·.1.isSome) = true)
    (h : wpAny M A (spliced (backTo pos (starEach (e :: rest) env))) (fun vs s₁ => wpAny M A (evalAll ((backToKw pos (keywordEach kws env)).map (·.2)))
      (fun ks s₂ => KFB.StandsAt u s₂.heap ∧ wpAny M A (call (.ref u) (first ++ vs) (((backToKw pos (keywordEach kws env)).filterMap (·.1)).zip ks)) Q E s₂) E s₁) E s)
    (hplain : ((backTo pos (starEach (e :: rest) env)).any (·.1) || (backToKw pos (keywordEach kws env)).any (·.1.isNone)) = false := by rfl) (he : starEach (e :: rest) env = (false, eval e env) :: starEach rest env := by rfl) :
    wpAny M A (callWith pos (.ref u) first (backTo pos (starEach (e :: rest) env)) (backToKw pos (keywordEach kws env))) Q E s :=
  callWith_of hplain keeps_bound (evalArgs_kw2 hall h he)

theorem grown {n : Nat} {Q : Value → Shared → Prop} (hn : n < 2 ^ 16000) (h : Q (.int (n : Int) s.toks) { s with toks := s.toks + 1 }) : wpAny M A (mkIntGrown (n : Int)) Q E s := by
  unfold mkIntGrown
  have hl : ¬ ((n : Int).natAbs.log2 ≥ bitsLine) := by
    rw [Int.natAbs_natCast]
    have hb : bitsLine = 134217728 := by first | rfl | decide
    by_cases hz : n = 0
    · subst hz
      rw [hb]
      decide
    · have h1 := (Nat.log2_lt hz).mpr hn
      omega
  rw [if_neg hl]
  exact wpAny_mkInt h

theorem tree_from {b : Array UInt8} {t u : Tok} {P : Fin → Shared → Prop} (hl : b.size ≤ 1000) (h : P (.done (.ret (.int (num b) s.toks))) { s with toks := s.toks + 1 }) :
    wpAny M A (Builtin.«int.from_bytes» ⟨[.type "int", .bytes b t], [(PySem.Str.ofString "byteorder", .str (PySem.Str.ofString "big") u), (PySem.Str.ofString "signed", .bool false)]⟩) P E s := by
  have hn : num b < 2 ^ 16000 := by
    have h1 := num_lt b
    have h2 : 256 ^ b.size ≤ 256 ^ 1000 := Nat.pow_le_pow_right (by decide) hl
    have h3 : (256 : Nat) ^ 1000 ≤ 2 ^ 16000 := by
      rw [show (256 : Nat) = 2 ^ 8 from rfl, ← Nat.pow_mul]
      exact Nat.pow_le_pow_right (by decide) (by decide)
    omega
  unfold Builtin.«int.from_bytes»
  refine wpAny_bind (wpAny_of_eq (a := true) KFB.type_int ?_)
  refine KFB.if_not rfl ?_
  refine wpAny_bind (wpAny_of_eq (a := true) F.conv_sub_int ?_)
  refine KFB.if_not rfl ?_
  refine wpAny_bind (wpAny_of_eq (a := [some (.bytes b t), some (.str (PySem.Str.ofString "big") u), some (.bool false)]) (by kernel_rfl) ?_)
  refine wpAny_bind (wpAny_of_eq (a := PySem.Str.ofString "big") (by kernel_rfl) ?_)
  refine wpAny_bind (wpAny_of_eq (a := false) (by kernel_rfl) ?_)
  refine wpAny_bind (wpAny_of_eq (a := false) (by kernel_rfl) ?_)
  refine wpAny_bind (wpAny_of_eq (a := b) rfl ?_)
  show wpAny _ _ (mkIntGrown (b.toList.foldl (fun (acc : Int) (b : UInt8) => acc * 256 + (b.toNat : Int)) ((0 : Nat) : Int)) >>= fun v => _) _ _ _
  rw [KFB.foldI_eq]
  have ed : num b = b.toList.foldl (fun (acc : Nat) (b : UInt8) => acc * 256 + b.toNat) 0 := by unfold num; rfl
  rw [← ed]
  refine wpAny_bind (grown hn ?_)
  refine KFB.if_so (by decide +kernel) ?_
  exact wpAny_bind (wpAny_pure (wpAny_pure h))

theorem check_from {b : Array UInt8} {t u : Tok} : checkBoundCall "int.from_bytes" ⟨[.type "int", .bytes b t], [(PySem.Str.ofString "byteorder", .str (PySem.Str.ofString "big") u), (PySem.Str.ofString "signed", .bool false)]⟩ = pure () := by first | kernel_rfl | rfl

theorem call_from {x : Addr} {b : Array UInt8} {t u : Tok} {Q : Value → Shared → Prop} (N : News h₀ L s.heap news) (hm : (x, KFB.bound) ∈ news) (hl : b.size ≤ 1000)
    (h : ∀ t' k, Q (.int (num b) t') { s with toks := k }) : wpAny (model prog w) A (call (.ref x) [.bytes b t] [(PySem.Str.ofString "byteorder", .str (PySem.Str.ofString "big") u), (PySem.Str.ofString "signed", .bool false)]) Q E s := by
  have ho : s.heap.get? x = some KFB.bound := KFB.at_of N hm
  refine wpAny_call (codeAny_of_tree ?_)
  show wpAny _ A.in1 (callAny (.ref x) ⟨[.bytes b t], [(PySem.Str.ofString "byteorder", .str (PySem.Str.ofString "big") u), (PySem.Str.ofString "signed", .bool false)]⟩) _ _ s
  simp only [callAny]
  refine wpAny_bind (wpAny_load ho ?_)
  simp only [KFB.bound, show (Value.type "builtin_function_or_method" == Value.type "method" || Value.type "builtin_function_or_method" == Value.type "builtin_function_or_method" || Value.type "builtin_function_or_method" == Value.type "method-wrapper") = true by decide, if_true]
  refine KFB.if_so (by decide) ?_
  refine wpAny_bind (wpAny_of_eq (a := ()) check_from ?_)
  refine wpAny_bind (wpAny_pure (wpAny_pure ?_))
  exact ⟨KFB.quiet_fb, codeAny_builtin KFB.entry_fb (tree_from hl (h _ _))⟩

/-- n octets of a number, the highest first -/
def octetsOf : Nat → Nat → List UInt8
  | 0, _ => []
  | n + 1, x => octetsOf n (x / 256) ++ [UInt8.ofNat (x % 256)]
theorem octetsOf_length : ∀ (n x : Nat), (octetsOf n x).length = n
  | 0, _ => rfl
  | n + 1, x => by
    show (octetsOf n (x / 256) ++ [_]).length = n + 1
    rw [List.length_append, octetsOf_length n]
    rfl
theorem octets_inj : ∀ {l l' : List UInt8}, l.map (fun c => ((c.toNat : Nat) : Int)) = l'.map (fun c => ((c.toNat : Nat) : Int)) → l = l'
  | [], [], _ => rfl
  | [], _ :: _, h => by cases h
  | _ :: _, [], h => by cases h
  | a :: r, b :: r', h => by
    rw [List.map_cons, List.map_cons] at h
    have h1 : a.toNat = b.toNat := Int.ofNat.inj (List.cons.inj h).1
    rw [UInt8.toNat_inj.mp h1, octets_inj (List.cons.inj h).2]
theorem little_octets : ∀ (n x : Nat), (KTBy.little n (x : Int)).reverse = (octetsOf n x).map (fun c => ((c.toNat : Nat) : Int))
  | 0, _ => rfl
  | n + 1, x => by
    show ((x : Int) % 256 :: KTBy.little n ((x : Int) / 256)).reverse = (octetsOf n (x / 256) ++ [UInt8.ofNat (x % 256)]).map _
    rw [List.reverse_cons, List.map_append, ← little_octets n (x / 256)]
    congr 1
    show [_] = [_]
    congr 1
    have : (UInt8.ofNat (x % 256)).toNat = x % 256 := by
      rw [UInt8.toNat_ofNat']
      omega
    show (x : Int) % 256 = (((UInt8.ofNat (x % 256)).toNat : Nat) : Int)
    rw [this]
    rfl
theorem low_octets {n x : Nat} (h : x < 256 ^ n) : (KTBy.low (x : Int) n).reverse = octetsOf n x := by
  refine octets_inj ?_
  rw [List.map_reverse, KTBy.low_ints (by omega) (by rw [KTBy.p256]; exact Int.ofNat_lt.mpr h), ← KTBy.little_eq, little_octets]

theorem args_to (a b : Value) (u : Tok) : argsOk "int.to_bytes" ⟨[a, b], [(PySem.Str.ofString "byteorder", .str (PySem.Str.ofString "big") u), (PySem.Str.ofString "signed", .bool false)]⟩ := by unfold argsOk; kernel_rfl

theorem call_to {x k : Nat} {t u v : Tok} {Q : Value → Shared → Prop} (hk : k ≤ 1000) (hx : x < 256 ^ k) (h : ∀ t' k', Q (.bytes (octetsOf k x).toArray t') { s with toks := k' }) :
    wpAny (model prog w) A (call (.builtin "int.to_bytes") [.int (x : Int) t, .int (k : Int) u] [(PySem.Str.ofString "byteorder", .str (PySem.Str.ofString "big") v), (PySem.Str.ofString "signed", .bool false)]) Q E s := by
  refine wpAny_call_entry_kw KTBy.slot (typeIs_int s _ t) KTBy.entry ?_ (args_to _ _ _)
  have hb : Builtin.Int.intBits (x : Int) ≤ 8 * k := KTBy.bits_le rfl (by omega) (by rw [KTBy.p256]; exact Int.ofNat_lt.mpr hx)
  show wpAny _ _ (Builtin.Int.intOfSelf (.int (x : Int) t) >>= fun y => _) _ _ s
  refine wpAny_bind (wpAny_of_eq (a := (x : Int)) rfl ?_)
  show wpAny _ _ (Builtin.Int.intBindNamed "to_bytes" ["length", "byteorder", "signed"] 0 2 [.int (k : Int) u] _ >>= fun l => _) _ _ s
  refine wpAny_bind (wpAny_of_eq (a := [some (.int (k : Int) u), some (.str (PySem.Str.ofString "big") v), some (.bool false)]) (by kernel_rfl) ?_)
  show wpAny _ _ (Builtin.Int.intIndex "int.to_bytes" (.int (k : Int) u) >>= fun n => _) _ _ s
  refine wpAny_bind (wpAny_of_eq (a := (k : Int)) rfl ?_)
  refine KTBy.if_not (by show (decide ((k : Int) < -(2 ^ 63 : Int)) || decide ((k : Int) ≥ 2 ^ 63)) = false; rw [decide_eq_false (show ¬ ((k : Int) < -(2 ^ 63 : Int)) by omega), decide_eq_false (show ¬ ((k : Int) ≥ 2 ^ 63) by omega)]; rfl) ?_
  refine wpAny_bind (wpAny_of_eq (a := PySem.Str.ofString "big") (by kernel_rfl) ?_)
  refine wpAny_bind (wpAny_of_eq (a := false) (by kernel_rfl) ?_)
  refine wpAny_bind (wpAny_of_eq (a := false) (by kernel_rfl) ?_)
  refine wpAny_ite_false (decide_eq_false (show ¬ ((k : Int) < 0) by omega)) ?_
  refine wpAny_ite_false (decide_eq_false (show ¬ ((k : Int) > 2 ^ 63 - 1 - 33) by omega)) ?_
  refine wpAny_ite_false (decide_eq_false (show ¬ ((k : Int) > (sizeLine : Int)) by rw [sizeLine_eq]; omega)) ?_
  refine KTBy.if_not (by show (decide ((x : Int) < 0) && !false) = false; rw [decide_eq_false (show ¬ (x : Int) < 0 by omega)]; rfl) ?_
  refine KTBy.if_not (by show (_ && decide ((Builtin.Int.intBits (x : Int) : Int) > 8 * (k : Int))) = false; rw [decide_eq_false (show ¬ ((Builtin.Int.intBits (x : Int) : Int) > 8 * (k : Int)) by omega), Bool.and_false]) ?_
  have e : (List.reverse (KTBy.low (x : Int) (Int.toNat (k : Int)))).toArray = (octetsOf k x).toArray := by rw [Int.toNat_natCast, low_octets hx]
  show wpAny _ _ (mkBytes ((List.reverse (KTBy.low (x : Int) (Int.toNat (k : Int)))).toArray) >>= fun _ => _) _ _ _
  rw [e]
  exact wpAny_bind (wpAny_mkBytes (wpAny_pure ⟨_, rfl, h _ _⟩) (by rw [List.size_toArray, octetsOf_length, sizeLine_eq]; omega))
end
end Mine
end

section
open PySem PySem.W PyProof.Rows PySem.Calls
namespace Mine

/-- a number told by octets (a word that hides its size) -/
structure IsNum (n : Nat) (b : Array UInt8) : Prop where
  eq : n = num b

theorem mulOk_num {b : Array UInt8} (hl : b.size ≤ 1000) : IntMulOk (num b) (num b) := by
  have hb : Builtin.Int.intBits (num b : Int) ≤ 8 * b.size := KTBy.bits_le (B := ((256 ^ b.size : Nat) : Int)) (KTBy.p256 _) (by omega) (Int.ofNat_lt.mpr (num_lt b))
  unfold IntMulOk
  have h2 : Builtin.Int.intTooBig (Builtin.Int.intBits (num b : Int) + Builtin.Int.intBits (num b : Int)) = false := by
    unfold Builtin.Int.intTooBig
    have hz : bitsLine = 134217728 := by first | rfl | decide
    first
      | exact decide_eq_false (by omega)
      | (simp only [hz]; exact decide_eq_false (by omega))
      | (simp only [hz, decide_eq_false_iff_not]; omega)
  rw [h2]
  simp

section
variable {prog : Program} {w : World} {M : Model} {A : Around} {E : Value → Shared → Prop} {s : Shared} {h₀ : Heap} {L : Addr} {m : PySem.Str → Option Value} {news : List (Addr × Obj)}

theorem call_fromN {x : Addr} {b : Array UInt8} {t u : Tok} {Q : Value → Shared → Prop} (N : News h₀ L s.heap news) (hm : (x, KFB.bound) ∈ news) (hl : b.size ≤ 1000)
    (h : ∀ n t' k, IsNum n b → IntMulOk n n → Q (.int (n : Int) t') { s with toks := k }) : wpAny (model prog w) A (call (.ref x) [.bytes b t] [(PySem.Str.ofString "byteorder", .str (PySem.Str.ofString "big") u), (PySem.Str.ofString "signed", .bool false)]) Q E s :=
  call_from N hm hl fun t' k => h _ t' k ⟨rfl⟩ (mulOk_num hl)

theorem call_toI {x : Int} {k : Nat} {t u v : Tok} {Q : Value → Shared → Prop} (hk : k ≤ 1000) (h0 : 0 ≤ x) (hx : x.toNat < 256 ^ k) (h : ∀ t' k', Q (.bytes (octetsOf k x.toNat).toArray t') { s with toks := k' }) :
    wpAny (model prog w) A (call (.builtin "int.to_bytes") [.int x t, .int (k : Int) u] [(PySem.Str.ofString "byteorder", .str (PySem.Str.ofString "big") v), (PySem.Str.ofString "signed", .bool false)]) Q E s := by
  obtain ⟨n, rfl⟩ := Int.eq_ofNat_of_zero_le h0
  rw [Int.toNat_natCast] at hx h
  exact call_to hk hx h

theorem add_bytes {b c : Array UInt8} {t u : Tok} {Q : Value → Shared → Prop} (h1 : b.size ≤ 100000) (h2 : c.size ≤ 100000) (h : ∀ t' k, Q (.bytes (b ++ c) t') { s with toks := k }) : wpAny (model prog w) A (binaryOp .Add (.bytes b t) (.bytes c u)) Q E s :=
  KBy.add_bytes (by omega) h

def modBy : Nat := 115792089237316195423570985008687907853269984665640564039457584007913129639747
@[irreducible] def mixNum (n : Nat) : Nat := (n * n + 11400714819323198485 * n + 7640891576956012808) % modBy
@[irreducible] def mixed (b : Array UInt8) : Array UInt8 := (octetsOf 32 (mixNum (num (#[1] ++ b)))).toArray
theorem mixNum_eq (n : Nat) : Int.fmod ((n : Int) * (n : Int) + 11400714819323198485 * (n : Int) + 7640891576956012808) 115792089237316195423570985008687907853269984665640564039457584007913129639747 = (mixNum n : Int) := by
  rw [Int.fmod_eq_emod_of_nonneg _ (by decide)]
  unfold mixNum modBy
  rw [Int.natCast_emod, Int.natCast_add, Int.natCast_add, Int.natCast_mul, Int.natCast_mul]
  rfl
theorem mixNum_lt (n : Nat) : mixNum n < 256 ^ 32 := by
  have h : mixNum n < modBy := by unfold mixNum; exact Nat.mod_lt _ (by decide)
  exact Nat.lt_trans h (by decide)
theorem mixed_size (b : Array UInt8) : (mixed b).size = 32 := by
  unfold mixed
  rw [List.size_toArray, octetsOf_length]

/-- the text's own hash -/
@[irreducible] def hashed (b : Array UInt8) : Array UInt8 := mixed (mixed b)
theorem hashed_size (b : Array UInt8) : (hashed b).size = 32 := by unfold hashed; exact mixed_size _

/-- the end of the text's mixing -/
theorem mixed_to {n : Nat} {b : Array UInt8} {t u v : Tok} {Q : Value → Shared → Prop} (hn : IsNum n (#[1] ++ b)) (h : ∀ t' k', Q (.bytes (mixed b) t') { s with toks := k' }) :
    wpAny (model prog w) A (call (.builtin "int.to_bytes") [.int (Int.fmod ((n : Int) * (n : Int) + 11400714819323198485 * (n : Int) + 7640891576956012808) 115792089237316195423570985008687907853269984665640564039457584007913129639747) t, .int 32 u] [(PySem.Str.ofString "byteorder", .str (PySem.Str.ofString "big") v), (PySem.Str.ofString "signed", .bool false)]) Q E s := by
  rw [mixNum_eq]
  obtain ⟨rfl⟩ := hn
  have ed : mixed b = (octetsOf 32 (mixNum (num (#[1] ++ b)))).toArray := by unfold mixed; rfl
  rw [ed] at h
  exact call_to (k := 32) (by decide) (mixNum_lt _) h

theorem callWith_kwF {pos : Pos} {id : String} {first : List Value} {env : Env} {e : Expr} {rest : List Expr} {kws : List Keyword} {Q : Value → Shared → Prop}
    (h : wpAny M A (spliced (backTo pos (starEach (e :: rest) env))) (fun vs s₁ => wpAny M A (evalAll ((backToKw pos (keywordEach kws env)).map (·.2)))
      (fun kvs s₂ => wpAny M A (call (.builtin id) (first ++ vs) (((backToKw pos (keywordEach kws env)).filterMap (·.1)).zip kvs)) Q E s₂) E s₁) E s)
    (he : backTo pos (starEach (e :: rest) env) = (false, eval e env) :: backTo pos (starEach rest env) := by rfl)
    (hplain : (backTo pos (starEach (e :: rest) env)).any (·.1) = false := by rfl)
    (hall : (backToKw pos (keywordEach kws env)).all (·.1.isSome) = true := by rfl)
    (hkw : (backToKw pos (keywordEach kws env)).any (·.1.isNone) = false := by rfl) :
    wpAny M A (callWith pos (.builtin id) first (backTo pos (starEach (e :: rest) env)) (backToKw pos (keywordEach kws env))) Q E s := by
  refine callWith_builtin_kwB hplain hkw ?_
  rw [he] at h ⊢
  exact evalArgs_kwB hall h
end
end Mine
end

section
open PySem PySem.W PyProof.Rows PySem.Calls
namespace Mine

/-- the sign of a digit below 58 -/
def signOf (d : Nat) : Nat :=
  if d < 9 then 49 + d else if d < 17 then 65 + (d - 9) else if d < 22 then 74 + (d - 17) else if d < 33 then 80 + (d - 22) else if d < 44 then 97 + (d - 33) else 109 + (d - 44)
/-- the digit of a sign; what is no sign stays -/
def digitOf (c : Nat) : Nat :=
  if 49 ≤ c ∧ c ≤ 57 then c - 49 else if 65 ≤ c ∧ c ≤ 72 then c - 65 + 9 else if 74 ≤ c ∧ c ≤ 78 then c - 74 + 17 else if 80 ≤ c ∧ c ≤ 90 then c - 80 + 22
  else if 97 ≤ c ∧ c ≤ 107 then c - 97 + 33 else if 109 ≤ c ∧ c ≤ 122 then c - 109 + 44 else c
def isSign (c : Nat) : Bool := (49 ≤ c && c ≤ 57) || (65 ≤ c && c ≤ 72) || (74 ≤ c && c ≤ 78) || (80 ≤ c && c ≤ 90) || (97 ≤ c && c ≤ 107) || (109 ≤ c && c ≤ 122)
@[irreducible] def digitTab : Array UInt8 := ((List.range 256).map fun c => (digitOf c).toUInt8).toArray
@[irreducible] def charTab : Array UInt8 := ((List.range 256).map fun d => if d < 58 then (signOf d).toUInt8 else d.toUInt8).toArray
@[irreducible] def signTab : Array UInt8 := ((List.range 58).map fun d => (signOf d).toUInt8).toArray
/-- a number told by its digits to the base 58, the highest first -/
@[irreducible] def digitsNum (l : List UInt8) : Nat := l.foldl (fun (a : Nat) (c : UInt8) => a * 58 + c.toNat) 0
theorem digitTab_size : digitTab.size = 256 := by unfold digitTab; decide +kernel
theorem charTab_size : charTab.size = 256 := by unfold charTab; decide +kernel
theorem translated_size (b c : Array UInt8) : (translated b c).size = b.size := by unfold translated; simp

section
variable {prog : Program} {w : World} {M : Model} {A : Around} {E : Value → Shared → Prop} {s : Shared} {h₀ : Heap} {L : Addr} {m : PySem.Str → Option Value} {news : List (Addr × Obj)}

theorem translateDigit {b c : Array UInt8} {t u : Tok} {Q : Value → Shared → Prop} (hc : c = digitTab) (hb : b.size ≤ 16777216) (h : ∀ t' k, Q (.bytes (translated b digitTab) t') { s with toks := k }) :
    wpAny (model prog w) A (call (.builtin "bytes.translate") [.bytes b t, .bytes c u]) Q E s := by
  subst hc
  exact call_translate hb digitTab_size h
theorem translateChar {b c : Array UInt8} {t u : Tok} {Q : Value → Shared → Prop} (hc : c = charTab) (hb : b.size ≤ 16777216) (h : ∀ t' k, Q (.bytes (translated b charTab) t') { s with toks := k }) :
    wpAny (model prog w) A (call (.builtin "bytes.translate") [.bytes b t, .bytes c u]) Q E s := by
  subst hc
  exact call_translate hb charTab_size h
theorem translateOut {b c : Array UInt8} {t u : Tok} {Q : Value → Shared → Prop} (hc : c = signTab) (hb : b.size ≤ 16777216) (h : ∀ t' k, Q (.bytes (without b signTab) t') { s with toks := k }) :
    wpAny (model prog w) A (call (.builtin "bytes.translate") [.bytes b t, .none, .bytes c u]) Q E s := by
  subst hc
  exact call_translate_none hb h
theorem lenB {b : Array UInt8} {t : Tok} {Q : Value → Shared → Prop} (hb : b.size ≤ 16777216) (h : ∀ t' k, Q (.int (b.size : Int) t') { s with toks := k }) : wpAny (model prog w) A (call (.builtin "len") [.bytes b t]) Q E s :=
  len_bytes (Nat.le_trans hb (by decide)) (h _ _)
theorem truthyB {b : Array UInt8} {t : Tok} {Q : Bool → Shared → Prop} (hb : b.size ≤ 16777216) (h : ∀ k, Q (decide (b.size ≠ 0)) { s with toks := k }) : wpAny (model prog w) A (truthy (.bytes b t)) Q E s := by
  refine truthy_bytes (Nat.le_trans hb (by decide)) ?_
  have e : ((b.size : Int) != 0) = decide (b.size ≠ 0) := by
    by_cases hz : b.size = 0
    · rw [hz]; rfl
    · rw [decide_eq_true hz]
      exact bne_iff_ne.mpr (by omega)
  rw [e]
  exact h _
theorem sliceB {value slice : PySem.Expr} {b : Array UInt8} {t : Tok} {l u : Value} {lo hi : Option Int} {Q : Value → Shared → Prop} (hF : Fr h₀ L s.heap m) (hN : News h₀ L s.heap news) (hl : IsPart l lo) (hu : IsPart u hi) (hz : b.size ≤ 16777216)
    (h : ∀ h' t' k, Fr h₀ L h' m → News h₀ L h' news → Q (.bytes (KBy.picked b lo hi) t') { s with heap := h', toks := k })
    (hs : subscripted slice false (.bytes b t) (.ref s.heap.objs.size) = operate [.ref s.heap.objs.size, .bytes b t] (getItem (.bytes b t) (.ref s.heap.objs.size)) := by with_unfolding_all rfl)
    (ht : ∀ r, letTemporaryGo value (.bytes b t) r = pure () := by intro _; with_unfolding_all rfl) :
    wpAny (model prog w) A (subscriptTail value slice (.bytes b t) (.ref s.heap.objs.size)) Q E { s with heap := s.heap.push { cls := .type "slice", data := .fields #[l, u, .none] } } :=
  KBc.slice_K hF hN rfl hl hu (by rw [KBw.ints_length]; exact hz) (fun h' t' k F N _ => h h' t' k F N) hs ht
end
end Mine
end

section
open PySem PySem.W PyProof.Rows PySem.Calls
namespace Mine

theorem digits_fold : ∀ (l : List UInt8) (a : Nat), l.foldl (fun (a : Nat) (c : UInt8) => a * 58 + c.toNat) a = a * 58 ^ l.length + l.foldl (fun (a : Nat) (c : UInt8) => a * 58 + c.toNat) 0
  | [], a => by simp
  | c :: r, a => by
    rw [List.foldl_cons, List.foldl_cons, digits_fold r (a * 58 + c.toNat), digits_fold r (0 * 58 + c.toNat), List.length_cons, Nat.pow_succ]
    rw [Nat.add_mul, Nat.zero_mul, Nat.zero_add, Nat.mul_assoc, Nat.mul_comm 58, Nat.add_assoc]
theorem digitsNum_append (l l' : List UInt8) : digitsNum (l ++ l') = digitsNum l * 58 ^ l'.length + digitsNum l' := by
  unfold digitsNum
  rw [List.foldl_append, digits_fold]
theorem digitsNum_nil : digitsNum [] = 0 := by unfold digitsNum; rfl
theorem digitsNum_concat (l : List UInt8) (c : UInt8) : digitsNum (l ++ [c]) = digitsNum l * 58 + c.toNat := by
  unfold digitsNum
  rw [List.foldl_append]
  rfl

/-- the i-th cut of ten -/
@[irreducible] def tenAt (D : Array UInt8) (i : Nat) : Array UInt8 := ((D.toList.drop (10 * i)).take 10).toArray
theorem tenAt_eq (D : Array UInt8) (i : Nat) (hi : 10 * i ≤ D.size) : KBy.picked D (some (0 + (i : Int) * 10)) (some (0 + (i : Int) * 10 + 10)) = tenAt D i := by
  unfold tenAt
  rw [KBc.picked_eq]
  have e1 : (0 : Int) + (i : Int) * 10 = ((10 * i : Nat) : Int) := by push_cast; omega
  have e2 : (0 : Int) + (i : Int) * 10 + 10 = ((10 * i + 10 : Nat) : Int) := by push_cast; omega
  rw [e1, show ((10 * i : Nat) : Int) + 10 = ((10 * i + 10 : Nat) : Int) by push_cast; rfl]
  show ((D.toList.drop (clipAt D.size ((10 * i : Nat) : Int))).take (clipAt D.size ((10 * i + 10 : Nat) : Int) - clipAt D.size ((10 * i : Nat) : Int))).toArray = _
  rw [clipAt_nat, clipAt_nat, Nat.min_eq_left hi]
  congr 1
  by_cases h : 10 * i + 10 ≤ D.size
  · rw [Nat.min_eq_left h]
    congr 1
    omega
  · rw [Nat.min_eq_right (by omega)]
    have hl : (D.toList.drop (10 * i)).length = D.size - 10 * i := by simp
    rw [List.take_of_length_le (by omega), List.take_of_length_le (by omega)]
theorem tenAt_size (D : Array UInt8) (i : Nat) : (tenAt D i).size ≤ 10 := by
  unfold tenAt
  simp
  omega
theorem tenAt_next (D : Array UInt8) (i : Nat) : digitsNum (D.toList.take (10 * (i + 1))) = digitsNum (D.toList.take (10 * i)) * 58 ^ (tenAt D i).size + digitsNum (tenAt D i).toList := by
  have e : D.toList.take (10 * (i + 1)) = D.toList.take (10 * i) ++ (tenAt D i).toList := by
    unfold tenAt
    rw [show 10 * (i + 1) = 10 * i + 10 by omega, List.take_add]
  rw [e, digitsNum_append, Array.length_toList]
theorem tenAt_last (D : Array UInt8) (n : Nat) (h : D.size ≤ 10 * n) : digitsNum (D.toList.take (10 * n)) = digitsNum D.toList := by
  rw [List.take_of_length_le (by simpa using h)]
theorem mulOk_ten {a : Int} {k : Nat} (h : k ≤ 10) : IntMulOk a (58 ^ ((k : Int)).toNat) := by
  refine IntMulOk.of_right ?_
  rw [Int.toNat_natCast]
  have : k = 0 ∨ k = 1 ∨ k = 2 ∨ k = 3 ∨ k = 4 ∨ k = 5 ∨ k = 6 ∨ k = 7 ∨ k = 8 ∨ k = 9 ∨ k = 10 := by omega
  rcases this with rfl | rfl | rfl | rfl | rfl | rfl | rfl | rfl | rfl | rfl | rfl <;> decide
theorem range_ten (n : Nat) (hn : n ≤ 1000) : Builtin.Range.small 0 (n : Int) 10 = true ∧ Builtin.Range.rangeSize 0 (n : Int) 10 = (((n + 9) / 10 : Nat) : Int) := by
  have h2 : Builtin.Range.rangeSize 0 (n : Int) 10 = (((n + 9) / 10 : Nat) : Int) := by
    unfold Builtin.Range.rangeSize
    simp
    omega
  refine ⟨?_, h2⟩
  unfold Builtin.Range.small
  rw [h2]
  simp [Builtin.Range.rangeFitsLong]
  omega

theorem digits_step {b : Array UInt8} {j k : Nat} {c : UInt8} (hc : b[j]? = some c) (hk : k = digitsNum (b.toList.take j)) : k * 58 + c.toNat = digitsNum (b.toList.take (j + 1)) := by
  have h : b.toList[j]? = some c := by rw [Array.getElem?_toList]; exact hc
  rw [List.take_add_one, h, Option.toList_some, digitsNum_concat, ← hk]
end Mine
end

section
open PySem PySem.W PyProof.Rows PySem.Calls
namespace Mine
/-- how many octets a number takes -/
@[irreducible] def octetsLen (n : Nat) : Nat := (Builtin.Int.intBits (n : Int) + 7) / 8
/-- the octets that a text of signs tells -/
@[irreducible] def decoded (b : Array UInt8) : Array UInt8 :=
  (List.replicate (b.size - (lstrip b #[49]).size) (0 : UInt8)).toArray ++ (octetsOf (octetsLen (digitsNum (translated (lstrip b #[49]) digitTab).toList)) (digitsNum (translated (lstrip b #[49]) digitTab).toList)).toArray
section
variable {prog : Program} {w : World} {M : Model} {A : Around} {E : Value → Shared → Prop} {s : Shared} {h₀ : Heap} {L : Addr} {m : PySem.Str → Option Value} {news : List (Addr × Obj)}
theorem truthyB0 {b : Array UInt8} {t : Tok} {Q : Bool → Shared → Prop} (hb : b.size = 0) (h : ∀ k, Q false { s with toks := k }) : wpAny (model prog w) A (truthy (.bytes b t)) Q E s :=
  truthyB (by omega) fun k => by rw [show decide (b.size ≠ 0) = false from decide_eq_false (by omega)]; exact h k
theorem truthyB1 {b : Array UInt8} {t : Tok} {Q : Bool → Shared → Prop} (hb : b.size ≠ 0 ∧ b.size ≤ 16777216) (h : ∀ k, Q true { s with toks := k }) : wpAny (model prog w) A (truthy (.bytes b t)) Q E s :=
  truthyB hb.2 fun k => by rw [show decide (b.size ≠ 0) = true from decide_eq_true hb.1]; exact h k
theorem lstripOne {b c : Array UInt8} {t u : Tok} {Q : Value → Shared → Prop} (hc : c = #[49]) (hb : b.size ≤ 16777216) (h : ∀ t' k, Q (.bytes (lstrip b #[49]) t') { s with toks := k }) :
    wpAny (model prog w) A (call (.builtin "bytes.lstrip") [.bytes b t, .bytes c u]) Q E s := by
  subst hc
  exact call_lstrip hb h
theorem lstripZero {b c : Array UInt8} {t u : Tok} {Q : Value → Shared → Prop} (hc : c = #[0]) (hb : b.size ≤ 16777216) (h : ∀ t' k, Q (.bytes (lstrip b #[0]) t') { s with toks := k }) :
    wpAny (model prog w) A (call (.builtin "bytes.lstrip") [.bytes b t, .bytes c u]) Q E s := by
  subst hc
  exact call_lstrip hb h

theorem mulPad {a : Array UInt8} {c : UInt8} {n k : Nat} {t u : Tok} {Q : Value → Shared → Prop} (ha : a = #[c]) (hk : k ≤ n) (hn : n ≤ 1000000) (h : ∀ t' k', Q (.bytes (List.replicate (n - k) c).toArray t') { s with toks := k' }) :
    wpAny (model prog w) A (binaryOp .Mult (.bytes a t) (.int ((n : Int) - (k : Int)) u)) Q E s := by
  subst ha
  refine bytes_mul_any (b := [c]) (List.cons_ne_nil _ _) (by omega) (by omega) (by show 1 ≤ 16; decide) fun t' k' => ?_
  have e : ((List.replicate ((n : Int) - (k : Int)).toNat [c]).flatten) = List.replicate (n - k) c := by
    rw [show ((n : Int) - (k : Int)).toNat = n - k by omega]
    simp
  rw [e]
  exact h t' k'
end
end Mine
end

section
open PySem PySem.W PyProof.Rows PySem.Calls
namespace Mine
open PySem.Builtin.Int (intBits)

theorem digits_lt : ∀ (l : List UInt8) (a : Nat), l.foldl (fun (a : Nat) (c : UInt8) => a * 58 + c.toNat) a < (a + 1) * 512 ^ l.length
  | [], a => by simp
  | c :: r, a => by
    rw [List.foldl_cons, List.length_cons, Nat.pow_succ]
    have h := digits_lt r (a * 58 + c.toNat)
    have hc := c.toNat_lt
    have h2 : (a * 58 + c.toNat + 1) * 512 ^ r.length ≤ ((a + 1) * 512) * 512 ^ r.length := Nat.mul_le_mul_right _ (by omega)
    have e : (a + 1) * (512 ^ r.length * 512) = ((a + 1) * 512) * 512 ^ r.length := by rw [Nat.mul_comm (512 ^ r.length) 512, Nat.mul_assoc]
    rw [e]
    exact Nat.lt_of_lt_of_le h h2
theorem digitsNum_lt (l : List UInt8) : digitsNum l < 2 ^ (9 * l.length) := by
  have h := digits_lt l 0
  rw [Nat.zero_add, Nat.one_mul] at h
  unfold digitsNum
  rw [Nat.pow_mul]
  exact h
theorem octetsLen_lt (n : Nat) : n < 256 ^ octetsLen n := by
  have h : intBits (n : Int) ≤ 8 * octetsLen n := by unfold octetsLen; omega
  have hn := intBits_le_iff.mp h
  have e2 : (2 : Nat) ^ 8 = 256 := by decide
  rw [Nat.pow_mul, e2] at hn
  exact hn
theorem octetsLen_le {n k : Nat} (h : n < 2 ^ k) : octetsLen n ≤ (k + 7) / 8 := by
  have hb : intBits (n : Int) ≤ k := intBits_le_iff.mpr h
  unfold octetsLen
  omega
theorem octetsLen_zero : octetsLen 0 = 0 := by unfold octetsLen; decide
theorem octetsLen_int (n : Nat) : Int.fdiv ((intBits (n : Int) : Int) + 7) 8 = ((octetsLen n : Nat) : Int) := by
  unfold octetsLen
  rw [Int.fdiv_eq_ediv_of_nonneg _ (by decide)]
  push_cast
  rfl
section
variable {prog : Program} {w : World} {M : Model} {A : Around} {E : Value → Shared → Prop} {s : Shared} {h₀ : Heap} {L : Addr} {m : PySem.Str → Option Value} {news : List (Addr × Obj)}
theorem toOctets {n : Nat} {t u v : Tok} {Q : Value → Shared → Prop} (hn : octetsLen n ≤ 1000) (h : ∀ t' k', Q (.bytes (octetsOf (octetsLen n) n).toArray t') { s with toks := k' }) :
    wpAny (model prog w) A (call (.builtin "int.to_bytes") [.int (n : Int) t, .int (Int.fdiv ((intBits (n : Int) : Int) + 7) 8) u] [(PySem.Str.ofString "byteorder", .str (PySem.Str.ofString "big") v), (PySem.Str.ofString "signed", .bool false)]) Q E s := by
  rw [octetsLen_int]
  exact call_to hn (octetsLen_lt n) h
theorem octets_of_text {b : Array UInt8} (hb : b.size ≤ 112) : octetsLen (digitsNum (translated (lstrip b #[49]) digitTab).toList) ≤ 1000 := by
  have h1 := digitsNum_lt (translated (lstrip b #[49]) digitTab).toList
  have h2 : (translated (lstrip b #[49]) digitTab).toList.length ≤ 112 := by
    rw [Array.length_toList, translated_size]
    exact Nat.le_trans (lstrip_size _ _) hb
  have h3 := octetsLen_le (Nat.lt_of_lt_of_le h1 (Nat.pow_le_pow_right (by decide) (show 9 * (translated (lstrip b #[49]) digitTab).toList.length ≤ 1008 by omega)))
  omega
theorem decoded_some (b : Array UInt8) : (List.replicate (b.size - (lstrip b #[49]).size) (0 : UInt8)).toArray ++ (octetsOf (octetsLen (digitsNum (translated (lstrip b #[49]) digitTab).toList)) (digitsNum (translated (lstrip b #[49]) digitTab).toList)).toArray = decoded b := by
  unfold decoded
  rfl
theorem decoded_none {b : Array UInt8} (h : (lstrip b #[49]).size = 0) : (List.replicate (b.size - (lstrip b #[49]).size) (0 : UInt8)).toArray = decoded b := by
  have e : (translated (lstrip b #[49]) digitTab).toList = [] := by
    refine List.eq_nil_of_length_eq_zero ?_
    rw [Array.length_toList, translated_size, h]
  have e2 : (octetsOf (octetsLen (digitsNum (translated (lstrip b #[49]) digitTab).toList)) (digitsNum (translated (lstrip b #[49]) digitTab).toList)).toArray = #[] := by
    rw [e, digitsNum_nil, octetsLen_zero]
    rfl
  rw [← decoded_some, e2, Array.append_empty]

theorem noI_bytes_add : typeLookup (.type "bytes") (dunderI "add") = pure none := by rw [typeLookup_type, builtinLookup_eq_fast]; kernel_rfl
theorem iadd_bytes {b c : Array UInt8} {t u : Tok} {Q : Value → Shared → Prop} (h1 : b.size ≤ 100000) (h2 : c.size ≤ 100000) (h : ∀ t' k, Q (.bytes (b ++ c) t') { s with toks := k }) : wpAny (model prog w) A (inplaceOp .Add (.bytes b t) (.bytes c u)) Q E s := by
  refine iconcat_gives (typeIs_bytes s b t) (typeIs_bytes s c u) noI_bytes_add KBy.noFill_bytes_add KBy.seq_bytes_add FB.slot_bytes_add FB.entry_bytes_add (FB.args_bytes_add_2 _ _) (KBy.gives_bytes_add (KBy.tooLong_not (by omega))) ?_
  by_cases hb : b.isEmpty = true
  · rw [if_pos hb]
    have e : b = #[] := Array.isEmpty_iff.1 hb
    have h' := h u s.toks
    rw [e, Array.empty_append] at h'
    exact h'
  · rw [if_neg hb]
    by_cases hc : c.isEmpty = true
    · rw [if_pos hc]
      have e : c = #[] := Array.isEmpty_iff.1 hc
      have h' := h t s.toks
      rw [e, Array.append_empty] at h'
      exact h'
    · rw [if_neg hc]
      exact ⟨by rw [Array.size_append, sizeLine_eq]; omega, h s.toks (s.toks + 1)⟩
theorem pad_size (n : Nat) (c : UInt8) : (List.replicate n c).toArray.size = n := by simp
theorem octs_size (n k : Nat) : (octetsOf n k).toArray.size = n := by rw [List.size_toArray, octetsOf_length]
end
end Mine
end

section
open PySem PySem.W PyProof.Rows PySem.Calls
namespace Mine
open PySem.Builtin PySem.Builtin._codecs

/-- a text of ASCII signs, as octets -/
@[irreducible] def asciiOf (x : Str) : Array UInt8 := x.cps.map (·.toUInt8)
def IsAscii (x : Str) : Prop := ∀ c ∈ x.cps, c < 128

theorem foldl_octets : ∀ (l : List Nat) (a : Array UInt8), l.foldl (fun acc y => acc ++ [y.toUInt8].toArray) a = a ++ (l.map (·.toUInt8)).toArray
  | [], a => by simp
  | c :: r, a => by
    rw [List.foldl_cons, foldl_octets r]
    simp

theorem encodeRoad_ascii (id : String) (self : Value) (x : Str) (errors : Option Str) : encodeRoad id self x (Str.ofString "ascii") errors = (do mkBytes (← encodeNarrow id asciiCodec errors self x)) := by
  first | rfl | (unfold encodeRoad; rfl) | (unfold encodeRoad; simp only []; rfl) | decide

theorem loop2 {σ : Type} {f : Nat → σ → Sem (ForInStep σ)} {a b : σ} {n : Nat} (h0 : n = 0 → a = b) (h1 : n ≠ 0 → f 0 a = pure (.yield b)) (h2 : ∀ i, f i b = pure (.done b)) : forIn (List.range' 0 n) a f = pure b := by
  cases n with
  | zero => rw [h0 rfl]; rfl
  | succ k =>
    rw [List.range'_succ, List.forIn_cons, h1 (by omega)]
    show forIn (List.range' (0 + 1) k) b f = pure b
    cases k with
    | zero => rfl
    | succ j =>
      rw [List.range'_succ, List.forIn_cons, h2]
      rfl

theorem narrow_ascii (id : String) (self : Value) (x : Str) (hx : IsAscii x) (hl : x.length ≤ 16777216) : encodeNarrow id asciiCodec none self x = pure (asciiOf x) := by
  have hbad : ∀ c ∈ x.cps, asciiCodec.bad c = false := fun c hc => by
    have := hx c hc
    show decide (c ≥ 128) = false
    exact decide_eq_false (by omega)
  have hnone : (Array.findIdx? asciiCodec.bad x.cps) = none := by
    rw [Array.findIdx?_eq_none_iff]
    exact hbad
  have hlen : x.length = x.cps.size := rfl
  have hout : (Array.foldl (fun acc y => acc ++ (asciiCodec.bytesOf y).toArray) #[] (x.cps.extract 0 x.cps.size)) = asciiOf x := by
    unfold asciiOf
    rw [Array.extract_size, ← Array.foldl_toList]
    refine (foldl_octets x.cps.toList #[]).trans ?_
    rw [Array.empty_append, ← Array.toList_map, Array.toArray_toList]
  have hsz : (asciiOf x).size = x.cps.size := by unfold asciiOf; simp
  unfold encodeNarrow
  simp only [Std.Legacy.Range.forIn_eq_forIn_range']
  refine (congrArg (fun (t : Sem (Nat × Array UInt8 × Faults)) => t >>= fun r => pure r.2.1) (loop2 (b := (x.cps.size, asciiOf x, {})) ?_ ?_ ?_)).trans rfl
  · intro h
    have h' : x.length = 0 := by simpa using h
    have h' : x.cps.size = 0 := h'
    have e : asciiOf x = #[] := Array.eq_empty_of_size_eq_zero (by rw [hsz]; exact h')
    rw [h', e]
  · intro h
    have h' : ¬ x.length = 0 := by simpa using h
    have h' : ¬ x.cps.size = 0 := h'
    have hget : x.cps[0]? = some x.cps[0] := Array.getElem?_eq_getElem (by omega)
    dsimp only
    rw [if_neg (by simp), hget]
    dsimp only
    rw [hbad _ (Array.getElem_mem _)]
    simp only [Bool.not_false, if_true]
    rw [Array.extract_size, hnone]
    simp only [Option.getD_none, Nat.zero_add]
    rw [hout]
  · intro i
    dsimp only
    rw [if_neg (by rw [hsz, sizeLine_eq]; omega)]
    have hget : x.cps[x.cps.size]? = none := by simp
    rw [hget]

section
variable {prog : Program} {w : World} {M : Model} {A : Around} {E : Value → Shared → Prop} {s : Shared}
theorem asciiOf_size (x : Str) : (asciiOf x).size = x.length := by unfold asciiOf; simp; rfl
theorem encodeAscii {x : Str} {t u : Tok} {Q : Value → Shared → Prop} (hx : IsAscii x) (hl : x.length ≤ 1000000) (h : ∀ t' k, Q (.bytes (asciiOf x) t') { s with toks := k }) :
    wpAny (model prog w) A (call (.builtin "str.encode") [.str x t, .str (Str.ofString "ascii") u]) Q E s := by
  refine wpAny_call_entry F.slot_str_encode (typeIs_str s x t) F.entry_str_encode ?_ (F.args_str_encode_2 _ _)
  have e : «str.encode» ⟨[.str x t, .str (Str.ofString "ascii") u], []⟩ = (do ret (← encodeRoad "str.encode" (.str x t) x (Str.ofString "ascii") none)) := by first | rfl | kernel_rfl
  rw [e, encodeRoad_ascii, narrow_ascii _ _ _ hx (Nat.le_trans hl (by decide))]
  refine wpAny_bind (wpAny_bind (wpAny_pure ?_))
  exact wpAny_mkBytes (wpAny_pure ⟨_, rfl, h _ _⟩) (by rw [asciiOf_size, sizeLine_eq]; omega)
end
end Mine
end

section
open PySem PySem.W PyProof.Rows PySem.Calls
namespace Mine
open PySem.Builtin PySem.Builtin.Bytes
theorem hex_fold {f : Array Nat → UInt8 × Nat → Array Nat} (hf : ∀ o x, (f o x).size = o.size + 2) : ∀ (l : List (UInt8 × Nat)) (o : Array Nat), (l.foldl f o).size = o.size + 2 * l.length
  | [], o => by simp
  | x :: r, o => by
    rw [List.foldl_cons, hex_fold hf r, hf, List.length_cons]
    omega
section
variable {prog : Program} {w : World} {M : Model} {A : Around} {E : Value → Shared → Prop} {s : Shared}
theorem call_hex {b : Array UInt8} {t : Tok} {Q : Value → Shared → Prop} (hb : b.size ≤ 1000) (h : ∀ (y : Str) t' k, y.length ≤ 2000 → Q (.str y t') { s with toks := k }) :
    wpAny (model prog w) A (call (.builtin "bytes.hex") [.bytes b t]) Q E s := by
  refine wpAny_call_entry slot_hex (typeIs_bytes _ _ _) entry_hex ?_ (args_hex _)
  unfold Builtin.«bytes.hex» hexM hexOf
  dsimp only
  refine wpAny_bind (wpAny_of_eq (a := [none, none]) (by kernel_rfl) ?_)
  refine wpAny_bind (wpAny_pure ?_)
  refine wpAny_bind (wpAny_pure ?_)
  refine wpAny_bind (wpAny_pure ?_)
  refine wpAny_bind (wpAny_of_eq (a := b) rfl ?_)
  unfold retStr
  have hz : (List.foldl (fun (out : Array Nat) (x : UInt8 × Nat) => (out.push (hexDigit (x.1.toNat / 16))).push (hexDigit (x.1.toNat % 16))) #[] b.toList.zipIdx).size = 2 * b.size := by
    rw [hex_fold (fun o x => by simp)]
    simp
  show wpAny _ _ (mkStr ⟨List.foldl (fun (out : Array Nat) (x : UInt8 × Nat) => (out.push (hexDigit (x.1.toNat / 16))).push (hexDigit (x.1.toNat % 16))) #[] b.toList.zipIdx⟩ >>= _) _ _ _
  generalize hg : List.foldl (fun (out : Array Nat) (x : UInt8 × Nat) => (out.push (hexDigit (x.1.toNat / 16))).push (hexDigit (x.1.toNat % 16))) #[] b.toList.zipIdx = o
  rw [hg] at hz
  have hlen : (⟨o⟩ : Str).length = 2 * b.size := hz
  exact wpAny_bind (wpAny_mkStr (wpAny_pure ⟨_, rfl, h ⟨o⟩ _ _ (by omega)⟩) (by rw [sizeLine_eq]; omega))

theorem getm_encode {x : Str} {t : Tok} {pl : Sem Bool} {Q : Value × List Value → Shared → Prop} (h : Q (.builtin "str.encode", [.str x t]) s) : wpAny M A (getMethod (.str x t) (PySem.Str.ofString "encode") pl) Q E s := by
  with_reducible exact getMethod_builtin (typeIs_str s x t) F.plainAttrs_str F.slot_str_encode F.type_str_encode (fun _ e => nomatch e) h
end
end Mine
end

section
open PySem PySem.W PyProof.Rows PySem.Calls
namespace Mine
theorem picked_size_le (b : Array UInt8) (lo hi : Option Int) : (KBy.picked b lo hi).size ≤ b.size := KBc.size_picked_le b lo hi
theorem decoded_size_le {b : Array UInt8} (hb : b.size ≤ 112) : (decoded b).size ≤ 250 := by
  have h1 := digitsNum_lt (translated (lstrip b #[49]) digitTab).toList
  have h2 : (translated (lstrip b #[49]) digitTab).toList.length ≤ 112 := by
    rw [Array.length_toList, translated_size]
    exact Nat.le_trans (lstrip_size _ _) hb
  have h3 := octetsLen_le (Nat.lt_of_lt_of_le h1 (Nat.pow_le_pow_right (by decide) (show 9 * (translated (lstrip b #[49]) digitTab).toList.length ≤ 1008 by omega)))
  rw [← decoded_some, Array.size_append, pad_size, octs_size]
  omega
end Mine
end

section
open PySem PySem.W PyProof.Rows PySem.Calls
namespace Mine
section
variable {prog : Program} {w : World} {A : Around} {E : Value → Shared → Prop} {s : Shared} {env : Env} {h₀ h : Heap} {L : Addr} {m m' : Str → Option Value}

/-- no exception leaves -/
abbrev noExc : Value → Shared → Prop := fun _ _ => False

def WEnd (I : Nat → Shared → Prop) (n : Nat) (Q : Flow → Shared → Prop) (f : Flow) (s : Shared) : Prop :=
  match f with
  | .next | .cont => ∃ m, m < n ∧ I m s
  | .brk => Q .next s
  | .ret v => Q (.ret v) s

theorem whileM {test : Expr} {body : List Stmt} {pos : Pos} {Q : Flow → Shared → Prop} (I : Nat → Shared → Prop) (n : Nat) (hI : I n s)
    (turn : ∀ n s, I n s → wpAny (model prog w) A (isTrue test env (eval test env)) (fun b s₂ =>
        if b = true then wpAny (model prog w) A (execs body env) (WEnd I n Q) noExc s₂ else Q .next s₂) noExc s) :
    wpAny (model prog w) A (exec (.While test body [] pos) env) Q E s := by
  refine wpAny_While (codeAny_whileLoop I (fun n s hs => ?_) n hI)
  refine wpAny_mono (turn n s hs) (fun b s₂ h₂ => ?_) fun _ _ x => x.elim
  cases b with
  | false => exact wpAny_execs_nil (by simpa using h₂)
  | true =>
    simp only [if_true] at h₂ ⊢
    refine wpAny_mono h₂ (fun f s₃ h₃ => ?_) fun _ _ x => x.elim
    cases f <;> exact h₃

theorem wpC_noted {env : Env} {α : Type} {M : Model} {m : Sem α} {Q : α → Shared → Prop} (h : wpC M A m Q noExc s) : wpC M A (m.onRaise fun x => do noteFrame x env; theTreesLotGoes x) Q E s :=
  wpC_onRaise (wpC_mono h (fun _ _ q => q) fun _ _ hx => hx.elim)

theorem codeC_loop {M : Model} {c : Code} {R : Result → Shared → Prop} (hold : holdsMem c = false) (hq : c.quiet = true) (I : Nat → Shared → Prop)
    (turn : ∀ n s, I n s → wpC M (A.under c) (M.den c)
      (fun fin s' => match fin with | .done f => R (.ok f) s' | .again c' => c' = c ∧ ∃ m, m < n ∧ I m s') (fun e s' => R (.error e) s') s)
    (n : Nat) (h : I n s) : codeC M A c R s := by
  induction n using Nat.strongRecOn generalizing s with
  | ind n ih =>
    refine codeC_of_tree hold (wpC_mono (turn n s h) (fun fin s' hf => ?_) fun _ _ h' => h')
    cases fin with
    | done f => exact hf
    | again c' => obtain ⟨rfl, m, hm, hI⟩ := hf; exact ⟨hq, ih m hm hI⟩

theorem whileC {test : Expr} {body : List Stmt} {pos : Pos} {Q : Flow → Shared → Prop} (I : Nat → Shared → Prop) (n : Nat) (hI : I n s)
    (turn : ∀ n s, I n s → wpAny (model prog w) A (isTrue test env (eval test env)) (fun b s₂ =>
        if b = true then wpC (model prog w) A (execs body env) (WEnd I n Q) noExc s₂ else Q .next s₂) noExc s) :
    wpC (model prog w) A (exec (.While test body [] pos) env) Q E s := by
  have code : codeC (model prog w) A (.whileLoop test body [] env) (fun r s' => match r with | .ok f => Q f s' | .error e => False) s := by
    refine codeC_loop rfl rfl I (fun n s hs => ?_) n hI
    show wpC _ A ((whileTurn test body [] env).onRaise (fun x => do noteFrame x env; theTreesLotGoes x)) _ _ s
    refine wpC_noted ?_
    simp only [whileTurn]
    refine wpC_ahead (wpAny_mono (turn n s hs) (fun b s₂ h₂ => ?_) fun _ _ x => x)
    cases b with
    | false =>
      simp only [Bool.false_eq_true, if_false] at h₂ ⊢
      exact wpC_of_any (wpAny_bind (wpAny_execs_nil (wpAny_pure h₂)))
    | true =>
      simp only [if_true] at h₂ ⊢
      refine wpC_bind (wpC_mono h₂ (fun f s₃ h₃ => ?_) fun _ _ h' => h')
      cases f with
      | next => exact wpC_pure ⟨rfl, h₃⟩
      | cont => exact wpC_pure ⟨rfl, h₃⟩
      | brk => exact wpC_pure h₃
      | ret v => exact wpC_pure h₃
  rw [exec_While]
  refine wpC_ahead (wpAny_standAt ?_)
  unfold runOwn
  refine wpC_onRaise (wpC_run (codeC_mono code fun r s' hr => ?_))
  cases r with
  | ok f => exact hr
  | error e => exact hr.elim

/-- a for, over whatever its walk (`Walks`) tells -/
theorem forM {x : Str} {px pos : Pos} {iter : Expr} {body : List Stmt} {Q : Flow → Shared → Prop} (h₀ : Heap) (hx : env.kindOf x = some .local)
    (hp : (env.scope.kind == .class || (env.scope.kind == .module && env.locals != env.globals)) = false)
    (h : wpAny (model prog w) A (eval iter env) (fun xv s₁ => wpAny (model prog w) A (pyIter xv) (fun it s₂ => LoopAtV prog w A h₀ env x body Q noExc it s₂) noExc s₁) noExc s)
    (hs : ∀ x, foldedSetIterable iter env x = pure x := by intro _; rfl) :
    wpAny (model prog w) A (exec (.For (.Name x px) iter body [] pos) env) Q E s :=
  wpAny_mono (For_invV h₀ hx hp h hs (fun _ _ x => x.elim)) (fun _ _ q => q) fun _ _ x => x.elim

theorem over {x : Str} {v : Option Value} (F : Fr h₀ L h m) (e : m x = v) : Fr h₀ L h (fun y => if y = x then v else m y) := by
  have : (fun y => if y = x then v else m y) = m := by
    funext y
    by_cases hy : y = x
    · subst hy; simp [e]
    · simp [hy]
  rw [this]
  exact F
end
end Mine
end

section
open PySem PySem.W PyProof.Rows PySem.Calls PyProof.V
namespace Mine
section
variable {prog : Program} {w : World} {A : Around} {E : Value → Shared → Prop} {s : Shared} {env : Env} {h₀ : Heap} {x : Str} {body : List Stmt} {Q : Flow → Shared → Prop} {m₀ : Str → Option Value} {news : List (Addr × Obj)}

abbrev Turn (prog : Program) (w : World) (A : Around) (E : Value → Shared → Prop) (s : Shared) (env : Env) (h₀ : Heap) (x : Str) (body : List Stmt) (Q : Flow → Shared → Prop) (news : List (Addr × Obj)) (n : Nat) (P : Nat → Value → Prop) (J : Nat → (Str → Option Value) → List (Addr × Obj) → Prop) : Prop :=
  ∀ i v m₁ news₁ h tk own, i < n → P i v → news₁.map (·.1) = news.map (·.1) → OwnOff own (news.map (·.1)) → J i m₁ news₁ → Fr h₀ env.locals h (fun y => if y = x then some v else m₁ y) → News h₀ env.locals h (news₁ ++ own) →
      wpAny (model prog w) A (execs body env) (InvPostN h₀ env.locals (J (i + 1)) own (news.map (·.1)) { s with heap := h, toks := tk } Q) E { s with heap := h, toks := tk }
abbrev Done (s : Shared) (env : Env) (h₀ : Heap) (Q : Flow → Shared → Prop) (n : Nat) (J : Nat → (Str → Option Value) → List (Addr × Obj) → Prop) : Prop :=
  ∀ m₁ news₁ h tk, J n m₁ news₁ → Fr h₀ env.locals h m₁ → News h₀ env.locals h news₁ → Q .next { s with heap := h, toks := tk }

theorem iterBytes {b : Array UInt8} {tb : Tok} (J : Nat → (Str → Option Value) → List (Addr × Obj) → Prop) (hh : A.handled = none) (F : Fr h₀ env.locals s.heap m₀) (N : News h₀ env.locals s.heap news) (hj : J 0 m₀ news)
    (turn : Turn prog w A E s env h₀ x body Q news b.size (fun i v => ∃ c u, b[i]? = some c ∧ v = .int (c.toNat : Int) u) J) (done : Done s env h₀ Q b.size J) :
    wpAny (model prog w) A (pyIter (.bytes b tb)) (fun it s₂ => LoopAtV prog w A h₀ env x body Q E it s₂) E s := by
  refine KBw.pyIter_bytes ?_
  have W := KBw.walks (prog := prog) (w := w) hh s.heap.objs.size b tb
  refine loop_invN J W ?_ ?_ ?_ ?_ ⟨_, Heap.get?_push_size _ rfl, rfl, rfl⟩ (F.push _) (fun p hp => ⟨Heap.get?_push_of_some _ (N p hp).1, (N p hp).2⟩) hj turn done
  · intro hm
    exact absurd F.ns.lt ((List.mem_singleton.mp hm) ▸ Nat.lt_irrefl _)
  · intro b' hb
    rw [List.mem_singleton.mp hb]
    exact next_is_new F
  · intro p hp hI
    exact absurd (Heap.lt_size (N p hp).1) ((List.mem_singleton.mp hI) ▸ Nat.lt_irrefl _)
  · intro p hp hI
    exact absurd (Heap.lt_size (N p hp).1) ((List.mem_singleton.mp hI) ▸ Nat.lt_irrefl _)

theorem iterStr {t : Str} {tb : Tok} (J : Nat → (Str → Option Value) → List (Addr × Obj) → Prop) (hh : A.handled = none) (F : Fr h₀ env.locals s.heap m₀) (N : News h₀ env.locals s.heap news) (hj : J 0 m₀ news)
    (turn : Turn prog w A E s env h₀ x body Q news t.cps.size (SignAt t) J) (done : Done s env h₀ Q t.cps.size J) :
    wpAny (model prog w) A (pyIter (.str t tb)) (fun it s₂ => LoopAtV prog w A h₀ env x body Q E it s₂) E s := by
  refine wpAny_pyIter_str fun o St W0 hst => ?_
  have W := W0 A hh
  refine loop_invN J W ?_ ?_ ?_ ?_ hst (F.push _) (fun p hp => ⟨Heap.get?_push_of_some _ (N p hp).1, (N p hp).2⟩) hj turn done
  · intro hm
    exact absurd F.ns.lt ((List.mem_singleton.mp hm) ▸ Nat.lt_irrefl _)
  · intro b' hb
    rw [List.mem_singleton.mp hb]
    exact next_is_new F
  · intro p hp hI
    exact absurd (Heap.lt_size (N p hp).1) ((List.mem_singleton.mp hI) ▸ Nat.lt_irrefl _)
  · intro p hp hI
    exact absurd (Heap.lt_size (N p hp).1) ((List.mem_singleton.mp hI) ▸ Nat.lt_irrefl _)

theorem iterRange {r : Addr} {a b c : Int} {t u v : Tok} {n : Nat} (J : Nat → (Str → Option Value) → List (Addr × Obj) → Prop) (hh : A.handled = none)
    (hr : IsRange s.heap r a b c t u v) (hsmall : Builtin.Range.small a b c = true) (hn : Builtin.Range.rangeSize a b c = (n : Int)) (F : Fr h₀ env.locals s.heap m₀) (N : News h₀ env.locals s.heap news) (hj : J 0 m₀ news)
    (turn : Turn prog w A E s env h₀ x body Q news n (fun i v => ∃ t, v = .int (a + i * c) t) J) (done : Done s env h₀ Q n J) :
    wpAny (model prog w) A (pyIter (.ref r)) (fun it s₂ => LoopAtV prog w A h₀ env x body Q E it s₂) E s := by
  refine wpAny_pyIter_range hr hsmall ?_
  have W := Walks.range (prog := prog) (w := w) hh s.heap.objs.size a c n
  refine loop_invN J W ?_ ?_ ?_ ?_ (by show IsRangeIter _ _ _ _ _; rw [hn]; simpa using Heap.get?_push_size _ rfl) (F.push _) (fun p hp => ⟨Heap.get?_push_of_some _ (N p hp).1, (N p hp).2⟩) hj turn done
  · intro hm
    exact absurd F.ns.lt ((List.mem_singleton.mp hm) ▸ Nat.lt_irrefl _)
  · intro b' hb
    rw [List.mem_singleton.mp hb]
    exact next_is_new F
  · intro p hp hI
    exact absurd (Heap.lt_size (N p hp).1) ((List.mem_singleton.mp hI) ▸ Nat.lt_irrefl _)
  · intro p hp hI
    exact absurd (Heap.lt_size (N p hp).1) ((List.mem_singleton.mp hI) ▸ Nat.lt_irrefl _)

theorem iterList {l : Addr} {items : Array Value} (J : Nat → (Str → Option Value) → List (Addr × Obj) → Prop) (hh : A.handled = none)
    (hl : s.heap.IsList l items) (hlL : l ≠ env.locals) (hln : ∀ p ∈ news, p.1 ≠ l) (F : Fr h₀ env.locals s.heap m₀) (N : News h₀ env.locals s.heap news) (hj : J 0 m₀ news)
    (turn : Turn prog w A E s env h₀ x body Q news items.size (fun i v => items[i]? = some v) J) (done : Done s env h₀ Q items.size J) :
    wpAny (model prog w) A (pyIter (.ref l)) (fun it s₂ => LoopAtV prog w A h₀ env x body Q E it s₂) E s := by
  have hlt : l < s.heap.objs.size := by
    obtain ⟨o, ho, _⟩ := id hl
    exact Heap.lt_size ho
  refine wpAny_pyIter_list hl ?_
  have W := Walks.list (prog := prog) (w := w) hh s.heap.objs.size l (Nat.ne_of_lt hlt) items
  refine loop_invN J W ?_ ?_ ?_ ?_ ⟨⟨_, Heap.get?_push_size _ rfl, rfl, rfl⟩, hl.at fun o e => Heap.get?_push_of_some _ e⟩ (F.push _) (fun p hp => ⟨Heap.get?_push_of_some _ (N p hp).1, (N p hp).2⟩) hj turn done
  · intro hm
    rcases List.mem_cons.mp hm with e | hm
    · exact absurd F.ns.lt (e ▸ Nat.lt_irrefl _)
    · exact hlL (List.mem_singleton.mp hm).symm
  · intro b' hb
    rw [List.mem_singleton.mp hb]
    exact next_is_new F
  · intro p hp hI
    exact absurd (Heap.lt_size (N p hp).1) ((List.mem_singleton.mp hI) ▸ Nat.lt_irrefl _)
  · intro p hp hI
    rcases List.mem_cons.mp hI with e | hI
    · exact absurd (Heap.lt_size (N p hp).1) (e ▸ Nat.lt_irrefl _)
    · exact hln p hp (List.mem_singleton.mp hI)

theorem endN {J : (Str → Option Value) → List (Addr × Obj) → Prop} {own : List (Addr × Obj)} {adr : List Addr} {L : Addr} {h' : Heap} {tk : Nat} {m' : Str → Option Value} {news' nx : List (Addr × Obj)}
    (F : Fr h₀ L h' m') (N : News h₀ L h' news') (hn : ∀ p ∈ nx, p ∈ news') (ho : ∀ p ∈ own, p ∈ news') (ha : nx.map (·.1) = adr) (hj : J m' nx) :
    InvPostN h₀ L J own adr s Q .next { s with heap := h', toks := tk } := ⟨h', tk, m', news', nx, rfl, F, N, hn, ho, ha, hj⟩

theorem endE {J : (Str → Option Value) → List (Addr × Obj) → Prop} {own : List (Addr × Obj)} {adr : List Addr} {L : Addr} {h' : Heap} {tk : Nat} {m' : Str → Option Value} {news' nx : List (Addr × Obj)}
    (F : Fr h₀ L h' m') (N : News h₀ L h' news') (hn : ∀ p ∈ nx, p ∈ news') (ho : ∀ p ∈ own, p ∈ news') (ha : nx.map (·.1) = adr) (hj : J m' nx) :
    InvEndN h₀ L J own adr s { s with heap := h', toks := tk } := ⟨h', tk, m', news', nx, rfl, F, N, hn, ho, ha, hj⟩
end
end Mine
end

section
open PySem PySem.W PyProof.Rows PySem.Calls
namespace Mine
/-! an exception class of the text whose `__new__` comes by one built-in base and whose `__init__` by another -/
section
variable {prog : Program} {w : World} {M : Model} {A : Around} {E : Value → Shared → Prop} {R : Result → Shared → Prop} {h : Heap} {g : Array GenState} {d : Drawn} {t : Nat} {os : OsState}
variable {nm q : Str} {C N : Addr} {bs bm bmN bmI : List Value} {hdct : Bool} {sn : List Str} {sub : List Value} {ab : Bool} {col : Option Bool} {dd : Option Addr} {k0 k1 k2 k3 k5 : Option Value} {BN newId initN BI newI initId : String}

theorem check_new2 (F : ExcBaseFacts BN newId initN bmN) (T : OwnTail h bmI bm) (hB : bmI.contains (.type BN) = true) {rest : List Value} {Q : Unit → Shared → Prop} (hC : h.get? C = some (excClassObj nm q C N bs bm hdct sn sub ab col dd k0 k1 k2 k3 k5 newId))
    (hq : Q () ⟨h, g, d, t, os⟩) : wpAny M A (checkBuiltinCall newId ⟨.ref C :: rest, []⟩) Q E ⟨h, g, d, t, os⟩ := by
  have hcont : (Value.ref C :: bm).contains (.type BN) = true := by rw [List.contains_cons, T.hasType hB, Bool.or_true]
  have hstar := F.noStar
  simp only [checkBuiltinCall, F.newKind, F.newSplit, F.newRow]
  repeat (first | refine wpAny_loadPart_at hC ?_ | (refine wpAny_isSubtype_exc hC ?_; rw [hcont]) | refine wpAny_staticBase_exc hC ?_ | refine wpAny_madeBy_exc hC ?_ | simp only [bne_self_eq_false, Bool.false_eq_true, if_false] | wp_step)
  exact hq

theorem new2 (F : ExcBaseFacts BN newId initN bmN) (T : OwnTail h bmI bm) (hB : bmI.contains (.type BN) = true) (hA : bmI.contains (.type "AttributeError") = false) (hN : bmI.contains (.type "NameError") = false) {rest : List Value}
    (hC : h.get? C = some (excClassObj nm q C N bs bm hdct sn sub ab col dd k0 k1 k2 k3 k5 newId))
    (hq : R (.ok (.ret (.ref (h.objs.size + 1)))) ⟨(h.push { cls := .type "tuple", data := .seq rest.toArray }).push
      { cls := .ref C, data := .fields #[.ref h.objs.size, .none, .none, .none, .bool false, .none] }, g, d, t, os⟩) (hrest : rest.length ≤ sizeLine) :
    codeAny (model prog w) A (.builtin newId ⟨.ref C :: rest, []⟩) R ⟨h, g, d, t, os⟩ := by
  have hends := F.ends
  have hcB : (Value.ref C :: bm).contains (.type BN) = true := by rw [List.contains_cons, T.hasType hB, Bool.or_true]
  have hcA : (Value.ref C :: bm).contains (.type "AttributeError") = false := by rw [List.contains_cons, T.hasType hA]; rfl
  have hcN : (Value.ref C :: bm).contains (.type "NameError") = false := by rw [List.contains_cons, T.hasType hN]; rfl
  refine codeAny_builtinAt F.entry ?_
  unfold Builtin.«BaseException.__new__»
  refine PySem.wpAt_bind ?_
  show PySem.wpAt _ _ _ (stack >>= _) _ _ _
  refine PySem.wpAt_bind (PySem.wpAt_stack fun p below => PySem.wpAt_of_wpAny ?_)
  wp_walk
  refine PySem.wpAt_of_wpAny ?_
  rw [F.owner]
  repeat (first | with_reducible refine wpAny_madeHere_exc F.canon hC ?_ | with_reducible refine wpAny_loadPart_at hC ?_ | (with_reducible refine wpAny_isSubtype_exc hC ?_; first | rw [hcB] | rw [hcA] | rw [hcN]) | wp_step)
  show R _ _
  rw [Heap.size_push]
  exact hq

theorem check_init2 (F : ExcBaseFacts BI newI initId bmI) (T : OwnTail h bmI bm) {e : Addr} {oe : Obj} {rest : List Value} {Q : Unit → Shared → Prop}
    (hC : h.get? C = some (excClassObj nm q C N bs bm hdct sn sub ab col dd k0 k1 k2 k3 k5 newId)) (he : h.get? e = some oe) (hcls : oe.cls = .ref C) (hq : Q () ⟨h, g, d, t, os⟩) :
    wpAny M A (checkBuiltinCall initId ⟨.ref e :: rest, []⟩) Q E ⟨h, g, d, t, os⟩ := by
  have hcB : (Value.ref C :: bm).contains (.type BI) = true := by rw [List.contains_cons, T.hasType F.hasB, Bool.or_true]
  have hshort := F.noStar
  simp only [checkBuiltinCall, F.initKind, F.initSplit, F.initRow]
  repeat (first | (with_reducible refine wpAny_loadPart_at he ?_; rw [hcls]) | with_reducible refine wpAny_loadPart_at hC ?_ | (with_reducible refine wpAny_isSubtype_exc hC ?_; rw [hcB]) | wp_step)
  refine wpAny_onRaise ?_
  rw [show ∀ (a b : String) (n : Nat), Bind.check ⟨.positional, "*", BI, .self, [⟨"args", .varPos, false⟩]⟩ a b n (List.map (fun x => x.fst) ({ pos := Value.ref e :: rest } : Args).kw) = pure () from
    fun a b n => check_star_args _ _ _ _ _ _]
  exact wpAny_pure hq

theorem type_call2 (F : ExcBaseFacts BN newId initN bmN) (FI : ExcBaseFacts BI newI initId bmI) (T : OwnTail h bmI bm) (hB : bmI.contains (.type BN) = true) {mN : Str → Option Value} {rest : List Value} {Q : Fin → Shared → Prop}
    (hC : h.get? C = some (excClassObj nm q C N bs bm hdct sn sub ab col dd k0 k1 k2 k3 k5 newId)) (hn : h.Ns N mN) (hni : mN "__init__" = none)
    (hq : ∀ h' e, Heap.MadeExcOf h h' e (.ref C) rest → Q (.done (.ret (.ref e))) ⟨h', g, d, t, os⟩) (hrest : rest.length ≤ sizeLine) :
    wpAny (model prog w) A (Builtin.«type.__call__» ⟨.ref C :: rest, []⟩) Q E ⟨h, g, d, t, os⟩ := by
  repeat (first | with_reducible refine wpAny_loadPart_at hC ?_ | with_reducible refine wpAny_madeBy_exc hC ?_ | wp_step)
  refine codeAny_call_builtin_code (Code.quiet_builtin _ F.quiet) (check_new2 F T hB hC ?_)
  refine new2 F T hB FI.noAttr FI.noName hC ?_ hrest
  show wpAny _ _ _ _ _ _
  have hC₁ := Heap.get?_push_of_some { cls := .ref C, data := .fields #[.ref h.objs.size, .none, .none, .none, .bool false, .none] }
    (Heap.get?_push_of_some { cls := .type "tuple", data := .seq rest.toArray } hC)
  have hn₁ : ((h.push { cls := .type "tuple", data := .seq rest.toArray }).push { cls := .ref C, data := .fields #[.ref h.objs.size, .none, .none, .none, .bool false, .none] }).Ns N mN :=
    let ⟨o, es, ep, e, r⟩ := hn; ⟨o, es, ep, Heap.get?_push_of_some _ (Heap.get?_push_of_some _ e), r⟩
  have hget : ((h.push { cls := .type "tuple", data := .seq rest.toArray }).push
      { cls := .ref C, data := .fields #[.ref h.objs.size, .none, .none, .none, .bool false, .none] }).get? (h.objs.size + 1) = some
      { cls := .ref C, data := .fields #[.ref h.objs.size, .none, .none, .none, .bool false, .none] } := by heap_get
  have hcC : (Value.ref C :: bm).contains (.ref C) = true := by simp
  have T₁ := T.keeps (h' := (h.push { cls := .type "tuple", data := .seq rest.toArray }).push { cls := .ref C, data := .fields #[.ref h.objs.size, .none, .none, .none, .bool false, .none] })
    fun b o e => Heap.get?_push_of_some _ (Heap.get?_push_of_some _ e)
  unfold isInstance
  repeat (first | with_reducible refine wpAny_loadPart_at hget ?_ | (with_reducible refine wpAny_isSubtype_exc hC₁ ?_; rw [hcC]) | wp_step)
  show wpAny _ _ (typeLookup (.ref C) _) _ _ _
  refine wpAny_typeLookup_tail hC₁ hn₁ T₁ FI.mroIs FI.init.lookup ?_
  rw [hni]
  refine wpAny_holding (wpAny_bind (wpAny_of_eq (FI.init.bind _) ?_))
  refine wpAny_bind (wpAny_call (codeAny_call_builtin FI.init.plain FI.initEntry (check_init2 FI T₁ hC₁ hget rfl ?_)))
  wp_walk
  refine hq _ _ ⟨fun b o hb => ?_, Heap.get?_none_of_le (Nat.le_succ _), h.objs.size + 2, ?_, Heap.get?_none_of_le (by omega), ?_⟩
  · rw [Heap.get?_update_other _ _ (Nat.ne_of_gt (Nat.lt_succ_of_lt (Heap.lt_size hb)))]
    exact Heap.get?_push_of_some _ (Heap.get?_push_of_some _ (Heap.get?_push_of_some _ hb))
  · rw [Heap.get?_update_self _ (Heap.get?_push_of_some _ hget) rfl]
    simp only [Heap.size_push]
    rfl
  · rw [Heap.get?_update_other _ _ (show h.objs.size + 1 ≠ h.objs.size + 2 by omega)]
    exact Heap.get?_push_at (by simp only [Heap.size_push]) rfl

theorem call_exc2 (F : ExcBaseFacts BN newId initN bmN) (FI : ExcBaseFacts BI newI initId bmI) (T : OwnTail h bmI bm) (hB : bmI.contains (.type BN) = true) {mN : Str → Option Value} {rest : List Value} {Q : Value → Shared → Prop}
    (hC : h.get? C = some (excClassObj nm q C N bs bm hdct sn sub ab col dd k0 k1 k2 k3 k5 newId)) (hn : h.Ns N mN) (hni : mN "__init__" = none)
    (hq : ∀ h' e, Heap.MadeExcOf h h' e (.ref C) rest → Q (.ref e) ⟨h', g, d, t, os⟩) (hrest : rest.length ≤ sizeLine) :
    wpAny (model prog w) A (call (.ref C) rest) Q E ⟨h, g, d, t, os⟩ := by
  have f1 := tc_lookup
  have f2 := tc_bind (.ref C)
  have hT : (⟨h, g, d, t, os⟩ : Shared).TypeIs (.ref C) "type" := ⟨_, hC, rfl⟩
  refine wpAny_call (codeAny_of_tree ?_)
  show wpAny _ _ (callAny (.ref C) _) _ _ _
  repeat (any_goals (first | assumption | with_reducible refine wpAny_loadPart_at hC ?_ | wp_step))
  refine ⟨rfl, ?_⟩
  refine codeAny_call_builtin_at (Code.quiet_builtin _ (by decide +kernel)) entry_typeCall (wpAny_check_type_call_sub hC (type_call2 (hrest := hrest) F FI T hB hC hn hni fun h' e hm => ?_))
  exact hq h' e hm
end

section
variable {prog : Program} {w : World} {A : Around} {E : Value → Shared → Prop} {s : Shared} {env : Env}
variable {nm q : Str} {C N : Addr} {bs bm bmN bmI : List Value} {hdct : Bool} {sn : List Str} {sub : List Value} {ab : Bool} {col : Option Bool} {dd : Option Addr} {k0 k1 k2 k3 k5 : Option Value} {BN newId initN BI newI initId : String}
theorem raise_call2 (F : ExcBaseFacts BN newId initN bmN) (FI : ExcBaseFacts BI newI initId bmI) (hB : bmI.contains (.type BN) = true) {mN : Str → Option Value} {x : Str} {np cpos pos : Pos} {args : List Expr} {Q : Flow → Shared → Prop}
    (hbase : bm.contains (.type "BaseException") = true) (hh : A.handled = none) (hplain : (backTo cpos (starEach args env)).any (·.1) = false) (hni : mN "__init__" = none)
    (h : wpAny (model prog w) A (eval (.Name x np) env) (fun f s₁ => f = .ref C ∧ wpAny (model prog w) A (evalArgs (.ref C) true (backTo cpos (starEach args env)) [])
      (fun a s₂ => a.kw = [] ∧ a.pos.length ≤ sizeLine ∧ s₂.heap.get? C = some (excClassObj nm q C N bs bm hdct sn sub ab col dd k0 k1 k2 k3 k5 newId) ∧ s₂.heap.Ns N mN ∧ OwnTail s₂.heap bmI bm ∧
        ∀ h' e, Heap.MadeExcOf s₂.heap h' e (.ref C) a.pos → E (.ref e) { s₂ with heap := h' }) E s₁) E s) :
    wpAny (model prog w) A (exec (.Raise (some (.Call (.Name x np) args [] cpos)) none pos) env) Q E s := by
  rw [arm_exec_Raise]
  first
    | refine wpAny_bind (wpAny_standAt (wpAny_raiseStmt_made_sub (C := C) (nm := nm) (q := q) (N := N) (bs := bs) (bm := bm) (hdct := hdct) (sn := sn) (sub := sub) (ab := ab) (col := col) (dd := dd) (k0 := k0) (k1 := k1) (k2 := k2) (k3 := k3) (k5 := k5) (newId := newId) hbase hh (wpAny_bind (wpAny_mono (wpAny_Call_ofName (wpAny_mono h (fun f s₁ h₁ => ?_) fun _ _ x => x)) (fun v s₃ h₃ => wpAny_bind (wpAny_standAt (wpAny_pure h₃))) fun _ _ x => x))))
    | (simp only [evalOpt, Option.map]; refine wpAny_bind (wpAny_standAt (wpAny_raiseStmt_made_sub (C := C) (nm := nm) (q := q) (N := N) (bs := bs) (bm := bm) (hdct := hdct) (sn := sn) (sub := sub) (ab := ab) (col := col) (dd := dd) (k0 := k0) (k1 := k1) (k2 := k2) (k3 := k3) (k5 := k5) (newId := newId) hbase hh (wpAny_bind (wpAny_mono (wpAny_Call_ofName (wpAny_mono h (fun f s₁ h₁ => ?_) fun _ _ x => x)) (fun v s₃ h₃ => wpAny_bind (wpAny_standAt (wpAny_pure h₃))) fun _ _ x => x)))))
  obtain ⟨rfl, h₁⟩ := h₁
  unfold callWith
  refine wpAny_bind (wpAny_holding (wpAny_mono h₁ (fun a s₂ h₂ => wpAny_bind (wpAny_standAt ?_)) fun _ _ x => x))
  obtain ⟨apos, akw⟩ := a
  obtain ⟨hkw, hlen, hC, hn, T, h₂⟩ := h₂
  obtain rfl : akw = [] := hkw
  obtain ⟨hp, g, d, tk, os⟩ := s₂
  simp only [hplain]
  refine wpAny_bind (wpAny_keeperOf_exc hC ?_)
  refine wpAny_bind (call_exc2 (hrest := hlen) F FI T hB hC hn hni fun h' e hm => wpAny_bind (wpAny_holding (wpAny_point (wpAny_pure ?_))))
  obtain ⟨t, ht, _, _⟩ := hm.there
  exact ⟨e, t, rfl, hm.keeps _ _ hC, ht, h₂ h' e hm⟩
end

section
variable {prog : Program} {w : World} {A : Around} {E : Value → Shared → Prop} {s : Shared} {h₀ : Heap} {L a : Addr} {m mg : Str → Option Value} {name x : Str} {scope : Scope} {cd : Value} {C : Addr} {bmN bmI : List Value} {BN newId initN BI newI initId : String} {np cpos pos : Pos} {Q : Flow → Shared → Prop}
theorem raise_own2 {e₀ : Expr} {rest : List Expr} (F : Fr h₀ L s.heap m) (hg : h₀.Ns mainGlobals mg) (O : OwnCls x C bmI newId mg h₀) (FB : ExcBaseFacts BN newId initN bmN) (FI : ExcBaseFacts BI newI initId bmI) (hB : bmI.contains (.type BN) = true) (hh : A.handled = none)
    (h : wpAny (model prog w) A (spliced (backTo cpos (starEach (e₀ :: rest) (envOf name scope L a cd)))) (fun vs s₂ => vs.length ≤ sizeLine ∧ (∀ b o, h₀.get? b = some o → s₂.heap.get? b = some o) ∧
      ∀ h' e, Heap.MadeExcOf s₂.heap h' e (.ref C) vs → E (.ref e) { s₂ with heap := h' }) E s)
    (he : starEach (e₀ :: rest) (envOf name scope L a cd) = (false, eval e₀ (envOf name scope L a cd)) :: starEach rest (envOf name scope L a cd) := by rfl)
    (hplain : (backTo cpos (starEach rest (envOf name scope L a cd))).any (·.1) = false := by rfl)
    (hk : scope.kind = .function := by rfl) (hx : (envOf name scope L a cd).kindOf x = some .globalImplicit := by rfl) (hd : (x == ("__debug__" : Str)) = false := by decide) :
    wpAny (model prog w) A (exec (.Raise (some (.Call (.Name x np) (e₀ :: rest) [] cpos)) none pos) (envOf name scope L a cd)) Q E s := by
  obtain ⟨tl, N, nm, q, bs, hdct, sn, sub, ab, col, dd, k0, k1, k2, k3, k5, mN, hC, hN, hni, T⟩ := O.obj
  refine raise_call2 (C := C) (nm := nm) (q := q) (N := N) (bs := bs) (bm := tl) (hdct := hdct) (sn := sn) (sub := sub) (ab := ab) (col := col) (dd := dd) (k0 := k0) (k1 := k1) (k2 := k2) (k3 := k3) (k5 := k5)
    FB FI hB (mN := mN) (T.hasType FI.hasBase) hh (by rw [he]; show (false || (backTo cpos (starEach rest (envOf name scope L a cd))).any (·.1)) = false; rw [hplain]; rfl) hni (ld_own F hg O ⟨rfl, ?_⟩ hk hx hd)
  rw [he] at h ⊢
  exact Calls.evalArgs_plain (wpAny_mono h (fun vs s₂ h₂ => ⟨rfl, h₂.1, h₂.2.1 _ _ hC, hN.keeps h₂.2.1, T.keeps h₂.2.1, h₂.2.2⟩) fun _ _ y => y)
end
end Mine
end

section
open PySem PySem.W PyProof.Rows PySem.Calls
namespace Mine

/-- what a call of a def that has a `try` hands back to a caller that stands by itself -/
abbrev ConT (K : Frag) (w : World) (f : Addr) (vs : List Value) (k u : Nat) (P : Value → Prop) : Prop :=
  ∀ (prog : Program) (p : Program) (loose : List Str) (mean : ExcName → Option Value) (mg mb : Str → Option Value)
    (dp un : Nat) (gd : Option (List Code)) (cn : Str) (cs : Scope) (a : Addr) (ccd : Value) (cl : List (Str × Addr)) (A₀ : Around) (h₀ : Heap) (L : Addr) (m : Str → Option Value) (s : Shared) (Q E : Value → Shared → Prop) (news : List (Addr × Obj)),
    Below A₀ h₀ [] h₀ → Fr h₀ L s.heap m → News h₀ L s.heap news → K.In h₀ → Top p loose mean mg mb h₀ → cs.kind = .function → dp + k < recursionLimit → un + u < cLine →
    (∀ v h' tk', Fr h₀ L h' m → News h₀ L h' news → P v → Q v { s with heap := h', toks := tk' }) →
    wpAny (model prog w) (ktrTop dp un gd cn cs L a ccd cl []) (call (.ref f) vs) Q E s

theorem mem_one {env : Env} {L b : Addr} (hf : env.frame = some L) (hb : b ∈ [env].filterMap (·.frame)) : b = L := by
  obtain ⟨e, he, hf'⟩ := List.mem_filterMap.mp hb
  cases he with
  | head => rw [hf] at hf'; exact (Option.some.inj hf').symm
  | tail _ h => cases h

section
variable {prog : Program} {w : World} {A₀ A : Around} {s : Shared} {base h₀ : Heap} {env : Env} {L : Addr} {m : Str → Option Value} {news : List (Addr × Obj)} {K : Frag} {p : Program} {loose : List Str} {mean : ExcName → Option Value} {mg mb : Str → Option Value}
    {R : Result → Shared → Prop} {name qual : Str} {params : Arguments} {body : List Stmt} {scope : Scope} {dV kV doc pm cdv ct oc : Value} {an od : Option Addr} {osl : Array (Option Value)} {f : Addr} {args : Args} {binds : List (Str × Value)}

/-- as `code_defS0`, for any caller's env -/
theorem enterT (B : Below A₀ base [] h₀) (F : Fr h₀ L s.heap m) (X₀ : K.In h₀) (N : News h₀ L s.heap news) (T : Top p loose mean mg mb h₀) (hA : A.frames = some [env]) (hf : env.frame = some L) (hke : env.scope.kind = .function)
    (ho : K.lookup f = some ⟨oc, od, .func (fnOf name qual params body scope dV kV doc pm an cdv ct), osl⟩) (hcd : codeIn K cdv qual = true) (hroom : A.depth < recursionLimit)
    (hbind : BindsTo s (fnOf name qual params body scope dV kV doc pm an cdv ct) args binds) (hloc : ∀ y ∈ binds, scope.names.lookup y.1 = some .local)
    (h : ∀ g L' h₁, Fr h₀ L g m → Fr g L' h₁ (fun y => binds.reverse.lookup y) → News g L' h₁ news → Below A base [env] g → K.In g → Top p loose mean mg mb g → KtsDicts ([env].filterMap (·.frame)) g →
      wpAny (model prog w) (A.deeper (envOf qual scope L' f cdv)) (execs body (envOf qual scope L' f cdv))
        (fun fl s' => LeaveS0 ([env].filterMap (·.frame)) h₀ L m g R (match fl with | .ret v => v | _ => .none) s')
        (fun e s' => wpAny (model prog w) (A.deeper (envOf qual scope L' f cdv)) (leaving (envOf qual scope L' f cdv) e) (fun _ s'' => R (.error e) s'') (fun e' s'' => R (.error e') s'') s')
        { s with heap := h₁, toks := s.toks + binds.length })
    (hco : scope.isCoroutine = false) (hgen : scope.isGenerator = false) (hk : scope.kind = .function)
    (hcell : ∀ x ∈ scope.names, x.2 ≠ .cell) : codeAny (model prog w) A (.call (.ref f) args) R s := by
  have X := X₀.keeps F.keep
  refine codeAny_call_def (fd := fnOf name qual params body scope dV kV doc pm an cdv ct) (body := body) (binds := binds) hroom (X _ _ ho) rfl (T.nolimit.keeps F.keep) (codeRec_of X hcd) rfl hbind hcell hloc (fun h₁ hns hk₁ => ?_) hco hgen hk
  have nm : ∀ b o, h₀.get? b = some o → b ∉ news.map (·.1) := fun b o e q => by
    obtain ⟨p, hp, rfl⟩ := List.mem_map.mp q
    rw [(N p hp).2.2] at e; cases e
  have st : h₀.StaysIn (hideAll s.heap (news.map (·.1))) := fun b o e => hideAll_get _ (F.keep b o e) (nm b o e)
  obtain ⟨oL, es, ep, hL, hLd, hLk, hLf⟩ := F.ns
  have nL : L ∉ news.map (·.1) := fun q => by
    obtain ⟨p, hp, e⟩ := List.mem_map.mp q
    exact (N p hp).2.1 e
  have hLg := hideAll_get (news.map (·.1)) hL nL
  have hN : ∀ h', h'.get? L = some oL → Heap.Ns h' L m := fun h' e => ⟨oL, es, ep, e, hLd, hLk, hLf⟩
  have hNs : ∀ (sl : Array (Option Value)) h', h'.get? L = some { oL with slots := sl } → Heap.Ns h' L m := fun sl h' e => ⟨_, es, ep, e, hLd, hLk, hLf⟩
  have B₁ := pushX B F hf hke
  have B₂ : Below A base [env] (hideAll s.heap (news.map (·.1))) := ⟨hA, fun b o e => st b o (B.stays b o e), funFrames_hideAll B₁.frames fun env' he b hb hf' => by
    cases he with
    | head => rw [hf] at hf'; exact nL ((Option.some.inj hf' : L = b) ▸ hb)
    | tail _ he => cases he⟩
  refine wpAny_mono (h _ s.heap.objs.size h₁ ⟨hN _ hLg, st, F.above⟩ ⟨hns, fun b o e => hk₁ b o (of_hideAll _ e), Nat.le_of_eq (hideAll_size _ _)⟩
    (fun p hp => ⟨hk₁ _ _ (N p hp).1, Nat.ne_of_lt (Heap.lt_size (N p hp).1), hideAll_none _ (List.mem_map_of_mem hp)⟩) B₂ (X₀.keeps st) (T.keeps st) (fun b hb => by
      obtain rfl := mem_one hf hb
      exact ⟨oL, es, ep, hLg, hLd⟩)) (fun fl s' hl => ?_) fun _ _ y => y
  obtain ⟨g', L', m', news', T', F', N', k⟩ := hl
  have nL₀ : h₀.get? L = none := kts_self F
  obtain ⟨sl, hs⟩ := T'.up hLg
  refine k ⟨hNs sl _ (F'.keep _ _ hs), fun b o e => F'.keep b o (T'.other b o (st b o e) (fun q => by
    obtain rfl := mem_one hf q
    rw [nL₀] at e
    cases e)), F.above⟩ fun p hp => ⟨(N' p hp).1, fun q => ?_, ?_⟩
  · have := (N' p hp).2.2; rw [q, hs] at this; cases this
  · cases q : h₀.get? p.1 with
    | none => rfl
    | some o =>
      obtain ⟨sl', hs'⟩ := T'.up (st _ _ q)
      have := (N' p hp).2.2
      rw [hs'] at this
      cases this
end
theorem newsTail {h₀ h : Heap} {L : Addr} {x : Addr × Obj} {news : List (Addr × Obj)} (N : News h₀ L h (x :: news)) : News h₀ L h news := fun p hp => N p (List.mem_cons_of_mem _ hp)
end Mine
end

section
open PySem PySem.W PyProof.Rows PySem.Calls
open Sem (wp)
namespace Mine
/-! the walk's rules over clean stacks: where the call that looks at the stack stands -/
section
variable {M : Model} {A : Around} {E : Value → Shared → Prop} {s : Shared} {env : Env}

theorem execs_cons_C {st : Stmt} {rest : List Stmt} {Q : Flow → Shared → Prop} (h : wpC M A (exec st env) (fun f s' => match f with | .next => wpC M A (execs rest env) Q E s' | f => Q f s') E s) :
    wpC M A (execs (st :: rest) env) Q E s := by
  rw [execs_cons]
  refine wpC_bind (wpC_mono h (fun f s' h' => ?_) fun _ _ x => x)
  cases f <;> first | exact h' | exact wpC_pure h'
/-- a statement walked by the library's rules -/
theorem execs_any {st : Stmt} {rest : List Stmt} {Q : Flow → Shared → Prop} (h : wpAny M A (exec st env) (fun f s' => match f with | .next => wpC M A (execs rest env) Q E s' | f => Q f s') E s) :
    wpC M A (execs (st :: rest) env) Q E s := execs_cons_C (wpC_of_any h)
theorem If_C {test body orelse pos} {Q : Flow → Shared → Prop}
    (h : wpC M A (isTrue test env (eval test env)) (fun b s₂ => if b then wpC M A (execs body env) Q E s₂ else wpC M A (execs orelse env) Q E s₂) E s) :
    wpC M A (exec (.If test body orelse pos) env) Q E s := by
  rw [exec_If]
  refine wpC_ahead (wpAny_standAt (wpC_bind (wpC_mono h (fun b s' h' => ?_) fun _ _ x => x)))
  cases b <;> exact h'
theorem Return_C {e pos} {Q : Flow → Shared → Prop} (h : wpC M A (eval e env) (fun v => Q (.ret v)) E s) : wpC M A (exec (.Return (some e) pos) env) Q E s := by
  rw [exec_Return_some]
  exact wpC_ahead (wpAny_standAt (wpC_bind (wpC_mono h (fun _ _ h' => wpC_pure h') fun _ _ x => x)))
theorem Aug_C {x pos' op value pos} {Q : Flow → Shared → Prop}
    (h : wpAny M A (loadName env x) (fun old s₁ => wpC M A (eval value env) (fun v s₂ => wpAny M A (inplaceOp op old v)
      (fun r s₃ => wpAny M A (storeName env x r) (fun _ => Q .next) E s₃) E s₂) E s₁) E s) :
    wpC M A (exec (.AugAssign (.Name x pos') op value pos) env) Q E s := by
  rw [exec_AugAssign_Name]
  refine wpC_ahead (wpAny_standAt (wpC_ahead (wpAny_mono h (fun old s₁ h₁ => wpC_bind (wpC_holding (wpC_mono h₁ (fun v s₂ h₂ => ?_) fun _ _ x => x))) fun _ _ x => x)))
  refine wpC_of_any (wpAny_bind (wpAny_standAt (wpAny_bind (wpAny_operate' (wpAny_mono h₂ (fun r s₃ h₃ => wpAny_bind (wpAny_standAt (wpAny_bind (wpAny_bindName (wpAny_mono h₃ (fun _ _ h₄ => wpAny_pure h₄) fun _ _ x => x))))) fun _ _ x => x)))))
theorem Assign_C {x pos' value pos} {Q : Flow → Shared → Prop}
    (h : wpC M A (eval value env) (fun v s₁ => wpAny M A (storeName env x v) (fun _ => Q .next) E s₁) E s)
    (hs : swapsWith value (some (.Name x pos')) pos.line env = pure false := by rfl) :
    wpC M A (exec (.Assign [.Name x pos'] value pos) env) Q E s := by
  rw [exec_Assign_Name env x pos' value pos hs]
  exact wpC_ahead (wpAny_standAt (wpC_bind (wpC_mono h (fun v s₁ h₁ => wpC_of_any (wpAny_bind (wpAny_standAt (wpAny_bind (wpAny_bindName (wpAny_mono h₁ (fun _ _ h₄ => wpAny_pure h₄) fun _ _ x => x)))))) fun _ _ x => x)))
theorem Expr_C {e pos} {Q : Flow → Shared → Prop} (h : wpC M A (eval e env) (fun v s' => match v with | .ref _ => False | _ => Q .next s') E s)
    (hi : interactive env = false := by rfl) (hs : swapsWith e none pos.line env = pure false := by rfl) :
    wpC M A (exec (.Expr e pos) env) Q E s := by
  rw [exec_Expr env e pos hi hs]
  refine wpC_ahead (wpAny_standAt (wpC_bind (wpC_mono h (fun v s' h' => ?_) fun _ _ x => x)))
  have hv : ∀ a, v ≠ .ref a := fun a hva => by subst hva; exact h'
  rw [dropValue_plain hv]
  refine wpC_pure ?_
  cases v <;> first | exact h' | exact (hv _ rfl).elim
theorem isTrue_or_C {x rest pos whole} {Q : Bool → Shared → Prop}
    (h : wpC M A (isTrue x env (eval x env)) (fun c s' => if c then Q true s' else wpAny M A (isTrue (.BoolOp .Or rest pos) env whole) Q E s') E s) :
    wpC M A (isTrue (.BoolOp .Or (x :: rest) pos) env whole) Q E s := by
  show wpC M A (do
    match BoolOp.Or, ← isTrue x env (eval x env) with
    | .And, false => pure false
    | .Or, true => pure true
    | _, _ => allTrue .Or rest env) Q E s
  refine wpC_bind (wpC_mono h (fun c s' h' => ?_) fun _ _ x => x)
  cases c with
  | false => exact wpC_of_any h'
  | true => exact wpC_pure h'
theorem isTrue_Compare1_C {l op r pos whole} {Q : Bool → Shared → Prop}
    (h : wpC M A (eval l env) (fun a s₁ => wpAny M A (eval r env) (fun b s₂ => wpAny M A (compareOp op a b)
      (fun c s₃ => wpAny M A (truthy c) Q E s₃) E s₂) E s₁) E s)
    (hm : behindInMarks op r = false := by with_unfolding_all rfl) : wpC M A (isTrue (.Compare l [op] [r] pos) env whole) Q E s := by
  rw [isTrue_Compare1]
  simp only [markedBehindIn_of_false hm]
  refine wpC_bind (wpC_mono h (fun a s₁ h₁ => ?_) fun _ _ x => x)
  exact wpC_of_any (wpAny_bind (wpAny_holding (wpAny_mono h₁ (fun b s₂ h₂ => wpAny_bind (wpAny_standAt (wpAny_bind (wpAny_operate' (wpAny_mono h₂ (fun c s₃ h₃ => wpAny_holding h₃) fun _ _ x => x))))) fun _ _ x => x)))
theorem CallName_C {id : Str} {p pos : Pos} {args : List Expr} {Q : Value → Shared → Prop}
    (h : wpAny M A (eval (.Name id p) env) (fun f s₁ => wpC M A (callWith pos f [] (backTo pos (starEach args env)) (backToKw pos (keywordEach [] env))) Q E s₁) E s) :
    wpC M A (eval (.Call (.Name id p) args [] pos) env) Q E s := by
  rw [arm_eval_Call_Name']
  exact wpC_ahead h
theorem MethodCall_C {o : Expr} {name : Str} {apos pos : Pos} {args : List Expr} {pl : Sem Bool} {Q : Value → Shared → Prop}
    (h : wpAny M A (eval o env) (fun ov s₁ => wpAny M A (getMethod ov name pl) (fun fx s₂ => wpC M A (callWith pos fx.1 fx.2 (backTo pos (starEach args env)) []) Q E s₂) E s₁) E s)
    (he : eval (.Call (.Attribute o name apos) args [] pos) env = (do
      let ov ← eval o env
      standAt apos.atName
      let (f, first) ← holding [ov] (getMethod ov name pl)
      callWith pos f first (backTo pos (starEach args env)) []) := by rfl) :
    wpC M A (eval (.Call (.Attribute o name apos) args [] pos) env) Q E s := by
  rw [he]
  refine wpC_ahead (wpAny_mono h (fun ov s₁ h₁ => wpC_ahead (wpAny_standAt (wpC_ahead (wpAny_holding (wpAny_mono h₁ (fun fx s₂ h₂ => ?_) fun _ _ x => x))))) fun _ _ x => x)
  exact h₂
theorem wpC_keep {α : Type} {vs : List Value} {m : Sem α} {Q : α → Shared → Prop} (h : wpC M A m Q E s) : wpC M A (m.keep vs) Q E s :=
  fun Γ p hΓ hc => by rw [Sem.wp_keep]; exact h Γ p hΓ hc
theorem callWith_of_C {P : Heap → Prop} {pos : Pos} {f : Value} {first : List Value} {args : List (Bool × Sem Value)} {keywords : List (Option Str × Sem Value)} {Q : Value → Shared → Prop} (hplain : (args.any (·.1) || keywords.any (·.1.isNone)) = false)
    (hk : ∀ h, P h → ∃ k, (k = Keeper.frame ∨ k = Keeper.machine ∨ k = Keeper.boundFrame) ∧ Looks M h (keeperOf f) k)
    (h : wpAny M A (evalArgs f true args keywords) (fun a s₁ => P s₁.heap ∧ wpC M A (call f (first ++ a.pos) a.kw) Q E s₁) E s) : wpC M A (callWith pos f first args keywords) Q E s := by
  unfold callWith
  refine wpC_ahead (wpAny_holding (wpAny_mono h (fun a s₁ h₁ => wpC_ahead (wpAny_standAt ?_)) fun _ _ x => x))
  obtain ⟨k, hk', L⟩ := hk _ h₁.1
  simp only [hplain]
  refine wpC_ahead (L.here ?_)
  have tail : ∀ {t : Sem Value}, wpC M A t Q E s₁ → wpC M A (t >>= fun r => holding [r] point >>= fun _ => pure r) Q E s₁ :=
    fun ht => wpC_bind (wpC_mono ht (fun r s₂ hr => wpC_of_any (wpAny_bind (wpAny_holding (wpAny_point (wpAny_pure hr))))) fun _ _ x => x)
  have marked (mk : Value) : wpC M A (callMarked mk f (first ++ a.pos) a.kw) Q E s₁ := by unfold callMarked; exact wpC_keep h₁.2
  rcases hk' with rfl | rfl | rfl <;> dsimp only <;> first | exact tail h₁.2 | (split <;> first | exact tail h₁.2 | exact tail (marked _))
theorem callWith_K_C {K : Frag} {h₀ : Heap} {pos : Pos} {f : Value} {e : Expr} {rest : List Expr} {Q : Value → Shared → Prop} (_X : K.In h₀) (hk : keepIn K f = true)
    (h : wpAny M A (spliced (backTo pos (starEach (e :: rest) env))) (fun vs s₁ => K.In s₁.heap ∧ wpC M A (call f vs) Q E s₁) E s)
    (he : starEach (e :: rest) env = (false, eval e env) :: starEach rest env := by rfl) (hplain : (backTo pos (starEach rest env)).any (·.1) = false := by rfl) :
    wpC M A (callWith pos f [] (backTo pos (starEach (e :: rest) env)) []) Q E s := by
  rw [he] at h ⊢
  exact callWith_of_C (by show ((false || (backTo pos (starEach rest env)).any (·.1)) || false) = false; rw [hplain]; rfl) (keeps_K hk) (evalArgs_plain h)
theorem callWith_type0_C {pos : Pos} {T : String} {Q : Value → Shared → Prop} (h : wpC M A (call (.type T) []) Q E s) :
    wpC M A (callWith pos (.type T) [] (backTo pos (starEach [] env)) []) Q E s := by
  show wpC M A (callWith pos (.type T) [] [] []) Q E s
  unfold callWith
  refine wpC_ahead (wpAny_holding (evalArgs_nil3 (wpC_ahead (wpAny_standAt ?_))))
  simp only [List.any_nil, Bool.or_false]
  refine wpC_ahead (wpAny_pure ?_)
  exact wpC_bind (wpC_mono h (fun r s₂ hr => wpC_of_any (wpAny_bind (wpAny_holding (wpAny_point (wpAny_pure hr))))) fun _ _ x => x)
theorem callWith_builtin_C {pos : Pos} {id : String} {first : List Value} {e : Expr} {rest : List Expr} {Q : Value → Shared → Prop}
    (h : wpAny M A (spliced (backTo pos (starEach (e :: rest) env))) (fun vs s₁ => wpC M A (call (.builtin id) (first ++ vs)) Q E s₁) E s)
    (he : starEach (e :: rest) env = (false, eval e env) :: starEach rest env := by rfl)
    (hplain : (backTo pos (starEach rest env)).any (·.1) = false := by rfl) :
    wpC M A (callWith pos (.builtin id) first (backTo pos (starEach (e :: rest) env)) []) Q E s := by
  rw [he] at h ⊢
  have hp : ((false, eval e env) :: backTo pos (starEach rest env)).any (·.1) = false := by show (false || (backTo pos (starEach rest env)).any (·.1)) = false; rw [hplain]; rfl
  show wpC M A (callWith pos (.builtin id) first ((false, eval e env) :: backTo pos (starEach rest env)) []) Q E s
  unfold callWith
  refine wpC_ahead (wpAny_holding (evalArgs_plain (wpAny_mono h (fun vs s₁ h₁ => wpC_ahead (wpAny_standAt ?_)) fun _ _ x => x)))
  simp only [hp, List.any_nil, Bool.or_false]
  refine wpC_ahead (wpAny_pure ?_)
  exact wpC_bind (wpC_mono h₁ (fun r s₂ hr => wpC_of_any (wpAny_bind (wpAny_holding (wpAny_point (wpAny_pure hr))))) fun _ _ x => x)
end

section
variable {prog : Program} {w : World} {A : Around} {E : Value → Shared → Prop} {s : Shared} {R : Result → Shared → Prop}
theorem codeC_func {body env}
    (h : wpC (model prog w) (A.deeper env) (execs body env) (fun f s' => R (.ok (.ret (match f with | .ret v => v | _ => .none))) s') noExc s) :
    codeC (model prog w) A (.func body env) R s := by
  refine codeC_of_tree rfl ?_
  show wpC _ (A.deeper env) (do point; match ← (execs body env).onRaise (leaving env) with | .ret v => ret v | _ => ret .none) _ _ s
  refine wpC_ahead (wpAny_point (wpC_bind (wpC_onRaise (wpC_mono h (fun f s' h' => ?_) fun _ _ h' => h'.elim))))
  cases f <;> exact wpC_pure h'
theorem codeC_call_function {a : Addr} {args : Args} {o : Obj} {fd : FuncData} {body : List Stmt} (hroom : A.depth < recursionLimit)
    (ho : s.heap.get? a = some o)
    (hd' : o.data = .func fd) (hco : fd.scope.isCoroutine = false) (hgen : fd.scope.isGenerator = false) (hbody : fd.body = .stmts body) (hcd : s.heap.CodeRec fd.code fd.qualname)
    (h : wpAny (model prog w) A.in1 (bindArgs fd args) (fun binds s₁ =>
      wpAny (model prog w) A.in1 (newFunctionEnv fd.scope fd.globals fd.closure binds (fd.qualname ++ ".<locals>.") (some a) fd.code none fd.builtins)
        (fun env s₂ => s₂.heap.NoLimit ∧ codeC (model prog w) A (.func body env) R s₂) (fun e s' => R (.error e) s') s₁) (fun e s' => R (.error e) s') s) :
    codeC (model prog w) A (.call (.ref a) args) R s := by
  refine codeC_of_tree rfl ?_
  show wpC _ A.in1 (callAny (.ref a) args) _ _ s
  simp only [callAny]
  refine wpC_ahead (wpAny_load ho ?_)
  obtain ⟨c, oc, vs, tq, hc, hoc, hdc, hq⟩ := hcd
  simp only [hd', callFunction, hco, hgen, hbody, hc]
  rw [hc] at h
  refine wpC_ahead (m := field (.ref c) 1) (wpAny_field hoc hdc hq (wpC_ahead (wpAny_pure ?_)))
  exact wpC_ahead (wpAny_mono h (fun binds s₁ h₁ => wpC_ahead (wpAny_mono h₁ (fun env s₂ h₂ => wpC_ahead (wpAny_enterFrame h₂.1 hroom
    (wpC_pure (And.intro rfl h₂.2)))) fun _ _ h' => h')) fun _ _ h' => h')
theorem codeC_call_def {a : Addr} {o : Obj} {fd : FuncData} {body : List Stmt} {args : Args} {binds : List (Str × Value)}
    (hroom : A.depth < recursionLimit) (ho : s.heap.get? a = some o) (hdata : o.data = .func fd) (hlim : s.heap.NoLimit) (hcd : s.heap.CodeRec fd.code fd.qualname)
    (hbody : fd.body = .stmts body) (hbind : BindsTo s fd args binds)
    (hcell : ∀ x ∈ fd.scope.names, x.2 ≠ .cell) (hloc : ∀ x ∈ binds, fd.scope.names.lookup x.1 = some .local)
    (h : ∀ h₀, h₀.Ns s.heap.objs.size (fun x => binds.reverse.lookup x) → (∀ b o, s.heap.get? b = some o → h₀.get? b = some o) →
      wpC (model prog w) (A.deeper (callEnv fd s.heap.objs.size a)) (execs body (callEnv fd s.heap.objs.size a)) (fun f s' => R (.ok (.ret (match f with | .ret v => v | _ => .none))) s') noExc
        { s with heap := h₀, toks := s.toks + binds.length })
    (hco : fd.scope.isCoroutine = false := by rfl) (hgen : fd.scope.isGenerator = false := by rfl) (hk : fd.scope.kind = .function := by rfl) :
    codeC (model prog w) A (.call (.ref a) args) R s := by
  refine codeC_call_function hroom ho hdata hco hgen hbody hcd (hbind _ _ _ _ ?_)
  refine wpAny_newFunctionEnv hcell hloc (fun h₀ hns₀ hsb₀ => ⟨hlim.fresh _ hsb₀, codeC_func (h h₀ hns₀ fun b o e => ?_)⟩) hk
  exact hsb₀.extBut b o (Nat.ne_of_lt (Heap.lt_size e)) (Heap.get?_push_of_some _ e)
end

section
variable {prog : Program} {w : World} {A A₀ : Around} {s : Shared} {K : Frag} {L : Addr} {h₀ base : Heap} {m mg mb : Str → Option Value} {p : Program} {loose : List Str} {mean : ExcName → Option Value}
theorem enterC {env : Env} {outer : List Env} {R : Result → Shared → Prop} {name qual : Str} {params : Arguments} {body : List Stmt} {scope : Scope} {dV kV doc pm cdv ct oc : Value} {an od : Option Addr} {osl : Array (Option Value)} {f : Addr} {args : Args} {binds : List (Str × Value)}
    (B : Below A₀ base outer h₀) (F : Fr h₀ L s.heap m) (X₀ : K.In h₀) (T : Top p loose mean mg mb h₀) (hA : A.frames = some (env :: outer)) (hf : env.frame = some L) (hke : env.scope.kind = .function)
    (ho : K.lookup f = some ⟨oc, od, .func (fnOf name qual params body scope dV kV doc pm an cdv ct), osl⟩) (hcd : codeIn K cdv qual = true) (hroom : A.depth < recursionLimit)
    (hbind : BindsTo s (fnOf name qual params body scope dV kV doc pm an cdv ct) args binds) (hloc : ∀ y ∈ binds, scope.names.lookup y.1 = some .local)
    (h : ∀ L' h₁, Fr s.heap L' h₁ (fun y => binds.reverse.lookup y) → News s.heap L' h₁ [] → Below A base (env :: outer) s.heap → K.In s.heap → Top p loose mean mg mb s.heap →
      wpC (model prog w) (A.deeper (envOf qual scope L' f cdv)) (execs body (envOf qual scope L' f cdv))
        (fun fl s' => R (.ok (.ret (match fl with | .ret v => v | _ => .none))) s') noExc
        { s with heap := h₁, toks := s.toks + binds.length })
    (hco : scope.isCoroutine = false) (hgen : scope.isGenerator = false) (hk : scope.kind = .function)
    (hcell : ∀ x ∈ scope.names, x.2 ≠ .cell) : codeC (model prog w) A (.call (.ref f) args) R s := by
  have X := X₀.keeps F.keep
  have B₁ := pushX B F hf hke
  refine codeC_call_def (fd := fnOf name qual params body scope dV kV doc pm an cdv ct) (body := body) (binds := binds) hroom (X _ _ ho) rfl (T.nolimit.keeps F.keep) (codeRec_of X hcd) rfl hbind hcell hloc (fun h₁ hns hk₁ => ?_) hco hgen hk
  exact h s.heap.objs.size h₁ ⟨hns, hk₁, Nat.le_refl _⟩ News.nil ⟨hA, B₁.stays, B₁.frames⟩ X (T.keeps F.keep)
end

/-- as `Con`, over clean stacks -/
abbrev ConC (K : Frag) (w : World) (f : Addr) (vs : List Value) (k u : Nat) (P : Value → Prop) : Prop :=
  ∀ (prog : Program) (p : Program) (loose : List Str) (mean : ExcName → Option Value) (mg mb : Str → Option Value)
    (dp un : Nat) (gd : Option (List Code)) (cn : Str) (cs : Scope) (a : Addr) (ccd : Value) (cl : List (Str × Addr)) (outer : List Env) (A₀ : Around) (base h₀ : Heap) (L : Addr) (m : Str → Option Value) (s : Shared) (Q E : Value → Shared → Prop),
    Below A₀ base outer h₀ → Fr h₀ L s.heap m → K.In h₀ → Top p loose mean mg mb h₀ → cs.kind = .function → dp + k < recursionLimit → un + u < cLine →
    (∀ v h' tk', (∀ b o, s.heap.get? b = some o → h'.get? b = some o) → P v → Q v { s with heap := h', toks := tk' }) →
    wpC (model prog w) (ktrTop dp un gd cn cs L a ccd cl outer) (call (.ref f) vs) Q E s
theorem ConC.use {K : Frag} {w : World} {f : Addr} {vs : List Value} {k u : Nat} {P : Value → Prop} (c : ConC K w f vs k u P) {prog : Program} {p : Program} {loose : List Str} {mean : ExcName → Option Value} {mg mb : Str → Option Value}
    {dp un : Nat} {gd : Option (List Code)} {cn : Str} {cs : Scope} {a : Addr} {ccd : Value} {cl : List (Str × Addr)} {outer : List Env} {A₀ : Around} {base h₀ : Heap} {L : Addr} {m : Str → Option Value} {s : Shared} {Q E : Value → Shared → Prop} {news : List (Addr × Obj)}
    (B : Below A₀ base outer h₀) (F : Fr h₀ L s.heap m) (X : K.In h₀) (N : News h₀ L s.heap news) (T : Top p loose mean mg mb h₀) (hk : cs.kind = .function) (hd : dp + k < recursionLimit) (hu : un + u < cLine)
    (h : ∀ v h' tk', Fr h₀ L h' m → News h₀ L h' news → P v → Q v { s with heap := h', toks := tk' }) :
    wpC (model prog w) (ktrTop dp un gd cn cs L a ccd cl outer) (call (.ref f) vs) Q E s :=
  c prog p loose mean mg mb dp un gd cn cs a ccd cl outer A₀ base h₀ L m s Q E B F X T hk hd hu fun v h' tk' k p => h v h' tk' (keepF F k) (keepN N k) p
end Mine
end

section
open PySem PySem.W PyProof.Rows PySem.Calls PyProof.V
open Sem (wp)
namespace Mine
section
variable {prog : Program} {w : World} {A : Around} {E : Value → Shared → Prop} {s : Shared} {env : Env} {h₀ : Heap} {m₀ : Str → Option Value} {news : List (Addr × Obj)}

theorem codeC_forLoop {R : Result → Shared → Prop} {target it body env} (I : Nat → Shared → Prop)
    (turn : ∀ n s, I n s → wpAny (model prog w) A (pyNext it) (fun r s₁ => match r with
      | none => R (.ok .next) s₁
      | some v => wpAny (model prog w) A (assign target env v) (fun _ s₂ => wpC (model prog w) A (execs body env) (fun f s₃ => match f with
          | .next | .cont => ∃ m, m < n ∧ I m s₃
          | .brk => R (.ok .next) s₃
          | .ret v => R (.ok (.ret v)) s₃) noExc s₂) noExc s₁) noExc s)
    (n : Nat) (h : I n s) (ht : ∀ v, letOwnedTupleGo target it v = pure () := by intro _; rfl) : codeC (model prog w) A (.forLoop target it body [] env) R s := by
  have key : ∀ n s, I n s → codeC (model prog w) A (.forLoop target it body [] env) R s := by
    intro n
    induction n using Nat.strongRecOn with
    | ind n ih =>
      intro s hI
      refine codeC_of_tree rfl ?_
      show wpC _ A ((forTurn target it body [] env).onRaise (fun x => do noteFrame x env; theTreesLotGoes x)) _ _ s
      refine wpC_noted ?_
      simp only [forTurn]
      refine wpC_ahead (wpAny_standAt (wpC_ahead (wpAny_onRaise (wpAny_mono (turn n s hI) (fun r s₁ h₁ => ?_) fun _ _ h' => h'.elim))))
      cases r with
      | none => exact wpC_pure ⟨rfl, codeC_of_any (codeAny_block (wpAny_execs_nil h₁))⟩
      | some v =>
        refine wpC_ahead (wpAny_of_eq (ht v) ?_)
        refine wpC_ahead (wpAny_mono h₁ (fun _ s₂ h₂ => wpC_bind (wpC_mono h₂ (fun f s₃ h₃ => ?_) fun _ _ h' => h')) fun _ _ h' => h')
        cases f with
        | next => obtain ⟨m, hm, hI'⟩ := h₃; exact wpC_pure ⟨rfl, ih m hm s₃ hI'⟩
        | cont => obtain ⟨m, hm, hI'⟩ := h₃; exact wpC_pure ⟨rfl, ih m hm s₃ hI'⟩
        | brk => exact wpC_pure h₃
        | ret v => exact wpC_pure h₃
  exact key n s h

abbrev TurnC (prog : Program) (w : World) (A : Around) (s : Shared) (env : Env) (h₀ : Heap) (x : Str) (body : List Stmt) (Q : Flow → Shared → Prop) (news : List (Addr × Obj)) (n : Nat) (P : Nat → Value → Prop) (J : Nat → (Str → Option Value) → List (Addr × Obj) → Prop) : Prop :=
  ∀ i v m₁ news₁ h tk own, i < n → P i v → news₁.map (·.1) = news.map (·.1) → OwnOff own (news.map (·.1)) → J i m₁ news₁ → Fr h₀ env.locals h (fun y => if y = x then some v else m₁ y) → News h₀ env.locals h (news₁ ++ own) →
      wpC (model prog w) A (execs body env) (InvPostN h₀ env.locals (J (i + 1)) own (news.map (·.1)) { s with heap := h, toks := tk } Q) noExc { s with heap := h, toks := tk }

/-- the loop at its iterator: over clean stacks -/
theorem forLoopC {Q : Flow → Shared → Prop} {x : Str} {px : Pos} {body : List Stmt} {I : Addr} {fp wr : List Addr} {n : Nat} {P : Nat → Value → Prop} {St : Nat → Heap → Prop}
    (J : Nat → (Str → Option Value) → List (Addr × Obj) → Prop) (W : Walks prog w A I fp wr n P St) (hx : env.kindOf x = some .local)
    (hp : (env.scope.kind == .class || (env.scope.kind == .module && env.locals != env.globals)) = false)
    (hLf : env.locals ∉ fp) (hwr : ∀ b ∈ wr, h₀.get? b = none) (hfp : ∀ q ∈ news, q.1 ∉ fp)
    (hst : St 0 s.heap) (F : Fr h₀ env.locals s.heap m₀) (N : News h₀ env.locals s.heap news) (h0 : J 0 m₀ news)
    (turn : TurnC prog w A s env h₀ x body Q news n P J) (done : Done s env h₀ Q n J) :
    codeC (model prog w) A (.forLoop (.Name x px) (.ref I) body [] env) (fun r s' => match r with | .ok f => Q f s' | .error _ => False) s := by
  have hnw : ∀ p ∈ news, p.1 ∉ wr := fun p hp hq => hfp p hp (W.sub _ hq)
  have hLw : env.locals ∉ wr := fun h => hLf (W.sub _ h)
  have old : ∀ b o, h₀.get? b = some o → b ∉ wr := fun b o e hb => by rw [hwr b hb] at e; cases e
  refine codeC_forLoop
    (fun k s' => ∃ h' tk m' news' i, s' = { s with heap := h', toks := tk } ∧ St i h' ∧ Fr h₀ env.locals h' m' ∧ News h₀ env.locals h' news' ∧ news'.map (·.1) = news.map (·.1) ∧ J i m' news' ∧ i ≤ n ∧ k = n + 1 - i) ?_ (n + 1)
    ⟨s.heap, s.toks, m₀, news, 0, rfl, hst, F, N, rfl, h0, Nat.zero_le _, rfl⟩
  rintro k s' ⟨h', tk, m', news', i, rfl, hst', F', N', hadr, hJ, hi, rfl⟩
  have hnw' : ∀ p ∈ news', p.1 ∉ wr := fun p hp hq => by
    have h1 : p.1 ∈ news'.map (·.1) := List.mem_map.mpr ⟨p, hp, rfl⟩
    rw [hadr] at h1
    obtain ⟨q, hq1, hq2⟩ := List.mem_map.mp h1
    exact hnw q hq1 (by rw [hq2]; exact hq)
  have next : ∀ h₁ : Heap, (∀ b o, b ∉ wr → h'.get? b = some o → h₁.get? b = some o) → Fr h₀ env.locals h₁ m' ∧ News h₀ env.locals h₁ news' := fun h₁ hk₁ =>
    ⟨⟨F'.ns.at' fun o e => hk₁ _ o hLw e, fun b o e => hk₁ b o (old b o e) (F'.keep b o e), F'.above⟩, fun p hp => ⟨hk₁ _ _ (hnw' p hp) (N' p hp).1, (N' p hp).2⟩⟩
  by_cases hlt : i < n
  · refine W.item i _ _ _ hlt hst' fun v h₁ tk₁ hP hst₁ hk₁ => ?_
    obtain ⟨F₁, N₁⟩ := next h₁ hk₁
    refine wpAny_assign_Name (wpAny_storeName_local hx F₁.ns (fun h₂ hn₂ hs₂ => ?_) hp)
    have F₂ := F₁.set hn₂ hs₂
    have Nown : News h₀ env.locals h₂ (ownOf h₀ fp h₂) := news_ownOf hLf
    have hst₂ : St (i + 1) h₂ := W.frame _ _ _ hst₁ fun b hb o e => (hs₂.2 b fun q => hLf (q ▸ hb)).trans e
    have hoff : OwnOff (ownOf h₀ fp h₂) (news.map (·.1)) := by
      intro p hp b hb e
      obtain ⟨q, hq, rfl⟩ := List.mem_map.mp hb
      exact hfp q hq (e ▸ ownOf_sub p hp)
    refine wpC_mono (turn i v m' news' h₂ _ (ownOf h₀ fp h₂) hlt hP hadr hoff hJ F₂ ((N₁.set hs₂).append Nown)) (fun f s₃ h₃ => ?_) fun _ _ e => e
    have fin : InvEndN h₀ env.locals (J (i + 1)) (ownOf h₀ fp h₂) (news.map (·.1)) { s with heap := h₂, toks := tk₁ + 1 } s₃ → ∃ m, m < n + 1 - i ∧ ∃ h' tk m' news' i', s₃ = { s with heap := h', toks := tk } ∧ St i' h' ∧ Fr h₀ env.locals h' m' ∧ News h₀ env.locals h' news' ∧ news'.map (·.1) = news.map (·.1) ∧ J i' m' news' ∧ i' ≤ n ∧ m = n + 1 - i' := by
      rintro ⟨h₃', tk₃, m₂, news₂, nx, rfl, F₃, N₃, hn, ho, ha, hJ₃⟩
      refine ⟨n + 1 - (i + 1), by omega, h₃', tk₃, m₂, nx, i + 1, rfl, ?_, F₃, fun p hp => N₃ p (hn p hp), ha, hJ₃, hlt, rfl⟩
      refine W.frame _ _ _ hst₁ fun b hb o e => ?_
      have e₂ : h₂.get? b = some o := (hs₂.2 b fun q => hLf (q ▸ hb)).trans e
      cases hn' : h₀.get? b with
      | some o₀ =>
        have : o₀ = o := by have := F₂.keep b o₀ hn'; rw [e₂] at this; exact (Option.some.inj this).symm
        exact this ▸ F₃.keep b o₀ hn'
      | none => exact (N₃ _ (ho _ (mem_ownOf hb hn' e₂))).1
    cases f with
    | ret v => exact h₃
    | brk => exact h₃
    | cont => exact fin h₃
    | next => exact fin h₃
  · have hin : i = n := by omega
    subst hin
    refine W.done _ _ _ hst' fun h₁ tk₁ hk₁ => ?_
    obtain ⟨F₁, N₁⟩ := next h₁ hk₁
    exact done m' news' h₁ tk₁ hJ F₁ N₁

theorem forC {x : Str} {px pos : Pos} {iter : Expr} {body : List Stmt} {Q : Flow → Shared → Prop}
    (h : wpAny (model prog w) A (eval iter env) (fun xv s₁ => wpAny (model prog w) A (pyIter xv) (fun it s₂ => codeC (model prog w) A (.forLoop (.Name x px) it body [] env) (fun r s' => match r with | .ok f => Q f s' | .error _ => False) s₂) noExc s₁) noExc s)
    (hs : ∀ x, foldedSetIterable iter env x = pure x := by intro _; rfl) :
    wpC (model prog w) A (exec (.For (.Name x px) iter body [] pos) env) Q E s := by
  rw [exec_For]
  refine wpC_ahead (wpAny_standAt (wpC_ahead (wpAny_mono h (fun x s₁ h₁ => wpC_ahead (wpAny_of_eq (hs x) (wpC_ahead (wpAny_standAt (wpC_ahead (wpAny_holding (wpAny_mono h₁ (fun it s₂ h₂ => ?_) fun _ _ h' => h'.elim))))))) fun _ _ h' => h'.elim)))
  unfold runOwn
  refine wpC_onRaise (wpC_run (codeC_mono h₂ fun r s' hr => ?_))
  cases r with
  | ok f => exact hr
  | error e => exact hr.elim

theorem iterRangeC {x : Str} {px : Pos} {body : List Stmt} {Q : Flow → Shared → Prop} {r : Addr} {a b c : Int} {t u v : Tok} {n : Nat} (J : Nat → (Str → Option Value) → List (Addr × Obj) → Prop) (hh : A.handled = none) (hx : env.kindOf x = some .local)
    (hp : (env.scope.kind == .class || (env.scope.kind == .module && env.locals != env.globals)) = false)
    (hr : IsRange s.heap r a b c t u v) (hsmall : Builtin.Range.small a b c = true) (hn : Builtin.Range.rangeSize a b c = (n : Int)) (F : Fr h₀ env.locals s.heap m₀) (N : News h₀ env.locals s.heap news) (hj : J 0 m₀ news)
    (turn : TurnC prog w A s env h₀ x body Q news n (fun i v => ∃ t, v = .int (a + i * c) t) J) (done : Done s env h₀ Q n J) :
    wpAny (model prog w) A (pyIter (.ref r)) (fun it s₂ => codeC (model prog w) A (.forLoop (.Name x px) it body [] env) (fun r s' => match r with | .ok f => Q f s' | .error _ => False) s₂) E s := by
  refine wpAny_pyIter_range hr hsmall ?_
  have W := Walks.range (prog := prog) (w := w) hh s.heap.objs.size a c n
  refine forLoopC J W hx hp ?_ ?_ ?_ (by show IsRangeIter _ _ _ _ _; rw [hn]; simpa using Heap.get?_push_size _ rfl) (F.push _) (fun p hp => ⟨Heap.get?_push_of_some _ (N p hp).1, (N p hp).2⟩) hj turn done
  · intro hm
    exact absurd F.ns.lt ((List.mem_singleton.mp hm) ▸ Nat.lt_irrefl _)
  · intro b' hb
    rw [List.mem_singleton.mp hb]
    exact next_is_new F
  · intro p hp hI
    exact absurd (Heap.lt_size (N p hp).1) ((List.mem_singleton.mp hI) ▸ Nat.lt_irrefl _)
end
end Mine
end

section
open PySem PySem.W PyProof.Rows PySem.Calls
open Sem (wp)
namespace Mine
/-! bytearrays -/
abbrev baObj (b : Array UInt8) : Obj := { cls := .type "bytearray", data := .bytearray b }

theorem ba_mro : mroOf (.type "bytearray") = pure [.type "bytearray", .type "object"] := by rw [mroOf_type]; kernel_rfl
theorem ba_lookup_new : typeLookup (.type "bytearray") "__new__" = pure (some (.builtin "bytearray.__new__")) := by rw [typeLookup_type, builtinLookup_eq_fast]; kernel_rfl
theorem ba_slot_init : Slot "bytearray" "__init__" "bytearray.__init__" :=
  .of (owner := "bytearray") (n := "__init__") (by rw [typeLookup_type, builtinLookup_eq_fast]; kernel_rfl) (by decide +kernel) (by decide +kernel) (by decide +kernel)
    (by first | exact .inl (by decide +kernel) | exact .inr (by decide +kernel)) (by rw [isSubtype_type]; kernel_rfl)
theorem ba_slot_append : Slot "bytearray" "append" "bytearray.append" :=
  .of (owner := "bytearray") (n := "append") (by rw [typeLookup_type, builtinLookup_eq_fast]; kernel_rfl) (by decide +kernel) (by decide +kernel) (by decide +kernel)
    (by first | exact .inl (by decide +kernel) | exact .inr (by decide +kernel)) (by rw [isSubtype_type]; kernel_rfl)
theorem ba_slot_reverse : Slot "bytearray" "reverse" "bytearray.reverse" :=
  .of (owner := "bytearray") (n := "reverse") (by rw [typeLookup_type, builtinLookup_eq_fast]; kernel_rfl) (by decide +kernel) (by decide +kernel) (by decide +kernel)
    (by first | exact .inl (by decide +kernel) | exact .inr (by decide +kernel)) (by rw [isSubtype_type]; kernel_rfl)
theorem ba_slot_len : Slot "bytearray" "__len__" "bytearray.__len__" :=
  .of (owner := "bytearray") (n := "__len__") (by rw [typeLookup_type, builtinLookup_eq_fast]; kernel_rfl) (by decide +kernel) (by decide +kernel) (by decide +kernel)
    (by first | exact .inl (by decide +kernel) | exact .inr (by decide +kernel)) (by rw [isSubtype_type]; kernel_rfl)
theorem ba_called : TypeCalled "bytearray" "bytearray.__new__" "bytearray.__init__" :=
  ⟨by decide +kernel, by decide +kernel, ⟨_, _, ba_mro⟩, madeBy_type ba_mro ba_lookup_new (by decide +kernel), by decide +kernel, by rw [isSubtype_type]; kernel_rfl, ba_slot_init⟩
theorem ba_typeCall : checkTypeCall "bytearray" ⟨[], []⟩ = pure () := by kernel_rfl
theorem ba_newCall : checkBuiltinCall "bytearray.__new__" ⟨[.type "bytearray"], []⟩ = pure () := by kernel_rfl
theorem ba_entry_new : entryFor table "bytearray.__new__" = some Builtin.«list.__new__» := entryFor_alias (id' := "list.__new__") (by kernel_rfl) (by first | rfl | (unfold String.splitOn; simp +decide [String.splitOnAux])) (by decide +kernel) (by kernel_rfl)
theorem ba_plain_new : plainId "bytearray.__new__" = true := by decide +kernel
theorem ba_entry_init : entryFor table "bytearray.__init__" = some Builtin.«bytearray.__init__» := by first | exact entryFor_of_fast (by kernel_rfl) | exact entryFor_of_tree (by kernel_rfl)
theorem ba_entry_append : entryFor table "bytearray.append" = some Builtin.«bytearray.append» := by first | exact entryFor_of_fast (by kernel_rfl) | exact entryFor_of_tree (by kernel_rfl)
theorem ba_entry_reverse : entryFor table "bytearray.reverse" = some Builtin.«bytearray.reverse» := by first | exact entryFor_of_fast (by kernel_rfl) | exact entryFor_of_tree (by kernel_rfl)
theorem ba_entry_len : entryFor table "bytearray.__len__" = some Builtin.«bytearray.__len__» := by first | exact entryFor_of_fast (by kernel_rfl) | exact entryFor_of_tree (by kernel_rfl)
set_option maxRecDepth 1000000 in
set_option maxHeartbeats 4000000 in
theorem ba_owner_new : ("bytearray.__new__".splitOn ".__new__").headD "" = "bytearray" := by simp +decide [String.splitOn, String.splitOnAux]
theorem ba_sub : isSubtype (.type "bytearray") (.type "bytearray") = pure true := by rw [isSubtype_type]; kernel_rfl
theorem ba_attrs : PlainAttrs "bytearray" :=
  ⟨⟨"bytearray.__getattribute__", by rw [typeLookup_type, builtinLookup_eq_fast]; kernel_rfl, by decide +kernel⟩, by rw [typeLookup_type, builtinLookup_eq_fast]; kernel_rfl⟩
theorem ba_meth_append : typeOf (.builtin "bytearray.append") = pure (.type "method_descriptor") := by kernel_rfl
theorem ba_meth_reverse : typeOf (.builtin "bytearray.reverse") = pure (.type "method_descriptor") := by kernel_rfl
theorem ba_noBool : typeLookup (.type "bytearray") "__bool__" = pure none := by rw [typeLookup_type, builtinLookup_eq_fast]; kernel_rfl
theorem ba_release : typeLookup (.type "bytearray") "__release_buffer__" = pure (some (.builtin "bytearray.__release_buffer__")) := by rw [typeLookup_type, builtinLookup_eq_fast]; kernel_rfl
theorem ba_bytes : typeLookup (.type "bytearray") "__bytes__" = pure none := by rw [typeLookup_type, builtinLookup_eq_fast]; kernel_rfl
theorem ba_index : typeLookup (.type "bytearray") "__index__" = pure none := by rw [typeLookup_type, builtinLookup_eq_fast]; kernel_rfl
theorem ba_buffer : typeLookup (.type "bytearray") "__buffer__" = pure (some (.builtin "bytearray.__buffer__")) := by rw [typeLookup_type, builtinLookup_eq_fast]; kernel_rfl
section
variable {prog : Program} {w : World} {M : Model} {A : Around} {E : Value → Shared → Prop} {s : Shared}
theorem ba_type {D : Addr} {b : Array UInt8} (h : s.heap.get? D = some (baObj b)) : s.TypeIs (.ref D) "bytearray" := ⟨_, h, rfl⟩
theorem ba_getm_append {D : Addr} {b : Array UInt8} {pl : Sem Bool} {Q : Value × List Value → Shared → Prop} (hD : s.heap.get? D = some (baObj b)) (h : Q (.builtin "bytearray.append", [.ref D]) s) :
    wpAny M A (getMethod (.ref D) "append" pl) Q E s := by
  refine getMethod_builtin (ba_type hD) ba_attrs ba_slot_append ba_meth_append (fun a e => ?_) h
  cases e
  exact ⟨_, hD, rfl⟩
theorem ba_getm_reverse {D : Addr} {b : Array UInt8} {pl : Sem Bool} {Q : Value × List Value → Shared → Prop} (hD : s.heap.get? D = some (baObj b)) (h : Q (.builtin "bytearray.reverse", [.ref D]) s) :
    wpAny M A (getMethod (.ref D) "reverse" pl) Q E s := by
  refine getMethod_builtin (ba_type hD) ba_attrs ba_slot_reverse ba_meth_reverse (fun a e => ?_) h
  cases e
  exact ⟨_, hD, rfl⟩
theorem ba_update {D : Addr} {b : Array UInt8} {f : Array UInt8 → Array UInt8} {Q : Unit → Shared → Prop} (hD : s.heap.get? D = some (baObj b)) (hz : (f b).size ≤ sizeLine)
    (h : ∀ h', Heap.SameBut D s.heap h' → h'.get? D = some (baObj (f b)) → Q () { s with heap := h' }) : wpAny M A (updateBytearray D f) Q E s := by
  unfold updateBytearray
  refine wpAny_bind (wpAny_load hD ?_)
  show wpAny _ _ (update D (Obj.mapBytearray f) >>= fun _ => lookBehind D) _ _ _
  refine wpAny_bind (wpAny_update hD ?_)
  have hS₂ : (s.heap.update D (Obj.mapBytearray f)).get? D = some (baObj (f b)) := Heap.get?_update_self (Obj.mapBytearray f) hD rfl
  refine wpAny_lookBehind hS₂ ?_ (h _ (Heap.SameBut.update ..) hS₂)
  show (if (f b).size > sizeLine then some "bytearray:memory" else none) = none
  rw [if_neg (by omega)]
theorem ba_exportsOf {D : Addr} {b : Array UInt8} {Q : Nat → Shared → Prop} (hD : s.heap.get? D = some (baObj b)) (h : Q 0 s) : wpAny M A (Builtin.Bytes.exportsOf (.ref D)) Q E s := by
  unfold Builtin.Bytes.exportsOf
  exact wpAny_bind (wpAny_load hD (wpAny_pure h))
theorem ba_checkResize {D : Addr} {b : Array UInt8} {Q : Unit → Shared → Prop} (hD : s.heap.get? D = some (baObj b)) (h : Q () s) : wpC M A (Builtin.Bytes.checkResize (.ref D)) Q E s := by
  unfold Builtin.Bytes.checkResize
  refine wpC_bind (m := Builtin.Bytes.exported (.ref D) <||> _) ?_
  refine wpC_bind (wpC_exported ?_)
  refine wpC_of_any ?_
  show wpAny _ _ (Builtin.Bytes.exportsOf (.ref D) >>= fun n => pure (decide (n > 0))) _ _ _
  exact wpAny_bind (ba_exportsOf hD (wpAny_pure (wpC_pure h)))
theorem codeC_call_builtin {id : String} {args : Args} {b : Builtin} {R : Result → Shared → Prop} (hold : holdsMem (.builtin id args) = false) (hq : plainId id = true) (hb : entryFor table id = some b)
    (h : wpAny (model prog w) A.in1 (checkBuiltinCall id args) (fun _ s₁ => wpC (model prog w) A.in1 (b args)
      (fun fin s' => match fin with | .done f => R (.ok f) s' | .again c' => c'.quiet = true ∧ codeC (model prog w) A c' R s') (fun e s' => R (.error e) s') s₁)
      (fun e s' => R (.error e) s') s) : codeC (model prog w) A (.call (.builtin id) args) R s := by
  refine codeC_of_tree rfl ?_
  show wpC _ A.in1 (do checkBuiltinCall id args; again (.builtin id args)) _ _ s
  refine wpC_ahead (wpAny_mono h (fun _ s₁ h₁ => wpC_pure (And.intro (plainId_quiet hq args) (codeC_of_tree hold ?_))) fun _ _ h' => h')
  show wpC _ _ (match entryFor table id with | some b => b args | none => unsupported ((withoutEnding? id "#data").getD id)) _ _ s₁
  rw [hb, Around.under_plainId hq args]; exact h₁
theorem wpC_call_entry {T : String} {name : Str} {id : String} {b : Builtin} {self : Value} {rest : List Value} {Q : Value → Shared → Prop} (hold : holdsMem (.builtin id ⟨self :: rest, []⟩) = false) (h : Slot T name id) (hT : s.TypeIs self T)
    (hb : entryFor table id = some b)
    (hc : wpC (model prog w) A.in1 (b ⟨self :: rest, []⟩) (fun fin s' => ∃ v, fin = .done (.ret v) ∧ Q v s') E s)
    (ha : argsOk id ⟨self :: rest, []⟩ := by rfl) :
    wpC (model prog w) A (call (.builtin id) (self :: rest)) Q E s := by
  refine wpC_call (codeC_call_builtin hold h.plain hb (h.check _ _ _ _ _ _ _ _ hT ha (wpC_mono hc (fun fin s' h' => ?_) fun _ _ h' => h')))
  obtain ⟨v, rfl, hv⟩ := h'; exact hv
theorem ba_args_append (a b : Value) : argsOk "bytearray.append" ⟨[a, b], []⟩ := by unfold argsOk; kernel_rfl
theorem ba_args_reverse (a : Value) : argsOk "bytearray.reverse" ⟨[a], []⟩ := by unfold argsOk; kernel_rfl
theorem ba_args_len (a : Value) : argsOk "bytearray.__len__" ⟨[a], []⟩ := by unfold argsOk; kernel_rfl
theorem ba_args_init (a : Value) : argsOk "bytearray.__init__" ⟨[a], []⟩ := by unfold argsOk; kernel_rfl
theorem ba_append {D : Addr} {b : Array UInt8} {n : Nat} {t : Tok} {Q : Value → Shared → Prop} (hD : s.heap.get? D = some (baObj b)) (hn : n < 256) (hz : b.size < sizeLine)
    (h : ∀ h', Heap.SameBut D s.heap h' → h'.get? D = some (baObj (b.push n.toUInt8)) → Q .none { s with heap := h' }) : wpC (model prog w) A (call (.builtin "bytearray.append") [.ref D, .int (n : Int) t]) Q E s := by
  refine wpC_call_entry (by show heldIds.contains "bytearray.append" = false; decide +kernel) ba_slot_append (ba_type hD) ba_entry_append ?_ (ba_args_append _ _)
  show wpC _ _ (Builtin.Bytes.byteValue (.int (n : Int) t) >>= fun c => Builtin.Bytes.checkResize (.ref D) >>= fun _ => Builtin.Bytes.write (.ref D) (·.push c) >>= fun _ => ret .none) _ _ s
  refine wpC_ahead ?_
  unfold Builtin.Bytes.byteValue
  refine wpAny_bind (wpAny_of_eq (rfl : asIndex (.int (n : Int) t) = pure (n : Int)) ?_)
  refine bm_if_false (by simp only [Bool.or_eq_false_iff, decide_eq_false_iff_not]; omega) ?_
  refine wpAny_pure ?_
  refine wpC_bind (ba_checkResize hD ?_)
  refine wpC_of_any (wpAny_bind ?_)
  show wpAny _ _ (updateBytearray D _) _ _ _
  refine ba_update hD ?_ fun h' hs hg => ?_
  · simp only [Array.size_push]; omega
  · exact wpAny_pure ⟨_, rfl, h h' hs hg⟩
theorem ba_reverse {D : Addr} {b : Array UInt8} {Q : Value → Shared → Prop} (hD : s.heap.get? D = some (baObj b)) (hz : b.size ≤ sizeLine)
    (h : ∀ h', Heap.SameBut D s.heap h' → h'.get? D = some (baObj b.reverse) → Q .none { s with heap := h' }) : wpAny (model prog w) A (call (.builtin "bytearray.reverse") [.ref D]) Q E s := by
  refine wpAny_call_entry ba_slot_reverse (ba_type hD) ba_entry_reverse ?_ (ba_args_reverse _)
  show wpAny _ _ (Builtin.Bytes.write (.ref D) (·.reverse) >>= fun _ => ret .none) _ _ s
  refine wpAny_bind ?_
  show wpAny _ _ (updateBytearray D _) _ _ _
  refine ba_update hD (by simpa using hz) fun h' hs hg => ?_
  exact wpAny_pure ⟨_, rfl, h h' hs hg⟩
theorem ba_len_body {D : Addr} {b : Array UInt8} {Q : Value → Shared → Prop} (hD : s.heap.get? D = some (baObj b)) (hfit : (b.size : Int) < 2 ^ 63)
    (h : Q (.int b.size (s.toks + 1)) { s with toks := s.toks + 1 + 1 }) : wpAny (model prog w) A (Builtin.«len» ⟨[.ref D], []⟩) (fun fin s' => ∃ r, fin = .done (.ret r) ∧ Q r s') E s := by
  unfold Builtin.«len»
  refine wpAny_bind (m := oneArg "len" _) (wpAny_pure ?_)
  refine wpAny_bind (m := callSpecial? (.ref D) (Str.ofString "__len__")) (wpAny_callSpecial?_slot (name := Str.ofString "__len__") (ba_type hD) ba_slot_len
    (wpAny_call_entry ba_slot_len (ba_type hD) ba_entry_len ?_ (ba_args_len _)))
  show wpAny _ _ (do retInt (← Builtin.Bytes.payload (.ref D)).size) _ _ s
  unfold Builtin.Bytes.payload Builtin.Bytes.payload?
  refine wpAny_bind (wpAny_bind (wpAny_bind (wpAny_load hD ?_)))
  refine wpAny_pure (wpAny_pure (wpAny_bind (wpAny_mkInt (wpAny_pure ⟨_, rfl, ?_⟩))))
  refine wpAny_bind (wpAny_holding (wpAny_pure ?_))
  refine wpAny_bind (wpAny_letGo ?_)
  show wpAny _ _ (if ((b.size : Nat) : Int) < 0 then _ else _) _ _ _
  rw [if_neg (by omega)]
  show wpAny _ _ (if ((b.size : Nat) : Int) ≥ 2 ^ 63 then _ else _) _ _ _
  rw [if_neg (by omega)]
  exact wpAny_bind (wpAny_mkInt (wpAny_pure ⟨_, rfl, h⟩))
theorem ba_truthy {D : Addr} {b : Array UInt8} {Q : Bool → Shared → Prop} (hD : s.heap.get? D = some (baObj b)) (hfit : (b.size : Int) < 2 ^ 63)
    (h : Q (decide (b.size ≠ 0)) { s with toks := s.toks + 1 + 1 }) : wpAny (model prog w) A (truthy (.ref D)) Q E s := by
  have hne : ((b.size : Int) != 0) = decide (b.size ≠ 0) := by
    by_cases hz : b.size = 0
    · rw [hz]; rfl
    · rw [decide_eq_true hz]
      exact bne_iff_ne.mpr (by omega)
  have key : wpAny (model prog w) A (runValue (.builtin "len" ⟨[.ref D], []⟩)) (fun r s' => r = .int b.size (s.toks + 1) ∧ Q (decide (b.size ≠ 0)) s') E s := by
    refine wpAny_runValue (codeAny_builtin entry_len ?_)
    rw [Around.under_plainId plain_len _]
    exact wpAny_mono (ba_len_body (Q := fun r s' => r = .int b.size (s.toks + 1) ∧ Q (decide (b.size ≠ 0)) s') hD hfit ⟨rfl, h⟩)
      (fun fin s' h' => by obtain ⟨r, rfl, hq⟩ := h'; exact hq) fun _ _ e => e
  have hT := ba_type (s := s) hD
  unfold truthy
  first
    | refine wpAny_bind (wpAny_callSpecial?_none (name := Str.ofString "__bool__") hT ba_noBool ?_)
    | refine wpAny_bind (wpAny_pure (wpAny_bind (wpAny_callSpecial?_none (name := Str.ofString "__bool__") hT ba_noBool ?_)))
  first
    | refine wpAny_bind (wpAny_specialOf (name := Str.ofString "__len__") hT ba_slot_len.lookup ?_)
    | refine wpAny_bind (wpAny_pure (wpAny_bind (wpAny_specialOf (name := Str.ofString "__len__") hT ba_slot_len.lookup ?_)))
  first
    | exact wpAny_bind (wpAny_mono key (fun r s' h' => by obtain ⟨rfl, hq⟩ := h'; exact wpAny_pure (hne ▸ hq)) fun _ _ e => e)
    | exact wpAny_bind (wpAny_pure (wpAny_bind (wpAny_mono key (fun r s' h' => by obtain ⟨rfl, hq⟩ := h'; exact wpAny_pure (hne ▸ hq)) fun _ _ e => e)))
end
end Mine
end

section
open PySem PySem.W PyProof.Rows PySem.Calls
open Sem (wp)
namespace Mine
section
variable {prog : Program} {w : World} {M : Model} {A : Around} {E : Value → Shared → Prop} {s : Shared}
theorem ba_new {Q₁ : Value → Shared → Prop} (h : Q₁ (.ref s.heap.objs.size) { s with heap := s.heap.push (baObj #[]) }) :
    codeAny (model prog w) A (.call (.builtin "bytearray.__new__") ⟨[.type "bytearray"], []⟩) (wants Q₁ E) s := by
  refine codeAny_of_tree ?_
  show wpAny _ A.in1 (do checkBuiltinCall "bytearray.__new__" ⟨[.type "bytearray"], []⟩; again (.builtin "bytearray.__new__" ⟨[.type "bytearray"], []⟩)) _ _ s
  refine wpAny_bind (wpAny_of_eq ba_newCall (wpAny_pure ⟨plainId_quiet ba_plain_new _, codeAny_builtin_stack ba_entry_new rfl fun p st => ?_⟩))
  rw [Around.under_plainId ba_plain_new _]
  have hsub := ba_sub
  have hown := ba_owner_new
  obtain ⟨hp, g, d, tk, os⟩ := s
  simp only [hown]
  wp_walk
  exact h
theorem codeC_builtin {id : String} {args : Args} {b : Builtin} {R : Result → Shared → Prop} (hold : holdsMem (.builtin id args) = false) (hb : entryFor table id = some b)
    (h : wpC (model prog w) (A.under (.builtin id args)) (b args)
      (fun fin s' => match fin with | .done f => R (.ok f) s' | .again c' => c'.quiet = true ∧ codeC (model prog w) A c' R s') (fun e s' => R (.error e) s') s) :
    codeC (model prog w) A (.builtin id args) R s := by
  refine codeC_of_tree hold ?_
  show wpC _ _ (match entryFor table id with | some b => b args | none => unsupported ((withoutEnding? id "#data").getD id)) _ _ s
  rw [hb]; exact h
theorem callSpecial_C {self : Value} {T : String} {name : Str} {id : String} {args : List Value} {kw : List (Str × Value)}
    {Q : Option Value → Shared → Prop} (hT : s.TypeIs self T) (h : Slot T name id)
    (hc : wpC M A (call (.builtin id) (self :: args) kw) (fun v => Q (some v)) E s) : wpC M A (callSpecial? self name args kw) Q E s := by
  simp only [callSpecial?]
  refine wpC_ahead (wpAny_specialOf hT h.lookup ?_)
  simp only [h.bind]
  exact wpC_holding (wpC_ahead (wpAny_pure (wpC_bind (wpC_mono hc (fun v s' h' => wpC_pure h') fun _ _ h' => h'))))
theorem ba_bind : Builtin.Bytes.bindOptional "bytearray.__init__" "bytearray" ["source", "encoding", "errors"] [] [] = pure [none, none, none] := by kernel_rfl
theorem ba_releaseOwn {D : Addr} {b : Array UInt8} {Q : Bool → Shared → Prop} (hD : s.heap.get? D = some (baObj b)) (h : Q false s) : wpAny M A (Builtin.Bytes.ownRelease (.ref D)) Q E s := by
  unfold Builtin.Bytes.ownRelease Builtin.Bytes.slotIsOwn
  refine wpAny_bind (wpAny_bind (wpAny_specialOf (ba_type hD) ba_release ?_))
  refine bm_if_false (by decide +kernel) ?_
  refine wpAny_isInstance (T := "bytearray") (b := true) (ba_type hD) ?_ ?_
  · rw [show ("bytearray.__release_buffer__".dropRight ("__release_buffer__".length + 1)) = "bytearray" by decide +kernel]
    exact ba_sub
  · exact wpAny_pure h
theorem ba_init {D : Addr} {Q : Value → Shared → Prop} (hD : s.heap.get? D = some (baObj #[])) (h : ∀ h', Heap.SameBut D s.heap h' → h'.get? D = some (baObj #[]) → Q .none { s with heap := h' }) :
    wpC (model prog w) A (call (.builtin "bytearray.__init__") [.ref D]) Q E s := by
  refine wpC_call_entry (by show heldIds.contains "bytearray.__init__" = false; decide +kernel) ba_slot_init (ba_type hD) ba_entry_init ?_ (ba_args_init _)
  unfold Builtin.«bytearray.__init__»
  refine wpC_ahead (ba_releaseOwn hD ?_)
  simp only [Bool.false_eq_true, if_false]
  refine wpC_ahead (wpAny_of_eq ba_bind ?_)
  refine wpC_ahead (wpAny_of_eq (a := ()) rfl ?_)
  refine wpC_ahead (wpAny_of_eq (a := ()) rfl ?_)
  refine wpC_bind (m := Builtin.Bytes.exported (.ref D) <||> _) ?_
  refine wpC_bind (wpC_exported ?_)
  refine wpC_of_any ?_
  show wpAny _ _ (Builtin.Bytes.exportsOf (.ref D) >>= fun n => pure (decide (n > 0))) _ _ _
  refine wpAny_bind (ba_exportsOf hD (wpAny_pure ?_))
  rw [if_neg (by decide)]
  refine wpC_of_any (wpAny_bind ?_)
  show wpAny _ _ (updateBytearray D _) _ _ _
  refine ba_update hD (Nat.zero_le _) fun h' hs hg => ?_
  simp only [Option.isSome_none, Bool.false_eq_true, if_false]
  exact wpAny_bind (wpAny_pure (wpAny_pure ⟨_, rfl, h h' hs hg⟩))
theorem ba_call {Q : Value → Shared → Prop} (h : ∀ h', (∀ b o, s.heap.get? b = some o → h'.get? b = some o) → h'.get? s.heap.objs.size = some (baObj #[]) → Q (.ref s.heap.objs.size) { s with heap := h' }) : wpC (model prog w) A (call (.type "bytearray") []) Q E s := by
  have ft := ba_called
  obtain ⟨c, tl, hmro⟩ := ft.mro
  have hmade := ft.made
  have hsub := ft.sub
  have hct := ba_typeCall
  refine wpC_call (codeC_of_tree rfl ?_)
  show wpC _ _ (callAny (.type "bytearray") _) _ _ _
  refine wpC_pure ⟨Code.quiet_builtin _ (by decide +kernel), codeC_builtin (by show heldIds.contains "type.__call__" = false; decide +kernel) F.entry_type_call ?_⟩
  rw [Around.under_plain (weight_type_call_type "bytearray" [] []) rfl]
  have h1 := ft.notType
  have h2 := ft.canCreate
  unfold Builtin.«type.__call__»
  simp only [h1, h2, Bool.false_eq_true, if_false]
  refine wpC_ahead (wpAny_of_eq hct ?_)
  refine wpC_ahead (wpAny_of_eq hmro ?_)
  simp only [List.isEmpty_cons, Bool.false_eq_true, if_false]
  refine wpC_ahead (wpAny_of_eq hmade ?_)
  refine wpC_ahead (wpAny_pure ?_)
  refine wpC_ahead (wpAny_holding (wpAny_call (codeAny_mono (ba_new (E := fun e s' => E e s') (Q₁ := fun obj s₁ => obj = .ref s.heap.objs.size ∧ s₁ = { s with heap := s.heap.push (baObj #[]) }) ⟨rfl, rfl⟩) fun r s₁ hr => ?_)))
  cases r with
  | error e => exact hr
  | ok fl =>
    cases fl with
    | ret obj =>
      obtain ⟨rfl, rfl⟩ := hr
      have hD : ({ s with heap := s.heap.push (baObj #[]) } : Shared).heap.get? s.heap.objs.size = some (baObj #[]) := Heap.get?_push_size _ rfl
      show wpC _ _ _ _ _ _
      refine wpC_ahead (wpAny_isInstance (T := "bytearray") (b := true) (ba_type hD) hsub ?_)
      simp only [Bool.not_true, Bool.false_eq_true, if_false]
      refine wpC_bind (wpC_holding (callSpecial_C (ba_type hD) ba_slot_init (ba_init hD fun h' hs hg => ?_)))
      dsimp only
      refine wpC_of_any ?_
      rw [if_neg (by decide)]
      exact wpAny_pure (h h' (fun b o e => hs.extBut b o (Nat.ne_of_lt (Heap.lt_size e)) (Heap.get?_push_of_some _ e)) hg)
    | _ => exact hr.elim
end
end Mine
end

section
open PySem PySem.W PyProof.Rows PySem.Calls
open Sem (wp)
namespace Mine
section
variable {prog : Program} {w : World} {M : Model} {A : Around} {E : Value → Shared → Prop} {s : Shared}
theorem ba_slotOwn {D : Addr} {b : Array UInt8} {Q : Bool → Shared → Prop} (hD : s.heap.get? D = some (baObj b)) (h : Q true s) : wpAny M A (Builtin.Bytes.slotIsOwn (.ref D) "__buffer__") Q E s := by
  unfold Builtin.Bytes.slotIsOwn
  refine wpAny_bind (wpAny_specialOf (ba_type hD) ba_buffer ?_)
  refine bm_if_false (by decide +kernel) ?_
  refine wpAny_isInstance (T := "bytearray") (b := true) (ba_type hD) ?_ ?_
  · rw [show ("bytearray.__buffer__".dropRight ("__buffer__".length + 1)) = "bytearray" by decide +kernel]
    exact ba_sub
  · exact h
theorem call_bytes_ba {D : Addr} {b : Array UInt8} {Q : Value → Shared → Prop} (hD : s.heap.get? D = some (baObj b)) (hz : b.size ≤ sizeLine) (hQ : ∀ t k, Q (.bytes b t) { s with toks := k }) :
    wpAny (model prog w) A (call (.type "bytes") [.ref D]) Q E s := by
  refine callType_codes (Q₁ := fun obj s₁ => s₁.TypeIs obj "bytes" ∧ Q obj s₁) F.bm_called (F.bm_typeCall _) F.entry_object_init ?_ fun obj s₁ h₁ => ?_
  · refine codeAny_of_tree ?_
    show wpAny _ A.in1.in1 (do checkBuiltinCall "bytes.__new__" ⟨[.type "bytes", .ref D], []⟩; again (.builtin "bytes.__new__" ⟨[.type "bytes", .ref D], []⟩)) _ _ s
    refine wpAny_bind (wpAny_of_eq (F.bm_newCall _) (wpAny_pure ⟨plainId_quiet F.bm_plain _, codeAny_builtin F.bm_entry ?_⟩))
    rw [Around.under_plainId F.bm_plain _]
    have hT := ba_type (s := s) hD
    unfold Builtin.«bytes.__new__»
    refine wpAny_bind (wpAny_of_eq (a := true) rfl ?_)
    refine bm_if_false rfl ?_
    refine wpAny_bind (wpAny_of_eq F.bm_sub ?_)
    refine bm_if_false rfl ?_
    refine wpAny_bind (wpAny_of_eq (F.bm_bind _) ?_)
    refine wpAny_bind (wpAny_of_eq (a := ()) rfl ?_)
    refine wpAny_bind (wpAny_of_eq (a := ()) rfl ?_)
    refine bm_if_false rfl ?_
    refine wpAny_bind (wpAny_specialOf hT ba_bytes ?_)
    refine wpAny_bind (wpAny_bind ?_)
    show wpAny _ _ (load D >>= _) _ _ _
    refine wpAny_bind (wpAny_load hD ?_)
    refine wpAny_pure (wpAny_pure ?_)
    refine bm_if_false rfl ?_
    refine wpAny_bind (wpAny_specialOf hT ba_index ?_)
    refine bm_if_true rfl ?_
    first
      | show wpAny _ _ (Builtin.Bytes.buffer? "bytes.__new__" (.ref D) true >>= _) _ _ _
      | (refine wpAny_bind ?_; show wpAny _ _ (Builtin.Bytes.buffer? "bytes.__new__" (.ref D) true >>= _) _ _ _)
    refine wpAny_bind ?_
    unfold Builtin.Bytes.buffer?
    refine wpAny_bind (wpAny_specialOf hT ba_buffer ?_)
    refine wpAny_bind (ba_slotOwn hD ?_)
    refine bm_if_false rfl ?_
    refine wpAny_bind (wpAny_specialOf hT ba_buffer ?_)
    refine wpAny_bind (ba_releaseOwn hD ?_)
    refine bm_if_false rfl ?_
    unfold Builtin.Bytes.payload Builtin.Bytes.payload?
    refine wpAny_bind (wpAny_bind (wpAny_bind (wpAny_load hD (wpAny_pure (wpAny_pure (wpAny_pure ?_))))))
    dsimp only
    refine wpAny_bind (wpAny_rule ?_)
    refine wpAny_bind (wpAny_mkBytes ?_ hz)
    show wpAny _ _ (if (Value.type "bytes" == Value.type "bytes") = true then _ else _) _ _ _
    refine bm_if_true (by decide) ?_
    have fin : ∀ t k, (fun fin s' => match fin with
      | Fin.done f => wants (fun obj s₁ => s₁.TypeIs obj "bytes" ∧ Q obj s₁) E (Except.ok f) s'
      | Fin.again c' => c'.quiet = true ∧ codeAny (model prog w) A.in1 c' (wants (fun obj s₁ => s₁.TypeIs obj "bytes" ∧ Q obj s₁) E) s') (Fin.done (Flow.ret (.bytes b t))) ({ s with toks := k } : Shared) := fun t k => ⟨typeIs_bytes _ _ _, hQ t k⟩
    first
      | exact wpAny_pure (fin _ _)
      | exact wpAny_bind (wpAny_pure (wpAny_pure (fin _ _)))
  · exact ⟨h₁.1, F.args_object_init_2 obj _, object_init_meets F.bm_called.init.lookup F.bm_called.made (by decide) prog w A.in1 _ s₁ ⟨h₁.1, rfl, h₁.2⟩⟩
end
end Mine
end

section
open PySem PySem.W PyProof.Rows PySem.Calls
open Sem (wp)
namespace Mine
section
variable {prog : Program} {w : World} {M : Model} {A : Around} {E : Value → Shared → Prop} {s : Shared} {h₀ : Heap} {L : Addr} {m : Str → Option Value} {news : List (Addr × Obj)}
theorem ba_callN {Q : Value → Shared → Prop} (F : Fr h₀ L s.heap m) (N : News h₀ L s.heap news) (h : ∀ D h', Fr h₀ L h' m → News h₀ L h' ((D, baObj #[]) :: news) → (∀ p ∈ news, p.1 ≠ D) → Q (.ref D) { s with heap := h' }) :
    wpC (model prog w) A (call (.type "bytearray") []) Q E s := by
  refine ba_call fun h' hk hg => h s.heap.objs.size h' (keepF F hk) (fun p hp => ?_) fun p hp e => ?_
  · rcases List.mem_cons.mp hp with rfl | hp
    · exact ⟨hg, fun e => Nat.lt_irrefl _ (e ▸ F.ns.lt), next_is_new F⟩
    · exact (keepN N hk) p hp
  · exact absurd (Heap.lt_size (N p hp).1) (e ▸ Nat.lt_irrefl _)
theorem ba_appendN {D : Addr} {b : Array UInt8} {n : Nat} {t : Tok} {pre post : List (Addr × Obj)} {Q : Value → Shared → Prop} (F : Fr h₀ L s.heap m) (N : News h₀ L s.heap (pre ++ (D, baObj b) :: post)) (h1 : ∀ p ∈ pre, p.1 ≠ D) (h2 : ∀ p ∈ post, p.1 ≠ D) (hn : n < 256) (hz : b.size < 100000)
    (h : ∀ h', Fr h₀ L h' m → News h₀ L h' (pre ++ (D, baObj (b.push n.toUInt8)) :: post) → Q .none { s with heap := h' }) : wpC (model prog w) A (call (.builtin "bytearray.append") [.ref D, .int (n : Int) t]) Q E s := by
  have hm := N (D, baObj b) (List.mem_append_right _ (List.Mem.head _))
  refine ba_append hm.1 hn (Nat.lt_of_lt_of_le hz (by rw [sizeLine_eq]; decide)) fun h' hs hg => h h' (F.change hs hm.2.1 hm.2.2) fun p hp => ?_
  rcases List.mem_append.mp hp with hp | hp
  · have hq := N p (List.mem_append_left _ hp)
    exact ⟨(hs.2 p.1 (h1 p hp)).trans hq.1, hq.2⟩
  · rcases List.mem_cons.mp hp with rfl | hp
    · exact ⟨hg, hm.2⟩
    · have hq := N p (List.mem_append_right _ (List.mem_cons_of_mem _ hp))
      exact ⟨(hs.2 p.1 (h2 p hp)).trans hq.1, hq.2⟩
theorem ba_reverseN {D : Addr} {b : Array UInt8} {pre post : List (Addr × Obj)} {Q : Value → Shared → Prop} (F : Fr h₀ L s.heap m) (N : News h₀ L s.heap (pre ++ (D, baObj b) :: post)) (h1 : ∀ p ∈ pre, p.1 ≠ D) (h2 : ∀ p ∈ post, p.1 ≠ D) (hz : b.size < 100000)
    (h : ∀ h', Fr h₀ L h' m → News h₀ L h' (pre ++ (D, baObj b.reverse) :: post) → Q .none { s with heap := h' }) : wpAny (model prog w) A (call (.builtin "bytearray.reverse") [.ref D]) Q E s := by
  have hm := N (D, baObj b) (List.mem_append_right _ (List.Mem.head _))
  refine ba_reverse hm.1 (Nat.le_of_lt (Nat.lt_of_lt_of_le hz (by rw [sizeLine_eq]; decide))) fun h' hs hg => h h' (F.change hs hm.2.1 hm.2.2) fun p hp => ?_
  rcases List.mem_append.mp hp with hp | hp
  · have hq := N p (List.mem_append_left _ hp)
    exact ⟨(hs.2 p.1 (h1 p hp)).trans hq.1, hq.2⟩
  · rcases List.mem_cons.mp hp with rfl | hp
    · exact ⟨hg, hm.2⟩
    · have hq := N p (List.mem_append_right _ (List.mem_cons_of_mem _ hp))
      exact ⟨(hs.2 p.1 (h2 p hp)).trans hq.1, hq.2⟩
end
end Mine
end

section
open PySem PySem.W PyProof.Rows PySem.Calls
namespace Mine
/-- a number told by its digits to the base 58, the lowest first -/
def lowNum : List Nat → Nat
  | [] => 0
  | d :: r => d + 58 * lowNum r
theorem lowNum_concat : ∀ (D : List Nat) (d : Nat), lowNum (D ++ [d]) = lowNum D + d * 58 ^ D.length
  | [], d => by simp [lowNum]
  | c :: r, d => by
    show c + 58 * lowNum (r ++ [d]) = c + 58 * lowNum r + d * 58 ^ (r.length + 1)
    have e : 58 * (d * 58 ^ r.length) = d * 58 ^ (r.length + 1) := by rw [Nat.pow_succ, ← Nat.mul_assoc d, Nat.mul_comm]
    rw [lowNum_concat r d, Nat.mul_add, e]
    omega
theorem lowNum_lt : ∀ (D : List Nat), (∀ d ∈ D, d < 58) → lowNum D < 58 ^ D.length
  | [], _ => by simp [lowNum]
  | c :: r, h => by
    have h1 := lowNum_lt r fun d hd => h d (List.mem_cons_of_mem _ hd)
    have h2 := h c (List.Mem.head _)
    show c + 58 * lowNum r < 58 ^ (r.length + 1)
    rw [Nat.pow_succ]
    omega
@[irreducible] def digArr (D : List Nat) : Array UInt8 := (D.map Nat.toUInt8).toArray
theorem digArr_push (D : List Nat) (d : Nat) : (digArr D).push d.toUInt8 = digArr (D ++ [d]) := by unfold digArr; simp
theorem digArr_nil : (#[] : Array UInt8) = digArr [] := by unfold digArr; rfl
theorem digArr_size (D : List Nat) : (digArr D).size = D.length := by unfold digArr; simp
theorem digArr_reverse (D : List Nat) : (digArr D).reverse = digArr D.reverse := by unfold digArr; simp
/-- the digits so far and what is left -/
structure DigInv (n i : Nat) (D : List Nat) : Prop where
  small : ∀ d ∈ D, d < 58
  num : lowNum D + i * 58 ^ D.length = n
/-- in the cut of ten: j of them are done -/
structure CutInv (n i c j : Nat) (D : List Nat) : Prop where
  small : ∀ d ∈ D, d < 58
  lt : c < 58 ^ (10 - j)
  num : lowNum D + c * 58 ^ D.length + i * 58 ^ (D.length + (10 - j)) = n
theorem DigInv.start {n : Nat} : DigInv n n [] := ⟨fun _ h => (nomatch h), by simp [lowNum]⟩
theorem DigInv.step {n i : Nat} {D : List Nat} (h : DigInv n i D) : DigInv n (i / 58) (D ++ [i % 58]) := by
  refine ⟨fun d hd => ?_, ?_⟩
  · rcases List.mem_append.mp hd with hd | hd
    · exact h.small d hd
    · rw [List.mem_singleton.mp hd]; omega
  · rw [lowNum_concat, List.length_append, List.length_singleton, Nat.pow_succ, ← h.num, Nat.add_assoc, Nat.mul_comm (58 ^ D.length) 58, ← Nat.mul_assoc, ← Nat.add_mul]
    congr 2
    omega
theorem DigInv.cut {n i : Nat} {D : List Nat} (h : DigInv n i D) : CutInv n (i / 58 ^ 10) (i % 58 ^ 10) 0 D := by
  refine ⟨h.small, Nat.mod_lt _ (by decide), ?_⟩
  rw [Nat.pow_add, ← Nat.mul_assoc, Nat.mul_right_comm, Nat.add_assoc, ← Nat.add_mul, ← h.num]
  congr 2
  have := Nat.div_add_mod i (58 ^ 10)
  rw [show 10 - 0 = 10 by rfl, Nat.mul_comm (i / 58 ^ 10)]
  omega
theorem CutInv.step {n i c j : Nat} {D : List Nat} (h : CutInv n i c j D) (hj : j < 10) : CutInv n i (c / 58) (j + 1) (D ++ [c % 58]) := by
  refine ⟨fun d hd => ?_, ?_, ?_⟩
  · rcases List.mem_append.mp hd with hd | hd
    · exact h.small d hd
    · rw [List.mem_singleton.mp hd]; omega
  · have := h.lt
    rw [show 10 - j = (10 - (j + 1)) + 1 by omega, Nat.pow_succ] at this
    exact Nat.div_lt_of_lt_mul (by rw [Nat.mul_comm]; exact this)
  · rw [lowNum_concat, List.length_append, List.length_singleton, ← h.num, show D.length + 1 + (10 - (j + 1)) = D.length + (10 - j) by omega]
    congr 1
    rw [Nat.add_assoc, Nat.pow_succ, Nat.mul_comm (58 ^ D.length) 58, ← Nat.mul_assoc, ← Nat.add_mul]
    congr 2
    omega
theorem CutInv.done {n i c : Nat} {D : List Nat} (h : CutInv n i c 10 D) : DigInv n i D := by
  refine ⟨h.small, ?_⟩
  have h1 := h.lt
  have h2 := h.num
  rw [show 10 - 10 = 0 by rfl, Nat.pow_zero] at h1
  have : c = 0 := by omega
  subst this
  simpa using h2
theorem len_of_pow {n k : Nat} (h : 58 ^ k ≤ n) (hn : n < 2 ^ 900) : k < 900 := by
  have h1 : 2 ^ k ≤ 58 ^ k := Nat.pow_le_pow_left (by decide) k
  exact (Nat.pow_lt_pow_iff_right (by decide)).mp (Nat.lt_of_le_of_lt (Nat.le_trans h1 h) hn)
theorem DigInv.len {n i : Nat} {D : List Nat} (h : DigInv n i D) (hi : 1 ≤ i) (hn : n < 2 ^ 900) : D.length < 900 := by
  refine len_of_pow ?_ hn
  rw [← h.num]
  have : 1 * 58 ^ D.length ≤ i * 58 ^ D.length := Nat.mul_le_mul_right _ hi
  omega
theorem CutInv.len {n i c j : Nat} {D : List Nat} (h : CutInv n i c j D) (hi : 1 ≤ i) (hn : n < 2 ^ 900) : D.length < 900 := by
  refine len_of_pow ?_ hn
  rw [← h.num]
  have h1 : 1 * 58 ^ (D.length + (10 - j)) ≤ i * 58 ^ (D.length + (10 - j)) := Nat.mul_le_mul_right _ hi
  have h2 : 58 ^ D.length ≤ 58 ^ (D.length + (10 - j)) := Nat.pow_le_pow_right (by decide) (by omega)
  omega
theorem fdiv_chunk (i : Nat) : (i : Int).fdiv 430804206899405824 = ((i / 58 ^ 10 : Nat) : Int) := by
  rw [Int.fdiv_eq_ediv_of_nonneg _ (by decide), show (430804206899405824 : Int) = ((58 ^ 10 : Nat) : Int) by decide]
  exact (Int.natCast_ediv i (58 ^ 10)).symm
theorem fmod_chunk (i : Nat) : (i : Int).fmod 430804206899405824 = ((i % 58 ^ 10 : Nat) : Int) := by
  rw [Int.fmod_eq_emod_of_nonneg _ (by decide), show (430804206899405824 : Int) = ((58 ^ 10 : Nat) : Int) by decide]
  exact (Int.natCast_emod i (58 ^ 10)).symm
theorem fdiv_sign (i : Nat) : (i : Int).fdiv 58 = ((i / 58 : Nat) : Int) := by
  rw [Int.fdiv_eq_ediv_of_nonneg _ (by decide)]
  exact (Int.natCast_ediv i 58).symm
theorem fmod_sign (i : Nat) : (i : Int).fmod 58 = ((i % 58 : Nat) : Int) := by
  rw [Int.fmod_eq_emod_of_nonneg _ (by decide)]
  exact (Int.natCast_emod i 58).symm
theorem lowNum_ge {D : List Nat} {d : Nat} (h : D.getLast? = some d) (hd : d ≠ 0) : 58 ^ (D.length - 1) ≤ lowNum D := by
  obtain ⟨D', rfl⟩ : ∃ D', D = D' ++ [d] := by
    have := List.getLast?_eq_some_iff.mp h
    obtain ⟨ys, e⟩ := this
    exact ⟨ys, e⟩
  rw [lowNum_concat, List.length_append, List.length_singleton, Nat.add_sub_cancel]
  have : 1 * 58 ^ D'.length ≤ d * 58 ^ D'.length := Nat.mul_le_mul_right _ (by omega)
  omega
theorem DigInv.len0 {n d : Nat} {D : List Nat} (h : DigInv n 0 D) (hl : D.getLast? = some d) (hd : d ≠ 0) (hn : n < 2 ^ 900) : 1 ≤ D.length ∧ D.length ≤ 900 := by
  have h1 := lowNum_ge hl hd
  have h2 := h.num
  rw [Nat.zero_mul, Nat.add_zero] at h2
  have h3 := len_of_pow (h2 ▸ h1) hn
  refine ⟨?_, by omega⟩
  cases D with
  | nil => simp at hl
  | cons _ _ => simp
end Mine
end

section
open PySem PySem.W PyProof.Rows PySem.Calls
namespace Mine
/-- the digits of a number to the base 58, the lowest first -/
def digs (n : Nat) : List Nat := if h : n = 0 then [] else n % 58 :: digs (n / 58)
termination_by n
decreasing_by exact Nat.div_lt_self (by omega) (by decide)
theorem digs_zero : digs 0 = [] := by rw [digs]; simp
theorem digs_pos {n : Nat} (h : n ≠ 0) : digs n = n % 58 :: digs (n / 58) := by rw [digs]; simp [h]
theorem lowNum_digs (n : Nat) : lowNum (digs n) = n := by
  induction n using Nat.strongRecOn with
  | ind n ih =>
    by_cases h : n = 0
    · subst h; rw [digs_zero]; rfl
    · rw [digs_pos h]
      show n % 58 + 58 * lowNum (digs (n / 58)) = n
      rw [ih (n / 58) (Nat.div_lt_self (by omega) (by decide))]
      omega
theorem digs_small (n : Nat) : ∀ d ∈ digs n, d < 58 := by
  induction n using Nat.strongRecOn with
  | ind n ih =>
    by_cases h : n = 0
    · subst h; rw [digs_zero]; intro d hd; cases hd
    · rw [digs_pos h]
      intro d hd
      rcases List.mem_cons.mp hd with rfl | hd
      · omega
      · exact ih (n / 58) (Nat.div_lt_self (by omega) (by decide)) d hd
theorem lowNum_pos {D : List Nat} {d : Nat} (h : D.getLast? = some d) (hd : d ≠ 0) : lowNum D ≠ 0 := by
  have := lowNum_ge h hd
  have h2 : 0 < 58 ^ (D.length - 1) := Nat.pow_pos (by decide)
  omega
theorem digs_unique : ∀ (D : List Nat), (∀ d ∈ D, d < 58) → (∀ d, D.getLast? = some d → d ≠ 0) → D = digs (lowNum D)
  | [], _, _ => by show [] = digs 0; rw [digs_zero]
  | c :: r, h, hl => by
    have hc := h c (List.Mem.head _)
    have hne : lowNum (c :: r) ≠ 0 := by
      cases hg : (c :: r).getLast? with
      | none => simp at hg
      | some d => exact lowNum_pos hg (hl d hg)
    have e : lowNum (c :: r) = c + 58 * lowNum r := rfl
    rw [digs_pos hne, e]
    have e1 : (c + 58 * lowNum r) % 58 = c := by omega
    have e2 : (c + 58 * lowNum r) / 58 = lowNum r := by omega
    rw [e1, e2]
    congr 1
    refine digs_unique r (fun d hd => h d (List.mem_cons_of_mem _ hd)) fun d hd => hl d ?_
    cases r with
    | nil => simp at hd
    | cons x y => rw [List.getLast?_cons_cons]; exact hd
theorem digs_of {n d : Nat} {D : List Nat} (h1 : ∀ d ∈ D, d < 58) (h2 : lowNum D = n) (h3 : D.getLast? = some d) (h4 : d ≠ 0) : D = digs n := by
  rw [← h2]
  exact digs_unique D h1 fun d' hd' => by rw [h3] at hd'; exact (Option.some.inj hd') ▸ h4
theorem num_step (l : List UInt8) (a : Nat) : l.foldl (fun (acc : Nat) (b : UInt8) => acc * 256 + b.toNat) a = a * 256 ^ l.length + l.foldl (fun (acc : Nat) (b : UInt8) => acc * 256 + b.toNat) 0 := by
  induction l generalizing a with
  | nil => simp
  | cons c r ih =>
    rw [List.foldl_cons, List.foldl_cons, ih (a * 256 + c.toNat), ih (0 * 256 + c.toNat), List.length_cons, Nat.pow_succ, Nat.add_mul, Nat.zero_mul, Nat.zero_add, Nat.mul_assoc, Nat.mul_comm 256, Nat.add_assoc]
theorem num_cons (c : UInt8) (l : List UInt8) : num (c :: l).toArray = c.toNat * 256 ^ l.length + num l.toArray := by
  unfold num
  show List.foldl _ 0 (c :: l) = _
  rw [List.foldl_cons, num_step]
  simp
theorem lstrip_head {b : Array UInt8} {z c : UInt8} {r : List UInt8} (h : lstrip b #[z] = (c :: r).toArray) : c ≠ z := by
  unfold lstrip at h
  have h' : b.toList.dropWhile (#[z] : Array UInt8).contains = c :: r := by
    have := congrArg Array.toList h
    simpa using this
  have hh := List.head?_dropWhile_not (#[z] : Array UInt8).contains b.toList
  rw [h'] at hh
  simp at hh
  exact hh
theorem num_lstrip_pos {b : Array UInt8} (h : (lstrip b #[0]).size ≠ 0) : 1 ≤ num (lstrip b #[0]) := by
  generalize hl : lstrip b #[0] = l at h
  obtain ⟨L⟩ := l
  cases L with
  | nil => exact absurd rfl h
  | cons c r =>
    have hc := lstrip_head hl
    rw [num_cons]
    have h1 : c.toNat ≠ 0 := fun e => hc (UInt8.toNat_inj.mp e)
    have h2 : 1 ≤ c.toNat * 256 ^ r.length := Nat.mul_pos (by omega) (Nat.pow_pos (by decide))
    omega
set_option exponentiation.threshold 2000 in
theorem num_lstrip_lt {b : Array UInt8} (hb : b.size ≤ 100) : num (lstrip b #[0]) < 2 ^ 900 := by
  have h1 := num_lt (lstrip b #[0])
  have h2 : 256 ^ (lstrip b #[0]).size ≤ 256 ^ 100 := Nat.pow_le_pow_right (by decide) (Nat.le_trans (lstrip_size _ _) hb)
  exact Nat.lt_of_lt_of_le (Nat.lt_of_lt_of_le h1 h2) (by decide)
/-- the signs of octets, as bytes -/
@[irreducible] def encoded (b : Array UInt8) : Array UInt8 :=
  (List.replicate (b.size - (lstrip b #[0]).size) (49 : UInt8)).toArray ++ translated (digArr (digs (num (lstrip b #[0]))).reverse) charTab
theorem encoded_none {b : Array UInt8} (h : (lstrip b #[0]).size = 0) : (List.replicate (b.size - (lstrip b #[0]).size) (49 : UInt8)).toArray = encoded b := by
  have e : num (lstrip b #[0]) = 0 := by
    have := num_lt (lstrip b #[0])
    rw [h] at this
    omega
  have e2 : translated (digArr (digs (num (lstrip b #[0]))).reverse) charTab = #[] := by
    rw [e, digs_zero, List.reverse_nil, ← digArr_nil]
    unfold translated
    exact Array.map_empty
  unfold encoded
  rw [e2, Array.append_empty]
theorem encoded_some {b : Array UInt8} {D : List Nat} {d : Nat} (h1 : ∀ d ∈ D, d < 58) (h2 : lowNum D = num (lstrip b #[0])) (h3 : D.getLast? = some d) (h4 : d ≠ 0) :
    (List.replicate (b.size - (lstrip b #[0]).size) (49 : UInt8)).toArray ++ translated (digArr D.reverse) charTab = encoded b := by
  rw [digs_of h1 h2 h3 h4]
  unfold encoded
  rfl
end Mine
end

section
open PySem PySem.W PyProof.Rows PySem.Calls
namespace Mine
/-- a number told by its octets, the highest first -/
def valB (l : List Nat) : Nat := l.foldl (fun a x => a * 256 + x) 0
theorem valB_nil : valB [] = 0 := rfl
theorem valB_concat (l : List Nat) (x : Nat) : valB (l ++ [x]) = valB l * 256 + x := by unfold valB; rw [List.foldl_append]; rfl
theorem valB_fold (l : List Nat) (a : Nat) : l.foldl (fun a x => a * 256 + x) a = a * 256 ^ l.length + valB l := by
  induction l generalizing a with
  | nil => simp [valB]
  | cons c r ih =>
    rw [List.foldl_cons, ih]
    unfold valB
    rw [List.foldl_cons]
    show _ = _ + List.foldl (fun a x => a * 256 + x) (0 * 256 + c) r
    rw [ih (0 * 256 + c), List.length_cons, Nat.pow_succ, Nat.add_mul, Nat.zero_mul, Nat.zero_add, Nat.mul_assoc, Nat.mul_comm 256, Nat.add_assoc]
    rfl
theorem valB_cons (x : Nat) (l : List Nat) : valB (x :: l) = x * 256 ^ l.length + valB l := by
  unfold valB
  rw [List.foldl_cons]
  show List.foldl (fun a x => a * 256 + x) (0 * 256 + x) l = _
  rw [valB_fold, Nat.zero_mul, Nat.zero_add]
  rfl
theorem valB_zero_cons (l : List Nat) : valB (0 :: l) = valB l := by rw [valB_cons, Nat.zero_mul, Nat.zero_add]
theorem num_valB (b : Array UInt8) : num b = valB (b.toList.map UInt8.toNat) := by
  unfold num valB
  rw [List.foldl_map]
theorem valB_eq_zero : ∀ {l : List Nat}, valB l = 0 → l = List.replicate l.length 0
  | [], _ => rfl
  | x :: l, h => by
    rw [valB_cons] at h
    have h1 : x * 256 ^ l.length = 0 := by omega
    have h2 : valB l = 0 := by omega
    have hp : 0 < 256 ^ l.length := Nat.pow_pos (by decide)
    have hx : x = 0 := by
      rcases Nat.mul_eq_zero.mp h1 with h | h
      · exact h
      · omega
    rw [hx, List.length_cons, List.replicate_succ, ← valB_eq_zero h2]
theorem valB_replicate (n : Nat) : valB (List.replicate n 0) = 0 := by
  induction n with
  | zero => rfl
  | succ n ih => rw [List.replicate_succ, valB_zero_cons, ih]
theorem valB_lt : ∀ (l : List Nat), (∀ z ∈ l, z < 256) → valB l < 256 ^ l.length
  | [], _ => by simp [valB]
  | x :: l, h => by
    have h1 := valB_lt l fun z hz => h z (List.mem_cons_of_mem _ hz)
    have h2 := h x (List.Mem.head _)
    rw [valB_cons, List.length_cons, Nat.pow_succ]
    have : x * 256 ^ l.length ≤ 255 * 256 ^ l.length := Nat.mul_le_mul_right _ (by omega)
    omega
/-- a pass of the long division: j places are done -/
structure PassInv (zs : List Nat) (j : Nat) (qs : List Nat) (r : Nat) : Prop where
  num : valB (zs.take j) = valB qs * 58 + r
  small : r < 58
  len : qs.length = j
  oct : ∀ q ∈ qs, q < 256
theorem PassInv.start (zs : List Nat) : PassInv zs 0 [] 0 := ⟨by simp [valB], by decide, rfl, fun _ h => nomatch h⟩
theorem PassInv.step {zs qs : List Nat} {j r z : Nat} (h : PassInv zs j qs r) (hz : zs[j]? = some z) (h2 : z < 256) : PassInv zs (j + 1) (qs ++ [(r * 256 + z) / 58]) ((r * 256 + z) % 58) := by
  have hr := h.small
  refine ⟨?_, Nat.mod_lt _ (by decide), by simp [h.len], fun q hq => ?_⟩
  · rw [List.take_add_one, hz, Option.toList_some, valB_concat, valB_concat, h.num]
    omega
  · rcases List.mem_append.mp hq with hq | hq
    · exact h.oct q hq
    · rw [List.mem_singleton.mp hq]; omega
theorem PassInv.done {zs qs : List Nat} {r : Nat} (h : PassInv zs zs.length qs r) : valB qs = valB zs / 58 ∧ r = valB zs % 58 := by
  have h1 := h.num
  rw [List.take_length] at h1
  have := h.small
  omega
theorem ints_at : ∀ {vs : List Value} {ns : List Int} {i : Nat} {v : Value}, IntsAre vs ns → vs[i]? = some v → ∃ n t, ns[i]? = some n ∧ v = .int n t
  | _, _, _, _, .nil, h => by simp at h
  | _, _, 0, _, .cons n t r, h => ⟨n, t, rfl, (Option.some.inj h).symm⟩
  | _, _, i + 1, _, .cons n t r, h => ints_at (i := i) r h
theorem ints_atN {vs : List Value} {ns : List Nat} {i : Nat} {v : Value} (h : IntsAre vs (ns.map fun (c : Nat) => (c : Int))) (hv : vs.toArray[i]? = some v) : ∃ n t, ns[i]? = some n ∧ v = .int ((n : Nat) : Int) t := by
  rw [List.getElem?_toArray] at hv
  obtain ⟨n, t, hn, rfl⟩ := ints_at h hv
  rw [List.getElem?_map] at hn
  cases hq : ns[i]? with
  | none => rw [hq] at hn; cases hn
  | some k =>
    rw [hq] at hn
    exact ⟨k, t, rfl, by rw [← Option.some.inj hn]⟩
/-- the signs of digits, told the lowest first, as a text -/
@[irreducible] def signStr (D : List Nat) : Str := ⟨(D.reverse.map signOf).toArray⟩
theorem signStr_length (D : List Nat) : (signStr D).length = D.length := by unfold signStr; show (List.toArray _).size = _; simp
theorem signStr_nil : signStr [] = Str.ofString "" := by unfold signStr; decide +kernel
theorem str_append (x y : Array Nat) : ((⟨x⟩ : Str) ++ (⟨y⟩ : Str)) = ⟨x ++ y⟩ := rfl
theorem signStr_push (D : List Nat) (r : Nat) : signStr [r] ++ signStr D = signStr (D ++ [r]) := by
  unfold signStr
  rw [str_append]
  simp
theorem item_all : ∀ r : Fin 58, Txt.item (Str.ofString "123456789ABCDEFGHJKLMNPQRSTUVWXYZabcdefghijkmnopqrstuvwxyz") ((r.val : Nat) : Int) = ⟨#[signOf r.val]⟩ := by decide +kernel
theorem item_sign {r : Nat} (hr : r < 58) : Txt.item (Str.ofString "123456789ABCDEFGHJKLMNPQRSTUVWXYZabcdefghijkmnopqrstuvwxyz") (r : Int) = signStr [r] := by
  rw [item_all ⟨r, hr⟩]
  unfold signStr
  rfl
theorem signs_length : Str.length (Str.ofString "123456789ABCDEFGHJKLMNPQRSTUVWXYZabcdefghijkmnopqrstuvwxyz") = 58 := by decide +kernel
theorem zeros_iff (zs : List Nat) : (zs.map (fun (c : Nat) => (c : Int)) = (List.replicate (((zs.map fun (c : Nat) => (c : Int)).length : Nat) : Int).toNat [(0 : Int)]).flatten) ↔ valB zs = 0 := by
  rw [List.flatten_replicate_singleton, Int.toNat_natCast, List.length_map]
  constructor
  · intro h
    have : zs = List.replicate zs.length 0 := by
      refine List.ext_getElem (by simp) fun i h1 h2 => ?_
      have e := congrArg (fun l => l[i]?) h
      simp only [List.getElem?_map, List.getElem?_replicate] at e
      rw [List.getElem?_eq_getElem h1, if_pos h1] at e
      simp at e
      simp [e]
    rw [this]
    exact valB_replicate _
  · intro h
    rw [valB_eq_zero h]
    simp
theorem getD_zero {ks : List Nat} (h : 0 < (ks.map fun (c : Nat) => (c : Int)).length) : ∃ k r, ks = k :: r ∧ (ks.map fun (c : Nat) => (c : Int)).getD (Int.toNat 0) 0 = (k : Int) := by
  cases ks with
  | nil => simp at h
  | cons k r => exact ⟨k, r, rfl, rfl⟩
section
variable {prog : Program} {w : World} {A : Around} {E : Value → Shared → Prop} {s : Shared}
theorem addStr {x y : Str} {t u : Tok} {Q : Value → Shared → Prop} (h1 : x.length ≤ 100000) (h2 : y.length ≤ 100000) (h : ∀ t' k, Q (.str (x ++ y) t') { s with toks := k }) : wpAny (model prog w) A (binaryOp .Add (.str x t) (.str y u)) Q E s :=
  PyProof.Rows.add_str h (by rw [sizeLine_eq]; omega)
end
set_option exponentiation.threshold 2000 in
theorem num_lt900 {b : Array UInt8} (hb : b.size ≤ 100) : num b < 2 ^ 900 :=
  Nat.lt_of_lt_of_le (Nat.lt_of_lt_of_le (num_lt b) (Nat.pow_le_pow_right (by decide) hb)) (by decide)
theorem octs_small (b : Array UInt8) : ∀ z ∈ b.toList.map UInt8.toNat, z < 256 := fun z hz => by
  obtain ⟨c, _, rfl⟩ := List.mem_map.mp hz
  exact c.toNat_lt
theorem octs_cast (b : Array UInt8) : (b.toList.map fun c => (c.toNat : Int)) = (b.toList.map UInt8.toNat).map fun (c : Nat) => (c : Int) := by
  rw [List.map_map]
  rfl
theorem last_of_step {i r d : Nat} {D : List Nat} (hi : i ≠ 0) (hr : r = i % 58) (h0 : i / 58 = 0) (hd : (D ++ [r]).getLast? = some d) : d ≠ 0 := by
  rw [List.getLast?_concat] at hd
  have := Option.some.inj hd
  omega
theorem digs_done {n : Nat} {D : List Nat} (h : DigInv n 0 D) (hl : ∀ d, D.getLast? = some d → d ≠ 0) : D = digs n := by
  have h1 := h.num
  rw [Nat.zero_mul, Nat.add_zero] at h1
  rw [← h1]
  exact digs_unique D h.small hl
end Mine
end

section
open PySem PySem.W PyProof.Rows PySem.Calls
namespace Mine
/-- k ones -/
@[irreducible] def onesStr (k : Nat) : Str := ⟨(List.replicate k 49).toArray⟩
theorem onesStr_length (k : Nat) : (onesStr k).length = k := by unfold onesStr; show (List.toArray _).size = _; simp
theorem fold_ones (k : Nat) (acc : Array Nat) : (List.replicate k #[49]).foldl (fun x y => x ++ y) acc = acc ++ (List.replicate k 49).toArray := by
  induction k generalizing acc with
  | zero => simp
  | succ n ih =>
    rw [List.replicate_succ, List.foldl_cons, ih, Array.append_assoc]
    congr 1
    rw [List.replicate_succ]
    simp
theorem one_cps : (Str.ofString "1").cps = #[49] := by decide +kernel
theorem mul_one_str (k : Nat) : Txt.mul (Str.ofString "1") (k : Int) = onesStr k := by
  unfold Txt.mul onesStr
  by_cases h0 : k = 0
  · subst h0
    rw [if_pos (by decide)]
    rfl
  · rw [if_neg (by omega)]
    by_cases h1 : k = 1
    · subst h1
      rw [if_pos (by decide +kernel)]
      decide +kernel
    · rw [if_neg, Int.toNat_natCast, one_cps, fold_ones, Array.empty_append]
      rw [Bool.or_eq_true, not_or]
      refine ⟨fun h => h1 ?_, by decide +kernel⟩
      have := eq_of_beq h
      omega
theorem lead_split {l : List UInt8} {z : UInt8} : ∀ {k : Nat}, k ≤ l.length → (∀ j, j < k → l[j]? = some z) → l = List.replicate k z ++ l.drop k
  | 0, _, _ => by simp
  | k + 1, hk, h => by
    have h1 := lead_split (k := k) (by omega) fun j hj => h j (by omega)
    have h2 := h k (by omega)
    have h3 : l.drop k = z :: l.drop (k + 1) := by
      obtain ⟨hlt, e⟩ := List.getElem?_eq_some_iff.mp h2
      rw [List.drop_eq_getElem_cons hlt, e]
    rw [List.replicate_succ', List.append_assoc]
    show l = List.replicate k z ++ ([z] ++ l.drop (k + 1))
    rw [List.singleton_append, ← h3]
    exact h1
theorem dropWhile_lead {p : UInt8 → Bool} {z : UInt8} {r : List UInt8} (hz : p z = true) (hr : ∀ c r', r = c :: r' → p c = false) : ∀ k : Nat, (List.replicate k z ++ r).dropWhile p = r
  | 0 => by
    cases r with
    | nil => rfl
    | cons c r' => simp [hr c r' rfl]
  | k + 1 => by
    rw [List.replicate_succ, List.cons_append, List.dropWhile_cons, if_pos hz]
    exact dropWhile_lead hz hr k
theorem lead_of {b : Array UInt8} {z : UInt8} {k : Nat} (hk : k ≤ b.size) (h : ∀ j, j < k → b[j]? = some z) (hend : k = b.size ∨ ∃ c, b[k]? = some c ∧ c ≠ z) :
    lstrip b #[z] = (b.toList.drop k).toArray ∧ b.size - (lstrip b #[z]).size = k := by
  have e := lead_split (l := b.toList) (z := z) (k := k) (by simpa using hk) fun j hj => by rw [Array.getElem?_toList]; exact h j hj
  have hl : lstrip b #[z] = (b.toList.drop k).toArray := by
    unfold lstrip
    congr 1
    rw [e, dropWhile_lead (by simp)]
    · rw [← e]
    · intro c r' hr
      rcases hend with hs | ⟨c', hc, hne⟩
      · rw [hs, ← Array.length_toList, List.drop_length] at hr
        cases hr
      · have h1 : (b.toList.drop k)[0]? = some c' := by rw [List.getElem?_drop, Nat.add_zero, Array.getElem?_toList]; exact hc
        rw [hr] at h1
        have : c = c' := Option.some.inj h1
        subst this
        simpa using hne
  refine ⟨hl, ?_⟩
  rw [hl]
  simp only [List.size_toArray, List.length_drop, Array.length_toList]
  omega
section
variable {prog : Program} {w : World} {A : Around} {E : Value → Shared → Prop} {s : Shared}
theorem itemB {value slice : PySem.Expr} {b : Array UInt8} {t ui : Tok} {k : Nat} {c : UInt8} {Q : Value → Shared → Prop} (hc : b[k]? = some c) (hb : b.size ≤ 1000) (h : ∀ t' k', Q (.int (c.toNat : Int) t') { s with toks := k' })
    (hs : subscripted slice false (.bytes b t) (.int (k : Int) ui) = operate [.bytes b t, .int (k : Int) ui] (getItem (.bytes b t) (.int (k : Int) ui)) := by with_unfolding_all rfl)
    (ht : ∀ r, letTemporaryGo value (.bytes b t) r = pure () := by intro _; with_unfolding_all rfl) : wpAny (model prog w) A (subscriptTail value slice (.bytes b t) (.int (k : Int) ui)) Q E s := by
  have hk : k < b.size := by
    obtain ⟨hlt, _⟩ := Array.getElem?_eq_some_iff.mp hc
    exact hlt
  have e : (KBw.bInts b).getD (k : Int).toNat 0 = (c.toNat : Int) := by
    unfold KBw.bInts
    rw [Int.toNat_natCast, List.getD_eq_getElem?_getD, List.getElem?_map, Array.getElem?_toList, hc]
    rfl
  refine KBw.item_K rfl (by rw [KBw.ints_length]; omega) (by omega) (by rw [KBw.ints_length]; omega) (fun t' k' _ _ => ?_) hs ht
  rw [e]
  exact h t' k'
theorem itemSign {value slice : PySem.Expr} {t u : Tok} {r : Nat} {Q : Value → Shared → Prop} (hr : r < 58) (h : ∀ t' k, Q (.str (signStr [r]) t') { s with toks := k })
    (hs : subscripted slice false (.str (PySem.Str.ofString "123456789ABCDEFGHJKLMNPQRSTUVWXYZabcdefghijkmnopqrstuvwxyz") t) (.int (r : Int) u) = operate [.str (PySem.Str.ofString "123456789ABCDEFGHJKLMNPQRSTUVWXYZabcdefghijkmnopqrstuvwxyz") t, .int (r : Int) u] (getItem (.str (PySem.Str.ofString "123456789ABCDEFGHJKLMNPQRSTUVWXYZabcdefghijkmnopqrstuvwxyz") t) (.int (r : Int) u)) := by with_unfolding_all rfl)
    (ht : ∀ r', letTemporaryGo value (.str (PySem.Str.ofString "123456789ABCDEFGHJKLMNPQRSTUVWXYZabcdefghijkmnopqrstuvwxyz") t) r' = pure () := by intro _; with_unfolding_all rfl) :
    wpAny (model prog w) A (subscriptTail value slice (.str (PySem.Str.ofString "123456789ABCDEFGHJKLMNPQRSTUVWXYZabcdefghijkmnopqrstuvwxyz") t) (.int (r : Int) u)) Q E s := by
  refine KXi.item signs_length (by omega) (by omega) (by decide) (fun _ => ?_) hs ht
  rw [item_sign hr]
  exact h _ _
end
end Mine
end

section
open PySem PySem.W PyProof.Rows PySem.Calls
namespace Mine
theorem occ_all : ∀ c : Fin 128, Builtin.Str.occurrences (Str.ofString "123456789ABCDEFGHJKLMNPQRSTUVWXYZabcdefghijkmnopqrstuvwxyz") ⟨#[c.val]⟩ 0 (Str.length (Str.ofString "123456789ABCDEFGHJKLMNPQRSTUVWXYZabcdefghijkmnopqrstuvwxyz")) 1 = if isSign c.val then [digitOf c.val] else [] := by decide +kernel
theorem occ_sign {c : Nat} (hc : c < 128) : Builtin.Str.occurrences (Str.ofString "123456789ABCDEFGHJKLMNPQRSTUVWXYZabcdefghijkmnopqrstuvwxyz") ⟨#[c]⟩ 0 (Str.length (Str.ofString "123456789ABCDEFGHJKLMNPQRSTUVWXYZabcdefghijkmnopqrstuvwxyz")) 1 = if isSign c then [digitOf c] else [] := occ_all ⟨c, hc⟩
section
variable {prog : Program} {w : World} {A : Around} {E : Value → Shared → Prop} {s : Shared}
theorem notInSign {c : Nat} {t u : Tok} {Q : Value → Shared → Prop} (hc : c < 128) (h : Q (.bool (!isSign c)) s) :
    wpAny (model prog w) A (compareOp .NotIn (.str ⟨#[c]⟩ u) (.str (Str.ofString "123456789ABCDEFGHJKLMNPQRSTUVWXYZabcdefghijkmnopqrstuvwxyz") t)) Q E s := by
  refine PyProof.Rows.notIn_str ?_
  rw [occ_sign hc]
  cases hs : isSign c <;> (rw [hs] at h; exact h)
theorem indexSign {c : Nat} {t u : Tok} {Q : Value → Shared → Prop} (hc : c < 128) (hs : isSign c = true) (h : ∀ t' k, Q (.int ((digitOf c : Nat) : Int) t') { s with toks := k }) :
    wpAny (model prog w) A (call (.builtin "str.index") [.str (Str.ofString "123456789ABCDEFGHJKLMNPQRSTUVWXYZabcdefghijkmnopqrstuvwxyz") t, .str ⟨#[c]⟩ u]) Q E s :=
  SC.index (i := digitOf c) (rest := []) (by rw [occ_sign hc, if_pos hs]) (h _ _)
end
/-- the number that signs tell, by their codes -/
def readNum (l : List Nat) : Nat := l.foldl (fun a c => a * 58 + digitOf c) 0
theorem readNum_concat (l : List Nat) (c : Nat) : readNum (l ++ [c]) = readNum l * 58 + digitOf c := by unfold readNum; rw [List.foldl_append]; rfl
theorem readNum_step {x : Array Nat} {i c : Nat} (h : x[i]? = some c) : readNum (x.toList.take (i + 1)) = readNum (x.toList.take i) * 58 + digitOf c := by
  rw [List.take_add_one, Array.getElem?_toList, h, Option.toList_some, readNum_concat]
theorem digitOf_all : ∀ c : Fin 256, isSign c.val = true → digitOf c.val < 58 := by decide +kernel
theorem digitOf_lt {c : Nat} (hc : c < 256) (hs : isSign c = true) : digitOf c < 58 := digitOf_all ⟨c, hc⟩ hs
theorem readNum_lt : ∀ (l : List Nat), (∀ c ∈ l, c < 256 ∧ isSign c = true) → readNum l < 58 ^ l.length := by
  intro l
  induction hl : l.length generalizing l with
  | zero => intro _; rw [List.eq_nil_of_length_eq_zero hl]; decide
  | succ n ih =>
    intro h
    obtain ⟨l', c, rfl⟩ : ∃ l' c, l = l' ++ [c] := by
      have hne : l ≠ [] := fun e => by rw [e] at hl; cases hl
      exact ⟨l.dropLast, l.getLast hne, (List.dropLast_concat_getLast hne).symm⟩
    have h1 := ih l' (by rw [List.length_append] at hl; simp at hl; exact hl) fun c hc => h c (List.mem_append_left _ hc)
    have h2 := digitOf_lt (h c (by simp)).1 (h c (by simp)).2
    rw [readNum_concat, Nat.pow_succ]
    omega
@[irreducible] def allSigns (x : Str) : Bool := x.cps.toList.all isSign
theorem allSigns_iff (x : Str) : allSigns x = true ↔ ∀ (i : Nat) (c : Nat), x.cps[i]? = some c → isSign c = true := by
  unfold allSigns
  rw [List.all_eq_true]
  constructor
  · intro h i c hc
    exact h c (List.mem_of_getElem? (i := i) (by rw [Array.getElem?_toList]; exact hc))
  · intro h c hc
    obtain ⟨i, hi⟩ := List.getElem?_of_mem hc
    exact h i c (by rw [← Array.getElem?_toList]; exact hi)
/-- the octets so far, and what is left -/
structure OctInv (n k : Nat) (qs : List Nat) : Prop where
  num : valB qs + k * 256 ^ qs.length = n
  oct : ∀ q ∈ qs, q < 256
  len : qs.length ≤ 100
  top : k = 0 → ∀ q r, qs = q :: r → q ≠ 0
theorem OctInv.start {n : Nat} : OctInv n n [] := ⟨by simp [valB], (fun _ h => nomatch h), Nat.zero_le _, fun _ _ _ h => nomatch h⟩
theorem OctInv.step {n k : Nat} {qs : List Nat} (h : OctInv n k qs) (hk : k ≠ 0) (hn : n < 256 ^ 100) : OctInv n (k / 256) (k % 256 :: qs) := by
  have hl : qs.length < 100 := by
    refine (Nat.pow_lt_pow_iff_right (a := 256) (by decide)).mp (Nat.lt_of_le_of_lt ?_ hn)
    rw [← h.num]
    have : 1 * 256 ^ qs.length ≤ k * 256 ^ qs.length := Nat.mul_le_mul_right _ (by omega)
    omega
  refine ⟨?_, fun q hq => ?_, by rw [List.length_cons]; omega, fun h0 q r e => ?_⟩
  · rw [valB_cons, List.length_cons, Nat.pow_succ, ← h.num, Nat.mul_comm (256 ^ qs.length) 256, ← Nat.mul_assoc]
    have e : k % 256 * 256 ^ qs.length + k / 256 * 256 * 256 ^ qs.length = k * 256 ^ qs.length := by
      rw [← Nat.add_mul]
      congr 1
      omega
    omega
  · rcases List.mem_cons.mp hq with rfl | hq
    · omega
    · exact h.oct q hq
  · obtain ⟨rfl, _⟩ := List.cons.inj e
    omega
set_option exponentiation.threshold 2000 in
theorem readNum_small {x : Str} (hx : IsAscii x) (hs : allSigns x = true) (hl : x.length ≤ 105) : readNum x.cps.toList < 256 ^ 100 := by
  have h := readNum_lt x.cps.toList fun c hc => ⟨Nat.lt_trans (hx c (Array.mem_toList_iff.mp hc)) (by decide), by
    obtain ⟨i, hi⟩ := List.getElem?_of_mem hc
    exact (allSigns_iff x).mp hs i c (by rw [← Array.getElem?_toList]; exact hi)⟩
  refine Nat.lt_of_lt_of_le h (Nat.le_trans (Nat.pow_le_pow_right (by decide) (show x.cps.toList.length ≤ 105 from by rw [Array.length_toList]; exact hl)) (by decide))
theorem fdiv_oct (i : Nat) : (i : Int).fdiv 256 = ((i / 256 : Nat) : Int) := by
  rw [Int.fdiv_eq_ediv_of_nonneg _ (by decide)]
  exact (Int.natCast_ediv i 256).symm
theorem fmod_oct (i : Nat) : (i : Int).fmod 256 = ((i % 256 : Nat) : Int) := by
  rw [Int.fmod_eq_emod_of_nonneg _ (by decide)]
  exact (Int.natCast_emod i 256).symm
section
variable {prog : Program} {w : World} {A : Around} {E : Value → Shared → Prop} {s : Shared}
theorem itemStr {value slice : PySem.Expr} {x : Str} {t u : Tok} {k : Nat} {Q : Value → Shared → Prop} (hk : k < x.length) (hl : x.length ≤ 1000) (h : ∀ t' k', Q (.str ⟨#[x.cps.getD k 0]⟩ t') { s with toks := k' })
    (hs : subscripted slice false (.str x t) (.int (k : Int) u) = operate [.str x t, .int (k : Int) u] (getItem (.str x t) (.int (k : Int) u)) := by with_unfolding_all rfl)
    (ht : ∀ r', letTemporaryGo value (.str x t) r' = pure () := by intro _; with_unfolding_all rfl) :
    wpAny (model prog w) A (subscriptTail value slice (.str x t) (.int (k : Int) u)) Q E s := by
  refine KXi.item rfl (by omega) (by omega) (by omega) (fun _ => ?_) hs ht
  have e : Txt.item x (k : Int) = ⟨#[x.cps.getD k 0]⟩ := by
    unfold Txt.item Txt.charAt
    have h0 : seqIndex? (k : Int) x.length = some k := by
      unfold seqIndex?
      simp
      omega
    simp [h0]
  rw [e]
  exact h _ _
end
theorem one_eq (c : Nat) : ((⟨#[c]⟩ : Str) = Str.ofString "1") ↔ c = 49 := by
  constructor
  · intro h
    have := congrArg Str.cps h
    rw [one_cps] at this
    simpa using this
  · rintro rfl
    decide +kernel
end Mine
end

section
open PySem PySem.W PyProof.Rows PySem.Calls
namespace Mine
theorem octetsOf_valB : ∀ (qs : List Nat), (∀ q ∈ qs, q < 256) → octetsOf qs.length (valB qs) = qs.map Nat.toUInt8 := by
  intro qs
  induction hl : qs.length generalizing qs with
  | zero => intro _; rw [List.eq_nil_of_length_eq_zero hl]; rfl
  | succ n ih =>
    intro h
    obtain ⟨qs', q, rfl⟩ : ∃ l' c, qs = l' ++ [c] := by
      have hne : qs ≠ [] := fun e => by rw [e] at hl; cases hl
      exact ⟨qs.dropLast, qs.getLast hne, (List.dropLast_concat_getLast hne).symm⟩
    have hq := h q (by simp)
    show octetsOf n (valB (qs' ++ [q]) / 256) ++ [UInt8.ofNat (valB (qs' ++ [q]) % 256)] = _
    rw [valB_concat]
    have e1 : (valB qs' * 256 + q) / 256 = valB qs' := by omega
    have e2 : (valB qs' * 256 + q) % 256 = q := by omega
    rw [e1, e2, ih qs' (by rw [List.length_append] at hl; simp at hl; exact hl) fun c hc => h c (List.mem_append_left _ hc), List.map_append]
    rfl
theorem octetsLen_valB {qs : List Nat} (h : ∀ q ∈ qs, q < 256) (ht : ∀ q r, qs = q :: r → q ≠ 0) : octetsLen (valB qs) = qs.length := by
  have h1 := valB_lt qs h
  have h2 : octetsLen (valB qs) ≤ qs.length := by
    have e : (256 : Nat) ^ qs.length = 2 ^ (8 * qs.length) := by rw [Nat.pow_mul]
    rw [e] at h1
    have := octetsLen_le h1
    omega
  have h3 := octetsLen_lt (valB qs)
  cases qs with
  | nil => exact Nat.le_antisymm h2 (Nat.zero_le _)
  | cons q r =>
    have hq := ht q r rfl
    rw [valB_cons] at h3
    have h4 : 1 * 256 ^ r.length ≤ q * 256 ^ r.length := Nat.mul_le_mul_right _ (by omega)
    have h5 : 256 ^ r.length < 256 ^ octetsLen (valB (q :: r)) := by
      rw [valB_cons]
      omega
    have h6 := (Nat.pow_lt_pow_iff_right (a := 256) (by decide)).mp h5
    rw [List.length_cons] at h2 ⊢
    omega
theorem digitTab_all : ∀ c : Fin 256, (digitTab.getD c.val 0).toNat = digitOf c.val ∧ digitTab.size = 256 := by unfold digitTab; decide +kernel
theorem digitTab_at (c : UInt8) : (digitTab.getD c.toNat c).toNat = digitOf c.toNat := by
  have h := (digitTab_all ⟨c.toNat, c.toNat_lt⟩).1
  have hs := digitTab_size
  have hlt : c.toNat < digitTab.size := by rw [hs]; exact c.toNat_lt
  have e : digitTab.getD c.toNat c = digitTab.getD c.toNat 0 := by
    unfold Array.getD
    rw [dif_pos hlt, dif_pos hlt]
  rw [e]
  exact h
theorem digitsNum_read (l : List UInt8) : digitsNum (translated l.toArray digitTab).toList = readNum (l.map UInt8.toNat) := by
  unfold digitsNum translated readNum
  rw [Array.toList_map, List.foldl_map, List.foldl_map]
  congr 1
  funext a c
  rw [digitTab_at]
theorem readNum_fold (l : List Nat) (a : Nat) : l.foldl (fun a c => a * 58 + digitOf c) a = a * 58 ^ l.length + readNum l := by
  induction l generalizing a with
  | nil => simp [readNum]
  | cons c r ih =>
    rw [List.foldl_cons, ih]
    unfold readNum
    rw [List.foldl_cons, ih (0 * 58 + digitOf c), List.length_cons, Nat.pow_succ, Nat.add_mul, Nat.zero_mul, Nat.zero_add, Nat.mul_assoc, Nat.mul_comm 58, Nat.add_assoc]
    rfl
theorem readNum_ones (r : List Nat) : ∀ k : Nat, readNum (List.replicate k 49 ++ r) = readNum r
  | 0 => rfl
  | k + 1 => by
    rw [List.replicate_succ, List.cons_append]
    unfold readNum
    rw [List.foldl_cons]
    exact readNum_ones r k
theorem lead_nat {l : List Nat} {z : Nat} : ∀ {k : Nat}, k ≤ l.length → (∀ j, j < k → l[j]? = some z) → l = List.replicate k z ++ l.drop k
  | 0, _, _ => by simp
  | k + 1, hk, h => by
    have h1 := lead_nat (k := k) (by omega) fun j hj => h j (by omega)
    have h2 := h k (by omega)
    have h3 : l.drop k = z :: l.drop (k + 1) := by
      obtain ⟨hlt, e⟩ := List.getElem?_eq_some_iff.mp h2
      rw [List.drop_eq_getElem_cons hlt, e]
    rw [List.replicate_succ', List.append_assoc]
    show l = List.replicate k z ++ ([z] ++ l.drop (k + 1))
    rw [List.singleton_append, ← h3]
    exact h1
theorem asciiOf_get (x : Str) (j : Nat) : (asciiOf x)[j]? = x.cps[j]?.map Nat.toUInt8 := by
  unfold asciiOf
  rw [Array.getElem?_map]
theorem asciiOf_list {x : Str} (hx : IsAscii x) : (asciiOf x).toList.map UInt8.toNat = x.cps.toList := by
  unfold asciiOf
  rw [Array.toList_map, List.map_map]
  refine List.map_congr_left (g := id) (fun c hc => ?_) |>.trans (List.map_id _)
  have := hx c (Array.mem_toList_iff.mp hc)
  show (Nat.toUInt8 c).toNat = c
  rw [Nat.toUInt8_eq, UInt8.toNat_ofNat']
  omega
theorem lead_ascii {x : Str} (hx : IsAscii x) {k : Nat} (hk : k ≤ x.length) (h : ∀ j, j < k → x.cps[j]? = some 49) (hend : k = x.length ∨ x.cps.getD k 0 ≠ 49) :
    lstrip (asciiOf x) #[49] = ((asciiOf x).toList.drop k).toArray ∧ (asciiOf x).size - (lstrip (asciiOf x) #[49]).size = k := by
  refine lead_of (by rw [asciiOf_size]; exact hk) (fun j hj => by rw [asciiOf_get, h j hj]; rfl) ?_
  rw [asciiOf_size]
  rcases hend with h | h
  · exact .inl h
  · by_cases hkl : k = x.length
    · exact .inl hkl
    · have hlt : k < x.cps.size := by have : x.length = x.cps.size := rfl; omega
      refine .inr ⟨(x.cps.getD k 0).toUInt8, ?_, fun e => h ?_⟩
      · rw [asciiOf_get]
        simp [Array.getD, hlt]
      · have h128 : x.cps.getD k 0 < 128 := by
          unfold Array.getD
          rw [dif_pos hlt]
          exact hx _ (Array.getElem_mem hlt)
        have := congrArg UInt8.toNat e
        rw [Nat.toUInt8_eq, UInt8.toNat_ofNat'] at this
        have h49 : (49 : UInt8).toNat = 49 := rfl
        rw [h49] at this
        omega
theorem read_decoded {x : Str} {qs : List Nat} {k : Nat} (hx : IsAscii x) (hoct : OctInv (readNum x.cps.toList) 0 qs) (hk : k ≤ x.length) (h : ∀ j, j < k → x.cps[j]? = some 49) (hend : k = x.length ∨ x.cps.getD k 0 ≠ 49) :
    byteArr ((List.replicate (k : Int).toNat [(0 : Int)]).flatten ++ qs.map fun (c : Nat) => (c : Int)) = decoded (asciiOf x) := by
  obtain ⟨h1, h2⟩ := lead_ascii hx hk h hend
  have hn : digitsNum (translated (lstrip (asciiOf x) #[49]) digitTab).toList = valB qs := by
    have e1 := hoct.num
    rw [Nat.zero_mul, Nat.add_zero] at e1
    rw [h1, digitsNum_read, e1, List.map_drop, asciiOf_list hx]
    have e3 : x.cps.toList = List.replicate k 49 ++ x.cps.toList.drop k := by
      have := lead_nat (l := x.cps.toList) (z := 49) (k := k) (by rw [Array.length_toList]; exact hk) (fun j hj => by rw [Array.getElem?_toList]; exact h j hj)
      exact this
    conv => rhs; rw [e3]
    rw [readNum_ones]
  rw [← decoded_some, hn, h2, octetsLen_valB hoct.oct (hoct.top rfl), octetsOf_valB qs hoct.oct]
  unfold byteArr
  rw [List.flatten_replicate_singleton, Int.toNat_natCast, List.map_append, List.map_map, List.map_replicate]
  simp
end Mine
end

section
open PySem PySem.W PyProof.Rows PySem.Calls
namespace Mine
theorem picked_head4 (b : Array UInt8) : KBy.picked b none (some 4) = (b.toList.take 4).toArray := by
  rw [KBc.picked_eq]
  show ((b.toList.drop (0 : Nat)).take (clipAt b.size ((4 : Nat) : Int) - 0)).toArray = _
  rw [clipAt_nat, List.drop_zero, Nat.sub_zero]
  congr 1
  by_cases h : 4 ≤ b.size
  · rw [Nat.min_eq_left h]
  · rw [Nat.min_eq_right (by omega), List.take_of_length_le (by simp), List.take_of_length_le (by simp; omega)]
theorem picked_cut4 (b : Array UInt8) : KBy.picked b none (some (-4)) = (b.toList.take (b.size - 4)).toArray := by
  rw [KBc.picked_eq]
  show ((b.toList.drop (0 : Nat)).take (clipAt b.size (-4) - 0)).toArray = _
  have : clipAt b.size (-4) = b.size - 4 := by unfold clipAt; simp; omega
  rw [this, List.drop_zero, Nat.sub_zero]
theorem picked_last4 (b : Array UInt8) : KBy.picked b (some (-4)) none = (b.toList.drop (b.size - 4)).toArray := by
  rw [KBc.picked_eq]
  have : clipAt b.size (-4) = b.size - 4 := by unfold clipAt; simp; omega
  show ((b.toList.drop (clipAt b.size (-4))).take (b.size - clipAt b.size (-4))).toArray = _
  rw [this, List.take_of_length_le (by simp)]
/-- the first four of the hash -/
abbrev chk (b : Array UInt8) : Array UInt8 := KBy.picked (hashed b) none (some 4)
theorem chk_size (b : Array UInt8) : (chk b).size = 4 := by
  unfold chk
  rw [picked_head4]
  simp [hashed_size]
theorem full_cut (b : Array UInt8) : KBy.picked (b ++ chk b) none (some (-4)) = b := by
  rw [picked_cut4, Array.size_append, chk_size, Nat.add_sub_cancel, Array.toList_append, List.take_append_of_le_length (by simp), List.take_of_length_le (by simp), Array.toArray_toList]
theorem full_last (b : Array UInt8) : KBy.picked (b ++ chk b) (some (-4)) none = chk b := by
  rw [picked_last4, Array.size_append, chk_size, Nat.add_sub_cancel, Array.toList_append, List.drop_append_of_le_length (by simp), List.drop_of_length_le (by simp), List.nil_append, Array.toArray_toList]
/-- the text of octets -/
@[irreducible] def textOf (b : Array UInt8) : Str := onesStr (b.size - (lstrip b #[0]).size) ++ signStr (digs (num b))
theorem lstrip_split (b : Array UInt8) (z : UInt8) : b.toList = List.replicate (b.size - (lstrip b #[z]).size) z ++ (lstrip b #[z]).toList := by
  have e : (lstrip b #[z]).toList = b.toList.dropWhile (#[z] : Array UInt8).contains := by unfold lstrip; rfl
  have h1 := List.takeWhile_append_dropWhile (p := (#[z] : Array UInt8).contains) (l := b.toList)
  have h2 : b.toList.takeWhile (#[z] : Array UInt8).contains = List.replicate (b.toList.takeWhile (#[z] : Array UInt8).contains).length z := by
    refine List.eq_replicate_iff.mpr ⟨rfl, fun c hc => ?_⟩
    have := List.all_eq_true.mp List.all_takeWhile c hc
    simpa using this
  have h3 : (b.toList.takeWhile (#[z] : Array UInt8).contains).length = b.size - (lstrip b #[z]).size := by
    have hl := congrArg List.length h1
    rw [← e] at hl
    simp only [List.length_append, Array.length_toList] at hl
    omega
  rw [e, ← h3, ← h2, h1]
theorem num_replicate (k : Nat) (l : List UInt8) : num (List.replicate k 0 ++ l).toArray = num l.toArray := by
  induction k with
  | zero => rfl
  | succ k ih =>
    rw [List.replicate_succ, List.cons_append, num_cons, ih]
    simp
theorem num_lstrip (b : Array UInt8) : num (lstrip b #[0]) = num b := by
  have h := lstrip_split b 0
  have e : b = (b.toList).toArray := Array.toArray_toList.symm
  conv => rhs; rw [e, h]
  rw [num_replicate, Array.toArray_toList]
theorem signOf_all : ∀ d : Fin 58, signOf d.val < 128 ∧ isSign (signOf d.val) = true ∧ digitOf (signOf d.val) = d.val ∧ (d.val ≠ 0 → signOf d.val ≠ 49) ∧ signTab.contains (signOf d.val).toUInt8 = true := by unfold signTab; decide +kernel
theorem charTab_all : ∀ d : Fin 58, charTab.getD d.val 0 = (signOf d.val).toUInt8 := by unfold charTab; decide +kernel
theorem readNum_signs : ∀ (D : List Nat), (∀ d ∈ D, d < 58) → readNum (D.reverse.map signOf) = lowNum D
  | [], _ => rfl
  | d :: r, h => by
    have hd := h d (List.Mem.head _)
    rw [List.reverse_cons, List.map_append, List.map_cons, List.map_nil, readNum_concat, readNum_signs r fun x hx => h x (List.mem_cons_of_mem _ hx), (signOf_all ⟨d, hd⟩).2.2.1]
    show lowNum r * 58 + d = d + 58 * lowNum r
    omega
theorem textOf_cps (b : Array UInt8) : (textOf b).cps = (List.replicate (b.size - (lstrip b #[0]).size) 49 ++ (digs (num b)).reverse.map signOf).toArray := by
  unfold textOf onesStr signStr
  rw [str_append]
  simp
theorem textOf_mem {b : Array UInt8} {c : Nat} (h : c ∈ (textOf b).cps) : c < 128 ∧ isSign c = true ∧ signTab.contains c.toUInt8 = true := by
  rw [textOf_cps, List.mem_toArray] at h
  rcases List.mem_append.mp h with h | h
  · rw [(List.mem_replicate.mp h).2]
    have := signOf_all 0
    exact ⟨this.1, this.2.1, this.2.2.2.2⟩
  · obtain ⟨d, hd, rfl⟩ := List.mem_map.mp h
    have := signOf_all ⟨d, digs_small _ d (List.mem_reverse.mp hd)⟩
    exact ⟨this.1, this.2.1, this.2.2.2.2⟩
theorem textOf_ascii (b : Array UInt8) : IsAscii (textOf b) := fun c hc => (textOf_mem hc).1
theorem textOf_good (b : Array UInt8) : (without (asciiOf (textOf b)) signTab).size = 0 := by
  unfold without asciiOf
  rw [Array.size_eq_zero_iff, Array.filter_eq_empty_iff]
  intro c hc
  obtain ⟨n, hn, rfl⟩ := Array.mem_map.mp hc
  rw [(textOf_mem hn).2.2]
  decide
theorem asciiOf_text (b : Array UInt8) : asciiOf (textOf b) = encoded b := by
  unfold asciiOf encoded
  rw [textOf_cps, num_lstrip]
  apply Array.toList_inj.mp
  rw [Array.toList_map, Array.toList_append, List.map_append, List.map_replicate]
  congr 1
  unfold translated digArr
  rw [Array.toList_map]
  show List.map Nat.toUInt8 (List.map signOf (digs (num b)).reverse) = List.map _ (List.map Nat.toUInt8 (digs (num b)).reverse)
  rw [List.map_map, List.map_map]
  refine List.map_congr_left fun d hd => ?_
  have hd58 := digs_small _ d (List.mem_reverse.mp hd)
  show (signOf d).toUInt8 = charTab.getD (Nat.toUInt8 d).toNat (Nat.toUInt8 d)
  have e1 : (Nat.toUInt8 d).toNat = d := by rw [Nat.toUInt8_eq, UInt8.toNat_ofNat']; omega
  rw [e1, ← charTab_all ⟨d, hd58⟩]
  have hlt : d < charTab.size := by rw [charTab_size]; omega
  unfold Array.getD
  rw [dif_pos hlt, dif_pos hlt]
theorem digs_last {n : Nat} : ∀ (h : digs n ≠ []), (digs n).getLast h ≠ 0 := by
  induction n using Nat.strongRecOn with
  | ind n ih =>
    intro h
    have hn : n ≠ 0 := fun e => h (by rw [e, digs_zero])
    have e := digs_pos hn
    by_cases h2 : n / 58 = 0
    · have e2 : digs n = [n % 58] := by rw [e, h2, digs_zero]
      have : (digs n).getLast h = n % 58 := by simp [e2]
      rw [this]
      omega
    · have hne : digs (n / 58) ≠ [] := by rw [digs_pos h2]; exact fun h => nomatch h
      have : (digs n).getLast h = (digs (n / 58)).getLast hne := by
        simp only [e]
        exact List.getLast_cons hne
      rw [this]
      exact ih (n / 58) (Nat.div_lt_self (by omega) (by decide)) hne
theorem textOf_dec {b : Array UInt8} (hb : b.size ≤ 50) : decoded (asciiOf (textOf b)) = b := by
  have hsz := lstrip_size b #[0]
  have hsplit := lstrip_split b 0
  have hcps := textOf_cps b
  have hlen : (textOf b).length = (b.size - (lstrip b #[0]).size) + (digs (num b)).length := by
    show (textOf b).cps.size = _
    rw [hcps]
    simp
  have hrest : ∀ q r, ((lstrip b #[0]).toList.map UInt8.toNat) = q :: r → q ≠ 0 := by
    intro q r h
    cases hl : (lstrip b #[0]).toList with
    | nil => rw [hl] at h; cases h
    | cons c r' =>
      rw [hl] at h
      have hc := lstrip_head (b := b) (z := 0) (c := c) (r := r') (by rw [← hl, Array.toArray_toList])
      obtain ⟨rfl, _⟩ := List.cons.inj h
      exact fun e => hc (UInt8.toNat_inj.mp e)
  have hoct : OctInv (readNum (textOf b).cps.toList) 0 ((lstrip b #[0]).toList.map UInt8.toNat) := by
    refine ⟨?_, octs_small _, by rw [List.length_map, Array.length_toList]; omega, fun _ => hrest⟩
    rw [Nat.zero_mul, Nat.add_zero, hcps, readNum_ones, readNum_signs _ (digs_small _), lowNum_digs, ← num_lstrip, num_valB]
  have h := read_decoded (k := b.size - (lstrip b #[0]).size) (textOf_ascii b) hoct (by rw [hlen]; omega) (fun j hj => by
      rw [hcps]
      rw [List.getElem?_toArray, List.getElem?_append_left (by rw [List.length_replicate]; exact hj), List.getElem?_replicate, if_pos hj]) ?_
  · rw [← h]
    unfold byteArr
    rw [List.flatten_replicate_singleton, Int.toNat_natCast, List.map_append, List.map_replicate, List.map_map, List.map_map]
    have e : b = (b.toList).toArray := Array.toArray_toList.symm
    conv => rhs; rw [e, hsplit]
    congr 2
    refine (List.map_congr_left (g := id) fun c _ => ?_).trans (List.map_id _)
    show ((c.toNat : Int).toNat).toUInt8 = c
    rw [Int.toNat_natCast]
    exact UInt8.toNat_inj.mp (by rw [Nat.toUInt8_eq, UInt8.toNat_ofNat']; have := c.toNat_lt; omega)
  · cases hd : digs (num b) with
    | nil => exact .inl (by rw [hlen, hd]; rfl)
    | cons d0 r0 =>
      refine .inr ?_
      have hne : digs (num b) ≠ [] := by rw [hd]; exact fun h => nomatch h
      have hlast : ((digs (num b)).getLast hne) ≠ 0 := digs_last hne
      have hl58 := digs_small (num b) _ (List.getLast_mem hne)
      have hg : (textOf b).cps.getD (b.size - (lstrip b #[0]).size) 0 = signOf ((digs (num b)).getLast hne) := by
        rw [hcps]
        have hrev : (digs (num b)).reverse = (digs (num b)).getLast hne :: (digs (num b)).dropLast.reverse := by
          conv => lhs; rw [← List.dropLast_concat_getLast hne]
          rw [List.reverse_append]
          rfl
        rw [hrev, List.map_cons]
        simp [Array.getD]
      rw [hg]
      exact (signOf_all ⟨_, hl58⟩).2.2.2.1 hlast
theorem decoded_small {b : Array UInt8} (h : b.size = 0) : (decoded b).size = 0 := by
  have h1 := lstrip_size b #[49]
  have h2 : (lstrip b #[49]).size = 0 := by omega
  rw [← decoded_none h2]
  simp [h]
end Mine
end

section
open PySem PySem.W PyProof.Rows PySem.Calls PyProof.V
namespace Mine
theorem ascii_pick {x : Str} (hx : IsAscii x) (l : List Nat) : IsAscii ⟨(l.filterMap (x.cps[·]?)).toArray⟩ := fun c hc => by
  rw [List.mem_toArray] at hc
  obtain ⟨i, _, hi⟩ := List.mem_filterMap.mp hc
  exact hx c (Array.mem_of_getElem? hi)
theorem ascii_slice {x : Str} (hx : IsAscii x) (l u : Option Int) : IsAscii (Txt.slice x l u) := by
  unfold Txt.slice
  split
  · exact hx
  · exact ascii_pick hx _
theorem ascii_sliceBy {x : Str} (hx : IsAscii x) (l u : Option (Int × Tok)) (st : Int × Tok) : IsAscii (Txt.sliceBy x l u st) := by
  unfold Txt.sliceBy
  split
  · exact hx
  · exact ascii_pick hx _
theorem ascii_append {x y : Str} (hx : IsAscii x) (hy : IsAscii y) : IsAscii (x ++ y) := fun c hc => by
  have hc : c ∈ x.cps ++ y.cps := hc
  rcases Array.mem_append.mp hc with h | h
  · exact hx c h
  · exact hy c h
theorem ascii_item {x : Str} (hx : IsAscii x) (i : Int) : IsAscii (Txt.item x i) := fun c hc => by
  have hc : c ∈ #[(Txt.charAt x i).getD 0] := hc
  rw [Array.mem_singleton] at hc
  subst hc
  unfold Txt.charAt
  cases h : seqIndex? i x.length with
  | none => show 0 < 128; decide
  | some k =>
    show ((x.cps[k]?).getD 0) < 128
    cases h2 : x.cps[k]? with
    | none => show 0 < 128; decide
    | some d => exact hx d (Array.mem_of_getElem? h2)
theorem ascii_figures : IsAscii (Str.ofString "0123456789ABCDEFGHIJKLMNOPQRSTUVWXYZabcdefghijklmnopqrstuvwxyz") := by
  have h : (Str.ofString "0123456789ABCDEFGHIJKLMNOPQRSTUVWXYZabcdefghijklmnopqrstuvwxyz").cps.all (fun c => decide (c < 128)) = true := by decide +kernel
  intro c hc
  obtain ⟨i, hi⟩ := Array.getElem?_of_mem hc
  obtain ⟨hlt, e⟩ := Array.getElem?_eq_some_iff.mp hi
  have := Array.all_eq_true.mp h i hlt
  rw [e] at this
  exact of_decide_eq_true this
theorem ascii_one : IsAscii (Str.ofString "1") := fun c hc => by
  rw [one_cps, Array.mem_singleton] at hc
  omega
theorem str_append_length (x y : Str) : (x ++ y).length = x.length + y.length := by
  show (x.cps ++ y.cps).size = _
  rw [Array.size_append]
  rfl
/-- a turned text -/
def Turned (v : Value) : Prop := ∃ (y : Str) (t : Tok), v = .str y t ∧ IsAscii y ∧ y.length ≤ 105
theorem five {a b c d e : Value} (ha : Turned a) (hb : Turned b) (hc : Turned c) (hd : Turned d) (he : Turned e) : ∀ (i : Nat) (v : Value), (#[a, b, c, d, e] : Array Value)[i]? = some v → Turned v := by
  intro i v h
  have hm := Array.mem_of_getElem? h
  simp at hm
  rcases hm with rfl | rfl | rfl | rfl | rfl <;> assumption
section
variable {prog : Program} {w : World} {A : Around} {E : Value → Shared → Prop} {s : Shared} {env : Env} {h₀ : Heap} {x : Str} {body : List Stmt} {Q : Flow → Shared → Prop} {m₀ : Str → Option Value} {news : List (Addr × Obj)}
theorem iterTup {l : Addr} {items : Array Value} (J : Nat → (Str → Option Value) → List (Addr × Obj) → Prop) (hh : A.handled = none)
    (hl : s.heap.IsTuple l items) (hlL : l ≠ env.locals) (hln : ∀ p ∈ news, p.1 ≠ l) (F : Fr h₀ env.locals s.heap m₀) (N : News h₀ env.locals s.heap news) (hj : J 0 m₀ news)
    (turn : Turn prog w A E s env h₀ x body Q news items.size (fun i v => items[i]? = some v) J) (done : Done s env h₀ Q items.size J) :
    wpAny (model prog w) A (pyIter (.ref l)) (fun it s₂ => LoopAtV prog w A h₀ env x body Q E it s₂) E s := by
  have hlt : l < s.heap.objs.size := by
    obtain ⟨o, ho, _⟩ := id hl
    exact Heap.lt_size ho
  refine wpAny_pyIter_tuple hl ?_
  have W := Walks.tuple (prog := prog) (w := w) hh s.heap.objs.size l (Nat.ne_of_lt hlt) items
  refine loop_invN J W ?_ ?_ ?_ ?_ ⟨⟨_, Heap.get?_push_size _ rfl, rfl, rfl⟩, hl.at fun o e => Heap.get?_push_of_some _ e⟩ (F.push _) (fun p hp => ⟨Heap.get?_push_of_some _ (N p hp).1, (N p hp).2⟩) hj turn done
  · intro hm
    rcases List.mem_cons.mp hm with e | hm
    · exact absurd F.ns.lt (e ▸ Nat.lt_irrefl _)
    · exact hlL (List.mem_singleton.mp hm).symm
  · intro b' hb
    rw [List.mem_singleton.mp hb]
    exact next_is_new F
  · intro p hp hI
    exact absurd (Heap.lt_size (N p hp).1) ((List.mem_singleton.mp hI) ▸ Nat.lt_irrefl _)
  · intro p hp hI
    rcases List.mem_cons.mp hI with e | hI
    · exact absurd (Heap.lt_size (N p hp).1) (e ▸ Nat.lt_irrefl _)
    · exact hln p hp (List.mem_singleton.mp hI)
end
end Mine
end

section
open PySem PySem.W PyProof.Rows PySem.Calls PyProof.V
namespace Mine
theorem has_bytes_len : typeLookup (.type "bytes") "__len__" = pure (some (.builtin "bytes.__len__")) := by rw [typeLookup_type, builtinLookup_eq_fast]; kernel_rfl
/-- the i-th octet, as an int -/
def OctAt (b : Array UInt8) (i : Nat) (v : Value) : Prop := ∃ c u, b[i]? = some c ∧ v = .int (c.toNat : Int) u
section
variable {prog : Program} {w : World} {A : Around} {E : Value → Shared → Prop} {s : Shared}

theorem extend_bytes {R : Result → Shared → Prop} (hh : A.handled = none) (b : Array UInt8) (t : Tok) (S : Addr) (res : Value) (c₀ : Nat) (hS : s.heap.get? S = some { cls := .type "list", data := .seq #[] c₀ })
    (hR : ∀ h' tk acc' c', (∀ a o, a ≠ S → s.heap.get? a = some o → h'.get? a = some o) → h'.get? S = some { cls := .type "list", dict := none, data := .seq acc' c', slots := #[] } →
      ItemsOf (OctAt b) acc' b.size → R (.ok (.ret res)) { s with heap := h', toks := tk }) (hn : b.size ≤ sizeLine) :
    wpAny (model prog w) A.in1 (Builtin.List.listExtendWith (.ref S) (.bytes b t) res)
      (fun fin s' => match fin with | .done f => R (.ok f) s' | .again c' => c'.quiet = true ∧ codeAny (model prog w) A c' R s') (fun e s' => R (.error e) s') s := by
  have hSI : S ≠ s.heap.objs.size := Nat.ne_of_lt (Heap.lt_size hS)
  have hSf : S ∉ [s.heap.objs.size] := fun hm => hSI (List.mem_singleton.mp hm)
  unfold Builtin.List.listExtendWith
  refine wpAny_bind (wpAny_typeOf (T := "bytes") (v := .bytes b t) rfl ?_)
  have h1 : Builtin.List.listSameRef (.ref S) (.bytes b t) = false := rfl
  have h2 : (Value.type "bytes" == Value.type "list") = false := by decide
  have h3 : (Value.type "bytes" == Value.type "tuple") = false := by decide
  simp only [h1, h2, h3, Bool.or_false, Bool.false_eq_true, if_false]
  refine wpAny_bind (KBw.pyIter_bytes ?_)
  refine wpAny_bind (wpAny_holding ?_)
  unfold Builtin.List.listLengthHint
  refine wpAny_bind (wpAny_specialOf (T := "bytes") (v := .bytes b t) rfl has_bytes_len ?_)
  wp_delta
  refine wpAny_bind (wpAny_isInstance (T := "bytes") (v := .bytes b t) (b := true) rfl (by rw [isSubtype_type]; kernel_rfl) ?_)
  show wpAny _ _ (typeOf (Value.bytes b t) >>= _) _ _ _
  refine wpAny_bind (wpAny_typeOf (T := "bytes") (v := .bytes b t) rfl ?_)
  refine wpAny_pure ?_
  rw [if_neg (by decide)]
  have W := (KBw.walks (prog := prog) (w := w) (A := A.in1) hh s.heap.objs.size b t).toS
  refine wpAny_pure ⟨plainId_quiet F.plain_extend_loop _, codeAny_extend_loopS W hn _ hSf _ b.size 0 _ _ _ rfl (Nat.zero_le _) ⟨_, Heap.get?_push_size _ rfl, rfl, rfl⟩ (Heap.get?_push_of_some _ hS) (ItemsOf.nil _) fun s' acc' c' hm hS' hacc => ?_⟩
  rw [Moved.eq_with hm]
  refine hR s'.heap s'.toks acc' c' (fun b ob hb e => hm.heap b ob (fun hmem => ?_) (Heap.get?_push_of_some _ e)) hS' hacc
  rcases List.mem_cons.mp hmem with e' | hmem
  · exact hb e'
  · exact absurd (Heap.lt_size e) (by rw [List.mem_singleton.mp hmem]; exact Nat.lt_irrefl _)

theorem list_init_bytes {R : Result → Shared → Prop} (hh : A.handled = none) (b : Array UInt8) (t : Tok) (S : Addr) (hS : s.heap.get? S = some { cls := .type "list", data := .seq #[] })
    (hR : ∀ h' tk acc' c', (∀ a o, a ≠ S → s.heap.get? a = some o → h'.get? a = some o) → h'.get? S = some { cls := .type "list", dict := none, data := .seq acc' c', slots := #[] } →
      ItemsOf (OctAt b) acc' b.size → R (.ok (.ret .none)) { s with heap := h', toks := tk }) (hn : b.size ≤ sizeLine) :
    wpAny (model prog w) A.in1 (Builtin.«list.__init__» ⟨[.ref S, .bytes b t], []⟩)
      (fun fin s' => match fin with | .done f => R (.ok f) s' | .again c' => c'.quiet = true ∧ codeAny (model prog w) A c' R s') (fun e s' => R (.error e) s') s := by
  show wpAny _ _ (do let old ← Builtin.List.listItems (.ref S); Builtin.List.listUpdate (.ref S) (fun _ => #[]); letGo old.toList.reverse; Builtin.List.listExtendWith (.ref S) (.bytes b t) .none) _ _ s
  refine wpAny_bind ?_
  unfold Builtin.List.listItems
  refine wpAny_bind (wpAny_seqItems hS rfl (wpAny_pure ?_))
  show wpAny _ _ (updateSeq S (fun _ => #[]) >>= fun _ => letGo (#[] : Array Value).toList.reverse >>= fun _ => Builtin.List.listExtendWith (.ref S) (.bytes b t) .none) _ _ s
  refine wpAny_bind (wpAny_updateSeq hS rfl ?_)
  have hS₂ := Heap.get?_update_self (Obj.mapSeq (fun _ => (#[] : Array Value))) hS rfl
  have oth : ∀ a o, a ≠ S → s.heap.get? a = some o → (s.heap.update S (Obj.mapSeq (fun _ => (#[] : Array Value)))).get? a = some o :=
    fun a o hb e => (Heap.get?_update_other _ _ (Ne.symm hb)).trans e
  refine wpAny_bind (wpAny_letGo ?_)
  refine extend_bytes (hn := hn) hh b t S .none _ hS₂ fun h' tk acc' c' hk hS' hacc => ?_
  exact hR h' tk acc' c' (fun a o hb e => hk a o hb (oth a o hb e)) hS' hacc

theorem list_bytes {Q : Value → Shared → Prop} (hh : A.handled = none) (b : Array UInt8) (t : Tok)
    (hQ : ∀ h' tk acc' c', (∀ a o, s.heap.get? a = some o → h'.get? a = some o) →
      h'.get? s.heap.objs.size = some { cls := .type "list", dict := none, data := .seq acc' c', slots := #[] } → ItemsOf (OctAt b) acc' b.size → Q (.ref s.heap.objs.size) { s with heap := h', toks := tk }) (hn : b.size ≤ sizeLine) :
    wpAny (model prog w) A (call (.type "list") [.bytes b t]) Q E s := by
  refine callType_codes (Q₁ := fun obj s₁ => obj = .ref s.heap.objs.size ∧ s₁ = { s with heap := s.heap.push { cls := .type "list", data := .seq #[] } }) F.called_list (F.typeCall_list_1 _) F.entry_list_init
    (code_list_new _ ⟨rfl, rfl⟩) fun obj s₁ h₁ => ?_
  obtain ⟨rfl, rfl⟩ := h₁
  have hS : (s.heap.push { cls := .type "list", data := .seq #[] }).get? s.heap.objs.size = some { cls := .type "list", data := .seq #[] } := Heap.get?_push_size _ rfl
  refine ⟨⟨_, hS, rfl⟩, F.args_list_init_2 _ _, list_init_bytes (A := A.in1) (hn := hn) hh b t _ hS fun h' tk acc' c' hk hS' hacc => ?_⟩
  exact ⟨rfl, hQ h' tk acc' c' (fun a o e => hk a o (Nat.ne_of_lt (Heap.lt_size e)) (Heap.get?_push_of_some _ e)) hS' hacc⟩

variable {h₀ : Heap} {L : Addr} {m : Str → Option Value} {news : List (Addr × Obj)}
theorem ints_of_octs : ∀ (vs : List Value) (l : List UInt8), vs.length = l.length → (∀ (j : Nat) (v : Value), vs[j]? = some v → ∃ c u, l[j]? = some c ∧ v = .int ((c : UInt8).toNat : Int) u) → IntsAre vs (l.map fun c => (c.toNat : Int))
  | [], [], _, _ => IntsAre.nil
  | [], _ :: _, e, _ => by cases e
  | _ :: _, [], e, _ => by cases e
  | v :: r, c :: l, e, h => by
    obtain ⟨c', u, hc, rfl⟩ := h 0 v rfl
    have : c = c' := Option.some.inj hc
    subst this
    exact IntsAre.cons _ _ (ints_of_octs r l (Nat.succ.inj e) fun j v hj => h (j + 1) v hj)
theorem list_bytesN {Q : Value → Shared → Prop} {b : Array UInt8} {t : Tok} (hh : A.handled = none) (F : Fr h₀ L s.heap m) (N : News h₀ L s.heap news) (hn : b.size ≤ 1000)
    (h : ∀ D us c h' tk, Fr h₀ L h' m → News h₀ L h' ((D, listOf (List.toArray us) c) :: news) → (∀ p ∈ news, p.1 < D) → IntsAre us (b.toList.map fun c => (c.toNat : Int)) → Q (.ref D) { s with heap := h', toks := tk }) :
    wpAny (model prog w) A (call (.type "list") [.bytes b t]) Q E s := by
  refine list_bytes hh b t (fun h' tk acc c hk hD hI => ?_) (Nat.le_trans hn (by rw [sizeLine_eq]; decide))
  have hD' : h'.get? s.heap.objs.size = some (listOf (List.toArray acc.toList) c) := by
    rw [Array.toArray_toList]
    exact hD
  refine h _ acc.toList c h' tk (F.keeps hk) (news_pushed F N hk hD' rfl) (fun p hp => Heap.lt_size (N p hp).1) (ints_of_octs _ _ (by rw [Array.length_toList, Array.length_toList]; exact hI.1) fun j v hj => ?_)
  obtain ⟨c', u, h1, h2⟩ := hI.2 j v (by rw [← hj, Array.getElem?_toList])
  exact ⟨c', u, by rw [Array.getElem?_toList]; exact h1, h2⟩
end
theorem newsHead {h₀ h : Heap} {L : Addr} {x : Addr × Obj} {news : List (Addr × Obj)} (N : News h₀ L h (x :: news)) : News h₀ L h [x] := fun p hp => by
  rw [List.mem_singleton.mp hp]
  exact N x (List.Mem.head _)
section
variable {prog : Program} {w : World} {A : Around} {E : Value → Shared → Prop} {s : Shared} {h₀ : Heap} {L D : Addr} {m : Str → Option Value} {rest : List (Addr × Obj)} {us : List Value} {n : Nat}
theorem list_append {x : Value} {Q : Value → Shared → Prop} (F : Fr h₀ L s.heap m) (N : News h₀ L s.heap ((D, listOf (List.toArray us) n) :: rest)) (hr : ∀ p ∈ rest, p.1 ≠ D) (hz : us.length ≤ 1000)
    (h : ∀ h', Fr h₀ L h' m → News h₀ L h' ((D, listOf (List.toArray (us ++ [x])) (n + 1)) :: rest) → Q .none { s with heap := h' }) : wpAny (model prog w) A (call (.builtin "list.append") [.ref D, x]) Q E s := by
  refine append_K F N (.head hr) (fun h' F' N' => h h' F' ?_) (by rw [List.size_toArray]; exact Nat.le_trans hz (by rw [sizeLine_eq]; decide))
  rw [List.push_toArray] at N'
  exact N'
theorem list_pop0 {y : Value} {u : Tok} {Q : Value → Shared → Prop} (F : Fr h₀ L s.heap m) (N : News h₀ L s.heap ((D, listOf (List.toArray (y :: us)) n) :: rest)) (hr : ∀ p ∈ rest, p.1 ≠ D) (hz : us.length ≤ 1000)
    (h : ∀ h', Fr h₀ L h' m → News h₀ L h' ((D, listOf (List.toArray us) (n + 1)) :: rest) → Q y { s with heap := h' }) : wpAny (model prog w) A (call (.builtin "list.pop") [.ref D, .int 0 u]) Q E s := by
  refine kl_popAt (p := []) (q := us) (k := 0) F N (by rfl) ?_ rfl (.head hr) (by show (y :: us).length ≤ _; rw [List.length_cons]; exact Nat.le_trans (Nat.succ_le_succ hz) (by rw [sizeLine_eq]; decide)) h
  show seqIndex? 0 (List.toArray (y :: us)).size = some 0
  rw [List.size_toArray, List.length_cons]
  unfold seqIndex?
  simp
  try omega
theorem ints_push : ∀ {vs : List Value} {ns : List Int} {k : Int} {t : Tok}, IntsAre vs ns → IntsAre (vs ++ [.int k t]) (ns ++ [k])
  | _, _, _, _, .nil => IntsAre.cons _ _ .nil
  | _, _, _, _, .cons n t r => IntsAre.cons _ _ (ints_push r)
theorem ints_pushN {vs : List Value} {ns : List Nat} {k : Nat} {t : Tok} (h : IntsAre vs (ns.map fun (c : Nat) => (c : Int))) : IntsAre (vs ++ [.int (k : Int) t]) ((ns ++ [k]).map fun (c : Nat) => (c : Int)) := by
  rw [List.map_append]
  exact ints_push h
theorem ints_consN {y : Value} {vs : List Value} {ns : List Nat} (h : IntsAre (y :: vs) (ns.map fun (c : Nat) => (c : Int))) : ∃ k t ks, ns = k :: ks ∧ y = .int ((k : Nat) : Int) t ∧ IntsAre vs (ks.map fun (c : Nat) => (c : Int)) := by
  cases ns with
  | nil => cases h
  | cons k ks =>
    cases h with
    | cons n t r => exact ⟨k, t, ks, rfl, rfl, r⟩
end
end Mine
end

section
open PySem PySem.W PyProof.Rows PySem.Calls
open Sem (wp)
namespace Mine
theorem uni_typeOf_start : typeOf (.builtin "UnicodeEncodeError.start") = pure (.type "member_descriptor") := by show builtinType _ = _; rw [builtinType_eq_fast]; kernel_rfl
theorem uni_slot_get : Slot "member_descriptor" "__get__" "member_descriptor.__get__" :=
  .of (owner := "member_descriptor") (n := "__get__") (by rw [typeLookup_type, builtinLookup_eq_fast]; kernel_rfl) (by decide +kernel) (by decide +kernel) (by decide +kernel)
    (by first | exact .inl (by decide +kernel) | exact .inr (by decide +kernel)) (by rw [isSubtype_type]; kernel_rfl)
theorem uni_slot_set : Slot "member_descriptor" "__set__" "member_descriptor.__set__" :=
  .of (owner := "member_descriptor") (n := "__set__") (by rw [typeLookup_type, builtinLookup_eq_fast]; kernel_rfl) (by decide +kernel) (by decide +kernel) (by decide +kernel)
    (by first | exact .inl (by decide +kernel) | exact .inr (by decide +kernel)) (by rw [isSubtype_type]; kernel_rfl)
theorem uni_entry_get : entryFor table "member_descriptor.__get__" = some Builtin.«member_descriptor.__get__» := entryFor_of_tree (by kernel_rfl)
theorem uni_args_get (a b c : Value) : argsOk "member_descriptor.__get__" ⟨[a, b, c], []⟩ := by unfold argsOk; kernel_rfl
theorem uni_entry_start : entryFor table "UnicodeEncodeError.start" = some Builtin.«UnicodeEncodeError.start» := entryFor_of_tree (by kernel_rfl)
theorem uni_owner_start : (".".intercalate ("UnicodeEncodeError.start".cutAt '.').dropLast) = "UnicodeEncodeError" := by
  have e0 : "UnicodeEncodeError.start".cutAt '.' = ["UnicodeEncodeError", "start"] := by first | rfl | decide +kernel
  rw [e0]; decide +kernel
theorem uni_ga : Slot "UnicodeEncodeError" "__getattribute__" "BaseException.__getattribute__" := .of (owner := "BaseException") (n := "__getattribute__") (by rw [typeLookup_type, builtinLookup_eq_fast]; kernel_rfl) (by decide +kernel) (by decide +kernel) (by decide +kernel)
    (by first | exact .inl (by decide +kernel) | exact .inr (by decide +kernel)) (by rw [isSubtype_type]; kernel_rfl)
theorem uni_lk : typeLookup (.type "UnicodeEncodeError") "start" = pure (some (.builtin "UnicodeEncodeError.start")) := by rw [typeLookup_type, builtinLookup_eq_fast]; kernel_rfl
theorem uni_sub : isSubtype (.type "UnicodeEncodeError") (.type "UnicodeEncodeError") = pure true := by rw [isSubtype_type]; kernel_rfl
section
variable {prog : Program} {w : World} {A : Around} {E : Value → Shared → Prop} {h : Heap} {g : Array GenState} {d : Drawn} {t : Nat} {os : OsState} {a : Addr} {o : Obj} {vs : Array Value} {enc ob re : Value} {i j : Int} {ti tj : Tok}

theorem uni_members {Q : Builtin.UnicodeEncodeError.Members → Shared → Prop} {s : Shared} {M : Model} (hx : s.heap.get? a = some o) (hd : o.data = .fields vs) (hm : (vs.extract 6).toList = [enc, ob, .int i ti, .int j tj, re])
    (hq : Q { encoding := enc, object := ob, start := i, stop := j, reason := re } s) : wpAny M A (Builtin.UnicodeEncodeError.members (.ref a)) Q E s := by
  unfold Builtin.UnicodeEncodeError.members fieldsOf
  refine wpAny_bind (wpAny_bind (wpAny_load hx ?_))
  rw [hd]
  refine wpAny_pure ?_
  rw [hm]
  exact wpAny_pure hq
theorem uni_get {R : Result → Shared → Prop} (hx : h.get? a = some o) (hc : o.cls = .type "UnicodeEncodeError") (hd : o.data = .fields vs) (hm : (vs.extract 6).toList = [enc, ob, .int i ti, .int j tj, re]) (hq : R (.ok (.ret (.int i t))) ⟨h, g, d, t + 1, os⟩) :
    codeAny (model prog w) A (.call (.builtin "member_descriptor.__get__") ⟨[.builtin "UnicodeEncodeError.start", .ref a, .type "UnicodeEncodeError"], []⟩) R ⟨h, g, d, t, os⟩ := by
  have hT : (⟨h, g, d, t, os⟩ : Shared).TypeIs (.ref a) "UnicodeEncodeError" := ⟨_, hx, hc⟩
  have hT5 : (⟨h, g, d, t, os⟩ : Shared).TypeIs (.builtin "UnicodeEncodeError.start") "member_descriptor" := uni_typeOf_start
  have f8 : isSubtype (.type "UnicodeEncodeError") (.type (".".intercalate ("UnicodeEncodeError.start".cutAt '.').dropLast)) = pure true := by rw [uni_owner_start]; exact uni_sub
  refine codeAny_call_builtin uni_slot_get.plain uni_entry_get (uni_slot_get.check _ _ _ _ _ _ _ _ hT5 (uni_args_get _ _ _) ?_)
  repeat (any_goals (first | assumption | wp_step))
  refine ⟨Code.quiet_builtin _ (by decide +kernel), codeAny_builtin uni_entry_start ?_⟩
  unfold Builtin.«UnicodeEncodeError.start» Builtin.UnicodeEncodeError.sizeGet
  refine wpAny_bind (uni_members hx hd hm ?_)
  repeat (any_goals (first | assumption | wp_step))

theorem uni_entry {tk : Tok} {Q : Fin → Shared → Prop} (hx : h.get? a = some o) (hc : o.cls = .type "UnicodeEncodeError") (hd : o.data = .fields vs) (hm : (vs.extract 6).toList = [enc, ob, .int i ti, .int j tj, re]) (hq : Q (.done (.ret (.int i t))) ⟨h, g, d, t + 1, os⟩) :
    wpAny (model prog w) A (Builtin.«object.__getattribute__» ⟨[.ref a, .str "start" tk], []⟩) Q E ⟨h, g, d, t, os⟩ := by
  have hT : (⟨h, g, d, t, os⟩ : Shared).TypeIs (.ref a) "UnicodeEncodeError" := ⟨_, hx, hc⟩
  have hT5 : (⟨h, g, d, t, os⟩ : Shared).TypeIs (.builtin "UnicodeEncodeError.start") "member_descriptor" := uni_typeOf_start
  have f4 := uni_lk
  have f5 := uni_typeOf_start
  have f6 := uni_slot_get.lookup
  have f7 := uni_slot_set.lookup
  repeat (any_goals (first | assumption | wp_step))
  refine uni_get hx hc hd hm ?_
  repeat (any_goals (first | assumption | wp_step))

theorem uni_call {tk : Tok} {R : Result → Shared → Prop} (hx : h.get? a = some o) (hc : o.cls = .type "UnicodeEncodeError") (hd : o.data = .fields vs) (hm : (vs.extract 6).toList = [enc, ob, .int i ti, .int j tj, re]) (hq : R (.ok (.ret (.int i t))) ⟨h, g, d, t + 1, os⟩) :
    codeAny (model prog w) A (.call (.builtin "BaseException.__getattribute__") ⟨[.ref a, .str "start" tk], []⟩) R ⟨h, g, d, t, os⟩ :=
  codeAny_call_builtin uni_ga.plain F.entry_bexc_ga (uni_ga.check _ _ _ _ _ _ _ _ (show (⟨h, g, d, t, os⟩ : Shared).TypeIs (.ref a) "UnicodeEncodeError" from ⟨_, hx, hc⟩) (F.args_bexc_ga _ _) (uni_entry hx hc hd hm hq))

theorem uni_by {tk : Tok} {fill expr : Bool} {Q : Value → Shared → Prop} (hx : h.get? a = some o) (hc : o.cls = .type "UnicodeEncodeError") (hd : o.data = .fields vs) (hm : (vs.extract 6).toList = [enc, ob, .int i ti, .int j tj, re])
    (hq : Q (.int i t) ⟨h, g, d, t + 1, os⟩) : wpAny (model prog w) A (getAttrBy (.ref a) (.str "start" tk) fill expr) Q E ⟨h, g, d, t, os⟩ := by
  have hT : (⟨h, g, d, t, os⟩ : Shared).TypeIs (.ref a) "UnicodeEncodeError" := ⟨_, hx, hc⟩
  have f2 := uni_ga.lookup
  have f3 := uni_ga.bind (.ref a)
  have hx0 : (expr && onTheHeap (Value.builtin "BaseException.__getattribute__")) = false := by cases expr <;> rfl
  repeat (any_goals (first | assumption | wp_step))
  refine uni_call hx hc hd hm ?_
  repeat (any_goals (first | assumption | wp_step))

theorem uni_start {expr : Bool} {Q : Value → Shared → Prop} (hx : h.get? a = some o) (hc : o.cls = .type "UnicodeEncodeError") (hd : o.data = .fields vs) (hm : (vs.extract 6).toList = [enc, ob, .int i ti, .int j tj, re])
    (hq : Q (.int i (t + 1)) ⟨h, g, d, t + 1 + 1, os⟩) : wpAny (model prog w) A (getAttr (.ref a) "start" expr) Q E ⟨h, g, d, t, os⟩ := by
  unfold getAttr
  repeat (any_goals (first | assumption | with_reducible apply uni_by hx hc hd hm | wp_step))
end
end Mine
end

section
open PySem PySem.W PyProof.Rows PySem.Calls PySem.Builtin.UnicodeEncodeError
open Sem (wp)
namespace Mine
abbrev uniObj (vs : Array Value) : Obj := { cls := .type "UnicodeEncodeError", data := .fields vs }
section
variable {M : Model} {A : Around} {E : Value → Shared → Prop} {s : Shared} {e : Addr} {vs : Array Value}
theorem uni_noM {Q : Members → Shared → Prop} (he : s.heap.get? e = some (uniObj vs)) (hm : (vs.extract 6).toList = []) (hq : Q {} s) : wpAny M A (members (.ref e)) Q E s := by
  unfold members fieldsOf
  refine wpAny_bind (wpAny_bind (wpAny_load he ?_))
  refine wpAny_pure ?_
  rw [hm]
  exact wpAny_pure hq
theorem uni_set {m : Members} {Q : Unit → Shared → Prop} (he : s.heap.get? e = some (uniObj vs)) (hz : vs.size ≤ 100)
    (h : ∀ h', (∀ b o, b ≠ e → s.heap.get? b = some o → h'.get? b = some o) → h'.get? e = some (uniObj (vs.extract 0 6 ++ #[m.encoding, m.object, rawInt m.start, rawInt m.stop, m.reason])) → Q () { s with heap := h' }) :
    wpAny M A (setMembers (.ref e) m) Q E s := by
  unfold setMembers
  refine wpAny_updateFields he rfl (h _ (fun b o hb hg => (Heap.get?_update_other _ _ (Ne.symm hb)).trans hg) (Heap.get?_update_self _ he rfl)) ?_
  simp only [Array.size_append, Array.size_extract]
  show _ + 5 ≤ _
  rw [sizeLine_eq]
  omega
theorem uni_setField0 {x : Value} {Q : Unit → Shared → Prop} (he : s.heap.get? e = some (uniObj vs)) (hz : 0 < vs.size)
    (h : ∀ h', (∀ b o, b ≠ e → s.heap.get? b = some o → h'.get? b = some o) → h'.get? e = some (uniObj (vs.setIfInBounds 0 x)) → Q () { s with heap := h' }) :
    wpAny M A (setField (.ref e) 0 x) Q E s :=
  wpAny_setField he rfl hz (h _ (fun b o hb hg => (Heap.get?_update_other _ _ (Ne.symm hb)).trans hg) (Heap.get?_update_self _ he rfl))
abbrev uni6 (t : Value) : Array Value := #[t, .none, .none, .none, .bool false, .none]
abbrev uni11 (t enc ob i j re : Value) : Array Value := #[t, .none, .none, .none, .bool false, .none, enc, ob, i, j, re]
theorem uni_six (t enc ob i j re : Value) : (uni6 t).extract 0 6 ++ #[enc, ob, i, j, re] = uni11 t enc ob i j re := by simp [uni6, uni11]
theorem uni_eleven (t enc ob i j re enc' ob' i' j' re' : Value) : (uni11 t enc ob i j re).extract 0 6 ++ #[enc', ob', i', j', re'] = uni11 t enc' ob' i' j' re' := by simp [uni11]
theorem uni_none6 (t : Value) : ((uni6 t).extract 6).toList = [] := by simp [uni6]
theorem uni_last (t enc ob i j re : Value) : ((uni11 t enc ob i j re).extract 6).toList = [enc, ob, i, j, re] := by simp [uni11]
theorem uni_zero (t t' : Value) : (uni6 t).setIfInBounds 0 t' = uni6 t' := by simp [uni6]
theorem uni_set6 {m : Members} {t : Value} {Q : Unit → Shared → Prop} (he : s.heap.get? e = some (uniObj (uni6 t)))
    (h : ∀ h', (∀ b o, b ≠ e → s.heap.get? b = some o → h'.get? b = some o) → h'.get? e = some (uniObj (uni11 t m.encoding m.object (rawInt m.start) (rawInt m.stop) m.reason)) → Q () { s with heap := h' }) :
    wpAny M A (setMembers (.ref e) m) Q E s :=
  uni_set he (by show 6 ≤ 100; omega) fun h' k e' => h h' k (by rw [uni_six] at e'; exact e')
theorem uni_set11 {m : Members} {t enc ob i j re : Value} {Q : Unit → Shared → Prop} (he : s.heap.get? e = some (uniObj (uni11 t enc ob i j re)))
    (h : ∀ h', (∀ b o, b ≠ e → s.heap.get? b = some o → h'.get? b = some o) → h'.get? e = some (uniObj (uni11 t m.encoding m.object (rawInt m.start) (rawInt m.stop) m.reason)) → Q () { s with heap := h' }) :
    wpAny M A (setMembers (.ref e) m) Q E s :=
  uni_set he (by show 11 ≤ 100; omega) fun h' k e' => h h' k (by rw [uni_eleven] at e'; exact e')
theorem uni_mem11 {t enc ob re : Value} {i j : Int} {Q : Members → Shared → Prop} (he : s.heap.get? e = some (uniObj (uni11 t enc ob (rawInt i) (rawInt j) re)))
    (h : Q { encoding := enc, object := ob, start := i, stop := j, reason := re } s) : wpAny M A (members (.ref e)) Q E s :=
  uni_members he rfl (uni_last _ _ _ _ _ _) h
theorem uni_str {id : String} {k : Nat} {x : Str} {t : Tok} {Q : Unit → Shared → Prop} (h : Q () s) : wpAny M A (strArgument id k (.str x t)) Q E s := by
  unfold strArgument
  refine wpAny_bind (m := asStr? _) (wpAny_pure ?_)
  rw [if_neg (by simp)]
  exact wpAny_pure h
theorem uni_int {id : String} {i : Int} {t : Tok} {Q : Int → Shared → Prop} (h0 : 0 ≤ i) (h1 : i < 1000) (h : Q i s) : wpAny M A (sizeArgument id (.int i t)) Q E s := by
  unfold sizeArgument asIndex
  refine wpAny_bind (wpAny_bind (m := asInt? _) (wpAny_pure (wpAny_pure ?_)))
  rw [if_neg]
  · exact wpAny_pure h
  · simp
    omega
theorem uni_init {Q : Fin → Shared → Prop} {x0 : Value} {enc x re : Str} {te tx ti tj tr : Tok} (he : s.heap.get? e = some (uniObj (uni6 x0)))
    (h : ∀ h' t, (∀ b o, b ≠ e → s.heap.get? b = some o → h'.get? b = some o) → h'.get? e = some (uniObj (uni11 (.ref t) (.str enc te) (.str x tx) (rawInt 0) (rawInt 1) (.str re tr))) → Q (.done (.ret .none)) { s with heap := h' }) :
    wpAny M A (Builtin.«UnicodeEncodeError.__init__» ⟨[.ref e, .str enc te, .str x tx, .int 0 ti, .int 1 tj, .str re tr], []⟩) Q E s := by
  unfold Builtin.«UnicodeEncodeError.__init__» beginInit
  dsimp only
  refine wpAny_bind (wpAny_bind ?_)
  refine (wpAny_field he rfl (x := x0) rfl ?_)
  refine wpAny_bind (wpAny_newTuple ?_ (by rw [sizeLine_eq]; show 5 ≤ 16777216; omega))
  have he0 := Heap.get?_push_of_some { cls := .type "tuple", data := .seq (List.toArray [Value.str enc te, .str x tx, .int 0 ti, .int 1 tj, .str re tr]) } he
  refine wpAny_bind (uni_setField0 he0 (by show 0 < 6; omega) fun h1 k1 e1 => ?_)
  rw [uni_zero] at e1
  have k1' : ∀ b o, b ≠ e → s.heap.get? b = some o → h1.get? b = some o := fun b o hb hg => k1 b o hb (Heap.get?_push_of_some _ hg)
  refine wpAny_bind (wpAny_letGo ?_)
  rw [if_pos (by decide)]
  refine wpAny_bind (uni_noM e1 (uni_none6 _) ?_)
  refine wpAny_bind (uni_set6 e1 fun h2 k2 e2 => ?_)
  refine wpAny_bind (wpAny_letGo ?_)
  refine wpAny_bind (uni_mem11 (s := { s with heap := h2 }) e2 ?_)
  refine wpAny_bind (uni_set11 e2 fun h3 k3 e3 => ?_)
  refine wpAny_bind (wpAny_letGo ?_)
  refine wpAny_bind (uni_mem11 (s := { s with heap := h3 }) e3 ?_)
  refine wpAny_bind (uni_set11 e3 fun h4 k4 e4 => ?_)
  refine wpAny_bind (wpAny_letGo ?_)
  rw [if_neg (by show ¬ ((5 != 5) = true); decide)]
  refine wpAny_pure ?_
  dsimp only
  refine wpAny_bind (uni_str ?_)
  refine wpAny_bind (uni_str ?_)
  unfold initRange
  refine wpAny_bind (wpAny_bind (uni_int (by omega) (by omega) ?_))
  refine wpAny_bind (uni_mem11 (s := { s with heap := h4 }) e4 ?_)
  refine wpAny_bind (uni_set11 e4 fun h5 k5 e5 => ?_)
  refine wpAny_bind (uni_int (by omega) (by omega) ?_)
  refine wpAny_bind (uni_mem11 (s := { s with heap := h5 }) e5 ?_)
  refine (uni_set11 e5 fun h6 k6 e6 => ?_)
  refine wpAny_bind (uni_str ?_)
  refine wpAny_bind (uni_mem11 (s := { s with heap := h6 }) e6 ?_)
  refine wpAny_bind (uni_set11 e6 fun h7 k7 e7 => ?_)
  exact wpAny_pure (h h7 _ (fun b o hb hg => k7 b o hb (k6 b o hb (k5 b o hb (k4 b o hb (k3 b o hb (k2 b o hb (k1' b o hb hg))))))) e7)
end
theorem uni_newFacts : ExcNewFacts "UnicodeEncodeError" "UnicodeEncodeError.__new__" where
  ends := by decide +kernel
  owner := by decide +kernel
  entry := entryFor_alias (id' := "BaseException.__new__") (by rw [fastTable_eq_tree]; kernel_rfl) (by first | rfl | decide +kernel) (by decide +kernel) (by rw [fastTable_eq_tree]; kernel_rfl)
  sub := by rw [isSubtype_type]; kernel_rfl
  notAttr := by rw [isSubtype_type]; kernel_rfl
  notName := by rw [isSubtype_type]; kernel_rfl
  made := by kernel_rfl
theorem uni_initSlot : Slot "UnicodeEncodeError" "__init__" "UnicodeEncodeError.__init__" := .of (owner := "UnicodeEncodeError") (n := "__init__") (by rw [typeLookup_type, builtinLookup_eq_fast]; kernel_rfl) (by decide +kernel) (by decide +kernel) (by decide +kernel)
    (by first | exact .inl (by decide +kernel) | exact .inr (by decide +kernel)) (by rw [isSubtype_type]; kernel_rfl)
theorem uni_mro : mroOf (.type "UnicodeEncodeError") = pure [.type "UnicodeEncodeError", .type "UnicodeError", .type "ValueError", .type "Exception", .type "BaseException", .type "object"] := by rw [mroOf_type]; kernel_rfl
theorem uni_called : TypeCalled "UnicodeEncodeError" "UnicodeEncodeError.__new__" "UnicodeEncodeError.__init__" where
  notType := by decide +kernel
  canCreate := by kernel_rfl
  mro := ⟨_, _, uni_mro⟩
  made := by kernel_rfl
  plain := by decide +kernel
  sub := by rw [isSubtype_type]; kernel_rfl
  init := uni_initSlot
theorem uni_initEntry : entryFor table "UnicodeEncodeError.__init__" = some Builtin.«UnicodeEncodeError.__init__» := entryFor_of_tree (by kernel_rfl)
theorem uni_typeCall (a b c d e : Value) : checkTypeCall "UnicodeEncodeError" ⟨[a, b, c, d, e], []⟩ = pure () := by kernel_rfl
theorem uni_newCall (a b c d e : Value) : checkBuiltinCall "UnicodeEncodeError.__new__" ⟨[.type "UnicodeEncodeError", a, b, c, d, e], []⟩ = pure () := by kernel_rfl
theorem uni_initArgs (o a b c d e : Value) : argsOk "UnicodeEncodeError.__init__" ⟨[o, a, b, c, d, e], []⟩ := by unfold argsOk; kernel_rfl
theorem uni_newQuiet : ("UnicodeEncodeError.__new__".startsWith "lifetime.") = false := by decide +kernel
section
variable {prog : Program} {w : World} {A : Around} {E : Value → Shared → Prop} {s : Shared}
/-- the exception, as it is made -/
structure UniExc (h h' : Heap) (e : Addr) (enc ob re : Value) : Prop where
  keeps : ∀ b o, h.get? b = some o → h'.get? b = some o
  new : h.get? e = none
  there : ∃ t, h'.get? e = some (uniObj (uni11 (.ref t) enc ob (rawInt 0) (rawInt 1) re))
theorem uni_make {enc x re : Str} {te tx ti tj tr : Tok} {Q : Value → Shared → Prop} (h : ∀ e h', UniExc s.heap h' e (.str enc te) (.str x tx) (.str re tr) → Q (.ref e) { s with heap := h' }) :
    wpAny (model prog w) A (call (.type "UnicodeEncodeError") [.str enc te, .str x tx, .int 0 ti, .int 1 tj, .str re tr]) Q E s := by
  obtain ⟨hp, g, d, tk, os⟩ := s
  refine callType_codes (Q₁ := fun obj s₁ => obj = .ref (hp.objs.size + 1) ∧ s₁ = ⟨(hp.push { cls := .type "tuple", data := .seq (List.toArray [Value.str enc te, .str x tx, .int 0 ti, .int 1 tj, .str re tr]) }).push (uniObj (uni6 (.ref hp.objs.size))), g, d, tk, os⟩)
    uni_called (uni_typeCall _ _ _ _ _) uni_initEntry ?_ ?_
  · refine codeAny_call_builtin_code (Code.quiet_builtin _ uni_newQuiet) (wpAny_of_eq (uni_newCall _ _ _ _ _) ?_)
    exact codeAny_exc_new uni_newFacts ⟨rfl, rfl⟩ (by rw [sizeLine_eq]; show 5 ≤ 16777216; omega)
  · rintro obj s₁ ⟨rfl, rfl⟩
    have he : ((hp.push { cls := .type "tuple", data := .seq (List.toArray [Value.str enc te, .str x tx, .int 0 ti, .int 1 tj, .str re tr]) }).push (uniObj (uni6 (.ref hp.objs.size)))).get? (hp.objs.size + 1) = some (uniObj (uni6 (.ref hp.objs.size))) := by
      exact Heap.get?_push_at (by simp only [Heap.size_push]) rfl
    refine ⟨⟨_, he, rfl⟩, uni_initArgs _ _ _ _ _ _, uni_init he fun h' t k e' => ?_⟩
    refine ⟨rfl, h _ _ ⟨fun b o hb => k b o (Nat.ne_of_lt (Nat.lt_succ_of_lt (Heap.lt_size hb))) (Heap.get?_push_of_some _ (Heap.get?_push_of_some _ hb)), Heap.get?_none_of_le (Nat.le_succ _), t, e'⟩⟩
end
end Mine
end

section
open PySem PySem.W PyProof.Rows PySem.Calls PySem.Builtin PySem.Builtin._codecs
open Sem (wp)
namespace Mine
section
variable {prog : Program} {w : World} {A : Around} {E : Value → Shared → Prop} {s : Shared}
theorem uni_fault {α : Type} {x : Str} {tx : Tok} {codec reason : String} {Q : α → Shared → Prop} (hh : A.handled = none) (hc : (Str.ofString codec).length ≤ 1000) (hr : (Str.ofString reason).length ≤ 1000)
    (h : ∀ e h' k te tr, UniExc s.heap h' e (.str (Str.ofString codec) te) (.str x tx) (.str (Str.ofString reason) tr) → E (.ref e) { s with heap := h', toks := k }) :
    wpAny (model prog w) A (raiseEncodeFault {} codec (.str x tx) 0 1 reason : Sem α) Q E s := by
  show wpAny _ _ ((do let a ← mkStr (Str.ofString codec); let b ← (pure (Value.str x tx) : Sem Value); let c ← mkInt 0; let d ← mkInt 1; let r ← mkStr (Str.ofString reason); call (.type "UnicodeEncodeError") [a, b, c, d, r]) >>= fun e => raiseNew e) _ _ _
  refine wpAny_bind (wpAny_bind (wpAny_mkStr ?_ (by rw [sizeLine_eq]; omega)))
  refine wpAny_bind (wpAny_pure ?_)
  refine wpAny_bind (wpAny_mkInt ?_)
  refine wpAny_bind (wpAny_mkInt ?_)
  refine wpAny_bind (wpAny_mkStr ?_ (by rw [sizeLine_eq]; omega))
  exact uni_make fun e h' x => wpAny_raiseNew_none hh (h e h' _ _ _ x)
theorem uni_narrow {id : String} {tx : Tok} {Q : Array UInt8 → Shared → Prop} (hh : A.handled = none)
    (h : ∀ e h' k te ob re tr, UniExc s.heap h' e (.str te tr) ob re → E (.ref e) { s with heap := h', toks := k }) :
    wpAny (model prog w) A (encodeNarrow id asciiCodec none (.str ⟨#[1633]⟩ tx) ⟨#[1633]⟩) Q E s := by
  unfold encodeNarrow
  simp only [Std.Legacy.Range.forIn_eq_forIn_range']
  refine wpAny_bind ?_
  show wpAny _ _ (forIn [0] _ _) _ _ _
  rw [List.forIn_cons]
  refine wpAny_bind ?_
  dsimp only
  rw [if_neg (by rw [sizeLine_eq]; decide)]
  rw [show (#[1633] : Array Nat)[0]? = some 1633 from rfl]
  dsimp only
  rw [if_neg (show ¬ ((!asciiCodec.bad 1633) = true) by decide)]
  refine wpAny_bind (wpAny_rule ?_)
  have hs : (none.getD (Str.ofString "strict") : Str).toString = "strict" := by decide +kernel
  rw [hs]
  split
  · rename_i bytes heq
    exfalso
    split at heq
    all_goals first | (rename_i hq; exact absurd hq (by decide)) | cases heq | (simp at heq)
  · rw [if_pos (show ("strict" == "strict" && !asciiCodec.name == "utf-8") = true by decide)]
    refine wpAny_bind ?_
    rw [show (0 + (Array.findIdx? (fun y => !asciiCodec.bad y) (#[1633] : Array Nat).extract).getD ((#[1633] : Array Nat).size - 0)) = 1 by decide +kernel]
    exact uni_fault hh (by decide +kernel) (by decide +kernel) fun e h' k te tr x => h e h' k _ _ _ _ x
theorem uni_encode {t u : Tok} {Q : Value → Shared → Prop} (hh : A.handled = none) (h : ∀ e h' k te ob re tr, UniExc s.heap h' e (.str te tr) ob re → E (.ref e) { s with heap := h', toks := k }) :
    wpAny (model prog w) A (call (.builtin "str.encode") [.str (Str.ofString "١") t, .str (Str.ofString "ascii") u]) Q E s := by
  have e1 : Str.ofString "١" = ⟨#[1633]⟩ := by decide +kernel
  rw [e1]
  refine wpAny_call_entry F.slot_str_encode (typeIs_str s _ t) F.entry_str_encode ?_ (F.args_str_encode_2 _ _)
  have e : «str.encode» ⟨[.str ⟨#[1633]⟩ t, .str (Str.ofString "ascii") u], []⟩ = (do ret (← encodeRoad "str.encode" (.str ⟨#[1633]⟩ t) ⟨#[1633]⟩ (Str.ofString "ascii") none)) := by first | rfl | kernel_rfl
  rw [e, encodeRoad_ascii]
  refine wpAny_bind (wpAny_bind (uni_narrow hh h))
end
end Mine
end

section
open PySem PySem.W PyProof.Rows PySem.Calls
open Sem (wp)
namespace Mine
abbrev uniT (t T enc ob re : Value) : Array Value := #[t, T, .none, .none, .bool false, .none, enc, ob, rawInt 0, rawInt 1, re]
theorem uniT_last (t T enc ob re : Value) : ((uniT t T enc ob re).extract 6).toList = [enc, ob, .int 0 0, .int 1 0, re] := by simp [uniT, rawInt]
/-- the exception with its traceback -/
def UniAt (h base : Heap) (e : Addr) (fl enc ob re : Value) : Prop :=
  ∃ t T oT ts, h.get? e = some (uniObj (uniT t (.ref T) enc ob re)) ∧ base.get? T = none ∧ T ≠ e ∧ h.get? T = some oT ∧ oT.data = .fields ts ∧ ts[3]? = some fl
section
variable {M : Model} {A : Around} {E : Value → Shared → Prop} {s : Shared} {base : Heap} {env : Env} {outer : List Env} {L e : Addr} {t enc ob re fl : Value}
theorem uni_note {Q : Unit → Shared → Prop} (hfr : A.frames = some (env :: outer)) (hl : s.heap.FunFrames base (env :: outer)) (hf : env.frame = some L)
    (he : s.heap.get? e = some (uniObj (uni11 t enc ob (rawInt 0) (rawInt 1) re))) (hkb : base.StaysIn s.heap) (hen : base.get? e = none)
    (h : ∀ h', base.StaysIn h' → h'.FunFrames base (env :: outer) → UniAt h' base e (rawInt L) enc ob re → s.heap.UpToSlots h' → Q () { s with heap := h' }) : wpAny M A (noteFrame (.ref e) env) Q E s := by
  have hene : e ∉ (env :: outer).filterMap (·.frame) := fun hm => by
    obtain ⟨_, o, ho, hnf⟩ := hl.mem hm
    rw [he] at ho
    cases ho
    exact hnf _ rfl
  unfold noteFrame
  simp only [hf]
  refine wpAny_bind (wpAny_field he rfl (x := .none) rfl ?_)
  rw [if_neg (by decide)]
  refine wpAny_bind (wpAny_frameOf_fun hfr hl hf fun h₁ hs₁ => ?_)
  refine wpAny_bind (wpAny_entryPlaceOf fun pl hpl => ?_)
  unfold EntryCells.newEntry newFields
  refine wpAny_bind (wpAny_newObj_type ?_ (hpl.sizeOk5 _ _ _ _ _))
  have he₁ : h₁.get? e = some (uniObj (uni11 t enc ob (rawInt 0) (rawInt 1) re)) := (hs₁.2.1 e hene).trans he
  have kb₁ : base.StaysIn h₁ := fun b o hbo => (hs₁.2.1 b fun hm => by rw [(hl.mem hm).1] at hbo; cases hbo).trans (hkb b o hbo)
  have he₂ := Heap.get?_push_of_some (h := h₁) { cls := .type "traceback", dict := none, data := .fields ([Value.none, .ref L, .none, rawInt L, .none] ++ (if pl.isEmpty then List.replicate 6 Value.none else pl)).toArray } he₁
  have hTe : h₁.objs.size ≠ e := Nat.ne_of_gt (Heap.lt_size he₁)
  have keep : ∀ b o, b ≠ e → h₁.get? b = some o → ((h₁.push { cls := .type "traceback", dict := none, data := .fields ([Value.none, .ref L, .none, rawInt L, .none] ++ (if pl.isEmpty then List.replicate 6 Value.none else pl)).toArray }).update e (Obj.mapFields (·.setIfInBounds 1 (Value.ref h₁.objs.size)))).get? b = some o := fun b o hbe hb => by
    rw [Heap.get?_update_other _ _ (Ne.symm hbe)]
    exact Heap.get?_push_of_some _ hb
  have noRecord : ∀ b o, s.heap.get? b = some o → (∀ vs, o.data ≠ .fields vs) → b ≠ e := fun b o hb hnf q => by
    rw [q, he] at hb
    cases hb
    exact hnf _ rfl
  refine wpAny_setField he₂ rfl (by show 1 < 11; omega) (h _ ?_ ?_ ?_ ?_)
  · exact fun b o hbo => keep b o (fun q => by rw [q, hen] at hbo; cases hbo) (kb₁ b o hbo)
  · refine hl.of_keeps fun b o hb hnf => ?_
    obtain ⟨sl, hs⟩ := hs₁.2.2 b o hb
    exact ⟨_, keep b _ (noRecord b o hb hnf) hs, rfl⟩
  · refine ⟨t, h₁.objs.size, _, _, ?_, kb₁.fresh, hTe, (Heap.get?_update_other _ _ (Ne.symm hTe)).trans (Heap.get?_push_size h₁ rfl), rfl, by rcases hpl with rfl | ⟨_, _, _, _, _, _, _, rfl⟩ <;> simp⟩
    exact Heap.get?_update_self (Obj.mapFields (·.setIfInBounds 1 (Value.ref h₁.objs.size))) he₂ rfl
  · intro b o hb hnf
    obtain ⟨sl, hs⟩ := hs₁.2.2 b o hb
    exact ⟨sl, keep b _ (noRecord b o hb hnf) hs⟩
theorem uni_flight {l : List Env} {Q : Unit → Shared → Prop} (hkb : base.StaysIn s.heap) (hl : s.heap.FunFrames base l) (hU : UniAt s.heap base e fl enc ob re)
    (h : ∀ h', base.StaysIn h' → h'.FunFrames base l → UniAt h' base e .none enc ob re → s.heap.UpToSlots h' → Q () { s with heap := h' }) : wpAny M A (setFlight (.ref e) none) Q E s := by
  obtain ⟨t, T, oT, ts, he, hnT, hTe, hT, hdT, h3⟩ := hU
  have hsz3 : 3 < ts.size := (Array.getElem?_eq_some_iff.mp h3).1
  have other : ∀ b, b ≠ T → (s.heap.update T (Obj.mapFields (·.setIfInBounds 3 ((none : Option Addr).elim Value.none fun f => rawInt f)))).get? b = s.heap.get? b :=
    fun b hb => Heap.get?_update_other _ _ (Ne.symm hb)
  have noRecord : ∀ b o, s.heap.get? b = some o → (∀ vs, o.data ≠ .fields vs) → b ≠ T := fun b o hb hnf q => by
    rw [q, hT] at hb
    cases hb
    exact hnf _ hdT
  unfold setFlight
  refine wpAny_bind (wpAny_field he rfl (x := .ref T) rfl ?_)
  rw [if_pos (show (Value.ref T != Value.none) = true from by simp)]
  refine wpAny_setField hT hdT hsz3 (h _ (fun b o hbo => (other b fun q => by rw [q, hnT] at hbo; cases hbo).trans (hkb b o hbo))
    (hl.of_keeps fun b o hb hnf => ⟨o, (other b (noRecord b o hb hnf)).trans hb, rfl⟩) ?_ fun b o hb hnf => ⟨o.slots, (other b (noRecord b o hb hnf)).trans hb⟩)
  exact ⟨t, T, _, _, (other e (Ne.symm hTe)).trans he, hnT, hTe, Heap.get?_update_self _ hT (Obj.isFreed_of_fields (Obj.data_mapFields hdT _)), Obj.data_mapFields hdT _, by simp [hsz3]⟩
end
theorem uni_isExc : isSubtype (.type "UnicodeEncodeError") (.type "BaseException") = pure true := by rw [isSubtype_type]; kernel_rfl
theorem uni_notTuple : isSubtype (.type ((Manifest.find? "UnicodeEncodeError").elim "type" fun y => y.metatype)) (.type "tuple") = pure false := by
  rw [show ((Manifest.find? "UnicodeEncodeError").elim "type" fun y => y.metatype) = "type" by kernel_rfl, isSubtype_type]
  kernel_rfl
section
variable {prog : Program} {w : World} {A₀ : Around} {E : Value → Shared → Prop} {s' : Shared} {base g g₀ h : Heap} {outer : List Env} {L a e : Addr} {m : Str → Option Value} {name : Str} {scope : Scope} {cd : Value}
  {n : Str} {b₀ : Stmt} {suite : List Stmt} {pos np : Pos} {rest : List ExceptHandler} {Q : Flow → Shared → Prop} {news : List (Addr × Obj)} {KF : Frag}
  {p : Program} {loose : List Str} {mean : ExcName → Option Value} {mg mb : Str → Option Value} {x : Str} {enc ob re : Value}
theorem caught_uni (K : Below A₀ base outer g) (F : Fr g L h m) (N : News g L h news) (X : UniExc h s'.heap e enc ob re) (XB : KF.In base) (TB : Top p loose mean mg mb base)
    (D : KtsDicts (outer.filterMap (·.frame)) g) (T0 : KtsTurn (outer.filterMap (·.frame)) g₀ g)
    (ex : nsIn KF mainGlobals x = some none) (hv : bootBuiltins x = some (.type "UnicodeEncodeError")) (hn' : x ≠ "__name__")
    (k : ∀ h' g' tk vs, KtsTurn (outer.filterMap (·.frame)) g₀ g' → Fr g' L h' (fun y => if y = n then some (.ref e) else m y) → News g' L h' ((e, uniObj vs) :: news) → (vs.extract 6).toList = [enc, ob, .int 0 0, .int 1 0, re] → Below A₀ base outer g' → KF.In g' → Top p loose mean mg mb g' → KtsDicts (outer.filterMap (·.frame)) g' →
      wpAny (model prog w) ((A₀.deeper (envOf name scope L a cd)).mark (some (.ref e))) (execs (b₀ :: suite) (envOf name scope L a cd))
        (fun f s₄ => wpAny (model prog w) (A₀.deeper (envOf name scope L a cd)) (do bindName (envOf name scope L a cd) n .none; unbindBehindTheSuite (envOf name scope L a cd) n pos) (fun _ s₅ => Q f s₅) E s₄)
        (AsSuiteRaised (model prog w) ((A₀.deeper (envOf name scope L a cd)).mark (some (.ref e))) (envOf name scope L a cd) n pos (notedBy (model prog w) ((A₀.deeper (envOf name scope L a cd)).mark (some (.ref e))) (envOf name scope L a cd) (cameBackBy (model prog w) (A₀.deeper (envOf name scope L a cd)) (envOf name scope L a cd) E)))
        { s' with heap := h', toks := tk })
    (hk : scope.kind = .function := by rfl) (hlo : (envOf name scope L a cd).kindOf n = some .local := by rfl) (hx : (envOf name scope L a cd).kindOf x = some .globalImplicit := by rfl) (hd : (x == ("__debug__" : Str)) = false := by decide) :
    wpAny (model prog w) (A₀.deeper (envOf name scope L a cd)) (noteFrame (.ref e) (envOf name scope L a cd))
      (fun _ s₂ => wpAny (model prog w) (A₀.deeper (envOf name scope L a cd)) (setFlight (.ref e) none) (fun _ s₃ =>
        wpAny (model prog w) (A₀.deeper (envOf name scope L a cd)) (handleBy (.ref e) (envOf name scope L a cd) (.ExceptHandler (some (.Name x np)) (some n) (b₀ :: suite) pos :: rest)) Q E s₃) E s₂) E s' := by
  have K' := K.push (name := name) (a := a) (cd := cd) F hk
  have hin : ∀ env ∈ (envOf name scope L a cd :: outer), ∀ b, env.frame = some b → b ∈ (envOf name scope L a cd :: outer).filterMap (·.frame) := fun env he b hb => List.mem_filterMap.mpr ⟨env, he, hb⟩
  have hBG : ∀ b o, h.get? b = some o → b ∉ (envOf name scope L a cd :: outer).filterMap (·.frame) → (hideAll h ((envOf name scope L a cd :: outer).filterMap (·.frame))).get? b = some o := fun b o q nm => hideAll_get _ q nm
  have hen : (hideAll h ((envOf name scope L a cd :: outer).filterMap (·.frame))).get? e = none := by
    cases q : (hideAll h ((envOf name scope L a cd :: outer).filterMap (·.frame))).get? e with
    | none => rfl
    | some o => have := of_hideAll _ q; rw [X.new] at this; cases this
  have hLe : e ≠ L := fun q => by
    obtain ⟨oL, _, _, hL, _⟩ := F.ns
    rw [← q, X.new] at hL
    cases hL
  obtain ⟨t, he⟩ := X.there
  refine uni_note (base := hideAll h ((envOf name scope L a cd :: outer).filterMap (·.frame))) K'.stack ((funFrames_hide K'.frames hin).of_keeps fun b o hb _ => ⟨o, X.keeps b o hb, rfl⟩) rfl he (fun b o hb => X.keeps b o (of_hideAll _ hb)) hen fun h₄ b₄ f₄ U₄ sm₄ => ?_
  refine uni_flight b₄ f₄ U₄ fun h₅ b₅ f₅ U₅ sm₅ => ?_
  have sm : h.UpToSlots h₅ := (Heap.UpToSlots.of_keeps X.keeps).trans (sm₄.trans sm₅)
  obtain ⟨g₅, T₅, F₅, K₅⟩ := kts_ground K F hBG b₅ sm
  have X₅ : KF.In g₅ := XB.keeps K₅.stays
  have P₅ : TopRead p loose mg mb g₅ := topRead_of (TB.keeps K₅.stays)
  obtain ⟨t₅, Tb₅, _, _, hob, _⟩ := id U₅
  refine wpAny_handleBy_builtin_as (X := "UnicodeEncodeError") (T := "UnicodeEncodeError") (b := true) uni_isExc uni_notTuple uni_sub (name_B F₅ X₅ P₅ ex hv hn' ⟨rfl, ⟨_, hob, rfl⟩, ?_⟩ hk hx hd)
  refine uni_flight b₅ f₅ U₅ fun h₆ b₆ f₆ U₆ sm₆ => ?_
  obtain ⟨g₆, T₆, F₆, K₆⟩ := kts_ground K F hBG b₆ (sm.trans sm₆)
  obtain ⟨t₆, Tb₆, _, _, he₆, _⟩ := U₆
  have N₆ : News g₆ L h₆ ((e, uniObj (uniT t₆ (.ref Tb₆) enc ob re)) :: news) := fun q hq => by
    rcases List.mem_cons.mp hq with rfl | hq
    · exact ⟨he₆, hLe, T₆.none_ _ (kts_none F.keep X.new)⟩
    · refine ⟨b₆ _ _ (hBG _ _ (N q hq).1 fun hm => ?_), (N q hq).2.1, T₆.none_ _ (N q hq).2.2⟩
      obtain ⟨env, hem, hf⟩ := List.mem_filterMap.mp hm
      rcases List.mem_cons.mp hem with rfl | hem
      · exact (N q hq).2.1 (Option.some.inj hf).symm
      · obtain ⟨o, ho, _⟩ := (K.frames.mem (List.mem_filterMap.mpr ⟨env, hem, hf⟩)).2
        rw [(N q hq).2.2] at ho
        cases ho
  have X₆ : KF.In g₆ := XB.keeps K₆.stays
  have P₆ : Top p loose mean mg mb g₆ := TB.keeps K₆.stays
  have D₆ : KtsDicts (outer.filterMap (·.frame)) g₆ := D.turn T₆
  refine stN F₆ N₆ (fun h₇ F₇ N₇ => ?_) hk hlo
  exact k h₇ g₆ _ _ (T0.trans T₆) F₇ N₇ (uniT_last _ _ _ _ _) K₆ X₆ P₆ D₆
end
theorem raised_back {base G G' h : Heap} {l : List Env} {e t : Addr} {cls : Value} {vs : List Value} {news : List (Addr × Obj)} (R : RaisedS base G' l e cls t vs news h) (T : KtsTurn (l.filterMap (·.frame)) G G') : RaisedS base G l e cls t vs news h := by
  obtain ⟨⟨B, hB, hBG, hl, hfl, hnew⟩, htup⟩ := R
  refine ⟨⟨B, hB, fun b o q nm => hBG b o (T.other b o q nm) nm, fun q hq => ⟨(hl q hq).1, ?_, (hl q hq).2.2⟩, hfl, hnew⟩, htup⟩
  cases hz : G.get? q.1 with
  | none => rfl
  | some o =>
    obtain ⟨sl, hs⟩ := T.up hz
    rw [(hl q hq).2.1] at hs
    cases hs
theorem upTo_back {G G' h : Heap} {fs : List Addr} (U : G'.UpToSlots h) (T : KtsTurn fs G G') : G.UpToSlots h := fun b o q hn => by
  obtain ⟨sl, hs⟩ := T.up q
  obtain ⟨sl', hs'⟩ := U b { o with slots := sl } hs hn
  exact ⟨sl', hs'⟩
end Mine
end

section
open PySem PySem.W PyProof.Rows PySem.Calls PySem.Spec
namespace Mine
theorem codeC_call_cellsN {prog : Program} {w : World} {A : Around} {R : Result → Shared → Prop} {s : Shared} {name : Str} {params : Arguments} {body : List Stmt} {scope : Scope}
    {pm cd doc : Value} {a : Addr} {o : Obj} {args : List Value} {binds : List (Str × Value)}
    (hroom : A.depth < recursionLimit) (ho : s.heap.get? a = some o) (hdata : o.data = .func (Calls.docDef name params body scope pm cd doc)) (hlim : s.heap.NoLimit) (hcd : s.heap.CodeRec cd name)
    (hbind : bindArgs (Calls.docDef name params body scope pm cd doc) ⟨args, []⟩ = pure binds)
    (hkind : ∀ x ∈ binds, scope.names.lookup x.1 = some .local ∨ (scope.names.lookup x.1 = some .cell ∧ ((cellsFrom (s.heap.objs.size + 1) scope.names []).lookup x.1).isSome = true))
    (hnd : ((cellsFrom 0 scope.names []).map (·.1)).Nodup)
    (h : ∀ h₁ tk cells, Fr s.heap s.heap.objs.size h₁ (bindL (envOfC name scope s.heap.objs.size a cd).kindOf binds fun _ => none) → News s.heap s.heap.objs.size h₁ cells →
      CellsAre (bindC (envOfC name scope s.heap.objs.size a cd).kindOf binds fun _ => none) (cellsFrom (s.heap.objs.size + 1) scope.names []) cells →
      wpC (model prog w) (A.deeper (envOfC name scope s.heap.objs.size a cd)) (execs body (envOfC name scope s.heap.objs.size a cd))
        (fun f s' => R (.ok (.ret (match f with | .ret v => v | _ => .none))) s') noExc
        { s with heap := h₁, toks := tk })
    (hco : scope.isCoroutine = false := by rfl) (hgen : scope.isGenerator = false := by rfl) (hk : scope.kind = .function := by rfl) :
    codeC (model prog w) A (.call (.ref a) ⟨args, []⟩) R s := by
  refine codeC_call_function (fd := Calls.docDef name params body scope pm cd doc) hroom ho hdata hco hgen rfl hcd ?_
  rw [hbind]
  refine wpAny_pure (wpAny_newFunctionEnv_cells hk hkind fun env he s₁ X => ?_)
  subst he
  refine ⟨hlim.keeps X.toInCall.keep, codeC_func ?_⟩
  obtain ⟨h₁, tk, rfl, _⟩ := X.done
  let ⟨cells, N, Y⟩ := Cl.news (h₀ := s.heap) (Nat.le_refl _) fun n c hm => ⟨X.cell n c (lookup_of_mem_nodup (cellsFrom_names scope.names 0 (s.heap.objs.size + 1) [] [] rfl ▸ hnd) hm), X.above n c hm⟩
  exact h h₁ tk cells ⟨X.toInCall.ns, X.toInCall.keep, X.toInCall.fresh⟩ N Y
theorem enter_callC {M : Model} {A : Around} {s : Shared} {f : Value} {pos : List Value} {kw : List (Str × Value)} {c : ClaimW} {cl : Str → Option Addr} {mean : ExcName → Option Value} {args : List WData} {s₁ : Shared}
    (h : codeC M A (.call f ⟨pos, kw⟩) (GoodWG c cl mean args s₁) s) : wpC M A (PySem.call f pos kw) (fun v s' => GoodWG c cl mean args s₁ (.ok (.ret v)) s') (fun e s' => GoodWG c cl mean args s₁ (.error e) s') s :=
  wpC_call (codeC_mono h fun res s' g => by rcases g.1 with ⟨v, _, _, rfl, _⟩ | ⟨e, _, _, rfl, _⟩ <;> exact g)
/-- behind the first statement of the law: the list in its cell -/
@[irreducible] def Mid0 (s₁ : Shared) (f : Flow) (s' : Shared) : Prop := f = .next ∧ ∃ (h' : Heap) (tk : Nat) (m' : Str → Option Value) (o2 o1 ol : Obj) (v0 : Option Value) (D0 D1 : Addr) (ys : List Value) (zs : List Int), s' = { s₁ with heap := h', toks := tk } ∧ Fr s₁.heap s₁.heap.objs.size h' m' ∧
     News s₁.heap s₁.heap.objs.size h' [(D0, LCg.lst ys), (D1, ol), (s₁.heap.objs.size + 1 + 1, o2), (s₁.heap.objs.size + 1, o1)] ∧ o1.data = .cell (some (.ref D0)) ∧ o2.data = .cell v0 ∧ IntsAre ys (zs.map (fun k' => if k' < 0 then -k' else k')) ∧ zs.length ≤ 14 ∧
     (D1 ≠ D0 ∧ s₁.heap.objs.size + 1 + 1 ≠ D0 ∧ s₁.heap.objs.size + 1 ≠ D0) ∧ s₁.heap.objs.size + 1 + 1 < D1 ∧ s₁.heap.objs.size + 1 < D1
/-- behind the second statement of the law: the two cells and the list -/
@[irreducible] def MidA (s₁ : Shared) (f : Flow) (s' : Shared) : Prop := f = .next ∧ ∃ (h' : Heap) (tk : Nat) (m' : Str → Option Value) (o2 o1 ol : Obj) (hv : Int) (t : Tok) (D0 D1 : Addr) (ys : List Value) (zs : List Int), s' = { s₁ with heap := h', toks := tk } ∧ Fr s₁.heap s₁.heap.objs.size h' m' ∧
     News s₁.heap s₁.heap.objs.size h' [(D0, LCg.lst ys), (D1, ol), (s₁.heap.objs.size + 1 + 1, o2), (s₁.heap.objs.size + 1, o1)] ∧ o1.data = .cell (some (.ref D0)) ∧ o2.data = .cell (some (.int hv t)) ∧ IntsAre ys zs ∧ zs.length ≤ 14 ∧ 0 ≤ hv ∧
     (D1 ≠ D0 ∧ s₁.heap.objs.size + 1 + 1 ≠ D0 ∧ s₁.heap.objs.size + 1 ≠ D0) ∧ s₁.heap.objs.size + 1 + 1 < D1 ∧ s₁.heap.objs.size + 1 < D1
/-- behind the third one: the octets and the head's cell -/
@[irreducible] def MidB (s₁ : Shared) (f : Flow) (s' : Shared) : Prop := f = .next ∧ ∃ (h' : Heap) (tk : Nat) (m' : Str → Option Value) (o2 : Obj) (hv : Int) (t t' : Tok) (b : Array UInt8), s' = { s₁ with heap := h', toks := tk } ∧ Fr s₁.heap s₁.heap.objs.size h' m' ∧
     News s₁.heap s₁.heap.objs.size h' [(s₁.heap.objs.size + 1 + 1, o2)] ∧ o2.data = .cell (some (.int hv t)) ∧ m' (Str.ofString "octets") = some (.bytes b t') ∧ b.size ≤ 12 ∧ 0 ≤ hv
theorem abs_nonneg (l : List Int) (n : Nat) : 0 ≤ (l.map (fun k' => if k' < 0 then -k' else k')).getD n 0 := by
  rw [List.getD_eq_getElem?_getD, List.getElem?_map]
  cases l[n]? with
  | none => exact Int.le_refl 0
  | some x =>
    show 0 ≤ (if x < 0 then -x else x)
    split <;> omega
end Mine
end
section
open PySem PySem.W PyProof.Rows PySem.Calls
set_option maxHeartbeats 8000000
namespace Mine
local macro_rules | `(tactic| walk_at "mine enter") => `(tactic| (refine wpAny_call ?_; k_dflt (refine' enterM ?k1 ?k2 ?k3 ?k5 ?kA ?kF ?kK ?k6 ?k7 ?k8 ?k9 ?kB ?_ ?c2 ?c3 ?c4 ?c5; (case kA => exact rfl); (case kF => exact rfl); (case kK => first | assumption | exact rfl); (case k1 => k_asm); (case k2 => k_asm); (case k3 => k_asm); (case k5 => k_asm); (case k6 => k_is); (case k7 => k_is); (case k8 => ktr_room); (case k9 => first | exact BindsTo.of_eq rfl | exact binds_K (by k_in) rfl (by k_is) rfl rfl rfl); (case c5 => decide); (case kB => exact locs rfl); (case c2 => exact rfl); (case c3 => exact rfl); (case c4 => exact rfl); k_whole)))
local macro_rules | `(tactic| walk_at "mine done") => `(tactic| ((try dsimp only); (try k_unfold); (try dsimp only)))
local macro_rules | `(tactic| walk_at "call type:bytes") => `(tactic| ((with_reducible show wpAny _ _ (call (Value.type "bytes") [Value.bytes _ _]) _ _ _); refine call_bytes_bytes ?_))
local macro_rules | `(tactic| walk_at "getMethod bytes") => `(tactic| first | (with_reducible refine getm_lstrip ?_) | (with_reducible refine getm_translate ?_) | (with_reducible refine getm_hex ?_))
local macro_rules | `(tactic| walk_at "callWith ref") => `(tactic| ((with_reducible show wpAny _ _ (callWith _ (Value.ref _) _ (backTo _ (starEach (_ :: _) _)) (backToKw _ _)) _ _ _); kfb_any; (refine callWith_boundKW (by rfl) ?_)))
local macro_rules | `(tactic| walk_at "binaryOp Add bytes bytes") => `(tactic| ((with_reducible show wpAny _ _ (binaryOp Operator.Add (Value.bytes _ _) (Value.bytes _ _)) _ _ _); (refine add_bytes (by first | decide | omega) (by first | decide | omega) ?_); intro _ _))
local macro_rules | `(tactic| walk_at "call ref") => `(tactic| ((with_reducible show wpAny _ _ (call (Value.ref _) _ _) _ _ _); kfb_any; k_dflt (show wpAny _ _ (call (Value.ref _) [Value.bytes _ _] [(_, _), (_, _)]) _ _ _); (refine call_fromN (by k_asm) (by k_mem) (by (try simp only [Array.size_append]); first | omega | (show _ + _ ≤ _; omega) | (show 1 + _ ≤ _; omega)) ?_); intro _ _ _ _ _))
local macro_rules | `(tactic| walk_at "callWith builtin:int.to_bytes") => `(tactic| (refine callWith_kwF ?_))
local macro_rules | `(tactic| walk_at "call builtin:int.to_bytes") => `(tactic| (refine mixed_to (by assumption) ?_; intro _ _))

theorem c_bfo {w : World} {b : Array UInt8} {t : Tok} : Con (hd.heap_39 w.params) w 59 [.bytes b t] 5 20 (fun v => v = .bytes b t) := by
  w_top off
  intro prog p loose mean mg mb dp un gd cn cs a ccd cl outer A₀ base h₀ L m s Q E B F X T hk hd hu hret
  walk_at "mine enter"
  clear B F X T
  intro L' h' F' N' B' X' T'
  (try dsimp only)
  (try k_fold)
  k_steps
  walk_at "mine done"
  exact hret _ _ _ (Fr.keep (by k_asm)) rfl
end Mine
end

section
open PySem PySem.W PyProof.Rows PySem.Calls
set_option maxHeartbeats 8000000
namespace Mine
local macro_rules | `(tactic| walk_at "mine pad") => `(tactic| fail)
local macro_rules | `(tactic| walk_at "mine enter") => `(tactic| (refine wpAny_call ?_; k_dflt (refine' enterM ?k1 ?k2 ?k3 ?k5 ?kA ?kF ?kK ?k6 ?k7 ?k8 ?k9 ?kB ?_ ?c2 ?c3 ?c4 ?c5; (case kA => exact rfl); (case kF => exact rfl); (case kK => first | assumption | exact rfl); (case k1 => k_asm); (case k2 => k_asm); (case k3 => k_asm); (case k5 => k_asm); (case k6 => k_is); (case k7 => k_is); (case k8 => ktr_room); (case k9 => first | exact BindsTo.of_eq rfl | exact binds_K (by k_in) rfl (by k_is) rfl rfl rfl); (case c5 => decide); (case kB => exact locs rfl); (case c2 => exact rfl); (case c3 => exact rfl); (case c4 => exact rfl); k_whole)))
local macro_rules | `(tactic| walk_at "mine done") => `(tactic| ((try dsimp only); (try k_unfold); (try dsimp only)))
local macro_rules | `(tactic| walk_at "call type:bytes") => `(tactic| ((with_reducible show wpAny _ _ (call (Value.type "bytes") [Value.bytes _ _]) _ _ _); refine call_bytes_bytes ?_))
local macro_rules | `(tactic| walk_at "getMethod bytes") => `(tactic| first | (with_reducible refine getm_lstrip ?_) | (with_reducible refine getm_translate ?_) | (with_reducible refine getm_hex ?_))
local macro_rules | `(tactic| walk_at "callWith ref") => `(tactic| ((with_reducible show wpAny _ _ (callWith _ (Value.ref _) _ (backTo _ (starEach (_ :: _) _)) (backToKw _ _)) _ _ _); kfb_any; (refine callWith_boundKW (by rfl) ?_)))
local macro_rules | `(tactic| walk_at "binaryOp Add bytes bytes") => `(tactic| ((with_reducible show wpAny _ _ (binaryOp Operator.Add (Value.bytes _ _) (Value.bytes _ _)) _ _ _); (refine add_bytes (by first | decide | omega) (by first | decide | omega) ?_); intro _ _))
local macro_rules | `(tactic| walk_at "call ref") => `(tactic| ((with_reducible show wpAny _ _ (call (Value.ref _) _ _) _ _ _); kfb_any; k_dflt (show wpAny _ _ (call (Value.ref _) [Value.bytes _ _] [(_, _), (_, _)]) _ _ _); (refine call_fromN (by k_asm) (by k_mem) (by (try simp only [Array.size_append]); first | omega | (show _ + _ ≤ _; omega) | (show 1 + _ ≤ _; omega)) ?_); intro _ _ _ _ _))
local macro_rules | `(tactic| walk_at "callWith builtin:int.to_bytes") => `(tactic| (refine callWith_kwF ?_))
local macro_rules | `(tactic| walk_at "call builtin:int.to_bytes") => `(tactic| (refine mixed_to (by assumption) ?_; intro _ _))

theorem c_mixed {w : World} {b : Array UInt8} {t : Tok} (hb : b.size ≤ 900) : Con (hd.heap_39 w.params) w 80 [.bytes b t] 5 50 (fun v => ∃ t', v = .bytes (mixed b) t') := by
  w_top off
  intro prog p loose mean mg mb dp un gd cn cs a ccd cl outer A₀ base h₀ L m s Q E B F X T hk hd hu hret
  walk_at "mine enter"
  clear B F X T
  intro L' h' F' N' B' X' T'
  (try dsimp only)
  (try k_fold)
  k_steps
  walk_at "mine done"
  exact hret _ _ _ (Fr.keep (by k_asm)) ⟨_, rfl⟩
end Mine
end

section
open PySem PySem.W PyProof.Rows PySem.Calls
set_option maxHeartbeats 8000000
namespace Mine
local macro_rules | `(tactic| walk_at "mine enter") => `(tactic| (refine wpAny_call ?_; k_dflt (refine' enterM ?k1 ?k2 ?k3 ?k5 ?kA ?kF ?kK ?k6 ?k7 ?k8 ?k9 ?kB ?_ ?c2 ?c3 ?c4 ?c5; (case kA => exact rfl); (case kF => exact rfl); (case kK => first | assumption | exact rfl); (case k1 => k_asm); (case k2 => k_asm); (case k3 => k_asm); (case k5 => k_asm); (case k6 => k_is); (case k7 => k_is); (case k8 => ktr_room); (case k9 => first | exact BindsTo.of_eq rfl | exact binds_K (by k_in) rfl (by k_is) rfl rfl rfl); (case c5 => decide); (case kB => exact locs rfl); (case c2 => exact rfl); (case c3 => exact rfl); (case c4 => exact rfl); k_whole)))
local macro_rules | `(tactic| walk_at "mine done") => `(tactic| ((try dsimp only); (try k_unfold); (try dsimp only)))
local macro_rules | `(tactic| walk_at "call type:bytes") => `(tactic| ((with_reducible show wpAny _ _ (call (Value.type "bytes") [Value.bytes _ _]) _ _ _); refine call_bytes_bytes ?_))
local macro_rules | `(tactic| walk_at "getMethod bytes") => `(tactic| first | (with_reducible refine getm_lstrip ?_) | (with_reducible refine getm_translate ?_) | (with_reducible refine getm_hex ?_))
local macro_rules | `(tactic| walk_at "callWith ref") => `(tactic| ((with_reducible show wpAny _ _ (callWith _ (Value.ref _) _ (backTo _ (starEach (_ :: _) _)) (backToKw _ _)) _ _ _); kfb_any; (refine callWith_boundKW (by rfl) ?_)))
local macro_rules | `(tactic| walk_at "binaryOp Add bytes bytes") => `(tactic| ((with_reducible show wpAny _ _ (binaryOp Operator.Add (Value.bytes _ _) (Value.bytes _ _)) _ _ _); (refine add_bytes (by first | decide | omega) (by first | decide | omega) ?_); intro _ _))
local macro_rules | `(tactic| walk_at "call ref") => `(tactic| ((with_reducible show wpAny _ _ (call (Value.ref _) _ _) _ _ _); kfb_any; k_dflt (show wpAny _ _ (call (Value.ref _) [Value.bytes _ _] [(_, _), (_, _)]) _ _ _); (refine call_fromN (by k_asm) (by k_mem) (by (try simp only [Array.size_append]); first | omega | (show _ + _ ≤ _; omega) | (show 1 + _ ≤ _; omega)) ?_); intro _ _ _ _ _))
local macro_rules | `(tactic| walk_at "callWith builtin:int.to_bytes") => `(tactic| (refine callWith_kwF ?_))
local macro_rules | `(tactic| walk_at "call builtin:int.to_bytes") => `(tactic| (refine mixed_to (by assumption) ?_; intro _ _))

local macro_rules | `(tactic| walk_at "call ref") => `(tactic| ((with_reducible show wpAny _ _ (call (Value.ref 59) _) _ _ _); k_dflt (refine' Con.use c_bfo ?k1 ?k2 ?k3 ?k4 ?k5 ?kK ?kd ?ku ?_; (case k1 => k_asm); (case k2 => k_asm); (case k3 => k_asm); (case k4 => k_asm); (case k5 => k_asm); (case kK => first | exact rfl | assumption); (case kd => ktr_room); (case ku => ktr_units)); intro v9 h9 tk9 F9 N9 p9; (try k_sweep); subst p9))

local macro_rules | `(tactic| walk_at "call ref") => `(tactic| ((with_reducible show wpAny _ _ (call (Value.ref 80) _) _ _ _); k_dflt (refine' Con.use (c_mixed ?hb) ?k1 ?k2 ?k3 ?k4 ?k5 ?kK ?kd ?ku ?_; (case hb => first | with_reducible assumption | omega | ((simp only [mixed_size, hashed_size]); first | done | omega) | (simp only [Array.size_append, mixed_size, hashed_size]; omega)); (case k1 => k_asm); (case k2 => k_asm); (case k3 => k_asm); (case k4 => k_asm); (case k5 => k_asm); (case kK => first | exact rfl | assumption); (case kd => ktr_room); (case ku => ktr_units)); intro v9 h9 tk9 F9 N9 p9; (try k_sweep); obtain ⟨_, e9⟩ := p9; subst e9))

theorem c_sha {w : World} {b : Array UInt8} {t : Tok} (hb : b.size ≤ 900) : Con (hd.heap_39 w.params) w 87 [.bytes b t] 10 100 (fun v => ∃ t', v = .bytes (mixed b) t') := by
  w_top off
  intro prog p loose mean mg mb dp un gd cn cs a ccd cl outer A₀ base h₀ L m s Q E B F X T hk hd hu hret
  walk_at "mine enter"
  clear B F X T
  intro L' h' F' N' B' X' T'
  (try dsimp only)
  (try k_fold)
  k_steps
  walk_at "mine done"
  exact hret _ _ _ (Fr.keep (by k_asm)) ⟨_, rfl⟩
local macro_rules | `(tactic| walk_at "call ref") => `(tactic| ((with_reducible show wpAny _ _ (call (Value.ref 87) _) _ _ _); k_dflt (refine' Con.use (c_sha ?hb) ?k1 ?k2 ?k3 ?k4 ?k5 ?kK ?kd ?ku ?_; (case hb => first | with_reducible assumption | omega | ((simp only [mixed_size, hashed_size]); first | done | omega) | (simp only [Array.size_append, mixed_size, hashed_size]; omega)); (case k1 => k_asm); (case k2 => k_asm); (case k3 => k_asm); (case k4 => k_asm); (case k5 => k_asm); (case kK => first | exact rfl | assumption); (case kd => ktr_room); (case ku => ktr_units)); intro v9 h9 tk9 F9 N9 p9; (try k_sweep); obtain ⟨_, e9⟩ := p9; subst e9))
theorem c_hash {w : World} {b : Array UInt8} {t : Tok} (hb : b.size ≤ 900) : Con (hd.heap_39 w.params) w 94 [.bytes b t] 15 150 (fun v => ∃ t', v = .bytes (hashed b) t') := by
  w_top off
  intro prog p loose mean mg mb dp un gd cn cs a ccd cl outer A₀ base h₀ L m s Q E B F X T hk hd hu hret
  walk_at "mine enter"
  clear B F X T
  intro L' h' F' N' B' X' T'
  (try dsimp only)
  (try k_fold)
  k_steps
  walk_at "mine done"
  exact hret _ _ _ (Fr.keep (by k_asm)) ⟨_, by unfold hashed; rfl⟩
end Mine
end

section
open PySem PySem.W PyProof.Rows PySem.Calls
set_option maxHeartbeats 8000000
namespace Mine
local macro_rules | `(tactic| walk_at "mine enter") => `(tactic| (refine wpAny_call ?_; k_dflt (refine' enterM ?k1 ?k2 ?k3 ?k5 ?kA ?kF ?kK ?k6 ?k7 ?k8 ?k9 ?kB ?_ ?c2 ?c3 ?c4 ?c5; (case kA => exact rfl); (case kF => exact rfl); (case kK => first | assumption | exact rfl); (case k1 => k_asm); (case k2 => k_asm); (case k3 => k_asm); (case k5 => k_asm); (case k6 => k_is); (case k7 => k_is); (case k8 => ktr_room); (case k9 => first | exact BindsTo.of_eq rfl | exact binds_K (by k_in) rfl (by k_is) rfl rfl rfl); (case c5 => decide); (case kB => exact locs rfl); (case c2 => exact rfl); (case c3 => exact rfl); (case c4 => exact rfl); k_whole)))
local macro_rules | `(tactic| walk_at "mine done") => `(tactic| ((try dsimp only); (try k_unfold); (try dsimp only)))
local macro_rules | `(tactic| walk_at "call type:bytes") => `(tactic| ((with_reducible show wpAny _ _ (call (Value.type "bytes") [Value.bytes _ _]) _ _ _); refine call_bytes_bytes ?_))
local macro_rules | `(tactic| walk_at "getMethod bytes") => `(tactic| first | (with_reducible refine getm_lstrip ?_) | (with_reducible refine getm_translate ?_) | (with_reducible refine getm_hex ?_))
local macro_rules | `(tactic| walk_at "callWith ref") => `(tactic| ((with_reducible show wpAny _ _ (callWith _ (Value.ref _) _ (backTo _ (starEach (_ :: _) _)) (backToKw _ _)) _ _ _); kfb_any; (refine callWith_boundKW (by rfl) ?_)))
local macro_rules | `(tactic| walk_at "binaryOp Add bytes bytes") => `(tactic| ((with_reducible show wpAny _ _ (binaryOp Operator.Add (Value.bytes _ _) (Value.bytes _ _)) _ _ _); (refine add_bytes (by first | decide | omega) (by first | decide | omega) ?_); intro _ _))
local macro_rules | `(tactic| walk_at "call ref") => `(tactic| ((with_reducible show wpAny _ _ (call (Value.ref _) _ _) _ _ _); kfb_any; k_dflt (show wpAny _ _ (call (Value.ref _) [Value.bytes _ _] [(_, _), (_, _)]) _ _ _); (refine call_fromN (by k_asm) (by k_mem) (by (try simp only [Array.size_append]); first | omega | (show _ + _ ≤ _; omega) | (show 1 + _ ≤ _; omega)) ?_); intro _ _ _ _ _))
local macro_rules | `(tactic| walk_at "callWith builtin:int.to_bytes") => `(tactic| (refine callWith_kwF ?_))
local macro_rules | `(tactic| walk_at "call builtin:int.to_bytes") => `(tactic| (refine mixed_to (by assumption) ?_; intro _ _))

local macro_rules | `(tactic| walk_at "mine size") => `(tactic| first | omega | decide | ((simp only [translated_size, Array.size_append, hashed_size, mixed_size, asciiOf_size]); first | done | omega) | exact Nat.le_trans (lstrip_size _ _) (by omega))
local macro_rules | `(tactic| walk_at "call builtin:bytes.translate") => `(tactic| first
  | ((with_reducible show wpAny _ _ (call (Value.builtin "bytes.translate") [Value.bytes _ _, Value.bytes _ _]) _ _ _); first | (refine translateDigit (by unfold digitTab; decide +kernel) (by walk_at "mine size") ?_; intro _ _) | (refine translateChar (by unfold charTab; decide +kernel) (by walk_at "mine size") ?_; intro _ _))
  | ((with_reducible show wpAny _ _ (call (Value.builtin "bytes.translate") [Value.bytes _ _, Value.none, Value.bytes _ _]) _ _ _); (refine translateOut (by unfold signTab; decide +kernel) (by walk_at "mine size") ?_; intro _ _)))
local macro_rules | `(tactic| walk_at "call builtin:len") => `(tactic| ((with_reducible show wpAny _ _ (call (Value.builtin "len") [Value.bytes _ _]) _ _ _); (refine lenB (by walk_at "mine size") ?_; intro _ _)))
local macro_rules | `(tactic| walk_at "truthy bytes") => `(tactic| (refine truthyB (by walk_at "mine size") ?_; intro _))
local macro_rules | `(tactic| walk_at "subscriptTail") => `(tactic| ((with_reducible show wpAny _ _ (subscriptTail _ (Expr.Slice _ _ none _) (Value.bytes _ _) (Value.ref _)) _ _ _); (with_reducible rename Fr _ _ _ _ => F'); (with_reducible rename News _ _ _ _ => N'); (refine sliceB (s := ⟨_, _, _, _, _⟩) F' N' (by constructor) (by constructor) (by walk_at "mine size") ?_); intro _ _ _ _ _))
local macro_rules | `(tactic| walk_at "mine steps") => `(tactic| repeat' (first | (k_unfold; (try dsimp only)) | ((fail_if_success (with_reducible show wpAny _ _ (exec (Stmt.While _ _ _ _) _) _ _ _)); (fail_if_success (with_reducible show wpAny _ _ (exec (Stmt.For _ _ _ _ _) _) _ _ _)); (fail_if_success (with_reducible show wpAny _ _ (pyIter _) _ _ _)); first | (k_end; wrow_close) | walk1 | (dsimp only; walk1)) | fail "no step"))

theorem c_di {w : World} {b : Array UInt8} {t : Tok} (hb : b.size ≤ 112) : Con (hd.heap_39 w.params) w 123 [.bytes b t] 5 100 (fun v => ∃ t' : Tok, v = .int ((digitsNum (translated b digitTab).toList : Nat) : Int) t') := by
  w_top off
  intro prog p loose mean mg mb dp un gd cn cs a ccd cl outer A₀ base h₀ L m s Q E B F X T hk hd hu hret
  walk_at "mine enter"
  clear B F X T
  intro L' h' F' N' B' X' T'
  (try dsimp only)
  (try k_fold)
  walk_at "mine steps"
  refine forM s.heap (by rfl) (by rfl) ?_
  walk_at "mine steps"
  have hD : (translated b digitTab).size ≤ 112 := by rw [translated_size]; exact hb
  generalize hDe : translated b digitTab = D at *
  obtain ⟨hsm, hrs⟩ := range_ten D.size (by omega)
  with_reducible rename IsRange _ _ _ _ _ _ _ _ => hR
  refine iterRange (n := (D.size + 9) / 10) (fun i m news => news = [] ∧ (∃ t, m (Str.ofString "digits") = some (.bytes D t)) ∧ (∃ (n : Nat) (t : Tok), m (Str.ofString "i") = some (.int (n : Int) t) ∧ n = digitsNum (D.toList.take (10 * i)))) (by rfl) hR hsm hrs (by k_asm) News.nil ⟨rfl, ⟨_, rfl⟩, ⟨0, _, rfl, digitsNum_nil.symm⟩⟩ ?_ ?_
  · rintro i v m₁ news₁ h tk own hi ⟨t, rfl⟩ hadr hoff ⟨rfl, ⟨td, hmD⟩, ⟨n, ti, hmI, hn⟩⟩ F₁ N₁
    rw [List.nil_append] at N₁
    have F₂ := over (over F₁ (x := Str.ofString "digits") hmD) (x := Str.ofString "i") hmI
    clear F₁
    (try k_fold)
    walk_at "mine steps"
    rw [tenAt_eq D i (by omega)] at *
    have hten := tenAt_size D i
    refine forM s.heap (by rfl) (by rfl) ?_
    walk_at "mine steps"
    refine iterBytes (fun j m news => news = own ∧ (∃ (k : Nat) (t : Tok), m (Str.ofString "value") = some (.int (k : Int) t) ∧ k = digitsNum ((tenAt D i).toList.take j)) ∧ (∃ t, m (Str.ofString "digits") = some (.bytes D t)) ∧ (∃ t, m (Str.ofString "chunk") = some (.bytes (tenAt D i) t)) ∧ (∃ t, m (Str.ofString "i") = some (.int (n : Int) t))) (by rfl) (by k_asm) (by k_asm) ⟨rfl, ⟨0, _, rfl, digitsNum_nil.symm⟩, ⟨_, rfl⟩, ⟨_, rfl⟩, ⟨_, rfl⟩⟩ ?_ ?_
    · rintro j v m₁ news₁ h tk own₂ hj ⟨c, u, hc, rfl⟩ hadr₂ hoff₂ ⟨rfl, ⟨k, tv, hmV, hk2⟩, ⟨td, hmD⟩, ⟨tc, hmC⟩, ⟨ti, hmI⟩⟩ F₁ N₁
      have F₂ := over (over (over (over F₁ (x := Str.ofString "digits") hmD) (x := Str.ofString "i") hmI) (x := Str.ofString "chunk") hmC) (x := Str.ofString "value") hmV
      clear F₁
      (try k_fold)
      walk_at "mine steps"
      refine endE (nx := news₁) (by k_asm) (by k_asm) (fun _ hp => List.mem_append_left _ hp) (fun _ hp => List.mem_append_right _ hp) rfl ⟨rfl, ⟨k * 58 + c.toNat, _, rfl, digits_step hc hk2⟩, ⟨_, rfl⟩, ⟨_, rfl⟩, ⟨_, rfl⟩⟩
    · rintro m₁ news₁ h tk ⟨rfl, ⟨k, tv, hmV, hk2⟩, ⟨td, hmD⟩, ⟨tc, hmC⟩, ⟨ti, hmI⟩⟩ F₁ N₁
      have F₂ := over (over (over (over F₁ (x := Str.ofString "digits") hmD) (x := Str.ofString "i") hmI) (x := Str.ofString "chunk") hmC) (x := Str.ofString "value") hmV
      clear F₁
      (try k_fold)
      have hmul := mulOk_ten (a := ((n : Nat) : Int)) hten
      walk_at "mine steps"
      refine endE (nx := []) (by k_asm) (by k_asm) (fun _ hp => nomatch hp) (fun _ hp => hp) rfl ⟨rfl, ⟨_, rfl⟩, ⟨n * 58 ^ (tenAt D i).size + k, _, rfl, ?_⟩⟩
      have e : (tenAt D i).toList.take (tenAt D i).size = (tenAt D i).toList := List.take_of_length_le (by simp)
      rw [tenAt_next, hn, hk2, e]
  · rintro m₁ news₁ h tk ⟨rfl, ⟨td, hmD⟩, ⟨n, ti, hmI, hn⟩⟩ F₁ N₁
    rw [tenAt_last D _ (by omega)] at hn
    have F₂ := over F₁ (x := Str.ofString "i") hmI
    clear F₁
    (try k_fold)
    walk_at "mine steps"
    walk_at "mine done"
    subst hDe
    exact hret _ _ _ (Fr.keep (by k_asm)) ⟨_, by rw [hn]⟩
end Mine
end

section
open PySem PySem.W PyProof.Rows PySem.Calls
set_option maxHeartbeats 8000000
namespace Mine
local macro_rules | `(tactic| walk_at "mine enter") => `(tactic| (refine wpAny_call ?_; k_dflt (refine' enterM ?k1 ?k2 ?k3 ?k5 ?kA ?kF ?kK ?k6 ?k7 ?k8 ?k9 ?kB ?_ ?c2 ?c3 ?c4 ?c5; (case kA => exact rfl); (case kF => exact rfl); (case kK => first | assumption | exact rfl); (case k1 => k_asm); (case k2 => k_asm); (case k3 => k_asm); (case k5 => k_asm); (case k6 => k_is); (case k7 => k_is); (case k8 => ktr_room); (case k9 => first | exact BindsTo.of_eq rfl | exact binds_K (by k_in) rfl (by k_is) rfl rfl rfl); (case c5 => decide); (case kB => exact locs rfl); (case c2 => exact rfl); (case c3 => exact rfl); (case c4 => exact rfl); k_whole)))
local macro_rules | `(tactic| walk_at "mine done") => `(tactic| ((try dsimp only); (try k_unfold); (try dsimp only)))
local macro_rules | `(tactic| walk_at "call type:bytes") => `(tactic| ((with_reducible show wpAny _ _ (call (Value.type "bytes") [Value.bytes _ _]) _ _ _); refine call_bytes_bytes ?_))
local macro_rules | `(tactic| walk_at "getMethod bytes") => `(tactic| first | (with_reducible refine getm_lstrip ?_) | (with_reducible refine getm_translate ?_) | (with_reducible refine getm_hex ?_))
local macro_rules | `(tactic| walk_at "callWith ref") => `(tactic| ((with_reducible show wpAny _ _ (callWith _ (Value.ref _) _ (backTo _ (starEach (_ :: _) _)) (backToKw _ _)) _ _ _); kfb_any; (refine callWith_boundKW (by rfl) ?_)))
local macro_rules | `(tactic| walk_at "binaryOp Add bytes bytes") => `(tactic| ((with_reducible show wpAny _ _ (binaryOp Operator.Add (Value.bytes _ _) (Value.bytes _ _)) _ _ _); (refine add_bytes (by first | decide | omega) (by first | decide | omega) ?_); intro _ _))
local macro_rules | `(tactic| walk_at "call ref") => `(tactic| ((with_reducible show wpAny _ _ (call (Value.ref _) _ _) _ _ _); kfb_any; k_dflt (show wpAny _ _ (call (Value.ref _) [Value.bytes _ _] [(_, _), (_, _)]) _ _ _); (refine call_fromN (by k_asm) (by k_mem) (by (try simp only [Array.size_append]); first | omega | (show _ + _ ≤ _; omega) | (show 1 + _ ≤ _; omega)) ?_); intro _ _ _ _ _))
local macro_rules | `(tactic| walk_at "callWith builtin:int.to_bytes") => `(tactic| (refine callWith_kwF ?_))
local macro_rules | `(tactic| walk_at "call builtin:int.to_bytes") => `(tactic| (refine mixed_to (by assumption) ?_; intro _ _))

local macro_rules | `(tactic| walk_at "mine size") => `(tactic| first | omega | decide | ((simp only [translated_size, Array.size_append, hashed_size, mixed_size, asciiOf_size]); first | done | omega) | exact Nat.le_trans (lstrip_size _ _) (by omega))
local macro_rules | `(tactic| walk_at "call builtin:bytes.translate") => `(tactic| first
  | ((with_reducible show wpAny _ _ (call (Value.builtin "bytes.translate") [Value.bytes _ _, Value.bytes _ _]) _ _ _); first | (refine translateDigit (by unfold digitTab; decide +kernel) (by walk_at "mine size") ?_; intro _ _) | (refine translateChar (by unfold charTab; decide +kernel) (by walk_at "mine size") ?_; intro _ _))
  | ((with_reducible show wpAny _ _ (call (Value.builtin "bytes.translate") [Value.bytes _ _, Value.none, Value.bytes _ _]) _ _ _); (refine translateOut (by unfold signTab; decide +kernel) (by walk_at "mine size") ?_; intro _ _)))
local macro_rules | `(tactic| walk_at "call builtin:len") => `(tactic| ((with_reducible show wpAny _ _ (call (Value.builtin "len") [Value.bytes _ _]) _ _ _); (refine lenB (by walk_at "mine size") ?_; intro _ _)))
local macro_rules | `(tactic| walk_at "truthy bytes") => `(tactic| (refine truthyB (by walk_at "mine size") ?_; intro _))
local macro_rules | `(tactic| walk_at "subscriptTail") => `(tactic| ((with_reducible show wpAny _ _ (subscriptTail _ (Expr.Slice _ _ none _) (Value.bytes _ _) (Value.ref _)) _ _ _); (with_reducible rename Fr _ _ _ _ => F'); (with_reducible rename News _ _ _ _ => N'); (refine sliceB (s := ⟨_, _, _, _, _⟩) F' N' (by constructor) (by constructor) (by walk_at "mine size") ?_); intro _ _ _ _ _))
local macro_rules | `(tactic| walk_at "mine steps") => `(tactic| repeat' (first | (k_unfold; (try dsimp only)) | ((fail_if_success (with_reducible show wpAny _ _ (exec (Stmt.While _ _ _ _) _) _ _ _)); (fail_if_success (with_reducible show wpAny _ _ (exec (Stmt.For _ _ _ _ _) _) _ _ _)); (fail_if_success (with_reducible show wpAny _ _ (pyIter _) _ _ _)); first | (k_end; wrow_close) | walk1 | (dsimp only; walk1)) | fail "no step"))

local macro_rules | `(tactic| walk_at "truthy bytes") => `(tactic| first | (refine truthyB0 (by assumption) ?_; intro _) | (refine truthyB1 (by assumption) ?_; intro _))
local macro_rules | `(tactic| walk_at "call builtin:bytes.lstrip") => `(tactic| first | (refine lstripOne (by decide +kernel) (by walk_at "mine size") ?_; intro _ _) | (refine lstripZero (by decide +kernel) (by walk_at "mine size") ?_; intro _ _))
local macro_rules | `(tactic| walk_at "binaryOp Mult bytes int") => `(tactic| first
  | (refine mulPad (c := 0) (by decide +kernel) (lstrip_size _ _) (by omega) ?_; intro _ _)
  | (refine mulPad (c := 49) (by decide +kernel) (lstrip_size _ _) (by omega) ?_; intro _ _))
local macro_rules | `(tactic| walk_at "call builtin:int.to_bytes") => `(tactic| (refine toOctets (by first | with_reducible assumption | exact octets_of_text (by omega)) ?_; intro _ _))
local macro_rules | `(tactic| walk_at "inplaceOp Add bytes bytes") => `(tactic| (refine iadd_bytes (by first | omega | (simp only [pad_size, octs_size]; omega)) (by first | omega | (simp only [pad_size, octs_size]; first | omega | exact Nat.le_trans (octets_of_text (by omega)) (by decide))) ?_; intro _ _))

local macro_rules | `(tactic| walk_at "call ref") => `(tactic| ((with_reducible show wpAny _ _ (call (Value.ref 123) _) _ _ _); k_dflt (refine' Con.use (c_di ?hb) ?k1 ?k2 ?k3 ?k4 ?k5 ?kK ?kd ?ku ?_; (case hb => first | with_reducible assumption | omega | ((simp only [mixed_size, hashed_size]); first | done | omega) | (simp only [Array.size_append, mixed_size, hashed_size]; omega) | exact Nat.le_trans (lstrip_size _ _) (by omega)); (case k1 => k_asm); (case k2 => k_asm); (case k3 => k_asm); (case k4 => k_asm); (case k5 => k_asm); (case kK => first | exact rfl | assumption); (case kd => ktr_room); (case ku => ktr_units)); intro v9 h9 tk9 F9 N9 p9; (try k_sweep); obtain ⟨_, e9⟩ := p9; subst e9))

theorem c_b58d {w : World} {b : Array UInt8} {t : Tok} (hb : b.size ≤ 112) (hv : (without b signTab).size = 0) : Con (hd.heap_39 w.params) w 130 [.bytes b t] 10 200 (fun v => ∃ t' : Tok, v = .bytes (decoded b) t') := by
  w_top off
  intro prog p loose mean mg mb dp un gd cn cs a ccd cl outer A₀ base h₀ L m s Q E B F X T hk hd hu hret
  walk_at "mine enter"
  clear B F X T
  intro L' h' F' N' B' X' T'
  (try dsimp only)
  (try k_fold)
  walk_at "mine steps"
  · walk_at "mine done"
    exact hret _ _ _ (Fr.keep (by k_asm)) ⟨_, by rw [decoded_some]⟩
  · walk_at "mine done"
    exact hret _ _ _ (Fr.keep (by k_asm)) ⟨_, by rw [decoded_none (by omega)]⟩
end Mine
end

section
open PySem PySem.W PyProof.Rows PySem.Calls
set_option maxHeartbeats 8000000
namespace Mine
local macro_rules | `(tactic| walk_at "call ref") => `(tactic| ((with_reducible show wpAny _ _ (call (Value.ref _) _ _) _ _ _); (refine wpAny_call ?_); k_dflt (refine' code_defS ?k1 ?k2 ?k3 ?k4 ?k5 ?XB ?TB ?D ?T0 ?kA ?k6 ?k7 ?k8 ?k9 ?kB ?_ ?cK ?c2 ?c3 ?c4 ?c5; (case kA => exact rfl); (case k2 => k_asm); (case k1 => k_asm); (case XB => assumption); (case TB => assumption); (case D => assumption); (case T0 => first | assumption | exact KtsTurn.refl); (case k3 => k_asm); (case k4 => k_asm); (case k5 => k_asm); (case k6 => k_is); (case k7 => k_is); (case k8 => ktr_room); (case k9 => first | exact BindsTo.of_eq rfl | exact binds_K (by k_in) rfl (by k_is) rfl rfl rfl); (case kB => exact locs rfl); (case cK => exact rfl); (case c2 => exact rfl); (case c3 => exact rfl); (case c4 => exact rfl); (case c5 => decide); k_whole; intro g' L' h' FG' F' N' B' X' T' D'; (try dsimp only); (try k_fold))))
local macro_rules | `(tactic| walk_at "mine enter0") => `(tactic| (refine wpAny_call ?_; k_dflt (refine' enterT ?k1 ?k2 ?k3 ?k4 ?k5 ?kA ?kF ?kK ?k6 ?k7 ?k8 ?k9 ?kB ?_ ?c2 ?c3 ?c4 ?c5; (case kA => exact rfl); (case kF => exact rfl); (case kK => first | assumption | exact rfl); (case k2 => k_asm); (case k1 => k_asm); (case k3 => k_asm); (case k4 => k_asm); (case k5 => k_asm); (case k6 => k_is); (case k7 => k_is); (case k8 => ktr_room); (case k9 => first | exact BindsTo.of_eq rfl | exact binds_K (by k_in) rfl (by k_is) rfl rfl rfl); (case kB => exact locs rfl); (case c2 => exact rfl); (case c3 => exact rfl); (case c4 => exact rfl); (case c5 => decide); k_whole)))

local macro_rules | `(tactic| walk_at "mine enter") => `(tactic| (refine wpAny_call ?_; k_dflt (refine' enterM ?k1 ?k2 ?k3 ?k5 ?kA ?kF ?kK ?k6 ?k7 ?k8 ?k9 ?kB ?_ ?c2 ?c3 ?c4 ?c5; (case kA => exact rfl); (case kF => exact rfl); (case kK => first | assumption | exact rfl); (case k1 => k_asm); (case k2 => k_asm); (case k3 => k_asm); (case k5 => k_asm); (case k6 => k_is); (case k7 => k_is); (case k8 => ktr_room); (case k9 => first | exact BindsTo.of_eq rfl | exact binds_K (by k_in) rfl (by k_is) rfl rfl rfl); (case c5 => decide); (case kB => exact locs rfl); (case c2 => exact rfl); (case c3 => exact rfl); (case c4 => exact rfl); k_whole)))
local macro_rules | `(tactic| walk_at "mine done") => `(tactic| ((try dsimp only); (try k_unfold); (try dsimp only)))
local macro_rules | `(tactic| walk_at "call type:bytes") => `(tactic| ((with_reducible show wpAny _ _ (call (Value.type "bytes") [Value.bytes _ _]) _ _ _); refine call_bytes_bytes ?_))
local macro_rules | `(tactic| walk_at "getMethod bytes") => `(tactic| first | (with_reducible refine getm_lstrip ?_) | (with_reducible refine getm_translate ?_) | (with_reducible refine getm_hex ?_))
local macro_rules | `(tactic| walk_at "callWith ref") => `(tactic| ((with_reducible show wpAny _ _ (callWith _ (Value.ref _) _ (backTo _ (starEach (_ :: _) _)) (backToKw _ _)) _ _ _); kfb_any; (refine callWith_boundKW (by rfl) ?_)))
local macro_rules | `(tactic| walk_at "binaryOp Add bytes bytes") => `(tactic| ((with_reducible show wpAny _ _ (binaryOp Operator.Add (Value.bytes _ _) (Value.bytes _ _)) _ _ _); (refine add_bytes (by first | decide | omega) (by first | decide | omega) ?_); intro _ _))
local macro_rules | `(tactic| walk_at "call ref") => `(tactic| ((with_reducible show wpAny _ _ (call (Value.ref _) _ _) _ _ _); kfb_any; k_dflt (show wpAny _ _ (call (Value.ref _) [Value.bytes _ _] [(_, _), (_, _)]) _ _ _); (refine call_fromN (by k_asm) (by k_mem) (by (try simp only [Array.size_append]); first | omega | (show _ + _ ≤ _; omega) | (show 1 + _ ≤ _; omega)) ?_); intro _ _ _ _ _))
local macro_rules | `(tactic| walk_at "callWith builtin:int.to_bytes") => `(tactic| (refine callWith_kwF ?_))
local macro_rules | `(tactic| walk_at "call builtin:int.to_bytes") => `(tactic| (refine mixed_to (by assumption) ?_; intro _ _))

local macro_rules | `(tactic| walk_at "mine size") => `(tactic| first | omega | decide | ((simp only [translated_size, Array.size_append, hashed_size, mixed_size, asciiOf_size]); first | done | omega) | exact Nat.le_trans (lstrip_size _ _) (by omega))
local macro_rules | `(tactic| walk_at "call builtin:bytes.translate") => `(tactic| first
  | ((with_reducible show wpAny _ _ (call (Value.builtin "bytes.translate") [Value.bytes _ _, Value.bytes _ _]) _ _ _); first | (refine translateDigit (by unfold digitTab; decide +kernel) (by walk_at "mine size") ?_; intro _ _) | (refine translateChar (by unfold charTab; decide +kernel) (by walk_at "mine size") ?_; intro _ _))
  | ((with_reducible show wpAny _ _ (call (Value.builtin "bytes.translate") [Value.bytes _ _, Value.none, Value.bytes _ _]) _ _ _); (refine translateOut (by unfold signTab; decide +kernel) (by walk_at "mine size") ?_; intro _ _)))
local macro_rules | `(tactic| walk_at "call builtin:len") => `(tactic| ((with_reducible show wpAny _ _ (call (Value.builtin "len") [Value.bytes _ _]) _ _ _); (refine lenB (by walk_at "mine size") ?_; intro _ _)))
local macro_rules | `(tactic| walk_at "truthy bytes") => `(tactic| (refine truthyB (by walk_at "mine size") ?_; intro _))
local macro_rules | `(tactic| walk_at "subscriptTail") => `(tactic| ((with_reducible show wpAny _ _ (subscriptTail _ (Expr.Slice _ _ none _) (Value.bytes _ _) (Value.ref _)) _ _ _); (with_reducible rename Fr _ _ _ _ => F'); (with_reducible rename News _ _ _ _ => N'); (refine sliceB (s := ⟨_, _, _, _, _⟩) F' N' (by constructor) (by constructor) (by walk_at "mine size") ?_); intro _ _ _ _ _))
local macro_rules | `(tactic| walk_at "mine steps") => `(tactic| repeat' (first | (k_unfold; (try dsimp only)) | ((fail_if_success (with_reducible show wpAny _ _ (exec (Stmt.While _ _ _ _) _) _ _ _)); (fail_if_success (with_reducible show wpAny _ _ (exec (Stmt.For _ _ _ _ _) _) _ _ _)); (fail_if_success (with_reducible show wpAny _ _ (pyIter _) _ _ _)); first | (k_end; wrow_close) | walk1 | (dsimp only; walk1)) | fail "no step"))

local macro_rules | `(tactic| walk_at "truthy bytes") => `(tactic| first | (refine truthyB0 (by assumption) ?_; intro _) | (refine truthyB1 (by assumption) ?_; intro _))
local macro_rules | `(tactic| walk_at "call builtin:bytes.lstrip") => `(tactic| first | (refine lstripOne (by decide +kernel) (by walk_at "mine size") ?_; intro _ _) | (refine lstripZero (by decide +kernel) (by walk_at "mine size") ?_; intro _ _))
local macro_rules | `(tactic| walk_at "binaryOp Mult bytes int") => `(tactic| first
  | (refine mulPad (c := 0) (by decide +kernel) (lstrip_size _ _) (by omega) ?_; intro _ _)
  | (refine mulPad (c := 49) (by decide +kernel) (lstrip_size _ _) (by omega) ?_; intro _ _))
local macro_rules | `(tactic| walk_at "call builtin:int.to_bytes") => `(tactic| (refine toOctets (by first | with_reducible assumption | exact octets_of_text (by omega)) ?_; intro _ _))
local macro_rules | `(tactic| walk_at "inplaceOp Add bytes bytes") => `(tactic| (refine iadd_bytes (by first | omega | (simp only [pad_size, octs_size]; omega)) (by first | omega | (simp only [pad_size, octs_size]; first | omega | exact Nat.le_trans (octets_of_text (by omega)) (by decide))) ?_; intro _ _))

local macro_rules | `(tactic| walk_at "call builtin:str.encode") => `(tactic| (refine encodeAscii (by with_reducible assumption) (by omega) ?_; intro _ _))
local macro_rules | `(tactic| walk_at "call builtin:bytes.hex") => `(tactic| (refine call_hex (by first | omega | walk_at "mine size") ?_; intro _ _ _ _))
local macro_rules | `(tactic| walk_at "getMethod str") => `(tactic| (with_reducible refine getm_encode ?_))

local macro_rules | `(tactic| walk_at "exec Raise some none") => `(tactic| (k_here; (with_reducible show wpAny _ _ (exec (Stmt.Raise (some (Expr.Call (Expr.Name _ _) (_ :: _) [] _)) none _) _) _ _ _); k_dflt (first
  | (refine' raise_own2 ?F ?g ?O PySem.F.excBase_Exception PySem.F.excBase_ValueError ?B ?h ?_ ?a ?b ?c ?d ?e; (case F => k_asm); (case g => exact TopRead.g (by k_asm)); (case O => exact own_of_in (by k_asm) (by k_asm) (by k_is) (by k_exc)); (case B => decide +kernel); (case h => first | rfl | assumption); (case a => rfl); (case b => rfl); (case c => rfl); (case d => rfl); (case e => decide); k_whole)
  | (refine' raise_own2 ?F ?g ?O PySem.F.excBase_Exception PySem.F.excBase_TypeError ?B ?h ?_ ?a ?b ?c ?d ?e; (case F => k_asm); (case g => exact TopRead.g (by k_asm)); (case O => exact own_of_in (by k_asm) (by k_asm) (by k_is) (by k_exc)); (case B => decide +kernel); (case h => first | rfl | assumption); (case a => rfl); (case b => rfl); (case c => rfl); (case d => rfl); (case e => decide); k_whole))))

local macro_rules | `(tactic| walk_at "mine size") => `(tactic| (simp only [hashed_size]; first | done | omega))
local macro_rules | `(tactic| walk_at "mine size") => `(tactic| exact Nat.le_trans (picked_size_le _ _ _) (by first | omega | (simp only [hashed_size]; first | done | omega)))
local macro_rules | `(tactic| walk_at "news tail") => `(tactic| first | with_reducible assumption | (with_reducible exact newsTail (by assumption)) | (with_reducible exact newsTail (newsTail (by assumption))) | (with_reducible exact newsTail (newsTail (newsTail (by assumption)))))
local macro_rules | `(tactic| walk_at "joinParts") => `(tactic| ((with_reducible show wpAny _ _ (joinParts _ (evalEach [] _)) _ _ _); (with_reducible refine joinParts_nilE ?_); (with_reducible refine joinParts_nil (hsz := ?hsz) ?_); (case hsz => size_fits)))

local macro_rules | `(tactic| walk_at "call ref") => `(tactic| ((with_reducible show wpAny _ _ (call (Value.ref 130) _) _ _ _); k_dflt (refine' Con.use (c_b58d ?hb ?hv) ?k1 ?k2 ?k3 ?k4 ?k5 ?kK ?kd ?ku ?_; (case hb => first | with_reducible assumption | omega | ((simp only [mixed_size, hashed_size]); first | done | omega) | (simp only [Array.size_append, mixed_size, hashed_size]; omega) | exact Nat.le_trans (lstrip_size _ _) (by omega)); (case hv => first | with_reducible assumption | omega | ((simp only [mixed_size, hashed_size]); first | done | omega) | (simp only [Array.size_append, mixed_size, hashed_size]; omega) | exact Nat.le_trans (lstrip_size _ _) (by omega)); (case k1 => k_asm); (case k2 => k_asm); (case k3 => k_asm); (case k4 => k_asm); (case k5 => k_asm); (case kK => first | exact rfl | assumption); (case kd => ktr_room); (case ku => ktr_units)); intro v9 h9 tk9 F9 N9 p9; (try k_sweep); obtain ⟨_, e9⟩ := p9; subst e9))

local macro_rules | `(tactic| walk_at "call ref") => `(tactic| ((with_reducible show wpAny _ _ (call (Value.ref 94) _) _ _ _); k_dflt (refine' Con.use (c_hash ?hb) ?k1 ?k2 ?k3 ?k4 ?k5 ?kK ?kd ?ku ?_; (case hb => first | with_reducible assumption | omega | ((simp only [mixed_size, hashed_size]); first | done | omega) | (simp only [Array.size_append, mixed_size, hashed_size]; omega) | exact Nat.le_trans (lstrip_size _ _) (by omega) | exact Nat.le_trans (picked_size_le _ _ _) (by omega)); (case k1 => k_asm); (case k2 => k_asm); (case k3 => k_asm); (case k4 => k_asm); (case k5 => k_asm); (case kK => first | exact rfl | assumption); (case kd => ktr_room); (case ku => ktr_units)); intro v9 h9 tk9 F9 N9 p9; (try k_sweep); obtain ⟨_, e9⟩ := p9; subst e9))

theorem c_told_bad {w : World} {x : Str} {t : Tok} (hx : IsAscii x) (hl : x.length ≤ 112) (hz : (asciiOf x).size ≤ 112) (hbad : (without (asciiOf x) signTab).size ≠ 0 ∧ (without (asciiOf x) signTab).size ≤ 16777216) : ConT (hd.heap_39 w.params) w 173 [.str x t, .none] 40 400 (fun v => ∃ t' : Tok, v = .str (Str.ofString "refused") t') := by
  w_top off
  intro prog p loose mean mg mb dp un gd cn cs a ccd cl A₀ h₀ L m s Q E news B F N X T hk hd hu hret
  walk_at "mine enter0"
  intro g' L' h' FG' F' N' B' X' T' D'
  (try dsimp only)
  (try k_fold)
  walk_at "mine steps"
  exact hret _ _ _ (by with_reducible assumption) (by with_reducible assumption) ⟨_, rfl⟩

theorem c_told_short {w : World} {x : Str} {t : Tok} (hx : IsAscii x) (hl : x.length ≤ 112) (hz : (asciiOf x).size ≤ 112) (hgood : (without (asciiOf x) signTab).size = 0) (hd4 : (decoded (asciiOf x)).size < 4) : ConT (hd.heap_39 w.params) w 173 [.str x t, .none] 40 400 (fun v => ∃ t' : Tok, v = .str (Str.ofString "refused") t') := by
  w_top off
  intro prog p loose mean mg mb dp un gd cn cs a ccd cl A₀ h₀ L m s Q E news B F N X T hk hd hu hret
  walk_at "mine enter0"
  intro g' L' h' FG' F' N' B' X' T' D'
  (try dsimp only)
  (try k_fold)
  walk_at "mine steps"
  exact hret _ _ _ (by with_reducible assumption) (by with_reducible assumption) ⟨_, rfl⟩

theorem c_told_sum {w : World} {x : Str} {t : Tok} (hx : IsAscii x) (hl : x.length ≤ 112) (hz : (asciiOf x).size ≤ 112) (hgood : (without (asciiOf x) signTab).size = 0) (hz2 : (decoded (asciiOf x)).size ≤ 250) (hd4 : ¬ (decoded (asciiOf x)).size < 4) : ConT (hd.heap_39 w.params) w 173 [.str x t, .none] 40 400 (fun v => (((KBy.picked (decoded (asciiOf x)) (some (-4)) none).toList != (KBy.picked (hashed (KBy.picked (decoded (asciiOf x)) none (some (-4)))) none (some 4)).toList) = true → ∃ t' : Tok, v = .str (Str.ofString "refused") t') ∧ (((KBy.picked (decoded (asciiOf x)) (some (-4)) none).toList != (KBy.picked (hashed (KBy.picked (decoded (asciiOf x)) none (some (-4)))) none (some 4)).toList) = false → ∃ t' : Tok, v = .bytes (KBy.picked (decoded (asciiOf x)) none (some (-4))) t')) := by
  w_top off
  intro prog p loose mean mg mb dp un gd cn cs a ccd cl A₀ h₀ L m s Q E news B F N X T hk hd hu hret
  walk_at "mine enter0"
  intro g' L' h' FG' F' N' B' X' T' D'
  (try dsimp only)
  (try k_fold)
  walk_at "mine steps"
  · exact hret _ _ _ (by with_reducible assumption) (by walk_at "news tail") ⟨(by intro q; first | exact ⟨_, rfl⟩ | exact absurd (show true = false from q.symm.trans (by with_reducible assumption)) (by decide) | exact absurd (show false = true from q.symm.trans (by with_reducible assumption)) (by decide)), (by intro q; first | exact ⟨_, rfl⟩ | exact absurd (show true = false from q.symm.trans (by with_reducible assumption)) (by decide) | exact absurd (show false = true from q.symm.trans (by with_reducible assumption)) (by decide))⟩
  · exact hret _ _ _ (by with_reducible assumption) (by walk_at "news tail") ⟨(by intro q; first | exact ⟨_, rfl⟩ | exact absurd (show true = false from q.symm.trans (by with_reducible assumption)) (by decide) | exact absurd (show false = true from q.symm.trans (by with_reducible assumption)) (by decide)), (by intro q; first | exact ⟨_, rfl⟩ | exact absurd (show true = false from q.symm.trans (by with_reducible assumption)) (by decide) | exact absurd (show false = true from q.symm.trans (by with_reducible assumption)) (by decide))⟩

theorem c_told_size {w : World} {x : Str} {t : Tok} (hx : IsAscii x) (hl : x.length ≤ 112) (hz : (asciiOf x).size ≤ 112) (hgood : (without (asciiOf x) signTab).size = 0) (hz2 : (decoded (asciiOf x)).size ≤ 250) (hd4 : ¬ (decoded (asciiOf x)).size < 4) {k : Nat} {u : Tok} (hck : ((KBy.picked (decoded (asciiOf x)) (some (-4)) none).toList != (KBy.picked (hashed (KBy.picked (decoded (asciiOf x)) none (some (-4)))) none (some 4)).toList) = false) (hz3 : (KBy.picked (decoded (asciiOf x)) none (some (-4))).size ≤ 250) (hk9 : k ≤ 1000) (hne : (KBy.picked (decoded (asciiOf x)) none (some (-4))).size ≠ k) : ConT (hd.heap_39 w.params) w 173 [.str x t, .int (k : Int) u] 40 400 (fun v => ∃ t' : Tok, v = .str (Str.ofString "refused") t') := by
  w_top off
  intro prog p loose mean mg mb dp un gd cn cs a ccd cl A₀ h₀ L m s Q E news B F N X T hk hd hu hret
  walk_at "mine enter0"
  intro g' L' h' FG' F' N' B' X' T' D'
  (try dsimp only)
  (try k_fold)
  walk_at "mine steps"
  · exfalso; first | omega | (simp_all; done)
  · exact hret _ _ _ (by with_reducible assumption) (by walk_at "news tail") ⟨_, rfl⟩
theorem c_told_text {w : World} {x : Str} {t : Tok} (hx : IsAscii x) (hl : x.length ≤ 112) (hz : (asciiOf x).size ≤ 112) (hgood : (without (asciiOf x) signTab).size = 0) (hz2 : (decoded (asciiOf x)).size ≤ 250) (hd4 : ¬ (decoded (asciiOf x)).size < 4) {y : Str} {u : Tok} (hck : ((KBy.picked (decoded (asciiOf x)) (some (-4)) none).toList != (KBy.picked (hashed (KBy.picked (decoded (asciiOf x)) none (some (-4)))) none (some 4)).toList) = false) : ConT (hd.heap_39 w.params) w 173 [.str x t, .str y u] 40 400 (fun v => ∃ t' : Tok, v = .str (Str.ofString "kind") t') := by
  w_top off
  intro prog p loose mean mg mb dp un gd cn cs a ccd cl A₀ h₀ L m s Q E news B F N X T hk hd hu hret
  walk_at "mine enter0"
  intro g' L' h' FG' F' N' B' X' T' D'
  (try dsimp only)
  (try k_fold)
  walk_at "mine steps"
  all_goals first | (exact hret _ _ _ (by with_reducible assumption) (by walk_at "news tail") ⟨_, rfl⟩)
theorem c_told_bool {w : World} {x : Str} {t : Tok} (hx : IsAscii x) (hl : x.length ≤ 112) (hz : (asciiOf x).size ≤ 112) (hgood : (without (asciiOf x) signTab).size = 0) (hz2 : (decoded (asciiOf x)).size ≤ 250) (hd4 : ¬ (decoded (asciiOf x)).size < 4) {u : Bool} (hck : ((KBy.picked (decoded (asciiOf x)) (some (-4)) none).toList != (KBy.picked (hashed (KBy.picked (decoded (asciiOf x)) none (some (-4)))) none (some 4)).toList) = false) : ConT (hd.heap_39 w.params) w 173 [.str x t, .bool u] 40 400 (fun v => ∃ t' : Tok, v = .str (Str.ofString "kind") t') := by
  w_top off
  intro prog p loose mean mg mb dp un gd cn cs a ccd cl A₀ h₀ L m s Q E news B F N X T hk hd hu hret
  walk_at "mine enter0"
  intro g' L' h' FG' F' N' B' X' T' D'
  (try dsimp only)
  (try k_fold)
  walk_at "mine steps"
  all_goals first | (exact hret _ _ _ (by with_reducible assumption) (by walk_at "news tail") ⟨_, rfl⟩)

theorem c_told_long {w : World} {x : Str} {t : Tok} (hx : IsAscii x) (hl : 112 < x.length) (hl2 : x.length ≤ 1000) (hz : 112 < (asciiOf x).size) (hz2 : (asciiOf x).size ≤ 1000) : ConT (hd.heap_39 w.params) w 173 [.str x t, .none] 40 400 (fun v => ∃ t' : Tok, v = .str (Str.ofString "refused") t') := by
  w_top off
  intro prog p loose mean mg mb dp un gd cn cs a ccd cl A₀ h₀ L m s Q E news B F N X T hk hd hu hret
  walk_at "mine enter0"
  intro g' L' h' FG' F' N' B' X' T' D'
  (try dsimp only)
  (try k_fold)
  walk_at "mine steps"
  exact hret _ _ _ (by with_reducible assumption) (by walk_at "news tail") ⟨_, rfl⟩
theorem c_told_int {w : World} {i : Int} {t : Tok} : ConT (hd.heap_39 w.params) w 173 [.int i t, .none] 40 400 (fun v => ∃ t' : Tok, v = .str (Str.ofString "kind") t') := by
  w_top off
  intro prog p loose mean mg mb dp un gd cn cs a ccd cl A₀ h₀ L m s Q E news B F N X T hk hd hu hret
  walk_at "mine enter0"
  intro g' L' h' FG' F' N' B' X' T' D'
  (try dsimp only)
  (try k_fold)
  walk_at "mine steps"
  all_goals first | (exact hret _ _ _ (by with_reducible assumption) (by walk_at "news tail") ⟨_, rfl⟩)

local macro_rules | `(tactic| walk_at "mine enterC") => `(tactic| (refine wpC_call ?_; k_dflt (refine' enterC ?k1 ?k2 ?k3 ?k5 ?kA ?kF ?kK ?k6 ?k7 ?k8 ?k9 ?kB ?_ ?c2 ?c3 ?c4 ?c5; (case kA => exact rfl); (case kF => exact rfl); (case kK => first | assumption | exact rfl); (case k1 => k_asm); (case k2 => k_asm); (case k3 => k_asm); (case k5 => k_asm); (case k6 => k_is); (case k7 => k_is); (case k8 => ktr_room); (case k9 => first | exact BindsTo.of_eq rfl | exact binds_K (by k_in) rfl (by k_is) rfl rfl rfl); (case c5 => decide); (case kB => exact locs rfl); (case c2 => exact rfl); (case c3 => exact rfl); (case c4 => exact rfl); k_whole)))
local macro_rules | `(tactic| walk_at "news tail") => `(tactic| first | with_reducible assumption | (with_reducible exact newsTail (by assumption)) | (with_reducible exact newsTail (newsTail (by assumption))) | (with_reducible exact newsTail (newsTail (newsTail (by assumption)))))

local macro_rules | `(tactic| walk_at "getAttr ref") => `(tactic| ((with_reducible show wpAny _ _ (getAttr (Value.ref _) (PySem.Str.ofString "start") _) _ _ _); (with_reducible rename News _ _ _ _ => N9); (refine uni_start (N9 _ (List.Mem.head _)).1 rfl rfl (by assumption) ?_)))

theorem c_told_uni {w : World} {t : Tok} : ConT (hd.heap_39 w.params) w 173 [.str (Str.ofString "١") t, .none] 40 400 (fun v => ∃ t' : Tok, v = .str (Str.ofString "refused") t') := by
  w_top off
  intro prog p loose mean mg mb dp un gd cn cs a ccd cl A₀ h₀ L m s Q E news B F N X T hk hd hu hret
  walk_at "mine enter0"
  intro g' L' h' FG' F' N' B' X' T' D'
  (try dsimp only)
  (try k_fold)
  walk_at "mine steps"
  refine uni_encode (by rfl) ?_
  intro e9 h9 k9 te9 ob9 re9 tr9 UX
  (try dsimp only)
  refine' caught_uni ?K ?F ?N UX ?XB ?TB ?D ?T0 ?ex PyProof.Rows.Boot.«UnicodeEncodeError» ?hn ?_
  (case K => assumption)
  (case F => assumption)
  (case N => assumption)
  (case XB => assumption)
  (case TB => assumption)
  (case D => assumption)
  (case T0 => first | assumption | exact KtsTurn.refl)
  (case ex => k_is)
  (case hn => decide)
  intro h' g' tk' vs' T' F' N' hvs K' X' P' D'
  (try k_lift K')
  (try k_sweep)
  walk_at "mine steps"
  with_reducible rename RaisedS _ _ _ _ _ _ _ _ _ => R1
  with_reducible rename Heap.UpToSlots _ _ => U1
  with_reducible rename KtsTurn _ _ _ => T1
  have R2 := raised_back R1 T1
  have U2 := upTo_back U1 T1
  clear R1 U1
  walk_at "mine steps"
  exact hret _ _ _ (by with_reducible assumption) (by walk_at "news tail") ⟨_, rfl⟩
end Mine
end

section
open PySem PySem.W PyProof.Rows PySem.Calls
set_option maxHeartbeats 8000000
namespace Mine
local macro_rules | `(tactic| walk_at "call ref") => `(tactic| ((with_reducible show wpAny _ _ (call (Value.ref _) _ _) _ _ _); (refine wpAny_call ?_); k_dflt (refine' code_def ?k1 ?k2 ?k3 ?k4 ?k5 ?kA ?kF ?kK ?k6 ?k7 ?k8 ?k9 ?kB ?_ ?c2 ?c3 ?c4 ?c5; (case kA => exact rfl); (case kF => exact rfl); (case kK => first | exact rfl | assumption); (case k1 => k_asm); (case k2 => k_asm); (case k3 => k_asm); (case k4 => k_asm); (case k5 => k_asm); (case k6 => k_is); (case k7 => k_is); (case k8 => ktr_room); (case k9 => first | exact BindsTo.of_eq rfl | exact binds_K (by k_in) rfl (by k_is) rfl rfl rfl); (case c5 => decide); (case kB => exact locs rfl); (case c2 => exact rfl); (case c3 => exact rfl); (case c4 => exact rfl); k_whole; intro g' L' h' FG' F' N' B' X' T'; (try dsimp only); (try k_fold))))

local macro_rules | `(tactic| walk_at "mine enter") => `(tactic| (refine wpAny_call ?_; k_dflt (refine' enterM ?k1 ?k2 ?k3 ?k5 ?kA ?kF ?kK ?k6 ?k7 ?k8 ?k9 ?kB ?_ ?c2 ?c3 ?c4 ?c5; (case kA => exact rfl); (case kF => exact rfl); (case kK => first | assumption | exact rfl); (case k1 => k_asm); (case k2 => k_asm); (case k3 => k_asm); (case k5 => k_asm); (case k6 => k_is); (case k7 => k_is); (case k8 => ktr_room); (case k9 => first | exact BindsTo.of_eq rfl | exact binds_K (by k_in) rfl (by k_is) rfl rfl rfl); (case c5 => decide); (case kB => exact locs rfl); (case c2 => exact rfl); (case c3 => exact rfl); (case c4 => exact rfl); k_whole)))
local macro_rules | `(tactic| walk_at "mine done") => `(tactic| ((try dsimp only); (try k_unfold); (try dsimp only)))
local macro_rules | `(tactic| walk_at "call type:bytes") => `(tactic| ((with_reducible show wpAny _ _ (call (Value.type "bytes") [Value.bytes _ _]) _ _ _); refine call_bytes_bytes ?_))
local macro_rules | `(tactic| walk_at "getMethod bytes") => `(tactic| first | (with_reducible refine getm_lstrip ?_) | (with_reducible refine getm_translate ?_) | (with_reducible refine getm_hex ?_))
local macro_rules | `(tactic| walk_at "callWith ref") => `(tactic| ((with_reducible show wpAny _ _ (callWith _ (Value.ref _) _ (backTo _ (starEach (_ :: _) _)) (backToKw _ _)) _ _ _); kfb_any; (refine callWith_boundKW (by rfl) ?_)))
local macro_rules | `(tactic| walk_at "binaryOp Add bytes bytes") => `(tactic| ((with_reducible show wpAny _ _ (binaryOp Operator.Add (Value.bytes _ _) (Value.bytes _ _)) _ _ _); (refine add_bytes (by first | decide | omega) (by first | decide | omega) ?_); intro _ _))
local macro_rules | `(tactic| walk_at "call ref") => `(tactic| ((with_reducible show wpAny _ _ (call (Value.ref _) _ _) _ _ _); kfb_any; k_dflt (show wpAny _ _ (call (Value.ref _) [Value.bytes _ _] [(_, _), (_, _)]) _ _ _); (refine call_fromN (by k_asm) (by k_mem) (by (try simp only [Array.size_append]); first | omega | (show _ + _ ≤ _; omega) | (show 1 + _ ≤ _; omega)) ?_); intro _ _ _ _ _))
local macro_rules | `(tactic| walk_at "callWith builtin:int.to_bytes") => `(tactic| (refine callWith_kwF ?_))
local macro_rules | `(tactic| walk_at "call builtin:int.to_bytes") => `(tactic| (refine mixed_to (by assumption) ?_; intro _ _))

local macro_rules | `(tactic| walk_at "mine size") => `(tactic| first | omega | decide | ((simp only [translated_size, Array.size_append, hashed_size, mixed_size, asciiOf_size]); first | done | omega) | exact Nat.le_trans (lstrip_size _ _) (by omega))
local macro_rules | `(tactic| walk_at "call builtin:bytes.translate") => `(tactic| first
  | ((with_reducible show wpAny _ _ (call (Value.builtin "bytes.translate") [Value.bytes _ _, Value.bytes _ _]) _ _ _); first | (refine translateDigit (by unfold digitTab; decide +kernel) (by walk_at "mine size") ?_; intro _ _) | (refine translateChar (by unfold charTab; decide +kernel) (by walk_at "mine size") ?_; intro _ _))
  | ((with_reducible show wpAny _ _ (call (Value.builtin "bytes.translate") [Value.bytes _ _, Value.none, Value.bytes _ _]) _ _ _); (refine translateOut (by unfold signTab; decide +kernel) (by walk_at "mine size") ?_; intro _ _)))
local macro_rules | `(tactic| walk_at "call builtin:len") => `(tactic| ((with_reducible show wpAny _ _ (call (Value.builtin "len") [Value.bytes _ _]) _ _ _); (refine lenB (by walk_at "mine size") ?_; intro _ _)))
local macro_rules | `(tactic| walk_at "truthy bytes") => `(tactic| (refine truthyB (by walk_at "mine size") ?_; intro _))
local macro_rules | `(tactic| walk_at "subscriptTail") => `(tactic| ((with_reducible show wpAny _ _ (subscriptTail _ (Expr.Slice _ _ none _) (Value.bytes _ _) (Value.ref _)) _ _ _); (with_reducible rename Fr _ _ _ _ => F'); (with_reducible rename News _ _ _ _ => N'); (refine sliceB (s := ⟨_, _, _, _, _⟩) F' N' (by constructor) (by constructor) (by walk_at "mine size") ?_); intro _ _ _ _ _))
local macro_rules | `(tactic| walk_at "mine steps") => `(tactic| repeat' (first | (k_unfold; (try dsimp only)) | ((fail_if_success (with_reducible show wpAny _ _ (exec (Stmt.While _ _ _ _) _) _ _ _)); (fail_if_success (with_reducible show wpAny _ _ (exec (Stmt.For _ _ _ _ _) _) _ _ _)); (fail_if_success (with_reducible show wpAny _ _ (pyIter _) _ _ _)); first | (k_end; wrow_close) | walk1 | (dsimp only; walk1)) | fail "no step"))

local macro_rules | `(tactic| walk_at "truthy bytes") => `(tactic| first | (refine truthyB0 (by assumption) ?_; intro _) | (refine truthyB1 (by assumption) ?_; intro _))
local macro_rules | `(tactic| walk_at "call builtin:bytes.lstrip") => `(tactic| first | (refine lstripOne (by decide +kernel) (by walk_at "mine size") ?_; intro _ _) | (refine lstripZero (by decide +kernel) (by walk_at "mine size") ?_; intro _ _))
local macro_rules | `(tactic| walk_at "binaryOp Mult bytes int") => `(tactic| first
  | (refine mulPad (c := 0) (by decide +kernel) (lstrip_size _ _) (by omega) ?_; intro _ _)
  | (refine mulPad (c := 49) (by decide +kernel) (lstrip_size _ _) (by omega) ?_; intro _ _))
local macro_rules | `(tactic| walk_at "call builtin:int.to_bytes") => `(tactic| (refine toOctets (by first | with_reducible assumption | exact octets_of_text (by omega)) ?_; intro _ _))
local macro_rules | `(tactic| walk_at "inplaceOp Add bytes bytes") => `(tactic| (refine iadd_bytes (by first | omega | (simp only [pad_size, octs_size]; omega)) (by first | omega | (simp only [pad_size, octs_size]; first | omega | exact Nat.le_trans (octets_of_text (by omega)) (by decide))) ?_; intro _ _))

local macro_rules | `(tactic| walk_at "call builtin:str.encode") => `(tactic| (refine encodeAscii (by with_reducible assumption) (by omega) ?_; intro _ _))
local macro_rules | `(tactic| walk_at "call builtin:bytes.hex") => `(tactic| (refine call_hex (by first | omega | walk_at "mine size") ?_; intro _ _ _ _))
local macro_rules | `(tactic| walk_at "getMethod str") => `(tactic| (with_reducible refine getm_encode ?_))

local macro_rules | `(tactic| walk_at "exec Raise some none") => `(tactic| (k_here; (with_reducible show wpAny _ _ (exec (Stmt.Raise (some (Expr.Call (Expr.Name _ _) (_ :: _) [] _)) none _) _) _ _ _); k_dflt (first
  | (refine' raise_own2 ?F ?g ?O PySem.F.excBase_Exception PySem.F.excBase_ValueError ?B ?h ?_ ?a ?b ?c ?d ?e; (case F => k_asm); (case g => exact TopRead.g (by k_asm)); (case O => exact own_of_in (by k_asm) (by k_asm) (by k_is) (by k_exc)); (case B => decide +kernel); (case h => first | rfl | assumption); (case a => rfl); (case b => rfl); (case c => rfl); (case d => rfl); (case e => decide); k_whole)
  | (refine' raise_own2 ?F ?g ?O PySem.F.excBase_Exception PySem.F.excBase_TypeError ?B ?h ?_ ?a ?b ?c ?d ?e; (case F => k_asm); (case g => exact TopRead.g (by k_asm)); (case O => exact own_of_in (by k_asm) (by k_asm) (by k_is) (by k_exc)); (case B => decide +kernel); (case h => first | rfl | assumption); (case a => rfl); (case b => rfl); (case c => rfl); (case d => rfl); (case e => decide); k_whole))))

local macro_rules | `(tactic| walk_at "mine size") => `(tactic| (simp only [hashed_size]; first | done | omega))
local macro_rules | `(tactic| walk_at "mine size") => `(tactic| exact Nat.le_trans (picked_size_le _ _ _) (by first | omega | (simp only [hashed_size]; first | done | omega)))
local macro_rules | `(tactic| walk_at "news tail") => `(tactic| first | with_reducible assumption | (with_reducible exact newsTail (by assumption)) | (with_reducible exact newsTail (newsTail (by assumption))) | (with_reducible exact newsTail (newsTail (newsTail (by assumption)))))
local macro_rules | `(tactic| walk_at "joinParts") => `(tactic| ((with_reducible show wpAny _ _ (joinParts _ (evalEach [] _)) _ _ _); (with_reducible refine joinParts_nilE ?_); (with_reducible refine joinParts_nil (hsz := ?hsz) ?_); (case hsz => size_fits)))

local macro_rules | `(tactic| walk_at "call ref") => `(tactic| ((with_reducible show wpAny _ _ (call (Value.ref 130) _) _ _ _); k_dflt (refine' Con.use (c_b58d ?hb ?hv) ?k1 ?k2 ?k3 ?k4 ?k5 ?kK ?kd ?ku ?_; (case hb => first | with_reducible assumption | omega | ((simp only [mixed_size, hashed_size]); first | done | omega) | (simp only [Array.size_append, mixed_size, hashed_size]; omega) | exact Nat.le_trans (lstrip_size _ _) (by omega)); (case hv => first | with_reducible assumption | omega | ((simp only [mixed_size, hashed_size]); first | done | omega) | (simp only [Array.size_append, mixed_size, hashed_size]; omega) | exact Nat.le_trans (lstrip_size _ _) (by omega)); (case k1 => k_asm); (case k2 => k_asm); (case k3 => k_asm); (case k4 => k_asm); (case k5 => k_asm); (case kK => first | exact rfl | assumption); (case kd => ktr_room); (case ku => ktr_units)); intro v9 h9 tk9 F9 N9 p9; (try k_sweep); obtain ⟨_, e9⟩ := p9; subst e9))

local macro_rules | `(tactic| walk_at "call ref") => `(tactic| ((with_reducible show wpAny _ _ (call (Value.ref 94) _) _ _ _); k_dflt (refine' Con.use (c_hash ?hb) ?k1 ?k2 ?k3 ?k4 ?k5 ?kK ?kd ?ku ?_; (case hb => first | with_reducible assumption | omega | ((simp only [mixed_size, hashed_size]); first | done | omega) | (simp only [Array.size_append, mixed_size, hashed_size]; omega) | exact Nat.le_trans (lstrip_size _ _) (by omega) | exact Nat.le_trans (picked_size_le _ _ _) (by omega)); (case k1 => k_asm); (case k2 => k_asm); (case k3 => k_asm); (case k4 => k_asm); (case k5 => k_asm); (case kK => first | exact rfl | assumption); (case kd => ktr_room); (case ku => ktr_units)); intro v9 h9 tk9 F9 N9 p9; (try k_sweep); obtain ⟨_, e9⟩ := p9; subst e9))

theorem c_decode_text {w : World} {x : Str} {t : Tok} (hx : IsAscii x) (hl : x.length ≤ 112) (hz : (asciiOf x).size ≤ 112) (hgood : (without (asciiOf x) signTab).size = 0) (hz2 : (decoded (asciiOf x)).size ≤ 250) (hz3 : (KBy.picked (decoded (asciiOf x)) none (some (-4))).size ≤ 250) (hd4 : ¬ (decoded (asciiOf x)).size < 4) (hck : ((KBy.picked (decoded (asciiOf x)) (some (-4)) none).toList != (KBy.picked (hashed (KBy.picked (decoded (asciiOf x)) none (some (-4)))) none (some 4)).toList) = false) : Con (hd.heap_39 w.params) w 138 [.str x t] 40 400 (fun v => ∃ t' : Tok, v = .bytes (KBy.picked (decoded (asciiOf x)) none (some (-4))) t') := by
  w_top off
  intro prog p loose mean mg mb dp un gd cn cs a ccd cl outer A₀ base h₀ L m s Q E B F X T hk hd hu hret
  walk_at "mine enter"
  clear B F X T
  intro L' h' F' N' B' X' T'
  (try dsimp only)
  (try k_fold)
  walk_at "mine steps"

  all_goals first | (walk_at "mine done"; exact hret _ _ _ (Fr.keep (by k_asm)) ⟨_, rfl⟩) | (exfalso; omega) | (exfalso; simp_all; done)
theorem c_decode_bytes {w : World} {b : Array UInt8} {t u : Tok} (hz : b.size ≤ 112) (hgood : (without b signTab).size = 0) (hz2 : (decoded b).size ≤ 250) (hz3 : (KBy.picked (decoded b) none (some (-4))).size ≤ 250) (hd4 : ¬ (decoded b).size < 4) (hck : ((KBy.picked (decoded b) (some (-4)) none).toList != (KBy.picked (hashed (KBy.picked (decoded b) none (some (-4)))) none (some 4)).toList) = false) {k : Nat} (hk9 : k ≤ 1000) (hkk : (KBy.picked (decoded b) none (some (-4))).size = k) : Con (hd.heap_39 w.params) w 138 [.bytes b t, .int (k : Int) u] 40 400 (fun v => ∃ t' : Tok, v = .bytes (KBy.picked (decoded b) none (some (-4))) t') := by
  w_top off
  intro prog p loose mean mg mb dp un gd cn cs a ccd cl outer A₀ base h₀ L m s Q E B F X T hk hd hu hret
  walk_at "mine enter"
  clear B F X T
  intro L' h' F' N' B' X' T'
  (try dsimp only)
  (try k_fold)
  walk_at "mine steps"

  all_goals first | (walk_at "mine done"; exact hret _ _ _ (Fr.keep (by k_asm)) ⟨_, rfl⟩) | (exfalso; omega) | (exfalso; simp_all; done)
end Mine
end

section
open PySem PySem.W PyProof.Rows PySem.Calls
set_option maxHeartbeats 8000000
namespace Mine
local macro_rules | `(tactic| walk_at "mine enter") => `(tactic| (refine wpAny_call ?_; k_dflt (refine' enterM ?k1 ?k2 ?k3 ?k5 ?kA ?kF ?kK ?k6 ?k7 ?k8 ?k9 ?kB ?_ ?c2 ?c3 ?c4 ?c5; (case kA => exact rfl); (case kF => exact rfl); (case kK => first | assumption | exact rfl); (case k1 => k_asm); (case k2 => k_asm); (case k3 => k_asm); (case k5 => k_asm); (case k6 => k_is); (case k7 => k_is); (case k8 => ktr_room); (case k9 => first | exact BindsTo.of_eq rfl | exact binds_K (by k_in) rfl (by k_is) rfl rfl rfl); (case c5 => decide); (case kB => exact locs rfl); (case c2 => exact rfl); (case c3 => exact rfl); (case c4 => exact rfl); k_whole)))
local macro_rules | `(tactic| walk_at "mine done") => `(tactic| ((try dsimp only); (try k_unfold); (try dsimp only)))
local macro_rules | `(tactic| walk_at "call type:bytes") => `(tactic| ((with_reducible show wpAny _ _ (call (Value.type "bytes") [Value.bytes _ _]) _ _ _); refine call_bytes_bytes ?_))
local macro_rules | `(tactic| walk_at "getMethod bytes") => `(tactic| first | (with_reducible refine getm_lstrip ?_) | (with_reducible refine getm_translate ?_) | (with_reducible refine getm_hex ?_))
local macro_rules | `(tactic| walk_at "callWith ref") => `(tactic| ((with_reducible show wpAny _ _ (callWith _ (Value.ref _) _ (backTo _ (starEach (_ :: _) _)) (backToKw _ _)) _ _ _); kfb_any; (refine callWith_boundKW (by rfl) ?_)))
local macro_rules | `(tactic| walk_at "binaryOp Add bytes bytes") => `(tactic| ((with_reducible show wpAny _ _ (binaryOp Operator.Add (Value.bytes _ _) (Value.bytes _ _)) _ _ _); (refine add_bytes (by first | decide | omega) (by first | decide | omega) ?_); intro _ _))
local macro_rules | `(tactic| walk_at "call ref") => `(tactic| ((with_reducible show wpAny _ _ (call (Value.ref _) _ _) _ _ _); kfb_any; k_dflt (show wpAny _ _ (call (Value.ref _) [Value.bytes _ _] [(_, _), (_, _)]) _ _ _); (refine call_fromN (by k_asm) (by k_mem) (by (try simp only [Array.size_append]); first | omega | (show _ + _ ≤ _; omega) | (show 1 + _ ≤ _; omega)) ?_); intro _ _ _ _ _))
local macro_rules | `(tactic| walk_at "callWith builtin:int.to_bytes") => `(tactic| (refine callWith_kwF ?_))
local macro_rules | `(tactic| walk_at "call builtin:int.to_bytes") => `(tactic| (refine mixed_to (by assumption) ?_; intro _ _))

local macro_rules | `(tactic| walk_at "mine size") => `(tactic| first | omega | decide | ((simp only [translated_size, Array.size_append, hashed_size, mixed_size, asciiOf_size]); first | done | omega) | exact Nat.le_trans (lstrip_size _ _) (by omega))
local macro_rules | `(tactic| walk_at "call builtin:bytes.translate") => `(tactic| first
  | ((with_reducible show wpAny _ _ (call (Value.builtin "bytes.translate") [Value.bytes _ _, Value.bytes _ _]) _ _ _); first | (refine translateDigit (by unfold digitTab; decide +kernel) (by walk_at "mine size") ?_; intro _ _) | (refine translateChar (by unfold charTab; decide +kernel) (by walk_at "mine size") ?_; intro _ _))
  | ((with_reducible show wpAny _ _ (call (Value.builtin "bytes.translate") [Value.bytes _ _, Value.none, Value.bytes _ _]) _ _ _); (refine translateOut (by unfold signTab; decide +kernel) (by walk_at "mine size") ?_; intro _ _)))
local macro_rules | `(tactic| walk_at "call builtin:len") => `(tactic| ((with_reducible show wpAny _ _ (call (Value.builtin "len") [Value.bytes _ _]) _ _ _); (refine lenB (by walk_at "mine size") ?_; intro _ _)))
local macro_rules | `(tactic| walk_at "truthy bytes") => `(tactic| (refine truthyB (by walk_at "mine size") ?_; intro _))
local macro_rules | `(tactic| walk_at "subscriptTail") => `(tactic| ((with_reducible show wpAny _ _ (subscriptTail _ (Expr.Slice _ _ none _) (Value.bytes _ _) (Value.ref _)) _ _ _); (with_reducible rename Fr _ _ _ _ => F'); (with_reducible rename News _ _ _ _ => N'); (refine sliceB (s := ⟨_, _, _, _, _⟩) F' N' (by constructor) (by constructor) (by walk_at "mine size") ?_); intro _ _ _ _ _))
local macro_rules | `(tactic| walk_at "mine steps") => `(tactic| repeat' (first | (k_unfold; (try dsimp only)) | ((fail_if_success (with_reducible show wpAny _ _ (exec (Stmt.While _ _ _ _) _) _ _ _)); (fail_if_success (with_reducible show wpAny _ _ (exec (Stmt.For _ _ _ _ _) _) _ _ _)); (fail_if_success (with_reducible show wpAny _ _ (pyIter _) _ _ _)); first | (k_end; wrow_close) | walk1 | (dsimp only; walk1)) | fail "no step"))

local macro_rules | `(tactic| walk_at "mine enterC") => `(tactic| (refine wpC_call ?_; k_dflt (refine' enterC ?k1 ?k2 ?k3 ?k5 ?kA ?kF ?kK ?k6 ?k7 ?k8 ?k9 ?kB ?_ ?c2 ?c3 ?c4 ?c5; (case kA => exact rfl); (case kF => exact rfl); (case kK => first | assumption | exact rfl); (case k1 => k_asm); (case k2 => k_asm); (case k3 => k_asm); (case k5 => k_asm); (case k6 => k_is); (case k7 => k_is); (case k8 => ktr_room); (case k9 => first | exact BindsTo.of_eq rfl | exact binds_K (by k_in) rfl (by k_is) rfl rfl rfl); (case c5 => decide); (case kB => exact locs rfl); (case c2 => exact rfl); (case c3 => exact rfl); (case c4 => exact rfl); k_whole)))
local macro_rules | `(tactic| walk_at "news tail") => `(tactic| first | with_reducible assumption | (with_reducible exact newsTail (by assumption)) | (with_reducible exact newsTail (newsTail (by assumption))) | (with_reducible exact newsTail (newsTail (newsTail (by assumption)))))

local macro_rules | `(tactic| walk_at "mine steps") => `(tactic| repeat' (first | (k_unfold; (try dsimp only)) | ((fail_if_success (with_reducible show wpAny _ _ (exec (Stmt.While _ _ _ _) _) _ _ _)); (fail_if_success (with_reducible show wpAny _ _ (exec (Stmt.For _ _ _ _ _) _) _ _ _)); (fail_if_success (with_reducible show wpAny _ _ (pyIter _) _ _ _)); (fail_if_success (with_reducible show wpAny _ _ (getMethod (Value.ref _) _ _) _ _ _)); first | (k_end; wrow_close) | walk1 | (dsimp only; walk1)) | fail "no step"))

theorem c_efi {w : World} {n : Nat} {t : Tok} (h1 : 1 ≤ n) (h2 : n < 2 ^ 900) : ConC (hd.heap_39 w.params) w 101 [.int (n : Int) t] 20 200 (fun v => ∃ (D : List Nat) (t' : Tok), (∀ d ∈ D, d < 58) ∧ lowNum D = n ∧ D.length ≤ 900 ∧ (∃ d, D.getLast? = some d ∧ d ≠ 0) ∧ v = .bytes (translated (digArr D.reverse) charTab) t') := by
  w_top off
  intro prog p loose mean mg mb dp un gd cn cs a ccd cl outer A₀ base h₀ L m s Q E B F X T hk hd hu hret
  walk_at "mine enterC"
  clear B F X T
  intro L' h' F' N' B' X' T'
  (try dsimp only)
  (try k_fold)
  refine execs_cons_C (Assign_C (CallName_C ?_))
  walk_at "mine steps"
  refine callWith_type0_C ?_
  refine ba_callN (by k_asm) (by k_asm) ?_
  clear N'
  intro A h' F' N' hND
  clear hND
  walk_at "mine steps"
  dsimp only
  with_reducible rename News _ _ _ _ => N₁
  with_reducible rename Fr _ _ _ _ => F₁
  rw [digArr_nil] at N₁
  refine execs_cons_C (whileC (fun i s' => ∃ (h : Heap) (tk : Nat) (m₁ : Str → Option Value) (ti td : Tok) (D : List Nat), s' = { s with heap := h, toks := tk } ∧ Fr s.heap L' h m₁ ∧ News s.heap L' h [(A, baObj (digArr D))] ∧ m₁ (Str.ofString "i") = some (.int (i : Int) ti) ∧ m₁ (Str.ofString "digits") = some (.ref A) ∧ DigInv n i D ∧ 1 ≤ i) n ⟨_, _, _, _, 0, _, rfl, F₁, N₁, rfl, rfl, .start, h1⟩ ?_)
  clear F₁ N₁
  rintro i s' ⟨h, tk, m₁, ti, td, D, rfl, F₁, N', hmI, hmD, hinv, hi1⟩
  have F₂ := over (over F₁ (x := Str.ofString "digits") hmD) (x := Str.ofString "i") hmI
  clear F₁
  (try k_fold)
  walk_at "mine steps"
  · rename (430804206899405824 : Int) ≤ _ => hge
    have hi2 : 1 ≤ i / 58 ^ 10 := by omega
    refine execs_any ?_
    walk_at "mine steps"
    rw [fdiv_chunk, fmod_chunk] at *
    refine execs_cons_C (forC ?_)
    walk_at "mine steps"
    with_reducible rename IsRange _ _ _ _ _ _ _ _ => hR
    refine iterRangeC (n := 10) (news := [(A, baObj (digArr D))]) (fun j m news => ∃ (D' : List Nat) (c : Nat) (tc ti : Tok), news = [(A, baObj (digArr D'))] ∧ m (Str.ofString "chunk") = some (.int (c : Int) tc) ∧ m (Str.ofString "i") = some (.int ((i / 58 ^ 10 : Nat) : Int) ti) ∧ m (Str.ofString "digits") = some (.ref A) ∧ CutInv n (i / 58 ^ 10) c j D') (by rfl) (by rfl) (by rfl) hR (by decide) (by decide) (by k_asm) (by show News s.heap L' _ _; walk_at "news tail") ⟨_, _, _, _, rfl, rfl, rfl, rfl, hinv.cut⟩ ?_ ?_
    · rintro j v m₁ news₁ h tk own hj ⟨t, rfl⟩ hadr hoff ⟨D', c, tc, ti, rfl, hmC, hmI, hmD, hcut⟩ F₁ N₁
      have F₂ := over (over (over F₁ (x := Str.ofString "digits") hmD) (x := Str.ofString "i") hmI) (x := Str.ofString "chunk") hmC
      clear F₁
      (try k_fold)
      refine execs_any ?_
      walk_at "mine steps"
      rw [fdiv_sign, fmod_sign] at *
      refine execs_cons_C (Expr_C (MethodCall_C ?_))
      walk_at "mine steps"
      with_reducible rename News _ _ _ _ => N₂
      have N₃ := newsTail N₂
      refine ba_getm_append (N₃ _ (List.Mem.head _)).1 ?_
      dsimp only
      refine callWith_builtin_C ?_
      walk_at "mine steps"
      with_reducible rename Fr _ _ _ _ => F₄
      show wpC _ _ (call (.builtin "bytearray.append") [.ref A, .int _ _]) _ _ _
      refine ba_appendN (pre := []) (post := own) F₄ N₃ (fun _ h => nomatch h) (fun p hp => hoff p hp A (List.Mem.head _)) (by omega) (by rw [digArr_size]; exact Nat.lt_trans (hcut.len hi2 h2) (by decide)) ?_
      intro h₅ F₅ N₅
      dsimp only
      rw [digArr_push, List.nil_append] at N₅
      refine wpC_of_any (wpAny_execs_nil ?_)
      exact endE (nx := [(A, baObj (digArr (D' ++ [c % 58])))]) F₅ N₅ (fun p hp => by rw [List.mem_singleton.mp hp]; exact List.Mem.head _) (fun p hp => List.mem_cons_of_mem _ hp) rfl ⟨D' ++ [c % 58], c / 58, _, _, rfl, rfl, rfl, rfl, hcut.step hj⟩
    · rintro m₁ news₁ h tk ⟨D', c, tc, ti, rfl, hmC, hmI, hmD, hcut⟩ F₁ N₁
      (try dsimp only)
      refine wpC_of_any (wpAny_execs_nil ?_)
      exact ⟨i / 58 ^ 10, by omega, h, tk, m₁, ti, 0, D', rfl, F₁, N₁, hmI, hmD, hcut.done, hi2⟩
  · dsimp only
    with_reducible rename News _ _ _ _ => N₁
    with_reducible rename Fr _ _ _ _ => F₁
    refine execs_cons_C (whileC (fun i s' => ∃ (h : Heap) (tk : Nat) (m₁ : Str → Option Value) (ti : Tok) (D : List Nat), s' = { s with heap := h, toks := tk } ∧ Fr s.heap L' h m₁ ∧ News s.heap L' h [(A, baObj (digArr D))] ∧ m₁ (Str.ofString "i") = some (.int (i : Int) ti) ∧ m₁ (Str.ofString "digits") = some (.ref A) ∧ DigInv n i D ∧ (i = 0 → ∃ d, D.getLast? = some d ∧ d ≠ 0)) i ⟨_, _, _, _, D, rfl, F₁, N₁, rfl, rfl, hinv, fun e => absurd e (by omega)⟩ ?_)
    clear F₁ N₁ hinv hmI hmD hi1
    rintro i s' ⟨h, tk, m₁, ti, D, rfl, F₁, N', hmI, hmD, hinv, hlast⟩
    have F₂ := over (over F₁ (x := Str.ofString "digits") hmD) (x := Str.ofString "i") hmI
    clear F₁
    (try k_fold)
    walk_at "mine steps"
    · rename ¬ ((_ : Int) = 0) => hne
      refine execs_any ?_
      walk_at "mine steps"
      rw [fdiv_sign, fmod_sign] at *
      refine execs_cons_C (Expr_C (MethodCall_C ?_))
      walk_at "mine steps"
      with_reducible rename News _ _ _ _ => N₂
      have N₃ := newsTail N₂
      refine ba_getm_append (N₃ _ (List.Mem.head _)).1 ?_
      dsimp only
      refine callWith_builtin_C ?_
      walk_at "mine steps"
      with_reducible rename Fr _ _ _ _ => F₄
      show wpC _ _ (call (.builtin "bytearray.append") [.ref A, .int _ _]) _ _ _
      refine ba_appendN (pre := []) (post := []) F₄ N₃ (fun _ h => nomatch h) (fun _ h => nomatch h) (by omega) (by rw [digArr_size]; exact Nat.lt_trans (hinv.len (by omega) h2) (by decide)) ?_
      intro h₅ F₅ N₅
      (try dsimp only)
      rw [digArr_push, List.nil_append] at N₅
      refine wpC_of_any (wpAny_execs_nil ?_)
      exact ⟨i / 58, by omega, h₅, _, _, _, D ++ [i % 58], rfl, F₅, N₅, rfl, rfl, hinv.step, fun e => ⟨i % 58, by simp, by omega⟩⟩
    · rename (_ : Int) = 0 => h0
      have hi0 : i = 0 := by omega
      obtain ⟨d, hd1, hd2⟩ := hlast hi0
      subst hi0
      obtain ⟨hl1, hl2⟩ := hinv.len0 hd1 hd2 h2
      with_reducible rename News _ _ _ _ => N₂
      refine ba_truthy (N₂ _ (List.Mem.head _)).1 (by rw [digArr_size]; omega) ?_
      rw [decide_eq_true (show (digArr D).size ≠ 0 by rw [digArr_size]; omega)]
      rw [if_neg (by decide)]
      walk_at "mine steps"
      (try dsimp only)
      refine execs_any ?_
      walk_at "mine steps"
      with_reducible rename News _ _ _ _ => N₃
      refine ba_getm_reverse (N₃ _ (List.Mem.head _)).1 ?_
      walk_at "mine steps"
      with_reducible rename News _ _ _ _ => N₄
      with_reducible rename Fr _ _ _ _ => F₄
      refine ba_reverseN (pre := []) (post := []) F₄ N₄ (fun _ h => nomatch h) (fun _ h => nomatch h) (by rw [digArr_size]; omega) ?_
      intro h₅ F₅ N₅
      rw [digArr_reverse, List.nil_append] at N₅
      dsimp only
      refine execs_any ?_
      walk_at "mine steps"
      have hz9 : (digArr D.reverse).size ≤ 900 := by rw [digArr_size, List.length_reverse]; exact hl2
      refine call_bytes_ba (N₅ _ (List.Mem.head _)).1 (Nat.le_trans hz9 (by rw [sizeLine_eq]; decide)) ?_
      intro t₆ k₆
      walk_at "mine steps"
      walk_at "mine done"
      exact hret _ _ _ (Fr.keep (by k_asm)) ⟨D, _, hinv.small, by have := hinv.num; rw [Nat.zero_mul, Nat.add_zero] at this; exact this, hl2, ⟨d, hd1, hd2⟩, rfl⟩
end Mine
end

section
open PySem PySem.W PyProof.Rows PySem.Calls
set_option maxHeartbeats 8000000
namespace Mine
local macro_rules | `(tactic| walk_at "call ref") => `(tactic| ((with_reducible show wpAny _ _ (call (Value.ref _) _ _) _ _ _); kfb_any; k_dflt (show wpAny _ _ (call (Value.ref _) [Value.bytes _ _] [(_, _), (_, _)]) _ _ _); (refine call_fromN (by k_asm) (by k_mem) (by walk_at "mine size") ?_); intro _ _ _ _ _))

local macro_rules | `(tactic| walk_at "mine enter") => `(tactic| (refine wpAny_call ?_; k_dflt (refine' enterM ?k1 ?k2 ?k3 ?k5 ?kA ?kF ?kK ?k6 ?k7 ?k8 ?k9 ?kB ?_ ?c2 ?c3 ?c4 ?c5; (case kA => exact rfl); (case kF => exact rfl); (case kK => first | assumption | exact rfl); (case k1 => k_asm); (case k2 => k_asm); (case k3 => k_asm); (case k5 => k_asm); (case k6 => k_is); (case k7 => k_is); (case k8 => ktr_room); (case k9 => first | exact BindsTo.of_eq rfl | exact binds_K (by k_in) rfl (by k_is) rfl rfl rfl); (case c5 => decide); (case kB => exact locs rfl); (case c2 => exact rfl); (case c3 => exact rfl); (case c4 => exact rfl); k_whole)))
local macro_rules | `(tactic| walk_at "mine done") => `(tactic| ((try dsimp only); (try k_unfold); (try dsimp only)))
local macro_rules | `(tactic| walk_at "call type:bytes") => `(tactic| ((with_reducible show wpAny _ _ (call (Value.type "bytes") [Value.bytes _ _]) _ _ _); refine call_bytes_bytes ?_))
local macro_rules | `(tactic| walk_at "getMethod bytes") => `(tactic| first | (with_reducible refine getm_lstrip ?_) | (with_reducible refine getm_translate ?_) | (with_reducible refine getm_hex ?_))
local macro_rules | `(tactic| walk_at "callWith ref") => `(tactic| ((with_reducible show wpAny _ _ (callWith _ (Value.ref _) _ (backTo _ (starEach (_ :: _) _)) (backToKw _ _)) _ _ _); kfb_any; (refine callWith_boundKW (by rfl) ?_)))
local macro_rules | `(tactic| walk_at "binaryOp Add bytes bytes") => `(tactic| ((with_reducible show wpAny _ _ (binaryOp Operator.Add (Value.bytes _ _) (Value.bytes _ _)) _ _ _); (refine add_bytes (by first | decide | omega) (by first | decide | omega) ?_); intro _ _))
local macro_rules | `(tactic| walk_at "call ref") => `(tactic| ((with_reducible show wpAny _ _ (call (Value.ref _) _ _) _ _ _); kfb_any; k_dflt (show wpAny _ _ (call (Value.ref _) [Value.bytes _ _] [(_, _), (_, _)]) _ _ _); (refine call_fromN (by k_asm) (by k_mem) (by (try simp only [Array.size_append]); first | omega | (show _ + _ ≤ _; omega) | (show 1 + _ ≤ _; omega)) ?_); intro _ _ _ _ _))
local macro_rules | `(tactic| walk_at "callWith builtin:int.to_bytes") => `(tactic| (refine callWith_kwF ?_))
local macro_rules | `(tactic| walk_at "call builtin:int.to_bytes") => `(tactic| (refine mixed_to (by assumption) ?_; intro _ _))

local macro_rules | `(tactic| walk_at "mine size") => `(tactic| first | omega | decide | ((simp only [translated_size, Array.size_append, hashed_size, mixed_size, asciiOf_size]); first | done | omega) | exact Nat.le_trans (lstrip_size _ _) (by omega))
local macro_rules | `(tactic| walk_at "call builtin:bytes.translate") => `(tactic| first
  | ((with_reducible show wpAny _ _ (call (Value.builtin "bytes.translate") [Value.bytes _ _, Value.bytes _ _]) _ _ _); first | (refine translateDigit (by unfold digitTab; decide +kernel) (by walk_at "mine size") ?_; intro _ _) | (refine translateChar (by unfold charTab; decide +kernel) (by walk_at "mine size") ?_; intro _ _))
  | ((with_reducible show wpAny _ _ (call (Value.builtin "bytes.translate") [Value.bytes _ _, Value.none, Value.bytes _ _]) _ _ _); (refine translateOut (by unfold signTab; decide +kernel) (by walk_at "mine size") ?_; intro _ _)))
local macro_rules | `(tactic| walk_at "call builtin:len") => `(tactic| ((with_reducible show wpAny _ _ (call (Value.builtin "len") [Value.bytes _ _]) _ _ _); (refine lenB (by walk_at "mine size") ?_; intro _ _)))
local macro_rules | `(tactic| walk_at "truthy bytes") => `(tactic| (refine truthyB (by walk_at "mine size") ?_; intro _))
local macro_rules | `(tactic| walk_at "subscriptTail") => `(tactic| ((with_reducible show wpAny _ _ (subscriptTail _ (Expr.Slice _ _ none _) (Value.bytes _ _) (Value.ref _)) _ _ _); (with_reducible rename Fr _ _ _ _ => F'); (with_reducible rename News _ _ _ _ => N'); (refine sliceB (s := ⟨_, _, _, _, _⟩) F' N' (by constructor) (by constructor) (by walk_at "mine size") ?_); intro _ _ _ _ _))
local macro_rules | `(tactic| walk_at "mine steps") => `(tactic| repeat' (first | (k_unfold; (try dsimp only)) | ((fail_if_success (with_reducible show wpAny _ _ (exec (Stmt.While _ _ _ _) _) _ _ _)); (fail_if_success (with_reducible show wpAny _ _ (exec (Stmt.For _ _ _ _ _) _) _ _ _)); (fail_if_success (with_reducible show wpAny _ _ (pyIter _) _ _ _)); first | (k_end; wrow_close) | walk1 | (dsimp only; walk1)) | fail "no step"))

local macro_rules | `(tactic| walk_at "truthy bytes") => `(tactic| first | (refine truthyB0 (by assumption) ?_; intro _) | (refine truthyB1 (by assumption) ?_; intro _))
local macro_rules | `(tactic| walk_at "call builtin:bytes.lstrip") => `(tactic| first | (refine lstripOne (by decide +kernel) (by walk_at "mine size") ?_; intro _ _) | (refine lstripZero (by decide +kernel) (by walk_at "mine size") ?_; intro _ _))
local macro_rules | `(tactic| walk_at "binaryOp Mult bytes int") => `(tactic| first
  | (refine mulPad (c := 0) (by decide +kernel) (lstrip_size _ _) (by omega) ?_; intro _ _)
  | (refine mulPad (c := 49) (by decide +kernel) (lstrip_size _ _) (by omega) ?_; intro _ _))
local macro_rules | `(tactic| walk_at "call builtin:int.to_bytes") => `(tactic| (refine toOctets (by first | with_reducible assumption | exact octets_of_text (by omega)) ?_; intro _ _))
local macro_rules | `(tactic| walk_at "inplaceOp Add bytes bytes") => `(tactic| (refine iadd_bytes (by first | omega | (simp only [pad_size, octs_size]; omega)) (by first | omega | (simp only [pad_size, octs_size]; first | omega | exact Nat.le_trans (octets_of_text (by omega)) (by decide))) ?_; intro _ _))

local macro_rules | `(tactic| walk_at "mine enterC") => `(tactic| (refine wpC_call ?_; k_dflt (refine' enterC ?k1 ?k2 ?k3 ?k5 ?kA ?kF ?kK ?k6 ?k7 ?k8 ?k9 ?kB ?_ ?c2 ?c3 ?c4 ?c5; (case kA => exact rfl); (case kF => exact rfl); (case kK => first | assumption | exact rfl); (case k1 => k_asm); (case k2 => k_asm); (case k3 => k_asm); (case k5 => k_asm); (case k6 => k_is); (case k7 => k_is); (case k8 => ktr_room); (case k9 => first | exact BindsTo.of_eq rfl | exact binds_K (by k_in) rfl (by k_is) rfl rfl rfl); (case c5 => decide); (case kB => exact locs rfl); (case c2 => exact rfl); (case c3 => exact rfl); (case c4 => exact rfl); k_whole)))
local macro_rules | `(tactic| walk_at "news tail") => `(tactic| first | with_reducible assumption | (with_reducible exact newsTail (by assumption)) | (with_reducible exact newsTail (newsTail (by assumption))) | (with_reducible exact newsTail (newsTail (newsTail (by assumption)))))

theorem c_b58e {w : World} {b : Array UInt8} {t : Tok} (hb : b.size ≤ 100) : ConC (hd.heap_39 w.params) w 108 [.bytes b t] 40 400 (fun v => ∃ t' : Tok, v = .bytes (encoded b) t') := by
  w_top off
  intro prog p loose mean mg mb dp un gd cn cs a ccd cl outer A₀ base h₀ L m s Q E B F X T hk hd hu hret
  walk_at "mine enterC"
  clear B F X T
  intro L' h' F' N' B' X' T'
  (try dsimp only)
  (try k_fold)
  refine execs_any ?_; walk_at "mine steps"; (try dsimp only)
  refine execs_any ?_; walk_at "mine steps"; (try dsimp only)
  refine execs_any ?_; walk_at "mine steps"; (try dsimp only)
  refine execs_any ?_; walk_at "mine steps"; (try dsimp only)
  refine execs_any ?_; walk_at "mine steps"; (try dsimp only)
  refine execs_cons_C (If_C (wpC_of_any ?_))
  walk_at "mine steps"
  · have hz : (lstrip b #[0]).size ≠ 0 := by omega
    refine execs_any ?_; walk_at "mine steps"; (try dsimp only)
    refine execs_cons_C (Aug_C ?_)
    walk_at "mine steps"
    refine CallName_C ?_
    walk_at "mine steps"
    refine callWith_K_C (by k_asm) (by k_is) ?_
    walk_at "mine steps"
    with_reducible rename IsNum _ _ => hN
    obtain ⟨rfl⟩ := hN
    refine' ConC.use (c_efi (num_lstrip_pos hz) (num_lstrip_lt hb)) ?k1 ?k2 ?k3 ?k4 ?k5 ?kK ?kd ?ku ?_
    (case k1 => k_asm)
    (case k2 => k_asm)
    (case k3 => k_asm)
    (case k4 => k_asm)
    (case k5 => k_asm)
    (case kK => exact rfl)
    (case kd => ktr_room)
    (case ku => ktr_units)
    rintro v9 h9 tk9 F9 N9 ⟨D, t9, h1, h2, h3, ⟨d, h4, h5⟩, rfl⟩
    (try dsimp only)
    refine iadd_bytes (by simp; omega) (by rw [translated_size, digArr_size, List.length_reverse]; omega) ?_
    intro t8 k8
    rw [encoded_some h1 h2 h4 h5]
    walk_at "mine steps"
    refine wpC_of_any ?_
    walk_at "mine steps"
    refine wpC_of_any ?_
    walk_at "mine steps"
    walk_at "mine done"
    exact hret _ _ _ (Fr.keep (by k_asm)) ⟨_, rfl⟩
  · have hz : (lstrip b #[0]).size = 0 := by omega
    rw [encoded_none hz] at *
    refine wpC_of_any ?_
    walk_at "mine steps"
    refine wpC_of_any ?_
    walk_at "mine steps"
    walk_at "mine done"
    exact hret _ _ _ (Fr.keep (by k_asm)) ⟨_, rfl⟩
end Mine
end

section
open PySem PySem.W PyProof.Rows PySem.Calls
set_option maxHeartbeats 8000000
namespace Mine
local macro_rules | `(tactic| walk_at "mine enter") => `(tactic| (refine wpAny_call ?_; k_dflt (refine' enterM ?k1 ?k2 ?k3 ?k5 ?kA ?kF ?kK ?k6 ?k7 ?k8 ?k9 ?kB ?_ ?c2 ?c3 ?c4 ?c5; (case kA => exact rfl); (case kF => exact rfl); (case kK => first | assumption | exact rfl); (case k1 => k_asm); (case k2 => k_asm); (case k3 => k_asm); (case k5 => k_asm); (case k6 => k_is); (case k7 => k_is); (case k8 => ktr_room); (case k9 => first | exact BindsTo.of_eq rfl | exact binds_K (by k_in) rfl (by k_is) rfl rfl rfl); (case c5 => decide); (case kB => exact locs rfl); (case c2 => exact rfl); (case c3 => exact rfl); (case c4 => exact rfl); k_whole)))
local macro_rules | `(tactic| walk_at "mine done") => `(tactic| ((try dsimp only); (try k_unfold); (try dsimp only)))
local macro_rules | `(tactic| walk_at "call type:bytes") => `(tactic| ((with_reducible show wpAny _ _ (call (Value.type "bytes") [Value.bytes _ _]) _ _ _); refine call_bytes_bytes ?_))
local macro_rules | `(tactic| walk_at "getMethod bytes") => `(tactic| first | (with_reducible refine getm_lstrip ?_) | (with_reducible refine getm_translate ?_) | (with_reducible refine getm_hex ?_))
local macro_rules | `(tactic| walk_at "callWith ref") => `(tactic| ((with_reducible show wpAny _ _ (callWith _ (Value.ref _) _ (backTo _ (starEach (_ :: _) _)) (backToKw _ _)) _ _ _); kfb_any; (refine callWith_boundKW (by rfl) ?_)))
local macro_rules | `(tactic| walk_at "binaryOp Add bytes bytes") => `(tactic| ((with_reducible show wpAny _ _ (binaryOp Operator.Add (Value.bytes _ _) (Value.bytes _ _)) _ _ _); (refine add_bytes (by first | decide | omega) (by first | decide | omega) ?_); intro _ _))
local macro_rules | `(tactic| walk_at "call ref") => `(tactic| ((with_reducible show wpAny _ _ (call (Value.ref _) _ _) _ _ _); kfb_any; k_dflt (show wpAny _ _ (call (Value.ref _) [Value.bytes _ _] [(_, _), (_, _)]) _ _ _); (refine call_fromN (by k_asm) (by k_mem) (by (try simp only [Array.size_append]); first | omega | (show _ + _ ≤ _; omega) | (show 1 + _ ≤ _; omega)) ?_); intro _ _ _ _ _))
local macro_rules | `(tactic| walk_at "callWith builtin:int.to_bytes") => `(tactic| (refine callWith_kwF ?_))
local macro_rules | `(tactic| walk_at "call builtin:int.to_bytes") => `(tactic| (refine mixed_to (by assumption) ?_; intro _ _))

local macro_rules | `(tactic| walk_at "mine size") => `(tactic| first | omega | decide | ((simp only [translated_size, Array.size_append, hashed_size, mixed_size, asciiOf_size]); first | done | omega) | exact Nat.le_trans (lstrip_size _ _) (by omega))
local macro_rules | `(tactic| walk_at "call builtin:bytes.translate") => `(tactic| first
  | ((with_reducible show wpAny _ _ (call (Value.builtin "bytes.translate") [Value.bytes _ _, Value.bytes _ _]) _ _ _); first | (refine translateDigit (by unfold digitTab; decide +kernel) (by walk_at "mine size") ?_; intro _ _) | (refine translateChar (by unfold charTab; decide +kernel) (by walk_at "mine size") ?_; intro _ _))
  | ((with_reducible show wpAny _ _ (call (Value.builtin "bytes.translate") [Value.bytes _ _, Value.none, Value.bytes _ _]) _ _ _); (refine translateOut (by unfold signTab; decide +kernel) (by walk_at "mine size") ?_; intro _ _)))
local macro_rules | `(tactic| walk_at "call builtin:len") => `(tactic| ((with_reducible show wpAny _ _ (call (Value.builtin "len") [Value.bytes _ _]) _ _ _); (refine lenB (by walk_at "mine size") ?_; intro _ _)))
local macro_rules | `(tactic| walk_at "truthy bytes") => `(tactic| (refine truthyB (by walk_at "mine size") ?_; intro _))
local macro_rules | `(tactic| walk_at "subscriptTail") => `(tactic| ((with_reducible show wpAny _ _ (subscriptTail _ (Expr.Slice _ _ none _) (Value.bytes _ _) (Value.ref _)) _ _ _); (with_reducible rename Fr _ _ _ _ => F'); (with_reducible rename News _ _ _ _ => N'); (refine sliceB (s := ⟨_, _, _, _, _⟩) F' N' (by constructor) (by constructor) (by walk_at "mine size") ?_); intro _ _ _ _ _))
local macro_rules | `(tactic| walk_at "mine steps") => `(tactic| repeat' (first | (k_unfold; (try dsimp only)) | ((fail_if_success (with_reducible show wpAny _ _ (exec (Stmt.While _ _ _ _) _) _ _ _)); (fail_if_success (with_reducible show wpAny _ _ (exec (Stmt.For _ _ _ _ _) _) _ _ _)); (fail_if_success (with_reducible show wpAny _ _ (pyIter _) _ _ _)); first | (k_end; wrow_close) | walk1 | (dsimp only; walk1)) | fail "no step"))

local macro_rules | `(tactic| walk_at "truthy bytes") => `(tactic| first | (refine truthyB0 (by assumption) ?_; intro _) | (refine truthyB1 (by assumption) ?_; intro _))
local macro_rules | `(tactic| walk_at "call builtin:bytes.lstrip") => `(tactic| first | (refine lstripOne (by decide +kernel) (by walk_at "mine size") ?_; intro _ _) | (refine lstripZero (by decide +kernel) (by walk_at "mine size") ?_; intro _ _))
local macro_rules | `(tactic| walk_at "binaryOp Mult bytes int") => `(tactic| first
  | (refine mulPad (c := 0) (by decide +kernel) (lstrip_size _ _) (by omega) ?_; intro _ _)
  | (refine mulPad (c := 49) (by decide +kernel) (lstrip_size _ _) (by omega) ?_; intro _ _))
local macro_rules | `(tactic| walk_at "call builtin:int.to_bytes") => `(tactic| (refine toOctets (by first | with_reducible assumption | exact octets_of_text (by omega)) ?_; intro _ _))
local macro_rules | `(tactic| walk_at "inplaceOp Add bytes bytes") => `(tactic| (refine iadd_bytes (by first | omega | (simp only [pad_size, octs_size]; omega)) (by first | omega | (simp only [pad_size, octs_size]; first | omega | exact Nat.le_trans (octets_of_text (by omega)) (by decide))) ?_; intro _ _))

local macro_rules | `(tactic| walk_at "exec Raise some none") => `(tactic| (k_here; (with_reducible show wpAny _ _ (exec (Stmt.Raise (some (Expr.Call (Expr.Name _ _) (_ :: _) [] _)) none _) _) _ _ _); k_dflt (first
  | (refine' raise_own2 ?F ?g ?O PySem.F.excBase_Exception PySem.F.excBase_ValueError ?B ?h ?_ ?a ?b ?c ?d ?e; (case F => k_asm); (case g => exact TopRead.g (by k_asm)); (case O => exact own_of_in (by k_asm) (by k_asm) (by k_is) (by k_exc)); (case B => decide +kernel); (case h => first | rfl | assumption); (case a => rfl); (case b => rfl); (case c => rfl); (case d => rfl); (case e => decide); k_whole)
  | (refine' raise_own2 ?F ?g ?O PySem.F.excBase_Exception PySem.F.excBase_TypeError ?B ?h ?_ ?a ?b ?c ?d ?e; (case F => k_asm); (case g => exact TopRead.g (by k_asm)); (case O => exact own_of_in (by k_asm) (by k_asm) (by k_is) (by k_exc)); (case B => decide +kernel); (case h => first | rfl | assumption); (case a => rfl); (case b => rfl); (case c => rfl); (case d => rfl); (case e => decide); k_whole))))

local macro_rules | `(tactic| walk_at "mine size") => `(tactic| (simp only [hashed_size]; first | done | omega))
local macro_rules | `(tactic| walk_at "mine size") => `(tactic| exact Nat.le_trans (picked_size_le _ _ _) (by first | omega | (simp only [hashed_size]; first | done | omega)))
local macro_rules | `(tactic| walk_at "news tail") => `(tactic| first | with_reducible assumption | (with_reducible exact newsTail (by assumption)) | (with_reducible exact newsTail (newsTail (by assumption))) | (with_reducible exact newsTail (newsTail (newsTail (by assumption)))))
local macro_rules | `(tactic| walk_at "joinParts") => `(tactic| ((with_reducible show wpAny _ _ (joinParts _ (evalEach [] _)) _ _ _); (with_reducible refine joinParts_nilE ?_); (with_reducible refine joinParts_nil (hsz := ?hsz) ?_); (case hsz => size_fits)))

local macro_rules | `(tactic| walk_at "binaryOp Add bytes bytes") => `(tactic| ((with_reducible show wpAny _ _ (binaryOp Operator.Add (Value.bytes _ _) (Value.bytes _ _)) _ _ _); (refine add_bytes (by omega) (by first | omega | exact Nat.le_trans (picked_size_le _ _ _) (by first | omega | (rw [hashed_size]; omega))) ?_); intro _ _))

local macro_rules | `(tactic| walk_at "mine enterC") => `(tactic| (refine wpC_call ?_; k_dflt (refine' enterC ?k1 ?k2 ?k3 ?k5 ?kA ?kF ?kK ?k6 ?k7 ?k8 ?k9 ?kB ?_ ?c2 ?c3 ?c4 ?c5; (case kA => exact rfl); (case kF => exact rfl); (case kK => first | assumption | exact rfl); (case k1 => k_asm); (case k2 => k_asm); (case k3 => k_asm); (case k5 => k_asm); (case k6 => k_is); (case k7 => k_is); (case k8 => ktr_room); (case k9 => first | exact BindsTo.of_eq rfl | exact binds_K (by k_in) rfl (by k_is) rfl rfl rfl); (case c5 => decide); (case kB => exact locs rfl); (case c2 => exact rfl); (case c3 => exact rfl); (case c4 => exact rfl); k_whole)))
local macro_rules | `(tactic| walk_at "news tail") => `(tactic| first | with_reducible assumption | (with_reducible exact newsTail (by assumption)) | (with_reducible exact newsTail (newsTail (by assumption))) | (with_reducible exact newsTail (newsTail (newsTail (by assumption)))))

theorem c_bfo2 {w : World} {b : Array UInt8} {t : Tok} : Con (hd.heap_39 w.params) w 59 [.bytes b t, .none] 5 20 (fun v => v = .bytes b t) := by
  w_top off
  intro prog p loose mean mg mb dp un gd cn cs a ccd cl outer A₀ base h₀ L m s Q E B F X T hk hd hu hret
  walk_at "mine enter"
  clear B F X T
  intro L' h' F' N' B' X' T'
  (try dsimp only)
  (try k_fold)
  k_steps
  walk_at "mine done"
  exact hret _ _ _ (Fr.keep (by k_asm)) rfl

local macro_rules | `(tactic| walk_at "call ref") => `(tactic| ((with_reducible show wpAny _ _ (call (Value.ref 59) _) _ _ _); k_dflt (refine' Con.use c_bfo2 ?k1 ?k2 ?k3 ?k4 ?k5 ?kK ?kd ?ku ?_; (case k1 => k_asm); (case k2 => k_asm); (case k3 => k_asm); (case k4 => k_asm); (case k5 => k_asm); (case kK => first | exact rfl | assumption); (case kd => ktr_room); (case ku => ktr_units)); intro v9 h9 tk9 F9 N9 p9; (try k_sweep); subst p9))

local macro_rules | `(tactic| walk_at "call ref") => `(tactic| ((with_reducible show wpAny _ _ (call (Value.ref 94) _) _ _ _); k_dflt (refine' Con.use (c_hash ?hb) ?k1 ?k2 ?k3 ?k4 ?k5 ?kK ?kd ?ku ?_; (case hb => first | with_reducible assumption | omega | ((simp only [mixed_size, hashed_size]); first | done | omega) | (simp only [Array.size_append, mixed_size, hashed_size]; omega) | exact Nat.le_trans (lstrip_size _ _) (by omega) | exact Nat.le_trans (picked_size_le _ _ _) (by omega)); (case k1 => k_asm); (case k2 => k_asm); (case k3 => k_asm); (case k4 => k_asm); (case k5 => k_asm); (case kK => first | exact rfl | assumption); (case kd => ktr_room); (case ku => ktr_units)); intro v9 h9 tk9 F9 N9 p9; (try k_sweep); obtain ⟨_, e9⟩ := p9; subst e9))

theorem c_encode {w : World} {b : Array UInt8} {t : Tok} (hb : b.size ≤ 50) : ConC (hd.heap_39 w.params) w 116 [.bytes b t] 60 600 (fun v => ∃ t' : Tok, v = .bytes (encoded (b ++ KBy.picked (hashed b) none (some 4))) t') := by
  w_top off
  intro prog p loose mean mg mb dp un gd cn cs a ccd cl outer A₀ base h₀ L m s Q E B F X T hk hd hu hret
  walk_at "mine enterC"
  clear B F X T
  intro L' h' F' N' B' X' T'
  (try dsimp only)
  (try k_fold)
  refine execs_any ?_; walk_at "mine steps"; (try dsimp only)
  refine execs_any ?_; walk_at "mine steps"; (try dsimp only)
  refine execs_cons_C (Return_C (CallName_C ?_))
  walk_at "mine steps"
  refine callWith_K_C (by k_asm) (by k_is) ?_
  walk_at "mine steps"
  have hz4 : (b ++ KBy.picked (hashed b) none (some 4)).size ≤ 100 := by
    have := picked_size_le (hashed b) none (some 4)
    rw [hashed_size] at this
    rw [Array.size_append]
    omega
  refine' ConC.use (c_b58e hz4) ?k1 ?k2 ?k3 ?k4 ?k5 ?kK ?kd ?ku ?_
  (case k1 => k_asm)
  (case k2 => k_asm)
  (case k3 => k_asm)
  (case k4 => k_asm)
  (case k5 => k_asm)
  (case kK => exact rfl)
  (case kd => ktr_room)
  (case ku => ktr_units)
  rintro v9 h9 tk9 F9 N9 ⟨t9, rfl⟩
  walk_at "mine done"
  exact hret _ _ _ (Fr.keep (by k_asm)) ⟨_, rfl⟩
end Mine
end

section
open PySem PySem.W PyProof.Rows PySem.Calls
set_option maxHeartbeats 8000000
namespace Mine
local macro_rules | `(tactic| walk_at "mine enter") => `(tactic| (refine wpAny_call ?_; k_dflt (refine' enterM ?k1 ?k2 ?k3 ?k5 ?kA ?kF ?kK ?k6 ?k7 ?k8 ?k9 ?kB ?_ ?c2 ?c3 ?c4 ?c5; (case kA => exact rfl); (case kF => exact rfl); (case kK => first | assumption | exact rfl); (case k1 => k_asm); (case k2 => k_asm); (case k3 => k_asm); (case k5 => k_asm); (case k6 => k_is); (case k7 => k_is); (case k8 => ktr_room); (case k9 => first | exact BindsTo.of_eq rfl | exact binds_K (by k_in) rfl (by k_is) rfl rfl rfl); (case c5 => decide); (case kB => exact locs rfl); (case c2 => exact rfl); (case c3 => exact rfl); (case c4 => exact rfl); k_whole)))
local macro_rules | `(tactic| walk_at "mine done") => `(tactic| ((try dsimp only); (try k_unfold); (try dsimp only)))
local macro_rules | `(tactic| walk_at "call type:bytes") => `(tactic| ((with_reducible show wpAny _ _ (call (Value.type "bytes") [Value.bytes _ _]) _ _ _); refine call_bytes_bytes ?_))
local macro_rules | `(tactic| walk_at "getMethod bytes") => `(tactic| first | (with_reducible refine getm_lstrip ?_) | (with_reducible refine getm_translate ?_) | (with_reducible refine getm_hex ?_))
local macro_rules | `(tactic| walk_at "callWith ref") => `(tactic| ((with_reducible show wpAny _ _ (callWith _ (Value.ref _) _ (backTo _ (starEach (_ :: _) _)) (backToKw _ _)) _ _ _); kfb_any; (refine callWith_boundKW (by rfl) ?_)))
local macro_rules | `(tactic| walk_at "binaryOp Add bytes bytes") => `(tactic| ((with_reducible show wpAny _ _ (binaryOp Operator.Add (Value.bytes _ _) (Value.bytes _ _)) _ _ _); (refine add_bytes (by first | decide | omega) (by first | decide | omega) ?_); intro _ _))
local macro_rules | `(tactic| walk_at "call ref") => `(tactic| ((with_reducible show wpAny _ _ (call (Value.ref _) _ _) _ _ _); kfb_any; k_dflt (show wpAny _ _ (call (Value.ref _) [Value.bytes _ _] [(_, _), (_, _)]) _ _ _); (refine call_fromN (by k_asm) (by k_mem) (by (try simp only [Array.size_append]); first | omega | (show _ + _ ≤ _; omega) | (show 1 + _ ≤ _; omega)) ?_); intro _ _ _ _ _))
local macro_rules | `(tactic| walk_at "callWith builtin:int.to_bytes") => `(tactic| (refine callWith_kwF ?_))
local macro_rules | `(tactic| walk_at "call builtin:int.to_bytes") => `(tactic| (refine mixed_to (by assumption) ?_; intro _ _))

local macro_rules | `(tactic| walk_at "mine size") => `(tactic| first | omega | decide | ((simp only [translated_size, Array.size_append, hashed_size, mixed_size, asciiOf_size]); first | done | omega) | exact Nat.le_trans (lstrip_size _ _) (by omega))
local macro_rules | `(tactic| walk_at "call builtin:bytes.translate") => `(tactic| first
  | ((with_reducible show wpAny _ _ (call (Value.builtin "bytes.translate") [Value.bytes _ _, Value.bytes _ _]) _ _ _); first | (refine translateDigit (by unfold digitTab; decide +kernel) (by walk_at "mine size") ?_; intro _ _) | (refine translateChar (by unfold charTab; decide +kernel) (by walk_at "mine size") ?_; intro _ _))
  | ((with_reducible show wpAny _ _ (call (Value.builtin "bytes.translate") [Value.bytes _ _, Value.none, Value.bytes _ _]) _ _ _); (refine translateOut (by unfold signTab; decide +kernel) (by walk_at "mine size") ?_; intro _ _)))
local macro_rules | `(tactic| walk_at "call builtin:len") => `(tactic| ((with_reducible show wpAny _ _ (call (Value.builtin "len") [Value.bytes _ _]) _ _ _); (refine lenB (by walk_at "mine size") ?_; intro _ _)))
local macro_rules | `(tactic| walk_at "truthy bytes") => `(tactic| (refine truthyB (by walk_at "mine size") ?_; intro _))
local macro_rules | `(tactic| walk_at "subscriptTail") => `(tactic| ((with_reducible show wpAny _ _ (subscriptTail _ (Expr.Slice _ _ none _) (Value.bytes _ _) (Value.ref _)) _ _ _); (with_reducible rename Fr _ _ _ _ => F'); (with_reducible rename News _ _ _ _ => N'); (refine sliceB (s := ⟨_, _, _, _, _⟩) F' N' (by constructor) (by constructor) (by walk_at "mine size") ?_); intro _ _ _ _ _))
local macro_rules | `(tactic| walk_at "mine steps") => `(tactic| repeat' (first | (k_unfold; (try dsimp only)) | ((fail_if_success (with_reducible show wpAny _ _ (exec (Stmt.While _ _ _ _) _) _ _ _)); (fail_if_success (with_reducible show wpAny _ _ (exec (Stmt.For _ _ _ _ _) _) _ _ _)); (fail_if_success (with_reducible show wpAny _ _ (pyIter _) _ _ _)); first | (k_end; wrow_close) | walk1 | (dsimp only; walk1)) | fail "no step"))

local macro_rules | `(tactic| walk_at "call type:list") => `(tactic| ((with_reducible show wpAny _ _ (call (Value.type "list") [Value.bytes _ _]) _ _ _); (refine' list_bytesN ?k1 ?k2 ?k3 ?k4 ?_; (case k1 => exact rfl); (case k2 => k_asm); (case k3 => k_asm); (case k4 => omega)); intro D' us' c' h' tk' F' N' l1 hI'; (try k_lt l1); (try k_sweep)))

local macro_rules | `(tactic| walk_at "binaryOp Add str str") => `(tactic| ((with_reducible show wpAny _ _ (binaryOp Operator.Add (Value.str (Txt.mul _ _) _) (Value.str (signStr _) _)) _ _ _); rw [mul_one_str]; (refine addStr (by rw [onesStr_length]; omega) (by rw [signStr_length]; omega) ?_); intro _ _))
local macro_rules | `(tactic| walk_at "binaryOp Add str str") => `(tactic| ((with_reducible show wpAny _ _ (binaryOp Operator.Add (Value.str (signStr _) _) (Value.str (signStr _) _)) _ _ _); (refine addStr (by rw [signStr_length]; show 1 ≤ 100000; decide) (by rw [signStr_length]; omega) ?_); rw [signStr_push]; intro _ _))
local macro_rules | `(tactic| walk_at "subscriptTail Name Name str int") => `(tactic| ((with_reducible show wpAny _ _ (subscriptTail _ _ (Value.str (PySem.Str.ofString "123456789ABCDEFGHJKLMNPQRSTUVWXYZabcdefghijkmnopqrstuvwxyz") _) (Value.int _ _)) _ _ _); (refine itemSign (by with_reducible assumption) ?_); intro _ _))

theorem c_signs {w : World} {b : Array UInt8} {t : Tok} (hb : b.size ≤ 20) : Con (hd.heap_39 w.params) w 159 [.bytes b t] 20 200 (fun v => ∃ t' : Tok, v = .str (onesStr (b.size - (lstrip b #[0]).size) ++ signStr (digs (num b))) t') := by
  w_top off
  intro prog p loose mean mg mb dp un gd cn cs a ccd cl outer A₀ base h₀ L m s Q E B F X T hk hd hu hret
  walk_at "mine enter"
  clear B F X T
  intro L' h' F' N' B' X' T'
  (try dsimp only)
  (try k_fold)
  walk_at "mine steps"
  have hIs : True := trivial
  with_reducible rename Fr _ _ _ _ => F₁
  with_reducible rename News _ _ _ _ => N₁
  with_reducible rename IntsAre _ _ => I₁
  refine whileM (fun i s' => ∃ (h : Heap) (tk : Nat) (m₁ : Str → Option Value) (tf ts tb : Tok) (us : List Value) (zs : List Nat) (l : Addr) (c : Nat) (D : List Nat), s' = { s with heap := h, toks := tk } ∧ Fr s.heap L' h m₁ ∧ News s.heap L' h [(l, listOf (List.toArray us) c)] ∧ IntsAre us (zs.map fun (c : Nat) => (c : Int)) ∧ (∀ z ∈ zs, z < 256) ∧ zs.length ≤ 20 ∧ m₁ (Str.ofString "left") = some (.ref l) ∧ m₁ (Str.ofString "found") = some (.str (signStr D) tf) ∧ m₁ (Str.ofString "signs") = some (.str (Str.ofString "123456789ABCDEFGHJKLMNPQRSTUVWXYZabcdefghijkmnopqrstuvwxyz") ts) ∧ m₁ (Str.ofString "octets") = some (.bytes b tb) ∧ i = valB zs ∧ DigInv (num b) i D ∧ (i = 0 → ∀ d, D.getLast? = some d → d ≠ 0) ∧ D.length ≤ 900) (num b) ?hh ?_
  case hh =>
    rw [octs_cast] at I₁
    exact ⟨_, _, _, _, _, _, _, _, _, _, [], rfl, F₁, N₁, I₁, octs_small b, by rw [List.length_map, Array.length_toList]; exact hb, rfl, by rw [signStr_nil]; rfl, rfl, rfl, num_valB b, .start, fun _ d hd => by simp at hd, Nat.zero_le _⟩
  clear F₁ N₁ I₁
  rintro i s' ⟨h, tk, m₁, tf, ts, tb, us, zs, l, c, D, rfl, F₁, N', hI, hz, hl, hm1, hm2, hm3, hm4, rfl, hdig, hlast, hDl⟩
  have F₂ := over (over (over (over F₁ (x := Str.ofString "octets") hm4) (x := Str.ofString "signs") hm3) (x := Str.ofString "found") hm2) (x := Str.ofString "left") hm1
  clear F₁
  (try k_fold)
  walk_at "mine steps"
  rotate_left
  · with_reducible rename News _ _ _ _ => N₁
    with_reducible rename Fr _ _ _ _ => F₁
    refine forM s.heap (by rfl) (by rfl) ?_
    walk_at "mine steps"
    have N₂ := newsHead N₁
    refine iterList (l := l) (items := us.toArray) (fun j m news => ∃ (fA : Addr) (us2 : List Value) (qs : List Nat) (c2 r : Nat) (tr tf ts tb : Tok), news = [(fA, listOf (List.toArray us2) c2)] ∧ IntsAre us2 (qs.map fun (c : Nat) => (c : Int)) ∧ m (Str.ofString "further") = some (.ref fA) ∧ m (Str.ofString "rest") = some (.int (r : Int) tr) ∧ m (Str.ofString "found") = some (.str (signStr D) tf) ∧ m (Str.ofString "signs") = some (.str (Str.ofString "123456789ABCDEFGHJKLMNPQRSTUVWXYZabcdefghijkmnopqrstuvwxyz") ts) ∧ m (Str.ofString "octets") = some (.bytes b tb) ∧ PassInv zs j qs r) (by rfl) (News.isList N₁ (by k_mem)) (by exact (N₁ (l, _) (by k_mem)).2.1) (by intro p hp; rcases List.mem_singleton.mp hp with rfl; exact Nat.ne_of_gt (by omega)) F₁ N₂ ⟨_, [], [], 0, 0, _, _, _, _, rfl, IntsAre.nil, rfl, rfl, rfl, rfl, rfl, PassInv.start zs⟩ ?_ ?_
    · rintro j v m₂ news₂ h tk own hj hv hadr hoff ⟨fA, us2, qs, c2, r, tr, tf, ts, tb, rfl, hI2, hm1, hm2, hm3, hm4, hm5, hp⟩ F₃ N₃
      clear F₁ N₁ N₂
      simp only [List.cons_append, List.nil_append] at N₃
      obtain ⟨z, tz, hzj, rfl⟩ := ints_atN hI hv
      have F₄ := over (over (over (over (over F₃ (x := Str.ofString "octets") hm5) (x := Str.ofString "signs") hm4) (x := Str.ofString "found") hm3) (x := Str.ofString "rest") hm2) (x := Str.ofString "further") hm1
      clear F₃
      (try k_fold)
      walk_at "mine steps"
      have e9 : (r : Int) * 256 + (z : Int) = ((r * 256 + z : Nat) : Int) := by push_cast; rfl
      rw [e9, fdiv_sign]
      with_reducible rename Fr _ _ _ _ => F₅
      with_reducible rename News _ _ _ _ => N₅
      have hfA : ∀ p ∈ own, p.1 ≠ fA := fun p hp => hoff p hp fA (by rw [← hadr]; exact List.Mem.head _)
      refine list_append F₅ N₅ hfA (by rw [IntsAre.length hI2, List.length_map, hp.len]; rw [List.size_toArray, IntsAre.length hI, List.length_map] at hj; omega) ?_
      intro h₆ F₆ N₆
      clear F₅ N₅
      walk_at "mine steps"
      with_reducible rename Fr _ _ _ _ => F₇
      with_reducible rename News _ _ _ _ => N₇
      rw [e9, fmod_sign] at F₇
      refine endE (nx := [(fA, _)]) F₇ N₇ (fun p hp => by rcases List.mem_singleton.mp hp with rfl; exact List.Mem.head _) (fun p hp => List.mem_cons_of_mem _ hp) (by exact hadr) ⟨fA, _, qs ++ [(r * 256 + z) / 58], _, _, _, _, _, _, rfl, ints_pushN hI2, rfl, rfl, rfl, rfl, rfl, hp.step hzj (hz z (List.mem_of_getElem? hzj))⟩
    · rintro m₂ news₂ h tk ⟨fA, us2, qs, c2, r, tr, tf, ts, tb, rfl, hI2, hm1, hm2, hm3, hm4, hm5, hp⟩ F₃ N₃
      clear F₁ N₁ N₂
      rw [List.size_toArray, IntsAre.length hI, List.length_map] at hp
      have hpl := hp.len
      have hpo := hp.oct
      obtain ⟨hp1, hp2⟩ := hp.done
      have hr58 : r < 58 := hp.small
      clear hp
      (try k_fold)
      walk_at "mine steps"
      refine whileM (fun i s' => ∃ (h : Heap) (tk : Nat) (m₁ : Str → Option Value) (tf ts tb tr : Tok) (us : List Value) (ks : List Nat) (c : Nat), s' = { s with heap := h, toks := tk } ∧ Fr s.heap L' h m₁ ∧ News s.heap L' h [(fA, listOf (List.toArray us) c)] ∧ IntsAre us (ks.map fun (c : Nat) => (c : Int)) ∧ (∀ z ∈ ks, z < 256) ∧ ks.length ≤ 20 ∧ m₁ (Str.ofString "further") = some (.ref fA) ∧ m₁ (Str.ofString "found") = some (.str (signStr D) tf) ∧ m₁ (Str.ofString "signs") = some (.str (Str.ofString "123456789ABCDEFGHJKLMNPQRSTUVWXYZabcdefghijkmnopqrstuvwxyz") ts) ∧ m₁ (Str.ofString "octets") = some (.bytes b tb) ∧ m₁ (Str.ofString "rest") = some (.int (r : Int) tr) ∧ i = ks.length ∧ valB ks = valB qs) qs.length ⟨_, _, _, _, _, _, _, us2, qs, c2, rfl, F₃, N₃, hI2, hpo, by omega, hm1, hm3, hm4, hm5, hm2, rfl, rfl⟩ ?_
      clear F₃ N₃ hI2 hm1 hm2 hm3 hm4 hm5
      rintro i s' ⟨h, tk, m₁, tf, ts, tb, tr, us3, ks, c3, rfl, F₃, N₃, hI3, hz3, hl3, hm1, hm2, hm3, hm4, hm5, rfl, hv3⟩
      have F₄ := over (over (over (over (over F₃ (x := Str.ofString "octets") hm4) (x := Str.ofString "signs") hm3) (x := Str.ofString "found") hm2) (x := Str.ofString "rest") hm5) (x := Str.ofString "further") hm1
      clear F₃
      (try k_fold)
      walk_at "mine steps"
      · rename (List.getD _ _ _ : Int) = 0 => hg0
        rename 0 < List.length _ => hpos
        obtain ⟨k0, ks', rfl, hgk⟩ := getD_zero hpos
        rw [hgk] at hg0
        have hk0 : k0 = 0 := by omega
        subst hk0
        obtain ⟨y0, us4, rfl⟩ : ∃ y us4, us3 = y :: us4 := by
          cases hI3 with
          | cons n t r => exact ⟨_, _, rfl⟩
        obtain ⟨k1, t1, ks1, e1, rfl, hI4⟩ := ints_consN hI3
        obtain ⟨rfl, rfl⟩ := List.cons.inj e1
        with_reducible rename Fr _ _ _ _ => F₅
        with_reducible rename News _ _ _ _ => N₅
        refine list_pop0 F₅ N₅ (fun p hp => nomatch hp) (by have := IntsAre.length hI4; rw [List.length_map] at this; simp only [List.length_cons] at hl3; omega) ?_
        intro h₆ F₆ N₆
        clear F₅ N₅
        walk_at "mine steps"
        with_reducible rename Fr _ _ _ _ => F₇
        with_reducible rename News _ _ _ _ => N₇
        exact ⟨ks'.length, by simp, _, _, _, _, _, _, _, us4, ks', _, rfl, F₇, N₇, hI4, fun z hz => hz3 z (List.mem_cons_of_mem _ hz), by simp only [List.length_cons] at hl3; omega, rfl, rfl, rfl, rfl, rfl, rfl, by rw [← hv3, valB_zero_cons]⟩
      all_goals (
        have hne : valB zs ≠ 0 := fun h0 => by have := (zeros_iff zs).mpr h0; contradiction
        with_reducible rename Fr _ _ _ _ => F₇
        with_reducible rename News _ _ _ _ => N₇
        exact ⟨valB ks, by omega, _, _, _, _, _, _, us3, ks, fA, c3, D ++ [r], rfl, F₇, N₇, hI3, hz3, hl3, rfl, rfl, rfl, rfl, rfl, by rw [hv3, hp1, hp2]; exact hdig.step, fun h0 d hd => last_of_step hne hp2 (by omega) hd, by have := hdig.len (by omega) (num_lt900 (by omega)); simp; omega⟩)
  · rename (List.map _ zs = _) => hz0
    have hv0 := (zeros_iff zs).mp hz0
    rw [hv0] at hdig
    have hDn := digs_done hdig (hlast hv0)
    subst hDn
    with_reducible rename Fr _ _ _ _ => F₁
    refine whileM (fun i s' => ∃ (h : Heap) (tk : Nat) (m₁ : Str → Option Value) (tf tb ta : Tok) (k : Nat), s' = { s with heap := h, toks := tk } ∧ Fr s.heap L' h m₁ ∧ News s.heap L' h [] ∧ m₁ (Str.ofString "ahead") = some (.int (k : Int) ta) ∧ m₁ (Str.ofString "found") = some (.str (signStr (digs (num b))) tf) ∧ m₁ (Str.ofString "octets") = some (.bytes b tb) ∧ i = b.size - k ∧ k ≤ b.size ∧ (∀ j, j < k → b[j]? = some 0)) b.size ⟨_, _, _, _, _, _, 0, rfl, F₁, News.nil, rfl, rfl, rfl, rfl, Nat.zero_le _, fun j hj => absurd hj (by omega)⟩ ?_
    clear F₁ hz0 hv0 hlast hdig hI hz hl
    rintro i s' ⟨h, tk, m₁, tf, tb, ta, k, rfl, F₁, N', hm1, hm2, hm3, rfl, hk1, hk2⟩
    have F₂ := over (over (over F₁ (x := Str.ofString "octets") hm3) (x := Str.ofString "found") hm2) (x := Str.ofString "ahead") hm1
    clear F₁
    (try k_fold)
    walk_at "mine steps"
    · have hkb : k < b.size := by omega
      obtain ⟨c, hc⟩ : ∃ c, b[k]? = some c := ⟨b[k], Array.getElem?_eq_getElem hkb⟩
      refine itemB hc (by omega) ?_
      intro t8 k8
      walk_at "mine steps"
      · with_reducible rename Fr _ _ _ _ => F₇
        refine ⟨b.size - (k + 1), by omega, _, _, _, _, _, _, k + 1, rfl, F₇, News.nil, rfl, rfl, rfl, rfl, hkb, fun j hj => ?_⟩
        by_cases hjk : j = k
        · subst hjk
          rw [hc]
          congr 1
          exact UInt8.toNat_inj.mp (by show c.toNat = 0; omega)
        · exact hk2 j (by omega)
      · obtain ⟨hls, hld⟩ := lead_of hk1 hk2 (.inr ⟨c, hc, fun e => by subst e; have : UInt8.toNat 0 = 0 := rfl; omega⟩)
        walk_at "mine done"
        exact hret _ _ _ (Fr.keep (by k_asm)) ⟨_, by rw [← hld]⟩
    · obtain ⟨hls, hld⟩ := lead_of hk1 hk2 (.inl (by omega))
      walk_at "mine done"
      exact hret _ _ _ (Fr.keep (by k_asm)) ⟨_, by rw [← hld]⟩
end Mine
end

section
open PySem PySem.W PyProof.Rows PySem.Calls
set_option maxHeartbeats 8000000
namespace Mine
local macro_rules | `(tactic| walk_at "mine enter") => `(tactic| (refine wpAny_call ?_; k_dflt (refine' enterM ?k1 ?k2 ?k3 ?k5 ?kA ?kF ?kK ?k6 ?k7 ?k8 ?k9 ?kB ?_ ?c2 ?c3 ?c4 ?c5; (case kA => exact rfl); (case kF => exact rfl); (case kK => first | assumption | exact rfl); (case k1 => k_asm); (case k2 => k_asm); (case k3 => k_asm); (case k5 => k_asm); (case k6 => k_is); (case k7 => k_is); (case k8 => ktr_room); (case k9 => first | exact BindsTo.of_eq rfl | exact binds_K (by k_in) rfl (by k_is) rfl rfl rfl); (case c5 => decide); (case kB => exact locs rfl); (case c2 => exact rfl); (case c3 => exact rfl); (case c4 => exact rfl); k_whole)))
local macro_rules | `(tactic| walk_at "mine done") => `(tactic| ((try dsimp only); (try k_unfold); (try dsimp only)))
local macro_rules | `(tactic| walk_at "call type:bytes") => `(tactic| ((with_reducible show wpAny _ _ (call (Value.type "bytes") [Value.bytes _ _]) _ _ _); refine call_bytes_bytes ?_))
local macro_rules | `(tactic| walk_at "getMethod bytes") => `(tactic| first | (with_reducible refine getm_lstrip ?_) | (with_reducible refine getm_translate ?_) | (with_reducible refine getm_hex ?_))
local macro_rules | `(tactic| walk_at "callWith ref") => `(tactic| ((with_reducible show wpAny _ _ (callWith _ (Value.ref _) _ (backTo _ (starEach (_ :: _) _)) (backToKw _ _)) _ _ _); kfb_any; (refine callWith_boundKW (by rfl) ?_)))
local macro_rules | `(tactic| walk_at "binaryOp Add bytes bytes") => `(tactic| ((with_reducible show wpAny _ _ (binaryOp Operator.Add (Value.bytes _ _) (Value.bytes _ _)) _ _ _); (refine add_bytes (by first | decide | omega) (by first | decide | omega) ?_); intro _ _))
local macro_rules | `(tactic| walk_at "call ref") => `(tactic| ((with_reducible show wpAny _ _ (call (Value.ref _) _ _) _ _ _); kfb_any; k_dflt (show wpAny _ _ (call (Value.ref _) [Value.bytes _ _] [(_, _), (_, _)]) _ _ _); (refine call_fromN (by k_asm) (by k_mem) (by (try simp only [Array.size_append]); first | omega | (show _ + _ ≤ _; omega) | (show 1 + _ ≤ _; omega)) ?_); intro _ _ _ _ _))
local macro_rules | `(tactic| walk_at "callWith builtin:int.to_bytes") => `(tactic| (refine callWith_kwF ?_))
local macro_rules | `(tactic| walk_at "call builtin:int.to_bytes") => `(tactic| (refine mixed_to (by assumption) ?_; intro _ _))

local macro_rules | `(tactic| walk_at "mine size") => `(tactic| first | omega | decide | ((simp only [translated_size, Array.size_append, hashed_size, mixed_size, asciiOf_size]); first | done | omega) | exact Nat.le_trans (lstrip_size _ _) (by omega))
local macro_rules | `(tactic| walk_at "call builtin:bytes.translate") => `(tactic| first
  | ((with_reducible show wpAny _ _ (call (Value.builtin "bytes.translate") [Value.bytes _ _, Value.bytes _ _]) _ _ _); first | (refine translateDigit (by unfold digitTab; decide +kernel) (by walk_at "mine size") ?_; intro _ _) | (refine translateChar (by unfold charTab; decide +kernel) (by walk_at "mine size") ?_; intro _ _))
  | ((with_reducible show wpAny _ _ (call (Value.builtin "bytes.translate") [Value.bytes _ _, Value.none, Value.bytes _ _]) _ _ _); (refine translateOut (by unfold signTab; decide +kernel) (by walk_at "mine size") ?_; intro _ _)))
local macro_rules | `(tactic| walk_at "call builtin:len") => `(tactic| ((with_reducible show wpAny _ _ (call (Value.builtin "len") [Value.bytes _ _]) _ _ _); (refine lenB (by walk_at "mine size") ?_; intro _ _)))
local macro_rules | `(tactic| walk_at "truthy bytes") => `(tactic| (refine truthyB (by walk_at "mine size") ?_; intro _))
local macro_rules | `(tactic| walk_at "subscriptTail") => `(tactic| ((with_reducible show wpAny _ _ (subscriptTail _ (Expr.Slice _ _ none _) (Value.bytes _ _) (Value.ref _)) _ _ _); (with_reducible rename Fr _ _ _ _ => F'); (with_reducible rename News _ _ _ _ => N'); (refine sliceB (s := ⟨_, _, _, _, _⟩) F' N' (by constructor) (by constructor) (by walk_at "mine size") ?_); intro _ _ _ _ _))
local macro_rules | `(tactic| walk_at "mine steps") => `(tactic| repeat' (first | (k_unfold; (try dsimp only)) | ((fail_if_success (with_reducible show wpAny _ _ (exec (Stmt.While _ _ _ _) _) _ _ _)); (fail_if_success (with_reducible show wpAny _ _ (exec (Stmt.For _ _ _ _ _) _) _ _ _)); (fail_if_success (with_reducible show wpAny _ _ (pyIter _) _ _ _)); first | (k_end; wrow_close) | walk1 | (dsimp only; walk1)) | fail "no step"))

local macro_rules | `(tactic| walk_at "call type:list") => `(tactic| ((with_reducible show wpAny _ _ (call (Value.type "list") [Value.bytes _ _]) _ _ _); (refine' list_bytesN ?k1 ?k2 ?k3 ?k4 ?_; (case k1 => exact rfl); (case k2 => k_asm); (case k3 => k_asm); (case k4 => omega)); intro D' us' c' h' tk' F' N' l1 hI'; (try k_lt l1); (try k_sweep)))

local macro_rules | `(tactic| walk_at "binaryOp Add str str") => `(tactic| ((with_reducible show wpAny _ _ (binaryOp Operator.Add (Value.str (Txt.mul _ _) _) (Value.str (signStr _) _)) _ _ _); rw [mul_one_str]; (refine addStr (by rw [onesStr_length]; omega) (by rw [signStr_length]; omega) ?_); intro _ _))
local macro_rules | `(tactic| walk_at "binaryOp Add str str") => `(tactic| ((with_reducible show wpAny _ _ (binaryOp Operator.Add (Value.str (signStr _) _) (Value.str (signStr _) _)) _ _ _); (refine addStr (by rw [signStr_length]; show 1 ≤ 100000; decide) (by rw [signStr_length]; omega) ?_); rw [signStr_push]; intro _ _))
local macro_rules | `(tactic| walk_at "subscriptTail Name Name str int") => `(tactic| ((with_reducible show wpAny _ _ (subscriptTail _ _ (Value.str (PySem.Str.ofString "123456789ABCDEFGHJKLMNPQRSTUVWXYZabcdefghijkmnopqrstuvwxyz") _) (Value.int _ _)) _ _ _); (refine itemSign (by with_reducible assumption) ?_); intro _ _))

local macro_rules | `(tactic| walk_at "compareOp NotIn str str") => `(tactic| ((with_reducible show wpAny _ _ (compareOp CmpOp.NotIn (Value.str _ _) (Value.str (PySem.Str.ofString "123456789ABCDEFGHJKLMNPQRSTUVWXYZabcdefghijkmnopqrstuvwxyz") _)) _ _ _); (refine notInSign (by with_reducible assumption) ?_)))
local macro_rules | `(tactic| walk_at "call builtin:str.index") => `(tactic| ((with_reducible show wpAny _ _ (call (Value.builtin "str.index") [Value.str (PySem.Str.ofString "123456789ABCDEFGHJKLMNPQRSTUVWXYZabcdefghijkmnopqrstuvwxyz") _, Value.str _ _]) _ _ _); (refine indexSign (by with_reducible assumption) (by first | with_reducible assumption | simpa using ‹_›) ?_); intro _ _))
local macro_rules | `(tactic| walk_at "subscriptTail Name Name str int") => `(tactic| ((with_reducible show wpAny _ _ (subscriptTail _ _ (Value.str _ _) (Value.int _ _)) _ _ _); (refine itemStr (by omega) (by omega) ?_); intro _ _))

theorem c_read {w : World} {x : Str} {t : Tok} (hx : IsAscii x) (hl : x.length ≤ 105) : Con (hd.heap_39 w.params) w 166 [.str x t] 20 200 (fun v => if allSigns x = true then ∃ t' : Tok, v = .bytes (decoded (asciiOf x)) t' else v = .none) := by
  w_top off
  intro prog p loose mean mg mb dp un gd cn cs a ccd cl outer A₀ base h₀ L m s Q E B F X T hk hd hu hret
  walk_at "mine enter"
  clear B F X T
  intro L' h' F' N' B' X' T'
  (try dsimp only)
  (try k_fold)
  walk_at "mine steps"
  with_reducible rename Fr _ _ _ _ => F₁
  with_reducible rename News _ _ _ _ => N₁
  refine forM s.heap (by rfl) (by rfl) ?_
  walk_at "mine steps"
  refine iterStr (fun i m news => news = [] ∧ (∃ t, m (Str.ofString "signs") = some (.str (Str.ofString "123456789ABCDEFGHJKLMNPQRSTUVWXYZabcdefghijkmnopqrstuvwxyz") t)) ∧ (∃ (n : Nat) (t : Tok), m (Str.ofString "number") = some (.int (n : Int) t) ∧ n = readNum (x.cps.toList.take i)) ∧ (∃ t, m (Str.ofString "text") = some (.str x t)) ∧ (∀ j c, j < i → x.cps[j]? = some c → isSign c = true)) (by rfl) F₁ News.nil ⟨rfl, ⟨_, rfl⟩, ⟨0, _, rfl, rfl⟩, ⟨_, rfl⟩, fun j c h _ => absurd h (by omega)⟩ ?_ ?_
  · rintro i v m₁ news₁ h tk own hi hv hadr hoff ⟨rfl, ⟨t1, hm1⟩, ⟨n, t2, hm2, hn⟩, ⟨t3, hm3⟩, hall⟩ F₂ N₂
    clear F₁ N₁
    rw [List.nil_append] at N₂
    obtain ⟨c, u, hc, rfl⟩ := hv
    have hc128 : c < 128 := hx c (Array.mem_of_getElem? hc)
    have F₃ := over (over (over F₂ (x := Str.ofString "text") hm3) (x := Str.ofString "number") hm2) (x := Str.ofString "signs") hm1
    clear F₂
    (try k_fold)
    cases hs : isSign c with
    | false =>
      walk_at "mine steps"
      walk_at "mine done"
      refine hret _ _ _ (Fr.keep (by k_asm)) ?_
      show if allSigns x = true then _ else _
      rw [if_neg]
      intro hal
      have := (allSigns_iff x).mp hal i c hc
      rw [hs] at this
      cases this
    | true =>
      walk_at "mine steps"
      with_reducible rename Fr _ _ _ _ => F₅
      with_reducible rename News _ _ _ _ => N₅
      refine endE (nx := []) F₅ N₅ (fun _ hp => nomatch hp) (fun _ hp => hp) rfl ⟨rfl, ⟨_, rfl⟩, ⟨n * 58 + digitOf c, _, rfl, by rw [readNum_step hc, hn]⟩, ⟨_, rfl⟩, fun j c' hj hc' => ?_⟩
      by_cases hji : j = i
      · subst hji
        rw [hc] at hc'
        cases hc'
        exact hs
      · exact hall j c' (by omega) hc'
  · rintro m₁ news₁ h tk ⟨rfl, ⟨t1, hm1⟩, ⟨n, t2, hm2, hn⟩, ⟨t3, hm3⟩, hall⟩ F₂ N₂
    clear F₁ N₁
    have hal : allSigns x = true := (allSigns_iff x).mpr fun i c hc => hall i c (by obtain ⟨hlt, _⟩ := Array.getElem?_eq_some_iff.mp hc; exact hlt) hc
    rw [← Array.length_toList, List.take_length] at hn
    have hn50 := readNum_small hx hal hl
    rw [← hn] at hn50
    have F₃ := over (over F₂ (x := Str.ofString "text") hm3) (x := Str.ofString "number") hm2
    clear F₂ hall
    (try k_fold)
    walk_at "mine steps"
    with_reducible rename Fr _ _ _ _ => F₄
    with_reducible rename News _ _ _ _ => N₄
    refine whileM (fun i s' => ∃ (h : Heap) (tk : Nat) (m₁ : Str → Option Value) (tx tn : Tok) (us : List Value) (qs : List Nat) (l : Addr) (c k : Nat), s' = { s with heap := h, toks := tk } ∧ Fr s.heap L' h m₁ ∧ News s.heap L' h [(l, listOf (List.toArray us) c)] ∧ IntsAre us (qs.map fun (c : Nat) => (c : Int)) ∧ m₁ (Str.ofString "found") = some (.ref l) ∧ m₁ (Str.ofString "number") = some (.int (k : Int) tn) ∧ m₁ (Str.ofString "text") = some (.str x tx) ∧ i = k ∧ OctInv n k qs) n ⟨_, _, _, _, _, [], [], _, _, n, rfl, F₄, N₄, IntsAre.nil, rfl, rfl, rfl, rfl, .start⟩ ?_
    clear F₄ N₄
    rintro i s' ⟨h, tk, m₁, tx, tn, us, qs, l, c, k, rfl, F₁, N', hI, hm1, hm2, hm3, rfl, hoct⟩
    have hql := hoct.len
    have F₂ := over (over (over F₁ (x := Str.ofString "text") hm3) (x := Str.ofString "number") hm2) (x := Str.ofString "found") hm1
    clear F₁
    (try k_fold)
    walk_at "mine steps"
    · with_reducible rename Fr _ _ _ _ => F₇
      with_reducible rename News _ _ _ _ => N₇
      with_reducible rename IntsAre _ _ => I₇
      rw [fmod_oct] at I₇
      rw [fdiv_oct] at F₇
      exact ⟨i / 256, by omega, _, _, _, _, _, _, i % 256 :: qs, _, _, i / 256, rfl, F₇, newsHead N₇, I₇, rfl, rfl, rfl, rfl, hoct.step (by omega) hn50⟩
    · have hi0 : i = 0 := by omega
      subst hi0
      with_reducible rename Fr _ _ _ _ => F₄
      with_reducible rename News _ _ _ _ => N₄
      have hxl : x.length = x.cps.size := rfl
      refine whileM (fun i s' => ∃ (h : Heap) (tk : Nat) (m₁ : Str → Option Value) (tx ta : Tok) (k : Nat), s' = { s with heap := h, toks := tk } ∧ Fr s.heap L' h m₁ ∧ News s.heap L' h [(l, listOf (List.toArray us) c)] ∧ m₁ (Str.ofString "found") = some (.ref l) ∧ m₁ (Str.ofString "ahead") = some (.int (k : Int) ta) ∧ m₁ (Str.ofString "text") = some (.str x tx) ∧ i = x.length - k ∧ k ≤ x.length ∧ (∀ j, j < k → x.cps[j]? = some 49)) x.length ⟨_, _, _, _, _, 0, rfl, F₄, N₄, rfl, rfl, rfl, rfl, Nat.zero_le _, fun j hj => absurd hj (by omega)⟩ ?_
      clear F₄ N₄
      rintro i s' ⟨h, tk, m₁, tx, ta, k, rfl, F₁, N', hm1, hm2, hm3, rfl, hk1, hk2⟩
      have F₂ := over (over (over F₁ (x := Str.ofString "text") hm3) (x := Str.ofString "ahead") hm2) (x := Str.ofString "found") hm1
      clear F₁
      (try k_fold)
      walk_at "mine steps"
      · rename (_ == _) = true => heq
        have h49 := (one_eq _).mp (eq_of_beq heq)
        have hkx : k < x.length := by omega
        with_reducible rename Fr _ _ _ _ => F₇
        with_reducible rename News _ _ _ _ => N₇
        refine ⟨x.length - (k + 1), by omega, _, _, _, _, _, k + 1, rfl, F₇, N₇, rfl, rfl, rfl, rfl, hkx, fun j hj => ?_⟩
        by_cases hjk : j = k
        · subst hjk
          have hlt : j < x.cps.size := hkx
          rw [Array.getElem?_eq_getElem hlt]
          unfold Array.getD at h49
          rw [dif_pos hlt] at h49
          exact congrArg some h49
        · exact hk2 j (by omega)
      all_goals (
        have hend : k = x.length ∨ x.cps.getD k 0 ≠ 49 := by
          first
            | exact .inl (by omega)
            | (refine .inr fun h49 => ?_
               have := beq_iff_eq.mpr ((one_eq _).mpr h49)
               rename (_ == _) = false => heq
               rw [this] at heq
               cases heq)
        have hfin := read_decoded hx (by rw [← hn]; exact hoct) hk1 hk2 hend
        with_reducible rename IntsAre _ _ => I₇
        with_reducible rename Fr _ _ _ _ => F₇
        with_reducible rename News _ _ _ _ => N₇
        refine KBa.make_K F₇ N₇ (by rfl) (News.isList N₇ (List.Mem.head _)) I₇ (fun n hn => ?_) (by rw [← byteArr_size, hfin]; exact Nat.le_trans (decoded_size_le (by rw [asciiOf_size]; omega)) (by decide)) ?_
        · rcases List.mem_append.mp hn with hn | hn
          · rw [List.flatten_replicate_singleton] at hn
            rw [(List.mem_replicate.mp hn).2]
            decide
          · obtain ⟨q, hq, rfl⟩ := List.mem_map.mp hn
            have := hoct.oct q hq
            omega
        intro h9 t9 k9 F9 N9 hin
        walk_at "mine done"
        refine hret _ _ _ (Fr.keep F9) ?_
        show if allSigns x = true then _ else _
        rw [if_pos hal, hfin]
        exact ⟨_, rfl⟩)
end Mine
end

section
open PySem PySem.W PyProof.Rows PySem.Calls
set_option maxHeartbeats 8000000
namespace Mine
local macro_rules | `(tactic| walk_at "mine pad") => `(tactic| fail)
theorem Con.weak {K : Frag} {w : World} {f : Addr} {vs : List Value} {k u : Nat} {P P' : Value → Prop} (c : Con K w f vs k u P) (h : ∀ v, P v → P' v) : Con K w f vs k u P' :=
  fun prog p loose mean mg mb dp un gd cn cs a ccd cl outer A₀ base h₀ L m s Q E B F X T hk hd hu hret =>
    c prog p loose mean mg mb dp un gd cn cs a ccd cl outer A₀ base h₀ L m s Q E B F X T hk hd hu fun v h' tk' st hp => hret v h' tk' st (h v hp)
theorem ConT.weak {K : Frag} {w : World} {f : Addr} {vs : List Value} {k u : Nat} {P P' : Value → Prop} (c : ConT K w f vs k u P) (h : ∀ v, P v → P' v) : ConT K w f vs k u P' :=
  fun prog p loose mean mg mb dp un gd cn cs a ccd cl A₀ h₀ L m s Q E news B F N X T hk hd hu hret =>
    c prog p loose mean mg mb dp un gd cn cs a ccd cl A₀ h₀ L m s Q E news B F N X T hk hd hu fun v h' tk' F' N' hp => hret v h' tk' F' N' (h v hp)
theorem signTab_all : ∀ c : Fin 128, signTab.contains c.val.toUInt8 = isSign c.val := by unfold signTab; decide +kernel
theorem signs_iff {y : Str} (hy : IsAscii y) : allSigns y = true ↔ (without (asciiOf y) signTab).size = 0 := by
  rw [allSigns_iff]
  unfold without
  rw [Array.size_eq_zero_iff, Array.filter_eq_empty_iff]
  constructor
  · intro h c hc
    obtain ⟨i, hi⟩ := Array.getElem?_of_mem hc
    rw [asciiOf_get] at hi
    cases hq : y.cps[i]? with
    | none => rw [hq] at hi; cases hi
    | some n =>
      rw [hq] at hi
      have e : n.toUInt8 = c := Option.some.inj hi
      subst e
      have h1 := h i n hq
      have h2 := signTab_all ⟨n, hy n (Array.mem_of_getElem? hq)⟩
      rw [h2, h1]
      decide
  · intro h i c hc
    have hm : c.toUInt8 ∈ asciiOf y := Array.mem_of_getElem? (i := i) (by rw [asciiOf_get, hc]; rfl)
    have h1 := h _ hm
    have h2 := signTab_all ⟨c, hy c (Array.mem_of_getElem? hc)⟩
    rw [h2] at h1
    simpa using h1
set_option exponentiation.threshold 2000 in
theorem textOf_length {b : Array UInt8} (hb : b.size ≤ 16) : (textOf b).length ≤ 50 := by
  have hl : (digs (num b)).length ≤ 33 := by
    by_cases hne : digs (num b) = []
    · rw [hne]; decide
    · have h1 := lowNum_ge (List.getLast?_eq_some_getLast hne) (digs_last hne)
      rw [lowNum_digs] at h1
      have h2 : num b < 58 ^ 32 := Nat.lt_of_lt_of_le (num_lt b) (Nat.le_trans (Nat.pow_le_pow_right (by decide) hb) (by decide))
      have := (Nat.pow_lt_pow_iff_right (a := 58) (by decide)).mp (Nat.lt_of_le_of_lt h1 h2)
      omega
  have : (textOf b).length = (b.size - (lstrip b #[0]).size) + (digs (num b)).length := by
    show (textOf b).cps.size = _
    rw [textOf_cps]
    simp
  omega
/-- the law's text -/
@[irreducible] def lawText (b : Array UInt8) : Str := textOf (b ++ chk b)
structure LawText (b : Array UInt8) : Prop where
  ascii : IsAscii (lawText b)
  hi : (lawText b).length ≤ 50
  pos : 0 < (lawText b).length
  enc : encoded (b ++ chk b) = asciiOf (lawText b)
  good : (without (asciiOf (lawText b)) signTab).size = 0
  dec : decoded (asciiOf (lawText b)) = b ++ chk b
theorem lawText_ok {b : Array UInt8} (hb : b.size ≤ 12) : LawText b := by
  have hs : (b ++ chk b).size ≤ 16 := by rw [Array.size_append, chk_size]; omega
  refine ⟨?_, ?_, ?_, ?_, ?_, ?_⟩ <;> (try unfold lawText)
  · exact textOf_ascii _
  · exact textOf_length hs
  · have hd := textOf_dec (b := b ++ chk b) (by omega)
    refine Nat.pos_of_ne_zero fun h0 => ?_
    have h1 := decoded_small (b := asciiOf (textOf (b ++ chk b))) (by rw [asciiOf_size]; exact h0)
    rw [hd, Array.size_append, chk_size] at h1
    omega
  · exact (asciiOf_text _).symm
  · exact textOf_good _
  · exact textOf_dec (by omega)
theorem law_same (b : Array UInt8) : ((KBy.picked (b ++ chk b) (some (-4)) none).toList != (KBy.picked (hashed (KBy.picked (b ++ chk b) none (some (-4)))) none (some 4)).toList) = false := by
  rw [full_cut, full_last]
  simp
section
variable {w : World} {b : Array UInt8}
theorem w_signs {t : Tok} (hb : b.size ≤ 12) : Con (hd.heap_39 w.params) w 159 [.bytes (b ++ chk b) t] 20 200 (fun v => ∃ t' : Tok, v = .str (lawText b) t') :=
  Con.weak (c_signs (by rw [Array.size_append, chk_size]; omega)) fun v ⟨t', h⟩ => ⟨t', by rw [h]; unfold lawText textOf; rfl⟩
theorem w_encode {t : Tok} (hb : b.size ≤ 12) : ConC (hd.heap_39 w.params) w 116 [.bytes b t] 60 600 (fun v => ∃ t' : Tok, v = .bytes (asciiOf (lawText b)) t') :=
  fun prog p loose mean mg mb dp un gd cn cs a ccd cl outer A₀ base h₀ L m s Q E B F X T hk hd hu hret =>
    c_encode (by omega) prog p loose mean mg mb dp un gd cn cs a ccd cl outer A₀ base h₀ L m s Q E B F X T hk hd hu fun v h' tk' st ⟨t', hp⟩ => hret v h' tk' st ⟨t', by rw [hp]; exact congrArg (Value.bytes · t') (lawText_ok hb).enc⟩
theorem w_decode {t : Tok} (hb : b.size ≤ 12) : Con (hd.heap_39 w.params) w 138 [.str (lawText b) t] 40 400 (fun v => ∃ t' : Tok, v = .bytes b t') := by
  have L := lawText_ok hb
  have hl := L.hi
  refine Con.weak (c_decode_text L.ascii (by omega) (by rw [asciiOf_size]; omega) L.good ?_ ?_ ?_ ?_) fun v ⟨t', h⟩ => ⟨t', ?_⟩
  all_goals rw [L.dec] at *
  · rw [Array.size_append, chk_size]; omega
  · rw [full_cut]; omega
  · rw [Array.size_append, chk_size]; omega
  · exact law_same b
  · rw [full_cut] at h; exact h
theorem w_decodeB {t u : Tok} (hb : b.size ≤ 12) : Con (hd.heap_39 w.params) w 138 [.bytes (asciiOf (lawText b)) t, .int (b.size : Int) u] 40 400 (fun v => ∃ t' : Tok, v = .bytes b t') := by
  have L := lawText_ok hb
  have hl := L.hi
  refine Con.weak (c_decode_bytes (k := b.size) (by rw [asciiOf_size]; omega) L.good ?_ ?_ ?_ ?_ (by omega) ?_) fun v ⟨t', h⟩ => ⟨t', ?_⟩
  all_goals rw [L.dec] at *
  · rw [Array.size_append, chk_size]; omega
  · rw [full_cut]; omega
  · rw [Array.size_append, chk_size]; omega
  · exact law_same b
  · rw [full_cut]
  · rw [full_cut] at h; exact h
theorem w_told_size {t u : Tok} (hb : b.size ≤ 12) : ConT (hd.heap_39 w.params) w 173 [.str (lawText b) t, .int ((b.size : Int) + 1) u] 40 400 (fun v => ∃ t' : Tok, v = .str (Str.ofString "refused") t') := by
  have L := lawText_ok hb
  have hl := L.hi
  refine c_told_size (k := b.size + 1) L.ascii (by omega) (by rw [asciiOf_size]; omega) L.good ?_ ?_ ?_ ?_ (by omega) ?_
  all_goals rw [L.dec]
  · rw [Array.size_append, chk_size]; omega
  · rw [Array.size_append, chk_size]; omega
  · exact law_same b
  · rw [full_cut]; omega
  · rw [full_cut]; omega
theorem w_told_text {t u : Tok} {y : Str} (hb : b.size ≤ 12) : ConT (hd.heap_39 w.params) w 173 [.str (lawText b) t, .str y u] 40 400 (fun v => ∃ t' : Tok, v = .str (Str.ofString "kind") t') := by
  have L := lawText_ok hb
  have hl := L.hi
  refine c_told_text L.ascii (by omega) (by rw [asciiOf_size]; omega) L.good ?_ ?_ ?_
  all_goals rw [L.dec]
  · rw [Array.size_append, chk_size]; omega
  · rw [Array.size_append, chk_size]; omega
  · exact law_same b
theorem w_told_bool {t : Tok} {u : Bool} (hb : b.size ≤ 12) : ConT (hd.heap_39 w.params) w 173 [.str (lawText b) t, .bool u] 40 400 (fun v => ∃ t' : Tok, v = .str (Str.ofString "kind") t') := by
  have L := lawText_ok hb
  have hl := L.hi
  refine c_told_bool L.ascii (by omega) (by rw [asciiOf_size]; omega) L.good ?_ ?_ ?_
  all_goals rw [L.dec]
  · rw [Array.size_append, chk_size]; omega
  · rw [Array.size_append, chk_size]; omega
  · exact law_same b
/-- what is told of a text, by the law's own reading -/
def isDue (y : Str) : Bool := allSigns y && (decide (4 ≤ (decoded (asciiOf y)).size) && !((KBy.picked (decoded (asciiOf y)) (some (-4)) none).toList != (KBy.picked (hashed (KBy.picked (decoded (asciiOf y)) none (some (-4)))) none (some 4)).toList))
theorem w_told {t : Tok} {y : Str} (hy : IsAscii y) (hl : y.length ≤ 105) : ConT (hd.heap_39 w.params) w 173 [.str y t, .none] 40 400 (fun v => if isDue y = true then ∃ t' : Tok, v = .bytes (KBy.picked (decoded (asciiOf y)) none (some (-4))) t' else ∃ t' : Tok, v = .str (Str.ofString "refused") t') := by
  have hz : (asciiOf y).size ≤ 112 := by rw [asciiOf_size]; omega
  have hz2 := decoded_size_le hz
  unfold isDue
  cases hs : allSigns y with
  | false =>
    have hbad : (without (asciiOf y) signTab).size ≠ 0 := fun h => by rw [(signs_iff hy).mpr h] at hs; cases hs
    have hsz : (without (asciiOf y) signTab).size ≤ (asciiOf y).size := by unfold without; exact Array.size_filter_le
    refine ConT.weak (c_told_bad hy (by omega) hz ⟨hbad, by omega⟩) fun v h => ?_
    rw [if_neg (by simp)]
    exact h
  | true =>
    have hgood := (signs_iff hy).mp hs
    by_cases hd4 : (decoded (asciiOf y)).size < 4
    · refine ConT.weak (c_told_short hy (by omega) hz hgood hd4) fun v h => ?_
      rw [if_neg (by simp; omega)]
      exact h
    · refine ConT.weak (c_told_sum hy (by omega) hz hgood hz2 hd4) fun v h => ?_
      cases hc : ((KBy.picked (decoded (asciiOf y)) (some (-4)) none).toList != (KBy.picked (hashed (KBy.picked (decoded (asciiOf y)) none (some (-4)))) none (some 4)).toList) with
      | true =>
        rw [if_neg (by simp)]
        exact h.1 hc
      | false =>
        rw [if_pos (by simp; omega)]
        exact h.2 hc
end
theorem w_told_long {w : World} {t : Tok} : ConT (hd.heap_39 w.params) w 173 [.str (Txt.mul (Str.ofString "1") 113) t, .none] 40 400 (fun v => ∃ t' : Tok, v = .str (Str.ofString "refused") t') := by
  have e : Txt.mul (Str.ofString "1") 113 = onesStr 113 := mul_one_str 113
  have hl : (onesStr 113).length = 113 := onesStr_length 113
  rw [e]
  refine c_told_long (fun c hc => ?_) (by omega) (by omega) (by rw [asciiOf_size]; omega) (by rw [asciiOf_size]; omega)
  unfold onesStr at hc
  have hc : c ∈ (List.replicate 113 49).toArray := hc
  rw [List.mem_toArray] at hc
  rw [(List.mem_replicate.mp hc).2]
  decide
end Mine
end
section
open PySem PySem.W PyProof.Rows PySem.Calls
set_option maxHeartbeats 8000000
namespace Mine
local macro_rules | `(tactic| walk_at "mine pad") => `(tactic| fail)
local macro_rules | `(tactic| walk_at "mine pad") => `(tactic| fail)
local macro_rules | `(tactic| walk_at "mine pad") => `(tactic| fail)
local macro_rules | `(tactic| walk_at "mine enter") => `(tactic| (refine wpAny_call ?_; k_dflt (refine' enterM ?k1 ?k2 ?k3 ?k5 ?kA ?kF ?kK ?k6 ?k7 ?k8 ?k9 ?kB ?_ ?c2 ?c3 ?c4 ?c5; (case kA => exact rfl); (case kF => exact rfl); (case kK => first | assumption | exact rfl); (case k1 => k_asm); (case k2 => k_asm); (case k3 => k_asm); (case k5 => k_asm); (case k6 => k_is); (case k7 => k_is); (case k8 => ktr_room); (case k9 => first | exact BindsTo.of_eq rfl | exact binds_K (by k_in) rfl (by k_is) rfl rfl rfl); (case c5 => decide); (case kB => exact locs rfl); (case c2 => exact rfl); (case c3 => exact rfl); (case c4 => exact rfl); k_whole)))
local macro_rules | `(tactic| walk_at "mine done") => `(tactic| ((try dsimp only); (try k_unfold); (try dsimp only)))
local macro_rules | `(tactic| walk_at "call type:bytes") => `(tactic| ((with_reducible show wpAny _ _ (call (Value.type "bytes") [Value.bytes _ _]) _ _ _); refine call_bytes_bytes ?_))
local macro_rules | `(tactic| walk_at "getMethod bytes") => `(tactic| first | (with_reducible refine getm_lstrip ?_) | (with_reducible refine getm_translate ?_) | (with_reducible refine getm_hex ?_))
local macro_rules | `(tactic| walk_at "callWith ref") => `(tactic| ((with_reducible show wpAny _ _ (callWith _ (Value.ref _) _ (backTo _ (starEach (_ :: _) _)) (backToKw _ _)) _ _ _); kfb_any; (refine callWith_boundKW (by rfl) ?_)))
local macro_rules | `(tactic| walk_at "binaryOp Add bytes bytes") => `(tactic| ((with_reducible show wpAny _ _ (binaryOp Operator.Add (Value.bytes _ _) (Value.bytes _ _)) _ _ _); (refine add_bytes (by first | decide | omega) (by first | decide | omega) ?_); intro _ _))
local macro_rules | `(tactic| walk_at "call ref") => `(tactic| ((with_reducible show wpAny _ _ (call (Value.ref _) _ _) _ _ _); kfb_any; k_dflt (show wpAny _ _ (call (Value.ref _) [Value.bytes _ _] [(_, _), (_, _)]) _ _ _); (refine call_fromN (by k_asm) (by k_mem) (by (try simp only [Array.size_append]); first | omega | (show _ + _ ≤ _; omega) | (show 1 + _ ≤ _; omega)) ?_); intro _ _ _ _ _))
local macro_rules | `(tactic| walk_at "callWith builtin:int.to_bytes") => `(tactic| (refine callWith_kwF ?_))
local macro_rules | `(tactic| walk_at "call builtin:int.to_bytes") => `(tactic| (refine mixed_to (by assumption) ?_; intro _ _))

local macro_rules | `(tactic| walk_at "mine size") => `(tactic| first | omega | decide | ((simp only [translated_size, Array.size_append, hashed_size, mixed_size, asciiOf_size]); first | done | omega) | exact Nat.le_trans (lstrip_size _ _) (by omega))
local macro_rules | `(tactic| walk_at "call builtin:bytes.translate") => `(tactic| first
  | ((with_reducible show wpAny _ _ (call (Value.builtin "bytes.translate") [Value.bytes _ _, Value.bytes _ _]) _ _ _); first | (refine translateDigit (by unfold digitTab; decide +kernel) (by walk_at "mine size") ?_; intro _ _) | (refine translateChar (by unfold charTab; decide +kernel) (by walk_at "mine size") ?_; intro _ _))
  | ((with_reducible show wpAny _ _ (call (Value.builtin "bytes.translate") [Value.bytes _ _, Value.none, Value.bytes _ _]) _ _ _); (refine translateOut (by unfold signTab; decide +kernel) (by walk_at "mine size") ?_; intro _ _)))
local macro_rules | `(tactic| walk_at "call builtin:len") => `(tactic| ((with_reducible show wpAny _ _ (call (Value.builtin "len") [Value.bytes _ _]) _ _ _); (refine lenB (by walk_at "mine size") ?_; intro _ _)))
local macro_rules | `(tactic| walk_at "truthy bytes") => `(tactic| (refine truthyB (by walk_at "mine size") ?_; intro _))
local macro_rules | `(tactic| walk_at "subscriptTail") => `(tactic| ((with_reducible show wpAny _ _ (subscriptTail _ (Expr.Slice _ _ none _) (Value.bytes _ _) (Value.ref _)) _ _ _); (with_reducible rename Fr _ _ _ _ => F'); (with_reducible rename News _ _ _ _ => N'); (refine sliceB (s := ⟨_, _, _, _, _⟩) F' N' (by constructor) (by constructor) (by walk_at "mine size") ?_); intro _ _ _ _ _))
local macro_rules | `(tactic| walk_at "mine steps") => `(tactic| repeat' (first | (k_unfold; (try dsimp only)) | ((fail_if_success (with_reducible show wpAny _ _ (exec (Stmt.While _ _ _ _) _) _ _ _)); (fail_if_success (with_reducible show wpAny _ _ (exec (Stmt.For _ _ _ _ _) _) _ _ _)); (fail_if_success (with_reducible show wpAny _ _ (pyIter _) _ _ _)); first | (k_end; wrow_close) | walk1 | (dsimp only; walk1)) | fail "no step"))

local macro_rules | `(tactic| walk_at "truthy bytes") => `(tactic| first | (refine truthyB0 (by assumption) ?_; intro _) | (refine truthyB1 (by assumption) ?_; intro _))
local macro_rules | `(tactic| walk_at "call builtin:bytes.lstrip") => `(tactic| first | (refine lstripOne (by decide +kernel) (by walk_at "mine size") ?_; intro _ _) | (refine lstripZero (by decide +kernel) (by walk_at "mine size") ?_; intro _ _))
local macro_rules | `(tactic| walk_at "binaryOp Mult bytes int") => `(tactic| first
  | (refine mulPad (c := 0) (by decide +kernel) (lstrip_size _ _) (by omega) ?_; intro _ _)
  | (refine mulPad (c := 49) (by decide +kernel) (lstrip_size _ _) (by omega) ?_; intro _ _))
local macro_rules | `(tactic| walk_at "call builtin:int.to_bytes") => `(tactic| (refine toOctets (by first | with_reducible assumption | exact octets_of_text (by omega)) ?_; intro _ _))
local macro_rules | `(tactic| walk_at "inplaceOp Add bytes bytes") => `(tactic| (refine iadd_bytes (by first | omega | (simp only [pad_size, octs_size]; omega)) (by first | omega | (simp only [pad_size, octs_size]; first | omega | exact Nat.le_trans (octets_of_text (by omega)) (by decide))) ?_; intro _ _))

local macro_rules | `(tactic| walk_at "call builtin:str.encode") => `(tactic| (refine encodeAscii (by with_reducible assumption) (by omega) ?_; intro _ _))
local macro_rules | `(tactic| walk_at "call builtin:bytes.hex") => `(tactic| (refine call_hex (by first | omega | walk_at "mine size") ?_; intro _ _ _ _))
local macro_rules | `(tactic| walk_at "getMethod str") => `(tactic| (with_reducible refine getm_encode ?_))

local macro_rules | `(tactic| walk_at "exec Raise some none") => `(tactic| (k_here; (with_reducible show wpAny _ _ (exec (Stmt.Raise (some (Expr.Call (Expr.Name _ _) (_ :: _) [] _)) none _) _) _ _ _); k_dflt (first
  | (refine' raise_own2 ?F ?g ?O PySem.F.excBase_Exception PySem.F.excBase_ValueError ?B ?h ?_ ?a ?b ?c ?d ?e; (case F => k_asm); (case g => exact TopRead.g (by k_asm)); (case O => exact own_of_in (by k_asm) (by k_asm) (by k_is) (by k_exc)); (case B => decide +kernel); (case h => first | rfl | assumption); (case a => rfl); (case b => rfl); (case c => rfl); (case d => rfl); (case e => decide); k_whole)
  | (refine' raise_own2 ?F ?g ?O PySem.F.excBase_Exception PySem.F.excBase_TypeError ?B ?h ?_ ?a ?b ?c ?d ?e; (case F => k_asm); (case g => exact TopRead.g (by k_asm)); (case O => exact own_of_in (by k_asm) (by k_asm) (by k_is) (by k_exc)); (case B => decide +kernel); (case h => first | rfl | assumption); (case a => rfl); (case b => rfl); (case c => rfl); (case d => rfl); (case e => decide); k_whole))))

local macro_rules | `(tactic| walk_at "mine size") => `(tactic| (simp only [hashed_size]; first | done | omega))
local macro_rules | `(tactic| walk_at "mine size") => `(tactic| exact Nat.le_trans (picked_size_le _ _ _) (by first | omega | (simp only [hashed_size]; first | done | omega)))
local macro_rules | `(tactic| walk_at "news tail") => `(tactic| first | with_reducible assumption | (with_reducible exact newsTail (by assumption)) | (with_reducible exact newsTail (newsTail (by assumption))) | (with_reducible exact newsTail (newsTail (newsTail (by assumption)))))
local macro_rules | `(tactic| walk_at "joinParts") => `(tactic| ((with_reducible show wpAny _ _ (joinParts _ (evalEach [] _)) _ _ _); (with_reducible refine joinParts_nilE ?_); (with_reducible refine joinParts_nil (hsz := ?hsz) ?_); (case hsz => size_fits)))

local macro_rules | `(tactic| walk_at "binaryOp Add bytes bytes") => `(tactic| ((with_reducible show wpAny _ _ (binaryOp Operator.Add (Value.bytes _ _) (Value.bytes _ _)) _ _ _); (refine add_bytes (by omega) (by first | omega | exact Nat.le_trans (picked_size_le _ _ _) (by first | omega | (rw [hashed_size]; omega))) ?_); intro _ _))

local macro_rules | `(tactic| walk_at "call ref") => `(tactic| ((with_reducible show wpAny _ _ (call (Value.ref 94) _) _ _ _); k_dflt (refine' Con.use (c_hash ?hb) ?k1 ?k2 ?k3 ?k4 ?k5 ?kK ?kd ?ku ?_; (case hb => first | with_reducible assumption | omega | ((simp only [mixed_size, hashed_size]); first | done | omega) | (simp only [Array.size_append, mixed_size, hashed_size]; omega) | exact Nat.le_trans (lstrip_size _ _) (by omega) | exact Nat.le_trans (picked_size_le _ _ _) (by omega)); (case k1 => k_asm); (case k2 => k_asm); (case k3 => k_asm); (case k4 => k_asm); (case k5 => k_asm); (case kK => first | exact rfl | assumption); (case kd => ktr_room); (case ku => ktr_units)); intro v9 h9 tk9 F9 N9 p9; (try k_sweep); obtain ⟨_, e9⟩ := p9; subst e9))

theorem ConT.use {K : Frag} {w : World} {f : Addr} {vs : List Value} {k u : Nat} {P : Value → Prop} (c : ConT K w f vs k u P) {prog : Program} {p : Program} {loose : List Str} {mean : ExcName → Option Value} {mg mb : Str → Option Value}
    {dp un : Nat} {gd : Option (List Code)} {cn : Str} {cs : Scope} {a : Addr} {ccd : Value} {cl : List (Str × Addr)} {A₀ : Around} {h₀ : Heap} {L : Addr} {m : Str → Option Value} {s : Shared} {Q E : Value → Shared → Prop} {news : List (Addr × Obj)}
    (B : Below A₀ h₀ [] h₀) (F : Fr h₀ L s.heap m) (X : K.In h₀) (N : News h₀ L s.heap news) (T : Top p loose mean mg mb h₀) (hk : cs.kind = .function) (hd : dp + k < recursionLimit) (hu : un + u < cLine)
    (h : ∀ v h' tk', Fr h₀ L h' m → News h₀ L h' news → P v → Q v { s with heap := h', toks := tk' }) :
    wpAny (model prog w) (ktrTop dp un gd cn cs L a ccd cl []) (call (.ref f) vs) Q E s :=
  c prog p loose mean mg mb dp un gd cn cs a ccd cl A₀ h₀ L m s Q E news B F N X T hk hd hu h

local macro_rules | `(tactic| walk_at "call ref") => `(tactic| ((with_reducible show wpAny _ _ (call (Value.ref 159) [Value.bytes _ _]) _ _ _); k_dflt (refine' Con.use (w_signs (by with_reducible assumption)) ?k1 ?k2 ?k3 ?k4 ?k5 ?kK ?kd ?ku ?_; (case k1 => k_asm); (case k2 => k_asm); (case k3 => k_asm); (case k4 => k_asm); (case k5 => k_asm); (case kK => first | exact rfl | assumption); (case kd => first | ktr_room | (show _ < recursionLimit; decide)); (case ku => first | ktr_units | (show _ < cLine; decide))); intro v9 h9 tk9 F9 N9 p9; (try k_sweep); obtain ⟨_, e9⟩ := p9; subst e9))
local macro_rules | `(tactic| walk_at "call ref") => `(tactic| ((with_reducible show wpAny _ _ (call (Value.ref 138) [Value.str _ _]) _ _ _); k_dflt (refine' Con.use (w_decode (by with_reducible assumption)) ?k1 ?k2 ?k3 ?k4 ?k5 ?kK ?kd ?ku ?_; (case k1 => k_asm); (case k2 => k_asm); (case k3 => k_asm); (case k4 => k_asm); (case k5 => k_asm); (case kK => first | exact rfl | assumption); (case kd => first | ktr_room | (show _ < recursionLimit; decide)); (case ku => first | ktr_units | (show _ < cLine; decide))); intro v9 h9 tk9 F9 N9 p9; (try k_sweep); obtain ⟨_, e9⟩ := p9; subst e9))
local macro_rules | `(tactic| walk_at "call ref") => `(tactic| ((with_reducible show wpAny _ _ (call (Value.ref 138) [Value.bytes _ _, Value.int _ _]) _ _ _); k_dflt (refine' Con.use (w_decodeB (by with_reducible assumption)) ?k1 ?k2 ?k3 ?k4 ?k5 ?kK ?kd ?ku ?_; (case k1 => k_asm); (case k2 => k_asm); (case k3 => k_asm); (case k4 => k_asm); (case k5 => k_asm); (case kK => first | exact rfl | assumption); (case kd => first | ktr_room | (show _ < recursionLimit; decide)); (case ku => first | ktr_units | (show _ < cLine; decide))); intro v9 h9 tk9 F9 N9 p9; (try k_sweep); obtain ⟨_, e9⟩ := p9; subst e9))
local macro_rules | `(tactic| walk_at "call ref") => `(tactic| ((with_reducible show wpAny _ _ (call (Value.ref 173) [Value.str _ _, Value.int _ _]) _ _ _); k_dflt (refine' ConT.use (w_told_size (by with_reducible assumption)) ?k1 ?k2 ?k3 ?k4 ?k5 ?kK ?kd ?ku ?_; (case k1 => k_asm); (case k2 => k_asm); (case k3 => k_asm); (case k4 => k_asm); (case k5 => k_asm); (case kK => first | exact rfl | assumption); (case kd => first | ktr_room | (show _ < recursionLimit; decide)); (case ku => first | ktr_units | (show _ < cLine; decide))); intro v9 h9 tk9 F9 N9 p9; (try k_sweep); obtain ⟨_, e9⟩ := p9; subst e9))
local macro_rules | `(tactic| walk_at "call ref") => `(tactic| ((with_reducible show wpAny _ _ (call (Value.ref 173) [Value.str _ _, Value.str _ _]) _ _ _); k_dflt (refine' ConT.use (w_told_text (by with_reducible assumption)) ?k1 ?k2 ?k3 ?k4 ?k5 ?kK ?kd ?ku ?_; (case k1 => k_asm); (case k2 => k_asm); (case k3 => k_asm); (case k4 => k_asm); (case k5 => k_asm); (case kK => first | exact rfl | assumption); (case kd => first | ktr_room | (show _ < recursionLimit; decide)); (case ku => first | ktr_units | (show _ < cLine; decide))); intro v9 h9 tk9 F9 N9 p9; (try k_sweep); obtain ⟨_, e9⟩ := p9; subst e9))
local macro_rules | `(tactic| walk_at "call ref") => `(tactic| ((with_reducible show wpAny _ _ (call (Value.ref 173) [Value.str _ _, Value.bool _]) _ _ _); k_dflt (refine' ConT.use (w_told_bool (by with_reducible assumption)) ?k1 ?k2 ?k3 ?k4 ?k5 ?kK ?kd ?ku ?_; (case k1 => k_asm); (case k2 => k_asm); (case k3 => k_asm); (case k4 => k_asm); (case k5 => k_asm); (case kK => first | exact rfl | assumption); (case kd => first | ktr_room | (show _ < recursionLimit; decide)); (case ku => first | ktr_units | (show _ < cLine; decide))); intro v9 h9 tk9 F9 N9 p9; (try k_sweep); obtain ⟨_, e9⟩ := p9; subst e9))

local macro_rules | `(tactic| walk_at "call ref") => `(tactic| ((with_reducible show wpAny _ _ (call (Value.ref 166) [Value.str _ _]) _ _ _); k_dflt (refine' Con.use (c_read (by with_reducible assumption) (by with_reducible assumption)) ?k1 ?k2 ?k3 ?k4 ?k5 ?kK ?kd ?ku ?_; (case k1 => k_asm); (case k2 => k_asm); (case k3 => k_asm); (case k4 => k_asm); (case k5 => k_asm); (case kK => first | exact rfl | assumption); (case kd => first | ktr_room | (show _ < recursionLimit; decide)); (case ku => first | ktr_units | (show _ < cLine; decide))); intro v9 h9 tk9 F9 N9 p9; (try k_sweep); first | (rw [if_pos (by with_reducible assumption)] at p9; obtain ⟨_, e9⟩ := p9; subst e9) | (rw [if_neg (by with_reducible assumption)] at p9; subst p9)))
local macro_rules | `(tactic| walk_at "call ref") => `(tactic| ((with_reducible show wpAny _ _ (call (Value.ref 173) [Value.str _ _, Value.none]) _ _ _); k_dflt (refine' ConT.use (w_told (by with_reducible assumption) (by with_reducible assumption)) ?k1 ?k2 ?k3 ?k4 ?k5 ?kK ?kd ?ku ?_; (case k1 => k_asm); (case k2 => k_asm); (case k3 => k_asm); (case k4 => k_asm); (case k5 => k_asm); (case kK => first | exact rfl | assumption); (case kd => first | ktr_room | (show _ < recursionLimit; decide)); (case ku => first | ktr_units | (show _ < cLine; decide))); intro v9 h9 tk9 F9 N9 p9; (try k_sweep); first | (rw [if_pos (by with_reducible assumption)] at p9; obtain ⟨_, e9⟩ := p9; subst e9) | (rw [if_neg (by with_reducible assumption)] at p9; obtain ⟨_, e9⟩ := p9; subst e9)))

local macro_rules | `(tactic| walk_at "call ref") => `(tactic| ((with_reducible show wpAny _ _ (call (Value.ref 173) [Value.str (Txt.mul _ _) _, Value.none]) _ _ _); k_dflt (refine' ConT.use w_told_long ?k1 ?k2 ?k3 ?k4 ?k5 ?kK ?kd ?ku ?_; (case k1 => k_asm); (case k2 => k_asm); (case k3 => k_asm); (case k4 => k_asm); (case k5 => k_asm); (case kK => first | exact rfl | assumption); (case kd => first | ktr_room | (show _ < recursionLimit; decide)); (case ku => first | ktr_units | (show _ < cLine; decide))); intro v9 h9 tk9 F9 N9 p9; (try k_sweep); obtain ⟨_, e9⟩ := p9; subst e9))
local macro_rules | `(tactic| walk_at "call ref") => `(tactic| ((with_reducible show wpAny _ _ (call (Value.ref 173) [Value.int _ _, Value.none]) _ _ _); k_dflt (refine' ConT.use c_told_int ?k1 ?k2 ?k3 ?k4 ?k5 ?kK ?kd ?ku ?_; (case k1 => k_asm); (case k2 => k_asm); (case k3 => k_asm); (case k4 => k_asm); (case k5 => k_asm); (case kK => first | exact rfl | assumption); (case kd => first | ktr_room | (show _ < recursionLimit; decide)); (case ku => first | ktr_units | (show _ < cLine; decide))); intro v9 h9 tk9 F9 N9 p9; (try k_sweep); obtain ⟨_, e9⟩ := p9; subst e9))
local macro_rules | `(tactic| walk_at "call ref") => `(tactic| ((with_reducible show wpAny _ _ (call (Value.ref 173) [Value.str (PySem.Str.ofString "١") _, Value.none]) _ _ _); k_dflt (refine' ConT.use c_told_uni ?k1 ?k2 ?k3 ?k4 ?k5 ?kK ?kd ?ku ?_; (case k1 => k_asm); (case k2 => k_asm); (case k3 => k_asm); (case k4 => k_asm); (case k5 => k_asm); (case kK => first | exact rfl | assumption); (case kd => first | ktr_room | (show _ < recursionLimit; decide)); (case ku => first | ktr_units | (show _ < cLine; decide))); intro v9 h9 tk9 F9 N9 p9; (try k_sweep); obtain ⟨_, e9⟩ := p9; subst e9))
theorem law_holds : PySem.Challenge.rw_ez0011_01.Holds := hd (by
  k_fill
  intro w s₀ s₁ mg mb G Y fa o pm cd doc dV kV ho hd hcd hD hmg hg args vals as hpre hlay hrd hwl hlo
  have KX := kIn_of Y
  have X := (Ground.X G).1
  have V := (Ground.X G).2
  try w_nolog (first | (have GL := glob_more (Ground.glob G (by first | k_qdec | decide +kernel) (by first | k_qdec | decide +kernel)) V) | (have GL := glob_more (Ground.glob G (by decide +kernel)) V))
  refine Ground.open G ?_
  intro T B D TE TW
  try (refine guard_noD D (by decide +kernel) ?_; clear D)
  obtain ⟨_, _, M⟩ := bmod_of_top T
  have TA := at_of_top T
  try (obtain ⟨_, _, he, B0⟩ := based_of_top T rfl hmg ho hd; have he' : cd = _ := he; subst he'; clear he)
  clear hmg
  wrow_args hpre hlay hrd hwl hlo
  refine enter_callC ?_
  w_top on
  refine codeC_mono ?_ (fun _ _ g => GoodW.toG g)
  have K0 := below_caller (Top.heap T)
  (have he := Dflts.none hD rfl; subst he; have he := Dflts.noKw hD; subst he)
  refine codeC_call_cellsN (by decide) ho (fd_plain hd) (Top.nolimit T) hcd rfl (kinds_of (by kinds_ok)) (by decide) fun h₁ tk₁ cells F N0 X0 => ?_
  cells_open X0
  clear hd TA
  k_drop
  (all_goals try k_fold)
  refine execs_cons_C (wpC_mono (Q := Mid0 s₁) (wpC_of_any ?_) ?_ fun _ _ e => e)
  · k_steps
    (try dsimp only)
    with_reducible rename Fr _ _ _ _ => F₂
    with_reducible rename News _ _ _ _ => N₂
    unfold Mid0
    refine ⟨rfl, _, _, _, _, _, _, _, _, _, _, _, rfl, F₂, N₂, by with_reducible assumption, by with_reducible assumption, by with_reducible assumption, ?_, by with_reducible assumption, ?_, ?_⟩
    · simp only [List.length_take]; omega
    · omega
    · omega
  clear F N0 X0
  intro f s' hM
  unfold Mid0 at hM
  obtain ⟨rfl, h', tk, m', o2, o1, ol, v0, D0, D1, ys, zs, rfl, F₁, N₁, d1, d2, hI, hz, o1', l1, l2⟩ := hM
  dsimp only
  refine execs_cons_C (wpC_mono (Q := MidA s₁) (wpC_of_any ?_) ?_ fun _ _ e => e)
  · k_steps
    all_goals (try dsimp only)
    all_goals with_reducible rename Fr _ _ _ _ => F₂
    all_goals with_reducible rename News _ _ _ _ => N₂
    all_goals unfold MidA
    · refine ⟨rfl, _, _, _, _, _, _, _, _, _, _, _, _, rfl, F₂, N₂, by with_reducible assumption, by with_reducible assumption, by with_reducible assumption, ?_, abs_nonneg _ _, by with_reducible assumption, ?_, ?_⟩
      · simp only [List.length_map]; omega
      · omega
      · omega
    · refine ⟨rfl, _, _, _, _, _, _, _, _, _, _, _, _, rfl, F₂, N₂, by with_reducible assumption, by with_reducible assumption, by with_reducible assumption, ?_, Int.le_refl 0, by with_reducible assumption, ?_, ?_⟩
      · simp only [List.length_map]; omega
      · omega
      · omega
  clear F₁ N₁ d1 hI hz o1' l1 l2 ys zs d2
  clear o1 ol o2 v0 D0 D1 h' tk m'
  intro f s' hM
  unfold MidA at hM
  obtain ⟨rfl, h', tk, m', o2, o1, ol, hv, t, D0, D1, ys, zs, rfl, F₁, N₁, d1, d2, hI, hz, hv0, o1', l1, l2⟩ := hM
  dsimp only
  refine execs_cons_C (wpC_mono (Q := MidB s₁) (wpC_of_any ?_) ?_ fun _ _ e => e)
  · k_steps
    all_goals (try dsimp only)
    with_reducible rename Fr _ _ _ _ => F₂
    with_reducible rename News _ _ _ _ => N₂
    unfold MidB
    refine ⟨rfl, _, _, _, _, _, _, _, _, rfl, F₂, fun p hp => N₂ p (List.Mem.tail _ (List.Mem.tail _ (List.Mem.tail _ (by rcases List.mem_singleton.mp hp with rfl; exact List.Mem.head _)))), d2, if_pos rfl, ?_, hv0⟩
    rw [byteArr_size, List.length_map, rangeKs_length]
    split <;> omega
  clear F₁ N₁ hI hz d1 o1' l1 l2 ys zs d2 hv0
  clear o1 ol o2 hv t D0 D1 h' tk m'
  intro f s' hM
  unfold MidB at hM
  obtain ⟨rfl, h', tk, m', o2, hv, t, t', b, rfl, F₁, N₁, d2, hmb, hb, hv0⟩ := hM
  dsimp only
  have F₂ := over F₁ (x := Str.ofString "octets") hmb
  clear F₁ hmb
  (try k_fold)
  w_top off
  have LT := lawText_ok hb
  have hAsc := LT.ascii
  have hLen := LT.hi
  have hPos := LT.pos
  clear LT
  have hne1 : ((asciiOf (lawText b)).toList != (asciiOf (lawText b)).toList) = false := by simp
  have hne2 : (b.toList != b.toList) = false := by simp
  refine execs_any ?_
  walk_at "mine steps"
  (try dsimp only)
  refine execs_cons_C (If_C (isTrue_or_C (isTrue_Compare1_C (CallName_C ?_))))
  walk_at "mine steps"
  refine callWith_K_C (by k_asm) (by k_is) ?_
  walk_at "mine steps"
  refine' ConC.use (w_encode hb) ?k1 ?k2 ?k3 ?k4 ?k5 ?kK ?kd ?ku ?_
  (case k1 => k_asm)
  (case k2 => k_asm)
  (case k3 => k_asm)
  (case k4 => k_asm)
  (case k5 => k_asm)
  (case kK => exact rfl)
  (case kd => first | ktr_room | (show _ < recursionLimit; decide))
  (case ku => first | ktr_units | (show _ < cLine; decide))
  rintro v9 h9 tk9 F9 N9 ⟨t9, rfl⟩
  walk_at "mine steps"
  refine wpC_of_any (wpAny_execs_nil ?_)
  (try dsimp only)
  refine wpC_of_any ?_
  walk_at "mine steps"
  with_reducible rename Fr _ _ _ _ => F₁
  with_reducible rename News _ _ _ _ => N₁
  refine forM s₁.heap (by rfl) (by rfl) ?_
  walk_at "mine steps"
  with_reducible rename Fr _ _ _ _ => F₂
  with_reducible rename News _ _ _ _ => N₂
  have hS : ∀ l u, IsAscii (Txt.slice (lawText b) l u) ∧ (Txt.slice (lawText b) l u).length ≤ 50 := fun l u => ⟨ascii_slice hAsc l u, Nat.le_trans (PyProof.Txt.length_slice_le _ l u) hLen⟩
  have hR : ∀ st : Int × Tok, st.1 ≠ 0 → IsAscii (Txt.sliceBy (lawText b) none none st) ∧ (Txt.sliceBy (lawText b) none none st).length ≤ 50 := fun st h0 => ⟨ascii_sliceBy hAsc _ _ st, Nat.le_trans (Txt.sliceBy_le _ _ _ st h0) hLen⟩
  have hsg := ascii_item ascii_figures ((hv.fdiv 64).fmod 62)
  refine iterTup (news := []) (fun _ _ news => news = []) (by rfl) ⟨_, (N₂ _ (List.Mem.head _)).1, rfl, _, rfl⟩ (N₂ _ (List.Mem.head _)).2.1 (fun p hp => nomatch hp) F₂ News.nil rfl ?_ ?_
  · intro i v m₁ news₁ h tk own hi hv9 hadr hoff hJ F₃ N₃
    have hT : Turned v := by
      refine five ?_ ?_ ?_ ?_ ?_ i v hv9
      · refine ⟨_, _, rfl, ascii_append (ascii_append (hS _ _).1 hsg) (hS _ _).1, ?_⟩
        have h1 := (hS none (some ((hv.fdiv 2).fmod ↑(lawText b).length))).2
        have h2 := (hS (some ((hv.fdiv 2).fmod ↑(lawText b).length + 1)) none).2
        rw [str_append_length, str_append_length]
        omega
      · refine ⟨_, _, rfl, ascii_append (ascii_append (hS _ _).1 hsg) (hS _ _).1, ?_⟩
        have h1 := (hS none (some ((hv.fdiv 2).fmod ↑(lawText b).length))).2
        have h2 := (hS (some ((hv.fdiv 2).fmod ↑(lawText b).length)) none).2
        rw [str_append_length, str_append_length]
        omega
      · refine ⟨_, _, rfl, ascii_append (hS _ _).1 (hS _ _).1, ?_⟩
        have h1 := (hS none (some ((hv.fdiv 2).fmod ↑(lawText b).length))).2
        have h2 := (hS (some ((hv.fdiv 2).fmod ↑(lawText b).length + 1)) none).2
        rw [str_append_length]
        omega
      · refine ⟨_, _, rfl, ascii_append ascii_one hAsc, ?_⟩
        rw [str_append_length]
        have : (Str.ofString "1").length = 1 := by decide +kernel
        omega
      · exact ⟨_, _, rfl, (hR (-1, _) (by show (-1 : Int) ≠ 0; decide)).1, Nat.le_trans (hR (-1, _) (by show (-1 : Int) ≠ 0; decide)).2 (by decide)⟩
    clear hv9 hS hR hsg F₂ N₂
    obtain ⟨y, ty, rfl, hy, hyl⟩ := hT
    have hJ' : news₁ = [] := hJ
    subst hJ'
    rw [List.nil_append] at N₃
    clear hJ hadr hoff
    have hz2 := decoded_size_le (b := asciiOf y) (by rw [asciiOf_size]; omega)
    cases hs : allSigns y with
    | false =>
      have hs' : ¬ allSigns y = true := by rw [hs]; decide
      have hdue : ¬ isDue y = true := by unfold isDue; rw [hs]; simp
      walk_at "mine steps"
      with_reducible rename Fr _ _ _ _ => F₉
      with_reducible rename News _ _ _ _ => N₉
      exact endE (nx := []) F₉ N₉ (fun _ hp => nomatch hp) (fun _ hp => hp) rfl rfl
    | true =>
      by_cases hd4 : (decoded (asciiOf y)).size < 4
      · have hdue : ¬ isDue y = true := by
          unfold isDue
          rw [hs, decide_eq_false (show ¬ 4 ≤ (decoded (asciiOf y)).size by omega)]
          simp
        walk_at "mine steps"
        with_reducible rename Fr _ _ _ _ => F₉
        with_reducible rename News _ _ _ _ => N₉
        exact endE (nx := []) F₉ N₉ (fun _ hp => nomatch hp) (fun _ hp => hp) rfl rfl
      · cases hc : ((KBy.picked (decoded (asciiOf y)) (some (-4)) none).toList != (KBy.picked (hashed (KBy.picked (decoded (asciiOf y)) none (some (-4)))) none (some 4)).toList) with
        | true =>
          have hdue : ¬ isDue y = true := by
            unfold isDue
            rw [hc]
            simp
          have heq : ((KBy.picked (hashed (KBy.picked (decoded (asciiOf y)) none (some (-4)))) none (some 4)).toList == (KBy.picked (decoded (asciiOf y)) (some (-4)) none).toList) = false := by
            have h1 := bne_iff_ne.mp hc
            exact beq_eq_false_iff_ne.mpr (Ne.symm h1)
          walk_at "mine steps"
          with_reducible rename Fr _ _ _ _ => F₉
          with_reducible rename News _ _ _ _ => N₉
          exact endE (nx := []) F₉ N₉ (fun _ hp => nomatch hp) (fun _ hp => hp) rfl rfl
        | false =>
          have hdue : isDue y = true := by
            unfold isDue
            rw [hs, hc, decide_eq_true (show 4 ≤ (decoded (asciiOf y)).size by omega)]
            decide
          have heq : ((KBy.picked (hashed (KBy.picked (decoded (asciiOf y)) none (some (-4)))) none (some 4)).toList == (KBy.picked (decoded (asciiOf y)) (some (-4)) none).toList) = true := by
            have h1 : ¬ _ := fun h => by rw [bne_iff_ne.mpr h] at hc; cases hc
            exact beq_iff_eq.mpr (Classical.not_not.mp h1).symm
          have hself : ((KBy.picked (decoded (asciiOf y)) none (some (-4))).toList != (KBy.picked (decoded (asciiOf y)) none (some (-4))).toList) = false := by simp
          walk_at "mine steps"
          with_reducible rename Fr _ _ _ _ => F₉
          with_reducible rename News _ _ _ _ => N₉
          exact endE (nx := []) F₉ N₉ (fun _ hp => nomatch hp) (fun _ hp => hp) rfl rfl
  · rintro m₁ news₁ h tk hJ F₃ N₃
    have hJ' : news₁ = [] := hJ
    subst hJ'
    clear hS hR hsg F₂ N₂ hJ
    walk_at "mine steps")
end Mine
end
theorem PySem.Challenge.cw_ez0011_01_holds : PySem.Challenge.rw_ez0011_01.Holds := by
  exact Mine.law_holds
