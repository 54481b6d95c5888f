import PyProof.Rows.All
import Wide.All
import OpenK.AllK
import Wide.FinOn
import PySem.Challenge.RW_oy0011_01

set_option Elab.async false

section
open PySem PySem.W PyProof.Rows PySem.Calls
open PySem.Sem (wp)
set_option maxRecDepth 100000
namespace Mine

/-! A call whose stack bears no built-in that holds a bytearray's memory. -/
noncomputable def okId (id : String) : Bool :=
  !(["bytearray.__contains__", "bytearray.__mod__", "bytearray.__rmod__", "_struct.pack_into.held", "bytearray.find.held"].contains id) && !Builtin.Bytes.decodersThatHold.contains id
noncomputable def okCode : Code → Bool
  | .builtin id _ => okId id
  | _ => true
def CleanB (Γ : Ctx) : Prop := ∀ x ∈ Γ.below, okCode x.1 = true
def Clean (Γ : Ctx) : Prop := okCode Γ.code = true ∧ CleanB Γ

def wpC {α : Type} (M : Model) (A : Around) (t : Sem α) (Q : α → Shared → Prop) (E : Value → Shared → Prop) (s : Shared) : Prop :=
  ∀ Γ p, Γ.In A → Clean Γ → wp M Γ t (fun a _ s' => Q a s') (fun e _ s' => E e s') p s
def codeC (M : Model) (A : Around) (c : Code) (R : Result → Shared → Prop) (s : Shared) : Prop :=
  ∀ Γ p, Γ.code = c → Γ.Below A → CleanB Γ → wpCode M Γ R p s

section
variable {α β : Type} {M : Model} {A : Around} {E : Value → Shared → Prop} {s : Shared}
theorem wpC_of {t : Sem α} {Q : α → Shared → Prop} (h : wpAny M A t Q E s) : wpC M A t Q E s := fun Γ p hΓ _ => h Γ p hΓ
theorem codeC_of {c : Code} {R : Result → Shared → Prop} (h : codeAny M A c R s) : codeC M A c R s := fun Γ p hc hΓ _ => h Γ p hc hΓ
theorem wpC_pure {a : α} {Q : α → Shared → Prop} (h : Q a s) : wpC M A (pure a) Q E s := fun _ _ _ _ => h
theorem wpC_mono {t : Sem α} {Q Q' : α → Shared → Prop} {E' : Value → Shared → Prop} (h : wpC M A t Q E s)
    (hQ : ∀ a s, Q a s → Q' a s) (hE : ∀ e s, E e s → E' e s) : wpC M A t Q' E' s :=
  fun Γ p hΓ hk => Sem.wp_mono M Γ t (fun a _ s => hQ a s) (fun e _ s => hE e s) p s (h Γ p hΓ hk)
theorem wpC_bind {m : Sem α} {f : α → Sem β} {Q : β → Shared → Prop} (h : wpC M A m (fun a s' => wpC M A (f a) Q E s') E s) :
    wpC M A (m >>= f) Q E s := fun Γ p hΓ hk => by
  rw [Sem.wp_bind']
  exact Sem.wp_mono M Γ m (fun a p' s' h' => h' Γ p' hΓ hk) (fun _ _ _ h' => h') p s (h Γ p hΓ hk)
theorem wpC_holding {vs : List Value} {m : Sem α} {Q : α → Shared → Prop} (h : wpC M A m Q E s) : wpC M A (holding vs m) Q E s :=
  fun Γ p hΓ hk => by rw [Sem.wp_holding]; exact h Γ p hΓ hk
theorem wpC_keep {vs : List Value} {m : Sem α} {Q : α → Shared → Prop} (h : wpC M A m Q E s) : wpC M A (m.keep vs) Q E s :=
  fun Γ p hΓ hk => by rw [Sem.wp_keep]; exact h Γ p hΓ hk
theorem wpC_onRaise {m : Sem α} {k : Value → Sem Unit} {Q : α → Shared → Prop}
    (h : wpC M A m Q (fun e s' => wpC M A (k e) (fun _ s'' => E e s'') E s') s) : wpC M A (m.onRaise k) Q E s := fun Γ p hΓ hk => by
  rw [Sem.wp_onRaise]
  exact Sem.wp_mono M Γ m (fun _ _ _ h' => h') (fun e p' s' h' => h' Γ p' hΓ hk) p s (h Γ p hΓ hk)
theorem wpC_attempt {m : Sem α} {Q : Except Value α → Shared → Prop} (h : wpC M A m (fun a => Q (.ok a)) (fun e => Q (.error e)) s) :
    wpC M A m.attempt Q E s := fun Γ p hΓ hk => by rw [Sem.wp_attempt]; exact h Γ p hΓ hk
theorem wpC_run {c : Code} {Q : Flow → Shared → Prop}
    (hc : codeC M A c (fun r s' => match r with | .ok f => Q f s' | .error e => E e s') s) :
    wpC M A (run c none) Q E s :=
  fun Γ p hΓ hk => by
    rw [Sem.wp_run]
    exact hc _ p rfl (hΓ.enter c none p (by intro x; cases x)) (fun x hx => by
      cases hx with
      | head => exact hk.1
      | tail _ h => exact hk.2 x h)
theorem wpC_runOwn {c : Code} {env : Env} {Q : Flow → Shared → Prop}
    (hc : codeC M A c (fun r s' => match r with | .ok f => Q f s' | .error _ => False) s) : wpC M A (runOwn c env none) Q E s := by
  unfold runOwn
  refine wpC_onRaise (wpC_run (fun Γ p a b k => wpCode_mono (fun r s' h => ?_) (hc Γ p a b k)))
  cases r with
  | ok f => exact h
  | error e => exact h.elim
theorem wpC_call {f : Value} {pos : List Value} {kw : List (PySem.Str × Value)} {Q : Value → Shared → Prop}
    (hc : codeC M A (.call f ⟨pos, kw⟩) (fun r s' => match r with | .ok (.ret v) => Q v s' | .ok _ => False | .error e => E e s') s) :
    wpC M A (call f pos kw) Q E s := fun Γ p hΓ hk => by
  show wp M Γ (runValue (.call f ⟨pos, kw⟩)) _ _ p s
  rw [Sem.wp_runValue]
  exact hc _ p rfl (hΓ.enter _ none p (by intro x; cases x)) (fun x hx => by
    cases hx with
    | head => exact hk.1
    | tail _ h => exact hk.2 x h)
theorem codeC_mono {c : Code} {R R' : Result → Shared → Prop} (h : codeC M A c R s) (hR : ∀ r s, R r s → R' r s) : codeC M A c R' s :=
  fun Γ p hc hΓ hk => wpCode_mono hR (h Γ p hc hΓ hk)
theorem codeC_of_tree {c : Code} {R : Result → Shared → Prop} (ok : okCode c = true)
    (h : wpC M (A.under c) (M.den c) (fun fin s' => match fin with | .done f => R (.ok f) s' | .again c' => c'.quiet = true ∧ codeC M A c' R s')
      (fun e s' => R (.error e) s') s) : codeC M A c R s := fun Γ p hc hΓ hk => by
  rw [wpCode_iff_wp, hc]
  refine Sem.wp_mono M Γ _ (fun fin p' s' h' => ?_) (fun _ _ _ h' => h') p s (h Γ p (hc ▸ hΓ.in) ⟨hc ▸ ok, hk⟩)
  cases fin with
  | done f => exact h'
  | again c' => exact ⟨h'.1, h'.2 (Γ.goto c') p' rfl (hΓ.goto c') hk⟩
theorem exported_ok {self : Value} {Q : Bool → Shared → Prop} (h : Q false s) : wpC M A (Builtin.Bytes.exported self) Q E s := fun Γ p _ hk => by
  unfold Builtin.Bytes.exported
  show Q (((Γ.code, p) :: Γ.below).any _) s
  have all : ∀ x ∈ ((Γ.code, p) :: Γ.below), okCode x.1 = true := fun x hx => by
    cases hx with
    | head => exact hk.1
    | tail _ h => exact hk.2 x h
  rw [List.any_eq_false.mpr (fun x hx => ?_)]
  · exact h
  · have hx := all x hx
    obtain ⟨c, q⟩ := x
    have e5 : ["bytearray.__contains__", "bytearray.__mod__", "bytearray.__rmod__", "_struct.pack_into.held", "bytearray.find.held"].contains "bytearray.__contains__" = true := by decide
    cases c with
    | builtin id args =>
      simp only [okCode, okId, Bool.and_eq_true, Bool.not_eq_true'] at hx
      split <;> simp_all
    | _ => simp
end
theorem codeC_builtin {prog : Program} {w : World} {A : Around} {R : Result → Shared → Prop} {s : Shared} {id : String} {args : Args} {b : Builtin} (ok : okId id = true) (hb : entryFor table id = some b)
    (h : wpC (model prog w) (A.under (.builtin id args)) (b args)
      (fun fin s' => match fin with | .done f => R (.ok f) s' | .again c' => c'.quiet = true ∧ codeC (model prog w) A c' R s') (fun e s' => R (.error e) s') s) :
    codeC (model prog w) A (.builtin id args) R s := by
  refine codeC_of_tree ok ?_
  show wpC _ _ (match entryFor table id with | some b => b args | none => unsupported ((withoutEnding? id "#data").getD id)) _ _ s
  rw [hb]; exact h
end Mine
end

section
open PySem PySem.W PyProof.Rows PySem.Calls
open PySem.Sem (wp)
set_option maxRecDepth 100000
set_option maxHeartbeats 8000000

/-- the caller's own place bears no such built-in -/
theorem Mine.caller_clean : Mine.Clean (⟨.builtin "claim.caller" {}, none, none, [], none⟩ : Ctx) := ⟨by decide +kernel, fun _ h => nomatch h⟩

theorem Mine.ends_C {prog : Program} {w : World} {t : Sem Fin} {s : Shared} {R : Result → Shared → Prop} (hreg : s.asleep)
    (h : Mine.wpC (model prog w) callerA t (fun fin s' => ∃ f, fin = .done f ∧ (R (.ok f) s' ∧ leftWithCleanup s'.gens = false)) (fun e s' => R (.error e) s' ∧ leftWithCleanup s'.gens = false) s) :
    ∃ n r s' s'', runN (denote table) prog w n s ⟨t, .builtin "claim.caller" {}, default, []⟩ = .halted (outcomeOf r) s' ∧
      schedN (denote table) prog w n (.single s ⟨t, .builtin "claim.caller" {}, default, []⟩) = .halted (outcomeOf r) s' ∧ s'.forget = s''.forget ∧ R r s'' := by
  have q : wp (model prog w) ⟨.builtin "claim.caller" {}, none, none, [], none⟩ t (Sem.finPost (model prog w) ⟨.builtin "claim.caller" {}, none, none, [], none⟩ (fun r s' => R r s' ∧ leftWithCleanup s'.gens = false))
      (fun e _ s' => R (.error e) s' ∧ leftWithCleanup s'.gens = false) default s := by
    refine Sem.wp_mono _ _ t (fun fin p' s' h' => ?_) (fun _ _ _ h' => h') default s (h _ default caller_in Mine.caller_clean)
    obtain ⟨f, rfl, hf⟩ := h'
    exact hf
  obtain ⟨n, r, s₁, s₂, hs, hn, hfo, hR⟩ := wp_halts_full (M := model prog w) (R := R) hreg q
  exact ⟨n, r, s₂, s₁, hn, hs, hfo, hR⟩

abbrev Mine.WalkC (q : Program) (loose : List PySem.Str) (XP : (PySem.Str → Option Value) → Heap → Prop) (YP : World → Heap → Prop) (r : RowW) (d : DefRec) (kwd : List (PySem.Str × Expr)) (run : Value → List Value → Sem Value) : Prop :=
  ∀ (w : World) (s₀ s₁ : Shared) (mg mb : PySem.Str → Option Value), Ground q loose r.records XP w s₀ mg mb s₁.heap → YP w s₁.heap → ∀ (a : Addr) (o : Obj) (pm cd doc dV kV : Value), s₁.heap.get? a = some o →
    o.data = .func { docDef d.name d.params d.body d.scope pm cd doc with defaults := dV, kwdefaults := kV } → s₁.heap.CodeRec cd d.name → Dflts mg s₁.heap d.params kwd dV kV → mg d.name = some (.ref a) → s₁.gens = #[] →
    ∀ (args : List WData) (vals : List Value) (as : List Addr), r.claim.pre args = true → WData.layableAll args = true → ReadsAllW r.records (classAt s₀.heap) s₁.heap vals args as → WellAll w.params s₁.heap vals args → (∀ a ∈ as, (a == sysModules) = false) →
      Mine.wpC (model r.prog w) callerA (run (.ref a) vals) (fun v s' => GoodWG r.claim (classAt s₀.heap) (ExcName.means s₀.heap) args s₁ (.ok (.ret v)) s')
        (fun e s' => GoodWG r.claim (classAt s₀.heap) (ExcName.means s₀.heap) args s₁ (.error e) s') s₁

theorem Mine.PySem.W.holds_open {r : OpenRow} {q : Program} {loose : List PySem.Str} {Xt : Shared → Bool} {XP : (PySem.Str → Option Value) → Heap → Prop} {α : Type} {Yf : Shared → α} {Ya : World → α} {YP : World → Heap → Prop} {d : DefRec} {kwd : List (PySem.Str × Expr)} {N : Nat}
    (left : LeftO r.prog q loose Xt Yf Ya N) (hY : ∀ w s, Yf s = Ya w → YP w s.heap) (hYk : ∀ w h h', YP w h → (∀ b o, h.get? b = some o → h'.get? b = some o) → YP w h')
    (hX : ∀ s, Xt s = true → XP (s.heap.nsMap mainGlobals) s.heap) (hXk : ∀ mg h h', XP mg h → (∀ b o, h.get? b = some o → h'.get? b = some o) → XP mg h')
    (hdef : defOf q r.name = some (d, kwd)) (hp : r.prog.theDef r.name = some (d.params, d.body, d.scope)) (hk : kwWritten? d.params.kwonlyargs d.params.kw_defaults = some kwd) (hRf : ∀ s, Xt s = true → RecFacts r.records s.heap) (hwr : (!r.writes || r.records.isEmpty) = true)
    (k1 : r.wellSaid = true) (ok : (chainsOk q && opensWell r.prog && (frees r.toRowW && r.within.isEmpty)) = true) (hb : r.prog.bare) (hw : r.toRowW.promised)
    (call : Mine.WalkC q loose XP YP r.toRowW d kwd fun f vs => _root_.PySem.call f vs) : r.Holds := by
  refine ⟨k1, hw, ?_⟩
  obtain ⟨ok, k5⟩ := Bool.and_eq_true_iff.mp ok
  obtain ⟨hch, o1⟩ := Bool.and_eq_true_iff.mp ok
  obtain ⟨k5, k6⟩ := Bool.and_eq_true_iff.mp k5
  obtain ⟨hsame, hu, ha, hap, hm⟩ := frees_parts k5
  refine ⟨⟨hb, o1, by show r.makers.map _ = []; rw [hm]; rfl⟩, hw.witness, fun w => ⟨(left.behind hX hch w).1, fun s' hs' => ?_⟩⟩
  obtain ⟨s₀, hf, hg0, s, hT, hz, hgens, hg, G00, y⟩ := (left.behind (XP := fun mg h => XP mg h ∧ RecFacts r.records h) (fun s hs => ⟨hX s hs, hRf s hs⟩) hch w).2 s' hs'
  have G0 : Ground q loose [] XP w s (s.heap.nsMap mainGlobals) (s.heap.nsMap builtinsNs) s.heap := ⟨G00.T, G00.B, G00.D, G00.TE, G00.TD, G00.W, G00.X.1, G00.cls, G00.has, G00.apart, G00.once, G00.K⟩
  have RF := G00.X.2
  have hT' := hT
  refine ⟨s₀, hf, hg0, s, hT, fun n hn => ?_, RF.1, RF.2.1, ?_⟩
  · obtain rfl : n = r.name := by split at hn <;> simp_all
    exact pinned_of_view hg G0 hdef hp hk
  have hgens : s.gens = #[] := Array.eq_empty_of_size_eq_zero (beq_iff_eq.mp hgens)
  have G : Ground q loose r.records XP w s _ _ s.heap := RF.ground G0
  have hi := ident_freeW hu ha hap
  have hwi : r.toRowW.claim.within = [] := List.isEmpty_iff.mp k6
  intro args hpre hlay ord hord
  obtain ⟨⟨vs, s₁⟩, hlaid⟩ := Option.isSome_iff_exists.mp (layAllW_isSome (P := w.params) (ord := ord) G.has args r.args s (pre_splitW hpre).1)
  have keeps := layAllW_keeps _ _ _ hlaid
  have hal := layAllW_rest _ _ _ hlaid
  obtain ⟨as, hrd, hin, hold⟩ := reads_layAllW hord _ _ _ hlaid hlay s₁.heap (fun _ _ e => e)
  have L : Laid r.records w s s₁ args vs as := ⟨⟨ord, hord, hlaid⟩, hrd, hin, hold, keeps, hal.1.trans hgens, hal.2.2.1⟩
  have G₁ := G.keeps hXk keeps
  obtain ⟨a, o, pm, cd, doc, dV, kV, h1, h2, h3, h4, h5⟩ := G₁.fn hdef
  have run := call w s s₁ _ _ G₁ (hYk _ _ _ (hY w s y) keeps) a o pm cd doc dV kV h2 h3 h4 h5 (defOf_name hdef ▸ h1) L.gens args vs as hpre hlay L.reads L.well (L.low G.low)
  obtain ⟨k, res, s', s'', hrun, hsched, hfo, hcase, hos, hkp⟩ := Mine.ends_C (prog := r.prog) (w := w)
    (t := (do match ← nsGet mainNs r.name with
      | some f => do ret (← _root_.PySem.call f vs)
      | none => unsupported "claim.caller:no-such-global")) (s := s₁)
    (R := fun res s' => r.toRowW.claim.Ends s args vs s₁ res s' ∧ s'.os = s.os ∧ (r.writes = true → namesKept r.prog r.keeps s.heap s'.heap ∧ ∀ x ∈ r.records, ∀ a, classAt s.heap x.1 = some a → recordClass s'.heap a x.1 (x.2.map (·.1)) = true))
    (Shared.asleep_of_life hal.2.2.2 hz) (by
      refine Mine.wpC_bind (Mine.wpC_of (wpAny_nsGet G₁.T.g ?_))
      rw [h1]
      refine Mine.wpC_bind (Mine.wpC_mono run (fun v s' g => Mine.wpC_pure ⟨_, rfl, ?_⟩) fun e s' g => ?_)
      · have z := g.laid (c := r.toRowW.claim) hsame hwi hi L
        exact ⟨⟨z.1, z.2.1, fun q => ⟨namesKept_of hT' hg r.keeps keeps g.2.1.old, noTable hwr q⟩⟩, leftWithCleanup_false_of_bare z.2.2⟩
      · have z := g.laid (c := r.toRowW.claim) hsame hwi hi L
        exact ⟨⟨z.1, z.2.1, fun q => ⟨namesKept_of hT' hg r.keeps keeps g.2.1.old, noTable hwr q⟩⟩, leftWithCleanup_false_of_bare z.2.2⟩)
  obtain ⟨eh, _, _, eo, _⟩ := Shared.forget_eq hfo
  have hcase := hcase.congr eh
  rw [← eo] at hos
  rw [← eh] at hkp
  have hlife : s'.heap.life = s.heap.life := (runN_life _ _ _ hrun).trans hal.2.2.2
  refine ⟨vs, s₁, hlaid, k, _, s', hsched, ?_, (fun _ i x hx => by rw [hgens] at hx; simp at hx), hkp, by rw [hlife], Shared.rest_eq hos⟩
  rcases hcase with ⟨v, rfl, d1, d2, d3, d4, d5⟩ | ⟨e, ob, cls, rfl, d1, d2, d3, d4, d5⟩
  · exact .inl ⟨v, rfl, d1, d2, d3, fun b o y _ => d4 b o y, d5⟩
  · exact .inr ⟨e, ob, cls, rfl, d1, d2, d3, d4, fun b o y _ => d5 b o y⟩

namespace Mine
open_top hd for PySem.Challenge.rw_oy0011_01
end Mine
end

section
open PySem PySem.W PyProof.Rows PySem.Calls
open PySem.Sem (wp)
set_option maxRecDepth 100000
set_option maxHeartbeats 4000000
namespace Mine
theorem ba_mro : mroOf (.type "bytearray") = pure [.type "bytearray", .type "object"] := by rw [mroOf_type]; kernel_rfl
theorem ba_lookup_new : typeLookup (.type "bytearray") "__new__" = pure (some (.builtin "bytearray.__new__")) := by rw [typeLookup_type, builtinLookup_eq_fast]; kernel_rfl
theorem ba_slot_init : Slot "bytearray" "__init__" "bytearray.__init__" :=
  .of (owner := "bytearray") (n := "__init__") (by rw [typeLookup_type, builtinLookup_eq_fast]; kernel_rfl) (by decide +kernel) (by decide +kernel) (by decide +kernel)
    (by first | exact .inl (by decide +kernel) | exact .inr (by decide +kernel)) (by rw [isSubtype_type]; kernel_rfl)
theorem ba_called : TypeCalled "bytearray" "bytearray.__new__" "bytearray.__init__" :=
  ⟨by decide +kernel, by decide +kernel, ⟨_, _, ba_mro⟩, madeBy_type ba_mro ba_lookup_new (by decide +kernel), by decide +kernel, by rw [isSubtype_type]; kernel_rfl, ba_slot_init⟩
theorem ba_typeCall (a : Value) : checkTypeCall "bytearray" ⟨[a], []⟩ = pure () := by kernel_rfl
theorem ba_newCall (a : Value) : checkBuiltinCall "bytearray.__new__" ⟨[.type "bytearray", a], []⟩ = pure () := by kernel_rfl
theorem ba_plain : plainId "bytearray.__new__" = true := by decide +kernel
theorem ba_plain_init : plainId "bytearray.__init__" = true := by decide +kernel
theorem ba_entry : entryFor table "bytearray.__new__" = some Builtin.«list.__new__» :=
  entryFor_alias (id' := "list.__new__") (by rw [fastTable_eq_tree]; kernel_rfl) (by first | rfl | decide +kernel) (by decide +kernel) (by rw [fastTable_eq_tree]; kernel_rfl)
theorem ba_owner : ("bytearray.__new__".splitOn ".__new__").headD "" = "bytearray" := by simp +decide [String.splitOn, String.splitOnAux]
theorem ba_entry_init : entryFor table "bytearray.__init__" = some Builtin.«bytearray.__init__» := by first | exact entryFor_of_fast (by kernel_rfl) | exact entryFor_of_tree (by kernel_rfl)
theorem ba_sub : isSubtype (.type "bytearray") (.type "bytearray") = pure true := by rw [isSubtype_type]; kernel_rfl
theorem ba_release : typeLookup (.type "bytearray") "__release_buffer__" = pure (some (.builtin "bytearray.__release_buffer__")) := by rw [typeLookup_type, builtinLookup_eq_fast]; kernel_rfl
theorem ba_buffer : typeLookup (.type "bytearray") "__buffer__" = pure (some (.builtin "bytearray.__buffer__")) := by rw [typeLookup_type, builtinLookup_eq_fast]; kernel_rfl
theorem ba_no_bytes : typeLookup (.type "bytearray") "__bytes__" = pure none := by rw [typeLookup_type, builtinLookup_eq_fast]; kernel_rfl
theorem ba_no_index : typeLookup (.type "bytearray") "__index__" = pure none := by rw [typeLookup_type, builtinLookup_eq_fast]; kernel_rfl
theorem ba_bind (v : Value) : Builtin.Bytes.bindOptional "bytearray.__init__" "bytearray" ["source", "encoding", "errors"] [v] [] = pure [some v, none, none] := by kernel_rfl
theorem ba_argsOk (v : Value) (u : Value) : argsOk "bytearray.__init__" ⟨[v, u], []⟩ := by
  show (match Manifest.signature? "bytearray.__init__" with | some sig => Bind.checkArgs "bytearray.__init__" sig _ | none => pure ()) = pure ()
  kernel_rfl

section
variable {prog : Program} {w : World} {A : Around} {E : Value → Shared → Prop} {s : Shared}
theorem ba_new (a : Value) {Q₁ : Value → Shared → Prop}
    (h : Q₁ (.ref s.heap.objs.size) { s with heap := s.heap.push { cls := .type "bytearray", data := .bytearray #[] } }) :
    codeAny (model prog w) A (.call (.builtin "bytearray.__new__") ⟨[.type "bytearray", a], []⟩) (wants Q₁ E) s := by
  refine codeAny_of_tree ?_
  show wpAny _ A.in1 (do checkBuiltinCall "bytearray.__new__" ⟨[.type "bytearray", a], []⟩; again (.builtin "bytearray.__new__" ⟨[.type "bytearray", a], []⟩)) _ _ s
  refine wpAny_bind (wpAny_of_eq (ba_newCall a) (wpAny_pure ⟨plainId_quiet ba_plain _, codeAny_builtin_stack ba_entry rfl fun p st => ?_⟩))
  rw [Around.under_plainId ba_plain _]
  have hsub := ba_sub
  have hown := ba_owner
  obtain ⟨hp, g, d, tk, os⟩ := s
  simp only [hown]
  wp_walk
  exact h

theorem ba_ownRelease {a : Addr} {b : Array UInt8} {Q : Bool → Shared → Prop} {M : Model} (ho : s.heap.get? a = some { cls := .type "bytearray", data := .bytearray b }) (h : Q false s) :
    wpAny M A (Builtin.Bytes.ownRelease (.ref a)) Q E s := by
  have hT : s.TypeIs (.ref a) "bytearray" := ⟨_, ho, rfl⟩
  unfold Builtin.Bytes.ownRelease Builtin.Bytes.slotIsOwn
  refine wpAny_bind (wpAny_bind (wpAny_specialOf hT ba_release ?_))
  dsimp only
  rw [if_neg (by decide +kernel)]
  refine wpAny_isInstance hT (b := true) ?_ ?_
  · rw [isSubtype_type]; kernel_rfl
  · exact wpAny_pure h

theorem ba_write {a : Addr} {b : Array UInt8} {f : Array UInt8 → Array UInt8} {Q : Unit → Shared → Prop} {M : Model} (ho : s.heap.get? a = some { cls := .type "bytearray", data := .bytearray b })
    (hz : (f b).size ≤ sizeLine) (h : ∀ h', h'.get? a = some { cls := .type "bytearray", data := .bytearray (f b) } → Heap.SameBut a s.heap h' → Q () { s with heap := h' }) :
    wpAny M A (Builtin.Bytes.write (.ref a) f) Q E s := by
  show wpAny M A (updateBytearray a f) Q E s
  unfold updateBytearray
  refine wpAny_bind (wpAny_load ho ?_)
  show wpAny _ _ (update a (Obj.mapBytearray f) >>= fun _ => lookBehind a) _ _ _
  refine wpAny_bind (wpAny_update ho ?_)
  have hS₂ : (s.heap.update a (Obj.mapBytearray f)).get? a = some { cls := .type "bytearray", data := .bytearray (f b) } := Heap.get?_update_self (Obj.mapBytearray f) ho rfl
  refine wpAny_lookBehind hS₂ ?_ (h _ hS₂ (Heap.SameBut.update ..))
  show (if (f b).size > sizeLine then some "bytearray:memory" else none) = none
  rw [if_neg (Nat.not_lt.mpr hz)]
end
end Mine
end

section
open PySem PySem.W PyProof.Rows PySem.Calls
open PySem.Sem (wp)
set_option maxRecDepth 100000
set_option maxHeartbeats 4000000
namespace Mine
section
variable {prog : Program} {w : World} {A : Around} {E : Value → Shared → Prop} {s : Shared}
theorem wpC_if_false {α : Type} {M : Model} {c : Bool} {a b : Sem α} {Q : α → Shared → Prop} (hc : c = false) (h : wpC M A b Q E s) : wpC M A (if c = true then a else b) Q E s := by
  subst hc; exact h
theorem wpC_if_true {α : Type} {M : Model} {c : Bool} {a b : Sem α} {Q : α → Shared → Prop} (hc : c = true) (h : wpC M A a Q E s) : wpC M A (if c = true then a else b) Q E s := by
  subst hc; exact h
theorem ba_init {a : Addr} {n : Nat} {t : Tok} {Q : Shared → Prop} (ho : s.heap.get? a = some { cls := .type "bytearray", data := .bytearray #[] }) (h0 : 0 < n) (hn : n ≤ sizeLine)
    (h : ∀ h', h'.get? a = some { cls := .type "bytearray", data := .bytearray (Array.replicate n 0) } → Heap.SameBut a s.heap h' → Q { s with heap := h' }) :
    wpC (model prog w) A (Builtin.«bytearray.__init__» ⟨[.ref a, .int n t], []⟩) (fun fin s' => fin = .done (.ret .none) ∧ Q s') E s := by
  unfold Builtin.«bytearray.__init__»
  dsimp only
  refine wpC_bind (wpC_of (ba_ownRelease ho ?_))
  rw [if_neg (by decide)]
  refine wpC_bind (wpC_of (wpAny_of_eq (ba_bind _) ?_))
  dsimp only
  refine wpC_bind (wpC_of (wpAny_of_eq (a := ()) rfl ?_))
  refine wpC_bind (wpC_of (wpAny_of_eq (a := ()) rfl ?_))
  refine wpC_bind ?_
  unfold orM
  refine wpC_bind (exported_ok ?_)
  show wpC _ _ (do let x ← Builtin.Bytes.exportsOf (.ref a); pure (decide (x > 0))) _ _ _
  refine wpC_bind (wpC_of ?_)
  unfold Builtin.Bytes.exportsOf
  refine wpAny_bind (wpAny_load ho ?_)
  refine wpAny_pure (wpC_pure ?_)
  rw [if_neg (by decide)]
  refine wpC_bind (wpC_of (ba_write ho (Nat.zero_le _) fun h₁ hg₁ hs₁ => ?_))
  have e1 : asStr? (.int (n : Int) t) = pure none := rfl
  rw [e1, pure_bind]
  rw [if_neg (by decide), if_neg (by decide)]
  rw [if_neg (by decide)]
  rw [pure_bind]
  refine wpC_bind ?_
  refine wpC_of ?_
  refine wpAny_specialOf (T := "int") (r := some (.builtin "int.__index__")) ?x1 ?x2 ?x3
  case x1 => exact typeIs_int _ _ _
  case x2 => exact F.slot_int_index.lookup
  rw [if_pos (by decide)]
  have e2 : asIndex (.int (n : Int) t) = pure (n : Int) := rfl
  rw [e2]
  refine wpC_bind ?_
  refine wpC_attempt ?_
  refine wpC_pure ?_
  dsimp only
  have hz : n ≤ 16777216 := by rw [sizeLine_eq] at hn; exact hn
  have b1 : Builtin.Bytes.fitsIndex (n : Int) = true := by
    unfold Builtin.Bytes.fitsIndex
    simp only [Bool.and_eq_true, decide_eq_true_eq]
    omega
  have b2 : Builtin.Bytes.tooLong (n : Int).toNat = false := by
    unfold Builtin.Bytes.tooLong
    simp only [Int.toNat_natCast, decide_eq_false_iff_not, Nat.not_lt]
    exact hn
  rw [b1]
  rw [if_neg (by decide), if_neg (by omega)]
  rw [if_neg (by simp only [beq_iff_eq]; omega)]
  rw [b2]
  rw [if_neg (by decide)]
  refine wpC_bind (wpC_of (wpAny_rule ?_))
  rw [if_pos (by omega)]
  refine wpC_bind (wpC_of (ba_write hg₁ (by simp only [Array.size_replicate, Int.toNat_natCast]; exact hn) fun h₂ hg₂ hs₂ => ?_))
  exact wpC_pure ⟨rfl, h h₂ hg₂ (hs₁.trans hs₂)⟩

theorem ba_call {n : Nat} {t : Tok} {Q : Value → Shared → Prop} (h0 : 0 < n) (hn : n ≤ sizeLine)
    (h : ∀ h', (∀ b o, s.heap.get? b = some o → h'.get? b = some o) → h'.get? s.heap.objs.size = some { cls := .type "bytearray", data := .bytearray (Array.replicate n 0) } →
      Q (.ref s.heap.objs.size) { s with heap := h' }) :
    wpC (model prog w) A (call (.type "bytearray") [.int n t]) Q E s := by
  refine wpC_call (codeC_of_tree rfl ?_)
  show wpC _ _ (callAny (.type "bytearray") _) _ _ _
  refine wpC_pure ⟨Code.quiet_builtin _ (by decide +kernel), codeC_builtin (by decide +kernel) F.entry_type_call ?_⟩
  rw [Around.under_plain (weight_type_call_type "bytearray" [.int n t] []) rfl]
  unfold Builtin.«type.__call__»
  dsimp only
  refine wpC_if_false ba_called.notType ?_
  refine wpC_if_false ba_called.canCreate ?_
  refine wpC_bind (wpC_of (wpAny_of_eq (ba_typeCall _) ?_))
  refine wpC_bind (wpC_of (wpAny_of_eq ba_mro ?_))
  refine wpC_if_false rfl ?_
  refine wpC_bind (wpC_of (wpAny_of_eq ba_called.made ?_))
  dsimp only
  refine wpC_bind (wpC_pure ?_)
  refine wpC_bind (wpC_of (wpAny_holding (wpAny_call (codeAny_mono (ba_new (E := E) _ (Q₁ := fun v s' => v = .ref s.heap.objs.size ∧ s' = { s with heap := s.heap.push { cls := .type "bytearray", data := .bytearray #[] } }) ⟨rfl, rfl⟩) fun r s₁ hr => ?_))))
  cases r with
  | error e => exact hr
  | ok fl =>
    cases fl with
    | ret obj =>
      obtain ⟨rfl, rfl⟩ := hr
      have ho : (s.heap.push { cls := .type "bytearray", data := .bytearray #[] }).get? s.heap.objs.size = some { cls := .type "bytearray", data := .bytearray #[] } := Heap.get?_push_size _ rfl
      have hT : ({ s with heap := s.heap.push { cls := .type "bytearray", data := .bytearray #[] } } : Shared).TypeIs (.ref s.heap.objs.size) "bytearray" := ⟨_, ho, rfl⟩
      refine wpC_bind (wpC_of (wpAny_isInstance hT ba_sub ?_))
      refine wpC_if_false rfl ?_
      refine wpC_bind (wpC_holding ?_)
      unfold callSpecial?
      refine wpC_bind (wpC_of (wpAny_specialOf hT ba_slot_init.lookup ?_))
      refine wpC_holding ?_
      refine wpC_bind (wpC_of (wpAny_of_eq (ba_slot_init.bind _) ?_))
      refine wpC_bind (wpC_call (codeC_of_tree rfl ?_))
      show wpC _ A.in1.in1 (do checkBuiltinCall "bytearray.__init__" ⟨[.ref s.heap.objs.size, .int n t], []⟩; again (.builtin "bytearray.__init__" ⟨[.ref s.heap.objs.size, .int n t], []⟩)) _ _ _
      refine wpC_bind (wpC_of (ba_slot_init.check _ _ _ _ _ _ _ _ hT (ba_argsOk _ _) ?_))
      refine wpC_pure ⟨plainId_quiet ba_plain_init _, codeC_builtin (by decide +kernel) ba_entry_init ?_⟩
      rw [Around.under_plainId ba_plain_init _]
      refine wpC_mono (ba_init (Q := fun s' => Q (.ref s.heap.objs.size) s') ho h0 hn fun h' hg hs => h h' (fun b o e => ?_) hg) (fun fin s' hf => ?_) (fun _ _ x => x)
      · exact hs.extBut b o (Nat.ne_of_lt (Heap.lt_size e)) (Heap.get?_push_of_some _ e)
      · obtain ⟨rfl, hq⟩ := hf
        exact wpC_pure (wpC_if_false rfl (wpC_pure hq))
    | _ => exact hr.elim
end
end Mine
end

section
open PySem PySem.W PyProof.Rows PySem.Calls
open PySem.Sem (wp)
set_option maxRecDepth 100000
set_option maxHeartbeats 4000000
namespace Mine
theorem ba_slot_setitem : Slot "bytearray" "__setitem__" "bytearray.__setitem__" :=
  .of (owner := "bytearray") (n := "__setitem__") (by rw [typeLookup_type, builtinLookup_eq_fast]; kernel_rfl) (by decide +kernel) (by decide +kernel) (by decide +kernel)
    (by first | exact .inl (by decide +kernel) | exact .inr (by decide +kernel)) (by rw [isSubtype_type]; kernel_rfl)
theorem ba_entry_setitem : entryFor table "bytearray.__setitem__" = some Builtin.«bytearray.__setitem__» := by first | exact entryFor_of_fast (by kernel_rfl) | exact entryFor_of_tree (by kernel_rfl)
theorem ba_args_setitem (a b c : Value) : argsOk "bytearray.__setitem__" ⟨[a, b, c], []⟩ := by
  show (match Manifest.signature? "bytearray.__setitem__" with | some sig => Bind.checkArgs "bytearray.__setitem__" sig _ | none => pure ()) = pure ()
  kernel_rfl
section
variable {prog : Program} {w : World} {A : Around} {E : Value → Shared → Prop} {s : Shared}
theorem ba_setItem {a : Addr} {b : Array UInt8} {k v : Nat} {t u : Tok} {Q : Unit → Shared → Prop} (ho : s.heap.get? a = some { cls := .type "bytearray", data := .bytearray b })
    (hk : k < b.size) (hb : b.size ≤ 1000) (hv : v < 256)
    (h : ∀ h', h'.get? a = some { cls := .type "bytearray", data := .bytearray (b.setIfInBounds k v.toUInt8) } → Heap.SameBut a s.heap h' → Q () { s with heap := h' }) :
    wpAny (model prog w) A (setItem (.ref a) (.int k t) (.int v u)) Q E s := by
  have hT : s.TypeIs (.ref a) "bytearray" := ⟨_, ho, rfl⟩
  unfold setItem
  refine wpAny_holding ?_
  refine wpAny_bind (wpAny_sequenceKey hT (by decide) ?_)
  refine wpAny_bind (wpAny_callSpecial?_slot (name := Str.ofString "__setitem__") hT ba_slot_setitem
    (wpAny_call_entry ba_slot_setitem hT ba_entry_setitem ?_ (ba_args_setitem _ _ _)))
  unfold Builtin.«bytearray.__setitem__»
  dsimp only
  rw [if_neg (by decide)]
  refine wpAny_bind ?_
  unfold Builtin.Bytes.subscript?
  refine wpAny_bind ?_
  refine wpAny_specialOf (T := "int") (r := some (.builtin "int.__index__")) ?x1 ?x2 ?x3
  case x1 => exact typeIs_int _ _ _
  case x2 => exact F.slot_int_index.lookup
  rw [if_neg (by decide)]
  have e2 : asIndex (.int (k : Int) t) = pure (k : Int) := rfl
  rw [e2, pure_bind]
  have b1 : Builtin.Bytes.fitsIndex (k : Int) = true := by
    unfold Builtin.Bytes.fitsIndex
    simp only [Bool.and_eq_true, decide_eq_true_eq]
    omega
  rw [b1]
  rw [if_neg (by decide)]
  refine wpAny_pure ?_
  dsimp only
  refine wpAny_bind ?_
  unfold Builtin.Bytes.byteValue
  have e3 : asIndex (.int (v : Int) u) = pure (v : Int) := rfl
  rw [e3, pure_bind]
  refine bm_if_false (by simp only [Bool.or_eq_false_iff, decide_eq_false_iff_not]; omega) ?_
  refine wpAny_pure ?_
  refine wpAny_bind ?_
  unfold Builtin.Bytes.payload Builtin.Bytes.payload?
  refine wpAny_bind (wpAny_bind (wpAny_load ho ?_))
  refine wpAny_pure (wpAny_pure ?_)
  have hi : seqIndex? (k : Int) b.size = some k := by
    unfold seqIndex?
    simp only [show ¬ ((k : Int) < 0) from by omega, if_false, Int.toNat_natCast]
    simp [hk]
  rw [hi]
  dsimp only
  refine wpAny_bind (ba_write ho (by simp only [Array.size_setIfInBounds]; rw [sizeLine_eq]; omega) fun h' hg hs => ?_)
  first
    | exact wpAny_bind (wpAny_pure (wpAny_pure ⟨.none, rfl, wpAny_pure (h _ hg hs)⟩))
    | exact wpAny_pure ⟨.none, rfl, wpAny_pure (h _ hg hs)⟩
theorem bytes_ba {a : Addr} {b : Array UInt8} {Q : Value → Shared → Prop} (ho : s.heap.get? a = some { cls := .type "bytearray", data := .bytearray b }) (hb : b.size ≤ 1000)
    (h : Q (.bytes b s.toks) { s with toks := s.toks + 1 }) : wpAny (model prog w) A (call (.type "bytes") [.ref a]) Q E s := by
  have hT : s.TypeIs (.ref a) "bytearray" := ⟨_, ho, rfl⟩
  refine callType_codes (Q₁ := fun obj s₁ => s₁.TypeIs obj "bytes" ∧ Q obj s₁) F.bm_called (F.bm_typeCall _) F.entry_object_init ?_ fun obj s₁ h₁ =>
    ⟨h₁.1, F.args_object_init_2 obj _, object_init_meets F.bm_called.init.lookup F.bm_called.made (by decide) prog w A.in1 _ s₁ ⟨h₁.1, rfl, h₁.2⟩⟩
  refine codeAny_of_tree ?_
  show wpAny _ A.in1.in1 (do checkBuiltinCall "bytes.__new__" ⟨[.type "bytes", .ref a], []⟩; again (.builtin "bytes.__new__" ⟨[.type "bytes", .ref a], []⟩)) _ _ s
  refine wpAny_bind (wpAny_of_eq (F.bm_newCall _) (wpAny_pure ⟨plainId_quiet F.bm_plain _, codeAny_builtin F.bm_entry ?_⟩))
  rw [Around.under_plainId F.bm_plain _]
  unfold Builtin.«bytes.__new__»
  refine wpAny_bind (wpAny_of_eq (a := true) rfl ?_)
  refine bm_if_false rfl ?_
  refine wpAny_bind (wpAny_of_eq F.bm_sub ?_)
  refine bm_if_false rfl ?_
  refine wpAny_bind (wpAny_of_eq (F.bm_bind _) ?_)
  refine wpAny_bind (wpAny_of_eq (a := ()) rfl ?_)
  refine wpAny_bind (wpAny_of_eq (a := ()) rfl ?_)
  refine bm_if_false rfl ?_
  refine wpAny_bind (wpAny_specialOf hT ba_no_bytes ?_)
  refine wpAny_bind (wpAny_bind ?_)
  show wpAny _ _ (load a >>= _) _ _ _
  refine wpAny_bind (wpAny_load ho ?_)
  refine wpAny_pure (wpAny_pure ?_)
  refine bm_if_false rfl ?_
  refine wpAny_bind (wpAny_specialOf hT ba_no_index ?_)
  refine bm_if_true rfl ?_
  first
    | show wpAny _ _ (Builtin.Bytes.buffer? "bytes.__new__" (.ref a) true >>= _) _ _ _
    | (refine wpAny_bind ?_; show wpAny _ _ (Builtin.Bytes.buffer? "bytes.__new__" (.ref a) true >>= _) _ _ _)
  refine wpAny_bind ?_
  unfold Builtin.Bytes.buffer?
  refine wpAny_bind (wpAny_specialOf hT ba_buffer ?_)
  dsimp only
  refine wpAny_bind ?_
  unfold Builtin.Bytes.slotIsOwn
  refine wpAny_bind (wpAny_specialOf hT ba_buffer ?_)
  dsimp only
  rw [if_neg (by decide +kernel)]
  refine wpAny_isInstance hT (b := true) (by rw [isSubtype_type]; kernel_rfl) ?_
  refine bm_if_false rfl ?_
  refine wpAny_bind (wpAny_specialOf hT ba_buffer ?_)
  refine wpAny_bind (ba_ownRelease ho ?_)
  refine bm_if_false rfl ?_
  refine wpAny_bind ?_
  unfold Builtin.Bytes.payload Builtin.Bytes.payload?
  refine wpAny_bind (wpAny_bind (wpAny_load ho ?_))
  refine wpAny_pure (wpAny_pure ?_)
  refine wpAny_pure ?_
  dsimp only
  refine wpAny_bind (wpAny_rule ?_)
  refine wpAny_bind (wpAny_mkBytes ?_ (by rw [sizeLine_eq]; omega))
  show wpAny _ _ (if (Value.type "bytes" == Value.type "bytes") = true then _ else _) _ _ _
  refine bm_if_true (by decide) ?_
  first
    | exact wpAny_pure ⟨PySem.W.typeIs_bytes _ _ _, h⟩
    | exact wpAny_bind (wpAny_pure (wpAny_pure ⟨PySem.W.typeIs_bytes _ _ _, h⟩))
end
end Mine
end

section
open PySem PySem.W PyProof.Rows PySem.Calls
open PySem.Sem (wp)
set_option maxRecDepth 100000
set_option maxHeartbeats 4000000
namespace Mine
/-- over a clean stack, and nothing is raised -/
abbrev wpN {α : Type} (M : Model) (A : Around) (t : Sem α) (Q : α → Shared → Prop) (s : Shared) : Prop := wpC M A t Q (fun _ _ => False) s
abbrev endN (P : Flow → Shared → Prop) : Result → Shared → Prop := fun r s => match r with | .ok f => P f s | .error _ => False
abbrev codeN (M : Model) (A : Around) (c : Code) (P : Flow → Shared → Prop) (s : Shared) : Prop := codeC M A c (endN P) s

section
variable {α β : Type} {M : Model} {A : Around} {E : Value → Shared → Prop} {s : Shared} {env : Env}
theorem wpN_any {t : Sem α} {Q : α → Shared → Prop} (h : wpN M A t Q s) : wpC M A t Q E s := wpC_mono h (fun _ _ x => x) fun _ _ x => x.elim
theorem wpN_of {t : Sem α} {Q : α → Shared → Prop} (h : wpAny M A t Q (fun _ _ => False) s) : wpN M A t Q s := wpC_of h
theorem wpN_on {m : Sem α} {k : Value → Sem Unit} {Q : α → Shared → Prop} (h : wpN M A m Q s) : wpC M A (m.onRaise k) Q E s :=
  wpC_onRaise (wpC_mono h (fun _ _ x => x) fun _ _ x => x.elim)
theorem N_execs_nil {Q : Flow → Shared → Prop} (h : Q .next s) : wpN M A (execs [] env) Q s := fun _ _ _ _ => h
theorem N_execs {st rest} {Q : Flow → Shared → Prop}
    (h : wpN M A (exec st env) (fun f s' => match f with | .next => wpN M A (execs rest env) Q s' | f => Q f s') s) : wpN M A (execs (st :: rest) env) Q s := by
  rw [execs_cons]
  refine wpC_bind (wpC_mono h (fun f s' h' => ?_) fun _ _ x => x)
  cases f with
  | next => exact h'
  | _ => exact wpC_pure h'
theorem N_Assign {x pos' value pos} {Q : Flow → Shared → Prop}
    (h : wpN M A (eval value env) (fun v s₁ => wpN M A (storeName env x v) (fun _ => Q .next) s₁) s)
    (hs : swapsWith value (some (.Name x pos')) pos.line env = pure false := by rfl) :
    wpN M A (exec (.Assign [.Name x pos'] value pos) env) Q s := by
  rw [exec_Assign_Name env x pos' value pos hs]
  refine wpC_bind (wpC_of (wpAny_standAt ?_))
  refine wpC_bind (wpC_mono h (fun v s₁ h₁ => ?_) fun _ _ x => x)
  refine wpC_bind (wpC_of (wpAny_standAt ?_))
  refine wpC_bind (wpC_mono (Q := fun _ => Q .next) ?_ (fun _ _ x => wpC_pure x) fun _ _ x => x)
  exact fun Γ p hΓ hk => by rw [Sem.wp_bindName]; exact h₁ Γ p hΓ hk
theorem N_Return {e pos} {Q : Flow → Shared → Prop} (h : wpN M A (eval e env) (fun v => Q (.ret v)) s) : wpN M A (exec (.Return (some e) pos) env) Q s := by
  rw [exec_Return_some]
  exact wpC_bind (wpC_of (wpAny_standAt (wpC_bind (wpC_mono h (fun _ _ x => wpC_pure x) fun _ _ x => x))))
theorem N_If {test body orelse pos} {Q : Flow → Shared → Prop}
    (h : wpAny M A (isTrue test env (eval test env)) (fun b s₂ => if b then wpN M A (execs body env) Q s₂ else wpN M A (execs orelse env) Q s₂) (fun _ _ => False) s) :
    wpN M A (exec (.If test body orelse pos) env) Q s := by
  rw [exec_If]
  refine wpC_bind (wpC_of (wpAny_standAt (wpC_bind (wpC_mono (wpC_of h) (fun b s₂ h₂ => ?_) fun _ _ x => x))))
  cases b <;> exact h₂
theorem N_BinOp {l op r pos} {Q : Value → Shared → Prop}
    (h : wpN M A (eval l env) (fun a s₁ => wpN M A (eval r env) (fun b s₂ => wpN M A (binaryOp op a b) Q s₂) s₁) s) : wpN M A (eval (.BinOp l op r pos) env) Q s := by
  rw [eval_BinOp]
  refine wpC_bind (wpC_mono h (fun a s₁ h₁ => ?_) fun _ _ x => x)
  refine wpC_bind (wpC_holding (wpC_mono h₁ (fun b s₂ h₂ => ?_) fun _ _ x => x))
  refine wpC_bind (wpC_of (wpAny_standAt ?_))
  exact fun Γ p hΓ hk => by rw [Sem.wp_operate]; exact h₂ Γ p hΓ hk
theorem N_Call {func : Expr} {args : List Expr} {pos : Pos} {Q : Value → Shared → Prop}
    (h : wpAny M A (eval func env) (fun f s₁ => wpN M A (callWith pos f [] (backTo pos (starEach args env)) []) Q s₁) (fun _ _ => False) s)
    (he : eval (.Call func args [] pos) env = (do callWith pos (← eval func env) [] (backTo pos (starEach args env)) (backToKw pos (keywordEach [] env))) := by rfl) :
    wpN M A (eval (.Call func args [] pos) env) Q s := by
  rw [he]; exact wpC_bind (wpC_of h)
theorem N_args_nil {pos : Pos} {Q : List Value → Shared → Prop} (h : Q [] s) : wpN M A (spliced (backTo pos (starEach [] env))) Q s := wpC_pure h
theorem N_args {e : Expr} {rest : List Expr} {pos : Pos} {Q : List Value → Shared → Prop}
    (h : wpN M A (eval e env) (fun v s₁ => wpN M A (spliced (backTo pos (starEach rest env))) (fun vs s₂ => Q (v :: vs) s₂) s₁) s)
    (he : starEach (e :: rest) env = (false, eval e env) :: starEach rest env := by rfl) : wpN M A (spliced (backTo pos (starEach (e :: rest) env))) Q s := by
  rw [he]
  show wpC M A (do
    let v ← eval e env
    let here ← pure [v]
    return here ++ (← holding here (spliced (backTo pos (starEach rest env))))) Q _ s
  refine wpC_bind (wpC_mono h (fun v s₁ h₁ => ?_) fun _ _ x => x)
  refine wpC_bind (wpC_pure ?_)
  exact wpC_bind (wpC_holding (wpC_mono h₁ (fun _ _ x => wpC_pure x) fun _ _ x => x))
theorem N_callWith {pos : Pos} {f : Value} {e : Expr} {rest : List Expr} {Q : Value → Shared → Prop} {P : Heap → Prop}
    (hk : ∀ h, P h → ∃ k, (k = Keeper.frame ∨ k = Keeper.machine) ∧ Looks M h (keeperOf f) k)
    (h : wpN M A (spliced (backTo pos (starEach (e :: rest) env))) (fun vs s₁ => P s₁.heap ∧ wpN M A (call f vs) Q s₁) s)
    (he : starEach (e :: rest) env = (false, eval e env) :: starEach rest env := by rfl) (hplain : (backTo pos (starEach rest env)).any (·.1) = false := by rfl) :
    wpN M A (callWith pos f [] (backTo pos (starEach (e :: rest) env)) []) Q s := by
  rw [he] at h ⊢
  unfold callWith
  refine wpC_bind (wpC_holding (wpC_mono (Q := fun (a : Args) s₁ => P s₁.heap ∧ wpN M A (call f ([] ++ a.pos) a.kw) Q s₁) ?_ (fun a s₁ h₁ => wpC_bind (wpC_of (wpAny_standAt ?_))) fun _ _ x => x))
  · unfold evalArgs
    show wpC M A (spliced (backTo pos ((false, eval e env) :: starEach rest env)) >>= _) _ _ s
    refine wpC_bind (wpC_mono h (fun vs s₁ h₁ => ?_) fun _ _ x => x)
    refine wpC_bind (wpC_pure ?_)
    refine wpC_holding ?_
    exact wpC_bind (wpC_pure (wpC_bind (wpC_pure (wpC_pure h₁))))
  · obtain ⟨k, hk', L⟩ := hk _ h₁.1
    have hp : ((backTo pos ((false, eval e env) :: starEach rest env)).any (·.1) || ([] : List (Option PySem.Str × Sem Value)).any (·.1.isNone)) = false := by
      show ((false || (backTo pos (starEach rest env)).any (·.1)) || false) = false
      rw [hplain]; rfl
    simp only [hp]
    refine wpC_bind (wpC_of (L.here ?_))
    have tail : ∀ {t : Sem Value}, wpN M A t Q s₁ → wpN M A (t >>= fun r => holding [r] point >>= fun _ => pure r) Q s₁ :=
      fun ht => wpC_bind (wpC_mono ht (fun r s₂ hr => wpC_bind (wpC_holding (wpC_of (wpAny_point (wpC_pure hr))))) fun _ _ x => x)
    have marked (mk : Value) : wpN M A (callMarked mk f ([] ++ a.pos) a.kw) Q s₁ := by unfold callMarked; exact wpC_keep h₁.2
    rcases hk' with rfl | rfl <;> dsimp only <;> first | exact tail h₁.2 | (split <;> first | exact tail h₁.2 | exact tail (marked _))
theorem N_callWithT {pos : Pos} {T : String} {e : Expr} {rest : List Expr} {Q : Value → Shared → Prop}
    (h : wpN M A (spliced (backTo pos (starEach (e :: rest) env))) (fun vs s₁ => wpN M A (call (.type T) vs) Q s₁) s)
    (he : starEach (e :: rest) env = (false, eval e env) :: starEach rest env := by rfl) (hplain : (backTo pos (starEach rest env)).any (·.1) = false := by rfl) :
    wpN M A (callWith pos (.type T) [] (backTo pos (starEach (e :: rest) env)) []) Q s :=
  N_callWith (P := fun _ => True) (fun _ _ => ⟨.machine, .inr rfl, Looks.of_pure rfl⟩) (wpC_mono h (fun _ _ x => ⟨trivial, x⟩) fun _ _ x => x) he hplain
theorem N_callWithK {K : Frag} {pos : Pos} {f : Addr} {e : Expr} {rest : List Expr} {Q : Value → Shared → Prop} (hf : fnIn K f = true)
    (h : wpN M A (spliced (backTo pos (starEach (e :: rest) env))) (fun vs s₁ => K.In s₁.heap ∧ wpN M A (call (.ref f) vs) Q s₁) s)
    (he : starEach (e :: rest) env = (false, eval e env) :: starEach rest env := by rfl) (hplain : (backTo pos (starEach rest env)).any (·.1) = false := by rfl) :
    wpN M A (callWith pos (.ref f) [] (backTo pos (starEach (e :: rest) env)) []) Q s :=
  N_callWith (P := fun h => K.In h) (fun h X => ⟨.frame, .inl rfl, by
    unfold fnIn at hf
    split at hf
    · rename_i q
      exact (Looks.ld (part := none) (X _ _ q)).andThen .now
    · cases hf⟩) h he hplain
theorem N_call {f : Value} {pos : List Value} {Q : Value → Shared → Prop}
    (hc : codeN M A (.call f ⟨pos, []⟩) (fun r s' => match r with | .ret v => Q v s' | _ => False) s) : wpN M A (call f pos) Q s :=
  wpC_call (codeC_mono hc fun r s' h => by
    cases r with
    | error e => exact h
    | ok fl => cases fl <;> exact h)
end

section
variable {prog : Program} {w : World} {A : Around} {s : Shared} {P : Flow → Shared → Prop}
theorem codeN_func {body env}
    (h : wpN (model prog w) (A.deeper env) (execs body env) (fun f s' => P (.ret (match f with | .ret v => v | _ => .none)) s') s) :
    codeN (model prog w) A (.func body env) P s := by
  refine codeC_of_tree rfl ?_
  show wpC _ (A.deeper env) (do point; match ← (execs body env).onRaise (leaving env) with | .ret v => ret v | _ => ret .none) _ _ s
  refine wpC_bind (wpC_of (wpAny_point (wpC_bind (wpN_on (wpC_mono h (fun f s' h' => ?_) fun _ _ h' => h')))))
  cases f <;> exact wpC_pure h'
theorem codeN_call {a : Addr} {args : Args} {o : Obj} {fd : FuncData} {body : List Stmt} (hroom : A.depth < recursionLimit)
    (ho : s.heap.get? a = some o)
    (hd' : o.data = .func fd) (hco : fd.scope.isCoroutine = false) (hgen : fd.scope.isGenerator = false) (hbody : fd.body = .stmts body) (hcd : s.heap.CodeRec fd.code fd.qualname)
    (h : wpAny (model prog w) A.in1 (bindArgs fd args) (fun binds s₁ =>
      wpAny (model prog w) A.in1 (newFunctionEnv fd.scope fd.globals fd.closure binds (fd.qualname ++ ".<locals>.") (some a) fd.code none fd.builtins)
        (fun env s₂ => s₂.heap.NoLimit ∧ codeN (model prog w) A (.func body env) P s₂) (fun _ _ => False) s₁) (fun _ _ => False) s) :
    codeN (model prog w) A (.call (.ref a) args) P s := by
  refine codeC_of_tree rfl ?_
  show wpC _ A.in1 (callAny (.ref a) args) _ _ s
  simp only [callAny]
  refine wpC_bind (wpC_of (wpAny_load ho ?_))
  obtain ⟨c, oc, vs, tq, hc, hoc, hdc, hq⟩ := hcd
  simp only [hd', callFunction, hco, hgen, hbody, hc]
  rw [hc] at h
  refine wpC_bind (m := field (.ref c) 1) (wpC_of (wpAny_field hoc hdc hq (wpC_bind (wpC_pure ?_))))
  exact wpC_bind (wpC_mono (wpC_of h) (fun binds s₁ h₁ => wpC_bind (wpC_mono (wpC_of h₁) (fun env s₂ h₂ => wpC_bind (wpC_of (wpAny_enterFrame h₂.1 hroom
    (wpC_pure (And.intro rfl h₂.2))))) fun _ _ h' => h')) fun _ _ h' => h')
theorem codeN_block {env : Env} (h : P .next s) : codeN (model prog w) A (.block [] env) P s := by
  refine codeC_of_tree rfl ?_
  show wpC _ _ (do return Fin.done (← (execs [] env).onRaise (fun x => do noteFrame x env; theTreesLotGoes x))) _ _ s
  exact wpC_bind (wpN_on (N_execs_nil (wpC_pure h)))
theorem codeN_for {target it body env} (I : Nat → Shared → Prop)
    (turn : ∀ n s, I n s → wpAny (model prog w) A (pyNext it) (fun r s₁ => match r with
      | none => P .next s₁
      | some v => wpAny (model prog w) A (assign target env v) (fun _ s₂ => wpN (model prog w) A (execs body env) (fun f s₃ => match f with
          | .next => ∃ m, m < n ∧ I m s₃
          | _ => False) s₂) (fun _ _ => False) s₁) (fun _ _ => False) s)
    (ht : ∀ v, letOwnedTupleGo target it v = pure ()) (n : Nat) : ∀ s, I n s → codeN (model prog w) A (.forLoop target it body [] env) P s := by
  induction n using Nat.strongRecOn with
  | ind n ih =>
    intro s hI
    refine codeC_of_tree rfl ?_
    show wpC _ A ((forTurn target it body [] env).onRaise (fun x => do noteFrame x env; theTreesLotGoes x)) _ _ s
    refine wpN_on ?_
    simp only [forTurn]
    refine wpC_bind (wpC_of (wpAny_standAt (wpC_bind (wpN_on (wpC_mono (wpC_of (turn n s hI)) (fun r s₁ h₁ => ?_) fun _ _ x => x)))))
    cases r with
    | none => exact wpC_pure ⟨rfl, codeN_block h₁⟩
    | some v =>
      refine wpC_bind (wpC_of (wpAny_of_eq (ht v) ?_))
      refine wpC_bind (wpC_mono (wpC_of h₁) (fun _ s₂ h₂ => wpC_bind (wpC_mono h₂ (fun f s₃ h₃ => ?_) fun _ _ x => x)) fun _ _ x => x)
      cases f with
      | next => obtain ⟨m, hm, hI'⟩ := h₃; exact wpC_pure ⟨rfl, ih m hm s₃ hI'⟩
      | _ => exact h₃.elim
theorem N_For {x : PySem.Str} {px : Pos} {iter : Expr} {body : List Stmt} {pos : Pos} {env : Env} {Q : Flow → Shared → Prop}
    (h : wpAny (model prog w) A (eval iter env) (fun v s₁ => wpAny (model prog w) A (pyIter v) (fun it s₂ => codeN (model prog w) A (.forLoop (.Name x px) it body [] env) Q s₂) (fun _ _ => False) s₁) (fun _ _ => False) s)
    (hf : ∀ v, foldedSetIterable iter env v = pure v := by intro _; rfl) : wpN (model prog w) A (exec (.For (.Name x px) iter body [] pos) env) Q s := by
  rw [exec_For]
  refine wpC_bind (wpC_of (wpAny_standAt ?_))
  refine wpC_bind (wpC_mono (wpC_of h) (fun v s₁ h₁ => ?_) fun _ _ x => x)
  refine wpC_bind (wpC_of (wpAny_of_eq (hf v) ?_))
  refine wpC_bind (wpC_of (wpAny_standAt ?_))
  refine wpC_bind (wpC_holding (wpC_mono (wpC_of h₁) (fun it s₂ h₂ => ?_) fun _ _ x => x))
  exact wpC_runOwn (codeC_mono h₂ fun r s' h' => by cases r <;> exact h')
end
/-- one other object changed: the frame stands -/
theorem fr_same {h₀ h h' : Heap} {L a : Addr} {m : PySem.Str → Option Value} (F : Fr h₀ L h m) (hs : Heap.SameBut a h h') (hL : L ≠ a) (hn : h₀.get? a = none) : Fr h₀ L h' m :=
  ⟨F.ns.sameBut hs hL, fun b o e => (hs.2 b (fun q => by rw [q, hn] at e; cases e)).trans (F.keep b o e), F.above⟩
theorem fr_ext {h₀ h h' : Heap} {L a : Addr} {m : PySem.Str → Option Value} (F : Fr h₀ L h m) (he : Heap.ExtBut a h h') (hL : L ≠ a) (hn : h₀.get? a = none) : Fr h₀ L h' m := by
  obtain ⟨o, es, ep, ho, r⟩ := F.ns
  exact ⟨⟨o, es, ep, he L o hL ho, r⟩, fun b o e => he b o (fun q => by rw [q, hn] at e; cases e) (F.keep b o e), F.above⟩
end Mine
end

section
open PySem PySem.W PyProof.Rows PySem.Calls
set_option maxRecDepth 100000
set_option maxHeartbeats 8000000
namespace Mine
abbrev PR : Program := PySem.Challenge.rw_oy0011_01.row.prog

noncomputable abbrev VV : Program := Mine.hd.view_39
noncomputable abbrev LL : List Str := looseW Mine.hd.view_39 [Str.ofString "_initial_missing", Str.ofString "reduce"]
abbrev Mn := ExcName → Option Value
abbrev Nm := PySem.Str → Option Value

/-- the surroundings of a call -/
abbrev Ar (dp un : Nat) (gd : Option (List Code)) (outer : List Env) : Around :=
  { handled := none, depth := dp, frames := some outer, guards := gd, units := un }

/-- what a call may lean on -/
structure Ok (w : World) (mean : Mn) (mg mb : Nm) (base : Heap) (outer : List Env) (h : Heap) : Prop where
  B : Below (Ar 0 0 none outer) base outer h
  X : (hd.heap_39 w.params).In h
  T : Top VV LL mean mg mb h

theorem enterP {w : World} {dp un : Nat} {gd : Option (List Code)} {outer : List Env} {base : Heap} {mean : Mn} {mg mb : Nm} {s : Shared} {R : Result → Shared → Prop}
    {name qual : PySem.Str} {params : Arguments} {body : List Stmt} {scope : Scope} {dV kV doc pm cdv ct oc : Value} {an od : Option Addr} {osl : Array (Option Value)} {f : Addr} {args : Args} {binds : List (PySem.Str × Value)}
    (O : Ok w mean mg mb base outer s.heap)
    (ho : (hd.heap_39 w.params).lookup f = some ⟨oc, od, .func (fnOf name qual params body scope dV kV doc pm an cdv ct), osl⟩) (hcd : codeIn (hd.heap_39 w.params) cdv qual = true) (hroom : dp < recursionLimit)
    (hbind : BindsTo s (fnOf name qual params body scope dV kV doc pm an cdv ct) args binds) (hloc : ∀ y ∈ binds, scope.names.lookup y.1 = some .local)
    (h : ∀ L' h₁, s.heap.objs.size = L' → Fr s.heap L' h₁ (fun y => binds.reverse.lookup y) → News s.heap L' h₁ [] → Below (Ar dp un gd outer) base outer s.heap → (hd.heap_39 w.params).In s.heap → Top VV LL mean mg mb s.heap →
      wpAny (model PR w) ((Ar dp un gd outer).deeper (envOf qual scope L' f cdv)) (execs body (envOf qual scope L' f cdv))
        (fun fl s' => R (.ok (.ret (match fl with | .ret v => v | _ => .none))) s')
        (fun e s' => wpAny (model PR w) ((Ar dp un gd outer).deeper (envOf qual scope L' f cdv)) (leaving (envOf qual scope L' f cdv) e) (fun _ s'' => R (.error e) s'') (fun e' s'' => R (.error e') s'') s')
        { s with heap := h₁, toks := s.toks + binds.length })
    (hco : scope.isCoroutine = false) (hgen : scope.isGenerator = false) (hk : scope.kind = .function)
    (hcell : ∀ x ∈ scope.names, x.2 ≠ .cell) : codeAny (model PR w) (Ar dp un gd outer) (.call (.ref f) args) R s := by
  refine codeAny_call_def (fd := fnOf name qual params body scope dV kV doc pm an cdv ct) (body := body) (binds := binds) hroom (O.X _ _ ho) rfl O.T.nolimit (codeRec_of O.X hcd) rfl hbind hcell hloc (fun h₁ hns hk₁ => ?_) hco hgen hk
  exact h _ h₁ rfl ⟨hns, hk₁, Nat.le_refl _⟩ News.nil ⟨rfl, O.B.stays, O.B.frames⟩ O.X O.T

theorem enterC {w : World} {dp un : Nat} {gd : Option (List Code)} {outer : List Env} {base : Heap} {mean : Mn} {mg mb : Nm} {s : Shared} {R : Result → Shared → Prop}
    {name qual : PySem.Str} {params : Arguments} {body : List Stmt} {scope : Scope} {dV kV doc pm cdv ct oc : Value} {an od : Option Addr} {osl : Array (Option Value)} {f : Addr} {args : Args} {binds : List (PySem.Str × Value)}
    (O : Ok w mean mg mb base outer s.heap)
    (ho : (hd.heap_39 w.params).lookup f = some ⟨oc, od, .func (fnOf name qual params body scope dV kV doc pm an cdv ct), osl⟩) (hcd : codeIn (hd.heap_39 w.params) cdv qual = true) (hroom : dp < recursionLimit)
    (hbind : BindsTo s (fnOf name qual params body scope dV kV doc pm an cdv ct) args binds)
    (hkind : (binds.all fun y => scope.names.lookup y.1 == some .local || scope.names.lookup y.1 == some .cell) = true)
    (hnd : ((cellsFrom 0 scope.names []).map (·.1)).Nodup)
    (h : ∀ L' h₁ tk cells, s.heap.objs.size = L' → Fr s.heap L' h₁ (bindL (envOfC qual scope L' f cdv).kindOf binds fun _ => none) → News s.heap L' h₁ cells →
      CellsAre (bindC (envOfC qual scope L' f cdv).kindOf binds fun _ => none) (cellsFrom (L' + 1) scope.names []) cells → Below (Ar dp un gd outer) base outer s.heap → (hd.heap_39 w.params).In s.heap → Top VV LL mean mg mb s.heap →
      wpAny (model PR w) ((Ar dp un gd outer).deeper (envOfC qual scope L' f cdv)) (execs body (envOfC qual scope L' f cdv))
        (fun fl s' => R (.ok (.ret (match fl with | .ret v => v | _ => .none))) s')
        (fun e s' => wpAny (model PR w) ((Ar dp un gd outer).deeper (envOfC qual scope L' f cdv)) (leaving (envOfC qual scope L' f cdv) e) (fun _ s'' => R (.error e) s'') (fun e' s'' => R (.error e') s'') s')
        { s with heap := h₁, toks := tk })
    (hco : scope.isCoroutine = false) (hgen : scope.isGenerator = false) (hk : scope.kind = .function) : codeAny (model PR w) (Ar dp un gd outer) (.call (.ref f) args) R s := by
  refine codeAny_call_function hroom (O.X _ _ ho) rfl hco hgen rfl (codeRec_of O.X hcd) (hbind _ _ _ _ ?_)
  refine wpAny_newFunctionEnv_cells hk (kindsX hkind _) fun env' he s' x => ?_
  subst he
  refine ⟨(O.T.nolimit).keeps x.toInCall.keep, codeAny_func ?_⟩
  obtain ⟨h₁, tk, rfl, _⟩ := x.done
  have hk₁ := x.toInCall.keep
  obtain ⟨cells, NC, Y⟩ := Cl.news (h₀ := s.heap) (Nat.le_refl _) fun n c hm => ⟨x.cell n c (lookup_of_mem_nodup (cellsFrom_names scope.names 0 (s.heap.objs.size + 1) [] [] rfl ▸ hnd) hm), x.above n c hm⟩
  exact h _ h₁ tk cells rfl ⟨x.toInCall.ns, hk₁, Nat.le_refl _⟩ NC Y ⟨rfl, O.B.stays, O.B.frames⟩ O.X O.T

theorem enterPN {w : World} {dp un : Nat} {gd : Option (List Code)} {outer : List Env} {base : Heap} {mean : Mn} {mg mb : Nm} {s : Shared} {P : Flow → Shared → Prop}
    {name qual : PySem.Str} {params : Arguments} {body : List Stmt} {scope : Scope} {dV kV doc pm cdv ct oc : Value} {an od : Option Addr} {osl : Array (Option Value)} {f : Addr} {args : Args} {binds : List (PySem.Str × Value)}
    (O : Ok w mean mg mb base outer s.heap)
    (ho : (hd.heap_39 w.params).lookup f = some ⟨oc, od, .func (fnOf name qual params body scope dV kV doc pm an cdv ct), osl⟩) (hcd : codeIn (hd.heap_39 w.params) cdv qual = true) (hroom : dp < recursionLimit)
    (hbind : BindsTo s (fnOf name qual params body scope dV kV doc pm an cdv ct) args binds) (hloc : ∀ y ∈ binds, scope.names.lookup y.1 = some .local)
    (h : ∀ L' h₁, s.heap.objs.size = L' → Fr s.heap L' h₁ (fun y => binds.reverse.lookup y) → News s.heap L' h₁ [] → Below (Ar dp un gd outer) base outer s.heap → (hd.heap_39 w.params).In s.heap → Top VV LL mean mg mb s.heap →
      wpN (model PR w) ((Ar dp un gd outer).deeper (envOf qual scope L' f cdv)) (execs body (envOf qual scope L' f cdv))
        (fun fl s' => P (.ret (match fl with | .ret v => v | _ => .none)) s')
        { s with heap := h₁, toks := s.toks + binds.length })
    (hco : scope.isCoroutine = false) (hgen : scope.isGenerator = false) (hk : scope.kind = .function)
    (hcell : ∀ x ∈ scope.names, x.2 ≠ .cell) : codeN (model PR w) (Ar dp un gd outer) (.call (.ref f) args) P s := by
  refine codeN_call hroom (O.X _ _ ho) rfl hco hgen rfl (codeRec_of O.X hcd) (hbind _ _ _ _ ?_)
  refine wpAny_newFunctionEnv hcell hloc (fun h₀ hns₀ hsb₀ => ⟨O.T.nolimit.fresh _ hsb₀, codeN_func ?_⟩) hk
  have hk₁ : ∀ b o, s.heap.get? b = some o → h₀.get? b = some o := fun b o e => hsb₀.extBut b o (Nat.ne_of_lt (Heap.lt_size e)) (Heap.get?_push_of_some _ e)
  exact h _ h₀ rfl ⟨hns₀, hk₁, Nat.le_refl _⟩ News.nil ⟨rfl, O.B.stays, O.B.frames⟩ O.X O.T

/-- leaning on the frame at hand, a call goes on -/
theorem Ok.of {w : World} {mean : Mn} {mg mb : Nm} {A₀ : Around} {base h₀ h : Heap} {outer : List Env} {env : Env} {L : Addr} {m : Nm}
    (B : Below A₀ base outer h₀) (F : Fr h₀ L h m) (X : (hd.heap_39 w.params).In h₀) (T : Top VV LL mean mg mb h₀) (hf : env.frame = some L) (hk : env.scope.kind = .function) :
    Ok w mean mg mb base (env :: outer) h :=
  ⟨⟨rfl, (pushX B F hf hk).stays, (pushX B F hf hk).frames⟩, X.keeps F.keep, T.keeps F.keep⟩

theorem Fr.ext {h₀ h h' : Heap} {L : Addr} {m : Nm} (F : Fr h₀ L h m) (k : h.StaysIn h') : Fr h₀ L h' m :=
  ⟨F.ns.keeps k, fun b o e => k b o (F.keep b o e), F.above⟩
theorem News.ext {h₀ h h' : Heap} {L : Addr} {news : List (Addr × Obj)} (N : News h₀ L h news) (k : h.StaysIn h') : News h₀ L h' news :=
  fun p hp => ⟨k _ _ (N p hp).1, (N p hp).2⟩
end Mine
end

section
open PySem PySem.W PyProof.Rows PySem.Calls
set_option maxRecDepth 100000
set_option maxHeartbeats 8000000
namespace Mine
noncomputable def cmp3 (x y : Int) : Int := b2i (decide (y < x)) - b2i (decide (x < y))

theorem fillIt {w : World} {h : Heap} (X : (hd.heap_39 w.params).In h) : (hd.heap_39 w.params).In h ∧ PySem.Challenge.rw_oy0011_01 = PySem.Challenge.rw_oy0011_01 := by
  k_fill
  exact ⟨X, rfl⟩

theorem tw_int {w : World} {dp un : Nat} {gd : Option (List Code)} {outer : List Env} {base : Heap} {mean : Mn} {mg mb : Nm} {s : Shared} {Q E : Value → Shared → Prop} {x y : Int} {tx ty : Tok}
    (O : Ok w mean mg mb base outer s.heap) (hd : dp + 1 < recursionLimit) (hu : un + 8 < cLine)
    (hret : ∀ t h' tk', s.heap.StaysIn h' → Q (.int (cmp3 x y) t) { s with heap := h', toks := tk' }) :
    wpAny (model PR w) (Ar dp un gd outer) (call (.ref 37) [.int x tx, .int y ty]) Q E s := by
  refine wpAny_call ?_
  refine' enterP O ?k6 ?k7 ?k8 ?k9 ?kB ?_ ?c2 ?c3 ?c4 ?c5
  case k6 => k_is
  case k7 => k_is
  case k8 => ktr_room
  case k9 => exact BindsTo.of_eq rfl
  case c5 => decide
  case kB => exact locs rfl
  case c2 => exact rfl
  case c3 => exact rfl
  case c4 => exact rfl
  intro L' h₁ hL F N B X T
  try dsimp only
  k_steps
  dsimp only
  exact hret _ _ _ F.keep
end Mine
end

section
open PySem PySem.W PyProof.Rows PySem.Calls
set_option maxRecDepth 100000
set_option maxHeartbeats 8000000
namespace Mine

abbrev baObj (b : Array UInt8) : Obj := { cls := .type "bytearray", data := .bytearray b }
section
variable {prog : Program} {w : World} {A : Around} {E : Value → Shared → Prop} {s : Shared} {h₀ : Heap} {L a : Addr} {m : PySem.Str → Option Value} {news news' : List (Addr × Obj)} {b : Array UInt8}
theorem ba_set_K {k : Int} {v : UInt8} {t u : Tok} {Q : Unit → Shared → Prop} (F : Fr h₀ L s.heap m) (N : News h₀ L s.heap news)
    (U : Upd a (baObj b) (baObj (b.setIfInBounds k.toNat v)) news news') (h0 : 0 ≤ k) (hk : k.toNat < b.size) (hb : b.size ≤ 1000)
    (h : ∀ h', Fr h₀ L h' m → News h₀ L h' news' → Q () { s with heap := h' }) :
    wpAny (model prog w) A (setItem (.ref a) (.int k t) (.int (v.toNat : Int) u)) Q E s := by
  obtain ⟨pre, post, rfl, rfl, h1, h2⟩ := U.split
  have D := N (a, baObj b) (by simp)
  obtain ⟨kn, rfl⟩ := Int.eq_ofNat_of_zero_le h0
  refine ba_setItem D.1 (by simpa using hk) hb v.toNat_lt fun h' hg hs => ?_
  rw [show v.toNat.toUInt8 = v from by simp] at hg
  refine h h' ⟨F.ns.sameBut hs (Ne.symm D.2.1), fun c o e => (hs.2 c (fun q => ?_)).trans (F.keep c o e), F.above⟩ fun p hp => ?_
  · rw [q, D.2.2] at e; cases e
  · rcases List.mem_append.mp hp with q | q
    · have P := N p (List.mem_append_left _ q); exact ⟨(hs.2 p.1 (h1 p q)).trans P.1, P.2⟩
    · rcases List.mem_cons.mp q with rfl | q
      · exact ⟨hg, D.2⟩
      · have P := N p (List.mem_append_right _ (.tail _ q)); exact ⟨(hs.2 p.1 (h2 p q)).trans P.1, P.2⟩
theorem bytes_ba_K {Q : Value → Shared → Prop} (N : News h₀ L s.heap news) (hm : (a, baObj b) ∈ news) (hb : b.size ≤ 1000)
    (h : Q (.bytes b s.toks) { s with toks := s.toks + 1 }) : wpAny (model prog w) A (call (.type "bytes") [.ref a]) Q E s := bytes_ba (N _ hm).1 hb h
end
local macro_rules | `(tactic| walk_at "setItem ref int") => `(tactic| (k_here; (with_reducible show wpAny _ _ (setItem (Value.ref _) (Value.int _ _) (Value.int _ _)) _ _ _); k_dflt (refine' ba_set_K ?k1 ?k2 ?k3 ?k4 ?k5 ?k6 ?_; (case k1 => k_asm); (case k2 => k_asm); (case k3 => k_upd); (case k4 => decide); (case k5 => (simp only [Array.size_setIfInBounds, Array.size_replicate]; decide)); (case k6 => (simp only [Array.size_setIfInBounds, Array.size_replicate]; decide)); k_whole; intro h' F' N'; (try k_sweep))))
local macro_rules | `(tactic| walk_at "call type:bytes") => `(tactic| (k_here; (with_reducible show wpAny _ _ (call (Value.type "bytes") [Value.ref _]) _ _ _); k_dflt (refine' bytes_ba_K ?k1 ?k2 ?k3 ?_; (case k1 => k_asm); (case k2 => k_mem); (case k3 => (simp only [Array.size_setIfInBounds, Array.size_replicate]; decide)); k_whole)))

theorem len_b {prog : Program} {w : World} {A : Around} {E : Value → Shared → Prop} {s : Shared} {b : Array UInt8} {t : Tok} {Q : Value → Shared → Prop} (n : Nat) (hb : b.size = n) (hn : n ≤ 1000)
    (h : Q (.int (n : Int) (s.toks + 1)) { s with toks := s.toks + 1 + 1 }) : wpAny (model prog w) A (call (.builtin "len") [.bytes b t]) Q E s :=
  len_bytes (by omega) (by rw [hb]; exact h)
local macro_rules | `(tactic| walk_at "call builtin:len") => `(tactic| (k_here; (with_reducible show wpAny _ _ (call (Value.builtin "len") [Value.bytes _ _]) _ _ _); (first | refine len_b 2 rfl (by decide) ?_ | refine len_b 15 rfl (by decide) ?_)))

theorem swap2 {w : World} {dp un : Nat} {gd : Option (List Code)} {outer : List Env} {base : Heap} {mean : Mn} {mg mb : Nm} {s : Shared} {Q : Value → Shared → Prop} {x y : UInt8} {tx ty : Tok}
    (O : Ok w mean mg mb base outer s.heap) (hd : dp + 1 < recursionLimit) (hu : un + 20 < cLine)
    (hret : ∀ t h' tk', s.heap.StaysIn h' → Q (.bytes #[y, x] t) { s with heap := h', toks := tk' }) :
    wpN (model PR w) (Ar dp un gd outer) (call (.ref 21) [.bytes #[x, y] tx, .int 2 ty]) Q s := by
  refine N_call ?_
  refine' enterPN O ?k6 ?k7 ?k8 ?k9 ?kB ?_ ?c2 ?c3 ?c4 ?c5
  case k6 => k_is
  case k7 => k_is
  case k8 => ktr_room
  case k9 => exact BindsTo.of_eq rfl
  case c5 => decide
  case kB => exact locs rfl
  case c2 => exact rfl
  case c3 => exact rfl
  case c4 => exact rfl
  intro L' h₁ hL F N B X T
  try dsimp only
  refine N_execs (N_Assign (N_Call ?_))
  k_steps
  refine N_callWithT (N_args (wpN_of ?_))
  k_steps
  refine N_args_nil ?_
  refine wpN_any (ba_call (n := 2) (by decide) (by rw [sizeLine_eq]; decide) fun h₂ hk₂ hg₂ => ?_)
  rename Fr _ _ _ _ => F
  have F' := Fr.ext F hk₂
  have N' : News s.heap L' h₂ [(h₁.objs.size, baObj (Array.replicate 2 0))] := fun p hp => by
    cases hp with
    | head => exact ⟨hg₂, Nat.ne_of_gt F.ns.lt, next_is_new F⟩
    | tail _ h => exact nomatch h
  clear N hg₂ hk₂ F
  dsimp only
  refine wpN_of ?_
  k_steps
  refine wpN_of ?_
  k_steps
  rename Fr _ _ _ _ => F
  exact hret _ _ _ F.keep
end Mine
end

section
open PySem PySem.W PyProof.Rows PySem.Calls
set_option maxRecDepth 100000
set_option maxHeartbeats 8000000
namespace Mine
/-- one comparer on a row -/
noncomputable def stepL : Nat → List UInt8 → List UInt8
  | 0, a :: b :: r => if b < a then b :: a :: r else a :: b :: r
  | n + 1, a :: r => a :: stepL n r
  | _, r => r
theorem cmp3_pos {x y : UInt8} : 0 < cmp3 (x.toNat : Int) (y.toNat : Int) ↔ y < x := by
  rw [UInt8.lt_iff_toNat_lt]
  unfold cmp3 b2i
  by_cases h1 : (y.toNat : Int) < x.toNat
  · have h2 : ¬ (x.toNat : Int) < y.toNat := by omega
    simp [h1, h2]; omega
  · simp [h1]; omega

local macro_rules | `(tactic| walk_at "call ref") => `(tactic| (k_here; (with_reducible show wpAny _ _ (call (Value.ref 37) [Value.int _ _, Value.int _ _]) _ _ _); k_dflt (refine' tw_int ?k1 ?k2 ?k3 ?_; (case k1 => exact Ok.of (by k_asm) (by k_asm) (by k_asm) (by k_asm) rfl rfl); (case k2 => ktr_room); (case k3 => ktr_units); k_whole; intro t9 h9 tk9 k9; (have F9 := Fr.ext (by k_asm) k9); (have N9 := News.ext (by k_asm) k9); clear k9; (try k_sweep))))

local macro_rules | `(tactic| walk_at "subscriptTail") => `(tactic| (k_here; (with_reducible show wpAny _ _ (subscriptTail _ (Expr.Slice _ _ none _) (Value.bytes (List.toArray _) _) (Value.ref _)) _ _ _); (with_reducible rename Fr _ _ _ _ => F'); (with_reducible rename News _ _ _ _ => N'); (refine KBc.slice_K (s := ⟨_, _, _, _, _⟩) F' N' rfl (by constructor) (by constructor) (by simp [KBw.bInts]) ?_); clear F' N'; intro h' t' k' F' N' kbcK; clear kbcK))

theorem cmpK0 {w : World} {dp un : Nat} {gd : Option (List Code)} {outer : List Env} {base : Heap} {mean : Mn} {mg mb : Nm} {s : Shared} {Q : Value → Shared → Prop} {a b c d e : UInt8} {tx ty : Tok}
    (O : Ok w mean mg mb base outer s.heap) (hd : dp + 3 < recursionLimit) (hu : un + 40 < cLine)
    (hret : ∀ t h' tk', s.heap.StaysIn h' → Q (.bytes (stepL 0 [a, b, c, d, e]).toArray t) { s with heap := h', toks := tk' }) :
    wpN (model PR w) (Ar dp un gd outer) (call (.ref 44) [.bytes #[a, b, c, d, e] tx, .int 0 ty]) Q s := by
  refine N_call ?_
  refine' enterPN O ?k6 ?k7 ?k8 ?k9 ?kB ?_ ?c2 ?c3 ?c4 ?c5
  case k6 => k_is
  case k7 => k_is
  case k8 => ktr_room
  case k9 => exact BindsTo.of_eq rfl
  case c5 => decide
  case kB => exact locs rfl
  case c2 => exact rfl
  case c3 => exact rfl
  case c4 => exact rfl
  intro L' h₁ hL F N B X T
  try dsimp only
  refine N_execs (N_If ?_)
  k_steps
  · rename 0 < cmp3 _ _ => hc
    have hc : b < a := cmp3_pos.mp hc
    have he : stepL 0 [a, b, c, d, e] = [b, a, c, d, e] := by simp only [stepL, if_pos hc]
    rw [he] at hret
    refine N_execs (N_Return (N_BinOp (N_BinOp (wpN_of ?_))))
    k_steps
    refine N_Call ?_
    k_steps
    refine N_callWithK (K := Mine.hd.heap_39 w.params) (by k_is) (N_args (wpN_of ?_))
    k_steps
    refine N_args (wpN_of ?_)
    k_steps
    refine N_args_nil ⟨X.keeps (Fr.keep (by assumption)), ?_⟩
    refine' swap2 (x := a) (y := b) ?k1 ?k2 ?k3 ?_
    case k1 => exact Ok.of B (by k_asm) X T rfl rfl
    case k2 => ktr_room
    case k3 => ktr_units
    intro t9 h9 tk9 k9
    rename Fr _ _ _ _ => F
    rename News _ _ _ _ => N
    have F9 := Fr.ext F k9
    have N9 := News.ext N k9
    clear F N k9
    refine wpN_of ?_
    k_steps
    refine wpN_of ?_
    k_steps
    refine wpN_of ?_
    k_steps
    rename Fr _ _ _ _ => F
    dsimp only
    with_unfolding_all exact hret _ _ _ F.keep
  · rename ¬ 0 < cmp3 _ _ => hc
    have hc : ¬ b < a := fun z => hc (cmp3_pos.mpr z)
    have he : stepL 0 [a, b, c, d, e] = [a, b, c, d, e] := by simp only [stepL, if_neg hc]
    rw [he] at hret
    refine N_execs_nil ?_
    dsimp only
    refine wpN_of ?_
    k_steps
    rename Fr _ _ _ _ => F
    dsimp only
    with_unfolding_all exact hret _ _ _ F.keep
theorem cmpK1 {w : World} {dp un : Nat} {gd : Option (List Code)} {outer : List Env} {base : Heap} {mean : Mn} {mg mb : Nm} {s : Shared} {Q : Value → Shared → Prop} {a b c d e : UInt8} {tx ty : Tok}
    (O : Ok w mean mg mb base outer s.heap) (hd : dp + 3 < recursionLimit) (hu : un + 40 < cLine)
    (hret : ∀ t h' tk', s.heap.StaysIn h' → Q (.bytes (stepL 1 [a, b, c, d, e]).toArray t) { s with heap := h', toks := tk' }) :
    wpN (model PR w) (Ar dp un gd outer) (call (.ref 44) [.bytes #[a, b, c, d, e] tx, .int 1 ty]) Q s := by
  refine N_call ?_
  refine' enterPN O ?k6 ?k7 ?k8 ?k9 ?kB ?_ ?c2 ?c3 ?c4 ?c5
  case k6 => k_is
  case k7 => k_is
  case k8 => ktr_room
  case k9 => exact BindsTo.of_eq rfl
  case c5 => decide
  case kB => exact locs rfl
  case c2 => exact rfl
  case c3 => exact rfl
  case c4 => exact rfl
  intro L' h₁ hL F N B X T
  try dsimp only
  refine N_execs (N_If ?_)
  k_steps
  · rename 0 < cmp3 _ _ => hc
    have hc : c < b := cmp3_pos.mp hc
    have he : stepL 1 [a, b, c, d, e] = [a, c, b, d, e] := by simp only [stepL, if_pos hc]
    rw [he] at hret
    refine N_execs (N_Return (N_BinOp (N_BinOp (wpN_of ?_))))
    k_steps
    refine N_Call ?_
    k_steps
    refine N_callWithK (K := Mine.hd.heap_39 w.params) (by k_is) (N_args (wpN_of ?_))
    k_steps
    refine N_args (wpN_of ?_)
    k_steps
    refine N_args_nil ⟨X.keeps (Fr.keep (by assumption)), ?_⟩
    refine' swap2 (x := b) (y := c) ?k1 ?k2 ?k3 ?_
    case k1 => exact Ok.of B (by k_asm) X T rfl rfl
    case k2 => ktr_room
    case k3 => ktr_units
    intro t9 h9 tk9 k9
    rename Fr _ _ _ _ => F
    rename News _ _ _ _ => N
    have F9 := Fr.ext F k9
    have N9 := News.ext N k9
    clear F N k9
    refine wpN_of ?_
    k_steps
    refine wpN_of ?_
    k_steps
    refine wpN_of ?_
    k_steps
    rename Fr _ _ _ _ => F
    dsimp only
    with_unfolding_all exact hret _ _ _ F.keep
  · rename ¬ 0 < cmp3 _ _ => hc
    have hc : ¬ c < b := fun z => hc (cmp3_pos.mpr z)
    have he : stepL 1 [a, b, c, d, e] = [a, b, c, d, e] := by simp only [stepL, if_neg hc]
    rw [he] at hret
    refine N_execs_nil ?_
    dsimp only
    refine wpN_of ?_
    k_steps
    rename Fr _ _ _ _ => F
    dsimp only
    with_unfolding_all exact hret _ _ _ F.keep
theorem cmpK2 {w : World} {dp un : Nat} {gd : Option (List Code)} {outer : List Env} {base : Heap} {mean : Mn} {mg mb : Nm} {s : Shared} {Q : Value → Shared → Prop} {a b c d e : UInt8} {tx ty : Tok}
    (O : Ok w mean mg mb base outer s.heap) (hd : dp + 3 < recursionLimit) (hu : un + 40 < cLine)
    (hret : ∀ t h' tk', s.heap.StaysIn h' → Q (.bytes (stepL 2 [a, b, c, d, e]).toArray t) { s with heap := h', toks := tk' }) :
    wpN (model PR w) (Ar dp un gd outer) (call (.ref 44) [.bytes #[a, b, c, d, e] tx, .int 2 ty]) Q s := by
  refine N_call ?_
  refine' enterPN O ?k6 ?k7 ?k8 ?k9 ?kB ?_ ?c2 ?c3 ?c4 ?c5
  case k6 => k_is
  case k7 => k_is
  case k8 => ktr_room
  case k9 => exact BindsTo.of_eq rfl
  case c5 => decide
  case kB => exact locs rfl
  case c2 => exact rfl
  case c3 => exact rfl
  case c4 => exact rfl
  intro L' h₁ hL F N B X T
  try dsimp only
  refine N_execs (N_If ?_)
  k_steps
  · rename 0 < cmp3 _ _ => hc
    have hc : d < c := cmp3_pos.mp hc
    have he : stepL 2 [a, b, c, d, e] = [a, b, d, c, e] := by simp only [stepL, if_pos hc]
    rw [he] at hret
    refine N_execs (N_Return (N_BinOp (N_BinOp (wpN_of ?_))))
    k_steps
    refine N_Call ?_
    k_steps
    refine N_callWithK (K := Mine.hd.heap_39 w.params) (by k_is) (N_args (wpN_of ?_))
    k_steps
    refine N_args (wpN_of ?_)
    k_steps
    refine N_args_nil ⟨X.keeps (Fr.keep (by assumption)), ?_⟩
    refine' swap2 (x := c) (y := d) ?k1 ?k2 ?k3 ?_
    case k1 => exact Ok.of B (by k_asm) X T rfl rfl
    case k2 => ktr_room
    case k3 => ktr_units
    intro t9 h9 tk9 k9
    rename Fr _ _ _ _ => F
    rename News _ _ _ _ => N
    have F9 := Fr.ext F k9
    have N9 := News.ext N k9
    clear F N k9
    refine wpN_of ?_
    k_steps
    refine wpN_of ?_
    k_steps
    refine wpN_of ?_
    k_steps
    rename Fr _ _ _ _ => F
    dsimp only
    with_unfolding_all exact hret _ _ _ F.keep
  · rename ¬ 0 < cmp3 _ _ => hc
    have hc : ¬ d < c := fun z => hc (cmp3_pos.mpr z)
    have he : stepL 2 [a, b, c, d, e] = [a, b, c, d, e] := by simp only [stepL, if_neg hc]
    rw [he] at hret
    refine N_execs_nil ?_
    dsimp only
    refine wpN_of ?_
    k_steps
    rename Fr _ _ _ _ => F
    dsimp only
    with_unfolding_all exact hret _ _ _ F.keep
theorem cmpK3 {w : World} {dp un : Nat} {gd : Option (List Code)} {outer : List Env} {base : Heap} {mean : Mn} {mg mb : Nm} {s : Shared} {Q : Value → Shared → Prop} {a b c d e : UInt8} {tx ty : Tok}
    (O : Ok w mean mg mb base outer s.heap) (hd : dp + 3 < recursionLimit) (hu : un + 40 < cLine)
    (hret : ∀ t h' tk', s.heap.StaysIn h' → Q (.bytes (stepL 3 [a, b, c, d, e]).toArray t) { s with heap := h', toks := tk' }) :
    wpN (model PR w) (Ar dp un gd outer) (call (.ref 44) [.bytes #[a, b, c, d, e] tx, .int 3 ty]) Q s := by
  refine N_call ?_
  refine' enterPN O ?k6 ?k7 ?k8 ?k9 ?kB ?_ ?c2 ?c3 ?c4 ?c5
  case k6 => k_is
  case k7 => k_is
  case k8 => ktr_room
  case k9 => exact BindsTo.of_eq rfl
  case c5 => decide
  case kB => exact locs rfl
  case c2 => exact rfl
  case c3 => exact rfl
  case c4 => exact rfl
  intro L' h₁ hL F N B X T
  try dsimp only
  refine N_execs (N_If ?_)
  k_steps
  · rename 0 < cmp3 _ _ => hc
    have hc : e < d := cmp3_pos.mp hc
    have he : stepL 3 [a, b, c, d, e] = [a, b, c, e, d] := by simp only [stepL, if_pos hc]
    rw [he] at hret
    refine N_execs (N_Return (N_BinOp (N_BinOp (wpN_of ?_))))
    k_steps
    refine N_Call ?_
    k_steps
    refine N_callWithK (K := Mine.hd.heap_39 w.params) (by k_is) (N_args (wpN_of ?_))
    k_steps
    refine N_args (wpN_of ?_)
    k_steps
    refine N_args_nil ⟨X.keeps (Fr.keep (by assumption)), ?_⟩
    refine' swap2 (x := d) (y := e) ?k1 ?k2 ?k3 ?_
    case k1 => exact Ok.of B (by k_asm) X T rfl rfl
    case k2 => ktr_room
    case k3 => ktr_units
    intro t9 h9 tk9 k9
    rename Fr _ _ _ _ => F
    rename News _ _ _ _ => N
    have F9 := Fr.ext F k9
    have N9 := News.ext N k9
    clear F N k9
    refine wpN_of ?_
    k_steps
    refine wpN_of ?_
    k_steps
    refine wpN_of ?_
    k_steps
    rename Fr _ _ _ _ => F
    dsimp only
    with_unfolding_all exact hret _ _ _ F.keep
  · rename ¬ 0 < cmp3 _ _ => hc
    have hc : ¬ e < d := fun z => hc (cmp3_pos.mpr z)
    have he : stepL 3 [a, b, c, d, e] = [a, b, c, d, e] := by simp only [stepL, if_neg hc]
    rw [he] at hret
    refine N_execs_nil ?_
    dsimp only
    refine wpN_of ?_
    k_steps
    rename Fr _ _ _ _ => F
    dsimp only
    with_unfolding_all exact hret _ _ _ F.keep
theorem five {l : List UInt8} (h : l.length = 5) : ∃ a b c d e, l = [a, b, c, d, e] := by
  match l, h with
  | [a, b, c, d, e], _ => exact ⟨a, b, c, d, e, rfl⟩
theorem cmp_ok {w : World} {dp un : Nat} {gd : Option (List Code)} {outer : List Env} {base : Heap} {mean : Mn} {mg mb : Nm} {s : Shared} {Q : Value → Shared → Prop} {l : List UInt8} {k : Int} {tx ty : Tok}
    (O : Ok w mean mg mb base outer s.heap) (hd : dp + 3 < recursionLimit) (hu : un + 40 < cLine) (hl : l.length = 5) (h0 : 0 ≤ k) (hk : k < 4)
    (hret : ∀ t h' tk', s.heap.StaysIn h' → Q (.bytes (stepL k.toNat l).toArray t) { s with heap := h', toks := tk' }) :
    wpN (model PR w) (Ar dp un gd outer) (call (.ref 44) [.bytes l.toArray tx, .int k ty]) Q s := by
  obtain ⟨a, b, c, d, e, rfl⟩ := five hl
  have : k = 0 ∨ k = 1 ∨ k = 2 ∨ k = 3 := by omega
  rcases this with rfl | rfl | rfl | rfl
  · exact cmpK0 O hd hu hret
  · exact cmpK1 O hd hu hret
  · exact cmpK2 O hd hu hret
  · exact cmpK3 O hd hu hret
end Mine
end

section
open PySem PySem.W PyProof.Rows PySem.Calls
set_option maxRecDepth 100000
set_option maxHeartbeats 8000000
namespace Mine
theorem iter_list_K {prog : Program} {w : World} {A : Around} {E : Value → Shared → Prop} {s : Shared} {h₀ : Heap} {L l : Addr} {m : PySem.Str → Option Value} {news : List (Addr × Obj)} {items : Array Value} {Q : Value → Shared → Prop}
    (F : Fr h₀ L s.heap m) (N : News h₀ L s.heap news) (hl : s.heap.IsList l items)
    (h : ∀ (I : Addr) h', Fr h₀ L h' m → News h₀ L h' ((I, { cls := .type "list_iterator", data := .fields #[.ref l, .int 0 0] }) :: news) → (∀ p ∈ news, p.1 < I) → Q (.ref I) { s with heap := h' }) :
    wpAny (model prog w) A (call (.builtin "iter") [.ref l]) Q E s := by
  refine call_function_entry (by decide +kernel) (by decide +kernel) kdk_entry_iter (kdk_args_iter _) ?_
  unfold Builtin.«iter»
  refine wpAny_bind (m := someArgs "iter" 1 2 _) (wpAny_of_eq (a := [Value.ref l]) (by first | rfl | kernel_rfl!) ?_)
  show wpAny _ _ (pyIter (.ref l) >>= _) _ _ _
  refine wpAny_bind (wpAny_pyIter_list hl ?_)
  exact wpAny_pure ⟨_, rfl, h _ _ (F.push _) (News.push F N _ rfl) (fun q hq => Heap.lt_size (N q hq).1)⟩
local macro_rules | `(tactic| walk_at "call builtin:iter") => `(tactic| (k_here; (with_reducible show wpAny _ _ (call (Value.builtin "iter") [Value.ref _]) _ _ _); k_dflt (refine' iter_list_K ?k1 ?k2 ?k3 ?_; (case k1 => k_asm); (case k2 => k_asm); (case k3 => exact stays_list (Fr.keep (by k_asm)) (by k_asm)); k_whole; intro I' h' F' N' l1; (try k_lt l1); (try k_sweep))))

theorem is_bytes_ref {M : Model} {A : Around} {E : Value → Shared → Prop} {s : Shared} {b : Array UInt8} {t : Tok} {a : Addr} {Q : Value → Shared → Prop} (h : Q (.bool false) s) : wpAny M A (compareOp .Is (.bytes b t) (.ref a)) Q E s :=
  wpAny_is_other rfl (by intro e; cases e) h
local macro_rules | `(tactic| walk_at "compareOp Is") => `(tactic| ((with_reducible show wpAny _ _ (compareOp CmpOp.Is (Value.bytes _ _) (Value.ref _)) _ _ _); refine is_bytes_ref ?_))
local macro_rules | `(tactic| walk_at "compareOp Is bytes ref") => `(tactic| ((with_reducible show wpAny _ _ (compareOp CmpOp.Is (Value.bytes _ _) (Value.ref _)) _ _ _); refine is_bytes_ref ?_))

noncomputable def runL (ns : List Int) (r : List UInt8) : List UInt8 := ns.foldl (fun r k => stepL k.toNat r) r

theorem stepL_length : ∀ (k : Nat) (r : List UInt8), (stepL k r).length = r.length
  | 0, [] => rfl
  | 0, [_] => rfl
  | 0, a :: b :: r => by unfold stepL; split <;> rfl
  | _ + 1, [] => rfl
  | k + 1, a :: r => by simp only [stepL, List.length_cons, stepL_length k r]
theorem reduce_ok {w : World} {dp un : Nat} {gd : Option (List Code)} {outer : List Env} {base : Heap} {mean : Mn} {mg mb : Nm} {s : Shared} {Q : Value → Shared → Prop} {row : List UInt8} {l : Addr} {vs : List Value} {ns : List Int} {tx : Tok}
    (O : Ok w mean mg mb base outer s.heap) (hd : dp + 6 < recursionLimit) (hu : un + 80 < cLine) (hrow : row.length = 5) (hl : s.heap.IsList l vs.toArray) (hi : IntsAre vs ns) (hn : ∀ n ∈ ns, 0 ≤ n ∧ n < 4)
    (hret : ∀ t h' tk', s.heap.StaysIn h' → Q (.bytes (runL ns row).toArray t) { s with heap := h', toks := tk' }) :
    wpN (model PR w) (Ar dp un gd outer) (call (.ref 30) [.ref 44, .ref l, .bytes row.toArray tx]) Q s := by
  refine N_call ?_
  refine' enterPN O ?k6 ?k7 ?k8 ?k9 ?kB ?_ ?c2 ?c3 ?c4 ?c5
  case k6 => k_is
  case k7 => k_is
  case k8 => ktr_room
  case k9 => first | exact BindsTo.of_eq rfl | exact binds_K O.X rfl (by k_is) rfl rfl rfl
  case c5 => decide
  case kB => exact locs rfl
  case c2 => exact rfl
  case c3 => exact rfl
  case c4 => exact rfl
  intro L' h₁ hL F N B X T
  try dsimp only
  refine N_execs (wpN_of ?_)
  k_steps
  refine N_execs (wpN_of ?_)
  k_steps
  refine N_execs (N_For ?_)
  rename Fr _ _ _ _ => F
  rename News _ _ _ _ => N
  rename_i I₀ _ _ _ _
  have hI := N _ (List.Mem.head _)
  refine ld F rfl ?_
  refine wpAny_pyIter_listiter (l := l) (i := 0) ⟨_, hI.1, rfl, rfl⟩ ?_
  refine codeN_for (fun n s' => ∃ (i : Nat) (h' : Heap) (tk' : Nat) (m' : Nm) (t : Tok), s' = { s with heap := h', toks := tk' } ∧ n = ns.length - i ∧ i ≤ ns.length ∧ (runL (ns.take i) row).length = 5 ∧
    Fr s.heap L' h' m' ∧ m' (Str.ofString "value") = some (.bytes (runL (ns.take i) row).toArray t) ∧ m' (Str.ofString "function") = some (.ref 44) ∧ h'.IsListIter I₀ l i) ?turn (fun _ => rfl) ns.length _ ?start
  case start =>
    exact ⟨0, _, _, _, tx, rfl, rfl, Nat.zero_le _, hrow, F, rfl, rfl, ⟨_, hI.1, rfl, rfl⟩⟩
  case turn =>
    rintro n s' ⟨i, h', tk', m', t, rfl, rfl, hle, hlen, F', hv, hf, hit⟩
    have hlen' : vs.length = ns.length := hi.length
    have hl' : h'.IsList l vs.toArray := stays_list F'.keep hl
    rcases Nat.lt_or_ge i ns.length with hlt | hge
    · obtain ⟨x, hx⟩ : ∃ x, vs[i]? = some x := ⟨vs[i]'(by omega), List.getElem?_eq_getElem (by omega)⟩
      obtain ⟨k, tk, rfl, hk⟩ := IntsAre.at hi i x hx
      obtain ⟨k0, k1⟩ := hn k (List.mem_of_getElem? hk)
      refine wpAny_pyNext_list_item (x := .int k tk) hit hl' (by simpa using hx) fun h2 hit2 hs2 => ?_
      have F2 := fr_same F' hs2 (Ne.symm hI.2.1) hI.2.2
      dsimp only
      obtain ⟨oi, hoi, hci, hdi⟩ := hit2
      have N2 : News s.heap L' h2 [(I₀, oi)] := fun p hp => by
        cases hp with
        | head => exact ⟨hoi, hI.2⟩
        | tail _ h => exact nomatch h
      refine PyProof.Rows.assign_Name (stN F2 N2 fun h3 F3 N3 => ?_)
      have m1 : (fun y => if y = Str.ofString "element" then some (Value.int k tk) else m' y) (Str.ofString "function") = some (.ref 44) := by
        dsimp only; rw [if_neg (by decide)]; exact hf
      have m2 : (fun y => if y = Str.ofString "element" then some (Value.int k tk) else m' y) (Str.ofString "value") = some (.bytes (runL (ns.take i) row).toArray t) := by
        dsimp only; rw [if_neg (by decide)]; exact hv
      refine N_execs (N_Assign (N_Call (ld F3 m1 ?_)))
      refine N_callWithK (K := Mine.hd.heap_39 w.params) (by k_is) (N_args (wpN_of (ld F3 m2 ?_)))
      refine N_args (wpN_of (ld F3 (v := .int k tk) (by rw [if_pos rfl]) ?_))
      refine N_args_nil ⟨X.keeps F3.keep, ?_⟩
      refine' cmp_ok ?k1 ?k2 ?k3 hlen k0 k1 ?_
      case k1 => exact Ok.of B F3 X T rfl rfl
      case k2 => ktr_room
      case k3 => ktr_units
      intro t9 h9 tk9 k9
      have F9 := Fr.ext F3 k9
      have N9 := News.ext N3 k9
      refine wpN_of (stN F9 N9 fun h4 F4 N4 => ?_)
      refine N_execs_nil ?_
      have hstep : runL (ns.take (i + 1)) row = stepL k.toNat (runL (ns.take i) row) := by
        unfold runL
        rw [List.take_add_one, hk, List.foldl_append]
        rfl
      refine ⟨ns.length - (i + 1), by omega, i + 1, h4, _, _, t9, rfl, rfl, hlt, ?_, F4, ?_, ?_, ?_⟩
      · rw [hstep]; exact (stepL_length _ _).trans hlen
      · rw [if_pos rfl, hstep]
      · rw [if_neg (by decide)]; exact m1
      · exact ⟨oi, (N4 _ (List.Mem.head _)).1, hci, hdi⟩
    · have hie : i = ns.length := by omega
      subst hie
      refine wpAny_pyNext_list_end rfl hit hl' (by simp [hlen']) fun h2 he => ?_
      have F2 : Fr s.heap L' h2 m' := fr_ext F' he (Ne.symm hI.2.1) hI.2.2
      dsimp only
      refine wpN_of ?_
      refine wpAny_execs_cons (wpAny_Return_some (ld F2 hv ?_))
      dsimp only
      rw [List.take_length] 
      exact hret _ _ _ F2.keep
end Mine
end

section
open PySem PySem.W PyProof.Rows PySem.Calls
open PySem.Sem (wp)
set_option maxRecDepth 100000
set_option maxHeartbeats 4000000
namespace Mine
/-- both logics at once: c says whether the stack is known to be clean -/
def wpG (c : Bool) {α : Type} (M : Model) (A : Around) (t : Sem α) (Q : α → Shared → Prop) (s : Shared) : Prop :=
  ∀ Γ p, Γ.In A → (c = true → Clean Γ) → wp M Γ t (fun a _ s' => Q a s') (fun _ _ _ => False) p s
def codeG (c : Bool) (M : Model) (A : Around) (cd : Code) (P : Flow → Shared → Prop) (s : Shared) : Prop :=
  ∀ Γ p, Γ.code = cd → Γ.Below A → (c = true → CleanB Γ) → wpCode M Γ (endN P) p s
section
variable {c : Bool} {α β : Type} {M : Model} {A : Around} {E : Value → Shared → Prop} {s : Shared}
theorem G_of {t : Sem α} {Q : α → Shared → Prop} (h : wpAny M A t Q (fun _ _ => False) s) : wpG c M A t Q s := fun Γ p hΓ _ => h Γ p hΓ
theorem G_N {t : Sem α} {Q : α → Shared → Prop} (h : wpN M A t Q s) : wpG true M A t Q s := fun Γ p hΓ hk => h Γ p hΓ (hk rfl)
theorem N_G {t : Sem α} {Q : α → Shared → Prop} (h : wpG true M A t Q s) : wpN M A t Q s := fun Γ p hΓ hk => h Γ p hΓ fun _ => hk
theorem any_G {t : Sem α} {Q : α → Shared → Prop} (h : wpG false M A t Q s) : wpAny M A t Q E s := fun Γ p hΓ =>
  Sem.wp_mono M Γ t (fun _ _ _ x => x) (fun _ _ _ x => x.elim) p s (h Γ p hΓ fun e => by cases e)
theorem G_pure {a : α} {Q : α → Shared → Prop} (h : Q a s) : wpG c M A (pure a) Q s := fun _ _ _ _ => h
theorem G_mono {t : Sem α} {Q Q' : α → Shared → Prop} (h : wpG c M A t Q s) (hQ : ∀ a s, Q a s → Q' a s) : wpG c M A t Q' s :=
  fun Γ p hΓ hk => Sem.wp_mono M Γ t (fun a _ s => hQ a s) (fun _ _ _ x => x) p s (h Γ p hΓ hk)
theorem G_bind {m : Sem α} {f : α → Sem β} {Q : β → Shared → Prop} (h : wpG c M A m (fun a s' => wpG c M A (f a) Q s') s) :
    wpG c M A (m >>= f) Q s := fun Γ p hΓ hk => by
  rw [Sem.wp_bind']
  exact Sem.wp_mono M Γ m (fun a p' s' h' => h' Γ p' hΓ hk) (fun _ _ _ h' => h') p s (h Γ p hΓ hk)
theorem G_holding {vs : List Value} {m : Sem α} {Q : α → Shared → Prop} (h : wpG c M A m Q s) : wpG c M A (holding vs m) Q s :=
  fun Γ p hΓ hk => by rw [Sem.wp_holding]; exact h Γ p hΓ hk
theorem G_on {m : Sem α} {k : Value → Sem Unit} {Q : α → Shared → Prop} (h : wpG c M A m Q s) : wpG c M A (m.onRaise k) Q s := fun Γ p hΓ hk => by
  rw [Sem.wp_onRaise]
  exact Sem.wp_mono M Γ m (fun _ _ _ h' => h') (fun e p' s' h' => h'.elim) p s (h Γ p hΓ hk)
theorem G_attempt {m : Sem α} {Q : Except Value α → Shared → Prop} (h : wpG c M A m (fun a => Q (.ok a)) s) : wpG c M A m.attempt Q s := fun Γ p hΓ hk => by
  rw [Sem.wp_attempt]
  exact Sem.wp_mono M Γ m (fun _ _ _ h' => h') (fun e p' s' h' => h'.elim) p s (h Γ p hΓ hk)
theorem G_run {cd : Code} {Q : Flow → Shared → Prop} (hc : codeG c M A cd Q s) : wpG c M A (run cd none) Q s :=
  fun Γ p hΓ hk => by
    rw [Sem.wp_run]
    refine wpCode_mono (fun r s' h => ?_) (hc _ p rfl (hΓ.enter cd none p (by intro x; cases x)) (fun e x hx => by
      cases hx with
      | head => exact (hk e).1
      | tail _ h => exact (hk e).2 x h))
    cases r <;> exact h
theorem codeG_tree {cd : Code} {P : Flow → Shared → Prop} (ok : okCode cd = true)
    (h : wpG c M (A.under cd) (M.den cd) (fun fin s' => match fin with | .done f => P f s' | .again c' => c'.quiet = true ∧ codeG c M A c' P s') s) : codeG c M A cd P s := fun Γ p hc hΓ hk => by
  rw [wpCode_iff_wp, hc]
  refine Sem.wp_mono M Γ _ (fun fin p' s' h' => ?_) (fun _ _ _ h' => h'.elim) p s (h Γ p (hc ▸ hΓ.in) fun e => ⟨hc ▸ ok, hk e⟩)
  cases fin with
  | done f => exact h'
  | again c' => exact ⟨h'.1, h'.2 (Γ.goto c') p' rfl (hΓ.goto c') hk⟩
end

abbrev compT (ifs : List Expr) (env : Env) : Sem Bool :=
  forIn ifs true fun c r => if r = true then do let ok ← isTrue c env (eval c env); pure (ForInStep.yield ok) else pure (ForInStep.yield r)
section
variable {c : Bool} {prog : Program} {w : World} {A : Around} {s : Shared}
theorem T_nil {env : Env} {Q : Bool → Shared → Prop} (h : Q true s) : wpG c (model prog w) A (compT [] env) Q s := G_pure h
theorem T_one {env : Env} {t : Expr} {Q : Bool → Shared → Prop} (h : wpG c (model prog w) A (isTrue t env (eval t env)) Q s) : wpG c (model prog w) A (compT [t] env) Q s := by
  simp only [compT, List.forIn_cons, List.forIn_nil, if_true]
  exact G_bind (G_bind (G_mono h fun b s' hb => G_pure (G_pure hb)))

theorem codeG_compLoop {elt target iter : Expr} {ifs : List Expr} {scope : Scope} {pos : Pos} {it acc : Value} {env : Env} {R : Shared → Prop} (J : Nat → Shared → Prop)
    (turn : ∀ n s, J n s → wpAny (model prog w) A (pyNext it) (fun r s₁ => match r with
      | none => R s₁
      | some v => wpAny (model prog w) A (assign target env v) (fun _ s₂ =>
          wpG c (model prog w) A (compT ifs env) (fun ok s₃ =>
            if ok = true then wpG c (model prog w) A (eval elt env) (fun x s₄ =>
              wpAny (model prog w) A (call (.builtin "list.append") [acc, x]) (fun _ s₅ => ∃ m, m < n ∧ J m s₅) (fun _ _ => False) s₄) s₃
            else ∃ m, m < n ∧ J m s₃) s₂) (fun _ _ => False) s₁) (fun _ _ => False) s)
    (ht : ∀ v, letOwnedTupleGo target it v = pure ()) (n : Nat) : ∀ s, J n s →
    codeG c (model prog w) A (.compLoop (.ListComp elt [⟨target, iter, ifs, 0⟩] scope pos) 0 it acc env) (fun _ s' => R s') s := by
  induction n using Nat.strongRecOn with
  | ind n ih =>
    intro s hJ
    refine codeG_tree rfl ?_
    show wpG c _ A ((compTurn (.ListComp elt [⟨target, iter, ifs, 0⟩] scope pos) 0 it acc env).onRaise (fun x => do noteFrame x env; theTreesLotGoes x)) _ s
    refine G_on ?_
    rw [compTurn_list]
    refine G_bind (G_of (wpAny_standAt (G_bind (G_mono (G_of (turn n s hJ)) fun r s₁ h₁ => ?_))))
    cases r with
    | none => exact G_pure h₁
    | some v =>
      refine G_bind (G_of (wpAny_of_eq (ht v) ?_))
      refine G_bind (G_mono (G_of h₁) fun _ s₂ h₂ => G_bind (G_mono h₂ fun ok s₃ h₃ => ?_))
      cases ok with
      | false =>
        simp only [Bool.false_eq_true, if_false] at h₃ ⊢
        obtain ⟨m, hm, hJ'⟩ := h₃
        exact G_pure ⟨rfl, ih m hm s₃ hJ'⟩
      | true =>
        simp only [if_true] at h₃ ⊢
        refine G_bind (G_bind (G_mono h₃ fun x s₄ h₄ => G_bind (G_mono (G_of h₄) fun _ s₅ h₅ => ?_)))
        obtain ⟨m, hm, hJ'⟩ := h₅
        exact G_pure (G_pure ⟨rfl, ih m hm s₅ hJ'⟩)
theorem codeG_compStart {elt target iter : Expr} {ifs : List Expr} {scope : Scope} {pos : Pos} {it acc : Value} {env : Env} {P : Flow → Shared → Prop}
    (h : wpAny (model prog w) A (pyIter it) (fun it' s' => it' = it ∧ s' = s) (fun _ _ => False) s)
    (h0 : codeG c (model prog w) A (.compLoop (.ListComp elt [⟨target, iter, ifs, 0⟩] scope pos) 0 it acc env) P s) :
    codeG c (model prog w) A (.compStart (.ListComp elt [⟨target, iter, ifs, 0⟩] scope pos) 0 it acc env) P s := by
  refine codeG_tree rfl ?_
  show wpG c _ A ((compStart (.ListComp elt [⟨target, iter, ifs, 0⟩] scope pos) 0 it acc env).onRaise (fun x => do noteFrame x env; standAt theWindowsPlace)) _ s
  refine G_on ?_
  show wpG c _ A (do
    if (← ask).params.followText "comprehension-iter-twice" then return ← again (.compLoop (.ListComp elt [⟨target, iter, ifs, 0⟩] scope pos) 0 it acc env)
    rule "comprehension.iter-twice"
    standAt iter.pos
    again (.compLoop (.ListComp elt [⟨target, iter, ifs, 0⟩] scope pos) 0 (← pyIter it) acc env)) _ s
  refine G_bind (G_of (wpAny_askSetting ?_))
  split
  · exact G_bind (G_pure (G_pure ⟨rfl, h0⟩))
  · refine G_bind (G_of (wpAny_rule ?_))
    refine G_bind (G_of (wpAny_standAt ?_))
    refine G_bind (G_of (wpAny_mono h (fun it' s' e => ?_) fun _ _ x => x))
    obtain ⟨rfl, rfl⟩ := e
    exact G_pure ⟨rfl, h0⟩
end
end Mine
end

section
open PySem PySem.W PyProof.Rows PySem.Calls
open PySem.Sem (wp)
set_option maxRecDepth 100000
set_option maxHeartbeats 4000000
namespace Mine
def CompEnd (M : Model) (A : Around) (use : Option (Value → Sem Unit)) (Q : Value → Shared → Prop) (acc : Value) (C : Addr) (s' : Shared) : Prop :=
  match use with
  | none => ∃ m, s'.heap.Ns C m ∧ ∀ h', Heap.SameBut C s'.heap h' → Q acc { s' with heap := h' }
  | some u => wpAny M A (u acc) (fun _ s'' => ∃ m, s''.heap.Ns C m ∧ ∀ h', Heap.SameBut C s''.heap h' → Q .none { s'' with heap := h' }) (fun _ _ => False) s'
section
variable {c : Bool} {M : Model} {A : Around} {s : Shared} {env : Env}
theorem G_comp {e : Expr} {scope : Scope} {pos : Pos} {newAcc first : Sem Value} {g : Comprehension} {gs : List Comprehension} {cl : List (PySem.Str × Addr)} {use : Option (Value → Sem Unit)} {Q : Value → Shared → Prop}
    (hcl : clausesOf e = g :: gs) (hs : ∀ x, foldedSetIterable g.iter env x = pure x) (hclos : closureFor scope env = pure cl)
    (hkind : scope.kind = .function) (hnames : ∀ x ∈ scope.names, x.2 = .local → scope.names.lookup x.1 = some .local)
    (h : wpAny M A first (fun x s₁ => wpAny M A (pyIter x) (fun it s₂ => wpAny M A newAcc (fun acc s₃ =>
      wpAny M A (newFunctionEnv scope env.globals cl [] env.qual none .none (some env)) (fun cenv s₄ =>
        codeG c M A (.compStart e 0 it acc { cenv with scope := relabel scope env }) (fun _ s' => CompEnd M A use Q acc cenv.locals s') s₄) (fun _ _ => False) s₃) (fun _ _ => False) s₂) (fun _ _ => False) s₁) (fun _ _ => False) s) :
    wpG c M A (comprehension e scope env pos newAcc false first use) Q s := by
  unfold comprehension
  rw [hclos, hcl]
  refine G_bind (G_mono (G_of h) fun x s₁ h₁ => G_bind (G_of (wpAny_standAt (G_bind (G_of (wpAny_of_eq (hs x) (G_bind (G_holding (G_mono (G_of h₁) fun it s₂ h₂ => ?_)))))))))
  have hv (cenv : Env) : ∀ x ∈ (scope.names.filter fun x => (x.2 == .local || x.2 == .cell) && x.1 != (".0" : PySem.Str)).reverse, x.2 = .local →
      Env.kindOf { cenv with scope := relabel scope env } x.1 = some .local := fun x hx hl => lookup_relabel_local (hnames x (List.mem_filter.mp (List.mem_reverse.mp hx)).1 hl)
  have hv' (cenv : Env) : ∀ x ∈ (scope.names.filter fun x => (x.2 == .local || x.2 == .cell) && x.1 != (".0" : PySem.Str)).reverse.drop 1 ++ (scope.names.filter fun x => (x.2 == .local || x.2 == .cell) && x.1 != (".0" : PySem.Str)).reverse.take 1,
      x.2 = .local → Env.kindOf { cenv with scope := relabel scope env } x.1 = some .local := fun x hx hl => by
    rcases List.mem_append.mp hx with h1 | h1
    · exact hv cenv x (List.mem_of_mem_drop h1) hl
    · exact hv cenv x (List.mem_of_mem_take h1) hl
  cases use with
  | none =>
    simp only [Option.isSome_none, Bool.false_eq_true, if_false]
    refine G_bind (G_mono (G_of h₂) fun acc s₃ h₃ => G_bind (G_pure (G_bind (G_mono (G_of h₃) fun cenv s₄ h₄ => ?_))))
    refine G_holding (G_bind (G_attempt (G_holding (G_mono (G_run h₄) fun f s' hr => ?_))))
    obtain ⟨m, hn, hr⟩ := hr
    exact G_bind (G_holding (G_of (wpAny_comp_letGo (cenv := { cenv with scope := relabel scope env }) hkind _ s' m (hv cenv) hn fun h' m' _ hs' => G_pure (hr h' hs'))))
  | some u =>
    simp only [Option.isSome_some, if_true]
    refine G_bind (G_of (wpAny_standAt ?_))
    refine G_bind (G_mono (G_of h₂) fun acc s₃ h₃ => G_bind (G_pure (G_bind (G_mono (G_of h₃) fun cenv s₄ h₄ => ?_))))
    refine G_holding (G_bind (G_attempt (G_holding (G_mono (G_run h₄) fun f s' hr => ?_))))
    refine G_bind (G_of (wpAny_rule (G_bind (G_holding (G_mono (G_of hr) fun _ s'' hr' => ?_)))))
    obtain ⟨m, hn, hr'⟩ := hr'
    exact G_bind (G_of (wpAny_comp_letGo (cenv := { cenv with scope := relabel scope env }) hkind _ s'' m (hv' cenv) hn fun h' m' _ hs' => G_pure (hr' h' hs')))
end
section
variable {c : Bool} {prog : Program} {w : World} {A : Around}
theorem comp_core {I : Addr} {fp wr : List Addr} {n : Nat} {P : Nat → Value → Prop} {St : Nat → Heap → Prop} (W : Walks prog w A I fp wr n P St) (hsz : n ≤ sizeLine)
    {x : PySem.Str} {px : Pos} {iter elt : Expr} {ifs : List Expr} {scope : Scope} {pos : Pos} {cenv : Env} {D C : Addr} {EF : Option Value → Heap → Prop} {ef ch : List Addr} (hch : ∀ b ∈ ch, b ∈ ef)
    (EFf : ∀ ov h h', EF ov h → (∀ b ∈ ef, ∀ o, h.get? b = some o → h'.get? b = some o) → EF ov h')
    (EFa : ∀ ov v (s : Shared) (Q : Unit → Shared → Prop), EF ov s.heap → (∀ h' tk, EF (some v) h' → (∀ b o, b ∉ ch → s.heap.get? b = some o → h'.get? b = some o) → Q () { s with heap := h', toks := tk }) →
      wpAny (model prog w) A (assign (.Name x px) cenv v) Q (fun _ _ => False) s)
    (EFn : ∀ ov h, EF ov h → ∃ m, h.Ns C m) (d1 : D ∉ fp) (d2 : D ∉ ef) (d3 : ∀ b ∈ ef, b ∉ fp)
    {K : Nat → List Value → Heap → Prop} (hK : ∀ i ys h h', K i ys h → (∀ b o, b ≠ D → b ∉ ef → b ∉ wr → h.get? b = some o → h'.get? b = some o) → K i ys h')
    {s₂ : Shared} {R : Shared → Prop}
    (elts : ∀ i v ys h tk, i < n → P i v → EF (some v) h → K i ys h → (∀ b o, b ≠ D → b ∉ ef → b ∉ wr → s₂.heap.get? b = some o → h.get? b = some o) →
      wpG c (model prog w) A (compT ifs cenv) (fun ok s₄ => Keeps { s₂ with heap := h, toks := tk } s₄ ∧ if ok = true then wpG c (model prog w) A (eval elt cenv) (fun y s₅ => Keeps s₄ s₅ ∧ K (i + 1) (ys ++ [y]) s₅.heap) s₄ else K (i + 1) ys s₄.heap)
        { s₂ with heap := h, toks := tk })
    (fin : ∀ h tk ys, h.PlainList D ys.toArray → (∃ m, h.Ns C m) → K n ys h → (∀ b o, b ≠ D → b ∉ ef → b ∉ wr → s₂.heap.get? b = some o → h.get? b = some o) → R { s₂ with heap := h, toks := tk })
    (h0 : St 0 s₂.heap) (hD : s₂.heap.PlainList D #[]) (hE : EF none s₂.heap) (hK0 : K 0 [] s₂.heap) :
    codeG c (model prog w) A (.compStart (.ListComp elt [⟨.Name x px, iter, ifs, 0⟩] scope pos) 0 (.ref I) (.ref D) cenv) (fun _ s' => R s') s₂ := by
  refine codeG_compStart (W.self 0 _ _ _ h0 ⟨rfl, rfl⟩) ?_
  refine codeG_compLoop (fun k s' => ∃ i ys h tk ov, s' = { s₂ with heap := h, toks := tk } ∧ k = n - i ∧ i ≤ n ∧ ys.length ≤ i ∧ St i h ∧ h.PlainList D ys.toArray ∧ EF ov h ∧ K i ys h ∧
    (∀ b o, b ≠ D → b ∉ ef → b ∉ wr → s₂.heap.get? b = some o → h.get? b = some o)) ?_ (fun _ => rfl) n s₂ ⟨0, [], s₂.heap, s₂.toks, none, rfl, rfl, Nat.zero_le _, Nat.le_refl _, h0, hD, hE, hK0, fun _ _ _ _ _ e => e⟩
  have dw : D ∉ wr := fun q => d1 (W.sub _ q)
  have ew : ∀ b ∈ ef, b ∉ wr := fun b hb q => d3 b hb (W.sub _ q)
  rintro k s' ⟨i, ys, h, tk, ov, rfl, rfl, hle, hys, hst, hl, hef, hk, hkeep⟩
  rcases Nat.lt_or_ge i n with hlt | hge
  · refine W.item i _ _ _ hlt hst fun v h1 tk1 hP hst1 k1 => ?_
    have hl1 : h1.PlainList D ys.toArray := hl.at fun o e => k1 D o dw e
    have hef1 : EF ov h1 := EFf _ _ _ hef fun b hb o e => k1 b o (ew b hb) e
    have hk1 : K i ys h1 := hK _ _ _ _ hk fun b o _ _ q e => k1 b o q e
    refine EFa ov v _ _ hef1 fun h2 tk2 hef2 k2 => ?_
    have ce : ∀ b, b ∉ ef → b ∉ ch := fun b hb q => hb (hch b q)
    have hst2 : St (i + 1) h2 := W.frame _ _ _ hst1 fun b hb o e => k2 b o (fun q => d3 b (hch b q) hb) e
    have hl2 : h2.PlainList D ys.toArray := hl1.at fun o e => k2 D o (ce D d2) e
    have hk2 : K i ys h2 := hK _ _ _ _ hk1 fun b o _ q _ e => k2 b o (ce b q) e
    have kp2 : ∀ b o, b ≠ D → b ∉ ef → b ∉ wr → s₂.heap.get? b = some o → h2.get? b = some o := fun b o q1 q2 q3 e => k2 b o (ce b q2) (k1 b o q3 (hkeep b o q1 q2 q3 e))
    refine G_mono (elts i v ys h2 tk2 hlt hP hef2 hk2 kp2) fun ok s₄ h₄ => ?_
    obtain ⟨⟨h3, tk3, rfl, k3⟩, h₄⟩ := h₄
    have hst3 : St (i + 1) h3 := W.frame _ _ _ hst2 fun b _ o e => k3 b o e
    have hl3 : h3.PlainList D ys.toArray := hl2.at fun o e => k3 D o e
    have hef3 : EF (some v) h3 := EFf _ _ _ hef2 fun b _ o e => k3 b o e
    cases ok with
    | false =>
      simp only [Bool.false_eq_true, if_false] at h₄ ⊢
      exact ⟨n - (i + 1), by omega, i + 1, ys, h3, tk3, some v, rfl, rfl, hlt, by omega, hst3, hl3, hef3, h₄, fun b o q1 q2 q3 e => k3 b o (kp2 b o q1 q2 q3 e)⟩
    | true =>
      simp only [if_true] at h₄ ⊢
      refine G_mono h₄ fun y s₅ h₅ => ?_
      obtain ⟨⟨h4, tk4, rfl, k4⟩, hk4⟩ := h₅
      have hst4 : St (i + 1) h4 := W.frame _ _ _ hst3 fun b _ o e => k4 b o e
      have hl4 : h4.PlainList D ys.toArray := hl3.at fun o e => k4 D o e
      have hef4 : EF (some v) h4 := EFf _ _ _ hef3 fun b _ o e => k4 b o e
      refine wpAny_list_append_plain hl4 (fun h5 hl5 hs5 => ?_) (by rw [List.size_toArray]; omega)
      refine ⟨n - (i + 1), by omega, i + 1, ys ++ [y], h5, tk4, some v, rfl, rfl, hlt, by simp; omega, ?_, ?_, ?_, ?_, ?_⟩
      · exact W.frame _ _ _ hst4 fun b hb o e => (hs5.2 b (fun q => d1 (q ▸ hb))).trans e
      · rw [List.push_toArray] at hl5; exact hl5
      · exact EFf _ _ _ hef4 fun b hb o e => (hs5.2 b (fun q => d2 (q ▸ hb))).trans e
      · exact hK _ _ _ _ hk4 fun b o q _ _ e => (hs5.2 b q).trans e
      · exact fun b o q1 q2 q3 e => (hs5.2 b q1).trans (k4 b o (k3 b o (kp2 b o q1 q2 q3 e)))
  · have hin : i = n := by omega
    subst hin
    refine W.done _ _ _ hst fun h1 tk1 k1 => ?_
    exact fin h1 tk1 ys (hl.at fun o e => k1 D o dw e) (EFn ov _ (EFf _ _ _ hef fun b hb o e => k1 b o (ew b hb) e)) (hK _ _ _ _ hk fun b o _ _ q e => k1 b o q e) fun b o q1 q2 q3 e => k1 b o q3 (hkeep b o q1 q2 q3 e)
end
end Mine
end

section
open PySem PySem.W PyProof.Rows PySem.Calls
open PySem.Sem (wp)
set_option maxRecDepth 100000
set_option maxHeartbeats 4000000
namespace Mine
/-- what a comprehension's block must show: over the state behind the source's iterator; hi: the first address behind the block's own things; EV: how the block's variable is borne -/
structure Ob (c : Bool) (prog : Program) (w : World) (A : Around) (ifs : List Expr) (elt : Expr) (cenv : Env) (s₂ : Shared) (hi : Nat) (EV : Value → Heap → Prop) (I : Addr) (wr : List Addr) (n : Nat) (K : Nat → List Value → Heap → Prop) : Prop where
  iter : ∃ fp P St, Walks prog w A I fp wr n P St ∧ St 0 s₂.heap ∧ (∀ b ∈ fp, b < s₂.heap.objs.size) ∧
    ∀ i v ys h tk, i < n → P i v → EV v h → K i ys h → hi ≤ h.objs.size → (∀ b o, b ∉ wr → s₂.heap.get? b = some o → h.get? b = some o) →
      wpG c (model prog w) A (compT ifs cenv) (fun ok s₄ => Keeps { s₂ with heap := h, toks := tk } s₄ ∧ if ok = true then wpG c (model prog w) A (eval elt cenv) (fun y s₅ => Keeps s₄ s₅ ∧ K (i + 1) (ys ++ [y]) s₅.heap) s₄ else K (i + 1) ys s₄.heap)
        { s₂ with heap := h, toks := tk }
  few : n ≤ sizeLine
  stable : ∀ i ys h h', K i ys h → (∀ b o, b ∉ wr → (b < s₂.heap.objs.size ∨ hi ≤ b) → h.get? b = some o → h'.get? b = some o) → K i ys h'
  start : ∀ h, K 0 [] h

theorem a0 {b n : Nat} (h : b < n) : b ≠ n := by omega
theorem a1 {b n : Nat} (h : b < n) : b ≠ n + 1 := by omega
theorem a2 {b n : Nat} (h : b < n) : b ∉ [n + 1] := by simp; omega
theorem a3 {b n : Nat} (h : b < n) : b ∉ [n + 1, n + 2] := by simp; omega
theorem a4 {b n : Nat} (h : b < n ∨ n + 2 ≤ b) : b ≠ n := by omega
theorem a5 {b n : Nat} (h : b < n ∨ n + 2 ≤ b) : b ∉ [n + 1] := by simp; omega
theorem a6 {b n : Nat} (h : b < n ∨ n + 3 ≤ b) : b ≠ n := by omega
theorem a7 {b n : Nat} (h : b < n ∨ n + 3 ≤ b) : b ∉ [n + 1, n + 2] := by simp; omega
theorem a8 {b n : Nat} (h : b ∈ [n + 1]) (q : b < n) : False := by simp at h; omega
theorem a9 {b n : Nat} (h : b ∈ [n + 1, n + 2]) (q : b < n) : False := by simp at h; omega
abbrev EVL (C : Addr) (x : PySem.Str) (v : Value) (h : Heap) : Prop := ∃ m, h.Ns C m ∧ m x = some v
abbrev EVC (k : Addr) (v : Value) (h : Heap) : Prop := h.IsCell k (some v)

section
variable {c : Bool} {prog : Program} {w : World} {A : Around} {env : Env}
/-- the block, its variable a plain name -/
theorem blockL {x : PySem.Str} {px : Pos} {iter elt : Expr} {ifs : List Expr} {scope : Scope} {pos : Pos} {cl : List (PySem.Str × Addr)} {s₂ : Shared} {I : Addr} {wr : List Addr} {n : Nat} {K : Nat → List Value → Heap → Prop} {RR : Value → Addr → Shared → Prop}
    (hcell : ∀ y ∈ scope.names, y.2 ≠ .cell) (hkind : scope.kind = .function) (hx : scope.names.lookup x = some .local)
    (O : Ob c prog w A ifs elt (compEnvC scope cl (s₂.heap.objs.size + 1) env) s₂ (s₂.heap.objs.size + 2) (EVL (s₂.heap.objs.size + 1) x) I wr n K)
    (fin : ∀ h tk ys, h.PlainList s₂.heap.objs.size ys.toArray → (∃ m, h.Ns (s₂.heap.objs.size + 1) m) → K n ys h → (∀ b o, b ∉ wr → s₂.heap.get? b = some o → h.get? b = some o) → RR (.ref s₂.heap.objs.size) (s₂.heap.objs.size + 1) { s₂ with heap := h, toks := tk }) :
    wpAny (model prog w) A (newList []) (fun acc s₃ => wpAny (model prog w) A (newFunctionEnv scope env.globals cl [] env.qual none .none (some env)) (fun cenv s₄ =>
      codeG c (model prog w) A (.compStart (.ListComp elt [⟨.Name x px, iter, ifs, 0⟩] scope pos) 0 (.ref I) acc { cenv with scope := relabel scope env }) (fun _ s' => RR acc cenv.locals s') s₄) (fun _ _ => False) s₃) (fun _ _ => False) s₂ := by
  obtain ⟨⟨fp, P, St, W, hst, hfp, helt⟩, hsz, hK, hK0⟩ := O
  refine wpAny_newObj_type (wpAny_newFunctionEnv hcell (by intro y hy; simp at hy) (fun h₁ hns₁ hsb₁ => ?_) hkind)
  dsimp only at hns₁ hsb₁ ⊢
  have hC : (s₂.heap.push { cls := .type "list", dict := none, data := .seq ([] : List Value).toArray }).objs.size = s₂.heap.objs.size + 1 := Heap.size_push _ _
  generalize hH2 : s₂.heap.push { cls := .type "list", dict := none, data := .seq ([] : List Value).toArray } = H2 at hns₁ hsb₁ hC ⊢
  rw [hC] at hns₁ hsb₁ ⊢
  have old : ∀ b o, s₂.heap.get? b = some o → h₁.get? b = some o := fun b o e =>
    hsb₁.extBut b o (a1 (Heap.lt_size e)) (Heap.get?_push_of_some _ (hH2 ▸ Heap.get?_push_of_some _ e))
  have hacc : h₁.PlainList s₂.heap.objs.size #[] := ⟨_, hsb₁.extBut _ _ (Nat.ne_of_lt (Nat.lt_succ_self _)) (Heap.get?_push_of_some _ (hH2 ▸ Heap.get?_push_size _ rfl))⟩
  have lt : ∀ b o, s₂.heap.get? b = some o → b < s₂.heap.objs.size := fun b o e => Heap.lt_size e
  refine comp_core (EF := fun ov h => ∃ m, h.Ns (s₂.heap.objs.size + 1) m ∧ ∀ v, ov = some v → m x = some v) (ef := [s₂.heap.objs.size + 1]) (ch := [s₂.heap.objs.size + 1]) (C := s₂.heap.objs.size + 1) (K := K) (R := fun s' => RR (.ref s₂.heap.objs.size) (s₂.heap.objs.size + 1) s')
    (s₂ := { s₂ with heap := h₁, toks := s₂.toks + ([] : List (PySem.Str × Value)).length }) W hsz (fun _ h => h) ?_ ?_ ?_ ?_ ?_ ?_ ?_ ?_ ?_ ?_ hacc ⟨_, hns₁, fun v e => by cases e⟩ (hK0 _)
  · rintro ov h h' ⟨m, hn, hm⟩ hk
    exact ⟨m, hn.at' fun o e => hk _ (List.Mem.head _) o e, hm⟩
  · rintro ov v s Q ⟨m, hn, _⟩ hQ
    refine PyProof.Rows.assign_Name (wpAny_storeName_local (lookup_relabel_local hx) hn (fun h' hn' hs' => ?_) (by
      show ((relabel scope env).kind == .class || ((relabel scope env).kind == .module && _)) = false
      rw [show (relabel scope env).kind = .function from hkind]; rfl))
    exact hQ h' _ ⟨_, hn', fun v' e => by cases e; exact if_pos rfl⟩ fun b o q e => (hs'.2 b (fun z => q (z ▸ List.Mem.head _))).trans e
  · rintro ov h ⟨m, hn, _⟩
    exact ⟨m, hn⟩
  · exact fun q => Nat.lt_irrefl _ (hfp _ q)
  · exact fun q => by simp at q
  · exact fun b hb q => a8 hb (hfp _ q)
  · intro i ys h h' hk e
    exact hK i ys h h' hk fun b o q1 q2 e1 => e b o (a4 q2) (a5 q2) q1 e1
  · rintro i v ys h tk hlt hP ⟨m, hn, hm⟩ hk hkeep
    refine helt i v ys h tk hlt hP ⟨m, hn, hm v rfl⟩ hk ?_ fun b o q e => hkeep b o (a0 (lt b o e)) (a2 (lt b o e)) q (old b o e)
    exact hn.lt
  · intro h tk ys hl hn hk hkeep
    exact fin h tk ys hl hn hk fun b o q e => hkeep b o (a0 (lt b o e)) (a2 (lt b o e)) q (old b o e)
  · exact W.frame _ _ _ hst fun b _ o e => old b o e
/-- the block, its variable a cell -/
theorem blockC {x : PySem.Str} {px : Pos} {iter elt : Expr} {ifs : List Expr} {scope : Scope} {pos : Pos} {cl : List (PySem.Str × Addr)} {s₂ : Shared} {I : Addr} {wr : List Addr} {n : Nat} {K : Nat → List Value → Heap → Prop} {RR : Value → Addr → Shared → Prop}
    (he : newFunctionEnv scope env.globals cl [] env.qual none .none (some env) = (do
      let L ← alloc { cls := .type "dict", data := .dict #[] }
      let k ← alloc { cls := .type "cell", data := .cell none }
      pure { scope, locals := L, globals := env.globals, cells := (x, k) :: cl, qual := env.qual, func := none, code := env.code, frame := env.frame, builtins := env.builtins }))
    (hkind : scope.kind = .function) (hx : (relabel scope env).names.lookup x = some .cell)
    (O : Ob c prog w A ifs elt (compEnvC scope ((x, s₂.heap.objs.size + 2) :: cl) (s₂.heap.objs.size + 1) env) s₂ (s₂.heap.objs.size + 3) (EVC (s₂.heap.objs.size + 2)) I wr n K)
    (fin : ∀ h tk ys, h.PlainList s₂.heap.objs.size ys.toArray → (∃ m, h.Ns (s₂.heap.objs.size + 1) m) → K n ys h → (∀ b o, b ∉ wr → s₂.heap.get? b = some o → h.get? b = some o) → RR (.ref s₂.heap.objs.size) (s₂.heap.objs.size + 1) { s₂ with heap := h, toks := tk }) :
    wpAny (model prog w) A (newList []) (fun acc s₃ => wpAny (model prog w) A (newFunctionEnv scope env.globals cl [] env.qual none .none (some env)) (fun cenv s₄ =>
      codeG c (model prog w) A (.compStart (.ListComp elt [⟨.Name x px, iter, ifs, 0⟩] scope pos) 0 (.ref I) acc { cenv with scope := relabel scope env }) (fun _ s' => RR acc cenv.locals s') s₄) (fun _ _ => False) s₃) (fun _ _ => False) s₂ := by
  obtain ⟨⟨fp, P, St, W, hst, hfp, helt⟩, hsz, hK, hK0⟩ := O
  refine wpAny_newObj_type ?_
  rw [he]
  refine wpAny_bind (wpAny_alloc (wpAny_bind (wpAny_alloc (wpAny_pure ?_))))
  have hC : (s₂.heap.push { cls := .type "list", dict := none, data := .seq ([] : List Value).toArray }).objs.size = s₂.heap.objs.size + 1 := Heap.size_push _ _
  have hD : ((s₂.heap.push { cls := .type "list", dict := none, data := .seq ([] : List Value).toArray }).push { cls := .type "dict", data := .dict #[] }).objs.size = s₂.heap.objs.size + 2 := by rw [Heap.size_push, hC]
  dsimp only
  have hacc : (((s₂.heap.push { cls := .type "list", dict := none, data := .seq ([] : List Value).toArray }).push { cls := .type "dict", data := .dict #[] }).push { cls := .type "cell", data := .cell none }).PlainList s₂.heap.objs.size #[] :=
    ⟨_, Heap.get?_push_of_some _ (Heap.get?_push_of_some _ (Heap.get?_push_size _ rfl))⟩
  have hns₁ : (((s₂.heap.push { cls := .type "list", dict := none, data := .seq ([] : List Value).toArray }).push { cls := .type "dict", data := .dict #[] }).push { cls := .type "cell", data := .cell none }).Ns (s₂.heap.objs.size + 1) (fun _ => none) := by
    rw [← hC]
    exact (Heap.Ns.new ..).at' fun o e => Heap.get?_push_of_some _ e
  have hcl : (((s₂.heap.push { cls := .type "list", dict := none, data := .seq ([] : List Value).toArray }).push { cls := .type "dict", data := .dict #[] }).push { cls := .type "cell", data := .cell none }).IsCell (s₂.heap.objs.size + 2) none := by
    rw [← hD]
    exact ⟨_, Heap.get?_push_size _ rfl, rfl⟩
  have old : ∀ b o, s₂.heap.get? b = some o → (((s₂.heap.push { cls := .type "list", dict := none, data := .seq ([] : List Value).toArray }).push { cls := .type "dict", data := .dict #[] }).push { cls := .type "cell", data := .cell none }).get? b = some o := fun b o e =>
    Heap.get?_push_of_some _ (Heap.get?_push_of_some _ (Heap.get?_push_of_some _ e))
  rw [hC, hD]
  generalize ((s₂.heap.push { cls := .type "list", dict := none, data := .seq ([] : List Value).toArray }).push { cls := .type "dict", data := .dict #[] }).push { cls := .type "cell", data := .cell none } = h₁ at hacc hns₁ hcl old ⊢
  have lt : ∀ b o, s₂.heap.get? b = some o → b < s₂.heap.objs.size := fun b o e => Heap.lt_size e
  have cellAt : ∀ {h h' : Heap} {k : Addr} {v : Option Value}, h.IsCell k v → (∀ o, h.get? k = some o → h'.get? k = some o) → h'.IsCell k v := fun ⟨o, ho, hd⟩ e => ⟨o, e o ho, hd⟩
  refine comp_core (EF := fun ov h => (∃ m, h.Ns (s₂.heap.objs.size + 1) m) ∧ h.IsCell (s₂.heap.objs.size + 2) ov) (ef := [s₂.heap.objs.size + 1, s₂.heap.objs.size + 2]) (ch := [s₂.heap.objs.size + 2]) (C := s₂.heap.objs.size + 1) (K := K) (R := fun s' => RR (.ref s₂.heap.objs.size) (s₂.heap.objs.size + 1) s')
    (s₂ := { s₂ with heap := h₁ }) W hsz (fun _ h => List.Mem.tail _ h) ?_ ?_ ?_ ?_ ?_ ?_ ?_ ?_ ?_ ?_ hacc ⟨⟨_, hns₁⟩, hcl⟩ (hK0 _)
  · rintro ov h h' ⟨⟨m, hn⟩, hc⟩ hk
    exact ⟨⟨m, hn.at' fun o e => hk _ (List.Mem.head _) o e⟩, cellAt hc fun o e => hk _ (List.Mem.tail _ (List.Mem.head _)) o e⟩
  · rintro ov v s Q ⟨⟨m, hn⟩, hc⟩ hQ
    refine PyProof.Rows.assign_Name (wpAny_storeName_cell (c := s₂.heap.objs.size + 2) hkind hx (by simp [List.lookup]) hc fun h' hc' hs' => ?_)
    refine hQ h' _ ⟨⟨m, hn.at' fun o e => (hs'.2 _ (Nat.ne_of_lt (Nat.lt_succ_self _))).trans e⟩, hc'⟩ fun b o q e => (hs'.2 b (fun z => q (z ▸ List.Mem.head _))).trans e
  · rintro ov h ⟨⟨m, hn⟩, _⟩
    exact ⟨m, hn⟩
  · exact fun q => Nat.lt_irrefl _ (hfp _ q)
  · exact fun q => by simp at q
  · exact fun b hb q => a9 hb (hfp _ q)
  · intro i ys h h' hk e
    exact hK i ys h h' hk fun b o q1 q2 e1 => e b o (a6 q2) (a7 q2) q1 e1
  · rintro i v ys h tk hlt hP ⟨⟨m, hn⟩, hc⟩ hk hkeep
    refine helt i v ys h tk hlt hP hc hk ?_ fun b o q e => hkeep b o (a0 (lt b o e)) (a3 (lt b o e)) q (old b o e)
    obtain ⟨o, ho, _⟩ := hc
    exact Heap.lt_size ho
  · intro h tk ys hl hn hk hkeep
    exact fin h tk ys hl hn hk fun b o q e => hkeep b o (a0 (lt b o e)) (a3 (lt b o e)) q (old b o e)
  · exact W.frame _ _ _ hst fun b _ o e => old b o e
end
end Mine
end

section
open PySem PySem.W PyProof.Rows PySem.Calls
open PySem.Sem (wp)
set_option maxRecDepth 100000
set_option maxHeartbeats 4000000
namespace Mine
section
variable {c : Bool} {prog : Program} {w : World} {A : Around} {env : Env} {s : Shared}
variable {x : PySem.Str} {px : Pos} {iter elt : Expr} {ifs : List Expr} {scope : Scope} {pos : Pos} {cl : List (PySem.Str × Addr)}
/-- a comprehension's value, its variable a plain name -/
theorem evalL {Q : Value → Shared → Prop} (hclos : closureFor scope env = pure cl) (hkind : scope.kind = .function) (hnames : ∀ y ∈ scope.names, y.2 = .local → scope.names.lookup y.1 = some .local)
    (hcell : ∀ y ∈ scope.names, y.2 ≠ .cell) (hx : scope.names.lookup x = some .local) (hs : ∀ x, foldedSetIterable iter env x = pure x)
    (h : wpAny (model prog w) A (eval iter env) (fun xv s₁ => wpAny (model prog w) A (pyIter xv) (fun it s₂ => ∃ I wr n K, it = .ref I ∧
      Ob c prog w A ifs elt (compEnvC scope cl (s₂.heap.objs.size + 1) env) s₂ (s₂.heap.objs.size + 2) (EVL (s₂.heap.objs.size + 1) x) I wr n K ∧
      ∀ h tk ys, h.PlainList s₂.heap.objs.size ys.toArray → K n ys h → (∀ b o, b ∉ wr → s₂.heap.get? b = some o → h.get? b = some o) → Q (.ref s₂.heap.objs.size) { s₂ with heap := h, toks := tk }) (fun _ _ => False) s₁) (fun _ _ => False) s) :
    wpG c (model prog w) A (eval (.ListComp elt [⟨.Name x px, iter, ifs, 0⟩] scope pos) env) Q s := by
  rw [eval_ListComp]
  refine G_comp (use := none) (g := ⟨.Name x px, iter, ifs, 0⟩) (gs := []) rfl hs hclos hkind hnames (wpAny_mono h (fun xv s₁ h₁ => wpAny_mono h₁ (fun it s₂ h₂ => ?_) fun _ _ e => e) fun _ _ e => e)
  obtain ⟨I, wr, n, K, rfl, O, fin⟩ := h₂
  refine blockL (RR := fun acc C s' => CompEnd (model prog w) A none Q acc C s') hcell hkind hx O fun h tk ys hl hn hk hkeep => ?_
  obtain ⟨m, hn⟩ := hn
  refine ⟨m, hn, fun h' hs' => fin h' tk ys (hl.extBut hs'.extBut (Nat.ne_of_lt (Nat.lt_succ_self _))) (O.stable _ _ _ _ hk fun b o _ q e => (hs'.2 b ?_).trans e) fun b o q e => (hs'.2 b (a1 (Heap.lt_size e))).trans (hkeep b o q e)⟩
  rcases q with q | q
  · exact a1 q
  · exact Ne.symm (Nat.ne_of_lt q)
/-- a comprehension's value, its variable a cell -/
theorem evalC {Q : Value → Shared → Prop} (hclos : closureFor scope env = pure cl) (hkind : scope.kind = .function) (hnames : ∀ y ∈ scope.names, y.2 = .local → scope.names.lookup y.1 = some .local)
    (he : newFunctionEnv scope env.globals cl [] env.qual none .none (some env) = (do
      let L ← alloc { cls := .type "dict", data := .dict #[] }
      let k ← alloc { cls := .type "cell", data := .cell none }
      pure { scope, locals := L, globals := env.globals, cells := (x, k) :: cl, qual := env.qual, func := none, code := env.code, frame := env.frame, builtins := env.builtins }))
    (hx : (relabel scope env).names.lookup x = some .cell) (hs : ∀ x, foldedSetIterable iter env x = pure x)
    (h : wpAny (model prog w) A (eval iter env) (fun xv s₁ => wpAny (model prog w) A (pyIter xv) (fun it s₂ => ∃ I wr n K, it = .ref I ∧
      Ob c prog w A ifs elt (compEnvC scope ((x, s₂.heap.objs.size + 2) :: cl) (s₂.heap.objs.size + 1) env) s₂ (s₂.heap.objs.size + 3) (EVC (s₂.heap.objs.size + 2)) I wr n K ∧
      ∀ h tk ys, h.PlainList s₂.heap.objs.size ys.toArray → K n ys h → (∀ b o, b ∉ wr → s₂.heap.get? b = some o → h.get? b = some o) → Q (.ref s₂.heap.objs.size) { s₂ with heap := h, toks := tk }) (fun _ _ => False) s₁) (fun _ _ => False) s) :
    wpG c (model prog w) A (eval (.ListComp elt [⟨.Name x px, iter, ifs, 0⟩] scope pos) env) Q s := by
  rw [eval_ListComp]
  refine G_comp (use := none) (g := ⟨.Name x px, iter, ifs, 0⟩) (gs := []) rfl hs hclos hkind hnames (wpAny_mono h (fun xv s₁ h₁ => wpAny_mono h₁ (fun it s₂ h₂ => ?_) fun _ _ e => e) fun _ _ e => e)
  obtain ⟨I, wr, n, K, rfl, O, fin⟩ := h₂
  refine blockC (RR := fun acc C s' => CompEnd (model prog w) A none Q acc C s') he hkind hx O fun h tk ys hl hn hk hkeep => ?_
  obtain ⟨m, hn⟩ := hn
  refine ⟨m, hn, fun h' hs' => fin h' tk ys (hl.extBut hs'.extBut (Nat.ne_of_lt (Nat.lt_succ_self _))) (O.stable _ _ _ _ hk fun b o _ q e => (hs'.2 b ?_).trans e) fun b o q e => (hs'.2 b (a1 (Heap.lt_size e))).trans (hkeep b o q e)⟩
  rcases q with q | q
  · exact a1 q
  · exact Ne.symm (Nat.ne_of_lt (Nat.lt_of_succ_lt q))
/-- a comprehension's value stored in a name of the frame's -/
theorem asgL {y : PySem.Str} {py spos : Pos} {h₀ : Heap} {Q : Flow → Shared → Prop} (hsw : swapsWith (.ListComp elt [⟨.Name x px, iter, ifs, 0⟩] scope pos) (some (.Name y py)) spos.line env = pure true)
    (hclos : closureFor scope env = pure cl) (hkind : scope.kind = .function) (hnames : ∀ y ∈ scope.names, y.2 = .local → scope.names.lookup y.1 = some .local)
    (hcell : ∀ y ∈ scope.names, y.2 ≠ .cell) (hx : scope.names.lookup x = some .local) (hs : ∀ x, foldedSetIterable iter env x = pure x) (hy : env.kindOf y = some .local) (hp : (env.scope.kind == .class || (env.scope.kind == .module && env.locals != env.globals)) = false)
    (h : wpAny (model prog w) A (eval iter env) (fun xv s₁ => wpAny (model prog w) A (pyIter xv) (fun it s₂ => ∃ I wr n K m, it = .ref I ∧ Fr h₀ env.locals s₂.heap m ∧ env.locals ∉ wr ∧ (∀ b ∈ wr, h₀.get? b = none) ∧
      Ob c prog w A ifs elt (compEnvC scope cl (s₂.heap.objs.size + 1) env) s₂ (s₂.heap.objs.size + 2) (EVL (s₂.heap.objs.size + 1) x) I wr n K ∧ (∀ i ys h h', K i ys h → Heap.SameBut env.locals h h' → K i ys h') ∧
      ∀ h tk ys, h.PlainList s₂.heap.objs.size ys.toArray → K n ys h → Fr h₀ env.locals h (fun z => if z = y then some (.ref s₂.heap.objs.size) else m z) → (∀ b o, b ≠ env.locals → b ∉ wr → s₂.heap.get? b = some o → h.get? b = some o) → Q .next { s₂ with heap := h, toks := tk })
        (fun _ _ => False) s₁) (fun _ _ => False) s) :
    wpG c (model prog w) A (exec (.Assign [.Name y py] (.ListComp elt [⟨.Name x px, iter, ifs, 0⟩] scope pos) spos) env) Q s := by
  rw [exec_Assign_Name_used _ _ _ _ hsw]
  refine G_bind (G_of (wpAny_standAt (G_bind ?_)))
  show wpG c _ A (do let _ ← comprehension (.ListComp elt [⟨.Name x px, iter, ifs, 0⟩] scope pos) scope env _ (newList []) false (eval iter env) (some (assign (.Name y py) env))) _ s
  refine G_bind (G_mono (G_comp (use := some (assign (.Name y py) env)) (g := ⟨.Name x px, iter, ifs, 0⟩) (gs := []) (Q := fun _ s' => Q .next s') rfl hs hclos hkind hnames
    (wpAny_mono h (fun xv s₁ h₁ => wpAny_mono h₁ (fun it s₂ h₂ => ?_) fun _ _ e => e) fun _ _ e => e)) fun _ s' hq => G_pure (G_pure hq))
  obtain ⟨I, wr, n, K, m, rfl, F, hLw, hw, O, hKL, fin⟩ := h₂
  refine blockL (RR := fun acc C s' => CompEnd (model prog w) A (some (assign (.Name y py) env)) (fun _ s' => Q .next s') acc C s') hcell hkind hx O fun h tk ys hl hn hk hkeep => ?_
  obtain ⟨mC, hn⟩ := hn
  have hLlt : env.locals < s₂.heap.objs.size := F.ns.lt
  have F1 : Fr h₀ env.locals h m := ⟨F.ns.at' fun o e => hkeep _ o hLw e, fun b o e => hkeep b o (fun q => by rw [hw b q] at e; cases e) (F.keep b o e), F.above⟩
  show wpAny _ A (assign (.Name y py) env (.ref s₂.heap.objs.size)) _ _ _
  refine PyProof.Rows.assign_Name (wpAny_storeName_local hy F1.ns (fun h₂ hn₂ hs₂ => ?_) hp)
  have F2 := F1.set hn₂ hs₂
  refine ⟨mC, hn.sameBut hs₂ (Ne.symm (a1 hLlt)), fun h₃ hs₃ => ?_⟩
  have nC : ∀ b o, s₂.heap.get? b = some o → b ≠ s₂.heap.objs.size + 1 := fun b o e => a1 (Heap.lt_size e)
  refine fin h₃ _ ys ((hl.extBut hs₂.extBut (Ne.symm (a0 hLlt))).extBut hs₃.extBut (Nat.ne_of_lt (Nat.lt_succ_self _))) (O.stable _ _ _ _ (hKL _ _ _ _ hk hs₂) fun b o _ q e => (hs₃.2 b ?_).trans e) ?_ fun b o q1 q2 e => (hs₃.2 b (nC b o e)).trans ((hs₂.2 b q1).trans (hkeep b o q2 e))
  · rcases q with q | q
    · exact a1 q
    · exact Ne.symm (Nat.ne_of_lt q)
  · refine ⟨F2.ns.sameBut hs₃ (a1 hLlt), fun b o e => (hs₃.2 b fun q => ?_).trans (F2.keep b o e), F2.above⟩
    have := F.keep b o e
    exact nC b o this q
/-- a comprehension's value stored in a name of the frame's, its variable a cell -/
theorem asgC {y : PySem.Str} {py spos : Pos} {h₀ : Heap} {Q : Flow → Shared → Prop} (hsw : swapsWith (.ListComp elt [⟨.Name x px, iter, ifs, 0⟩] scope pos) (some (.Name y py)) spos.line env = pure true)
    (hclos : closureFor scope env = pure cl) (hkind : scope.kind = .function) (hnames : ∀ y ∈ scope.names, y.2 = .local → scope.names.lookup y.1 = some .local)
    (he : newFunctionEnv scope env.globals cl [] env.qual none .none (some env) = (do
      let L ← alloc { cls := .type "dict", data := .dict #[] }
      let k ← alloc { cls := .type "cell", data := .cell none }
      pure { scope, locals := L, globals := env.globals, cells := (x, k) :: cl, qual := env.qual, func := none, code := env.code, frame := env.frame, builtins := env.builtins }))
    (hx : (relabel scope env).names.lookup x = some .cell) (hs : ∀ x, foldedSetIterable iter env x = pure x) (hy : env.kindOf y = some .local) (hp : (env.scope.kind == .class || (env.scope.kind == .module && env.locals != env.globals)) = false)
    (h : wpAny (model prog w) A (eval iter env) (fun xv s₁ => wpAny (model prog w) A (pyIter xv) (fun it s₂ => ∃ I wr n K m, it = .ref I ∧ Fr h₀ env.locals s₂.heap m ∧ env.locals ∉ wr ∧ (∀ b ∈ wr, h₀.get? b = none) ∧
      Ob c prog w A ifs elt (compEnvC scope ((x, s₂.heap.objs.size + 2) :: cl) (s₂.heap.objs.size + 1) env) s₂ (s₂.heap.objs.size + 3) (EVC (s₂.heap.objs.size + 2)) I wr n K ∧ (∀ i ys h h', K i ys h → Heap.SameBut env.locals h h' → K i ys h') ∧
      ∀ h tk ys, h.PlainList s₂.heap.objs.size ys.toArray → K n ys h → Fr h₀ env.locals h (fun z => if z = y then some (.ref s₂.heap.objs.size) else m z) → (∀ b o, b ≠ env.locals → b ∉ wr → s₂.heap.get? b = some o → h.get? b = some o) → Q .next { s₂ with heap := h, toks := tk })
        (fun _ _ => False) s₁) (fun _ _ => False) s) :
    wpG c (model prog w) A (exec (.Assign [.Name y py] (.ListComp elt [⟨.Name x px, iter, ifs, 0⟩] scope pos) spos) env) Q s := by
  rw [exec_Assign_Name_used _ _ _ _ hsw]
  refine G_bind (G_of (wpAny_standAt (G_bind ?_)))
  show wpG c _ A (do let _ ← comprehension (.ListComp elt [⟨.Name x px, iter, ifs, 0⟩] scope pos) scope env _ (newList []) false (eval iter env) (some (assign (.Name y py) env))) _ s
  refine G_bind (G_mono (G_comp (use := some (assign (.Name y py) env)) (g := ⟨.Name x px, iter, ifs, 0⟩) (gs := []) (Q := fun _ s' => Q .next s') rfl hs hclos hkind hnames
    (wpAny_mono h (fun xv s₁ h₁ => wpAny_mono h₁ (fun it s₂ h₂ => ?_) fun _ _ e => e) fun _ _ e => e)) fun _ s' hq => G_pure (G_pure hq))
  obtain ⟨I, wr, n, K, m, rfl, F, hLw, hw, O, hKL, fin⟩ := h₂
  refine blockC (RR := fun acc C s' => CompEnd (model prog w) A (some (assign (.Name y py) env)) (fun _ s' => Q .next s') acc C s') he hkind hx O fun h tk ys hl hn hk hkeep => ?_
  obtain ⟨mC, hn⟩ := hn
  have hLlt : env.locals < s₂.heap.objs.size := F.ns.lt
  have F1 : Fr h₀ env.locals h m := ⟨F.ns.at' fun o e => hkeep _ o hLw e, fun b o e => hkeep b o (fun q => by rw [hw b q] at e; cases e) (F.keep b o e), F.above⟩
  show wpAny _ A (assign (.Name y py) env (.ref s₂.heap.objs.size)) _ _ _
  refine PyProof.Rows.assign_Name (wpAny_storeName_local hy F1.ns (fun h₂ hn₂ hs₂ => ?_) hp)
  have F2 := F1.set hn₂ hs₂
  refine ⟨mC, hn.sameBut hs₂ (Ne.symm (a1 hLlt)), fun h₃ hs₃ => ?_⟩
  have nC : ∀ b o, s₂.heap.get? b = some o → b ≠ s₂.heap.objs.size + 1 := fun b o e => a1 (Heap.lt_size e)
  refine fin h₃ _ ys ((hl.extBut hs₂.extBut (Ne.symm (a0 hLlt))).extBut hs₃.extBut (Nat.ne_of_lt (Nat.lt_succ_self _))) (O.stable _ _ _ _ (hKL _ _ _ _ hk hs₂) fun b o _ q e => (hs₃.2 b ?_).trans e) ?_ fun b o q1 q2 e => (hs₃.2 b (nC b o e)).trans ((hs₂.2 b q1).trans (hkeep b o q2 e))
  · rcases q with q | q
    · exact a1 q
    · exact Ne.symm (Nat.ne_of_lt (Nat.lt_of_succ_lt q))
  · refine ⟨F2.ns.sameBut hs₃ (a1 hLlt), fun b o e => (hs₃.2 b fun q => ?_).trans (F2.keep b o e), F2.above⟩
    have := F.keep b o e
    exact nC b o this q
end
end Mine
end

section
open PySem PySem.W PyProof.Rows PySem.Calls
set_option maxRecDepth 100000
set_option maxHeartbeats 8000000
namespace Mine
/-- keeps the walk from a post -/
def Hold (P : Prop) : Prop := P
theorem hold_of {α : Type} {M : Model} {A : Around} {E : Value → Shared → Prop} {s : Shared} {t : Sem α} {Q : α → Shared → Prop} (h : wpAny M A t (fun v s' => Hold (Q v s')) E s) : wpAny M A t Q E s := h
section
variable {w : World} {mean : Mn} {mg mb : Nm} {M : Model} {A : Around} {E : Value → Shared → Prop} {s : Shared} {env : Env} {x : PySem.Str} {pos : Pos} {v : Value} {Q : Value → Shared → Prop}
/-- names inside a block -/
theorem nmB (X : (hd.heap_39 w.params).In s.heap) (T : Top VV LL mean mg mb s.heap) (e : nsIn (hd.heap_39 w.params) mainGlobals x = some none) (hv : bootBuiltins x = some v) (hn : x ≠ "__name__")
    (hg : env.globals = mainGlobals) (hb : env.builtins = builtinsNs) (hk : env.scope.kind = .function) (hx : env.kindOf x = some .globalImplicit) (hd : (x == ("__debug__" : PySem.Str)) = false) (h : Q v s) :
    wpAny M A (eval (.Name x pos) env) Q E s :=
  Name_function_global hk hx (loadGlobal_builtin (env := env) (by rw [hg]; exact T.g) (mg_none_of X T.g e) (by rw [hb]; exact T.b) ((T.builtins x hn).trans hv) h) hd
theorem nmK (X : (hd.heap_39 w.params).In s.heap) (T : Top VV LL mean mg mb s.heap) (e : nsIn (hd.heap_39 w.params) mainGlobals x = some (some v))
    (hg : env.globals = mainGlobals) (hk : env.scope.kind = .function) (hx : env.kindOf x = some .globalImplicit) (hd : (x == ("__debug__" : PySem.Str)) = false) (h : Q v s) :
    wpAny M A (eval (.Name x pos) env) Q E s :=
  Name_function_global hk hx (loadGlobal_global (env := env) (by rw [hg]; exact T.g) (mg_of X T.g e) h) hd
theorem nmL {m : Nm} (hn : s.heap.Ns env.locals m) (hv : m x = some v) (hk : env.scope.kind = .function) (hx : env.kindOf x = some .local) (hd : (x == ("__debug__" : PySem.Str)) = false) (h : Q v s) :
    wpAny M A (eval (.Name x pos) env) Q E s := wpAny_Name (wpAny_loadName_local hk hx hn hv h) hd
theorem nmC {k : Addr} (hc : env.cells.lookup x = some k) (hv : s.heap.IsCell k (some v)) (hk : env.scope.kind = .function) (hx : env.kindOf x = some .cell) (hd : (x == ("__debug__" : PySem.Str)) = false) (h : Q v s) :
    wpAny M A (eval (.Name x pos) env) Q E s := wpAny_Name (wpAny_loadName_cell hk hx hc hv h) hd
theorem nmF {k : Addr} (hc : env.cells.lookup x = some k) (hv : s.heap.IsCell k (some v)) (hk : env.scope.kind = .function) (hx : env.kindOf x = some .free) (hd : (x == ("__debug__" : PySem.Str)) = false) (hc' : (x == ("__classdict__" : PySem.Str)) = false) (h : Q v s) :
    wpAny M A (eval (.Name x pos) env) Q E s := wpAny_Name (wpAny_loadName_free hk hx hc hv h hc') hd
end
end Mine
end

section
open PySem PySem.W PyProof.Rows PySem.Calls
set_option maxRecDepth 100000
set_option maxHeartbeats 8000000
namespace Mine
theorem iter_range {prog : Program} {w : World} {A : Around} {E : Value → Shared → Prop} {s : Shared} {r : Addr} {n : Nat} {b : Int} {t u v : Tok} {Q : Value → Shared → Prop} (hr : IsRange s.heap r 0 b 1 t u v) (hb : b = (n : Int)) (hn : n ≤ 1000)
    (hQ : ∀ h', IsRangeIter h' s.heap.objs.size 0 n 1 → (∀ b o, s.heap.get? b = some o → h'.get? b = some o) → h'.objs.size = s.heap.objs.size + 1 → Q (.ref s.heap.objs.size) { s with heap := h' }) :
    wpAny (model prog w) A (pyIter (.ref r)) Q E s := by
  subst hb
  have hz : Builtin.Range.rangeSize 0 (n : Int) 1 = (n : Int) := by
    unfold Builtin.Range.rangeSize
    simp
    omega
  have hs : Builtin.Range.small 0 (n : Int) 1 = true := by
    have hf : Builtin.Range.rangeFitsLong (n : Int) = true := by
      unfold Builtin.Range.rangeFitsLong
      simp only [Bool.and_eq_true, decide_eq_true_eq]
      omega
    unfold Builtin.Range.small
    simp only [hz]
    simp [hf]
    decide
  exact wpAny_pyIter_range hr hs (by rw [hz]; exact hQ _ (Heap.get?_push_size _ rfl) (fun b o e => Heap.get?_push_of_some _ e) (Heap.size_push _ _))
theorem ints_snoc : ∀ {vs : List Value} {ns : List Int} {x : Int} {t : Tok}, IntsAre vs ns → IntsAre (vs ++ [.int x t]) (ns ++ [x])
  | _, _, _, _, .nil => .cons _ _ .nil
  | _, _, _, _, .cons _ _ h => .cons _ _ (ints_snoc h)
/-- the source range(n), and its iterator -/
theorem src_range {w : World} {mean : Mn} {mg mb : Nm} {A : Around} {s : Shared} {env : Env} {pos pn pc : Pos} {k : Nat} (n : Nat) {b : Int} {Q : Value → Shared → Prop} (X : (hd.heap_39 w.params).In s.heap) (T : Top VV LL mean mg mb s.heap) (hbn : b = (n : Int)) (hn : n ≤ 1000)
    (e : nsIn (hd.heap_39 w.params) mainGlobals (Str.ofString "range") = some none) (hg : env.globals = mainGlobals) (hb : env.builtins = builtinsNs) (hk : env.scope.kind = .function) (hx : env.kindOf (Str.ofString "range") = some .globalImplicit)
    (he : eval (.Call (.Name (Str.ofString "range") pn) [.Constant (.int b) k pc] [] pos) env = (do callWith pos (← eval (.Name (Str.ofString "range") pn) env) [] (backTo pos (starEach [.Constant (.int b) k pc] env)) (backToKw pos (keywordEach [] env))))
    (hst : starEach [.Constant (.int b) k pc] env = (false, eval (.Constant (.int b) k pc) env) :: starEach [] env) (hpl : (backTo pos (starEach [] env)).any (·.1) = false)
    (h : ∀ I h' tk, IsRangeIter h' I 0 n 1 → (∀ b o, s.heap.get? b = some o → h'.get? b = some o) → s.heap.objs.size ≤ I → I < h'.objs.size → Q (.ref I) { s with heap := h', toks := tk }) :
    wpAny (model PR w) A (eval (.Call (.Name (Str.ofString "range") pn) [.Constant (.int b) k pc] [] pos) env) (fun xv s₁ => wpAny (model PR w) A (pyIter xv) Q (fun _ _ => False) s₁) (fun _ _ => False) s := by
  refine Call_ ?_ he
  refine nmB X T e boot_range (by decide) hg hb hk hx (by decide) ?_
  refine callWith_type1 ?_ hst hpl
  rw [hst]
  refine spliced_cons ?_
  refine wpAny_Constant_int (k := k) (pos := pc) ?_
  refine args_nil (env := env) (pos := pos) ?_
  refine call_range_1 ?_
  refine iter_range (n := n) (Heap.get?_push_size _ rfl) hbn hn fun h' hit hk' hz => ?_
  refine h _ h' _ hit (fun b o e => hk' b o (Heap.get?_push_of_some _ e)) ?_ ?_
  · show s.heap.objs.size ≤ (s.heap.push _).objs.size
    rw [Heap.size_push]; exact Nat.le_succ _
  · rw [hz]; exact Nat.lt_succ_self _
/-- a block over range(n) -/
theorem obRange {c : Bool} {prog : Program} {w : World} {A : Around} {ifs : List Expr} {elt : Expr} {cenv : Env} {s₂ : Shared} {hi : Nat} {EV : Value → Heap → Prop} {I : Addr} {n : Nat} {K : Nat → List Value → Heap → Prop}
    (hh : A.handled = none) (hst : IsRangeIter s₂.heap I 0 n 1) (few : n ≤ 1000)
    (stable : ∀ i ys h h', K i ys h → (∀ b o, b ∉ [I] → (b < s₂.heap.objs.size ∨ hi ≤ b) → h.get? b = some o → h'.get? b = some o) → K i ys h') (start : ∀ h, K 0 [] h)
    (elts : ∀ i t ys h tk, i < n → EV (.int (i : Int) t) h → K i ys h → hi ≤ h.objs.size → (∀ b o, b ∉ [I] → s₂.heap.get? b = some o → h.get? b = some o) →
      wpG c (model prog w) A (compT ifs cenv) (fun ok s₄ => Keeps { s₂ with heap := h, toks := tk } s₄ ∧ if ok = true then wpG c (model prog w) A (eval elt cenv) (fun y s₅ => Keeps s₄ s₅ ∧ K (i + 1) (ys ++ [y]) s₅.heap) s₄ else K (i + 1) ys s₄.heap)
        { s₂ with heap := h, toks := tk }) : Ob c prog w A ifs elt cenv s₂ hi EV I [I] n K where
  iter := ⟨[I], _, _, Walks.range hh I 0 1 n, by simpa using hst, fun b hb => by rw [List.mem_singleton.mp hb]; exact Heap.lt_size hst, fun i v ys h tk hlt hP hE hk hh2 hkeep => by
    obtain ⟨t, rfl⟩ := hP
    have e : (0 : Int) + (i : Int) * 1 = (i : Int) := by omega
    rw [e] at hE
    exact elts i t ys h tk hlt hE hk hh2 hkeep⟩
  few := by rw [sizeLine_eq]; omega
  stable := stable
  start := start
/-- a block over range(n) whose element is an int -/
theorem obRangeI {c : Bool} {prog : Program} {w : World} {A : Around} {elt : Expr} {cenv : Env} {s₂ : Shared} {hi : Nat} {EV : Value → Heap → Prop} {I : Addr} {n : Nat} (f : Nat → Int)
    (hh : A.handled = none) (hst : IsRangeIter s₂.heap I 0 n 1) (few : n ≤ 1000)
    (elts : ∀ i t h tk, i < n → EV (.int (i : Int) t) h → hi ≤ h.objs.size → (∀ b o, b ∉ [I] → s₂.heap.get? b = some o → h.get? b = some o) →
      wpG c (model prog w) A (eval elt cenv) (fun y s₅ => Keeps { s₂ with heap := h, toks := tk } s₅ ∧ ∃ t, y = .int (f i) t) { s₂ with heap := h, toks := tk }) :
    Ob c prog w A [] elt cenv s₂ hi EV I [I] n (fun i ys _ => IntsAre ys ((List.range i).map f)) :=
  obRange hh hst few (fun _ _ _ _ h _ => h) (fun _ => .nil) fun i t ys h tk hlt hE hk hh2 hkeep =>
    T_nil ⟨⟨h, tk, rfl, fun _ _ e => e⟩, by
      rw [if_pos rfl]
      refine G_mono (elts i t h tk hlt hE hh2 hkeep) fun y s₅ h₅ => ⟨h₅.1, ?_⟩
      obtain ⟨_, t', rfl⟩ := h₅
      rw [List.range_succ, List.map_append]
      exact ints_snoc hk⟩
end Mine
end

section
open PySem PySem.W PyProof.Rows PySem.Calls
set_option maxRecDepth 100000
set_option maxHeartbeats 8000000
namespace Mine
noncomputable def path0 (s : Nat) : List Int := (List.range 6).map fun (k : Nat) => max 0 ((k : Int) + (s : Int) - 5)
noncomputable def paths0 : List (List Int) := (List.range 6).map path0
noncomputable def bump (k : Nat) (p : List Int) : List Int := p.set (k + 1) (min (p.getD k 0 + 1) (p.getD (k + 2) 0))
noncomputable def runP (ns : List Int) (ps : List (List Int)) : List (List Int) := ns.foldl (fun ps k => ps.map (bump k.toNat)) ps

/-- lists of ints at rising places, from lo on -/
def ListsAt (lo : Nat) (h : Heap) (as : List Addr) (ps : List (List Int)) : Prop :=
  as.length = ps.length ∧ as.Pairwise (· < ·) ∧ (∀ a ∈ as, lo ≤ a) ∧ ∀ (j : Nat) (a : Addr) (p : List Int), as[j]? = some a → ps[j]? = some p → ∃ vs, h.IsList a vs.toArray ∧ IntsAre vs p

theorem ListsAt.stable {lo : Nat} {h h' : Heap} {as : List Addr} {ps : List (List Int)} (x : ListsAt lo h as ps) (k : ∀ b o, lo ≤ b → h.get? b = some o → h'.get? b = some o) : ListsAt lo h' as ps :=
  ⟨x.1, x.2.1, x.2.2.1, fun j a p ha hp => by
    obtain ⟨vs, hl, hi⟩ := x.2.2.2 j a p ha hp
    exact ⟨vs, hl.at fun o e => k a o (x.2.2.1 a (List.mem_of_getElem? ha)) e, hi⟩⟩
theorem ListsAt.nil {lo : Nat} {h : Heap} : ListsAt lo h [] [] := ⟨rfl, .nil, (fun _ h => nomatch h), fun _ _ _ h _ => by simp at h⟩
theorem ListsAt.lt {lo : Nat} {h : Heap} {as : List Addr} {ps : List (List Int)} (x : ListsAt lo h as ps) : ∀ a ∈ as, a < h.objs.size := fun a ha => by
  obtain ⟨j, hj⟩ := List.mem_iff_getElem?.mp ha
  obtain ⟨p, hp⟩ : ∃ p, ps[j]? = some p := by
    have : j < as.length := (List.getElem?_eq_some_iff.mp hj).1
    exact ⟨ps[j]'(x.1 ▸ this), List.getElem?_eq_getElem _⟩
  obtain ⟨vs, hl, _⟩ := x.2.2.2 j a p hj hp
  obtain ⟨_, e, _⟩ := hl
  exact Heap.lt_size e
theorem ListsAt.snoc {lo : Nat} {h : Heap} {as : List Addr} {ps : List (List Int)} {a : Addr} {p : List Int} {vs : List Value} (x : ListsAt lo h as ps) (h1 : ∀ b ∈ as, b < a) (h2 : lo ≤ a) (hl : h.IsList a vs.toArray) (hi : IntsAre vs p) : ListsAt lo h (as ++ [a]) (ps ++ [p]) := by
  refine ⟨by simp [x.1], List.pairwise_append.mpr ⟨x.2.1, List.pairwise_singleton _ _, fun b hb c hc => by rw [List.mem_singleton.mp hc]; exact h1 b hb⟩, fun b hb => ?_, fun j b q hb hq => ?_⟩
  · rcases List.mem_append.mp hb with q | q
    · exact x.2.2.1 b q
    · rw [List.mem_singleton.mp q]; exact h2
  · rcases Nat.lt_or_ge j as.length with hj | hj
    · rw [List.getElem?_append_left hj] at hb
      rw [List.getElem?_append_left (x.1 ▸ hj)] at hq
      exact x.2.2.2 j b q hb hq
    · rw [List.getElem?_append_right hj] at hb
      rw [List.getElem?_append_right (x.1 ▸ hj), ← x.1] at hq
      have : j - as.length = 0 := by
        rcases Nat.eq_zero_or_pos (j - as.length) with z | z
        · exact z
        · rw [List.getElem?_eq_none (by simp; omega)] at hb; cases hb
      rw [this] at hb hq
      simp at hb hq
      subst hb hq
      exact ⟨vs, hl, hi⟩
theorem ListsAt.put4 {lo : Nat} {h h' : Heap} {as : List Addr} {ps : List (List Int)} {I : Addr} (x : ListsAt lo h as ps) (hs : Heap.SameBut I h h') (hI : ∀ a ∈ as, a < I) : ListsAt lo h' as ps :=
  ⟨x.1, x.2.1, x.2.2.1, fun j a p ha hp => by
    obtain ⟨vs, hl, hi⟩ := x.2.2.2 j a p ha hp
    exact ⟨vs, hl.at fun o e => (hs.2 a (Nat.ne_of_lt (hI a (List.mem_of_getElem? ha)))).trans e, hi⟩⟩
theorem ListsAt.same {lo : Nat} {h h' : Heap} {as : List Addr} {ps : List (List Int)} {I : Addr} (x : ListsAt lo h as ps) (hs : Heap.SameBut I h h') (hI : ∀ a ∈ as, a ≠ I) : ListsAt lo h' as ps :=
  ⟨x.1, x.2.1, x.2.2.1, fun j a p ha hp => by
    obtain ⟨vs, hl, hi⟩ := x.2.2.2 j a p ha hp
    exact ⟨vs, hl.at fun o e => (hs.2 a (hI a (List.mem_of_getElem? ha))).trans e, hi⟩⟩
theorem pw_ne {as : List Addr} (h : as.Pairwise (· < ·)) {i j : Nat} {a b : Addr} (hij : i ≠ j) (ha : as[i]? = some a) (hb : as[j]? = some b) : b ≠ a := by
  obtain ⟨hi, rfl⟩ := List.getElem?_eq_some_iff.mp ha
  obtain ⟨hj, rfl⟩ := List.getElem?_eq_some_iff.mp hb
  rcases Nat.lt_or_gt_of_ne hij with q | q
  · exact Ne.symm (Nat.ne_of_lt (List.pairwise_iff_getElem.mp h i j hi hj q))
  · exact Nat.ne_of_lt (List.pairwise_iff_getElem.mp h j i hj hi q)
theorem ListsAt.put {lo : Nat} {h h' : Heap} {as : List Addr} {ps : List (List Int)} {j : Nat} {a : Addr} {vs : List Value} {p : List Int} (x : ListsAt lo h as ps) (ha : as[j]? = some a) (hs : ∀ b o, b ≠ a → h.get? b = some o → h'.get? b = some o) (hl : h'.IsList a vs.toArray) (hi : IntsAre vs p) :
    ListsAt lo h' as (ps.set j p) := by
  refine ⟨by simp [x.1], x.2.1, x.2.2.1, fun i b q hb hq => ?_⟩
  rcases Nat.decEq i j with e | e
  · rw [List.getElem?_set_ne (Ne.symm e)] at hq
    obtain ⟨vs', hl', hi'⟩ := x.2.2.2 i b q hb hq
    exact ⟨vs', hl'.at fun o eo => hs b o (pw_ne x.2.1 (Ne.symm e) ha hb) eo, hi'⟩
  · subst e
    rw [ha] at hb
    cases hb
    have hlt : i < ps.length := x.1 ▸ (List.getElem?_eq_some_iff.mp ha).1
    rw [List.getElem?_set_self hlt] at hq
    cases hq
    exact ⟨vs, hl, hi⟩
noncomputable def mixP (k : Nat) (ps : List (List Int)) (j : Nat) : List (List Int) := (ps.take j).map (bump k) ++ ps.drop j
theorem mixP_succ {k : Nat} {ps : List (List Int)} {j : Nat} {p : List Int} (h : ps[j]? = some p) : (mixP k ps j).set j (bump k p) = mixP k ps (j + 1) := by
  obtain ⟨hj, rfl⟩ := List.getElem?_eq_some_iff.mp h
  unfold mixP
  rw [List.take_add_one, h]
  apply List.ext_getElem?
  intro i
  rw [List.getElem?_set]
  rcases Nat.lt_trichotomy i j with q | q | q
  · rw [if_neg (by omega)]
    rw [List.getElem?_append_left (by simp; omega), List.getElem?_append_left (by simp; omega)]
    simp only [List.map_append]
    rw [List.getElem?_append_left (by simp; omega)]
  · subst q
    rw [if_pos rfl, if_pos (by simp; omega)]
    rw [List.getElem?_append_left (by simp; omega)]
    simp only [List.map_append]
    rw [List.getElem?_append_right (by simp; omega), List.length_map, List.length_take]
    simp [Nat.min_eq_left (Nat.le_of_lt hj)]
  · rw [if_neg (by omega)]
    rw [List.getElem?_append_right (by simp; omega), List.getElem?_append_right (by simp; omega)]
    simp only [List.length_map, List.length_take, List.getElem?_drop, List.length_append, List.map_append, Option.toList_some, List.map_cons, List.map_nil, List.length_cons, List.length_nil]
    congr 1
    omega
theorem mixP_at {k : Nat} {ps : List (List Int)} {j : Nat} : (mixP k ps j)[j]? = ps[j]? := by
  unfold mixP
  rcases Nat.lt_or_ge j ps.length with q | q
  · rw [List.getElem?_append_right (by simp; omega)]
    simp [Nat.min_eq_left (Nat.le_of_lt q)]
  · rw [List.getElem?_eq_none (by simp; omega), List.getElem?_eq_none q]
theorem mixP_all {k : Nat} {ps : List (List Int)} {j : Nat} (h : ps.length ≤ j) : mixP k ps j = ps.map (bump k) := by
  unfold mixP; rw [List.take_of_length_le h, List.drop_eq_nil_of_le h, List.append_nil]
theorem bump_len (k : Nat) (p : List Int) : (bump k p).length = p.length := by simp [bump]
theorem runP_len : ∀ (ns : List Int) (ps : List (List Int)), (∀ p ∈ ps, p.length = 6) → ∀ p ∈ runP ns ps, p.length = 6
  | [], _, h => h
  | k :: r, ps, h => runP_len r (ps.map (bump k.toNat)) fun p hp => by
    obtain ⟨q, hq, rfl⟩ := List.mem_map.mp hp
    rw [bump_len]; exact h q hq
theorem paths0_len : ∀ p ∈ paths0, p.length = 6 := by decide
theorem ints_set : ∀ {vs : List Value} {ns : List Int} (_ : IntsAre vs ns) (j : Nat) (x : Int) (t : Tok), IntsAre (vs.set j (.int x t)) (ns.set j x)
  | _, _, .nil, _, _, _ => .nil
  | _, _, .cons _ _ h, 0, _, _ => .cons _ _ h
  | _, _, .cons _ _ h, j + 1, x, t => .cons _ _ (ints_set h j x t)
theorem min2 {prog : Program} {w : World} {A : Around} {E : Value → Shared → Prop} {s : Shared} {a b : Int} {t u : Tok} {Q : Value → Shared → Prop} (hh : A.handled = none)
    (h : ∀ h' tk tm, (∀ c o, s.heap.get? c = some o → h'.get? c = some o) → Q (.int (min a b) tm) { s with heap := h', toks := tk }) : wpAny (model prog w) A (call (.builtin "min") [.int a t, .int b u]) Q E s :=
  min_two_ints hh fun h' tk k => by
    split
    · rename_i q
      have := h h' tk u k
      rwa [show min a b = b from by omega] at this
    · rename_i q
      have := h h' tk t k
      rwa [show min a b = a from by omega] at this
theorem st_same {M : Model} {A : Around} {E : Value → Shared → Prop} {s : Shared} {name : PySem.Str} {scope : Scope} {L a : Addr} {cd : Value} {h₀ : Heap} {m : Nm} {x : PySem.Str} {v : Value} {Q : Unit → Shared → Prop} (F : Fr h₀ L s.heap m)
    (h : ∀ h', Fr h₀ L h' (fun y => if y = x then some v else m y) → Heap.SameBut L s.heap h' → Q () { s with heap := h', toks := s.toks + 1 })
    (hk : scope.kind = .function := by rfl) (hl : (envOf name scope L a cd).kindOf x = some .local := by rfl) :
    wpAny M A (storeName (envOf name scope L a cd) x v) Q E s :=
  wpAny_storeName_local hl F.ns (fun h' hn hs => h h' (F.set hn hs) hs)
    (by show (scope.kind == .class || (scope.kind == .module && L != mainGlobals)) = false; rw [hk]; rfl)
theorem paths_ok {w : World} {dp un : Nat} {gd : Option (List Code)} {outer : List Env} {base : Heap} {mean : Mn} {mg mb : Nm} {s : Shared} {Q : Value → Shared → Prop} {l : Addr} {vs : List Value} {ns : List Int}
    (O : Ok w mean mg mb base outer s.heap) (hd : dp + 6 < recursionLimit) (hu : un + 80 < cLine) (hl : s.heap.IsList l vs.toArray) (hi : IntsAre vs ns) (hn : ∀ n ∈ ns, 0 ≤ n ∧ n < 4)
    (hret : ∀ pa as h' tk', s.heap.StaysIn h' → s.heap.objs.size ≤ pa → h'.IsList pa (as.map Value.ref).toArray → ListsAt s.heap.objs.size h' as (runP ns paths0) → Q (.ref pa) { s with heap := h', toks := tk' }) :
    wpN (model PR w) (Ar dp un gd outer) (call (.ref 49) [.ref l]) Q s := by
  refine N_call ?_
  refine' enterPN O ?k6 ?k7 ?k8 ?k9 ?kB ?_ ?c2 ?c3 ?c4 ?c5
  case k6 => k_is
  case k7 => k_is
  case k8 => ktr_room
  case k9 => exact BindsTo.of_eq rfl
  case c5 => decide
  case kB => exact locs rfl
  case c2 => exact rfl
  case c3 => exact rfl
  case c4 => exact rfl
  intro L' h₁ hL F N B X T
  try dsimp only
  refine N_execs (N_G ?_)
  refine asgC (h₀ := s.heap) rfl rfl rfl ?_ rfl rfl (fun _ => rfl) rfl rfl ?_
  · decide
  refine src_range 6 (X.keeps F.keep) (T.keeps F.keep) rfl (by decide) (by k_is) rfl rfl rfl rfl rfl rfl rfl fun I2 h2 tk2 hit2 k2 lo2 lt2 => ?_
  have F2 := Fr.ext F k2
  have hIn : s.heap.get? I2 = none := by
    cases q : s.heap.get? I2 with
    | none => rfl
    | some o => exact absurd (Heap.lt_size (F.keep _ _ q)) (Nat.not_lt.mpr lo2)
  have hLI : L' ≠ I2 := Nat.ne_of_lt (Nat.lt_of_lt_of_le F.ns.lt lo2)
  refine ⟨_, [I2], 6, fun i ys h => ∃ as : List Addr, ys = as.map Value.ref ∧ ListsAt (h2.objs.size + 3) h as ((List.range i).map path0), _, rfl, F2, ?_, ?_, obRange rfl hit2 (by decide) ?_ ?_ ?_, ?_, ?_⟩
  · exact fun q => hLI (List.mem_singleton.mp q)
  · exact fun b hb => by rw [List.mem_singleton.mp hb]; exact hIn
  · rintro i ys h h' ⟨as, e, hA⟩ k
    refine ⟨as, e, hA.stable fun b o q e => k b o (fun z => ?_) (.inr q) e⟩
    rw [List.mem_singleton.mp z] at q
    exact absurd (Nat.lt_of_le_of_lt q lt2) (by omega)
  · exact fun h => ⟨[], rfl, .nil⟩
  · intro i t ys h tk hlt hE hk hsz hkeep
    obtain ⟨as, rfl, hA⟩ := hk
    refine T_nil ⟨⟨h, tk, rfl, fun _ _ e => e⟩, ?_⟩
    rw [if_pos rfl]
    have F3 : Fr s.heap L' h _ := ⟨F2.ns.at' fun o e => hkeep _ o (fun q => hLI (List.mem_singleton.mp q)) e, fun b o e => hkeep b o (fun q => by rw [List.mem_singleton.mp q, hIn] at e; cases e) (F2.keep b o e), F2.above⟩
    refine evalL rfl rfl ?_ ?_ rfl (fun _ => rfl) ?_
    · decide
    · decide
    refine src_range 6 (X.keeps F3.keep) (T.keeps F3.keep) rfl (by decide) (by k_is) rfl rfl rfl rfl rfl rfl rfl fun I5 h5 tk5 hit5 k5 lo5 lt5 => ?_
    refine ⟨_, [I5], 6, _, rfl, obRangeI (fun k => max 0 ((k : Int) + (i : Int) - 5)) rfl hit5 (by decide) ?_, ?_⟩
    · intro j tj h6 tk6 hj hEj hsz6 keep6
      obtain ⟨m6, hn6, hm6⟩ := hEj
      have keepAll : ∀ b o, h.get? b = some o → h6.get? b = some o := fun b o e => keep6 b o (fun q => by rw [List.mem_singleton.mp q] at e; exact absurd (Heap.lt_size e) (Nat.not_lt.mpr lo5)) (k5 b o e)
      have hE6 : h6.IsCell (h2.objs.size + 2) (some (.int (i : Int) t)) := Heap.IsCell.keeps hE keepAll
      have F6 := Fr.ext F3 keepAll
      have N6 : News s.heap L' h6 [] := News.nil
      refine G_of (hold_of ?_)
      clear F F2 F3 N
      dsimp only at hn6 hsz6 keep6 ⊢
      refine Call_ ?_
      refine' nmB (X.keeps F6.keep) (T.keeps F6.keep) ?m1 boot_max ?m2 ?m3 ?m4 ?m5 ?m6 ?m7 ?_
      case m1 => k_is
      case m2 => decide
      case m3 => rfl
      case m4 => rfl
      case m5 => rfl
      case m6 => rfl
      case m7 => decide
      refine PyProof.Rows.callWith_builtin1 ?_
      refine args_cons ?_
      refine wpAny_Constant_int ?_
      refine args_cons ?_
      refine wpAny_BinOp ?_
      refine wpAny_BinOp ?_
      refine nmL hn6 hm6 rfl rfl (by decide) ?_
      refine nmC (k := h2.objs.size + 2) rfl hE6 rfl rfl (by decide) ?_
      refine add_int ?_
      refine wpAny_Constant_int ?_
      refine sub_int ?_
      refine args_nil ?_
      refine max_two_ints rfl fun h8 tk8 k8 => ?_
      refine ⟨⟨h8, tk8, rfl, k8⟩, ?_⟩
      show ∃ t, (if (j : Int) + (i : Int) - 5 > 0 then Value.int ((j : Int) + (i : Int) - 5) _ else Value.int 0 _) = Value.int (max 0 ((j : Int) + (i : Int) - 5)) t
      split
      · rename_i q
        rw [show max 0 ((j : Int) + (i : Int) - 5) = (j : Int) + (i : Int) - 5 from by omega]
        exact ⟨_, rfl⟩
      · rename_i q
        rw [show max 0 ((j : Int) + (i : Int) - 5) = 0 from by omega]
        exact ⟨_, rfl⟩
    · intro h7 tk7 ys7 hl7 hI7 keep7
      refine ⟨⟨h7, tk7, rfl, fun b o e => keep7 b o (fun q => by rw [List.mem_singleton.mp q] at e; exact absurd (Heap.lt_size e) (Nat.not_lt.mpr lo5)) (k5 b o e)⟩, as ++ [h5.objs.size], by simp, ?_⟩
      rw [List.range_succ, List.map_append]
      have keepAll : ∀ b o, h.get? b = some o → h7.get? b = some o := fun b o e => keep7 b o (fun q => by rw [List.mem_singleton.mp q] at e; exact absurd (Heap.lt_size e) (Nat.not_lt.mpr lo5)) (k5 b o e)
      have hle : h.objs.size ≤ h5.objs.size := Nat.le_of_lt (Nat.lt_of_le_of_lt lo5 lt5)
      refine ListsAt.snoc (vs := ys7) (hA.stable fun b o _ e => keepAll b o e) (fun b hb => Nat.lt_of_lt_of_le (hA.lt b hb) hle) (Nat.le_trans hsz hle) hl7.isList hI7
  · rintro i ys h h' ⟨as, e, hA⟩ hs
    refine ⟨as, e, hA.stable fun b o q e => (hs.2 b (fun z => ?_)).trans e⟩
    rw [z] at q
    exact absurd (Nat.lt_of_lt_of_le (Nat.lt_of_lt_of_le F2.ns.lt (Nat.le_add_right _ 3)) q) (Nat.lt_irrefl _)
  · rintro h3 tk3 ys3 hl3 ⟨as, rfl, hA3⟩ F3 keep3
    have hLD : L' < h2.objs.size := F2.ns.lt
    clear F F2 N
    dsimp only at hl3 F3 keep3 ⊢
    refine N_execs (N_For (ld F3 rfl ?_))
    refine wpAny_pyIter_list (stays_list F3.keep hl) ?_
    have hsz : h2.objs.size < h3.objs.size := by obtain ⟨_, e⟩ := hl3; exact Heap.lt_size e
    have hI0 : s.heap.get? h3.objs.size = none := next_is_new F3
    have hIL : L' ≠ h3.objs.size := Nat.ne_of_lt F3.ns.lt
    have hasI : ∀ a ∈ as, a < h3.objs.size := hA3.lt
    have hasL : ∀ a ∈ as, a ≠ L' := fun a ha => Ne.symm (Nat.ne_of_lt (Nat.lt_of_lt_of_le hLD (Nat.le_trans (Nat.le_add_right _ 3) (hA3.2.2.1 a ha))))
    have lenA : as.length = 6 := hA3.1
    refine codeN_for (fun n s' => ∃ (i : Nat) (h' : Heap) (tk' : Nat) (m' : Nm), s' = { s with heap := h', toks := tk' } ∧ n = ns.length - i ∧ i ≤ ns.length ∧ Fr s.heap L' h' m' ∧ m' (Str.ofString "paths") = some (.ref h2.objs.size) ∧
      h'.IsListIter h3.objs.size l i ∧ h'.IsList h2.objs.size (as.map Value.ref).toArray ∧ ListsAt (h2.objs.size + 3) h' as (runP (ns.take i) paths0)) ?turn (fun _ => rfl) ns.length _ ?start
    case start =>
      exact ⟨0, _, _, _, rfl, rfl, Nat.zero_le _, F3.push _, rfl, ⟨_, Heap.get?_push_size _ rfl, rfl, rfl⟩, hl3.isList.push _, hA3.stable fun b o _ e => Heap.get?_push_of_some _ e⟩
    case turn =>
      rintro n s' ⟨i, h', tk', m', rfl, rfl, hle, F', hmp, hit, hD, hA⟩
      have hlen' : vs.length = ns.length := hi.length
      rcases Nat.lt_or_ge i ns.length with hlt | hge
      · obtain ⟨x, hx⟩ : ∃ x, vs[i]? = some x := ⟨vs[i]'(by omega), List.getElem?_eq_getElem (by omega)⟩
        obtain ⟨k, tk, rfl, hk⟩ := IntsAre.at hi i x hx
        obtain ⟨k0, k1⟩ := hn k (List.mem_of_getElem? hk)
        refine wpAny_pyNext_list_item (x := .int k tk) hit (stays_list F'.keep hl) (by simpa using hx) fun h4 hit4 hs4 => ?_
        have F4 := fr_same F' hs4 hIL hI0
        have hD4 : h4.IsList h2.objs.size (as.map Value.ref).toArray := hD.at fun o e => (hs4.2 _ (Nat.ne_of_lt hsz)).trans e
        have hA4 := hA.put4 hs4 hasI
        refine PyProof.Rows.assign_Name (st_same F4 fun h5 F5 hs5 => ?_)
        have hit5 : h5.IsListIter h3.objs.size l (i + 1) := hit4.at fun o e => (hs5.2 _ (Ne.symm hIL)).trans e
        have hD5 : h5.IsList h2.objs.size (as.map Value.ref).toArray := hD4.at fun o e => (hs5.2 _ (Ne.symm (Nat.ne_of_lt hLD))).trans e
        have hA5 := hA4.same hs5 hasL
        refine N_execs (N_For (ld F5 (v := .ref h2.objs.size) (by rw [if_neg (by decide)]; exact hmp) ?_))
        refine wpAny_pyIter_list hD5 ?_
        have hI2 : s.heap.get? h5.objs.size = none := next_is_new F5
        have hI2L : L' ≠ h5.objs.size := Nat.ne_of_lt F5.ns.lt
        have hD5lt : h2.objs.size < h5.objs.size := by obtain ⟨_, e, _⟩ := hD5; exact Heap.lt_size e
        have hit5lt : h3.objs.size < h5.objs.size := by obtain ⟨_, e, _⟩ := hit5; exact Heap.lt_size e
        have has5 : ∀ a ∈ as, a < h5.objs.size := hA5.lt
        refine codeN_for (fun n s' => ∃ (j : Nat) (h' : Heap) (tk' : Nat) (m' : Nm), s' = { s with heap := h', toks := tk' } ∧ n = 6 - j ∧ j ≤ 6 ∧ Fr s.heap L' h' m' ∧ m' (Str.ofString "paths") = some (.ref h2.objs.size) ∧ m' (Str.ofString "wire") = some (.int k tk) ∧
          h'.IsListIter h5.objs.size h2.objs.size j ∧ h'.IsListIter h3.objs.size l (i + 1) ∧ h'.IsList h2.objs.size (as.map Value.ref).toArray ∧ ListsAt (h2.objs.size + 3) h' as (mixP k.toNat (runP (ns.take i) paths0) j)) ?turn2 (fun _ => rfl) 6 _ ?start2
        case start2 =>
          exact ⟨0, _, _, _, rfl, rfl, Nat.zero_le _, F5.push _, by rw [if_neg (by decide)]; exact hmp, by rw [if_pos rfl], ⟨_, Heap.get?_push_size _ rfl, rfl, rfl⟩, hit5.at (fun o e => Heap.get?_push_of_some _ e), hD5.push _, by
            rw [show mixP k.toNat (runP (ns.take i) paths0) 0 = runP (ns.take i) paths0 from by simp [mixP]]
            exact hA5.stable fun b o _ e => Heap.get?_push_of_some _ e⟩
        case turn2 =>
          rintro n s' ⟨j, h6, tk6, m6, rfl, rfl, hj, F6, hmp6, hmw6, hit6, hito6, hD6, hA6⟩
          rcases Nat.lt_or_ge j 6 with hj6 | hj6
          · obtain ⟨a, ha⟩ : ∃ a, as[j]? = some a := ⟨as[j]'(by omega), List.getElem?_eq_getElem (by omega)⟩
            refine wpAny_pyNext_list_item (x := .ref a) hit6 hD6 (by simp [ha]) fun h7 hit7 hs7 => ?_
            have F7 := fr_same F6 hs7 hI2L hI2
            have hito7 : h7.IsListIter h3.objs.size l (i + 1) := hito6.at fun o e => (hs7.2 _ (Nat.ne_of_lt hit5lt)).trans e
            have hD7 : h7.IsList h2.objs.size (as.map Value.ref).toArray := hD6.at fun o e => (hs7.2 _ (Nat.ne_of_lt hD5lt)).trans e
            have hA7 := hA6.put4 hs7 has5
            refine PyProof.Rows.assign_Name (st_same F7 fun h8 F8 hs8 => ?_)
            have hit8 : h8.IsListIter h5.objs.size h2.objs.size (j + 1) := hit7.at fun o e => (hs8.2 _ (Ne.symm hI2L)).trans e
            have hito8 : h8.IsListIter h3.objs.size l (i + 1) := hito7.at fun o e => (hs8.2 _ (Ne.symm hIL)).trans e
            have hD8 : h8.IsList h2.objs.size (as.map Value.ref).toArray := hD7.at fun o e => (hs8.2 _ (Ne.symm (Nat.ne_of_lt hLD))).trans e
            have hA8 := hA7.same hs8 hasL
            obtain ⟨p, hp⟩ : ∃ p, (runP (ns.take i) paths0)[j]? = some p := ⟨(runP (ns.take i) paths0)[j]'(by rw [← hA.1]; omega), List.getElem?_eq_getElem _⟩
            have hp6 : p.length = 6 := runP_len _ _ paths0_len p (List.mem_of_getElem? hp)
            obtain ⟨us, hus, hpi⟩ := hA8.2.2.2 j a p ha (by rw [mixP_at]; exact hp)
            have ulen : us.length = 6 := hpi.length.trans hp6
            have mpath : (fun y => if y = Str.ofString "path" then some (Value.ref a) else m6 y) (Str.ofString "path") = some (.ref a) := if_pos rfl
            have mwire : (fun y => if y = Str.ofString "path" then some (Value.ref a) else m6 y) (Str.ofString "wire") = some (.int k tk) := (if_neg (by decide)).trans hmw6
            refine wpN_of (wpAny_execs_cons (wpAny_Assign_Subscript (Call_ ?_)))
            refine nmB (X.keeps F8.keep) (T.keeps F8.keep) (by k_is) boot_min (by decide) rfl rfl rfl rfl (by decide) ?_
            refine PyProof.Rows.callWith_builtin1 ?_
            refine args_cons (wpAny_BinOp (Subscript_ (ld F8 mpath (ld F8 mwire ?_))))
            refine item_anyK hus hpi k0 (by omega) (by omega) fun t1 => ?_
            refine wpAny_Constant_int ?_
            refine add_int ?_
            refine args_cons (Subscript_ (ld F8 mpath (wpAny_BinOp (ld F8 mwire (wpAny_Constant_int (add_int ?_))))))
            refine item_anyK hus hpi (by omega) (by omega) (by omega) fun t2 => ?_
            refine args_nil ?_
            refine min2 rfl fun h9 tk9 tm k9 => ?_
            have F9 := Fr.ext F8 k9
            have hus9 : h9.IsList a us.toArray := hus.at fun o e => k9 _ o e
            refine ld F9 mpath (wpAny_BinOp (ld F9 mwire (wpAny_Constant_int (add_int ?_))))
            refine wpAny_setItem_list hus9 (by omega) (by omega) (by simp [ulen]; omega) fun h10 hl10 hs10 => ?_
            have haI : a < h5.objs.size := has5 a (List.mem_of_getElem? ha)
            have haL : a ≠ L' := hasL a (List.mem_of_getElem? ha)
            have haD : h2.objs.size < a := Nat.lt_of_lt_of_le (Nat.lt_succ_of_lt (Nat.lt_succ_of_lt (Nat.lt_succ_self _))) (hA3.2.2.1 a (List.mem_of_getElem? ha))
            have haN : s.heap.get? a = none := by
              cases q : s.heap.get? a with
              | none => rfl
              | some o => exact absurd (Nat.lt_trans (Nat.lt_of_lt_of_le (Heap.lt_size q) F8.above) hLD) (Nat.not_lt.mpr (Nat.le_of_lt haD))
            have haI3 : a < h3.objs.size := hasI a (List.mem_of_getElem? ha)
            refine wpAny_execs_nil ?_
            refine ⟨6 - (j + 1), by omega, j + 1, h10, _, _, rfl, rfl, hj6, fr_same F9 hs10 (Ne.symm haL) haN, (if_neg (by decide)).trans hmp6, mwire, ?_, ?_, ?_, ?_⟩
            · exact (hit8.at fun o e => k9 _ o e).at fun o e => (hs10.2 _ (Ne.symm (Nat.ne_of_lt haI))).trans e
            · exact (hito8.at fun o e => k9 _ o e).at fun o e => (hs10.2 _ (Ne.symm (Nat.ne_of_lt haI3))).trans e
            · exact (hD8.at fun o e => k9 _ o e).at fun o e => (hs10.2 _ (Nat.ne_of_lt haD)).trans e
            · rw [← mixP_succ hp]
              refine (hA8.stable fun b o _ e => k9 b o e).put (vs := us.set (k.toNat + 1) (.int (min (p.getD k.toNat 0 + 1) (p.getD (k.toNat + 2) 0)) tm)) ha (fun b o q e => (hs10.2 b q).trans e) ?_ ?_
              · rw [List.setIfInBounds_toArray] at hl10
                rw [show (k + 1).toNat = k.toNat + 1 from by omega, show (k + 2).toNat = k.toNat + 2 from by omega] at hl10
                exact hl10
              · exact ints_set hpi _ _ _
          · have hje : j = 6 := by omega
            subst hje
            refine wpAny_pyNext_list_end rfl hit6 hD6 (by simp [lenA]) fun h7 he => ?_
            have F7 := fr_ext F6 he hI2L hI2
            refine N_execs_nil ?_
            refine ⟨ns.length - (i + 1), by omega, i + 1, h7, _, _, rfl, rfl, hlt, F7, hmp6, hito6.at fun o e => he _ o (Nat.ne_of_lt hit5lt) e, hD6.at fun o e => he _ o (Nat.ne_of_lt hD5lt) e, ?_⟩
            have hr : runP (ns.take (i + 1)) paths0 = (runP (ns.take i) paths0).map (bump k.toNat) := by
              unfold runP
              rw [List.take_add_one, hk, List.foldl_append]
              rfl
            rw [hr, ← mixP_all (j := 6) (by rw [← hA.1, lenA]; exact Nat.le_refl _)]
            exact ⟨hA6.1, hA6.2.1, hA6.2.2.1, fun j a p ha hp => by
              obtain ⟨vs, hl, hi⟩ := hA6.2.2.2 j a p ha hp
              exact ⟨vs, hl.at fun o e => he a o (Nat.ne_of_lt (has5 a (List.mem_of_getElem? ha))) e, hi⟩⟩
      · have hie : i = ns.length := by omega
        subst hie
        refine wpAny_pyNext_list_end rfl hit (stays_list F'.keep hl) (by simp [hlen']) fun h4 he => ?_
        have F4 := fr_ext F' he hIL hI0
        refine wpN_of ?_
        refine wpAny_execs_cons (wpAny_Return_some (ld F4 hmp ?_))
        dsimp only
        rw [List.take_length] at hA
        have hle : s.heap.objs.size ≤ h2.objs.size := hL ▸ Nat.le_of_lt hLD
        refine hret _ as _ _ F4.keep hle (hD.at fun o e => he _ o (Nat.ne_of_lt hsz) e) ⟨hA.1, hA.2.1, fun a ha => Nat.le_trans hle (Nat.le_trans (Nat.le_add_right _ 3) (hA.2.2.1 a ha)), fun j a p ha hp => ?_⟩
        obtain ⟨vs, hl, hi⟩ := hA.2.2.2 j a p ha hp
        exact ⟨vs, hl.at fun o e => he a o (Nat.ne_of_lt (hasI a (List.mem_of_getElem? ha))) e, hi⟩
end Mine
end

section
open PySem PySem.W PyProof.Rows PySem.Calls
set_option maxRecDepth 100000
set_option maxHeartbeats 8000000
namespace Mine
/-- what the two loops write -/
noncomputable def put1 (l : List UInt8) (i j : Nat) (c : List UInt8) : List UInt8 := c.set (5 * i + 5 - 1 - j) (l.getD (5 * i + j) 0)
noncomputable def put5 (l : List UInt8) (i : Nat) : Nat → List UInt8 → List UInt8
  | 0, c => c
  | j + 1, c => put1 l i j (put5 l i j c)
noncomputable def putAll (l : List UInt8) : Nat → List UInt8
  | 0 => List.replicate 15 0
  | i + 1 => put5 l i 5 (putAll l i)
theorem put5_len (l : List UInt8) (i : Nat) : ∀ j c, (put5 l i j c).length = c.length
  | 0, _ => rfl
  | j + 1, c => by simp [put5, put1, put5_len l i j c]
theorem putAll_len (l : List UInt8) : ∀ i, (putAll l i).length = 15
  | 0 => rfl
  | i + 1 => (put5_len l i 5 _).trans (putAll_len l i)
theorem item_b {prog : Program} {w : World} {A : Around} {E : Value → Shared → Prop} {s : Shared} {value slice : PySem.Expr} {l : List UInt8} {i : Int} {t u : Tok} {Q : Value → Shared → Prop} (n : Nat) (hn : i = (n : Int)) (h1 : n < l.length) (hz : l.length ≤ 1000)
    (h : Q (.int ((l.getD n 0).toNat : Int) s.toks) { s with toks := s.toks + 1 })
    (hs : subscripted slice false (.bytes l.toArray t) (.int i u) = operate [.bytes l.toArray t, .int i u] (getItem (.bytes l.toArray t) (.int i u)) := by with_unfolding_all rfl)
    (ht : ∀ r, letTemporaryGo value (.bytes l.toArray t) r = pure () := by intro _; with_unfolding_all rfl) :
    wpAny (model prog w) A (subscriptTail value slice (.bytes l.toArray t) (.int i u)) Q E s := by
  subst hn
  exact tail_of_ItemOn ⟨"bytes", _, FB.slot_bytes_getitem.lookup, typeIs_bytes _ _ _, getItem_bytes (by omega) (by omega) (by omega) (by simpa using h)⟩ hs ht
theorem ba_setI {prog : Program} {w : World} {A : Around} {E : Value → Shared → Prop} {s : Shared} {a : Addr} {l : List UInt8} {i : Int} {v : UInt8} {t u : Tok} {Q : Unit → Shared → Prop} (k : Nat) (hk' : i = (k : Int)) (ho : s.heap.get? a = some { cls := .type "bytearray", data := .bytearray l.toArray })
    (hk : k < l.length) (hb : l.length ≤ 1000)
    (h : ∀ h', h'.get? a = some { cls := .type "bytearray", data := .bytearray (l.set k v).toArray } → Heap.SameBut a s.heap h' → Q () { s with heap := h' }) :
    wpAny (model prog w) A (setItem (.ref a) (.int i t) (.int (v.toNat : Int) u)) Q E s := by
  subst hk'
  refine ba_setItem ho (by simpa using hk) (by simpa using hb) v.toNat_lt fun h' hg hs => ?_
  rw [show v.toNat.toUInt8 = v from by simp, List.setIfInBounds_toArray] at hg
  exact h h' hg hs
theorem range_it {prog : Program} {w : World} {A : Around} {E E₂ : Value → Shared → Prop} {s : Shared} {b : Int} {t : Tok} {Q : Value → Shared → Prop} (n : Nat) (hb : b = (n : Int)) (hn : n ≤ 1000)
    (h : ∀ I h' tk, IsRangeIter h' I 0 n 1 → (∀ b o, s.heap.get? b = some o → h'.get? b = some o) → s.heap.objs.size ≤ I → I < h'.objs.size → Q (.ref I) { s with heap := h', toks := tk }) :
    wpAny (model prog w) A (call (.type "range") [.int b t]) (fun xv s₁ => wpAny (model prog w) A (pyIter xv) Q E₂ s₁) E s := by
  refine call_range_1 ?_
  refine iter_range (n := n) (Heap.get?_push_size _ rfl) hb hn fun h' hit hk' hz => ?_
  refine h _ h' _ hit (fun b o e => hk' b o (Heap.get?_push_of_some _ e)) ?_ ?_
  · show s.heap.objs.size ≤ (s.heap.push _).objs.size
    rw [Heap.size_push]; exact Nat.le_succ _
  · rw [hz]; exact Nat.lt_succ_self _
theorem len_l {prog : Program} {w : World} {A : Around} {E : Value → Shared → Prop} {s : Shared} {l : List UInt8} {t : Tok} {Q : Value → Shared → Prop} (n : Nat) (hb : l.length = n) (hn : n ≤ 1000)
    (h : Q (.int (n : Int) (s.toks + 1)) { s with toks := s.toks + 1 + 1 }) : wpAny (model prog w) A (call (.builtin "len") [.bytes l.toArray t]) Q E s :=
  len_bytes (by simp; omega) (by simp only [List.size_toArray]; rw [hb]; exact h)
local macro_rules | `(tactic| walk_at "call builtin:len") => `(tactic| (k_here; (with_reducible show wpAny _ _ (call (Value.builtin "len") [Value.bytes _ _]) _ _ _); (refine len_l 15 (by assumption) (by decide) ?_)))

theorem swap15 {w : World} {dp un : Nat} {gd : Option (List Code)} {outer : List Env} {base : Heap} {mean : Mn} {mg mb : Nm} {s : Shared} {Q : Value → Shared → Prop} {l : List UInt8} {tx ty : Tok}
    (O : Ok w mean mg mb base outer s.heap) (hd : dp + 1 < recursionLimit) (hu : un + 20 < cLine) (hl : l.length = 15)
    (hret : ∀ t h' tk', s.heap.StaysIn h' → Q (.bytes (putAll l 3).toArray t) { s with heap := h', toks := tk' }) :
    wpN (model PR w) (Ar dp un gd outer) (call (.ref 21) [.bytes l.toArray tx, .int 5 ty]) Q s := by
  refine N_call ?_
  refine' enterPN O ?k6 ?k7 ?k8 ?k9 ?kB ?_ ?c2 ?c3 ?c4 ?c5
  case k6 => k_is
  case k7 => k_is
  case k8 => ktr_room
  case k9 => exact BindsTo.of_eq rfl
  case c5 => decide
  case kB => exact locs rfl
  case c2 => exact rfl
  case c3 => exact rfl
  case c4 => exact rfl
  intro L' h₁ hL F N B X T
  try dsimp only
  refine N_execs (N_Assign (N_Call ?_))
  k_steps
  refine N_callWithT (N_args (wpN_of ?_))
  k_steps
  refine N_args_nil ?_
  refine wpN_any (ba_call (n := 15) (by decide) (by rw [sizeLine_eq]; decide) fun h₂ hk₂ hg₂ => ?_)
  rename Fr _ _ _ _ => F
  have F' := Fr.ext F hk₂
  have N' : News s.heap L' h₂ [(h₁.objs.size, baObj (Array.replicate 15 0))] := fun p hp => by
    cases hp with
    | head => exact ⟨hg₂, Nat.ne_of_gt F.ns.lt, next_is_new F⟩
    | tail _ h => exact nomatch h
  clear N hg₂ hk₂ F
  dsimp only
  refine wpN_of ?_
  k_steps
  refine N_execs (N_For ?_)
  k_steps
  rename IsRange _ _ _ _ _ _ _ _ => hr
  rename Fr _ _ _ _ => F
  rename News _ _ _ _ => N
  refine wpAny_pyIter_range hr (by decide) ?_
  have hba := N _ (List.Mem.head _)
  dsimp only at hba hr F ⊢
  rename_i h3 _ _ _ _ _
  have hI0 : s.heap.get? h3.objs.size = none := next_is_new F
  have hIL : L' ≠ h3.objs.size := Nat.ne_of_lt F.ns.lt
  have haI : h₁.objs.size < h3.objs.size := Heap.lt_size hba.1
  refine codeN_for (fun n s' => ∃ (i : Nat) (h' : Heap) (tk' : Nat) (m' : Nm), s' = { s with heap := h', toks := tk' } ∧ n = 3 - i ∧ i ≤ 3 ∧ Fr s.heap L' h' m' ∧ m' (Str.ofString "data") = some (.bytes l.toArray tx) ∧ m' (Str.ofString "width") = some (.int 5 ty) ∧
    m' (Str.ofString "swapped_data") = some (.ref h₁.objs.size) ∧ IsRangeIter h' h3.objs.size (0 + (i : Nat) * 5) ((3 : Nat) - (i : Nat)) 5 ∧ h'.get? h₁.objs.size = some (baObj (putAll l i).toArray)) ?turn (fun _ => rfl) 3 _ ?start
  case start =>
    exact ⟨0, _, _, _, rfl, rfl, Nat.zero_le _, F.push _, rfl, rfl, rfl, Heap.get?_push_size _ rfl, Heap.get?_push_of_some _ hba.1⟩
  case turn =>
    rintro n s' ⟨i, h4, tk4, m4, rfl, rfl, hi, F4, hmd, hmw, hms, hit, hb4⟩
    rcases Nat.lt_or_ge i 3 with hlt | hge
    · refine (Walks.range rfl h3.objs.size 0 5 3).item i _ _ _ hlt hit fun v h5 tk5 hP hit5 k5 => ?_
      obtain ⟨ti, rfl⟩ := hP
      have F5 : Fr s.heap L' h5 m4 := fr_ext F4 (a := h3.objs.size) (fun b o q e => k5 b o (fun z => q (List.mem_singleton.mp z)) e) hIL hI0
      have hb5 : h5.get? h₁.objs.size = some (baObj (putAll l i).toArray) := k5 _ _ (fun z => Nat.ne_of_lt haI (List.mem_singleton.mp z)) hb4
      refine PyProof.Rows.assign_Name (st_same F5 fun h6 F6 hs6 => ?_)
      have hit6 : IsRangeIter h6 h3.objs.size (0 + ((i + 1 : Nat) : Int) * 5) ((3 : Nat) - ((i + 1 : Nat) : Int)) 5 := (hs6.2 _ (Ne.symm hIL)).trans hit5
      have hb6 : h6.get? h₁.objs.size = some (baObj (putAll l i).toArray) := (hs6.2 _ (Ne.symm hba.2.1.symm)).trans hb5
      have mw : (fun y => if y = Str.ofString "i" then some (Value.int (0 + (i : Nat) * 5) ti) else m4 y) (Str.ofString "width") = some (.int 5 ty) := (if_neg (by decide)).trans hmw
      refine N_execs (N_For (Call_ ?_))
      refine nmB (X.keeps F6.keep) (T.keeps F6.keep) (by k_is) boot_range (by decide) rfl rfl rfl rfl (by decide) ?_
      refine PyProof.Rows.callWith_type1 ?_
      refine args_cons (ld F6 mw ?_)
      refine args_nil ?_
      refine range_it 5 rfl (by decide) fun I7 h7 tk7 hit7 k7 lo7 lt7 => ?_
      have F7 := Fr.ext F6 k7
      have hit7o : IsRangeIter h7 h3.objs.size (0 + ((i + 1 : Nat) : Int) * 5) ((3 : Nat) - ((i + 1 : Nat) : Int)) 5 := k7 _ _ hit6
      have hb7 : h7.get? h₁.objs.size = some (baObj (putAll l i).toArray) := k7 _ _ hb6
      have hI3 : h3.objs.size < I7 := Nat.lt_of_lt_of_le (Heap.lt_size hit6) lo7
      have hIb : h₁.objs.size < I7 := Nat.lt_of_lt_of_le (Heap.lt_size hb6) lo7
      have hIL7 : L' ≠ I7 := Nat.ne_of_lt (Nat.lt_of_lt_of_le F6.ns.lt lo7)
      have hI70 : s.heap.get? I7 = none := by
        cases q : s.heap.get? I7 with
        | none => rfl
        | some o => exact absurd (Heap.lt_size (F6.keep _ _ q)) (Nat.not_lt.mpr lo7)
      refine codeN_for (fun n s' => ∃ (j : Nat) (h' : Heap) (tk' : Nat) (m' : Nm), s' = { s with heap := h', toks := tk' } ∧ n = 5 - j ∧ j ≤ 5 ∧ Fr s.heap L' h' m' ∧ m' (Str.ofString "data") = some (.bytes l.toArray tx) ∧ m' (Str.ofString "width") = some (.int 5 ty) ∧
        m' (Str.ofString "swapped_data") = some (.ref h₁.objs.size) ∧ m' (Str.ofString "i") = some (.int (0 + (i : Nat) * 5) ti) ∧ IsRangeIter h' I7 (0 + (j : Nat) * 1) ((5 : Nat) - (j : Nat)) 1 ∧
        IsRangeIter h' h3.objs.size (0 + ((i + 1 : Nat) : Int) * 5) ((3 : Nat) - ((i + 1 : Nat) : Int)) 5 ∧ h'.get? h₁.objs.size = some (baObj (put5 l i j (putAll l i)).toArray)) ?turn2 (fun _ => rfl) 5 _ ?start2
      case start2 =>
        exact ⟨0, _, _, _, rfl, rfl, Nat.zero_le _, F7, (if_neg (by decide)).trans hmd, mw, (if_neg (by decide)).trans hms, if_pos rfl, hit7, hit7o, hb7⟩
      case turn2 =>
        rintro n s' ⟨j, h8, tk8, m8, rfl, rfl, hj, F8, hmd8, hmw8, hms8, hmi8, hit8, hito8, hb8⟩
        rcases Nat.lt_or_ge j 5 with hj5 | hj5
        · refine (Walks.range rfl I7 0 1 5).item j _ _ _ hj5 hit8 fun v h9 tk9 hP hit9 k9 => ?_
          obtain ⟨tj, rfl⟩ := hP
          have F9 : Fr s.heap L' h9 m8 := fr_ext F8 (a := I7) (fun b o q e => k9 b o (fun z => q (List.mem_singleton.mp z)) e) hIL7 hI70
          have hb9 := k9 _ _ (fun z => Nat.ne_of_lt hIb (List.mem_singleton.mp z)) hb8
          have hito9 := k9 _ _ (fun z => Nat.ne_of_lt hI3 (List.mem_singleton.mp z)) hito8
          refine PyProof.Rows.assign_Name (st_same F9 fun hA FA hsA => ?_)
          have hitA := (hsA.2 _ (Ne.symm hIL7)).trans hit9
          have hitoA := (hsA.2 _ (Ne.symm hIL)).trans hito9
          have hbA := (hsA.2 _ hba.2.1).trans hb9
          have mj : (fun y => if y = Str.ofString "j" then some (Value.int (0 + (j : Nat) * 1) tj) else m8 y) (Str.ofString "j") = some (.int (0 + (j : Nat) * 1) tj) := if_pos rfl
          have mi : (fun y => if y = Str.ofString "j" then some (Value.int (0 + (j : Nat) * 1) tj) else m8 y) (Str.ofString "i") = some (.int (0 + (i : Nat) * 5) ti) := (if_neg (by decide)).trans hmi8
          have mw' : (fun y => if y = Str.ofString "j" then some (Value.int (0 + (j : Nat) * 1) tj) else m8 y) (Str.ofString "width") = some (.int 5 ty) := (if_neg (by decide)).trans hmw8
          have md' : (fun y => if y = Str.ofString "j" then some (Value.int (0 + (j : Nat) * 1) tj) else m8 y) (Str.ofString "data") = some (.bytes l.toArray tx) := (if_neg (by decide)).trans hmd8
          have ms' : (fun y => if y = Str.ofString "j" then some (Value.int (0 + (j : Nat) * 1) tj) else m8 y) (Str.ofString "swapped_data") = some (.ref h₁.objs.size) := (if_neg (by decide)).trans hms8
          refine wpN_of (wpAny_execs_cons (wpAny_Assign_Subscript (Subscript_ (ld FA md' (wpAny_BinOp (ld FA mi (ld FA mj (add_int ?_))))))))
          refine item_b (5 * i + j) (by omega) (by omega) (by omega) ?_
          refine ld FA ms' (wpAny_BinOp (wpAny_BinOp (wpAny_BinOp (ld FA mi (ld FA mw' (add_int (wpAny_Constant_int (sub_int (ld FA mj (sub_int ?_)))))))))) 
          refine ba_setI (5 * i + 5 - 1 - j) (by omega) hbA (by rw [put5_len, putAll_len]; omega) (by rw [put5_len, putAll_len]; omega) fun hB hgB hsB => ?_
          refine wpAny_execs_nil ?_
          refine ⟨5 - (j + 1), by omega, j + 1, hB, _, _, rfl, rfl, hj5, fr_same FA hsB (Ne.symm hba.2.1) hba.2.2, md', mw', ms', mi, ?_, ?_, hgB⟩
          · exact (hsB.2 _ (Ne.symm (Nat.ne_of_lt hIb))).trans hitA
          · exact (hsB.2 _ (Ne.symm (Nat.ne_of_lt haI))).trans hitoA
        · have hje : j = 5 := by omega
          subst hje
          refine (Walks.range rfl I7 0 1 5).done _ _ _ hit8 fun h9 tk9 k9 => ?_
          have F9 : Fr s.heap L' h9 m8 := fr_ext F8 (a := I7) (fun b o q e => k9 b o (fun z => q (List.mem_singleton.mp z)) e) hIL7 hI70
          refine N_execs_nil ?_
          exact ⟨3 - (i + 1), by omega, i + 1, h9, _, _, rfl, rfl, hlt, F9, hmd8, hmw8, hms8, k9 _ _ (fun z => Nat.ne_of_lt hI3 (List.mem_singleton.mp z)) hito8, k9 _ _ (fun z => Nat.ne_of_lt hIb (List.mem_singleton.mp z)) hb8⟩
    · have hie : i = 3 := by omega
      subst hie
      refine (Walks.range rfl h3.objs.size 0 5 3).done _ _ _ hit fun h5 tk5 k5 => ?_
      have F5 : Fr s.heap L' h5 m4 := fr_ext F4 (a := h3.objs.size) (fun b o q e => k5 b o (fun z => q (List.mem_singleton.mp z)) e) hIL hI0
      have hb5 : h5.get? h₁.objs.size = some (baObj (putAll l 3).toArray) := k5 _ _ (fun z => Nat.ne_of_lt haI (List.mem_singleton.mp z)) hb4
      refine wpN_of (wpAny_execs_cons (wpAny_Return_some (Call_ ?_)))
      refine nmB (X.keeps F5.keep) (T.keeps F5.keep) (by k_is) boot_bytes (by decide) rfl rfl rfl rfl (by decide) ?_
      refine PyProof.Rows.callWith_type1 ?_
      refine args_cons (ld F5 hms ?_)
      refine args_nil ?_
      refine bytes_ba hb5 (by simp [putAll_len]) ?_
      exact hret _ _ _ F5.keep
end Mine
end

section
open PySem PySem.W PyProof.Rows PySem.Calls
set_option maxRecDepth 100000
set_option maxHeartbeats 8000000
namespace Mine
/-- a call of a def that has cells, over a clean stack -/
theorem enterCN {w : World} {dp un : Nat} {gd : Option (List Code)} {outer : List Env} {base : Heap} {mean : Mn} {mg mb : Nm} {s : Shared} {P : Flow → Shared → Prop}
    {name qual : PySem.Str} {params : Arguments} {body : List Stmt} {scope : Scope} {dV kV doc pm cdv ct oc : Value} {an od : Option Addr} {osl : Array (Option Value)} {f : Addr} {args : Args} {binds : List (PySem.Str × Value)}
    (O : Ok w mean mg mb base outer s.heap)
    (ho : (hd.heap_39 w.params).lookup f = some ⟨oc, od, .func (fnOf name qual params body scope dV kV doc pm an cdv ct), osl⟩) (hcd : codeIn (hd.heap_39 w.params) cdv qual = true) (hroom : dp < recursionLimit)
    (hbind : BindsTo s (fnOf name qual params body scope dV kV doc pm an cdv ct) args binds)
    (hkind : (binds.all fun y => scope.names.lookup y.1 == some .local || scope.names.lookup y.1 == some .cell) = true)
    (h : ∀ L' h₁ tk, s.heap.objs.size = L' → Fr s.heap L' h₁ (bindL (envOfC qual scope L' f cdv).kindOf binds fun _ => none) →
      Cl L' (cellsFrom (L' + 1) scope.names []) h₁ (bindC (envOfC qual scope L' f cdv).kindOf binds fun _ => none) → Below (Ar dp un gd outer) base outer s.heap → (hd.heap_39 w.params).In s.heap → Top VV LL mean mg mb s.heap →
      wpN (model PR w) ((Ar dp un gd outer).deeper (envOfC qual scope L' f cdv)) (execs body (envOfC qual scope L' f cdv))
        (fun fl s' => P (.ret (match fl with | .ret v => v | _ => .none)) s')
        { s with heap := h₁, toks := tk })
    (hco : scope.isCoroutine = false) (hgen : scope.isGenerator = false) (hk : scope.kind = .function) : codeN (model PR w) (Ar dp un gd outer) (.call (.ref f) args) P s := by
  refine codeN_call hroom (O.X _ _ ho) rfl hco hgen rfl (codeRec_of O.X hcd) (hbind _ _ _ _ ?_)
  refine wpAny_newFunctionEnv_cells hk (kindsX hkind _) fun env' he s' x => ?_
  subst he
  refine ⟨(O.T.nolimit).keeps x.toInCall.keep, codeN_func ?_⟩
  obtain ⟨h₁, tk, rfl, _⟩ := x.done
  exact h _ h₁ tk rfl ⟨x.toInCall.ns, x.toInCall.keep, Nat.le_refl _⟩ ⟨x.cell, x.apart, x.above⟩ ⟨rfl, O.B.stays, O.B.frames⟩ O.X O.T

theorem Cl.but {L : Addr} {cs : List (PySem.Str × Addr)} {h h' : Heap} {cm : Nm} {I : Addr} (X : Cl L cs h cm) (hI : ∀ n c, (n, c) ∈ cs → c ≠ I) (hk : ∀ b o, b ≠ I → h.get? b = some o → h'.get? b = some o) : Cl L cs h' cm :=
  ⟨fun n c e => let ⟨o, ho, hd⟩ := X.cell n c e; ⟨o, hk c o (hI n c (mem_of_lookup e)) ho, hd⟩, X.apart, X.above⟩

/-- the least of a list -/
noncomputable def minL : List Int → Int
  | [] => 0
  | [x] => x
  | x :: y :: r => min x (minL (y :: r))
theorem minL_spec : ∀ (l : List Int), l ≠ [] → minL l ∈ l ∧ ∀ a ∈ l, minL l ≤ a
  | [], h => absurd rfl h
  | [x], _ => by simp [minL]
  | x :: y :: r, _ => by
    obtain ⟨h1, h2⟩ := minL_spec (y :: r) (by simp)
    simp only [minL]
    refine ⟨?_, fun a ha => ?_⟩
    · rcases Int.le_total x (minL (y :: r)) with q | q
      · rw [Int.min_eq_left q]; exact List.mem_cons_self ..
      · rw [Int.min_eq_right q]; exact List.mem_cons_of_mem _ h1
    · rcases List.mem_cons.mp ha with rfl | q
      · exact Int.min_le_left ..
      · exact Int.le_trans (Int.min_le_right ..) (h2 a q)
section
variable {prog : Program} {w : World} {A : Around} {E : Value → Shared → Prop} {s : Shared} {Q : Value → Shared → Prop}
theorem min_L {l : Addr} {vs : List Value} {ns : List Int} (hh : A.handled = none) (hl : s.heap.IsList l vs.toArray) (hi : IntsAre vs ns) (hne : 0 < ns.length)
    (h : ∀ h' t tk, s.heap.StaysIn h' → Q (.int (minL ns) t) { s with heap := h', toks := tk }) : wpAny (model prog w) A (call (.builtin "min") [.ref l]) Q E s := by
  obtain ⟨xs, e⟩ := hi.allInts.items
  have hns : ns = xs.toList.map (·.1) := by rw [← hi.numsOf, ← nums_intItems, ← e]
  have hsz : 0 < xs.size := by
    have h3 := hne; rw [hns, List.length_map, Array.length_toList] at h3; exact h3
  rw [e] at hl
  refine min_intList hh hl hsz fun v h' tk hv hk => ?_
  obtain ⟨t, rfl⟩ := intItems_at hv
  obtain ⟨h1, h2⟩ := argBest_lt (numAt xs) (xs.size - 1)
  have hm : numAt xs (argBest (fun a b => decide (numAt xs a < numAt xs b)) (xs.size - 1)) = minL ns := by
    obtain ⟨m1, m2⟩ := minL_spec ns (by intro q; rw [q] at hne; simp at hne)
    have a1 : minL ns ≤ numAt xs (argBest (fun a b => decide (numAt xs a < numAt xs b)) (xs.size - 1)) := m2 _ (by
      rw [numAt_eq, hns]; exact getD_mem (by rw [List.length_map, Array.length_toList]; omega))
    have a2 : numAt xs (argBest (fun a b => decide (numAt xs a < numAt xs b)) (xs.size - 1)) ≤ minL ns := by
      have m1' : minL ns ∈ xs.toList.map (·.1) := hns ▸ m1
      obtain ⟨j, hj, hj'⟩ := mem_getD m1'
      rw [List.length_map, Array.length_toList] at hj
      rw [← hj', ← numAt_eq]; exact h2 j (by omega)
    omega
  first
    | (rw [hm]; exact h h' t tk hk)
    | (have := h h' t tk hk; rw [← hm] at this; exact this)
theorem callWith_bF {pos : Pos} {env : Env} {id : String} {first : List Value} {e : Expr} {rest : List Expr}
    (h : wpAny (model prog w) A (spliced (backTo pos (starEach (e :: rest) env))) (fun vs s₁ => wpAny (model prog w) A (call (.builtin id) (first ++ vs)) Q E s₁) E s)
    (he : starEach (e :: rest) env = (false, eval e env) :: starEach rest env := by rfl)
    (hplain : (backTo pos (starEach (e :: rest) env)).any (·.1) = false := by rfl) :
    wpAny (model prog w) A (callWith pos (.builtin id) first (backTo pos (starEach (e :: rest) env)) []) Q E s := by
  rw [he] at hplain h ⊢
  exact Calls.callWith_builtin hplain (Calls.evalArgs_plain h)
/-- a cut of bytes -/
theorem slice_b {value slice : Expr} {b : Array UInt8} {t : Tok} {l u : Value} {lo hi : Option Int} {s₀ : Shared} {ops : List Value} (hl : IsPart l lo) (hu : IsPart u hi) (hz : b.size ≤ 1000)
    (h : ∀ h' t' k, s₀.heap.StaysIn h' → Q (.bytes (KBy.picked b lo hi) t') { s₀ with heap := h', toks := k })
    (hs : subscripted slice false (.bytes b t) (.ref s₀.heap.objs.size) = operate ops (getItem (.bytes b t) (.ref s₀.heap.objs.size)) := by with_unfolding_all rfl)
    (ht : ∀ r, letTemporaryGo value (.bytes b t) r = pure () := by intro _; with_unfolding_all rfl) :
    wpAny (model prog w) A (subscriptTail value slice (.bytes b t) (.ref s₀.heap.objs.size)) Q E { s₀ with heap := s₀.heap.push { cls := .type "slice", data := .fields #[l, u, .none] } } :=
  tail_of_ItemOn ⟨"bytes", _, FB.slot_bytes_getitem.lookup, typeIs_bytes _ _ _, getItem_meets (typeIs_bytes _ _ _) (by decide) FB.slot_bytes_getitem FB.entry_bytes_getitem (FB.args_bytes_getitem_2 _ _) (KBc.meets_slice2 b t _ hl hu)
    ⟨Heap.IsSliceOf.new _ _ _ _, Nat.le_trans (KBc.size_picked_le b lo hi) (by rw [sizeLine_eq]; omega), fun t' k => h _ _ _ (fun b o e => Heap.get?_push_of_some _ e)⟩⟩ hs ht
theorem picked_take (l : List UInt8) (n : Nat) : KBy.picked l.toArray none (some (n : Int)) = (l.take n).toArray := by
  rw [KBc.picked_eq]
  simp only [Option.elim, clipAt_nat, List.drop_zero, Nat.sub_zero, List.size_toArray]
  rw [kmk_take_min]
theorem picked_drop (l : List UInt8) (n : Nat) : KBy.picked l.toArray (some (n : Int)) none = (l.drop n).toArray := by
  rw [KBc.picked_eq]
  simp only [Option.elim, clipAt_nat, List.size_toArray]
  rw [kmk_drop_min, List.take_of_length_le (by rw [List.length_drop]; omega)]
theorem picked_run (l : List UInt8) (n m : Nat) : KBy.picked l.toArray (some (n : Int)) (some (m : Int)) = ((l.drop n).take (m - n)).toArray := by
  rw [KBc.picked_eq]
  simp only [Option.elim, clipAt_nat, List.size_toArray]
  rw [kmk_drop_min]
  congr 1
  rw [List.take_eq_take_iff, List.length_drop]
  omega
theorem range2_it {E₂ : Value → Shared → Prop} {a b : Int} {t u : Tok} (n : Nat) (hb : b = a + (n : Int)) (ha : 0 ≤ a ∧ a ≤ 1000) (hn : n ≤ 1000)
    (h : ∀ I h' tk, IsRangeIter h' I a n 1 → (∀ b o, s.heap.get? b = some o → h'.get? b = some o) → s.heap.objs.size ≤ I → I < h'.objs.size → Q (.ref I) { s with heap := h', toks := tk }) :
    wpAny (model prog w) A (call (.type "range") [.int a t, .int b u]) (fun xv s₁ => wpAny (model prog w) A (pyIter xv) Q E₂ s₁) E s := by
  refine call_range_2 ?_
  subst hb
  have hz : Builtin.Range.rangeSize a (a + (n : Int)) 1 = (n : Int) := by rw [rangeSize_one]; split <;> omega
  have hs : Builtin.Range.small a (a + (n : Int)) 1 = true := by
    have hf : ∀ x : Int, 0 ≤ x → x ≤ 2000 → Builtin.Range.rangeFitsLong x = true := fun x h0 h1 => by
      unfold Builtin.Range.rangeFitsLong
      simp only [Bool.and_eq_true, decide_eq_true_eq]
      omega
    unfold Builtin.Range.small
    simp only [hz]
    simp [hf a (by omega) (by omega), hf (a + n) (by omega) (by omega), hf n (by omega) (by omega), hf 1 (by omega) (by omega)]
  refine wpAny_pyIter_range (Heap.get?_push_size _ rfl) hs ?_
  rw [hz]
  refine h _ _ _ (Heap.get?_push_size _ rfl) (fun b o e => Heap.get?_push_of_some _ (Heap.get?_push_of_some _ e)) ?_ ?_
  · show s.heap.objs.size ≤ (s.heap.push _).objs.size
    rw [Heap.size_push]; exact Nat.le_succ _
  · show (s.heap.push _).objs.size < ((s.heap.push _).push _).objs.size
    simp only [Heap.size_push]; exact Nat.lt_succ_self _
end
end Mine
end

section
/-! the plain law: no program in sight -/
namespace Mine
noncomputable def cnt (b : Nat) (r : List UInt8) : Int := ((r.filter fun x => decide ((x.toNat : Int) < (b : Int))).length : Nat)
noncomputable def below (b : Nat) (r : List UInt8) : List Int := (List.range 6).map fun j => cnt b (r.take j)
noncomputable def height (r : List UInt8) (ps : List (List Int)) (b : Nat) : List Int :=
  (List.range 6).map fun k => minL ((List.range 6).map fun j => (below b r).getD j 0 + (ps.getD (5 - j) []).getD k 0)
noncomputable def due (r : List UInt8) (ps : List (List Int)) : List Int :=
  (List.range 5).map fun k => ((((List.range 6).map fun b => height r ps (b + 1)).filter fun p => decide (p.getD k 0 = p.getD (k + 1) 0)).length : Nat)

theorem minL_min : ∀ (l : List (Int × Int × Int)), l ≠ [] → minL (l.map fun x => x.1 + min (x.2.1 + 1) x.2.2) = min (minL (l.map fun x => x.1 + x.2.1) + 1) (minL (l.map fun x => x.1 + x.2.2))
  | [], h => absurd rfl h
  | [x], _ => by simp only [List.map, minL]; omega
  | x :: y :: r, _ => by
    have ih := minL_min (y :: r) (by simp)
    simp only [List.map, minL] at ih ⊢
    rw [ih]
    omega
theorem cnt_cons (b : Nat) (x : UInt8) (r : List UInt8) : cnt b (x :: r) = (if (x.toNat : Int) < b then 1 else 0) + cnt b r := by
  unfold cnt
  rw [List.filter_cons]
  by_cases h : (x.toNat : Int) < b
  · rw [if_pos (decide_eq_true h), if_pos h, List.length_cons]; omega
  · rw [if_neg (by rw [decide_eq_false h]; decide), if_neg h]; omega
theorem cnt_nil (b : Nat) : cnt b [] = 0 := rfl
theorem ind (b : Nat) (x : UInt8) : ∃ d : Int, (if (x.toNat : Int) < (b : Int) then (1 : Int) else 0) = d ∧ 0 ≤ d ∧ d ≤ 1 ∧ (d = 1 ↔ (x.toNat : Int) < (b : Int)) := by
  by_cases h : (x.toNat : Int) < (b : Int)
  · exact ⟨1, if_pos h, by omega, by omega, by simp [h]⟩
  · exact ⟨0, if_neg h, by omega, by omega, by simp [h]⟩
theorem below5 {b : Nat} {a0 a1 a2 a3 a4 : UInt8} {d0 d1 d2 d3 d4 : Int} (e0 : (if (a0.toNat : Int) < (b : Int) then (1 : Int) else 0) = d0) (e1 : (if (a1.toNat : Int) < (b : Int) then (1 : Int) else 0) = d1)
    (e2 : (if (a2.toNat : Int) < (b : Int) then (1 : Int) else 0) = d2) (e3 : (if (a3.toNat : Int) < (b : Int) then (1 : Int) else 0) = d3) (e4 : (if (a4.toNat : Int) < (b : Int) then (1 : Int) else 0) = d4) :
    below b [a0, a1, a2, a3, a4] = [0, d0, d0 + d1, d0 + (d1 + d2), d0 + (d1 + (d2 + d3)), d0 + (d1 + (d2 + (d3 + d4)))] := by
  have hr : List.range 6 = [0, 1, 2, 3, 4, 5] := rfl
  simp only [below, hr, List.map, List.take, cnt_cons, cnt_nil, e0, e1, e2, e3, e4, Int.add_zero]
theorem ord_d {x y d d' b : Int} (h : x < y) (q : d = 1 ↔ y < b) (q' : d' = 1 ↔ x < b) (l' : 0 ≤ d') (u : d ≤ 1) (l : 0 ≤ d) : d ≤ d' := by
  by_cases z : d = 1
  · have := q'.mpr (by have := q.mp z; omega); omega
  · omega
theorem ord_e {x y d d' b : Int} (h : ¬ x < y) (q : d = 1 ↔ y < b) (q' : d' = 1 ↔ x < b) (l : 0 ≤ d) (u' : d' ≤ 1) (l' : 0 ≤ d') : d' ≤ d := by
  by_cases z : d' = 1
  · have := q.mpr (by have := q'.mp z; omega); omega
  · omega
theorem below_step (b : Nat) (i : Nat) (hi : i < 4) (a0 a1 a2 a3 a4 : UInt8) : below b (stepL i [a0, a1, a2, a3, a4]) = bump i (below b [a0, a1, a2, a3, a4]) := by
  obtain ⟨d0, e0, l0, u0, q0⟩ := ind b a0
  obtain ⟨d1, e1, l1, u1, q1⟩ := ind b a1
  obtain ⟨d2, e2, l2, u2, q2⟩ := ind b a2
  obtain ⟨d3, e3, l3, u3, q3⟩ := ind b a3
  obtain ⟨d4, e4, l4, u4, q4⟩ := ind b a4
  have hi' : i = 0 ∨ i = 1 ∨ i = 2 ∨ i = 3 := by omega
  rw [below5 e0 e1 e2 e3 e4]
  rcases hi' with rfl | rfl | rfl | rfl <;> simp only [stepL] <;> split <;> rename_i h <;> rw [UInt8.lt_iff_toNat_lt, ← Int.ofNat_lt] at h
  · have o := ord_d h q0 q1 l1 u0 l0
    rw [below5 e1 e0 e2 e3 e4]
    clear q0 q1 q2 q3 q4 e0 e1 e2 e3 e4 h
    simp only [bump, Nat.reduceAdd, List.set_cons_succ, List.set_cons_zero, List.getD_cons_zero, List.getD_cons_succ, List.cons.injEq, and_true, true_and]
    omega
  · have o := ord_e h q0 q1 l0 u1 l1
    rw [below5 e0 e1 e2 e3 e4]
    clear q0 q1 q2 q3 q4 e0 e1 e2 e3 e4 h
    simp only [bump, Nat.reduceAdd, List.set_cons_succ, List.set_cons_zero, List.getD_cons_zero, List.getD_cons_succ, List.cons.injEq, and_true, true_and]
    omega
  · have o := ord_d h q1 q2 l2 u1 l1
    rw [below5 e0 e2 e1 e3 e4]
    clear q0 q1 q2 q3 q4 e0 e1 e2 e3 e4 h
    simp only [bump, Nat.reduceAdd, List.set_cons_succ, List.set_cons_zero, List.getD_cons_zero, List.getD_cons_succ, List.cons.injEq, and_true, true_and]
    omega
  · have o := ord_e h q1 q2 l1 u2 l2
    rw [below5 e0 e1 e2 e3 e4]
    clear q0 q1 q2 q3 q4 e0 e1 e2 e3 e4 h
    simp only [bump, Nat.reduceAdd, List.set_cons_succ, List.set_cons_zero, List.getD_cons_zero, List.getD_cons_succ, List.cons.injEq, and_true, true_and]
    omega
  · have o := ord_d h q2 q3 l3 u2 l2
    rw [below5 e0 e1 e3 e2 e4]
    clear q0 q1 q2 q3 q4 e0 e1 e2 e3 e4 h
    simp only [bump, Nat.reduceAdd, List.set_cons_succ, List.set_cons_zero, List.getD_cons_zero, List.getD_cons_succ, List.cons.injEq, and_true, true_and]
    omega
  · have o := ord_e h q2 q3 l2 u3 l3
    rw [below5 e0 e1 e2 e3 e4]
    clear q0 q1 q2 q3 q4 e0 e1 e2 e3 e4 h
    simp only [bump, Nat.reduceAdd, List.set_cons_succ, List.set_cons_zero, List.getD_cons_zero, List.getD_cons_succ, List.cons.injEq, and_true, true_and]
    omega
  · have o := ord_d h q3 q4 l4 u3 l3
    rw [below5 e0 e1 e2 e4 e3]
    clear q0 q1 q2 q3 q4 e0 e1 e2 e3 e4 h
    simp only [bump, Nat.reduceAdd, List.set_cons_succ, List.set_cons_zero, List.getD_cons_zero, List.getD_cons_succ, List.cons.injEq, and_true, true_and]
    omega
  · have o := ord_e h q3 q4 l3 u4 l4
    rw [below5 e0 e1 e2 e3 e4]
    clear q0 q1 q2 q3 q4 e0 e1 e2 e3 e4 h
    simp only [bump, Nat.reduceAdd, List.set_cons_succ, List.set_cons_zero, List.getD_cons_zero, List.getD_cons_succ, List.cons.injEq, and_true, true_and]
    omega
theorem bump_getD (i : Nat) (p : List Int) (k : Nat) (hp : p.length = 6) (hi : i < 4) : (bump i p).getD k 0 = if k = i + 1 then min (p.getD i 0 + 1) (p.getD (i + 2) 0) else p.getD k 0 := by
  unfold bump
  simp only [List.getD_eq_getElem?_getD, List.getElem?_set]
  by_cases h : k = i + 1
  · subst h
    rw [if_pos rfl, if_pos (by omega), if_pos rfl]; rfl
  · rw [if_neg (by omega), if_neg h]
theorem height_bump (r : List UInt8) (ps : List (List Int)) (b i : Nat) (hi : i < 4) (hps : ps.length = 6) (hp : ∀ p ∈ ps, p.length = 6) : height r (ps.map (bump i)) b = bump i (height r ps b) := by
  have hlen : ∀ qs, (height r qs b).length = 6 := fun qs => by simp [height]
  have e : ∀ j, j < 6 → (ps.map (bump i)).getD (5 - j) [] = bump i (ps.getD (5 - j) []) ∧ (ps.getD (5 - j) []).length = 6 := fun j hj => by
    have h5 : 5 - j < ps.length := by omega
    simp only [List.getD_eq_getElem?_getD, List.getElem?_map, List.getElem?_eq_getElem h5, Option.map_some, Option.getD_some]
    exact ⟨trivial, hp _ (List.getElem_mem h5)⟩
  apply List.ext_getElem
  · rw [hlen, show (bump i (height r ps b)).length = (height r ps b).length from by simp [bump], hlen]
  · intro k h1 h2
    have hk : k < 6 := by rw [hlen] at h1; exact h1
    have g1 : (height r (ps.map (bump i)) b)[k] = (height r (ps.map (bump i)) b).getD k 0 := by rw [List.getD_eq_getElem?_getD, List.getElem?_eq_getElem h1]; rfl
    have g2 : (bump i (height r ps b))[k] = (bump i (height r ps b)).getD k 0 := by rw [List.getD_eq_getElem?_getD, List.getElem?_eq_getElem h2]; rfl
    have at_ : ∀ qs k, k < 6 → (height r qs b).getD k 0 = minL ((List.range 6).map fun j => (below b r).getD j 0 + (qs.getD (5 - j) []).getD k 0) := fun qs k hk => by
      simp [height, List.getD_eq_getElem?_getD, hk]
    refine g1.trans (Eq.trans ?_ g2.symm)
    rw [bump_getD i _ k (hlen ps) hi, at_ _ k hk]
    have lhs : ((List.range 6).map fun j => (below b r).getD j 0 + ((ps.map (bump i)).getD (5 - j) []).getD k 0) = ((List.range 6).map fun j => (below b r).getD j 0 + (if k = i + 1 then min ((ps.getD (5 - j) []).getD i 0 + 1) ((ps.getD (5 - j) []).getD (i + 2) 0) else (ps.getD (5 - j) []).getD k 0)) :=
      List.map_congr_left fun j hj => by
        obtain ⟨e1, e2⟩ := e j (List.mem_range.mp hj)
        rw [e1, bump_getD i _ k e2 hi]
    rw [lhs]
    by_cases h : k = i + 1
    · simp only [if_pos h]
      rw [at_ ps i (by omega), at_ ps (i + 2) (by omega)]
      have := minL_min ((List.range 6).map fun j => ((below b r).getD j 0, (ps.getD (5 - j) []).getD i 0, (ps.getD (5 - j) []).getD (i + 2) 0)) (by simp)
      simp only [List.map_map] at this
      exact this
    · simp only [if_neg h]
      rw [at_ ps k hk]
theorem height_zero (b : Nat) (a0 a1 a2 a3 a4 : UInt8) : height [a0, a1, a2, a3, a4] paths0 b = below b [a0, a1, a2, a3, a4] := by
  have hr : List.range 6 = [0, 1, 2, 3, 4, 5] := rfl
  have hp : paths0 = [[0, 0, 0, 0, 0, 0], [0, 0, 0, 0, 0, 1], [0, 0, 0, 0, 1, 2], [0, 0, 0, 1, 2, 3], [0, 0, 1, 2, 3, 4], [0, 1, 2, 3, 4, 5]] := by decide
  obtain ⟨d0, e0, l0, u0, _⟩ := ind b a0
  obtain ⟨d1, e1, l1, u1, _⟩ := ind b a1
  obtain ⟨d2, e2, l2, u2, _⟩ := ind b a2
  obtain ⟨d3, e3, l3, u3, _⟩ := ind b a3
  obtain ⟨d4, e4, l4, u4, _⟩ := ind b a4
  unfold height
  rw [below5 e0 e1 e2 e3 e4, hp, hr]
  clear e0 e1 e2 e3 e4
  simp only [List.map, minL, List.getD_cons_zero, List.getD_cons_succ, Nat.sub_zero, List.cons.injEq, and_true, Nat.reduceSub]
  refine ⟨?_, ?_, ?_, ?_, ?_, ?_⟩ <;> omega
theorem height_run (row : List UInt8) (b : Nat) : ∀ (ns : List Int) (qs : List (List Int)) (r : List UInt8), (∀ n ∈ ns, 0 ≤ n ∧ n < 4) → r.length = 5 → qs.length = 6 → (∀ p ∈ qs, p.length = 6) → height row qs b = below b r →
    height row (runP ns qs) b = below b (runL ns r)
  | [], _, _, _, _, _, _, h => h
  | k :: ns, qs, r, hn, hr, hq, hp, h => by
    obtain ⟨k0, k1⟩ := hn k (List.mem_cons_self ..)
    have hi : k.toNat < 4 := by omega
    refine height_run row b ns (qs.map (bump k.toNat)) (stepL k.toNat r) (fun n hm => hn n (List.mem_cons_of_mem _ hm)) ((stepL_length _ _).trans hr) (by simpa using hq) (fun p hm => ?_) ?_
    · obtain ⟨q, hq', rfl⟩ := List.mem_map.mp hm
      simp [bump, hp q hq']
    · rw [height_bump row qs b _ hi hq hp, h]
      obtain ⟨a0, a1, a2, a3, a4, rfl⟩ := five hr
      exact (below_step b _ hi a0 a1 a2 a3 a4).symm
theorem paths0_ok : paths0.length = 6 ∧ ∀ p ∈ paths0, p.length = 6 := by decide
theorem height_all (ns : List Int) (row : List UInt8) (b : Nat) (hn : ∀ n ∈ ns, 0 ≤ n ∧ n < 4) (hr : row.length = 5) : height row (runP ns paths0) b = below b (runL ns row) := by
  refine height_run row b ns paths0 row hn hr paths0_ok.1 paths0_ok.2 ?_
  obtain ⟨a0, a1, a2, a3, a4, rfl⟩ := five hr
  exact height_zero b a0 a1 a2 a3 a4
theorem below_eq (b : Nat) (a0 a1 a2 a3 a4 : UInt8) (k : Nat) (hk : k < 5) : ((below b [a0, a1, a2, a3, a4]).getD k 0 = (below b [a0, a1, a2, a3, a4]).getD (k + 1) 0) ↔ ¬ (([a0, a1, a2, a3, a4].getD k 0).toNat : Int) < (b : Int) := by
  obtain ⟨d0, e0, l0, u0, q0⟩ := ind b a0
  obtain ⟨d1, e1, l1, u1, q1⟩ := ind b a1
  obtain ⟨d2, e2, l2, u2, q2⟩ := ind b a2
  obtain ⟨d3, e3, l3, u3, q3⟩ := ind b a3
  obtain ⟨d4, e4, l4, u4, q4⟩ := ind b a4
  rw [below5 e0 e1 e2 e3 e4]
  have : k = 0 ∨ k = 1 ∨ k = 2 ∨ k = 3 ∨ k = 4 := by omega
  rcases this with rfl | rfl | rfl | rfl | rfl <;> simp only [List.getD_cons_zero, List.getD_cons_succ]
  · rw [← q0]; clear q0 q1 q2 q3 q4 e0 e1 e2 e3 e4; omega
  · rw [← q1]; clear q0 q1 q2 q3 q4 e0 e1 e2 e3 e4; omega
  · rw [← q2]; clear q0 q1 q2 q3 q4 e0 e1 e2 e3 e4; omega
  · rw [← q3]; clear q0 q1 q2 q3 q4 e0 e1 e2 e3 e4; omega
  · rw [← q4]; clear q0 q1 q2 q3 q4 e0 e1 e2 e3 e4; omega
theorem count6 (n : Nat) (h : n ≤ 6) : (((List.range 6).filter fun b => decide (¬ (n : Int) < ((b + 1 : Nat) : Int))).length : Int) = n := by
  have : n = 0 ∨ n = 1 ∨ n = 2 ∨ n = 3 ∨ n = 4 ∨ n = 5 ∨ n = 6 := by omega
  rcases this with rfl | rfl | rfl | rfl | rfl | rfl | rfl <;> decide
/-- the heights tell the row led through the net -/
theorem due_run (ns : List Int) (row : List UInt8) (hn : ∀ n ∈ ns, 0 ≤ n ∧ n < 4) (hr : row.length = 5) (h6 : ∀ x ∈ runL ns row, x.toNat ≤ 6) (hl : (runL ns row).length = 5) :
    due row (runP ns paths0) = (runL ns row).map fun x => (x.toNat : Int) := by
  have hh : ∀ b, height row (runP ns paths0) b = below b (runL ns row) := fun b => height_all ns row b hn hr
  generalize runL ns row = r at *
  obtain ⟨a0, a1, a2, a3, a4, rfl⟩ := five hl
  unfold due
  have : ∀ k, k < 5 → ((((List.range 6).map fun b => height row (runP ns paths0) (b + 1)).filter fun p => decide (p.getD k 0 = p.getD (k + 1) 0)).length : Int) = (([a0, a1, a2, a3, a4].getD k 0).toNat : Int) := fun k hk => by
    have m : [a0, a1, a2, a3, a4].getD k 0 ∈ [a0, a1, a2, a3, a4] := by
      rw [List.getD_eq_getElem?_getD, List.getElem?_eq_getElem (show k < [a0, a1, a2, a3, a4].length from hk)]
      exact List.getElem_mem _
    rw [List.filter_map, List.length_map, ← count6 _ (h6 _ m)]
    congr 2
    refine List.filter_congr fun b _ => ?_
    simp only [Function.comp, hh]
    rw [Bool.eq_iff_iff, decide_eq_true_eq, decide_eq_true_eq]
    exact below_eq (b + 1) a0 a1 a2 a3 a4 k hk
  have hr5 : List.range 5 = [0, 1, 2, 3, 4] := rfl
  rw [hr5]
  simp only [List.map, this 0 (by decide), this 1 (by decide), this 2 (by decide), this 3 (by decide), this 4 (by decide)]
  rfl
/-- the paths are the heights of the falling row -/
noncomputable def fallRow : List UInt8 := [4, 3, 2, 1, 0]
theorem paths_fall : ∀ (ns : List Int) (qs : List (List Int)) (r : List UInt8), (∀ n ∈ ns, 0 ≤ n ∧ n < 4) → r.length = 5 → qs = (List.range 6).map (fun s => below s r) → runP ns qs = (List.range 6).map fun s => below s (runL ns r)
  | [], _, _, _, _, h => h
  | k :: ns, qs, r, hn, hr, h => by
    obtain ⟨k0, k1⟩ := hn k (List.mem_cons_self ..)
    refine paths_fall ns (qs.map (bump k.toNat)) (stepL k.toNat r) (fun n hm => hn n (List.mem_cons_of_mem _ hm)) ((stepL_length _ _).trans hr) ?_
    obtain ⟨a0, a1, a2, a3, a4, rfl⟩ := five hr
    rw [h, List.map_map]
    exact List.map_congr_left fun s _ => (below_step s _ (by omega) a0 a1 a2 a3 a4).symm
theorem below_inj {r r' : List UInt8} (hr : r.length = 5) (hr' : r'.length = 5) (h : ∀ b, below b r = below b r') : r = r' := by
  obtain ⟨a0, a1, a2, a3, a4, rfl⟩ := five hr
  obtain ⟨b0, b1, b2, b3, b4, rfl⟩ := five hr'
  have key : ∀ k, k < 5 → [a0, a1, a2, a3, a4].getD k 0 = [b0, b1, b2, b3, b4].getD k 0 := fun k hk => by
    have e : ∀ b : Nat, (([a0, a1, a2, a3, a4].getD k 0).toNat : Int) < (b : Int) ↔ (([b0, b1, b2, b3, b4].getD k 0).toNat : Int) < (b : Int) := fun b => by
      have q1 := below_eq b a0 a1 a2 a3 a4 k hk
      have q2 := below_eq b b0 b1 b2 b3 b4 k hk
      rw [h b] at q1
      exact Decidable.not_iff_not.mp (q1.symm.trans q2)
    apply UInt8.toNat_inj.mp
    have h1 := e (([a0, a1, a2, a3, a4].getD k 0).toNat + 1)
    have h2 := e (([b0, b1, b2, b3, b4].getD k 0).toNat + 1)
    omega
  have k0 := key 0 (by decide); have k1 := key 1 (by decide); have k2 := key 2 (by decide); have k3 := key 3 (by decide); have k4 := key 4 (by decide)
  simp only [List.getD_cons_zero, List.getD_cons_succ] at k0 k1 k2 k3 k4
  rw [k0, k1, k2, k3, k4]
theorem runL_length : ∀ (ns : List Int) (r : List UInt8), (runL ns r).length = r.length
  | [], _ => rfl
  | k :: ns, r => (runL_length ns (stepL k.toNat r)).trans (stepL_length _ _)
/-- two nets that do the same to the falling row do the same to each row -/
theorem same_net {ns ms : List Int} (hn : ∀ n ∈ ns, 0 ≤ n ∧ n < 4) (hm : ∀ n ∈ ms, 0 ≤ n ∧ n < 4) (h : runL ns fallRow = runL ms fallRow) (row : List UInt8) (hr : row.length = 5) : runL ns row = runL ms row := by
  have p0 : paths0 = (List.range 6).map fun s => below s fallRow := by decide
  refine below_inj ((runL_length _ _).trans hr) ((runL_length _ _).trans hr) fun b => ?_
  rw [← height_all ns row b hn hr, ← height_all ms row b hm hr, paths_fall ns paths0 fallRow hn rfl p0, paths_fall ms paths0 fallRow hm rfl p0, h]
/-- where the row rises -/
noncomputable def rises (r : List UInt8) : List Nat := (List.range 4).filter fun k => decide ((r.getD k 0).toNat < (r.getD (k + 1) 0).toNat)
noncomputable def swapAt (k : Nat) (r : List UInt8) : List UInt8 := r.take k ++ (r.drop (k + 1)).take 1 ++ (r.drop k).take 1 ++ r.drop (k + 2)
noncomputable def offTurn (st : List UInt8 × List Int) : List UInt8 × List Int := match rises st.1 with
  | [] => st
  | k :: _ => (swapAt k st.1, (k : Int) :: st.2)
noncomputable def offN : Nat → List UInt8 × List Int → List UInt8 × List Int
  | 0, st => st
  | n + 1, st => offN n (offTurn st)
noncomputable def readOff (r : List UInt8) : List Int := (offN 10 (r, [])).2
noncomputable def falling : List UInt8 := [4, 3, 2, 1, 0]
/-! the read-off leads the falling row back -/
theorem stepL_perm : ∀ (k : Nat) (r : List UInt8), (stepL k r).Perm r
  | 0, [] => .refl _
  | 0, [_] => .refl _
  | 0, a :: b :: r => by
    unfold stepL
    split
    · exact .swap a b r
    · exact .refl _
  | _ + 1, [] => .refl _
  | k + 1, a :: r => .cons a (stepL_perm k r)
theorem runL_perm : ∀ (ns : List Int) (r : List UInt8), (runL ns r).Perm r
  | [], _ => .refl _
  | k :: ns, r => (runL_perm ns (stepL k.toNat r)).trans (stepL_perm _ r)
theorem turn5 (a b c d e : UInt8) (ws : List Int) : offTurn ([a, b, c, d, e], ws) =
    if a.toNat < b.toNat then ([b, a, c, d, e], 0 :: ws) else if b.toNat < c.toNat then ([a, c, b, d, e], 1 :: ws) else if c.toNat < d.toNat then ([a, b, d, c, e], 2 :: ws) else if d.toNat < e.toNat then ([a, b, c, e, d], 3 :: ws) else ([a, b, c, d, e], ws) := by
  have hr : List.range 4 = [0, 1, 2, 3] := rfl
  unfold offTurn rises
  dsimp only
  rw [hr]
  generalize hq : (fun k => decide (([a, b, c, d, e].getD k 0).toNat < ([a, b, c, d, e].getD (k + 1) 0).toNat)) = q
  have q0 : q 0 = decide (a.toNat < b.toNat) := by rw [← hq]; rfl
  have q1 : q 1 = decide (b.toNat < c.toNat) := by rw [← hq]; rfl
  have q2 : q 2 = decide (c.toNat < d.toNat) := by rw [← hq]; rfl
  have q3 : q 3 = decide (d.toNat < e.toNat) := by rw [← hq]; rfl
  clear hq
  by_cases h1 : a.toNat < b.toNat
  · rw [if_pos h1, List.filter_cons_of_pos (q0.trans (decide_eq_true h1))]; rfl
  · rw [if_neg h1, List.filter_cons_of_neg (by rw [q0]; exact fun z => h1 (of_decide_eq_true z))]
    by_cases h2 : b.toNat < c.toNat
    · rw [if_pos h2, List.filter_cons_of_pos (q1.trans (decide_eq_true h2))]; rfl
    · rw [if_neg h2, List.filter_cons_of_neg (by rw [q1]; exact fun z => h2 (of_decide_eq_true z))]
      by_cases h3 : c.toNat < d.toNat
      · rw [if_pos h3, List.filter_cons_of_pos (q2.trans (decide_eq_true h3))]; rfl
      · rw [if_neg h3, List.filter_cons_of_neg (by rw [q2]; exact fun z => h3 (of_decide_eq_true z))]
        by_cases h4 : d.toNat < e.toNat
        · rw [if_pos h4, List.filter_cons_of_pos (q3.trans (decide_eq_true h4))]; rfl
        · rw [if_neg h4, List.filter_cons_of_neg (by rw [q3]; exact fun z => h4 (of_decide_eq_true z))]; rfl
noncomputable def p2 (x y : Nat) : Int := if x < y then 1 else 0
theorem p2_le (x y : Nat) : 0 ≤ p2 x y ∧ p2 x y ≤ 1 := by unfold p2; split <;> omega
theorem p2_pos {x y : Nat} (h : x < y) : p2 x y = 1 ∧ p2 y x = 0 := ⟨if_pos h, if_neg (by omega)⟩
theorem p2_neg {x y : Nat} (h : ¬ x < y) : p2 x y = 0 := if_neg h
noncomputable def asc (a b c d e : Nat) : Int := p2 a b + p2 a c + p2 a d + p2 a e + p2 b c + p2 b d + p2 b e + p2 c d + p2 c e + p2 d e
theorem asc_le (a b c d e : Nat) : asc a b c d e ≤ 10 := by
  have := p2_le a b; have := p2_le a c; have := p2_le a d; have := p2_le a e; have := p2_le b c; have := p2_le b d; have := p2_le b e; have := p2_le c d; have := p2_le c e; have := p2_le d e
  unfold asc; omega
theorem asc_nn (a b c d e : Nat) : p2 a b ≤ asc a b c d e ∧ p2 b c ≤ asc a b c d e ∧ p2 c d ≤ asc a b c d e ∧ p2 d e ≤ asc a b c d e := by
  have := p2_le a b; have := p2_le a c; have := p2_le a d; have := p2_le a e; have := p2_le b c; have := p2_le b d; have := p2_le b e; have := p2_le c d; have := p2_le c e; have := p2_le d e
  unfold asc; omega
theorem asc_none {a b c d e : Nat} (h1 : ¬ a < b) (h2 : ¬ b < c) (h3 : ¬ c < d) (h4 : ¬ d < e) : asc a b c d e = 0 := by
  unfold asc
  rw [p2_neg h1, p2_neg h2, p2_neg h3, p2_neg h4, p2_neg (x := a) (y := c) (by omega), p2_neg (x := a) (y := d) (by omega), p2_neg (x := a) (y := e) (by omega), p2_neg (x := b) (y := d) (by omega), p2_neg (x := b) (y := e) (by omega), p2_neg (x := c) (y := e) (by omega)]
  rfl
theorem off_run : ∀ (n : Nat) (a b c d e : UInt8) (ws : List Int), asc a.toNat b.toNat c.toNat d.toNat e.toNat ≤ n → ∃ a' b' c' d' e' ws', offN n ([a, b, c, d, e], ws) = ([a', b', c', d', e'], ws') ∧ runL ws' [a', b', c', d', e'] = runL ws [a, b, c, d, e] ∧
    [a', b', c', d', e'].Perm [a, b, c, d, e] ∧ (¬ a'.toNat < b'.toNat ∧ ¬ b'.toNat < c'.toNat ∧ ¬ c'.toNat < d'.toNat ∧ ¬ d'.toNat < e'.toNat) ∧ ((∀ n ∈ ws, 0 ≤ n ∧ n < 4) → ∀ n ∈ ws', 0 ≤ n ∧ n < 4)
  | 0, a, b, c, d, e, ws, h => by
    obtain ⟨q1, q2, q3, q4⟩ := asc_nn a.toNat b.toNat c.toNat d.toNat e.toNat
    have no : ∀ {x y : Nat}, p2 x y ≤ asc a.toNat b.toNat c.toNat d.toNat e.toNat → ¬ x < y := fun q z => by rw [(p2_pos z).1] at q; omega
    exact ⟨a, b, c, d, e, ws, rfl, rfl, .refl _, ⟨no q1, no q2, no q3, no q4⟩, id⟩
  | n + 1, a, b, c, d, e, ws, h => by
    show ∃ a' b' c' d' e' ws', offN n (offTurn ([a, b, c, d, e], ws)) = _ ∧ _
    have add : ∀ {k : Int}, 0 ≤ k ∧ k < 4 → (∀ n ∈ ws, 0 ≤ n ∧ n < 4) → ∀ n ∈ k :: ws, 0 ≤ n ∧ n < 4 := fun hk hw n hn => by
      rcases List.mem_cons.mp hn with rfl | q
      · exact hk
      · exact hw n q
    rw [turn5]
    by_cases h1 : a.toNat < b.toNat
    · rw [if_pos h1]
      have h' : asc b.toNat a.toNat c.toNat d.toNat e.toNat ≤ n := by have := p2_pos h1; unfold asc at h ⊢; omega
      obtain ⟨a', b', c', d', e', ws', x1, x2, x3, x4, x5⟩ := off_run n b a c d e (0 :: ws) h'
      refine ⟨a', b', c', d', e', ws', x1, x2.trans ?_, x3.trans (.swap a b _), x4, fun hw => x5 (add (by decide) hw)⟩
      show runL ws (stepL 0 [b, a, c, d, e]) = _
      simp only [stepL, if_pos (UInt8.lt_iff_toNat_lt.mpr h1)]
    · rw [if_neg h1]
      by_cases h2 : b.toNat < c.toNat
      · rw [if_pos h2]
        have h' : asc a.toNat c.toNat b.toNat d.toNat e.toNat ≤ n := by have := p2_pos h2; unfold asc at h ⊢; omega
        obtain ⟨a', b', c', d', e', ws', x1, x2, x3, x4, x5⟩ := off_run n a c b d e (1 :: ws) h'
        refine ⟨a', b', c', d', e', ws', x1, x2.trans ?_, x3.trans (.cons a (.swap b c _)), x4, fun hw => x5 (add (by decide) hw)⟩
        show runL ws (stepL 1 [a, c, b, d, e]) = _
        simp only [stepL, if_pos (UInt8.lt_iff_toNat_lt.mpr h2)]
      · rw [if_neg h2]
        by_cases h3 : c.toNat < d.toNat
        · rw [if_pos h3]
          have h' : asc a.toNat b.toNat d.toNat c.toNat e.toNat ≤ n := by have := p2_pos h3; unfold asc at h ⊢; omega
          obtain ⟨a', b', c', d', e', ws', x1, x2, x3, x4, x5⟩ := off_run n a b d c e (2 :: ws) h'
          refine ⟨a', b', c', d', e', ws', x1, x2.trans ?_, x3.trans (.cons a (.cons b (.swap c d _))), x4, fun hw => x5 (add (by decide) hw)⟩
          show runL ws (stepL 2 [a, b, d, c, e]) = _
          simp only [stepL, if_pos (UInt8.lt_iff_toNat_lt.mpr h3)]
        · rw [if_neg h3]
          by_cases h4 : d.toNat < e.toNat
          · rw [if_pos h4]
            have h' : asc a.toNat b.toNat c.toNat e.toNat d.toNat ≤ n := by have := p2_pos h4; unfold asc at h ⊢; omega
            obtain ⟨a', b', c', d', e', ws', x1, x2, x3, x4, x5⟩ := off_run n a b c e d (3 :: ws) h'
            refine ⟨a', b', c', d', e', ws', x1, x2.trans ?_, x3.trans (.cons a (.cons b (.cons c (.swap d e _)))), x4, fun hw => x5 (add (by decide) hw)⟩
            show runL ws (stepL 3 [a, b, c, e, d]) = _
            simp only [stepL, if_pos (UInt8.lt_iff_toNat_lt.mpr h4)]
          · rw [if_neg h4]
            exact off_run n a b c d e ws (by rw [asc_none h1 h2 h3 h4]; omega)
theorem fall_only {a b c d e : UInt8} (hp : [a, b, c, d, e].Perm falling) (h1 : ¬ a.toNat < b.toNat) (h2 : ¬ b.toNat < c.toNat) (h3 : ¬ c.toNat < d.toNat) (h4 : ¬ d.toNat < e.toNat) : [a, b, c, d, e] = falling := by
  have nd : [a, b, c, d, e].Nodup := hp.nodup_iff.mpr (by decide)
  have ha : a ∈ falling := hp.mem_iff.mp (List.mem_cons_self ..)
  have ha4 : a.toNat ≤ 4 := by
    have : ∀ x ∈ falling, x.toNat ≤ 4 := by decide
    exact this a ha
  simp only [List.nodup_cons, List.mem_cons, List.not_mem_nil, or_false, not_or] at nd
  obtain ⟨⟨n1, _⟩, ⟨n2, _⟩, ⟨n3, _⟩, n4, _⟩ := nd
  rw [← UInt8.toNat_inj] at n1 n2 n3 n4
  have e0 : a.toNat = 4 := by omega
  have e1 : b.toNat = 3 := by omega
  have e2 : c.toNat = 2 := by omega
  have e3 : d.toNat = 1 := by omega
  have e4 : e.toNat = 0 := by omega
  rw [UInt8.toNat_inj.mp (show a.toNat = (4 : UInt8).toNat from e0), UInt8.toNat_inj.mp (show b.toNat = (3 : UInt8).toNat from e1), UInt8.toNat_inj.mp (show c.toNat = (2 : UInt8).toNat from e2), UInt8.toNat_inj.mp (show d.toNat = (1 : UInt8).toNat from e3), UInt8.toNat_inj.mp (show e.toNat = (0 : UInt8).toNat from e4)]
  rfl
theorem off_row {r : List UInt8} (hp : r.Perm falling) : runL (readOff r) falling = r ∧ ∀ n ∈ readOff r, 0 ≤ n ∧ n < 4 := by
  obtain ⟨a, b, c, d, e, rfl⟩ := five hp.length_eq
  obtain ⟨a', b', c', d', e', ws', x1, x2, x3, ⟨y1, y2, y3, y4⟩, x5⟩ := off_run 10 a b c d e [] (asc_le _ _ _ _ _)
  have hf := fall_only (x3.trans hp) y1 y2 y3 y4
  have he : readOff [a, b, c, d, e] = ws' := congrArg Prod.snd x1
  rw [he]
  rw [hf] at x2
  exact ⟨x2, x5 (fun _ h => nomatch h)⟩
end Mine
end

section
open PySem PySem.W PyProof.Rows PySem.Calls
set_option maxRecDepth 100000
set_option maxHeartbeats 8000000
namespace Mine
section
variable {c : Bool} {prog : Program} {w : World} {A : Around} {x : PySem.Str} {px : Pos} {ifs : List Expr} {cenv : Env} {s₂ : Shared} {hi : Nat} {C I : Addr} {fp wr : List Addr} {n : Nat} {P : Nat → Value → Prop} {St : Nat → Heap → Prop}
theorem count_succ (p : Nat → Bool) (i : Nat) : ((List.range (i + 1)).filter p).length = ((List.range i).filter p).length + (if p i = true then 1 else 0) := by
  rw [List.range_succ, List.filter_append, List.length_append]
  cases h : p i <;> simp [h]
/-- a block that picks some of what it walks: how many -/
theorem obCount (p : Nat → Bool) (W : Walks prog w A I fp wr n P St) (hst : St 0 s₂.heap) (hfp : ∀ b ∈ fp, b < s₂.heap.objs.size) (few : n ≤ 1000)
    (tests : ∀ i v h tk, i < n → P i v → EVL C x v h → hi ≤ h.objs.size → (∀ b o, b ∉ wr → s₂.heap.get? b = some o → h.get? b = some o) →
      wpG c (model prog w) A (compT ifs cenv) (fun ok s₄ => Keeps { s₂ with heap := h, toks := tk } s₄ ∧ ok = p i) { s₂ with heap := h, toks := tk })
    (hlc : cenv.locals = C := by rfl) (hk : cenv.scope.kind = .function := by rfl) (hx : cenv.kindOf x = some .local := by rfl) (hd : (x == ("__debug__" : PySem.Str)) = false := by decide) :
    Ob c prog w A ifs (.Name x px) cenv s₂ hi (EVL C x) I wr n (fun i ys _ => ys.length = ((List.range i).filter p).length) where
  iter := ⟨fp, P, St, W, hst, hfp, fun i v ys h tk hlt hP hE hk' hsz hkeep => by
    refine G_mono (tests i v h tk hlt hP hE hsz hkeep) fun ok s₄ h₄ => ⟨h₄.1, ?_⟩
    obtain ⟨⟨h4, tk4, rfl, k4⟩, rfl⟩ := h₄
    have e := count_succ p i
    cases hp : p i with
    | false =>
      rw [if_neg (by decide)]
      rw [hp] at e
      rw [hk', e]; rfl
    | true =>
      rw [if_pos rfl]
      obtain ⟨m, hn, hm⟩ := hE
      subst hlc
      refine G_of (nmL (hn.keeps k4) hm hk hx hd ⟨⟨h4, tk4, rfl, fun _ _ e => e⟩, ?_⟩)
      rw [hp] at e
      rw [List.length_append, hk', e]; rfl⟩
  few := by rw [sizeLine_eq]; omega
  stable := fun _ _ _ _ h _ => h
  start := fun _ => rfl
/-- a block that picks some of range(n) -/
theorem obPick (p : Nat → Bool) (hh : A.handled = none) (hst : IsRangeIter s₂.heap I 0 n 1) (few : n ≤ 1000)
    (tests : ∀ i t h tk, i < n → EVL C x (.int (i : Int) t) h → hi ≤ h.objs.size → (∀ b o, b ∉ [I] → s₂.heap.get? b = some o → h.get? b = some o) →
      wpG c (model prog w) A (compT ifs cenv) (fun ok s₄ => Keeps { s₂ with heap := h, toks := tk } s₄ ∧ ok = p i) { s₂ with heap := h, toks := tk })
    (hlc : cenv.locals = C := by rfl) (hk : cenv.scope.kind = .function := by rfl) (hx : cenv.kindOf x = some .local := by rfl) (hd : (x == ("__debug__" : PySem.Str)) = false := by decide) :
    Ob c prog w A ifs (.Name x px) cenv s₂ hi (EVL C x) I [I] n (fun i ys _ => IntsAre ys (((List.range i).filter p).map fun k : Nat => (k : Int))) :=
  obRange hh hst few (fun _ _ _ _ h _ => h) (fun _ => .nil) fun i t ys h tk hlt hE hk' hsz hkeep => by
    refine G_mono (tests i t h tk hlt hE hsz hkeep) fun ok s₄ h₄ => ⟨h₄.1, ?_⟩
    obtain ⟨⟨h4, tk4, rfl, k4⟩, rfl⟩ := h₄
    cases hp : p i with
    | false =>
      rw [if_neg (by decide), List.range_succ, List.filter_append, List.filter_cons, hp]
      simpa using hk'
    | true =>
      rw [if_pos rfl]
      obtain ⟨m, hn, hm⟩ := hE
      subst hlc
      refine G_of (nmL (hn.keeps k4) hm hk hx hd ⟨⟨h4, tk4, rfl, fun _ _ e => e⟩, ?_⟩)
      rw [List.range_succ, List.filter_append, List.filter_cons, hp, if_pos rfl, List.map_append]
      exact ints_snoc hk'
end
end Mine
end

section
open PySem PySem.W PyProof.Rows PySem.Calls
set_option maxRecDepth 100000
set_option maxHeartbeats 8000000
namespace Mine
/-- a frame at L, its cells behind it; all that is older than the body lies below K -/
structure CF (base : Heap) (L K : Nat) (h : Heap) (m : Nm) (vs : List (Option Value)) : Prop where
  F : Fr base L h m
  cell : ∀ i v, vs[i]? = some v → h.IsCell (L + 1 + i) v
  lt : L + 1 + vs.length ≤ K
theorem cf1 {L n K i : Nat} (h : L + 1 + n ≤ K) (hi : i < n) : L + 1 + i < K := by omega
theorem cf2 {L n K : Nat} (h : L + 1 + n ≤ K) : L < K := by omega
theorem cf3 {L i j : Nat} (h : i ≠ j) : L + 1 + i ≠ L + 1 + j := by omega
theorem cf4 {L i : Nat} : L ≠ L + 1 + i := by omega
theorem cf5 {L n K b i : Nat} (h : L + 1 + n ≤ K) (hi : i < n) (hb : K ≤ b) : b ≠ L + 1 + i := by omega
theorem cf6 {L n K b : Nat} (h : L + 1 + n ≤ K) (hb : K ≤ b) : b ≠ L := by omega
theorem cf7 {b sz L n K : Nat} (h1 : b < sz) (h2 : sz ≤ L) (h : L + 1 + n ≤ K) : b < K := by omega
theorem cf8 {b sz L i : Nat} (h1 : b < sz) (h2 : sz ≤ L) : b ≠ L + 1 + i := by omega
section
variable {base h h' : Heap} {L K : Nat} {m : Nm} {vs : List (Option Value)}
theorem CF.of {cm : Nm} {cs : List (PySem.Str × Addr)} (names : List PySem.Str) (F : Fr base L h m) (C : Cl L cs h cm)
    (hlk : names.map (fun n => cs.lookup n) = (List.range names.length).map fun i => some (L + 1 + i)) (hlt : L + 1 + names.length ≤ K) : CF base L K h m (names.map cm) := by
  refine ⟨F, fun i v hv => ?_, by rw [List.length_map]; exact hlt⟩
  rw [List.getElem?_map] at hv
  cases hn : names[i]? with
  | none => rw [hn] at hv; cases hv
  | some n =>
    rw [hn] at hv
    cases hv
    refine C.cell n _ ?_
    have hi : i < names.length := (List.getElem?_eq_some_iff.mp hn).1
    have e := congrArg (fun l => l[i]?) hlk
    simp only [List.getElem?_map, hn, Option.map_some, List.getElem?_range hi] at e
    exact Option.some.inj e
theorem CF.low (Z : CF base L K h m vs) (k : ∀ b o, b < K → h.get? b = some o → h'.get? b = some o) : CF base L K h' m vs :=
  ⟨⟨Z.F.ns.at' fun o e => k L o (cf2 Z.lt) e, fun b o e => k b o (cf7 (Heap.lt_size e) Z.F.above Z.lt) (Z.F.keep b o e), Z.F.above⟩,
    fun i v hv => let ⟨o, ho, hd⟩ := Z.cell i v hv; ⟨o, k _ o (cf1 Z.lt (List.getElem?_eq_some_iff.mp hv).1) ho, hd⟩, Z.lt⟩
theorem CF.stays (Z : CF base L K h m vs) (k : ∀ b o, h.get? b = some o → h'.get? b = some o) : CF base L K h' m vs := Z.low fun b o _ e => k b o e
theorem CF.but {I : Addr} (Z : CF base L K h m vs) (hI : K ≤ I) (k : ∀ b o, b ≠ I → h.get? b = some o → h'.get? b = some o) : CF base L K h' m vs :=
  Z.low fun b o q e => k b o (Nat.ne_of_lt (Nat.lt_of_lt_of_le q hI)) e
theorem CF.nb {I : Addr} (Z : CF base L K h m vs) (hI : K ≤ I) (k : ∀ b o, b ∉ [I] → h.get? b = some o → h'.get? b = some o) : CF base L K h' m vs :=
  Z.low fun b o q e => k b o (fun z => Nat.ne_of_lt (Nat.lt_of_lt_of_le q hI) (List.mem_singleton.mp z)) e
variable {M : Model} {A : Around} {E : Value → Shared → Prop} {s : Shared} {env : Env} {x : PySem.Str} {v : Value}
/-- a cell is stored -/
theorem CF.stC {Q : Unit → Shared → Prop} (Z : CF base L K s.heap m vs) (i : Nat) (hi : i < vs.length)
    (h : ∀ h', CF base L K h' m (vs.set i (some v)) → (∀ b o, K ≤ b → s.heap.get? b = some o → h'.get? b = some o) → Q () { s with heap := h' })
    (hk : env.scope.kind = .function := by rfl) (hl : env.kindOf x = some .cell := by rfl) (hc : env.cells.lookup x = some (L + 1 + i) := by rfl) : wpAny M A (storeName env x v) Q E s := by
  refine wpAny_storeName_cell hk hl hc (Z.cell i vs[i] (List.getElem?_eq_getElem hi)) fun h' hv hs => h h' ⟨⟨Z.F.ns.sameBut hs cf4, fun b o e => (hs.2 b (cf8 (Heap.lt_size e) Z.F.above)).trans (Z.F.keep b o e), Z.F.above⟩, fun j u hj => ?_, by rw [List.length_set]; exact Z.lt⟩
    fun b o q e => (hs.2 b (cf5 Z.lt hi q)).trans e
  rw [List.getElem?_set] at hj
  by_cases q : i = j
  · subst q
    rw [if_pos rfl, if_pos hi] at hj
    cases hj
    exact hv
  · rw [if_neg q] at hj
    exact (Z.cell j u hj).sameBut hs (cf3 (Ne.symm q))
/-- a local name is stored -/
theorem CF.stL {Q : Unit → Shared → Prop} (Z : CF base L K s.heap m vs)
    (h : ∀ h', CF base L K h' (fun y => if y = x then some v else m y) vs → (∀ b o, K ≤ b → s.heap.get? b = some o → h'.get? b = some o) → Q () { s with heap := h', toks := s.toks + 1 })
    (hL : env.locals = L := by rfl) (hl : env.kindOf x = some .local := by rfl) (hp : (env.scope.kind == .class || (env.scope.kind == .module && env.locals != env.globals)) = false := by rfl) : wpAny M A (storeName env x v) Q E s := by
  subst hL
  refine wpAny_storeName_local hl Z.F.ns (fun h' hn hs => h h' ⟨Z.F.set hn hs, fun j u hj => (Z.cell j u hj).sameBut hs (Ne.symm cf4), Z.lt⟩ fun b o q e => (hs.2 b (cf6 Z.lt q)).trans e) hp
variable {pos : Pos}
theorem CF.ldC {Q : Value → Shared → Prop} (Z : CF base L K s.heap m vs) (i : Nat) (hv : vs[i]? = some (some v)) (h : Q v s)
    (hk : env.scope.kind = .function := by rfl) (hl : env.kindOf x = some .cell := by rfl) (hc : env.cells.lookup x = some (L + 1 + i) := by rfl) (hd : (x == ("__debug__" : PySem.Str)) = false := by decide) :
    wpAny M A (eval (.Name x pos) env) Q E s := nmC hc (Z.cell i _ hv) hk hl hd h
theorem CF.ldL {Q : Value → Shared → Prop} (Z : CF base L K s.heap m vs) (hv : m x = some v) (h : Q v s)
    (hL : env.locals = L := by rfl) (hk : env.scope.kind = .function := by rfl) (hl : env.kindOf x = some .local := by rfl) (hd : (x == ("__debug__" : PySem.Str)) = false := by decide) :
    wpAny M A (eval (.Name x pos) env) Q E s := by
  subst hL
  exact nmL Z.F.ns hv hk hl hd h
end
end Mine
end

section
open PySem PySem.W PyProof.Rows PySem.Calls
set_option maxRecDepth 100000
set_option maxHeartbeats 8000000
namespace Mine
theorem cfAny {base : Heap} {L K : Nat} {h : Heap} {m : Nm} {vs : List (Option Value)} (Z : CF base L K h m vs) : ∃ m, CF base L K h m vs := ⟨m, Z⟩
theorem cell_lt {h : Heap} {a : Addr} {v : Option Value} (c : h.IsCell a v) : a < h.objs.size := let ⟨_, ho, _⟩ := c; Heap.lt_size ho
theorem filter_range {α : Type} (l : List α) (d : α) (q : α → Bool) : ((List.range l.length).filter fun k => q (l.getD k d)).length = (l.filter q).length := by
  have e : l = (List.range l.length).map fun k => l.getD k d := by
    apply List.ext_getElem
    · simp
    · intro i h1 h2
      simp only [List.getElem_map, List.getElem_range, List.getD_eq_getElem?_getD, List.getElem?_eq_getElem h1, Option.getD_some]
  conv => rhs; rw [e]
  rw [List.filter_map, List.length_map]
  rfl
theorem keepI {h h1 h2 : Heap} {I : Addr} (lo : h.objs.size ≤ I) (k1 : ∀ b o, h.get? b = some o → h1.get? b = some o) (k2 : ∀ b o, b ∉ [I] → h1.get? b = some o → h2.get? b = some o) :
    ∀ b o, h.get? b = some o → h2.get? b = some o := fun b o e => k2 b o (fun q => by rw [List.mem_singleton.mp q] at e; exact absurd (Heap.lt_size e) (Nat.not_lt.mpr lo)) (k1 b o e)
theorem due_ok {w : World} {dp un : Nat} {gd : Option (List Code)} {outer : List Env} {base : Heap} {mean : Mn} {mg mb : Nm} {s : Shared} {Q : Value → Shared → Prop} {row : List UInt8} {pa : Addr} {as : List Addr} {ps : List (List Int)} {lo : Nat} {tx : Tok}
    (O : Ok w mean mg mb base outer s.heap) (hd : dp + 6 < recursionLimit) (hrow : row.length = 5) (hpa : s.heap.IsList pa (as.map Value.ref).toArray) (hA : ListsAt lo s.heap as ps) (hps : ps.length = 6) (hp6 : ∀ p ∈ ps, p.length = 6)
    (hret : ∀ t h' tk', s.heap.StaysIn h' → Q (.bytes (byteArr (due row ps)) t) { s with heap := h', toks := tk' }) :
    wpN (model PR w) (Ar dp un gd outer) (call (.ref 54) [.bytes row.toArray tx, .ref pa]) Q s := by
  refine N_call ?_
  refine' enterCN O ?k6 ?k7 ?k8 ?k9 ?kB ?_ ?c2 ?c3 ?c4
  case k6 => k_is
  case k7 => k_is
  case k8 => ktr_room
  case k9 => exact BindsTo.of_eq rfl
  case kB => rfl
  case c2 => exact rfl
  case c3 => exact rfl
  case c4 => exact rfl
  intro L' h₁ tk1 hL F C B X T
  try dsimp only
  have hK : L' + 1 + 5 ≤ h₁.objs.size := cell_lt (C.cell (Str.ofString "below") _ rfl)
  have Z1 : CF s.heap L' h₁.objs.size h₁ _ [some (.bytes row.toArray tx), some (.ref pa), none, none, none] :=
    CF.of [Str.ofString "row", Str.ofString "paths", Str.ofString "heights", Str.ofString "bound", Str.ofString "below"] F C rfl hK
  clear F C
  obtain ⟨m, Z1⟩ := cfAny Z1
  refine N_execs (N_Assign (wpN_of (wpAny_List (args_nil ⟨Nat.zero_le _, ?_⟩))))
  refine wpN_of (CF.stC (Z1.stays fun b o e => Heap.get?_push_of_some _ e) 2 (by simp) fun h2 Z2 k2 => ?_)
  have hH2 : h2.PlainList h₁.objs.size #[] := ⟨_, k2 _ _ (Nat.le_refl _) (Heap.get?_push_size _ rfl)⟩
  refine N_execs (N_For (Call_ ?_))
  refine nmB (X.keeps Z2.F.keep) (T.keeps Z2.F.keep) (by k_is) boot_range (by decide) rfl rfl rfl rfl (by decide) ?_
  refine PyProof.Rows.callWith_type1 ?_
  refine args_cons (wpAny_Constant_int ?_)
  refine args_cons (wpAny_Constant_int ?_)
  refine args_nil ?_
  refine range2_it 6 rfl (by decide) (by decide) fun I h3 tk3 hit3 k3 lo3 lt3 => ?_
  have Z3 := Z2.stays k3
  have hH3 : h3.PlainList h₁.objs.size #[] := hH2.at fun o e => k3 _ o e
  have hHI : h₁.objs.size < I := Nat.lt_of_lt_of_le (by obtain ⟨_, e⟩ := hH2; exact Heap.lt_size e) lo3
  have hKI : h₁.objs.size ≤ I := Nat.le_of_lt hHI
  clear k2 Z1 Z2 hH2
  refine codeN_for (fun n s' => ∃ (i : Nat) (h' : Heap) (tk' : Nat) (vb vl : Option Value) (hs : List Addr), s' = { s with heap := h', toks := tk' } ∧ n = 6 - i ∧ i ≤ 6 ∧
    CF s.heap L' h₁.objs.size h' m [some (.bytes row.toArray tx), some (.ref pa), some (.ref h₁.objs.size), vb, vl] ∧ IsRangeIter h' I (1 + (i : Nat) * 1) ((6 : Nat) - (i : Nat)) 1 ∧ h'.PlainList h₁.objs.size (hs.map Value.ref).toArray ∧
    ListsAt (I + 1) h' hs ((List.range i).map fun b => height row ps (b + 1))) ?turn (fun _ => rfl) 6 _ ?start
  case start =>
    exact ⟨0, _, _, _, _, [], rfl, rfl, Nat.zero_le _, Z3, hit3, hH3, .nil⟩
  case turn =>
    rintro n s' ⟨i, h4, tk4, vb, vl, hs, rfl, rfl, hi, Z4, hit4, hH4, hA4⟩
    rcases Nat.lt_or_ge i 6 with hlt | hge
    · refine (Walks.range rfl I 1 1 6).item i _ _ _ hlt hit4 fun v h5 tk5 hP hit5 k5 => ?_
      obtain ⟨tb, rfl⟩ := hP
      have Z5 := Z4.nb hKI k5
      have hH5 : h5.PlainList h₁.objs.size (hs.map Value.ref).toArray := hH4.at fun o e => k5 _ o (fun z => Nat.ne_of_lt hHI (List.mem_singleton.mp z)) e
      have hA5 : ListsAt (I + 1) h5 hs _ := hA4.stable fun b o q e => k5 b o (fun z => Nat.ne_of_gt q (List.mem_singleton.mp z)) e
      refine PyProof.Rows.assign_Name (CF.stC Z5 3 (by simp) fun h6 Z6 k6 => ?_)
      have hit6 := k6 _ _ hKI hit5
      have hH6 : h6.PlainList h₁.objs.size (hs.map Value.ref).toArray := hH5.at fun o e => k6 _ o (Nat.le_refl _) e
      have hA6 : ListsAt (I + 1) h6 hs _ := hA5.stable fun b o q e => k6 b o (Nat.le_trans hKI (Nat.le_of_lt q)) e
      clear Z4 Z5 hit4 hit5 hH4 hH5 hA4 hA5 k5 k6 hit3 hH3 Z3
      dsimp only [List.set] at Z6
      refine N_execs (N_Assign (N_G (evalL rfl rfl ?_ ?_ rfl (fun _ => rfl) ?_)))
      · decide
      · decide
      refine src_range 6 (X.keeps Z6.F.keep) (T.keeps Z6.F.keep) rfl (by decide) (by k_is) rfl rfl rfl rfl rfl rfl rfl fun I7 h7 tk7 hit7 k7 lo7 lt7 => ?_
      refine ⟨_, [I7], 6, _, rfl, obRangeI (fun j => cnt (i + 1) (row.take j)) rfl hit7 (by decide) ?_, ?_⟩
      · intro j tj h8 tk8 hj hEj hsz8 keep8
        obtain ⟨m8, hn8, hm8⟩ := hEj
        have ka8 := keepI lo7 k7 keep8
        have Z8 := Z6.stays ka8
        refine G_of (Call_ ?_)
        refine nmB (X.keeps Z8.F.keep) (T.keeps Z8.F.keep) (by k_is) boot_len (by decide) rfl rfl rfl rfl (by decide) ?_
        refine PyProof.Rows.callWith_builtin1 ?_
        refine args_cons (any_G ?_)
        refine evalL rfl rfl ?_ ?_ rfl (fun _ => rfl) ?_
        · decide
        · decide
        refine Subscript_ (Z8.ldC 0 rfl (wpAny_Slice (wpAny_pure (nmL hn8 hm8 rfl rfl (by decide) (wpAny_pure ?_)))))
        refine slice_b (s₀ := ⟨_, _, _, _, _⟩) .none (.int _ _) (by simp [hrow]) fun h9 t9 tk9 k9 => ?_
        rw [picked_take]
        refine KBw.pyIter_bytes ?_
        dsimp only at k9 lo7 hn8 ⊢
        have Z9 := Z8.stays k9
        have fit : (row.take j).toArray.size ≤ 1000 := by simp [hrow]; omega
        refine ⟨_, [h9.objs.size], _, _, rfl, obCount (fun k => decide ((((row.take j).getD k 0).toNat : Int) < ((i + 1 : Nat) : Int))) (KBw.walks rfl h9.objs.size (row.take j).toArray t9) ⟨_, Heap.get?_push_size _ rfl, rfl, rfl⟩ ?_ fit ?_, ?_⟩
        · intro b hb
          rw [List.mem_singleton.mp hb]
          show h9.objs.size < (h9.push _).objs.size
          rw [Heap.size_push]; exact Nat.lt_succ_self _
        · rintro k v h10 tk10 hk ⟨c, u, hc, rfl⟩ ⟨m10, hn10, hm10⟩ hsz10 keep10
          have Z10 := Z9.stays (keepI (Nat.le_refl _) (fun b o e => Heap.get?_push_of_some _ e) keep10)
          refine T_one (G_of (wpAny_isTrue_Compare1 (nmL hn10 hm10 rfl rfl (by decide) (Z10.ldC 3 rfl (PyProof.Rows.lt_int (wpAny_truthy_bool ⟨⟨h10, tk10, rfl, fun _ _ e => e⟩, ?_⟩))))))
          have : (row.take j).getD k 0 = c := by
            rw [List.getD_eq_getElem?_getD]
            rw [List.getElem?_toArray] at hc
            rw [hc]; rfl
          rw [this]
          congr 1
          apply propext
          omega
        · intro h10 tk10 ys10 hl10 hk10 keep10
          have ka10 : ∀ b o, h8.get? b = some o → h10.get? b = some o := fun b o e => keepI (h := h9) (Nat.le_refl _) (fun b o e => Heap.get?_push_of_some _ e) keep10 b o (k9 b o e)
          have hlen : ((ys10.toArray.size : Nat) : Int) = cnt (i + 1) (row.take j) := by
            rw [List.size_toArray, hk10, List.size_toArray]
            unfold cnt
            rw [filter_range (row.take j) 0 fun x => decide ((x.toNat : Int) < ((i + 1 : Nat) : Int))]
          refine args_nil (PyProof.Rows.len_list hl10.isList ?_ ⟨⟨h10, _, rfl, ka10⟩, ?_⟩)
          · rw [List.size_toArray, hk10]
            have := List.length_filter_le (fun k => decide ((((row.take j).getD k 0).toNat : Int) < ((i + 1 : Nat) : Int))) (List.range (row.take j).toArray.size)
            rw [List.length_range] at this
            omega
          · rw [hlen]; exact ⟨_, rfl⟩
      · intro h8 tk8 ys8 hl8 hI8 keep8
        have ka8 := keepI lo7 k7 keep8
        have Z8 := Z6.stays ka8
        have lt7' : h₁.objs.size ≤ h7.objs.size := Nat.le_trans hKI (Nat.le_of_lt (Heap.lt_size (k7 _ _ hit6)))
        refine wpN_of (CF.stC Z8 4 (by simp) fun h9 Z9 k9 => ?_)
        have hb9 : h9.IsList h7.objs.size ys8.toArray := hl8.isList.at fun o e => k9 _ o lt7' e
        have hit9 := k9 _ _ hKI (ka8 _ _ hit6)
        have hH9 : h9.PlainList h₁.objs.size (hs.map Value.ref).toArray := hH6.at fun o e => k9 _ o (Nat.le_refl _) (ka8 _ o e)
        have hA9 : ListsAt (I + 1) h9 hs _ := hA6.stable fun b o q e => k9 b o (Nat.le_trans hKI (Nat.le_of_lt q)) (ka8 _ o e)
        dsimp only [List.set] at Z9 ⊢
        have hbel : IntsAre ys8 (below (i + 1) row) := hI8
        clear hI8 Z8 Z6 hit6 hH6 hA6 k9
        refine wpN_of (wpAny_execs_cons (wpAny_Expr_any (MethodCall_ (Z9.ldC 2 rfl ?_))))
        have hHo := hH9
        obtain ⟨nH, hHo⟩ := hHo
        refine Calls.getMethod_list_append hHo rfl rfl ?_
        refine callWith_bF (args_cons (any_G ?_))
        refine evalC rfl rfl ?_ rfl rfl (fun _ => rfl) ?_
        · decide
        refine src_range 6 (X.keeps Z9.F.keep) (T.keeps Z9.F.keep) rfl (by decide) (by k_is) rfl rfl rfl rfl rfl rfl rfl fun I10 h10 tk10 hit10 k10 lo10 lt10 => ?_
        dsimp only at k10 lo10 ⊢
        refine ⟨_, [I10], 6, _, rfl, obRangeI (fun k => minL ((List.range 6).map fun j => (below (i + 1) row).getD j 0 + (ps.getD (5 - j) []).getD k 0)) rfl hit10 (by decide) ?_, ?_⟩
        · intro k tk' h11 tk11 hk hEk hsz11 keep11
          have ka11 := keepI lo10 k10 keep11
          have Z11 := Z9.stays ka11
          refine G_of (Call_ ?_)
          refine nmB (X.keeps Z11.F.keep) (T.keeps Z11.F.keep) (by k_is) boot_min (by decide) rfl rfl rfl rfl (by decide) ?_
          refine PyProof.Rows.callWith_builtin1 ?_
          refine args_cons (any_G ?_)
          refine evalL rfl rfl ?_ ?_ rfl (fun _ => rfl) ?_
          · decide
          · decide
          refine src_range 6 (X.keeps Z11.F.keep) (T.keeps Z11.F.keep) rfl (by decide) (by k_is) rfl rfl rfl rfl rfl rfl rfl fun I12 h12 tk12 hit12 k12 lo12 lt12 => ?_
          dsimp only at k12 lo12 ⊢
          refine ⟨_, [I12], 6, _, rfl, obRangeI (fun j => (below (i + 1) row).getD j 0 + (ps.getD (5 - j) []).getD k 0) rfl hit12 (by decide) ?_, ?_⟩
          · intro j tj h13 tk13 hj hEj hsz13 keep13
            obtain ⟨m13, hn13, hm13⟩ := hEj
            have ka13 := keepI lo12 k12 keep13
            have Z13 := Z11.stays ka13
            have hk13 := Heap.IsCell.keeps hEk ka13
            have hb13 : h13.IsList h7.objs.size ys8.toArray := hb9.at fun o e => ka13 _ o (ka11 _ o e)
            have hpa13 : h13.IsList pa (as.map Value.ref).toArray := stays_list Z13.F.keep hpa
            obtain ⟨a, ha⟩ : ∃ a, as[5 - j]? = some a := ⟨as[5 - j]'(by rw [hA.1]; omega), List.getElem?_eq_getElem _⟩
            obtain ⟨p, hp⟩ : ∃ p, ps[5 - j]? = some p := ⟨ps[5 - j]'(by omega), List.getElem?_eq_getElem _⟩
            obtain ⟨us, hus, hpi⟩ := hA.2.2.2 _ a p ha hp
            have hp6' : p.length = 6 := hp6 p (List.mem_of_getElem? hp)
            have hus13 : h13.IsList a us.toArray := stays_list Z13.F.keep hus
            have hblen : (below (i + 1) row).length = 6 := rfl
            refine G_of (wpAny_BinOp (Subscript_ (Z13.ldC 4 rfl (nmL hn13 hm13 rfl rfl (by decide) ?_))))
            refine item_anyK hb13 hbel (by omega) (by omega) (by omega) fun t1 => ?_
            refine Subscript_ (Subscript_ (Z13.ldC 1 rfl (wpAny_BinOp (wpAny_Constant_int (nmL hn13 hm13 rfl rfl (by decide) (sub_int ?_))))))
            refine PyProof.Rows.item_list (x := .ref a) hpa13 (by omega) (by omega) (by simp [show (5 - (j : Int)).toNat = 5 - j from by omega, ha]) ?_
            refine nmC rfl hk13 rfl rfl (by decide) ?_
            refine item_anyK hus13 hpi (by omega) (by omega) (by omega) fun t2 => ?_
            refine add_int ⟨⟨h13, _, rfl, fun _ _ e => e⟩, ?_⟩
            have e1 : ps.getD (5 - j) [] = p := by rw [List.getD_eq_getElem?_getD, hp]; rfl
            rw [e1, Int.toNat_natCast, Int.toNat_natCast]
            exact ⟨_, rfl⟩
          · intro h13 tk13 ys13 hl13 hI13 keep13
            have ka13 := keepI lo12 k12 keep13
            exact args_nil (min_L rfl hl13.isList hI13 (by simp) fun h14 t14 tk14 k14 => ⟨⟨h14, tk14, rfl, fun b o e => k14 b o (ka13 b o e)⟩, _, rfl⟩)
        · intro h11 tk11 ys11 hl11 hI11 keep11
          have ka11 := keepI lo10 k10 keep11
          have Z11 := Z9.stays ka11
          have hI11' : IntsAre ys11 (height row ps (i + 1)) := hI11
          have hit11 := ka11 _ _ hit9
          have hH11 : h11.PlainList h₁.objs.size (hs.map Value.ref).toArray := hH9.at fun o e => ka11 _ o e
          have hA11 : ListsAt (I + 1) h11 hs _ := hA9.stable fun b o q e => ka11 b o e
          have lenH : hs.length = i := by have := hA9.1; simpa using this
          refine args_nil ?_
          refine wpAny_list_append_plain hH11 (fun h12 hl12 hs12 => ?_) (by rw [sizeLine_eq]; simp; omega)
          refine wpAny_execs_nil ?_
          have hID : I < h10.objs.size := Heap.lt_size (k10 _ _ hit9)
          refine ⟨6 - (i + 1), by omega, i + 1, h12, _, _, _, hs ++ [h10.objs.size], rfl, rfl, hlt, Z11.low fun b o q e => (hs12.2 b (Nat.ne_of_lt q)).trans e, (hs12.2 _ (Ne.symm (Nat.ne_of_lt hHI))).trans hit11, ?_, ?_⟩
          · rw [List.push_toArray] at hl12
            simpa using hl12
          · rw [List.range_succ, List.map_append]
            have hD12 : h12.IsList h10.objs.size ys11.toArray := hl11.isList.at fun o e => (hs12.2 _ (Ne.symm (Nat.ne_of_lt (Nat.lt_trans hHI hID)))).trans e
            refine ListsAt.snoc (vs := ys11) (hA11.same hs12 fun a ha => Ne.symm (Nat.ne_of_lt (Nat.lt_trans hHI (hA11.2.2.1 a ha)))) (fun b hb => ?_) hID hD12 hI11'
            exact Nat.lt_of_lt_of_le (hA9.lt b hb) (Nat.le_of_lt (Nat.lt_of_le_of_lt lo10 lt10))
    · have hie : i = 6 := by omega
      subst hie
      refine (Walks.range rfl I 1 1 6).done _ _ _ hit4 fun h5 tk5 k5 => ?_
      have Z5 := Z4.nb hKI k5
      have hH5 : h5.PlainList h₁.objs.size (hs.map Value.ref).toArray := hH4.at fun o e => k5 _ o (fun z => Nat.ne_of_lt hHI (List.mem_singleton.mp z)) e
      have hA5 : ListsAt (I + 1) h5 hs _ := hA4.stable fun b o q e => k5 b o (fun z => Nat.ne_of_gt q (List.mem_singleton.mp z)) e
      clear Z4 hit4 hH4 hA4 k5 hit3 hH3 Z3
      have lenH : hs.length = 6 := by have := hA5.1; simpa using this
      refine wpN_of (wpAny_execs_cons (wpAny_Return_some (Call_ ?_)))
      refine nmB (X.keeps Z5.F.keep) (T.keeps Z5.F.keep) (by k_is) boot_bytes (by decide) rfl rfl rfl rfl (by decide) ?_
      refine PyProof.Rows.callWith_type1 ?_
      refine args_cons (any_G ?_)
      refine evalC rfl rfl ?_ rfl rfl (fun _ => rfl) ?_
      · decide
      refine src_range 5 (X.keeps Z5.F.keep) (T.keeps Z5.F.keep) rfl (by decide) (by k_is) rfl rfl rfl rfl rfl rfl rfl fun I6 h6 tk6 hit6 k6 lo6 lt6 => ?_
      dsimp only at k6 lo6 ⊢
      refine ⟨_, [I6], 5, _, rfl, obRangeI (fun k => ((((List.range 6).map fun b => height row ps (b + 1)).filter fun p => decide (p.getD k 0 = p.getD (k + 1) 0)).length : Nat)) rfl hit6 (by decide) ?_, ?_⟩
      · intro k tk' h7 tk7 hk hEk hsz7 keep7
        have ka7 := keepI lo6 k6 keep7
        have Z7 := Z5.stays ka7
        have hH7 : h7.PlainList h₁.objs.size (hs.map Value.ref).toArray := hH5.at fun o e => ka7 _ o e
        refine G_of (Call_ ?_)
        refine nmB (X.keeps Z7.F.keep) (T.keeps Z7.F.keep) (by k_is) boot_len (by decide) rfl rfl rfl rfl (by decide) ?_
        refine PyProof.Rows.callWith_builtin1 ?_
        refine args_cons (any_G ?_)
        refine evalL rfl rfl ?_ ?_ rfl (fun _ => rfl) ?_
        · decide
        · decide
        refine Z7.ldC 2 rfl ?_
        refine wpAny_pyIter_list hH7.isList ?_
        have hHlt : h₁.objs.size < h7.objs.size := by obtain ⟨_, e⟩ := hH7; exact Heap.lt_size e
        dsimp only
        refine ⟨_, [h7.objs.size], _, _, rfl, obCount (fun b => decide ((height row ps (b + 1)).getD k 0 = (height row ps (b + 1)).getD (k + 1) 0)) (Walks.list rfl h7.objs.size h₁.objs.size (Nat.ne_of_lt hHlt) (hs.map Value.ref).toArray) ⟨⟨_, Heap.get?_push_size _ rfl, rfl, rfl⟩, hH7.isList.push _⟩ ?_ (by simp [lenH]) ?_, ?_⟩
        · intro b hb
          show b < (h7.push _).objs.size
          rw [Heap.size_push]
          rcases List.mem_cons.mp hb with rfl | q
          · exact Nat.lt_succ_self _
          · rw [List.mem_singleton.mp q]; exact Nat.lt_succ_of_lt hHlt
        · rintro b v h8 tk8 hb hv ⟨m8, hn8, hm8⟩ hsz8 keep8
          have ka8 := keepI (Nat.le_refl _) (fun b o e => Heap.get?_push_of_some _ e) keep8
          have hk8 := Heap.IsCell.keeps hEk ka8
          have hb6 : b < 6 := by simpa [lenH] using hb
          obtain ⟨a, ha⟩ : ∃ a, hs[b]? = some a := ⟨hs[b]'(by omega), List.getElem?_eq_getElem _⟩
          have hva : v = .ref a := by
            rw [List.getElem?_toArray, List.getElem?_map, ha] at hv
            exact (Option.some.inj hv).symm
          subst hva
          obtain ⟨us, hus, hpi⟩ := hA5.2.2.2 b a (height row ps (b + 1)) ha (by rw [List.getElem?_map, List.getElem?_range hb6]; rfl)
          have hus8 : h8.IsList a us.toArray := hus.at fun o e => ka8 _ o (ka7 _ o e)
          have hlen : (height row ps (b + 1)).length = 6 := by simp [height]
          refine T_one (G_of (wpAny_isTrue_Compare1 (Subscript_ (nmL hn8 hm8 rfl rfl (by decide) (nmC rfl hk8 rfl rfl (by decide) ?_)))))
          refine item_anyK hus8 hpi (by omega) (by omega) (by omega) fun t1 => ?_
          refine Subscript_ (nmL hn8 hm8 rfl rfl (by decide) (wpAny_BinOp (nmC rfl hk8 rfl rfl (by decide) (wpAny_Constant_int (add_int ?_)))))
          refine item_anyK hus8 hpi (by omega) (by omega) (by omega) fun t2 => ?_
          refine PyProof.Rows.eq_int (wpAny_truthy_bool ⟨⟨h8, _, rfl, fun _ _ e => e⟩, ?_⟩)
          rw [Int.toNat_natCast, show ((k : Int) + 1).toNat = k + 1 from by omega]
          rfl
        · intro h8 tk8 ys8 hl8 hk8 keep8
          have ka8 : ∀ b o, h7.get? b = some o → h8.get? b = some o := keepI (Nat.le_refl _) (fun b o e => Heap.get?_push_of_some _ e) keep8
          have hlen : ys8.length = (((List.range 6).map fun b => height row ps (b + 1)).filter fun p => decide (p.getD k 0 = p.getD (k + 1) 0)).length := by
            rw [hk8, List.size_toArray, List.length_map, lenH, List.filter_map, List.length_map]
            rfl
          refine args_nil (PyProof.Rows.len_list hl8.isList ?_ ⟨⟨h8, _, rfl, ka8⟩, ?_⟩)
          · rw [List.size_toArray, hk8]
            have := List.length_filter_le (fun b => decide ((height row ps (b + 1)).getD k 0 = (height row ps (b + 1)).getD (k + 1) 0)) (List.range (hs.map Value.ref).toArray.size)
            rw [List.length_range, List.size_toArray, List.length_map, lenH] at this
            rw [List.size_toArray, List.length_map, lenH]
            omega
          · rw [List.size_toArray, hlen]; exact ⟨_, rfl⟩
      · intro h7 tk7 ys7 hl7 hI7 keep7
        have ka7 := keepI lo6 k6 keep7
        refine args_nil (call_bytes_ints hl7.isList hI7 (fun n hn => ?_) (by rw [hI7.length, sizeLine_eq]; simp) rfl fun h8 t8 k8 keep8 => ?_)
        · obtain ⟨k, hk, rfl⟩ := List.mem_map.mp hn
          have := List.length_filter_le (fun p : List Int => decide (p.getD k 0 = p.getD (k + 1) 0)) ((List.range 6).map fun b => height row ps (b + 1))
          rw [List.length_map, List.length_range] at this
          omega
        · exact hret _ _ _ fun b o e => keep8 b o (ka7 b o (Z5.F.keep b o e))
end Mine
end

section
open PySem PySem.W PyProof.Rows PySem.Calls
set_option maxRecDepth 100000
set_option maxHeartbeats 8000000
namespace Mine
theorem cmp3_neg {x y : UInt8} : cmp3 (x.toNat : Int) (y.toNat : Int) < 0 ↔ x.toNat < y.toNat := by
  unfold cmp3 b2i
  by_cases h1 : (x.toNat : Int) < y.toNat
  · have h2 : ¬ (y.toNat : Int) < x.toNat := by omega
    simp [h1, h2]; omega
  · simp [h1]; omega
section
variable {prog : Program} {w : World} {A : Around} {E : Value → Shared → Prop} {s : Shared}
theorem add_b {b c : List UInt8} {t u : Tok} {Q : Value → Shared → Prop} (hsz : b.length + c.length ≤ 1000) (h : ∀ t' k, Q (.bytes (b ++ c).toArray t') { s with toks := k }) :
    wpAny (model prog w) A (binaryOp .Add (.bytes b.toArray t) (.bytes c.toArray u)) Q E s :=
  KBy.add_bytes (by simp only [List.size_toArray]; omega) fun t' k => by rw [List.append_toArray]; exact h t' k
theorem add_e {b c d : List UInt8} {t u : Tok} {Q : Value → Shared → Prop} (hsz : b.length + c.length ≤ 1000) (e : b ++ c = d) (h : ∀ t' k, Q (.bytes d.toArray t') { s with toks := k }) :
    wpAny (model prog w) A (binaryOp .Add (.bytes b.toArray t) (.bytes c.toArray u)) Q E s := by
  subst e; exact add_b hsz h
theorem add_l {l b : Addr} {vs ws : List Value} {Q : Value → Shared → Prop} (hl : s.heap.IsList l vs.toArray) (hb : s.heap.IsList b ws.toArray) (hsz : vs.length + ws.length ≤ 1000)
    (h : ∀ h', h'.PlainList s.heap.objs.size (vs ++ ws).toArray → (∀ b o, s.heap.get? b = some o → h'.get? b = some o) → Q (.ref s.heap.objs.size) { s with heap := h' }) :
    wpAny (model prog w) A (binaryOp .Add (.ref l) (.ref b)) Q E s := by
  obtain ⟨⟨cls, dd, data, sl⟩, ho, hc, n, hd⟩ := id hl
  obtain ⟨⟨cls2, dd2, data2, sl2⟩, ho2, hc2, n2, hd2⟩ := id hb
  simp only at hc hd hc2 hd2
  subst hc hd hc2 hd2
  have e : vs.toArray ++ ws.toArray = (vs ++ ws).toArray := by simp
  refine concat_meets ⟨_, ho, rfl⟩ ⟨_, ho2, rfl⟩ noFill_list_add seq_list_add PySem.F.slot_list_add PySem.F.entry_list_add (PySem.F.args_list_add_2 _ _)
    (list_addW l b vs.toArray ws.toArray n n2 dd dd2 sl sl2 (by rw [sizeLine_eq]; simp only [List.size_toArray]; omega)) ⟨ho, ho2, ?_⟩
  rw [e]
  exact h _ ⟨_, Heap.get?_push_size _ rfl⟩ fun b o e => Heap.get?_push_of_some _ e
theorem slice_take {value slice : Expr} {l : List UInt8} {t tb : Tok} {b : Int} {s₀ : Shared} {ops : List Value} {Q : Value → Shared → Prop} (m : Nat) (hb : b = (m : Int)) (hz : l.length ≤ 1000)
    (h : ∀ h' t' k, s₀.heap.StaysIn h' → Q (.bytes (l.take m).toArray t') { s₀ with heap := h', toks := k })
    (hs : subscripted slice false (.bytes l.toArray t) (.ref s₀.heap.objs.size) = operate ops (getItem (.bytes l.toArray t) (.ref s₀.heap.objs.size)) := by with_unfolding_all rfl)
    (ht : ∀ r, letTemporaryGo value (.bytes l.toArray t) r = pure () := by intro _; with_unfolding_all rfl) :
    wpAny (model prog w) A (subscriptTail value slice (.bytes l.toArray t) (.ref s₀.heap.objs.size)) Q E { s₀ with heap := s₀.heap.push { cls := .type "slice", data := .fields #[.none, .int b tb, .none] } } := by
  subst hb
  exact slice_b .none (.int _ _) (by simpa using hz) (fun h' t' k e => by rw [picked_take]; exact h h' t' k e) hs ht
theorem slice_drop {value slice : Expr} {l : List UInt8} {t ta : Tok} {a : Int} {s₀ : Shared} {ops : List Value} {Q : Value → Shared → Prop} (n : Nat) (ha : a = (n : Int)) (hz : l.length ≤ 1000)
    (h : ∀ h' t' k, s₀.heap.StaysIn h' → Q (.bytes (l.drop n).toArray t') { s₀ with heap := h', toks := k })
    (hs : subscripted slice false (.bytes l.toArray t) (.ref s₀.heap.objs.size) = operate ops (getItem (.bytes l.toArray t) (.ref s₀.heap.objs.size)) := by with_unfolding_all rfl)
    (ht : ∀ r, letTemporaryGo value (.bytes l.toArray t) r = pure () := by intro _; with_unfolding_all rfl) :
    wpAny (model prog w) A (subscriptTail value slice (.bytes l.toArray t) (.ref s₀.heap.objs.size)) Q E { s₀ with heap := s₀.heap.push { cls := .type "slice", data := .fields #[.int a ta, .none, .none] } } := by
  subst ha
  exact slice_b (.int _ _) .none (by simpa using hz) (fun h' t' k e => by rw [picked_drop]; exact h h' t' k e) hs ht
theorem slice_run {value slice : Expr} {l : List UInt8} {t ta tb : Tok} {a b : Int} {s₀ : Shared} {ops : List Value} {Q : Value → Shared → Prop} (n m : Nat) (ha : a = (n : Int)) (hb : b = (m : Int)) (hz : l.length ≤ 1000)
    (h : ∀ h' t' k, s₀.heap.StaysIn h' → Q (.bytes ((l.drop n).take (m - n)).toArray t') { s₀ with heap := h', toks := k })
    (hs : subscripted slice false (.bytes l.toArray t) (.ref s₀.heap.objs.size) = operate ops (getItem (.bytes l.toArray t) (.ref s₀.heap.objs.size)) := by with_unfolding_all rfl)
    (ht : ∀ r, letTemporaryGo value (.bytes l.toArray t) r = pure () := by intro _; with_unfolding_all rfl) :
    wpAny (model prog w) A (subscriptTail value slice (.bytes l.toArray t) (.ref s₀.heap.objs.size)) Q E { s₀ with heap := s₀.heap.push { cls := .type "slice", data := .fields #[.int a ta, .int b tb, .none] } } := by
  subst ha hb
  exact slice_b (.int _ _) (.int _ _) (by simpa using hz) (fun h' t' k e => by rw [picked_run]; exact h h' t' k e) hs ht
theorem eqAt_bytes {b c : Array UInt8} {t u : Tok} (e : b = c) : SeqAt.EqAt A s (.bytes b t) (.bytes c u) true := fun prog w E Q h =>
  eqBool_bytes (by rw [e]; simpa using h)
end
end Mine
end

section
open PySem PySem.W PyProof.Rows PySem.Calls
set_option maxRecDepth 100000
set_option maxHeartbeats 1000000
namespace Mine
theorem CF.asg {base h h' : Heap} {L K : Nat} {m m' : Nm} {vs : List (Option Value)} {wr : List Addr} (Z : CF base L K h m vs) (F : Fr base L h' m') (hw : ∀ b ∈ wr, K ≤ b)
    (k : ∀ b o, b ≠ L → b ∉ wr → h.get? b = some o → h'.get? b = some o) : CF base L K h' m' vs :=
  ⟨F, fun i v hv => let ⟨o, ho, hd⟩ := Z.cell i v hv; ⟨o, k _ o (Ne.symm cf4) (fun q => Nat.not_lt.mpr (hw _ q) (cf1 Z.lt (List.getElem?_eq_some_iff.mp hv).1)) ho, hd⟩, Z.lt⟩
theorem sw1 {r : List UInt8} {k : Nat} (hr : r.length = 5) : (r.take k).length + ((r.drop (k + 1)).take (k + 2 - (k + 1))).length ≤ 1000 := by
  simp only [List.length_take, List.length_drop, hr]; omega
theorem sw2 {r : List UInt8} {k : Nat} (hr : r.length = 5) : (r.take k ++ (r.drop (k + 1)).take (k + 2 - (k + 1))).length + ((r.drop k).take (k + 1 - k)).length ≤ 1000 := by
  simp only [List.length_append, List.length_take, List.length_drop, hr]; omega
theorem sw3 {r : List UInt8} {k : Nat} (hr : r.length = 5) : (r.take k ++ (r.drop (k + 1)).take (k + 2 - (k + 1)) ++ (r.drop k).take (k + 1 - k)).length + (r.drop (k + 2)).length ≤ 1000 := by
  simp only [List.length_append, List.length_take, List.length_drop, hr]; omega
theorem sw4 {r : List UInt8} {k : Nat} : r.take k ++ (r.drop (k + 1)).take (k + 2 - (k + 1)) ++ (r.drop k).take (k + 1 - k) ++ r.drop (k + 2) = swapAt k r := by
  rw [show k + 2 - (k + 1) = 1 from by omega, show k + 1 - k = 1 from by omega]; rfl
theorem le5 {r : List UInt8} (hr : r.length = 5) : r.length ≤ 1000 := by omega
theorem k2 {k : Nat} : (k : Int) + 2 = ((k + 2 : Nat) : Int) := by omega
theorem k1 {k : Nat} : (k : Int) + 1 = ((k + 1 : Nat) : Int) := by omega
theorem one_fits {v : Value} : [v].length ≤ sizeLine := by rw [sizeLine_eq, List.length_singleton]; decide
theorem swapAt_len {k : Nat} {r : List UInt8} (hr : r.length = 5) (hk : k < 4) : (swapAt k r).length = 5 := by
  unfold swapAt
  simp only [List.length_append, List.length_take, List.length_drop, hr]
  omega
theorem read_ok {w : World} {dp un : Nat} {gd : Option (List Code)} {outer : List Env} {base : Heap} {mean : Mn} {mg mb : Nm} {s : Shared} {Q : Value → Shared → Prop} {row : List UInt8} {tx : Tok}
    (O : Ok w mean mg mb base outer s.heap) (hd : dp + 6 < recursionLimit) (hu : un + 80 < cLine) (hrow : row.length = 5)
    (hret : ∀ a vs h' tk', s.heap.StaysIn h' → s.heap.objs.size ≤ a → h'.IsList a vs.toArray → IntsAre vs (readOff row) → Q (.ref a) { s with heap := h', toks := tk' }) :
    wpN (model PR w) (Ar dp un gd outer) (call (.ref 59) [.bytes row.toArray tx]) Q s := by
  refine N_call ?_
  refine' enterCN O ?k6 ?k7 ?k8 ?k9 ?kB ?_ ?c2 ?c3 ?c4
  case k6 => k_is
  case k7 => k_is
  case k8 => ktr_room
  case k9 => exact BindsTo.of_eq rfl
  case kB => rfl
  case c2 => exact rfl
  case c3 => exact rfl
  case c4 => exact rfl
  intro L' h₁ tk1 hL F C B X T
  try dsimp only
  have hK : L' + 1 + 1 ≤ h₁.objs.size := cell_lt (C.cell (Str.ofString "row") _ rfl)
  have Z1 : CF s.heap L' h₁.objs.size h₁ _ [some (.bytes row.toArray tx)] := CF.of [Str.ofString "row"] F C rfl hK
  clear F C
  obtain ⟨m, Z1⟩ := cfAny Z1
  refine N_execs (N_Assign (wpN_of (wpAny_List (args_nil ⟨Nat.zero_le _, ?_⟩))))
  refine wpN_of (CF.stL (Z1.stays fun b o e => Heap.get?_push_of_some _ e) fun h2 Z2 k2 => ?_)
  have hW2 : h2.PlainList h₁.objs.size ([] : List Value).toArray := ⟨_, k2 _ _ (Nat.le_refl _) (Heap.get?_push_size _ rfl)⟩
  refine N_execs (N_For (Call_ ?_))
  refine nmB (X.keeps Z2.F.keep) (T.keeps Z2.F.keep) (by k_is) boot_range (by decide) rfl rfl rfl rfl (by decide) ?_
  refine PyProof.Rows.callWith_type1 ?_
  refine args_cons (wpAny_Constant_int ?_)
  refine args_nil ?_
  refine range_it 10 rfl (by decide) fun I h3 tk3 hit3 k3 lo3 lt3 => ?_
  have Z3 := Z2.stays k3
  have hW3 : h3.PlainList h₁.objs.size ([] : List Value).toArray := hW2.at fun o e => k3 _ o e
  have hKI : h₁.objs.size < I := Nat.lt_of_lt_of_le (by obtain ⟨_, e⟩ := hW2; exact Heap.lt_size e) lo3
  have hKI' : h₁.objs.size ≤ I := Nat.le_of_lt hKI
  have hL1 : L' < h₁.objs.size := cf2 Z3.lt
  have hLI : L' ≠ I := Nat.ne_of_lt (Nat.lt_trans hL1 hKI)
  clear k2 Z1 Z2 hW2
  refine codeN_for (fun n s' => ∃ (i : Nat) (h' : Heap) (tk' : Nat) (m' : Nm) (st : List UInt8 × List Int) (t : Tok) (wa : Addr) (vs : List Value), s' = { s with heap := h', toks := tk' } ∧ n = 10 - i ∧ i ≤ 10 ∧
    CF s.heap L' h₁.objs.size h' m' [some (.bytes st.1.toArray t)] ∧ IsRangeIter h' I (0 + (i : Nat) * 1) ((10 : Nat) - (i : Nat)) 1 ∧ m' (Str.ofString "wires") = some (.ref wa) ∧ h'.IsList wa vs.toArray ∧ wa ≠ I ∧ h₁.objs.size ≤ wa ∧ IntsAre vs st.2 ∧
    st.1.length = 5 ∧ st.2.length ≤ i ∧ offN n st = offN 10 (row, [])) ?turn (fun _ => rfl) 10 _ ?start
  case start =>
    exact ⟨0, _, _, _, (row, []), tx, _, [], rfl, rfl, Nat.zero_le _, Z3, hit3, rfl, hW3.isList, Nat.ne_of_lt hKI, Nat.le_refl _, .nil, hrow, Nat.le_refl _, rfl⟩
  case turn =>
    rintro n s' ⟨i, h4, tk4, m4, ⟨r, ws⟩, t, wa, vs, rfl, rfl, hi, Z4, hit4, hmw, hW4, hwI, hwK, hws, hr5, hwl, hoff⟩
    dsimp only at Z4 hws hr5 hwl
    rcases Nat.lt_or_ge i 10 with hlt | hge
    · refine (Walks.range rfl I 0 1 10).item i _ _ _ hlt hit4 fun v h5 tk5 hP hit5 k5 => ?_
      obtain ⟨tb, rfl⟩ := hP
      have Z5 := Z4.nb hKI' k5
      have hW5 : h5.IsList wa vs.toArray := hW4.at fun o e => k5 _ o (fun z => hwI (List.mem_singleton.mp z)) e
      refine PyProof.Rows.assign_Name (CF.stL Z5 fun h6 Z6 k6 => ?_)
      have hit6 := k6 _ _ hKI' hit5
      have hW6 : h6.IsList wa vs.toArray := hW5.at fun o e => k6 _ o hwK e
      have hmw6 : (fun y => if y = Str.ofString "turn" then some (Value.int (0 + (i : Nat) * 1) tb) else m4 y) (Str.ofString "wires") = some (.ref wa) := (if_neg (by decide)).trans hmw
      clear Z4 Z5 hit4 hit5 hW4 hW5 k5 k6 hit3 hW3 Z3 hmw
      generalize (fun y => if y = Str.ofString "turn" then some (Value.int (0 + (i : Nat) * 1) tb) else m4 y) = m6 at Z6 hmw6
      refine N_execs (N_G (asgL (h₀ := s.heap) rfl rfl rfl ?_ ?_ rfl (fun _ => rfl) rfl rfl ?_))
      · decide
      · decide
      refine src_range 4 (X.keeps Z6.F.keep) (T.keeps Z6.F.keep) rfl (by decide) (by k_is) rfl rfl rfl rfl rfl rfl rfl fun I7 h7 tk7 hit7 k7 lo7 lt7 => ?_
      have Z7 := Z6.stays k7
      have hL6 : L' < h6.objs.size := Z6.F.ns.lt
      have hI7n : s.heap.get? I7 = none := by
        cases q : s.heap.get? I7 with
        | none => rfl
        | some o => exact absurd (Heap.lt_size (Z6.F.keep _ _ q)) (Nat.not_lt.mpr lo7)
      refine ⟨_, [I7], 4, _, _, rfl, Z7.F, fun q => Nat.ne_of_lt (Nat.lt_of_lt_of_le hL6 lo7) (List.mem_singleton.mp q), fun b hb => by rw [List.mem_singleton.mp hb]; exact hI7n,
        obPick (fun k => decide ((r.getD k 0).toNat < (r.getD (k + 1) 0).toNat)) rfl hit7 (by decide) ?_, fun _ _ _ _ h _ => h, ?_⟩
      · intro k tk' h8 tk8 hk hEk hsz8 keep8
        obtain ⟨m8, hn8, hm8⟩ := hEk
        have ka8 := keepI lo7 k7 keep8
        have Z8 := Z6.stays ka8
        refine T_one (G_of (wpAny_isTrue_Compare1 (Call_ ?_)))
        refine nmK (X.keeps Z8.F.keep) (T.keeps Z8.F.keep) (by k_is) rfl rfl rfl (by decide) ?_
        refine callWith_K (K := Mine.hd.heap_39 w.params) (X.keeps Z8.F.keep) (by k_is) ?_
        refine args_cons (Subscript_ (Z8.ldC 0 rfl (nmL hn8 hm8 rfl rfl (by decide) ?_)))
        refine item_b k rfl (by omega) (by omega) ?_
        refine args_cons (Subscript_ (Z8.ldC 0 rfl (wpAny_BinOp (nmL hn8 hm8 rfl rfl (by decide) (wpAny_Constant_int (add_int ?_))))))
        refine item_b (k + 1) (by omega) (by omega) (by omega) ?_
        refine args_nil ⟨X.keeps Z8.F.keep, ?_⟩
        refine' tw_int ?k1 ?k2 ?k3 ?_
        case k1 => exact Ok.of B Z8.F X T rfl rfl
        case k2 => ktr_room
        case k3 => ktr_units
        intro t9 h9 tk9 k9
        refine wpAny_Constant_int (PyProof.Rows.lt_int (wpAny_truthy_bool ⟨⟨h9, _, rfl, k9⟩, ?_⟩))
        rw [decide_eq_decide]
        exact cmp3_neg
      · intro h8 tk8 ys8 hl8 hI8 F8 keep8
        have hI8' : IntsAre ys8 ((rises r).map fun k : Nat => (k : Int)) := hI8
        clear hI8
        have hI6 : I < h6.objs.size := Heap.lt_size hit6
        have hKI7 : h₁.objs.size ≤ I7 := Nat.le_trans hKI' (Nat.le_trans (Nat.le_of_lt hI6) lo7)
        have hw6 : wa < h6.objs.size := by obtain ⟨_, e, _⟩ := hW6; exact Heap.lt_size e
        have Z8 : CF s.heap L' h₁.objs.size h8 (fun z => if z = Str.ofString "rising" then some (Value.ref h7.objs.size) else m6 z) [some (Value.bytes r.toArray t)] := Z7.asg F8 (wr := [I7]) (fun b hb => by rw [List.mem_singleton.mp hb]; exact hKI7) keep8
        have hit8 := keep8 _ _ (Ne.symm hLI) (fun q => Nat.ne_of_lt (Nat.lt_of_lt_of_le hI6 lo7) (List.mem_singleton.mp q)) (k7 _ _ hit6)
        have hW8 : h8.IsList wa vs.toArray := hW6.at fun o e => keep8 _ o (Ne.symm (Nat.ne_of_lt (Nat.lt_of_lt_of_le hL1 hwK))) (fun q => Nat.ne_of_lt (Nat.lt_of_lt_of_le hw6 lo7) (List.mem_singleton.mp q)) (k7 _ o e)
        have hmw8 : (fun z => if z = Str.ofString "rising" then some (Value.ref h7.objs.size) else m6 z) (Str.ofString "wires") = some (.ref wa) := (if_neg (by decide)).trans hmw6
        have hmr8 : (fun z => if z = Str.ofString "rising" then some (Value.ref h7.objs.size) else m6 z) (Str.ofString "rising") = some (.ref h7.objs.size) := if_pos rfl
        clear F8 keep8 Z7 Z6 hit6 hW6 hmw6 hit7
        dsimp only at hl8 ⊢
        generalize (fun z => if z = Str.ofString "rising" then some (Value.ref h7.objs.size) else m6 z) = m8 at Z8 hmw8 hmr8
        have hD8 : h8.IsList h7.objs.size ys8.toArray := hl8.isList
        refine N_execs (N_If (wpAny_isTrue_Compare1 (Z8.ldL hmr8 (wpAny_List (args_nil ⟨Nat.zero_le _, ?_⟩)))))
        have Z9 := Z8.stays (h' := h8.push { cls := .type "list", data := .seq ([] : List Value).toArray }) fun b o e => Heap.get?_push_of_some _ e
        have hD9 : (h8.push { cls := .type "list", data := .seq ([] : List Value).toArray }).IsList h7.objs.size ys8.toArray := hD8.push _
        have hN9 : (h8.push { cls := .type "list", data := .seq ([] : List Value).toArray }).PlainList h8.objs.size ([] : List Value).toArray := ⟨_, Heap.get?_push_size _ rfl⟩
        have hit9 := Heap.get?_push_of_some { cls := .type "list", data := .seq ([] : List Value).toArray } hit8
        have hW9 : (h8.push { cls := .type "list", data := .seq ([] : List Value).toArray }).IsList wa vs.toArray := hW8.push _
        clear Z8 hD8 hl8 hit8 hW8
        generalize (h8.push { cls := .type "list", data := .seq ([] : List Value).toArray }) = h9 at Z9 hD9 hN9 hit9 hW9 ⊢
        refine ne_intsK hD9 hI8' hN9.isList .nil (by ktr_units) (wpAny_truthy_bool ?_)
        cases hrs : rises r with
        | nil =>
          rw [if_neg (by simp)]
          refine N_execs_nil (N_execs_nil ?_)
          refine ⟨10 - (i + 1), by omega, i + 1, h9, _, _, (r, ws), t, wa, vs, rfl, rfl, hlt, Z9, hit9, hmw8, hW9, hwI, hwK, hws, hr5, Nat.le_succ_of_le hwl, ?_⟩
          rw [← hoff, show 10 - i = (10 - (i + 1)) + 1 from by omega]
          show _ = offN (10 - (i + 1)) (offTurn (r, ws))
          rw [show offTurn (r, ws) = (r, ws) from by unfold offTurn; rw [hrs]]
        | cons k ks =>
          rw [if_pos (by simp)]
          have hk4 : k < 4 := by
            have : k ∈ rises r := by rw [hrs]; exact List.mem_cons_self ..
            exact List.mem_range.mp (List.mem_filter.mp this).1
          rw [hrs] at hI8'
          refine N_execs (N_Assign (wpN_of (Subscript_ (Z9.ldL hmr8 (wpAny_Constant_int ?_)))))
          refine item_anyK hD9 hI8' (by omega) (by simp) (by omega) fun t1 => ?_
          refine wpN_of (CF.stL Z9 (v := .int (k : Int) t1) fun h10 Z10 k10 => ?_)
          have hit10 := k10 _ _ hKI' hit9
          have hW10 : h10.IsList wa vs.toArray := hW9.at fun o e => k10 _ o hwK e
          have hmw10 : (fun y => if y = Str.ofString "wire" then some (Value.int (k : Int) t1) else m8 y) (Str.ofString "wires") = some (.ref wa) := (if_neg (by decide)).trans hmw8
          have hmk10 : (fun y => if y = Str.ofString "wire" then some (Value.int (k : Int) t1) else m8 y) (Str.ofString "wire") = some (.int (k : Int) t1) := if_pos rfl
          clear Z9 hD9 hN9 hit9 hW9 hmw8 hmr8 k10 hI8'
          generalize (fun y => if y = Str.ofString "wire" then some (Value.int (k : Int) t1) else m8 y) = m10 at Z10 hmw10 hmk10
          refine N_execs (N_Assign (wpN_of (wpAny_BinOp (wpAny_BinOp (wpAny_BinOp (Subscript_ (Z10.ldC 0 rfl (wpAny_Slice (wpAny_pure (Z10.ldL hmk10 (wpAny_pure ?_)))))))))))
          refine slice_take (s₀ := ⟨_, _, _, _, _⟩) k rfl (le5 hr5) fun h11 t11 tk11 k11 => ?_
          have Z11 := Z10.stays k11
          refine Subscript_ (Z11.ldC 0 rfl (wpAny_Slice (wpAny_BinOp (Z11.ldL hmk10 (wpAny_Constant_int (add_int (wpAny_BinOp (Z11.ldL hmk10 (wpAny_Constant_int (add_int (wpAny_pure ?_)))))))))))
          refine slice_run (s₀ := ⟨_, _, _, _, _⟩) (k + 1) (k + 2) k1 k2 (le5 hr5) fun h12 t12 tk12 k12 => ?_
          have Z12 := Z11.stays k12
          refine add_b (sw1 hr5) fun t13 tk13 => ?_
          refine Subscript_ (Z12.ldC 0 rfl (wpAny_Slice (Z12.ldL hmk10 (wpAny_BinOp (Z12.ldL hmk10 (wpAny_Constant_int (add_int (wpAny_pure ?_))))))))
          refine slice_run (s₀ := ⟨_, _, _, _, _⟩) k (k + 1) rfl k1 (le5 hr5) fun h14 t14 tk14 k14 => ?_
          have Z14 := Z12.stays k14
          refine add_b (sw2 hr5) fun t15 tk15 => ?_
          refine Subscript_ (Z14.ldC 0 rfl (wpAny_Slice (wpAny_BinOp (Z14.ldL hmk10 (wpAny_Constant_int (add_int (wpAny_pure (wpAny_pure ?_))))))))
          refine slice_drop (s₀ := ⟨_, _, _, _, _⟩) (k + 2) k2 (le5 hr5) fun h16 t16 tk16 k16 => ?_
          have Z16 := Z14.stays k16
          refine add_e (sw3 hr5) sw4 fun t17 tk17 => ?_
          refine wpN_of (CF.stC Z16 0 (by simp) fun h17 Z17 k17 => ?_)
          dsimp only [List.set] at Z17
          have ka17 : ∀ b o, h₁.objs.size ≤ b → h10.get? b = some o → h17.get? b = some o := fun b o q e => k17 b o q (k16 b o (k14 b o (k12 b o (k11 b o e))))
          have hit17 := ka17 _ _ hKI' hit10
          have hW17 : h17.IsList wa vs.toArray := hW10.at fun o e => ka17 _ o hwK e
          clear Z10 Z11 Z12 Z14 Z16 k11 k12 k14 k16 k17 ka17 hit10 hW10
          refine N_execs (N_Assign (wpN_of (wpAny_BinOp (wpAny_List (args_cons (Z17.ldL hmk10 (args_nil ⟨one_fits, ?_⟩)))))))
          have Z18 := Z17.stays (h' := h17.push { cls := .type "list", data := .seq [Value.int (k : Int) t1].toArray }) fun b o e => Heap.get?_push_of_some _ e
          have hN18 : (h17.push { cls := .type "list", data := .seq [Value.int (k : Int) t1].toArray }).IsList h17.objs.size [Value.int (k : Int) t1].toArray := Heap.PlainList.isList ⟨_, Heap.get?_push_size _ rfl⟩
          have hit18 := Heap.get?_push_of_some { cls := .type "list", data := .seq [Value.int (k : Int) t1].toArray } hit17
          have hW18 : (h17.push { cls := .type "list", data := .seq [Value.int (k : Int) t1].toArray }).IsList wa vs.toArray := hW17.push _
          have lt18 : h17.objs.size < (h17.push { cls := .type "list", data := .seq [Value.int (k : Int) t1].toArray }).objs.size := by rw [Heap.size_push]; exact Nat.lt_succ_self _
          have hI17 : I < h17.objs.size := Heap.lt_size hit17
          clear Z17 hit17 hW17
          dsimp only
          generalize (h17.push { cls := .type "list", data := .seq [Value.int (k : Int) t1].toArray }) = h18 at Z18 hN18 hit18 hW18 lt18 ⊢
          refine Z18.ldL hmw10 ?_
          refine add_l hN18 hW18 (by rw [hws.length]; simp; omega) fun h19 hl19 k19 => ?_
          have hI18 : I < h18.objs.size := Nat.lt_trans hI17 lt18
          refine wpN_of (CF.stL (Z18.stays k19) fun h20 Z20 k20 => ?_)
          refine N_execs_nil (N_execs_nil ?_)
          refine ⟨10 - (i + 1), by omega, i + 1, h20, _, _, (swapAt k r, (k : Int) :: ws), _, h18.objs.size, _, rfl, rfl, hlt, Z20, k20 _ _ hKI' (k19 _ _ hit18), if_pos rfl, hl19.isList.at fun o e => k20 _ o (Nat.le_of_lt (Nat.lt_trans hKI hI18)) e,
            Ne.symm (Nat.ne_of_lt hI18), Nat.le_of_lt (Nat.lt_trans hKI hI18), ?_, swapAt_len hr5 hk4, ?_, ?_⟩
          · exact .cons _ _ hws
          · simp only [List.length_cons]; omega
          · rw [← hoff, show 10 - i = (10 - (i + 1)) + 1 from by omega]
            show _ = offN (10 - (i + 1)) (offTurn (r, ws))
            rw [show offTurn (r, ws) = (swapAt k r, (k : Int) :: ws) from by unfold offTurn; rw [hrs]]
    · have hie : i = 10 := by omega
      subst hie
      refine (Walks.range rfl I 0 1 10).done _ _ _ hit4 fun h5 tk5 k5 => ?_
      have Z5 := Z4.nb hKI' k5
      have hW5 : h5.IsList wa vs.toArray := hW4.at fun o e => k5 _ o (fun z => hwI (List.mem_singleton.mp z)) e
      refine wpN_of (wpAny_execs_cons (wpAny_Return_some (Z5.ldL hmw ?_)))
      refine hret wa vs _ _ Z5.F.keep (hL ▸ Nat.le_trans (Nat.le_of_lt hL1) hwK) hW5 ?_
      have e : readOff row = ws := congrArg Prod.snd hoff.symm
      rw [e]; exact hws
end Mine
end

section
open PySem PySem.W PyProof.Rows PySem.Calls
open PySem.SeqAt (EqAt RcNeAt)
open PySem.AutoSeq1 (wpAny_loadPart')
set_option maxRecDepth 100000
set_option maxHeartbeats 1000000
namespace Mine
section
variable {prog : Program} {w : World} {A : Around} {E : Value → Shared → Prop} {s : Shared}
/-! bytes(range(n)) -/
noncomputable def upTo (n : Nat) : List Int := (List.range n).map fun j : Nat => (j : Int)
theorem upTo_succ (i : Nat) : byteArr (upTo (i + 1)) = (byteArr (upTo i)).push (i : Int).toNat.toUInt8 := by
  unfold byteArr upTo
  rw [List.range_succ]
  simp
theorem upTo_size (i : Nat) : (byteArr (upTo i)).size = i := by rw [byteArr_size]; simp [upTo]
theorem br_loop {R : Result → Shared → Prop} {I S : Addr} {n : Nat} (hh : A.handled = none) (hn : n ≤ 255) (hIS : I ≠ S) :
    ∀ (k i : Nat) (s : Shared), n - i = k → i ≤ n → IsRangeIter s.heap I (0 + (i : Nat) * 1) ((n : Int) - (i : Nat)) 1 → s.heap.get? S = some { cls := .type "bytearray", data := .bytearray (byteArr (upTo i)) } →
      (∀ h' t k', (∀ b o, b ≠ I → b ≠ S → s.heap.get? b = some o → h'.get? b = some o) → R (.ok (.ret (.bytes (byteArr (upTo n)) t))) { s with heap := h', toks := k' }) →
      codeAny (model prog w) A (.builtin "bytes.__new__.loop" ⟨[.type "bytes", .ref I, .ref S], []⟩) R s := by
  intro k
  induction k with
  | zero =>
    intro i s hk hle hit hS hR
    have hin : i = n := by omega
    subst hin
    refine codeAny_builtin F.bm_entry_loop ?_
    rw [Around.under_plainId F.bm_plain_loop _]
    show wpAny _ A.in1 (pyNext (.ref I) >>= _) _ _ s
    refine wpAny_bind ((Walks.range (A := A.in1) hh I 0 1 i).done _ _ _ hit fun h' tk' he => ?_)
    have hS' : h'.get? S = some { cls := .type "bytearray", data := .bytearray (byteArr (upTo i)) } := he S _ (fun q => Ne.symm hIS (List.mem_singleton.mp q)) hS
    refine wpAny_bind ?_
    unfold Builtin.Bytes.payload Builtin.Bytes.payload?
    refine wpAny_bind (wpAny_bind (wpAny_load hS' ?_))
    refine wpAny_pure (wpAny_pure ?_)
    refine wpAny_bind (wpAny_mkBytes ?_ (by rw [upTo_size, sizeLine_eq]; omega))
    show wpAny _ _ (if (Value.type "bytes" == Value.type "bytes") = true then _ else _) _ _ _
    refine bm_if_true (by decide) ?_
    first
      | exact wpAny_pure (hR h' _ _ fun b o hb _ e => he b o (fun q => hb (List.mem_singleton.mp q)) e)
      | exact wpAny_bind (wpAny_pure (wpAny_pure (hR h' _ _ fun b o hb _ e => he b o (fun q => hb (List.mem_singleton.mp q)) e)))
  | succ k ih =>
    intro i s hk hle hit hS hR
    have hlt : i < n := by omega
    refine codeAny_builtin F.bm_entry_loop ?_
    rw [Around.under_plainId F.bm_plain_loop _]
    show wpAny _ A.in1 (pyNext (.ref I) >>= _) _ _ s
    refine wpAny_bind ((Walks.range (A := A.in1) hh I 0 1 n).item i _ _ _ hlt hit fun v h' tk' hP hit' ks => ?_)
    obtain ⟨t, rfl⟩ := hP
    have e0 : (0 : Int) + (i : Int) * 1 = (i : Int) := by omega
    rw [e0]
    have hS' : h'.get? S = some { cls := .type "bytearray", data := .bytearray (byteArr (upTo i)) } := ks S _ (fun q => Ne.symm hIS (List.mem_singleton.mp q)) hS
    refine wpAny_bind (wpAny_holding (wpAny_of_eq (rfl : asIndex (.int (i : Int) t) = pure (i : Int)) ?_))
    refine wpAny_bind (wpAny_letGo ?_)
    refine bm_if_false (by simp only [Bool.or_eq_false_iff, decide_eq_false_iff_not]; omega) ?_
    refine wpAny_bind ?_
    show wpAny _ _ (updateBytearray S (·.push (i : Int).toNat.toUInt8)) _ _ _
    unfold updateBytearray
    refine wpAny_bind (wpAny_load hS' ?_)
    show wpAny _ _ (update S (Obj.mapBytearray (·.push (i : Int).toNat.toUInt8)) >>= fun _ => lookBehind S) _ _ _
    refine wpAny_bind (wpAny_update hS' ?_)
    have hS₂ : (h'.update S (Obj.mapBytearray (·.push (i : Int).toNat.toUInt8))).get? S = some { cls := .type "bytearray", data := .bytearray (byteArr (upTo (i + 1))) } := by
      rw [upTo_succ]
      exact Heap.get?_update_self (Obj.mapBytearray (·.push (i : Int).toNat.toUInt8)) hS' rfl
    refine wpAny_lookBehind hS₂ ?_ ?_
    · show (if (byteArr (upTo (i + 1))).size > sizeLine then some "bytearray:memory" else none) = none
      rw [if_neg]
      rw [upTo_size, sizeLine_eq]
      omega
    · refine wpAny_pure ⟨plainId_quiet F.bm_plain_loop _, ih (i + 1) { s with heap := h'.update S (Obj.mapBytearray (·.push (i : Int).toNat.toUInt8)), toks := tk' } (by omega) hlt ?_ hS₂ fun h3 t' k' hk3 => ?_⟩
      · exact (Heap.get?_update_other _ _ (Ne.symm hIS)).trans hit'
      · exact hR h3 t' k' fun b o hbI hbS e => hk3 b o hbI hbS ((Heap.get?_update_other _ _ (Ne.symm hbS)).trans (ks b o (fun q => hbI (List.mem_singleton.mp q)) e))
theorem br_no_bytes : typeLookup (.type "range") "__bytes__" = pure none := by rw [typeLookup_type, builtinLookup_eq_fast]; kernel_rfl
theorem br_no_index : typeLookup (.type "range") "__index__" = pure none := by rw [typeLookup_type, builtinLookup_eq_fast]; kernel_rfl
theorem br_no_buffer : typeLookup (.type "range") "__buffer__" = pure none := by rw [typeLookup_type, builtinLookup_eq_fast]; kernel_rfl
theorem br_split : splitId "range.__len__" = some ("range", "__len__") := by decide +kernel
theorem br_sub : isSubtype (.type "range") (.type "range") = pure true := by rw [isSubtype_type]; kernel_rfl
theorem bytes_range {r : Addr} {n : Nat} {t u v : Tok} {Q : Value → Shared → Prop} (hh : A.handled = none) (hr : IsRange s.heap r 0 (n : Int) 1 t u v) (hn : n ≤ 255)
    (hQ : ∀ h' t k, (∀ b o, s.heap.get? b = some o → h'.get? b = some o) → Q (.bytes (byteArr (upTo n)) t) { s with heap := h', toks := k }) : wpAny (model prog w) A (call (.type "bytes") [.ref r]) Q E s := by
  refine callType_codes (Q₁ := fun obj s₁ => s₁.TypeIs obj "bytes" ∧ Q obj s₁) F.bm_called (F.bm_typeCall _) F.entry_object_init ?_ fun obj s₁ h₁ =>
    ⟨h₁.1, F.args_object_init_2 obj _, object_init_meets F.bm_called.init.lookup F.bm_called.made (by decide) prog w A.in1 _ s₁ ⟨h₁.1, rfl, h₁.2⟩⟩
  refine codeAny_of_tree ?_
  show wpAny _ A.in1.in1 (do checkBuiltinCall "bytes.__new__" ⟨[.type "bytes", .ref r], []⟩; again (.builtin "bytes.__new__" ⟨[.type "bytes", .ref r], []⟩)) _ _ s
  refine wpAny_bind (wpAny_of_eq (F.bm_newCall _) (wpAny_pure ⟨plainId_quiet F.bm_plain _, codeAny_builtin F.bm_entry ?_⟩))
  rw [Around.under_plainId F.bm_plain _]
  have hT : s.TypeIs (.ref r) "range" := ⟨_, hr, rfl⟩
  unfold Builtin.«bytes.__new__»
  refine wpAny_bind (wpAny_of_eq (a := true) rfl ?_)
  refine bm_if_false rfl ?_
  refine wpAny_bind (wpAny_of_eq F.bm_sub ?_)
  refine bm_if_false rfl ?_
  refine wpAny_bind (wpAny_of_eq (F.bm_bind _) ?_)
  refine wpAny_bind (wpAny_of_eq (a := ()) rfl ?_)
  refine wpAny_bind (wpAny_of_eq (a := ()) rfl ?_)
  refine bm_if_false rfl ?_
  refine wpAny_bind (wpAny_specialOf hT br_no_bytes ?_)
  refine wpAny_bind (wpAny_bind ?_)
  show wpAny _ _ (load r >>= _) _ _ _
  refine wpAny_bind (wpAny_load hr ?_)
  refine wpAny_pure (wpAny_pure ?_)
  refine bm_if_false rfl ?_
  refine wpAny_bind (wpAny_specialOf hT br_no_index ?_)
  refine bm_if_true rfl ?_
  first
    | show wpAny _ _ (Builtin.Bytes.buffer? "bytes.__new__" (.ref r) true >>= _) _ _ _
    | (refine wpAny_bind ?_; show wpAny _ _ (Builtin.Bytes.buffer? "bytes.__new__" (.ref r) true >>= _) _ _ _)
  refine wpAny_bind ?_
  unfold Builtin.Bytes.buffer?
  refine wpAny_bind (wpAny_specialOf hT br_no_buffer ?_)
  refine wpAny_bind (wpAny_specialOf hT br_no_buffer ?_)
  refine wpAny_pure ?_
  have hz : Builtin.Range.rangeSize 0 (n : Int) 1 = (n : Int) := by rw [rangeSize_one]; split <;> omega
  have hsm : Builtin.Range.small 0 (n : Int) 1 = true := by
    have hf : ∀ x : Int, 0 ≤ x → x ≤ 2000 → Builtin.Range.rangeFitsLong x = true := fun x h0 h1 => by
      unfold Builtin.Range.rangeFitsLong
      simp only [Bool.and_eq_true, decide_eq_true_eq]
      omega
    unfold Builtin.Range.small
    simp only [hz]
    simp [hf 0 (by omega) (by omega), hf n (by omega) (by omega), hf 1 (by omega) (by omega)]
  refine wpAny_bind (wpAny_tryCatch (wpAny_pyIter_range hr hsm ?_))
  rw [hz]
  have hr₁ := Heap.get?_push_of_some { cls := .type "range_iterator", data := .fields #[rawInt 0, rawInt (n : Int), rawInt 1] } hr
  have hit₁ : (s.heap.push { cls := .type "range_iterator", data := .fields #[rawInt 0, rawInt (n : Int), rawInt 1] }).get? s.heap.objs.size = some { cls := .type "range_iterator", data := .fields #[rawInt 0, rawInt (n : Int), rawInt 1] } := Heap.get?_push_size _ rfl
  have hk₁ : ∀ b o, s.heap.get? b = some o → (s.heap.push { cls := .type "range_iterator", data := .fields #[rawInt 0, rawInt (n : Int), rawInt 1] }).get? b = some o := fun b o e => Heap.get?_push_of_some _ e
  generalize s.heap.push { cls := .type "range_iterator", data := .fields #[rawInt 0, rawInt (n : Int), rawInt 1] } = H1 at hr₁ hit₁ hk₁ ⊢
  have hT₁ : ({ s with heap := H1 } : Shared).TypeIs (.ref r) "range" := ⟨_, hr₁, rfl⟩
  refine wpAny_bind (wpAny_holding ?_)
  unfold Builtin.Bytes.lengthHint
  refine wpAny_bind (wpAny_specialOf hT₁ F.slot_range_len.lookup ?_)
  generalize hid : ("range.__len__" : String) = id0
  dsimp only
  rw [show splitId id0 = some ("range", "__len__") from by subst hid; decide +kernel]
  subst hid
  dsimp only
  refine wpAny_bind (wpAny_isInstance hT₁ br_sub ?_)
  refine bm_if_false rfl ?_
  refine bm_if_false (by decide +kernel) ?_
  refine bm_if_true rfl ?_
  refine wpAny_bind (wpAny_rule ?_)
  refine wpAny_bind (wpAny_attempt (call_len_range (n := n) hr₁ hz (by omega) ?_))
  refine wpAny_bind (m := asInt? _) (wpAny_pure ?_)
  have htl : Builtin.Bytes.tooLong ((n : Int).toNat) = false := by simp [Builtin.Bytes.tooLong, sizeLine]; omega
  refine bm_if_false htl (wpAny_pure ?_)
  refine wpAny_bind ?_
  unfold Builtin.Bytes.newBytearray
  refine wpAny_newObj_type ?_ (Nat.zero_le _)
  have hlt := Heap.lt_size hit₁
  refine wpAny_pure ⟨plainId_quiet F.bm_plain_loop _, ?_⟩
  refine br_loop (A := A.in1) (I := s.heap.objs.size) (S := H1.objs.size) (n := n) hh hn (Nat.ne_of_lt hlt) n 0 _ rfl (Nat.zero_le _) ?_ ?_ ?_
  · simpa using Heap.get?_push_of_some { cls := .type "bytearray", data := .bytearray #[] } hit₁
  · exact Heap.get?_push_size _ rfl
  · exact fun h' t k hk => ⟨PySem.W.typeIs_bytes _ _ _, hQ h' t k fun b o e => hk b o (Nat.ne_of_lt (Heap.lt_size e)) (Nat.ne_of_lt (Heap.lt_size (hk₁ b o e))) (Heap.get?_push_of_some _ (hk₁ b o e))⟩
end
end Mine
end

section
open PySem PySem.W PyProof.Rows PySem.Calls
open PySem.SeqAt (EqAt RcNeAt)
open PySem.AutoSeq1 (wpAny_loadPart')
set_option maxRecDepth 100000
set_option maxHeartbeats 1000000
namespace Mine
section
variable {prog : Program} {w : World} {A : Around} {E : Value → Shared → Prop} {s : Shared}
theorem ints_of : ∀ {vs : List Value} {ns : List Int}, vs.length = ns.length → (∀ (j : Nat) (v : Value), vs[j]? = some v → ∃ n t, v = .int n t ∧ ns[j]? = some n) → IntsAre vs ns
  | [], [], _, _ => .nil
  | v :: vs, n :: ns, hl, h => by
    obtain ⟨m, t, rfl, hm⟩ := h 0 v rfl
    have e : n = m := by simpa using hm
    subst e
    exact .cons _ _ (ints_of (by simpa using hl) fun j v hv => h (j + 1) v (by simpa using hv))
  | [], _ :: _, hl, _ => by simp at hl
  | _ :: _, [], hl, _ => by simp at hl
/-! list(bytes) -/
abbrev AtB (b : Array UInt8) (i : Nat) (v : Value) : Prop := ∃ c u, b[i]? = some c ∧ v = .int (c.toNat : Int) u
theorem lb_extend {R : Result → Shared → Prop} (hh : A.handled = none) (b : Array UInt8) (t : Tok) (S : Addr) (res : Value) (c₀ : Nat) (hS : s.heap.get? S = some { cls := .type "list", data := .seq #[] c₀ })
    (hR : ∀ h' tk acc' c', (∀ b o, b ≠ S → s.heap.get? b = some o → h'.get? b = some o) → h'.get? S = some { cls := .type "list", dict := none, data := .seq acc' c', slots := #[] } →
      ItemsOf (AtB b) acc' b.size → R (.ok (.ret res)) { s with heap := h', toks := tk }) (hn : b.size ≤ 1000) :
    wpAny (model prog w) A.in1 (Builtin.List.listExtendWith (.ref S) (.bytes b t) res)
      (fun fin s' => match fin with | .done f => R (.ok f) s' | .again c' => c'.quiet = true ∧ codeAny (model prog w) A c' R s') (fun e s' => R (.error e) s') s := by
  have hSI : S ≠ s.heap.objs.size := Nat.ne_of_lt (Heap.lt_size hS)
  have hSf : S ∉ [s.heap.objs.size] := fun hm => hSI (List.mem_singleton.mp hm)
  unfold Builtin.List.listExtendWith
  refine wpAny_bind (wpAny_typeOf (T := "bytes") (v := .bytes b t) rfl ?_)
  have h1 : Builtin.List.listSameRef (.ref S) (.bytes b t) = false := rfl
  have h2 : (Value.type "bytes" == Value.type "list") = false := by decide
  have h3 : (Value.type "bytes" == Value.type "tuple") = false := by decide
  simp only [h1, h2, h3, Bool.or_false, Bool.false_eq_true, if_false]
  refine wpAny_bind (KBw.pyIter_bytes ?_)
  refine wpAny_bind (wpAny_holding ?_)
  unfold Builtin.List.listLengthHint
  refine wpAny_bind (wpAny_specialOf (T := "bytes") (v := .bytes b t) rfl FB.slot_bytes_len.lookup ?_)
  generalize hid : ("bytes.__len__" : String) = id0
  wp_delta
  rw [show splitId id0 = some ("bytes", "__len__") from by subst hid; decide +kernel]
  subst hid
  refine wpAny_bind (wpAny_isInstance (T := "bytes") (v := .bytes b t) (b := true) rfl (by rw [isSubtype_type]; kernel_rfl) ?_)
  refine bm_if_false rfl ?_
  refine bm_if_true (by decide +kernel) ?_
  refine wpAny_bind (wpAny_typeOf (T := "bytes") (v := .bytes b t) rfl ?_)
  refine wpAny_pure ?_
  rw [if_neg (by decide)]
  refine wpAny_pure ⟨plainId_quiet F.plain_extend_loop _, codeAny_extend_loopS (KBw.walks (A := A.in1) hh s.heap.objs.size b t).toS (by rw [sizeLine_eq]; omega) _ hSf _ b.size 0 _ _ _ rfl (Nat.zero_le _) ⟨_, Heap.get?_push_size _ rfl, rfl, rfl⟩ (Heap.get?_push_of_some _ hS) (ItemsOf.nil _) fun s' acc' c' hm hS' hacc => ?_⟩
  rw [Moved.eq_with hm]
  refine hR s'.heap s'.toks acc' c' (fun b ob hb e => hm.heap b ob (fun hmem => ?_) (Heap.get?_push_of_some _ e)) hS' hacc
  rcases List.mem_cons.mp hmem with e' | hmem
  · exact hb e'
  · exact absurd (Heap.lt_size e) (by rw [List.mem_singleton.mp hmem]; exact Nat.lt_irrefl _)
theorem lb_init {R : Result → Shared → Prop} (hh : A.handled = none) (b : Array UInt8) (t : Tok) (S : Addr) (hS : s.heap.get? S = some { cls := .type "list", data := .seq #[] })
    (hR : ∀ h' tk acc' c', (∀ b o, b ≠ S → s.heap.get? b = some o → h'.get? b = some o) → h'.get? S = some { cls := .type "list", dict := none, data := .seq acc' c', slots := #[] } →
      ItemsOf (AtB b) acc' b.size → R (.ok (.ret .none)) { s with heap := h', toks := tk }) (hn : b.size ≤ 1000) :
    wpAny (model prog w) A.in1 (Builtin.«list.__init__» ⟨[.ref S, .bytes b t], []⟩)
      (fun fin s' => match fin with | .done f => R (.ok f) s' | .again c' => c'.quiet = true ∧ codeAny (model prog w) A c' R s') (fun e s' => R (.error e) s') s := by
  show wpAny _ _ (do let old ← Builtin.List.listItems (.ref S); Builtin.List.listUpdate (.ref S) (fun _ => #[]); letGo old.toList.reverse; Builtin.List.listExtendWith (.ref S) (.bytes b t) .none) _ _ s
  refine wpAny_bind ?_
  unfold Builtin.List.listItems
  refine wpAny_bind (wpAny_seqItems hS rfl (wpAny_pure ?_))
  show wpAny _ _ (updateSeq S (fun _ => #[]) >>= fun _ => letGo (#[] : Array Value).toList.reverse >>= fun _ => Builtin.List.listExtendWith (.ref S) (.bytes b t) .none) _ _ s
  refine wpAny_bind (wpAny_updateSeq hS rfl ?_)
  have hS₂ := Heap.get?_update_self (Obj.mapSeq (fun _ => (#[] : Array Value))) hS rfl
  have oth : ∀ b o, b ≠ S → s.heap.get? b = some o → (s.heap.update S (Obj.mapSeq (fun _ => (#[] : Array Value)))).get? b = some o :=
    fun b o hb e => (Heap.get?_update_other _ _ (Ne.symm hb)).trans e
  refine wpAny_bind (wpAny_letGo ?_)
  refine lb_extend (hn := hn) hh b t S .none _ hS₂ fun h' tk acc' c' hk hS' hacc => ?_
  exact hR h' tk acc' c' (fun b o hb e => hk b o hb (oth b o hb e)) hS' hacc
theorem list_bytes {l : List UInt8} {t : Tok} {Q : Value → Shared → Prop} (hh : A.handled = none) (hn : l.length ≤ 1000)
    (h : ∀ h' tk ys, s.heap.StaysIn h' → h'.IsList s.heap.objs.size ys.toArray → IntsAre ys (l.map fun x => (x.toNat : Int)) → Q (.ref s.heap.objs.size) { s with heap := h', toks := tk }) :
    wpAny (model prog w) A (call (.type "list") [.bytes l.toArray t]) Q E s := by
  refine callType_codes (Q₁ := fun obj s₁ => obj = .ref s.heap.objs.size ∧ s₁ = { s with heap := s.heap.push { cls := .type "list", data := .seq #[] } }) F.called_list (F.typeCall_list_1 _) F.entry_list_init
    (code_list_new _ ⟨rfl, rfl⟩) fun obj s₁ h₁ => ?_
  obtain ⟨rfl, rfl⟩ := h₁
  have hS : (s.heap.push { cls := .type "list", data := .seq #[] }).get? s.heap.objs.size = some { cls := .type "list", data := .seq #[] } := Heap.get?_push_size _ rfl
  refine ⟨⟨_, hS, rfl⟩, F.args_list_init_2 _ _, lb_init (A := A.in1) hh l.toArray t _ hS (fun h' tk acc' c' hk hS' hacc => ?_) (by simpa using hn)⟩
  refine ⟨rfl, h h' tk acc'.toList (fun b o e => hk b o (Nat.ne_of_lt (Heap.lt_size e)) (Heap.get?_push_of_some _ e)) ⟨_, hS', rfl, c', by simp⟩ ?_⟩
  refine ints_of ?_ fun j v hv => ?_
  · have := hacc.1
    simpa using this
  · obtain ⟨c, u, hc, rfl⟩ := hacc.2 j v (by simpa using hv)
    have hc' : l[j]? = some c := by simpa using hc
    exact ⟨(c.toNat : Int), u, rfl, by simp [hc']⟩
end
end Mine
end

section
open PySem PySem.W PyProof.Rows PySem.Calls
open PySem.SeqAt (EqAt RcNeAt)
open PySem.AutoSeq1 (wpAny_loadPart')
open PySem.MeetsSeq PySem.MeetsSeq2 PySem.MeetsSeq3
set_option maxRecDepth 100000
set_option maxHeartbeats 1000000
namespace Mine
/-! a row of bytes from its end -/
theorem sliced_rev (l : List UInt8) : Builtin.Bytes.sliced l.toArray ((l.length : Int) - 1) (-1) (-1) = l.reverse.toArray := by
  unfold Builtin.Bytes.sliced
  rw [krv_sliceRange, krv_range, List.filterMap_reverse]
  have := krv_all l.toArray
  rw [List.size_toArray] at this
  rw [this]
theorem meets_rev (l : List UInt8) (t tk : Tok) (a : Addr) (hz : l.length ≤ 1000) :
    Meets (Builtin.«bytes.__getitem__» ⟨[.bytes l.toArray t, .ref a], []⟩) (fun _ R s => s.heap.IsSliceOf a .none .none (.int (-1) tk) ∧ ∀ t' k, R (.ok (.ret (.bytes l.reverse.toArray t'))) { s with toks := k }) := by
  refine .of_wp fun prog w A R s hS => ?_
  obtain ⟨⟨o, ho, hc, hd⟩, h⟩ := hS
  have hT : s.TypeIs (.ref a) "slice" := ⟨o, ho, hc⟩
  show wpAny _ _ (Builtin.Bytes.payload (.bytes l.toArray t) >>= fun r => _) _ _ s
  refine wpAny_bind (wpAny_of_eq (a := l.toArray) rfl ?_)
  show wpAny _ _ (Builtin.Bytes.subscript? (.ref a) >>= fun r => _) _ _ s
  refine wpAny_bind ?_
  unfold Builtin.Bytes.subscript?
  refine wpAny_bind (wpAny_specialOf hT slice_no_index (wpAny_pure ?_))
  refine wpAny_bind (wpAny_typeOf hT ?_)
  show wpAny _ _ (Builtin.Bytes.sliceParts (.ref a) >>= fun r => _) _ _ s
  refine wpAny_bind ?_
  unfold Builtin.Bytes.sliceParts
  refine wpAny_bind (wpAny_field (x := .int (-1) tk) ho hd rfl ?_)
  open PySem.W.KBy in kby_int
  refine wpAny_ite (KBy.ite_no (show ¬ ((Value.int (-1) 0 == rawInt 0) = true) from by decide) ?_)
  refine wpAny_bind (wpAny_field (x := .none) ho hd rfl ?_)
  kby_none
  refine wpAny_bind (wpAny_field (x := .none) ho hd rfl ?_)
  kby_none
  refine wpAny_pure ?_
  have go : wpAny (model prog w) A.in1 (sliceIndices (rawPart none) (rawPart none) (rawPart (some (-1))) l.toArray.size) (fun r s' => r = sliceBounds none none (some (-1)) l.toArray.size ∧ s' = s) (fun _ _ => False) s :=
    wpAny_of_eq (sliceIndices_raw none none (some (-1)) l.toArray.size (by decide)) ⟨rfl, rfl⟩
  refine wpAny_bind (wpAny_mono go (fun r s' hr => ?_) fun _ _ e => e.elim)
  obtain ⟨hr1, hr2⟩ := hr
  subst hr1 hr2
  rw [krv_bounds, List.size_toArray]
  refine wpAny_ite (KBy.ite_no (by simp) ?_)
  rw [sliced_rev]
  exact wpAny_bind (wpAny_mkBytes (wpAny_pure ⟨_, rfl, h _ _⟩) (by rw [sizeLine_eq]; simp; omega))
section
variable {prog : Program} {w : World} {A : Around} {E : Value → Shared → Prop} {s : Shared}
theorem slice_rev {value slice : Expr} {l : List UInt8} {t tk : Tok} {s₀ : Shared} {ops : List Value} {Q : Value → Shared → Prop} (hz : l.length ≤ 1000)
    (h : ∀ h' t' k, s₀.heap.StaysIn h' → Q (.bytes l.reverse.toArray t') { s₀ with heap := h', toks := k })
    (hs : subscripted slice false (.bytes l.toArray t) (.ref s₀.heap.objs.size) = operate ops (getItem (.bytes l.toArray t) (.ref s₀.heap.objs.size)) := by with_unfolding_all rfl)
    (ht : ∀ r, letTemporaryGo value (.bytes l.toArray t) r = pure () := by intro _; with_unfolding_all rfl) :
    wpAny (model prog w) A (subscriptTail value slice (.bytes l.toArray t) (.ref s₀.heap.objs.size)) Q E { s₀ with heap := s₀.heap.push { cls := .type "slice", data := .fields #[.none, .none, .int (-1) tk] } } :=
  tail_of_ItemOn ⟨"bytes", _, FB.slot_bytes_getitem.lookup, typeIs_bytes _ _ _, getItem_meets (typeIs_bytes _ _ _) (by decide) FB.slot_bytes_getitem FB.entry_bytes_getitem (FB.args_bytes_getitem_2 _ _) (meets_rev l t tk _ hz)
    ⟨Heap.IsSliceOf.new _ _ _ _, fun t' k => h _ _ _ (fun b o e => Heap.get?_push_of_some _ e)⟩⟩ hs ht
/-! slices of lists of ints, and sums -/
theorem sub_ops {value slice : Expr} {o i : Value} {T id : String} {ops : List Value} {Q : Value → Shared → Prop} (hT : s.TypeIs o T)
    (hl : typeLookup (.type T) "__getitem__" = pure (some (.builtin id))) (h : wpAny (model prog w) A (getItem o i) Q E s)
    (hs : subscripted slice false o i = operate ops (getItem o i)) : wpAny (model prog w) A (subscriptTail value slice o i) Q E s := by
  unfold subscriptTail
  refine wpAny_bind ?_
  rw [getitemInPython_of_ne hT.not_modules]
  refine wpAny_bind (wpAny_specialOf hT hl ?_)
  have fin : wpAny (model prog w) A (subscripted slice false o i) (fun r s₃ => wpAny (model prog w) A (letTemporaryGo value o r >>= fun _ => pure r) Q E s₃) E s := by
    rw [hs]
    exact wpAny_operating (wpAny_mono h (fun r s₃ h₃ => wpAny_bind (wpAny_letTemporaryGo (wpAny_pure h₃))) fun _ _ x => x)
  first
    | exact wpAny_pure (wpAny_bind fin)
    | exact wpAny_bind (wpAny_pure (wpAny_bind fin))
    | exact wpAny_bind fin
theorem slice_I {value slice : Expr} {l : Addr} {vs : List Value} {ns : List Int} {vl vu vk : Value} {lo hi st : Option Int} {s₀ : Shared} {ops : List Value} {Q : Value → Shared → Prop}
    (hl : s₀.heap.IsList l vs.toArray) (hi' : IntsAre vs ns) (pl : IsPart vl lo) (pu : IsPart vu hi) (pk : IsPart vk st) (h0 : st ≠ some 0) (hz : ns.length ≤ 1000)
    (h : ∀ D us h', s₀.heap.objs.size ≤ D → h'.PlainList D us.toArray → IntsAre us (pickNums ns lo hi st) → s₀.heap.StaysIn h' → Q (.ref D) { s₀ with heap := h' })
    (hs : subscripted slice false (.ref l) (.ref s₀.heap.objs.size) = operate ops (getItem (.ref l) (.ref s₀.heap.objs.size)) := by with_unfolding_all rfl) :
    wpAny (model prog w) A (subscriptTail value slice (.ref l) (.ref s₀.heap.objs.size)) Q E { s₀ with heap := s₀.heap.push { cls := .type "slice", data := .fields #[vl, vu, vk] } } := by
  refine sub_ops (Heap.IsList.typeIs (s := { s₀ with heap := s₀.heap.push { cls := .type "slice", data := .fields #[vl, vu, vk] } }) (hl.push _)) list_getitem_lookup
    (wpAny_getItem_list_slice (hl.push _) (Heap.IsSliceOf.new ..) pl pu pk h0 ?_ (by rw [List.size_toArray, hi'.length, sizeLine_eq]; omega)) hs
  refine h _ (slicePick vs.toArray lo hi st).toList _ (by dsimp only; rw [Heap.size_push]; exact Nat.le_succ _) ⟨0, ?_⟩ (hi'.pick lo hi st) fun b o e => Heap.get?_push_of_some _ (Heap.get?_push_of_some _ e)
  rw [Array.toArray_toList]
  exact Heap.get?_push_size _ rfl
theorem sum_I {l : Addr} {vs : List Value} {ns : List Int} {Q : Value → Shared → Prop} (hh : A.handled = none) (hl : s.heap.IsList l vs.toArray) (hi : IntsAre vs ns)
    (h : ∀ h' tk t', s.heap.StaysIn h' → Q (.int ns.sum t') { s with heap := h', toks := tk }) : wpAny (model prog w) A (call (.builtin "sum") [.ref l]) Q E s := by
  obtain ⟨xs, hx⟩ := hi.allInts.items
  have hl' : s.heap.IsList l (intItems xs) := hx ▸ hl
  refine sum_intListG hh hl' fun h' tk t' hk => ?_
  have e1 : ns = xs.toList.map (·.1) := by
    rw [← nums_intItems, ← hx]
    exact (show numsOf vs.toArray.toList = ns from hi.numsOf).symm
  have e2 : preSum (numAt xs) xs.size = ns.sum := by
    rw [preSum_eq, List.take_of_length_le (by simp), e1]
  rw [e2]
  exact h h' tk t' hk
end
theorem ints_one : ∀ {vs : List Value} {ns ms : List Int}, IntsAre vs ns → IntsAre vs ms → ns = ms
  | _, _, _, .nil, .nil => rfl
  | _, _, _, .cons n t h, .cons _ _ h' => by rw [ints_one h h']
theorem ints_any : ∀ ns : List Int, ∃ vs, IntsAre vs ns
  | [] => ⟨[], .nil⟩
  | n :: ns => let ⟨vs, h⟩ := ints_any ns; ⟨.int n 0 :: vs, .cons n 0 h⟩
theorem pick_take (ns : List Int) (n : Nat) : pickNums ns none (some (n : Int)) none = ns.take n := by
  obtain ⟨vs, h⟩ := ints_any ns
  have := ints_one (h.pick none (some (n : Int)) none) (slice_ints_uptoW h (by omega))
  rwa [Int.toNat_natCast] at this
theorem pick_drop (ns : List Int) (n : Nat) : pickNums ns (some (n : Int)) none none = ns.drop n := by
  obtain ⟨vs, h⟩ := ints_any ns
  have := ints_one (h.pick (some (n : Int)) none none) (slice_ints_fromW h (by omega))
  rwa [Int.toNat_natCast] at this
theorem pick_le (ns : List Int) (lo hi st : Option Int) : (pickNums ns lo hi st).length ≤ ns.length := by
  obtain ⟨vs, h⟩ := ints_any ns
  exact length_pickNums_le h lo hi st
end Mine
end

section
open PySem PySem.W PyProof.Rows PySem.Calls
open PySem.SeqAt (EqAt RcNeAt)
open PySem.AutoSeq1 (wpAny_loadPart')
open PySem.MeetsSeq PySem.MeetsSeq2 PySem.MeetsSeq3
set_option maxRecDepth 100000
set_option maxHeartbeats 1000000
namespace Mine
/-! two lists whose items are equal, each to each: neither is less -/
theorem lt_loop (l b : Addr) (items items2 : Array Value) (n n2 : Nat) (dd dd2 : Option Addr) (sl sl2 : Array (Option Value)) (hsz : items.size = items2.size) (k : Nat) :
    ∀ i : Nat, items.size - i = k → Meets (Builtin.«list.__eq__.loop» ⟨[.ref l, .ref b, rawInt i, rawInt 0], []⟩)
      (fun A R s => s.heap.get? l = some { cls := .type "list", dict := dd, data := .seq items n, slots := sl } ∧ s.heap.get? b = some { cls := .type "list", dict := dd2, data := .seq items2 n2, slots := sl2 } ∧
        (∀ j (h1 : j < items.size) (h2 : j < items2.size), EqAt A.in1 s items[j] items2[j] true) ∧
        R (.ok (.ret (.bool false))) s) := by
  induction k with
  | zero =>
    intro i hk prog w A R s h
    obtain ⟨hp, g, d, tk, os⟩ := s; obtain ⟨hl, hb, he, h⟩ := h
    wp_walk using wpAny_loadPart' hl, wpAny_loadPart' hb
    have hi1 : items[((i : Nat) : Int).toNat]? = none := by simp; omega
    have hi2 : items2[((i : Nat) : Int).toNat]? = none := by simp; omega
    rw [hi1, hi2]
    wp_walk using wpAny_loadPart' hl, wpAny_loadPart' hb
    show R (.ok (.ret (.bool (decide (items.size < items2.size))))) _
    rw [hsz]
    simpa using h
  | succ k ih =>
    intro i hk prog w A R s h
    obtain ⟨hp, g, d, tk, os⟩ := s; obtain ⟨hl, hb, he, h⟩ := h
    wp_walk using wpAny_loadPart' hl, wpAny_loadPart' hb
    have hlt : i < items.size := by omega
    have hlt2 : i < items2.size := by omega
    have hi1 : items[((i : Nat) : Int).toNat]? = some items[i] := by simp [hlt]
    have hi2 : items2[((i : Nat) : Int).toNat]? = some items2[i] := by simp [hlt2]
    have hc : ((i : Int) + 1) = ((i + 1 : Nat) : Int) := by push_cast; rfl
    rw [hi1, hi2]
    refine wpAny_bind (he i hlt hlt2 prog w _ _ ?_)
    wp_walk
    rw [hc]
    exact ⟨plainId_quiet plain_eq_loop _, codeAny_builtin entry_eq_loop (by
      rw [Around.under_plainId plain_eq_loop _]
      exact ih (i + 1) (by omega) prog w A R _ ⟨hl, hb, he, h⟩)⟩
theorem lt_at (l b : Addr) (items items2 : Array Value) (n n2 : Nat) (dd dd2 : Option Addr) (sl sl2 : Array (Option Value)) (hsz : items.size = items2.size) :
    Meets (Builtin.«list.__lt__» ⟨[.ref l, .ref b], []⟩)
      (fun A R s => s.heap.get? l = some { cls := .type "list", dict := dd, data := .seq items n, slots := sl } ∧ s.heap.get? b = some { cls := .type "list", dict := dd2, data := .seq items2 n2, slots := sl2 } ∧
        (∀ j (h1 : j < items.size) (h2 : j < items2.size), EqAt A.in1 s items[j] items2[j] true) ∧
        R (.ok (.ret (.bool false))) s) := by
  intro prog w A R s h
  obtain ⟨hp, g, d, tk, os⟩ := s; obtain ⟨hl, hb, he, h⟩ := h
  have f3 := AutoSeq1.sub_list_list
  wp_walk using wpAny_loadPart' hl, wpAny_loadPart' hb
  exact ⟨plainId_quiet plain_eq_loop _, codeAny_builtin entry_eq_loop (by
    rw [Around.under_plainId plain_eq_loop _]
    exact lt_loop l b items items2 n n2 dd dd2 sl sl2 hsz _ 0 rfl prog w A R _ ⟨hl, hb, he, h⟩)⟩
theorem lt_lists {prog : Program} {w : World} {A : Around} {E : Value → Shared → Prop} {s : Shared} {l b : Addr} {items items2 : Array Value} {Q : Value → Shared → Prop} (hl : s.heap.IsList l items) (hb : s.heap.IsList b items2) (hsz : items.size = items2.size) (hu : A.units < cLine)
    (he : ∀ j (h1 : j < items.size) (h2 : j < items2.size), EqAt A.in1 s items[j] items2[j] true) (h : Q (.bool false) s) : wpAny (model prog w) A (compareOp .Lt (.ref l) (.ref b)) Q E s := by
  obtain ⟨⟨cls, dd, data, sl⟩, ho, hc, n, hd⟩ := id hl
  obtain ⟨⟨cls2, dd2, data2, sl2⟩, ho2, hc2, n2, hd2⟩ := id hb
  simp only at hc hd hc2 hd2
  subst hc hd hc2 hd2
  exact richCompare_meets_room (op := .Lt) ⟨_, ho, rfl⟩ ⟨_, ho2, rfl⟩ F.slot_list_lt F.entry_list_lt (F.args_list_lt_2 _ _) (lt_at l b items items2 n n2 dd dd2 sl sl2 hsz)
    ⟨ho, ho2, he, show Value.bool false ≠ Value.notImplemented ∧ Q (.bool false) s from ⟨(fun x => nomatch x), h⟩⟩ hu

theorem gt_loop (l b : Addr) (items items2 : Array Value) (n n2 : Nat) (dd dd2 : Option Addr) (sl sl2 : Array (Option Value)) (hsz : items.size = items2.size) (k : Nat) :
    ∀ i : Nat, items.size - i = k → Meets (Builtin.«list.__eq__.loop» ⟨[.ref l, .ref b, rawInt i, rawInt 4], []⟩)
      (fun A R s => s.heap.get? l = some { cls := .type "list", dict := dd, data := .seq items n, slots := sl } ∧ s.heap.get? b = some { cls := .type "list", dict := dd2, data := .seq items2 n2, slots := sl2 } ∧
        (∀ j (h1 : j < items.size) (h2 : j < items2.size), EqAt A.in1 s items[j] items2[j] true) ∧
        R (.ok (.ret (.bool false))) s) := by
  induction k with
  | zero =>
    intro i hk prog w A R s h
    obtain ⟨hp, g, d, tk, os⟩ := s; obtain ⟨hl, hb, he, h⟩ := h
    wp_walk using wpAny_loadPart' hl, wpAny_loadPart' hb
    have hi1 : items[((i : Nat) : Int).toNat]? = none := by simp; omega
    have hi2 : items2[((i : Nat) : Int).toNat]? = none := by simp; omega
    rw [hi1, hi2]
    wp_walk using wpAny_loadPart' hl, wpAny_loadPart' hb
    show R (.ok (.ret (.bool (decide (items.size > items2.size))))) _
    rw [hsz]
    simpa using h
  | succ k ih =>
    intro i hk prog w A R s h
    obtain ⟨hp, g, d, tk, os⟩ := s; obtain ⟨hl, hb, he, h⟩ := h
    wp_walk using wpAny_loadPart' hl, wpAny_loadPart' hb
    have hlt : i < items.size := by omega
    have hlt2 : i < items2.size := by omega
    have hi1 : items[((i : Nat) : Int).toNat]? = some items[i] := by simp [hlt]
    have hi2 : items2[((i : Nat) : Int).toNat]? = some items2[i] := by simp [hlt2]
    have hc : ((i : Int) + 1) = ((i + 1 : Nat) : Int) := by push_cast; rfl
    rw [hi1, hi2]
    refine wpAny_bind (he i hlt hlt2 prog w _ _ ?_)
    wp_walk
    rw [hc]
    exact ⟨plainId_quiet plain_eq_loop _, codeAny_builtin entry_eq_loop (by
      rw [Around.under_plainId plain_eq_loop _]
      exact ih (i + 1) (by omega) prog w A R _ ⟨hl, hb, he, h⟩)⟩
theorem gt_at (l b : Addr) (items items2 : Array Value) (n n2 : Nat) (dd dd2 : Option Addr) (sl sl2 : Array (Option Value)) (hsz : items.size = items2.size) :
    Meets (Builtin.«list.__gt__» ⟨[.ref l, .ref b], []⟩)
      (fun A R s => s.heap.get? l = some { cls := .type "list", dict := dd, data := .seq items n, slots := sl } ∧ s.heap.get? b = some { cls := .type "list", dict := dd2, data := .seq items2 n2, slots := sl2 } ∧
        (∀ j (h1 : j < items.size) (h2 : j < items2.size), EqAt A.in1 s items[j] items2[j] true) ∧
        R (.ok (.ret (.bool false))) s) := by
  intro prog w A R s h
  obtain ⟨hp, g, d, tk, os⟩ := s; obtain ⟨hl, hb, he, h⟩ := h
  have f3 := AutoSeq1.sub_list_list
  wp_walk using wpAny_loadPart' hl, wpAny_loadPart' hb
  exact ⟨plainId_quiet plain_eq_loop _, codeAny_builtin entry_eq_loop (by
    rw [Around.under_plainId plain_eq_loop _]
    exact gt_loop l b items items2 n n2 dd dd2 sl sl2 hsz _ 0 rfl prog w A R _ ⟨hl, hb, he, h⟩)⟩
theorem gt_lists {prog : Program} {w : World} {A : Around} {E : Value → Shared → Prop} {s : Shared} {l b : Addr} {items items2 : Array Value} {Q : Value → Shared → Prop} (hl : s.heap.IsList l items) (hb : s.heap.IsList b items2) (hsz : items.size = items2.size) (hu : A.units < cLine)
    (he : ∀ j (h1 : j < items.size) (h2 : j < items2.size), EqAt A.in1 s items[j] items2[j] true) (h : Q (.bool false) s) : wpAny (model prog w) A (compareOp .Gt (.ref l) (.ref b)) Q E s := by
  obtain ⟨⟨cls, dd, data, sl⟩, ho, hc, n, hd⟩ := id hl
  obtain ⟨⟨cls2, dd2, data2, sl2⟩, ho2, hc2, n2, hd2⟩ := id hb
  simp only at hc hd hc2 hd2
  subst hc hd hc2 hd2
  exact richCompare_meets_room (op := .Gt) ⟨_, ho, rfl⟩ ⟨_, ho2, rfl⟩ F.slot_list_gt F.entry_list_gt (F.args_list_gt_2 _ _) (gt_at l b items items2 n n2 dd dd2 sl sl2 hsz)
    ⟨ho, ho2, he, show Value.bool false ≠ Value.notImplemented ∧ Q (.bool false) s from ⟨(fun x => nomatch x), h⟩⟩ hu

/-- two lists of rows of bytes that are alike -/
theorem ne_lists {prog : Program} {w : World} {A : Around} {E : Value → Shared → Prop} {s : Shared} {l b : Addr} {items items2 : Array Value} {Q : Value → Shared → Prop} (hl : s.heap.IsList l items) (hb : s.heap.IsList b items2) (hsz : items.size = items2.size) (hu : A.units < cLine)
    (he : ∀ j (h1 : j < items.size) (h2 : j < items2.size), EqAt A.in1 s items[j] items2[j] true) (h : Q (.bool false) s) : wpAny (model prog w) A (compareOp .NotEq (.ref l) (.ref b)) Q E s := by
  have e : (!(List.range items.size).all fun _ => true) = false := by simp
  exact RcNeAt.lists (e := fun _ => true) hl hb hsz hu he prog w E Q (by rw [e]; exact h)
end Mine
end

section
open PySem
namespace Mine
/-! the plain law, its end -/
theorem putAll_blocks {a b c : List UInt8} (ha : a.length = 5) (hb : b.length = 5) (hc : c.length = 5) : putAll (a ++ b ++ c) 3 = a.reverse ++ b.reverse ++ c.reverse := by
  obtain ⟨a0, a1, a2, a3, a4, rfl⟩ := five ha
  obtain ⟨b0, b1, b2, b3, b4, rfl⟩ := five hb
  obtain ⟨c0, c1, c2, c3, c4, rfl⟩ := five hc
  rfl
theorem runL_append (a b : List Int) (r : List UInt8) : runL (a ++ b) r = runL b (runL a r) := by
  unfold runL; rw [List.foldl_append]
theorem stepL_mem : ∀ (k : Nat) (r : List UInt8) (x : UInt8), x ∈ stepL k r → x ∈ r
  | 0, [], _, h => h
  | 0, [_], _, h => h
  | 0, a :: b :: r, x, h => by
    unfold stepL at h
    split at h
    · simp only [List.mem_cons] at h ⊢
      rcases h with h | h | h
      · exact .inr (.inl h)
      · exact .inl h
      · exact .inr (.inr h)
    · exact h
  | _ + 1, [], _, h => h
  | k + 1, a :: r, x, h => by
    simp only [stepL, List.mem_cons] at h ⊢
    rcases h with h | h
    · exact .inl h
    · exact .inr (stepL_mem k r x h)
theorem runL_mem : ∀ (ns : List Int) (r : List UInt8) (x : UInt8), x ∈ runL ns r → x ∈ r
  | [], _, _, h => h
  | k :: ns, r, x, h => stepL_mem _ _ _ (runL_mem ns (stepL k.toNat r) x h)
theorem byteArr_nat (l : List UInt8) : byteArr (l.map fun x => (x.toNat : Int)) = l.toArray := by
  unfold byteArr
  rw [List.map_map]
  congr 1
  conv => rhs; rw [← List.map_id l]
  exact List.map_congr_left fun x _ => by simp
theorem fall_is : fallRow = falling := rfl
/-- what comes due -/
theorem due_is {ns : List Int} {r : List UInt8} (hn : ∀ n ∈ ns, 0 ≤ n ∧ n < 4) (hr : r.length = 5) (h6 : ∀ x ∈ r, x.toNat ≤ 6) : byteArr (due r (runP ns paths0)) = (runL ns r).toArray := by
  rw [due_run ns r hn hr (fun x hx => h6 x (runL_mem ns r x hx)) ((runL_length _ _).trans hr), byteArr_nat]
theorem off_ok {ns : List Int} (hn : ∀ n ∈ ns, 0 ≤ n ∧ n < 4) : (∀ n ∈ readOff (runL ns falling), 0 ≤ n ∧ n < 4) ∧ ∀ r : List UInt8, r.length = 5 → runL (readOff (runL ns falling)) r = runL ns r := by
  obtain ⟨h1, h2⟩ := off_row (runL_perm ns falling)
  exact ⟨h2, fun r hr => same_net h2 hn h1 r hr⟩
end Mine
end

section
open PySem PySem.W PyProof.Rows PySem.Calls
open PySem.Sem (wp)
open PySem.SeqAt (EqAt RcNeAt)
set_option maxRecDepth 100000
set_option maxHeartbeats 2000000
namespace Mine
section
variable {M : Model} {A : Around} {E : Value → Shared → Prop} {s : Shared} {env : Env}
theorem N_IfN {test body orelse pos} {Q : Flow → Shared → Prop}
    (h : wpN M A (isTrue test env (eval test env)) (fun b s₂ => if b then wpN M A (execs body env) Q s₂ else wpN M A (execs orelse env) Q s₂) s) :
    wpN M A (exec (.If test body orelse pos) env) Q s := by
  rw [exec_If]
  refine wpC_bind (wpC_of (wpAny_standAt (wpC_bind (wpC_mono h (fun b s₂ h₂ => ?_) fun _ _ x => x))))
  cases b <;> exact h₂
theorem N_isTrue_BoolOp {op : BoolOp} {values : List Expr} {pos : Pos} {whole : Sem Value} {Q : Bool → Shared → Prop} (h : wpN M A (allTrue op values env) Q s) :
    wpN M A (isTrue (.BoolOp op values pos) env whole) Q s := by rw [arm_isTrue_BoolOp]; exact h
theorem N_Or_nil {Q : Bool → Shared → Prop} (h : Q false s) : wpN M A (allTrue .Or [] env) Q s := wpC_pure h
theorem N_Or_cons {x : Expr} {rest : List Expr} {Q : Bool → Shared → Prop}
    (h : wpN M A (isTrue x env (eval x env)) (fun b s₁ => if b then Q true s₁ else wpN M A (allTrue .Or rest env) Q s₁) s) : wpN M A (allTrue .Or (x :: rest) env) Q s := by
  show wpC M A (do match BoolOp.Or, ← isTrue x env (eval x env) with | .And, false => pure false | .Or, true => pure true | _, _ => allTrue .Or rest env) Q _ s
  refine wpC_bind (wpC_mono h (fun b s₁ h₁ => ?_) fun _ _ x => x)
  cases b
  · exact h₁
  · exact wpC_pure h₁
theorem N_isTrue_Compare1 {l op r pos whole} {Q : Bool → Shared → Prop}
    (h : wpN M A (eval l env) (fun a s₁ => wpN M A (eval r env) (fun b s₂ => wpN M A (compareOp op a b) (fun c s₃ => wpN M A (truthy c) Q s₃) s₂) s₁) s)
    (hm : behindInMarks op r = false := by with_unfolding_all rfl) : wpN M A (isTrue (.Compare l [op] [r] pos) env whole) Q s := fun Γ p hΓ hk => by
  simp only [isTrue_Compare1, markedBehindIn_of_false hm, Sem.wp_bind', Sem.wp_holding, Sem.wp_cmd_standAt, Sem.wp_operate]
  exact Sem.wp_mono M Γ _ (fun a p₁ s₁ h₁ => Sem.wp_mono M Γ _ (fun b _ s₂ h₂ => Sem.wp_mono M Γ _ (fun c p₃ s₃ h₃ => h₃ Γ p₃ hΓ hk)
    (fun _ _ _ h' => h') _ _ (h₂ Γ _ hΓ hk)) (fun _ _ _ h' => h') _ _ (h₁ Γ p₁ hΓ hk)) (fun _ _ _ h' => h') _ _ (h Γ p hΓ hk)
theorem isTrue_Call {f : Expr} {args : List Expr} {kw : List Keyword} {pos : Pos} {whole : Sem Value} {Q : Bool → Shared → Prop} (h : wpAny M A whole (fun v s₁ => wpAny M A (truthy v) Q E s₁) E s) :
    wpAny M A (isTrue (.Call f args kw pos) env whole) Q E s := by
  show wpAny M A (whole >>= fun v => standAt (Expr.Call f args kw pos).pos >>= fun _ => holding [v] (truthy v)) Q E s
  exact wpAny_bind (wpAny_mono h (fun v s₁ h₁ => wpAny_bind (wpAny_standAt (wpAny_holding h₁))) fun _ _ x => x)
end
/-- three_way_cmp of two lists whose items are alike -/
theorem tw_lists {w : World} {dp un : Nat} {gd : Option (List Code)} {outer : List Env} {base : Heap} {mean : Mn} {mg mb : Nm} {s : Shared} {Q E : Value → Shared → Prop} {a b : Addr} {as bs : Array Value}
    (O : Ok w mean mg mb base outer s.heap) (hd : dp + 1 < recursionLimit) (hu : un + 80 < cLine) (ha : s.heap.IsList a as) (hb : s.heap.IsList b bs) (hsz : as.size = bs.size)
    (he : ∀ (A : Around) (s' : Shared), s.heap.StaysIn s'.heap → A.units + 72 < cLine → ∀ j (h1 : j < as.size) (h2 : j < bs.size), EqAt A s' as[j] bs[j] true)
    (hret : ∀ t h' tk', s.heap.StaysIn h' → Q (.int 0 t) { s with heap := h', toks := tk' }) :
    wpAny (model PR w) (Ar dp un gd outer) (call (.ref 37) [.ref a, .ref b]) Q E s := by
  refine wpAny_call ?_
  refine' enterP O ?k6 ?k7 ?k8 ?k9 ?kB ?_ ?c2 ?c3 ?c4 ?c5
  case k6 => k_is
  case k7 => k_is
  case k8 => ktr_room
  case k9 => exact BindsTo.of_eq rfl
  case c5 => decide
  case kB => exact locs rfl
  case c2 => exact rfl
  case c3 => exact rfl
  case c4 => exact rfl
  intro L' h₁ hL F N B X T
  try dsimp only
  have ha1 : h₁.IsList a as := stays_list F.keep ha
  have hb1 : h₁.IsList b bs := stays_list F.keep hb
  refine wpAny_execs_cons (wpAny_Return_some (wpAny_BinOp (wpAny_Compare1 (ld F rfl (ld F rfl ?_)))))
  refine gt_lists ha1 hb1 hsz (by ktr_units) (he _ _ F.keep ?_) ?_
  · ktr_units
  refine wpAny_Compare1 (ld F rfl (ld F rfl ?_))
  refine lt_lists ha1 hb1 hsz (by ktr_units) (he _ _ F.keep ?_) ?_
  · ktr_units
  refine sub_bool ?_
  exact hret _ _ _ F.keep
end Mine
end

section
open PySem PySem.W PyProof.Rows PySem.Calls
set_option maxRecDepth 100000
set_option maxHeartbeats 2000000
namespace Mine
/-! lists of rows of bytes -/
inductive BytesAre : List Value → List (List UInt8) → Prop
  | nil : BytesAre [] []
  | cons {vs : List Value} {rs : List (List UInt8)} (r : List UInt8) (t : Tok) (h : BytesAre vs rs) : BytesAre (.bytes r.toArray t :: vs) (r :: rs)
theorem BytesAre.length : ∀ {vs : List Value} {rs : List (List UInt8)}, BytesAre vs rs → vs.length = rs.length
  | _, _, .nil => rfl
  | _, _, .cons _ _ h => by simp [BytesAre.length h]
theorem BytesAre.at : ∀ {vs : List Value} {rs : List (List UInt8)}, BytesAre vs rs → ∀ (i : Nat) (v : Value), vs[i]? = some v → ∃ r t, v = .bytes r.toArray t ∧ rs[i]? = some r
  | _, _, .nil, _, _, h => by simp at h
  | _, _, .cons r t _, 0, _, h => ⟨r, t, (Option.some.inj h).symm, rfl⟩
  | _, _, .cons _ _ h', i + 1, v, h => BytesAre.at h' i v h
theorem BytesAre.snoc : ∀ {vs : List Value} {rs : List (List UInt8)} {r : List UInt8} {t : Tok}, BytesAre vs rs → BytesAre (vs ++ [.bytes r.toArray t]) (rs ++ [r])
  | _, _, _, _, .nil => .cons _ _ .nil
  | _, _, _, _, .cons _ _ h => .cons _ _ (BytesAre.snoc h)
theorem BytesAre.at2 {vs us : List Value} {rs : List (List UInt8)} (h : BytesAre vs rs) (h' : BytesAre us rs) (s : Shared) (A : Around) (j : Nat) (h1 : j < vs.toArray.size) (h2 : j < us.toArray.size) : SeqAt.EqAt A s vs.toArray[j] us.toArray[j] true := by
  have h1' : j < vs.length := by simpa using h1
  have h2' : j < us.length := by simpa using h2
  obtain ⟨r, t, e, q⟩ := h.at j vs[j] (List.getElem?_eq_getElem h1')
  obtain ⟨r', t', e', q'⟩ := h'.at j us[j] (List.getElem?_eq_getElem h2')
  rw [q] at q'
  cases q'
  rw [List.getElem_toArray, List.getElem_toArray, e, e']
  exact eqAt_bytes rfl
theorem ListsAt.obj {lo : Nat} {h : Heap} {as : List Addr} {ps : List (List Int)} (x : ListsAt lo h as ps) : ∀ a ∈ as, ∃ o, h.get? a = some o := fun a ha => by
  obtain ⟨j, hj⟩ := List.mem_iff_getElem?.mp ha
  obtain ⟨p, hp⟩ : ∃ p, ps[j]? = some p := by
    have : j < as.length := (List.getElem?_eq_some_iff.mp hj).1
    exact ⟨ps[j]'(x.1 ▸ this), List.getElem?_eq_getElem _⟩
  obtain ⟨vs, hl, _⟩ := x.2.2.2 j a p hj hp
  obtain ⟨o, e, _⟩ := hl
  exact ⟨o, e⟩
section
variable {c : Bool} {prog : Program} {w : World} {A : Around} {elt : Expr} {cenv : Env} {s₂ : Shared} {hi : Nat} {EV : Value → Heap → Prop} {I : Addr} {fp wr : List Addr} {n : Nat} {P : Nat → Value → Prop} {St : Nat → Heap → Prop} {rs : List (List UInt8)}
theorem take_map_succ {β : Type} {g : List UInt8 → β} {i : Nat} {r : List UInt8} (h : rs[i]? = some r) : (rs.take (i + 1)).map g = (rs.take i).map g ++ [g r] := by
  rw [List.take_add_one, h]; simp
/-- a block over rows of bytes whose elements are bytes -/
theorem obRowsB (g : List UInt8 → List UInt8) (W : Walks prog w A I fp wr n P St) (hst : St 0 s₂.heap) (hfp : ∀ b ∈ fp, b < s₂.heap.objs.size) (few : n ≤ 1000)
    (hP : ∀ i v, P i v → ∃ r t, v = .bytes r.toArray t ∧ rs[i]? = some r)
    (elts : ∀ (i : Nat) (r : List UInt8) (t : Tok) (h : Heap) (tk : Nat), rs[i]? = some r → EV (.bytes r.toArray t) h → hi ≤ h.objs.size → (∀ b o, b ∉ wr → s₂.heap.get? b = some o → h.get? b = some o) →
      wpG c (model prog w) A (eval elt cenv) (fun y s₅ => Keeps { s₂ with heap := h, toks := tk } s₅ ∧ ∃ t, y = .bytes (g r).toArray t) { s₂ with heap := h, toks := tk }) :
    Ob c prog w A [] elt cenv s₂ hi EV I wr n (fun i ys _ => BytesAre ys ((rs.take i).map g)) where
  iter := ⟨fp, P, St, W, hst, hfp, fun i v ys h tk hlt hPi hE hk hsz hkeep => by
    obtain ⟨r, t, rfl, hr⟩ := hP i v hPi
    refine T_nil ⟨⟨h, tk, rfl, fun _ _ e => e⟩, ?_⟩
    rw [if_pos rfl]
    refine G_mono (elts i r t h tk hr hE hsz hkeep) fun y s₅ h₅ => ⟨h₅.1, ?_⟩
    obtain ⟨_, t', rfl⟩ := h₅
    rw [take_map_succ hr]
    exact hk.snoc⟩
  few := by rw [sizeLine_eq]; omega
  stable := fun _ _ _ _ h _ => h
  start := fun _ => .nil
/-- a block over rows of bytes whose elements are new lists of ints -/
theorem obRowsL (g : List UInt8 → List Int) (W : Walks prog w A I fp wr n P St) (hst : St 0 s₂.heap) (hfp : ∀ b ∈ fp, b < s₂.heap.objs.size) (few : n ≤ 1000) (hhi : s₂.heap.objs.size ≤ hi) (hwr : ∀ b ∈ wr, b < s₂.heap.objs.size)
    (hP : ∀ i v, P i v → ∃ r t, v = .bytes r.toArray t ∧ rs[i]? = some r)
    (elts : ∀ (i : Nat) (r : List UInt8) (t : Tok) (h : Heap) (tk : Nat), rs[i]? = some r → EV (.bytes r.toArray t) h → hi ≤ h.objs.size → (∀ b o, b ∉ wr → s₂.heap.get? b = some o → h.get? b = some o) →
      wpG c (model prog w) A (eval elt cenv) (fun y s₅ => Keeps { s₂ with heap := h, toks := tk } s₅ ∧ ∃ a us, y = .ref a ∧ hi ≤ a ∧ (∀ b o, h.get? b = some o → b < a) ∧ s₅.heap.IsList a us.toArray ∧ IntsAre us (g r)) { s₂ with heap := h, toks := tk }) :
    Ob c prog w A [] elt cenv s₂ hi EV I wr n (fun i ys h => ∃ as : List Addr, ys = as.map Value.ref ∧ ListsAt hi h as ((rs.take i).map g)) where
  iter := ⟨fp, P, St, W, hst, hfp, fun i v ys h tk hlt hPi hE hk hsz hkeep => by
    obtain ⟨as, rfl, hA⟩ := hk
    obtain ⟨r, t, rfl, hr⟩ := hP i v hPi
    refine T_nil ⟨⟨h, tk, rfl, fun _ _ e => e⟩, ?_⟩
    rw [if_pos rfl]
    refine G_mono (elts i r t h tk hr hE hsz hkeep) fun y s₅ h₅ => ⟨h₅.1, ?_⟩
    obtain ⟨⟨h5, tk5, rfl, k5⟩, a, us, rfl, hle, hlt', hus, hg⟩ := h₅
    refine ⟨as ++ [a], by simp, ?_⟩
    rw [take_map_succ hr]
    exact ListsAt.snoc (vs := us) (hA.stable fun b o _ e => k5 b o e) (fun b hb => by obtain ⟨o, e⟩ := hA.obj b hb; exact hlt' b o e) hle hus hg⟩
  few := by rw [sizeLine_eq]; omega
  stable := fun i ys h h' hk k => by
    obtain ⟨as, e, hA⟩ := hk
    exact ⟨as, e, hA.stable fun b o q e => k b o (fun z => Nat.not_lt.mpr (Nat.le_trans hhi q) (hwr b z)) (.inr q) e⟩
  start := fun _ => ⟨[], rfl, .nil⟩
end
/-- the reckoning of the law -/
noncomputable def netI (hs : List Int) : List Int := (List.range (min 10 hs.length)).map fun k : Nat => (pickNums hs (some (k : Int)) none (some 10)).sum.fmod 4
noncomputable def firstI : List Int := [6, 3, 5, 3, 0]
noncomputable def rowI (hs : List Int) : List Int := (List.range 5).map fun k : Nat => (firstI.getD k 0 + (pickNums hs (some (k : Int)) none (some 5)).sum).fmod 7
noncomputable def netOf (hs : List Int) : List Int := pickNums (netI hs ++ [1, 0, 2, 3, 1]) none (some 10) none
noncomputable def rowOf (hs : List Int) : List UInt8 := (rowI hs).map fun n => n.toNat.toUInt8
theorem netI_len (hs : List Int) : (netI hs).length ≤ 10 := by
  unfold netI; rw [List.length_map, List.length_range]; omega
theorem net_ok (hs : List Int) : ∀ n ∈ netOf hs, 0 ≤ n ∧ n < 4 := by
  intro n hn
  unfold netOf at hn
  rw [show (10 : Int) = ((10 : Nat) : Int) from rfl, pick_take] at hn
  rcases List.mem_append.mp (List.mem_of_mem_take hn) with h | h
  · obtain ⟨k, _, rfl⟩ := List.mem_map.mp h
    exact ⟨Int.fmod_nonneg_of_pos _ (by decide), Int.fmod_lt_of_pos _ (by decide)⟩
  · simp at h
    omega
theorem net_len (hs : List Int) : (netOf hs).length ≤ 15 := by
  refine Nat.le_trans (pick_le _ _ _ _) ?_
  rw [List.length_append]
  have := netI_len hs
  simp only [List.length_cons, List.length_nil]
  omega
theorem rowI_len (hs : List Int) : (rowI hs).length = 5 := by simp [rowI]
theorem rowI_ok (hs : List Int) : ∀ n ∈ rowI hs, 0 ≤ n ∧ n < 7 := by
  intro n hn
  obtain ⟨k, _, rfl⟩ := List.mem_map.mp hn
  exact ⟨Int.fmod_nonneg_of_pos _ (by decide), Int.fmod_lt_of_pos _ (by decide)⟩
theorem row_len (hs : List Int) : (rowOf hs).length = 5 := by simp [rowOf, rowI_len]
theorem row_ok (hs : List Int) : ∀ x ∈ rowOf hs, x.toNat ≤ 6 := by
  intro x hx
  obtain ⟨n, hn, rfl⟩ := List.mem_map.mp hx
  obtain ⟨h0, h1⟩ := rowI_ok hs n hn
  have : n.toNat < 256 := by omega
  show (n.toNat.toUInt8).toNat ≤ 6
  have e : (n.toNat.toUInt8).toNat = n.toNat % 256 := by simp
  rw [e]
  omega
end Mine
end

section
open PySem PySem.W PyProof.Rows PySem.Calls
set_option maxRecDepth 100000
set_option maxHeartbeats 2000000
namespace Mine
theorem boot_listM : bootBuiltins (Str.ofString "list") = some (.type "list") := by decide +kernel
theorem run_cut (nn : List Int) (cn : Nat) (r : List UInt8) : runL (pickNums nn (some (cn : Int)) none none) (runL (pickNums nn none (some (cn : Int)) none) r) = runL nn r := by
  rw [pick_take, pick_drop, ← runL_append, List.take_append_drop]
theorem wires_take {nn : List Int} (h : ∀ n ∈ nn, 0 ≤ n ∧ n < 4) (cn : Nat) : ∀ n ∈ pickNums nn none (some (cn : Int)) none, 0 ≤ n ∧ n < 4 := fun n hn => by
  rw [pick_take] at hn; exact h n (List.mem_of_mem_take hn)
theorem wires_drop {nn : List Int} (h : ∀ n ∈ nn, 0 ≤ n ∧ n < 4) (cn : Nat) : ∀ n ∈ pickNums nn (some (cn : Int)) none none, 0 ≤ n ∧ n < 4 := fun n hn => by
  rw [pick_drop] at hn; exact h n (List.mem_of_mem_drop hn)
theorem disp_tuple {M : Model} {A : Around} {E : Value → Shared → Prop} {s : Shared} {env : Env} {elts : List Expr} {k : Nat} {pos : Pos} {Q : Value → Shared → Prop}
    (h : wpAny M A (spliced (backTo pos (starEach elts env))) (fun vs s₁ => vs.length ≤ 1000 ∧ ∀ h', h'.IsTuple s₁.heap.objs.size vs.toArray → s₁.heap.StaysIn h' → s₁.heap.objs.size < h'.objs.size → Q (.ref s₁.heap.objs.size) { s₁ with heap := h' }) E s) :
    wpAny M A (eval (.Tuple elts k pos) env) Q E s :=
  wpAny_Tuple (wpAny_mono h (fun vs s₁ h₁ => ⟨by rw [sizeLine_eq]; omega, h₁.2 _ ⟨_, Heap.get?_push_size _ rfl, rfl, _, rfl⟩ (fun b o e => Heap.get?_push_of_some _ e) (by rw [Heap.size_push]; exact Nat.lt_succ_self _)⟩) fun _ _ x => x)
theorem bytes_fall {prog : Program} {w : World} {A : Around} {E : Value → Shared → Prop} {s : Shared} {l : Addr} {vs : List Value} {Q : Value → Shared → Prop} (hh : A.handled = none) (hl : s.heap.IsList l vs.toArray) (hi : IntsAre vs [4, 3, 2, 1, 0])
    (hQ : ∀ h' t k, (∀ b o, s.heap.get? b = some o → h'.get? b = some o) → Q (.bytes falling.toArray t) { s with heap := h', toks := k }) : wpAny (model prog w) A (call (.type "bytes") [.ref l]) Q E s :=
  call_bytes_ints hl hi (by decide) (by rw [hi.length, sizeLine_eq]; decide) hh fun h' t k e => by
    rw [show byteArr [4, 3, 2, 1, 0] = falling.toArray from by decide]
    exact hQ h' t k e
theorem bytes_first {ys : List Value} {r : List UInt8} {rs : List (List UInt8)} : BytesAre ys (r :: rs) → ∃ t, ys[0]? = some (.bytes r.toArray t)
  | .cons _ t _ => ⟨t, rfl⟩
theorem three_are {a b c : Tok} {x y z : List UInt8} : BytesAre [.bytes x.toArray a, .bytes y.toArray b, .bytes z.toArray c] [x, y, z] := .cons _ _ (.cons _ _ (.cons _ _ .nil))
theorem lists_at2 {lo lo' : Nat} {h h' : Heap} {as bs : List Addr} {ps : List (List Int)} (x : ListsAt lo h as ps) (y : ListsAt lo' h' bs ps) {A : Around} {s : Shared} (k : h.StaysIn s.heap) (k' : h'.StaysIn s.heap) (hu : A.units + 72 < cLine)
    (j : Nat) (h1 : j < (as.map Value.ref).toArray.size) (h2 : j < (bs.map Value.ref).toArray.size) : SeqAt.EqAt A s (as.map Value.ref).toArray[j] (bs.map Value.ref).toArray[j] true := by
  have h1' : j < as.length := by simpa using h1
  have h2' : j < bs.length := by simpa using h2
  have hp : j < ps.length := x.1 ▸ h1'
  obtain ⟨vs, hl, hi⟩ := x.2.2.2 j as[j] ps[j] (List.getElem?_eq_getElem h1') (List.getElem?_eq_getElem hp)
  obtain ⟨us, hl', hi'⟩ := y.2.2.2 j bs[j] ps[j] (List.getElem?_eq_getElem h2') (List.getElem?_eq_getElem hp)
  have e := keq_ints (A := A) (s := s) (stays_list k hl) hi (stays_list k' hl') hi' (by rw [units_in1]; omega)
  rw [decide_eq_true rfl] at e
  rw [List.getElem_toArray, List.getElem_toArray, List.getElem_map, List.getElem_map]
  exact SeqAt.EqAt.of_in1 e
theorem ite_not {c X Y : Prop} [Decidable c] (hc : ¬ c) (h : Y) : if c then X else Y := by rw [if_neg hc]; exact h
theorem runP_length : ∀ (ns : List Int) (ps : List (List Int)), (runP ns ps).length = ps.length
  | [], _ => rfl
  | k :: ns, ps => (runP_length ns (ps.map (bump k.toNat))).trans (by simp)
theorem paths_len (ns : List Int) : (runP ns paths0).length = 6 ∧ ∀ p ∈ runP ns paths0, p.length = 6 := ⟨(runP_length ns paths0).trans rfl, runP_len ns paths0 paths0_len⟩
/-- a row's octets as ints -/
noncomputable def natsOf (r : List UInt8) : List Int := r.map fun x => (x.toNat : Int)
end Mine
end

section
open PySem PySem.W PyProof.Rows PySem.Calls
set_option maxRecDepth 100000
set_option maxHeartbeats 2000000
namespace Mine
theorem cf_m {base : Heap} {L K : Nat} {h : Heap} {m : Nm} {vs : List (Option Value)} {x : PySem.Str} {v : Value} (Z : CF base L K h m vs) (hm : m x = some v) : ∃ m, CF base L K h m vs ∧ m x = some v := ⟨m, Z, hm⟩
theorem part_int {M : Model} {A : Around} {E : Value → Shared → Prop} {s : Shared} {env : Env} {i : Int} {k : Nat} {pos : Pos} {Q : Value → Shared → Prop} (h : Q (.int i s.toks) { s with toks := s.toks + 1 }) :
    wpAny M A (evalPart (some (.Constant (.int i) k pos)) env) Q E s := wpAny_Constant_int (k := k) (pos := pos) h
theorem disp_list {M : Model} {A : Around} {E : Value → Shared → Prop} {s : Shared} {env : Env} {elts : List Expr} {pos : Pos} {Q : Value → Shared → Prop}
    (h : wpAny M A (spliced (backTo pos (starEach elts env))) (fun vs s₁ => vs.length ≤ 1000 ∧ ∀ h', h'.PlainList s₁.heap.objs.size vs.toArray → s₁.heap.StaysIn h' → Q (.ref s₁.heap.objs.size) { s₁ with heap := h' }) E s) :
    wpAny M A (eval (.List elts pos) env) Q E s :=
  wpAny_List (wpAny_mono h (fun vs s₁ h₁ => ⟨by rw [sizeLine_eq]; omega, h₁.2 _ ⟨_, Heap.get?_push_size _ rfl⟩ fun b o e => Heap.get?_push_of_some _ e⟩) fun _ _ x => x)
theorem min_nat {n : Nat} : min 10 (n : Int) = ((min 10 n : Nat) : Int) := by omega
theorem min_le {n : Nat} : min 10 n ≤ 1000 := by omega
theorem sz1 {ys us : List Value} {hs : List Int} (h : IntsAre ys (netI hs)) (hu : us.length = 5) : ys.length + us.length ≤ 1000 := by
  have := netI_len hs; rw [h.length, hu]; omega
theorem sz2 (hs : List Int) : (netI hs ++ [1, 0, 2, 3, 1]).length ≤ 1000 := by
  have := netI_len hs; rw [List.length_append]; simp only [List.length_cons, List.length_nil]; omega
theorem flat_N {α : Type} {M : Model} {A : Around} {t : Sem α} {Q : α → Shared → Prop} {S : Shared} (s : Shared) (h : Heap) (hh : S.heap = h) (g : S.gens = s.gens) (d : S.drawn = s.drawn) (o : S.os = s.os)
    (H : ∀ tk, wpN M A t Q { s with heap := h, toks := tk }) : wpN M A t Q S := by
  obtain ⟨a, b, c, e, f⟩ := S
  dsimp only at hh g d o
  subst hh g d o
  exact H e
theorem flat_A {α : Type} {M : Model} {A : Around} {t : Sem α} {Q : α → Shared → Prop} {E : Value → Shared → Prop} {S : Shared} (s : Shared) (h : Heap) (hh : S.heap = h) (g : S.gens = s.gens) (d : S.drawn = s.drawn) (o : S.os = s.os)
    (H : ∀ tk, wpAny M A t Q E { s with heap := h, toks := tk }) : wpAny M A t Q E S := by
  obtain ⟨a, b, c, e, f⟩ := S
  dsimp only at hh g d o
  subst hh g d o
  exact H e
theorem ints5 {t0 t1 t2 t3 t4 : Tok} {a b c d e : Int} : IntsAre [.int a t0, .int b t1, .int c t2, .int d t3, .int e t4] [a, b, c, d, e] := .cons _ _ (.cons _ _ (.cons _ _ (.cons _ _ (.cons _ _ .nil))))
theorem row_byte (hs : List Int) : ∀ n ∈ rowI hs, 0 ≤ n ∧ n < 256 := fun n hn => by have := rowI_ok hs n hn; omega
theorem row_fit {ys : List Value} {hs : List Int} (h : IntsAre ys (rowI hs)) : ys.length ≤ sizeLine := by rw [h.length, rowI_len, sizeLine_eq]; decide
theorem bytes_range5 {prog : Program} {w : World} {A : Around} {E : Value → Shared → Prop} {s : Shared} {r : Addr} {t u v : Tok} {Q : Value → Shared → Prop} (hh : A.handled = none) (hr : IsRange s.heap r 0 5 1 t u v)
    (hQ : ∀ h' t k, (∀ b o, s.heap.get? b = some o → h'.get? b = some o) → Q (.bytes ([0, 1, 2, 3, 4] : List UInt8).toArray t) { s with heap := h', toks := k }) : wpAny (model prog w) A (call (.type "bytes") [.ref r]) Q E s :=
  bytes_range (n := 5) hh hr (by decide) fun h' t k e => by
    rw [show byteArr (upTo 5) = ([0, 1, 2, 3, 4] : List UInt8).toArray from by decide]
    exact hQ h' t k e
theorem r10 {r : List UInt8} (h : r.length = 5) : ([0, 1, 2, 3, 4] : List UInt8).length + r.length ≤ 1000 := by rw [h]; decide
theorem r15 {r : List UInt8} (h : r.length = 5) : (([0, 1, 2, 3, 4] : List UInt8) ++ r).length + r.reverse.length ≤ 1000 := by rw [List.length_append, List.length_reverse, h]; decide
theorem swap_rows {w : World} {dp un : Nat} {gd : Option (List Code)} {outer : List Env} {base : Heap} {mean : Mn} {mg mb : Nm} {s : Shared} {Q : Value → Shared → Prop} {r : List UInt8} {tx ty : Tok}
    (O : Ok w mean mg mb base outer s.heap) (hd : dp + 1 < recursionLimit) (hu : un + 20 < cLine) (hr : r.length = 5)
    (hret : ∀ t h' tk', s.heap.StaysIn h' → Q (.bytes (falling ++ r.reverse ++ r).toArray t) { s with heap := h', toks := tk' }) :
    wpN (model PR w) (Ar dp un gd outer) (call (.ref 21) [.bytes (([0, 1, 2, 3, 4] : List UInt8) ++ r ++ r.reverse).toArray tx, .int 5 ty]) Q s := by
  refine swap15 O hd hu (by simp [hr]) fun t h' tk' k => ?_
  rw [putAll_blocks (a := [0, 1, 2, 3, 4]) rfl hr (by simp [hr]), List.reverse_reverse]
  exact hret t h' tk' k
theorem bk_len {r : List UInt8} (h : r.length = 5) : (falling ++ r.reverse ++ r).length ≤ 1000 := by
  rw [List.length_append, List.length_append, List.length_reverse, h]; decide
theorem rows_are {r : List UInt8} {a b c : Tok} (h : r.length = 5) :
    BytesAre [Value.bytes (List.take 5 (falling ++ r.reverse ++ r)).toArray a, Value.bytes (List.drop 10 (falling ++ r.reverse ++ r)).toArray b, Value.bytes (List.take (10 - 5) (List.drop 5 (falling ++ r.reverse ++ r))).toArray c] [falling, r, r.reverse] := by
  obtain ⟨x0, x1, x2, x3, x4, rfl⟩ := five h
  exact .cons _ _ (.cons _ _ (.cons _ _ .nil))
theorem us_len {us : List Value} {nn : List Int} (h : IntsAre us nn) (hl : nn.length ≤ 15) : (us.toArray.size : Int) < 2 ^ 63 := by rw [List.size_toArray, h.length]; omega
theorem us_ne {n : Nat} : (n : Int) + 1 ≠ 0 := by omega
theorem cut_nat (a : Int) (n : Nat) : ∃ c : Nat, a.fmod ((n : Nat) + 1 : Int) = (c : Int) := by
  have h := Int.fmod_nonneg_of_pos a (show (0 : Int) < (n : Int) + 1 by omega)
  exact ⟨(a.fmod ((n : Int) + 1)).toNat, by omega⟩
theorem ListsAt.low {lo lo' : Nat} {h : Heap} {as : List Addr} {ps : List (List Int)} (x : ListsAt lo h as ps) (hl : lo' ≤ lo) : ListsAt lo' h as ps := ⟨x.1, x.2.1, fun a ha => Nat.le_trans hl (x.2.2.1 a ha), x.2.2.2⟩
theorem fp_lt {h : Heap} {o : Obj} {a : Addr} (ha : a < h.objs.size) : ∀ b ∈ [h.objs.size, a], b < (h.push o).objs.size := fun b hb => by
  rw [Heap.size_push]
  rcases List.mem_cons.mp hb with rfl | q
  · exact Nat.lt_succ_self _
  · rw [List.mem_singleton.mp q]; exact Nat.lt_succ_of_lt ha
theorem r3 {row r : List UInt8} {i : Nat} (h : row.length = 5) (hr : [falling, row, row.reverse][i]? = some r) : r.length = 5 ∧ ((∀ x ∈ row, x.toNat ≤ 6) → ∀ x ∈ r, x.toNat ≤ 6) := by
  have hm := List.mem_of_getElem? hr
  simp only [List.mem_cons, List.not_mem_nil, or_false] at hm
  rcases hm with rfl | rfl | rfl
  · exact ⟨rfl, fun _ => by decide⟩
  · exact ⟨h, id⟩
  · exact ⟨by simpa using h, fun q x hx => q x (by simpa using hx)⟩
theorem wr_lt {h : Heap} {o : Obj} : ∀ b ∈ [h.objs.size], b < (h.push o).objs.size := fun b hb => by
  rw [Heap.size_push, List.mem_singleton.mp hb]; exact Nat.lt_succ_self _
theorem again_abs {L : Nat} {h : Heap} {o : Obj} (hL : L < h.objs.size) (q : (h.push o).objs.size + 2 ≤ L) : False := by
  rw [Heap.size_push] at q; omega
theorem r3run {row r : List UInt8} {nn : List Int} {i : Nat} (h : row.length = 5) (hr : (([falling, row, row.reverse] : List (List UInt8)).map fun r => runL nn r)[i]? = some r) : r.length = 5 := by
  rw [List.getElem?_map] at hr
  cases q : ([falling, row, row.reverse] : List (List UInt8))[i]? with
  | none => rw [q] at hr; cases hr
  | some r' =>
    rw [q] at hr
    cases hr
    exact (runL_length _ _).trans (r3 h q).1
theorem two_len {lo lo' : Nat} {h h' : Heap} {as bs : List Addr} {ps : List (List Int)} (x : ListsAt lo h as ps) (y : ListsAt lo' h' bs ps) : (as.map Value.ref).toArray.size = (bs.map Value.ref).toArray.size := by
  rw [List.size_toArray, List.size_toArray, List.length_map, List.length_map, x.1, y.1]
theorem le15 {n : Nat} (h : n ≤ 15) : n ≤ 1000 := by omega
theorem law_ok {w : World} {dp un : Nat} {gd : Option (List Code)} {outer : List Env} {base : Heap} {mean : Mn} {mg mb : Nm} {s : Shared} {Q : Value → Shared → Prop} {l : Addr} {vs : List Value} {ns : List Int}
    (O : Ok w mean mg mb base outer s.heap) (hd : dp + 20 < recursionLimit) (hu : un + 400 < cLine) (hl : s.heap.IsList l vs.toArray) (hi : IntsAre vs ns) (hlen : ns.length ≤ 1000)
    (hret : ∀ h' tk', s.heap.StaysIn h' → Q (.bool true) { s with heap := h', toks := tk' }) :
    wpN (model PR w) (Ar dp un gd outer) (call (.ref 64) [.ref l]) Q s := by
  refine N_call ?_
  refine' enterCN O ?k6 ?k7 ?k8 ?k9 ?kB ?_ ?c2 ?c3 ?c4
  case k6 => k_is
  case k7 => k_is
  case k8 => ktr_room
  case k9 => exact BindsTo.of_eq rfl
  case kB => rfl
  case c2 => exact rfl
  case c3 => exact rfl
  case c4 => exact rfl
  intro L' h₁ tk1 hL F C B X T
  try dsimp only
  have hK : L' + 1 + 6 ≤ h₁.objs.size := cell_lt (C.cell (Str.ofString "short") _ rfl)
  have Z1 : CF s.heap L' h₁.objs.size h₁ _ [none, none, none, none, none, none] :=
    CF.of [Str.ofString "heard", Str.ofString "net", Str.ofString "first", Str.ofString "paths", Str.ofString "cut", Str.ofString "short"] F C rfl hK
  clear F C
  obtain ⟨m, Z1, hms⟩ := cf_m (x := Str.ofString "script") (v := .ref l) Z1 rfl
  have hl1 : h₁.IsList l vs.toArray := stays_list Z1.F.keep hl
  -- heard
  refine N_execs (N_Assign (wpN_of (Subscript_ (Z1.ldL hms (wpAny_Slice (wpAny_pure (part_int (wpAny_pure ?_))))))))
  refine slice_I (s₀ := ⟨_, _, _, _, _⟩) hl1 hi .none (.int _ _) .none (by decide) hlen fun D us h2 lo hD hI k2 => ?_
  have hlen2 : (pickNums ns none (some 60) none).length ≤ 1000 := Nat.le_trans (pick_le _ _ _ _) hlen
  generalize pickNums ns none (some 60) none = hs at hI hlen2
  refine wpN_of (CF.stC (Z1.stays k2) 0 (by simp) fun h3 Z3 k3 => ?_)
  dsimp only [List.set] at Z3
  have hH3 : h3.IsList D us.toArray := hD.isList.at fun o e => k3 _ o lo e
  clear k3 k2 hD Z1 hl1
  dsimp only at lo
  refine flat_N s h3 rfl rfl rfl rfl fun tk3 => ?_
  -- net
  refine N_execs (N_Assign (wpN_of (Subscript_ (wpAny_BinOp (any_G (evalL rfl rfl ?_ ?_ rfl (fun _ => rfl) ?_))))))
  · decide
  · decide
  refine Call_ ?_
  refine nmB (X.keeps Z3.F.keep) (T.keeps Z3.F.keep) (by k_is) boot_range (by decide) rfl rfl rfl rfl (by decide) ?_
  refine PyProof.Rows.callWith_type1 ?_
  refine args_cons (Call_ ?_)
  refine nmB (X.keeps Z3.F.keep) (T.keeps Z3.F.keep) (by k_is) boot_min (by decide) rfl rfl rfl rfl (by decide) ?_
  refine PyProof.Rows.callWith_builtin1 ?_
  refine args_cons (wpAny_Constant_int ?_)
  refine args_cons (Call_ ?_)
  refine nmB (X.keeps Z3.F.keep) (T.keeps Z3.F.keep) (by k_is) boot_len (by decide) rfl rfl rfl rfl (by decide) ?_
  refine PyProof.Rows.callWith_builtin1 ?_
  refine args_cons (Z3.ldC 0 rfl ?_)
  refine args_nil (PyProof.Rows.len_list hH3 (by rw [List.size_toArray, hI.length]; omega) ?_)
  refine args_nil (min2 rfl fun h4 tk4 t4 k4 => ?_)
  refine flat_A s h4 rfl rfl rfl rfl fun tk4 => ?_
  refine args_nil (range_it (min 10 hs.length) (by rw [List.size_toArray, hI.length]; exact min_nat) min_le fun I h5 tk5 hit5 k5 lo5 lt5 => ?_)
  have Z4 := Z3.stays k4
  have hH4 : h4.IsList D us.toArray := hH3.at fun o e => k4 _ o e
  clear Z3 hH3 k4
  dsimp only at k5 lo5
  refine ⟨_, [I], min 10 hs.length, _, rfl, obRangeI (fun k => (pickNums hs (some (k : Int)) none (some 10)).sum.fmod 4) rfl hit5 min_le ?_, ?_⟩
  · intro k tk' h6 tk6 hk hEk hsz6 keep6
    obtain ⟨m6, hn6, hm6⟩ := hEk
    have ka6 := keepI lo5 k5 keep6
    have Z6 := Z4.stays ka6
    have hH6 : h6.IsList D us.toArray := hH4.at fun o e => ka6 _ o e
    refine G_of (wpAny_BinOp (Call_ ?_))
    refine nmB (X.keeps Z6.F.keep) (T.keeps Z6.F.keep) (by k_is) boot_sum (by decide) rfl rfl rfl rfl (by decide) ?_
    refine PyProof.Rows.callWith_builtin1 ?_
    refine args_cons (Subscript_ (Z6.ldC 0 rfl (wpAny_Slice (nmL hn6 hm6 rfl rfl (by decide) (wpAny_pure (part_int ?_))))))
    refine slice_I (s₀ := ⟨_, _, _, _, _⟩) hH6 hI (.int _ _) .none (.int _ _) (by decide) hlen2 fun D7 us7 h7 lo7 hD7 hI7 k7 => ?_
    refine args_nil (sum_I rfl hD7.isList hI7 fun h8 tk8 t8 k8 => ?_)
    exact wpAny_Constant_int (PyProof.Rows.mod_int (by decide) ⟨⟨h8, _, rfl, fun b o e => k8 b o (k7 b o e)⟩, _, rfl⟩)
  intro h6 tk6 ys6 hl6 hI6 keep6
  have ka6 := keepI lo5 k5 keep6
  have Z6 := Z4.stays ka6
  have hH6 : h6.IsList D us.toArray := hH4.at fun o e => ka6 _ o e
  have hI6' : IntsAre ys6 (netI hs) := hI6
  have hl6' := hl6.isList
  clear Z4 hH4 hI6 hl6 ka6 keep6 hit5 k5 lo5 lt5
  dsimp only at hl6'
  refine flat_A s h6 rfl rfl rfl rfl fun tk6 => ?_
  refine disp_list (args_cons (wpAny_Constant_int (args_cons (wpAny_Constant_int (args_cons (wpAny_Constant_int (args_cons (wpAny_Constant_int (args_cons (wpAny_Constant_int (args_nil ⟨Nat.le_of_ble_eq_true rfl, fun h7 hl7 k7 => ?_⟩)))))))))))
  refine add_l (hl6'.at fun o e => k7 _ o e) hl7.isList (sz1 hI6' rfl) fun h8 hl8 k8 => ?_
  refine flat_A s h8 rfl rfl rfl rfl fun tk8 => ?_
  dsimp only at k7 k8 hl7 hl8
  refine wpAny_Slice (wpAny_pure (part_int (wpAny_pure ?_)))
  refine slice_I (s₀ := ⟨_, _, _, _, _⟩) hl8.isList (hI6'.append ints5) .none (.int _ _) .none (by decide) (sz2 hs) fun D2 us2 h9 lo9 hD9 hI9 k9 => ?_
  have hN9 : IntsAre us2 (netOf hs) := hI9
  dsimp only at lo9 k9
  have ka9 : ∀ b o, h6.get? b = some o → h9.get? b = some o := fun b o e => k9 b o (k8 b o (k7 b o e))
  have lK2 : h₁.objs.size ≤ D2 := Nat.le_trans (Nat.le_trans lo (Nat.le_of_lt (by obtain ⟨_, e, _⟩ := hH6; exact Heap.lt_size (k8 _ _ (k7 _ _ e))))) lo9
  have Z9 := Z6.stays ka9
  have hH9 : h9.IsList D us.toArray := hH6.at fun o e => ka9 _ o e
  refine wpN_of (CF.stC Z9 1 (by simp) fun h10 Z10 k10 => ?_)
  dsimp only [List.set] at Z10
  have hH10 : h10.IsList D us.toArray := hH9.at fun o e => k10 _ o lo e
  have hN10 : h10.IsList D2 us2.toArray := hD9.isList.at fun o e => k10 _ o lK2 e
  clear Z6 hH6 hI6' hl6' hl7 k7 hl8 k8 lo9 hD9 hI9 k9 ka9 Z9 hH9 k10
  refine flat_N s h10 rfl rfl rfl rfl fun tk10 => ?_
  -- first
  refine N_execs (N_Assign (wpN_of (disp_list (args_cons (wpAny_Constant_int (args_cons (wpAny_Constant_int (args_cons (wpAny_Constant_int (args_cons (wpAny_Constant_int (args_cons (wpAny_Constant_int (args_nil ⟨Nat.le_of_ble_eq_true rfl, fun h11 hl11 k11 => ?_⟩))))))))))))))
  refine wpN_of (CF.stC (Z10.stays k11) 2 (by simp) fun h12 Z12 k12 => ?_)
  dsimp only [List.set] at Z12
  dsimp only at hl11 k11
  have lK3 : h₁.objs.size ≤ h10.objs.size := Nat.le_of_lt (Nat.lt_of_le_of_lt lo (by obtain ⟨_, e, _⟩ := hH10; exact Heap.lt_size e))
  have hH12 : h12.IsList D us.toArray := (hH10.at fun o e => k11 _ o e).at fun o e => k12 _ o lo e
  have hN12 : h12.IsList D2 us2.toArray := (hN10.at fun o e => k11 _ o e).at fun o e => k12 _ o lK2 e
  have hF12 : h12.IsList h10.objs.size _ := hl11.isList.at fun o e => k12 _ o lK3 e
  clear Z10 hH10 hN10 hl11 k11 k12
  refine flat_N s h12 rfl rfl rfl rfl fun tk12 => ?_
  -- row
  refine N_execs (N_Assign (wpN_of (Call_ ?_)))
  refine nmB (X.keeps Z12.F.keep) (T.keeps Z12.F.keep) (by k_is) boot_bytes (by decide) rfl rfl rfl rfl (by decide) ?_
  refine PyProof.Rows.callWith_type1 ?_
  refine args_cons (any_G ?_)
  refine evalL rfl rfl ?_ ?_ rfl (fun _ => rfl) ?_
  · decide
  · decide
  refine src_range 5 (X.keeps Z12.F.keep) (T.keeps Z12.F.keep) rfl (by decide) (by k_is) rfl rfl rfl rfl rfl rfl rfl fun I13 h13 tk13 hit13 k13 lo13 lt13 => ?_
  dsimp only at k13 lo13
  refine ⟨_, [I13], 5, _, rfl, obRangeI (fun k => (firstI.getD k 0 + (pickNums hs (some (k : Int)) none (some 5)).sum).fmod 7) rfl hit13 (by decide) ?_, ?_⟩
  · intro k tk' h14 tk14 hk hEk hsz14 keep14
    obtain ⟨m14, hn14, hm14⟩ := hEk
    have ka14 := keepI lo13 k13 keep14
    have Z14 := Z12.stays ka14
    have hH14 : h14.IsList D us.toArray := hH12.at fun o e => ka14 _ o e
    have hF14 := hF12.at fun o e => ka14 _ o e
    refine G_of (wpAny_BinOp (wpAny_BinOp (Subscript_ (Z14.ldC 2 rfl (nmL hn14 hm14 rfl rfl (by decide) ?_)))))
    refine item_anyK hF14 ints5 (by omega) (by simp; omega) (by omega) fun t15 => ?_
    refine Call_ ?_
    refine nmB (X.keeps Z14.F.keep) (T.keeps Z14.F.keep) (by k_is) boot_sum (by decide) rfl rfl rfl rfl (by decide) ?_
    refine PyProof.Rows.callWith_builtin1 ?_
    refine args_cons (Subscript_ (Z14.ldC 0 rfl (wpAny_Slice (nmL hn14 hm14 rfl rfl (by decide) (wpAny_pure (part_int ?_))))))
    refine slice_I (s₀ := ⟨_, _, _, _, _⟩) hH14 hI (.int _ _) .none (.int _ _) (by decide) hlen2 fun D15 us15 h15 lo15 hD15 hI15 k15 => ?_
    refine args_nil (sum_I rfl hD15.isList hI15 fun h16 tk16 t16 k16 => ?_)
    exact add_int (wpAny_Constant_int (PyProof.Rows.mod_int (by decide) ⟨⟨h16, _, rfl, fun b o e => k16 b o (k15 b o e)⟩, _, rfl⟩))
  intro h14 tk14 ys14 hl14 hI14 keep14
  have hI14' : IntsAre ys14 (rowI hs) := hI14
  have ka14 := keepI lo13 k13 keep14
  dsimp only at hl14
  refine args_nil (call_bytes_ints hl14.isList hI14' (row_byte hs) (row_fit hI14') rfl fun h15 t15 tk15 k15 => ?_)
  have hrow : byteArr (rowI hs) = (rowOf hs).toArray := rfl
  rw [hrow]
  have ka15 : ∀ b o, h12.get? b = some o → h15.get? b = some o := fun b o e => k15 b o (ka14 b o e)
  have Z15 := Z12.stays ka15
  have hH15 : h15.IsList D us.toArray := hH12.at fun o e => ka15 _ o e
  have hN15 : h15.IsList D2 us2.toArray := hN12.at fun o e => ka15 _ o e
  clear Z12 hH12 hN12 hF12 ka14 k15 ka15 hI14 hI14' keep14 hl14 k13 lo13 lt13 hit13
  refine flat_N s h15 rfl rfl rfl rfl fun tk15' => ?_
  refine wpN_of (CF.stL Z15 (v := .bytes (rowOf hs).toArray t15) fun h16 Z16 k16 => ?_)
  have hmr : (fun y => if y = Str.ofString "row" then some (Value.bytes (rowOf hs).toArray t15) else m y) (Str.ofString "row") = some (.bytes (rowOf hs).toArray t15) := if_pos rfl
  have hH16 : h16.IsList D us.toArray := hH15.at fun o e => k16 _ o lo e
  have hN16 : h16.IsList D2 us2.toArray := hN15.at fun o e => k16 _ o lK2 e
  clear Z15 hH15 hN15 k16 hrow hms
  generalize (fun y => if y = Str.ofString "row" then some (Value.bytes (rowOf hs).toArray t15) else m y) = m16 at Z16 hmr
  have hrl : (rowOf hs).length = 5 := row_len hs
  have hr6 := row_ok hs
  have hnn : ∀ n ∈ netOf hs, 0 ≤ n ∧ n < 4 := net_ok hs
  have hnl : (netOf hs).length ≤ 15 := net_len hs
  generalize rowOf hs = row at Z16 hmr hrl hr6
  generalize netOf hs = nn at hN9 hnn hnl
  refine flat_N s h16 rfl rfl rfl rfl fun tk16 => ?_
  -- back
  refine N_execs (N_Assign (N_Call (nmK (X.keeps Z16.F.keep) (T.keeps Z16.F.keep) (by k_is) rfl rfl rfl (by decide) ?_)))
  refine N_callWithK (K := Mine.hd.heap_39 w.params) (by k_is) (N_args (wpN_of (wpAny_BinOp (wpAny_BinOp (Call_ ?_)))))
  refine nmB (X.keeps Z16.F.keep) (T.keeps Z16.F.keep) (by k_is) boot_bytes (by decide) rfl rfl rfl rfl (by decide) ?_
  refine PyProof.Rows.callWith_type1 ?_
  refine args_cons (Call_ ?_)
  refine nmB (X.keeps Z16.F.keep) (T.keeps Z16.F.keep) (by k_is) boot_range (by decide) rfl rfl rfl rfl (by decide) ?_
  refine PyProof.Rows.callWith_type1 ?_
  refine args_cons (wpAny_Constant_int ?_)
  refine args_nil (call_range_1 ?_)
  refine args_nil (bytes_range5 rfl (Heap.get?_push_size _ rfl) fun h17 t17 tk17 k17 => ?_)
  have ka17 : ∀ b o, h16.get? b = some o → h17.get? b = some o := fun b o e => k17 b o (Heap.get?_push_of_some _ e)
  have Z17 := Z16.stays ka17
  have hH17 : h17.IsList D us.toArray := hH16.at fun o e => ka17 _ o e
  have hN17 : h17.IsList D2 us2.toArray := hN16.at fun o e => ka17 _ o e
  clear k17 ka17 Z16 hH16 hN16
  refine flat_A s h17 rfl rfl rfl rfl fun tk17' => ?_
  refine Z17.ldL hmr (add_b (r10 hrl) fun t18 tk18 => ?_)
  refine Subscript_ (Z17.ldL hmr (wpAny_Slice (wpAny_pure (wpAny_pure (wpAny_UnaryOp (wpAny_Constant_int (neg_int ?_)))))))
  refine slice_rev (s₀ := ⟨_, _, _, _, _⟩) (le5 hrl) fun h19 t19 tk19 k19 => ?_
  have Z19 := Z17.stays k19
  have hH19 : h19.IsList D us.toArray := hH17.at fun o e => k19 _ o e
  have hN19 : h19.IsList D2 us2.toArray := hN17.at fun o e => k19 _ o e
  clear k19 Z17 hH17 hN17
  refine flat_A s h19 rfl rfl rfl rfl fun tk19' => ?_
  refine add_b (r15 hrl) fun t20 tk20 => ?_
  refine N_args (wpN_of (wpAny_Constant_int ?_))
  refine N_args_nil ⟨X.keeps Z19.F.keep, ?_⟩
  refine swap_rows (Ok.of B Z19.F X T rfl rfl) (by ktr_room) (by ktr_units) hrl fun t21 h21 tk21 k21 => ?_
  have Z21 := Z19.stays k21
  have hH21 : h21.IsList D us.toArray := hH19.at fun o e => k21 _ o e
  have hN21 : h21.IsList D2 us2.toArray := hN19.at fun o e => k21 _ o e
  clear k21 Z19 hH19 hN19
  refine flat_N s h21 rfl rfl rfl rfl fun tk21' => ?_
  refine wpN_of (CF.stL Z21 (v := .bytes (falling ++ row.reverse ++ row).toArray t21) fun h22 Z22 k22 => ?_)
  have hmb : (fun y => if y = Str.ofString "back" then some (Value.bytes (falling ++ row.reverse ++ row).toArray t21) else m16 y) (Str.ofString "back") = some (.bytes (falling ++ row.reverse ++ row).toArray t21) := if_pos rfl
  have hmr2 : (fun y => if y = Str.ofString "back" then some (Value.bytes (falling ++ row.reverse ++ row).toArray t21) else m16 y) (Str.ofString "row") = some (.bytes row.toArray t15) := (if_neg (by decide)).trans hmr
  have hH22 : h22.IsList D us.toArray := hH21.at fun o e => k22 _ o lo e
  have hN22 : h22.IsList D2 us2.toArray := hN21.at fun o e => k22 _ o lK2 e
  clear Z21 hH21 hN21 k22 hmr
  generalize (fun y => if y = Str.ofString "back" then some (Value.bytes (falling ++ row.reverse ++ row).toArray t21) else m16 y) = m22 at Z22 hmb hmr2
  refine flat_N s h22 rfl rfl rfl rfl fun tk22 => ?_
  -- rows
  refine N_execs (N_Assign (wpN_of (disp_list (args_cons (Subscript_ (Z22.ldL hmb (wpAny_Slice (wpAny_pure (part_int (wpAny_pure ?_))))))))))
  refine slice_take (s₀ := ⟨_, _, _, _, _⟩) 5 rfl (bk_len hrl) fun h23 t23 tk23 k23 => ?_
  have Z23 := Z22.stays k23
  have hH23 : h23.IsList D us.toArray := hH22.at fun o e => k23 _ o e
  have hN23 : h23.IsList D2 us2.toArray := hN22.at fun o e => k23 _ o e
  clear Z22 hH22 hN22 k23
  refine flat_A s h23 rfl rfl rfl rfl fun tk23' => ?_
  refine args_cons (Subscript_ (Z23.ldL hmb (wpAny_Slice (part_int (wpAny_pure (wpAny_pure ?_))))))
  refine slice_drop (s₀ := ⟨_, _, _, _, _⟩) 10 rfl (bk_len hrl) fun h24 t24 tk24 k24 => ?_
  have Z24 := Z23.stays k24
  have hH24 : h24.IsList D us.toArray := hH23.at fun o e => k24 _ o e
  have hN24 : h24.IsList D2 us2.toArray := hN23.at fun o e => k24 _ o e
  clear Z23 hH23 hN23 k24
  refine flat_A s h24 rfl rfl rfl rfl fun tk24' => ?_
  refine args_cons (Subscript_ (Z24.ldL hmb (wpAny_Slice (part_int (part_int (wpAny_pure ?_))))))
  refine slice_run (s₀ := ⟨_, _, _, _, _⟩) 5 10 rfl rfl (bk_len hrl) fun h25 t25 tk25 k25 => ?_
  have Z25 := Z24.stays k25
  have hH25 : h25.IsList D us.toArray := hH24.at fun o e => k25 _ o e
  have hN25 : h25.IsList D2 us2.toArray := hN24.at fun o e => k25 _ o e
  clear Z24 hH24 hN24 k25
  refine flat_A s h25 rfl rfl rfl rfl fun tk25' => ?_
  refine args_nil ⟨Nat.le_of_ble_eq_true rfl, fun h26 hl26 k26 => ?_⟩
  have hB := rows_are (a := t23) (b := t24) (c := t25) hrl
  dsimp only at k26
  have hl26' := hl26.isList
  dsimp only at hl26'
  clear hl26
  generalize hvR : [Value.bytes (List.take 5 (falling ++ row.reverse ++ row)).toArray t23, Value.bytes (List.drop 10 (falling ++ row.reverse ++ row)).toArray t24, Value.bytes (List.take (10 - 5) (List.drop 5 (falling ++ row.reverse ++ row))).toArray t25] = vR at hB hl26'
  have Z26 := Z25.stays k26
  have lKR : h₁.objs.size ≤ h25.objs.size := Nat.le_trans lo (Nat.le_of_lt (by obtain ⟨_, e, _⟩ := hH25; exact Heap.lt_size e))
  have hH26 : h26.IsList D us.toArray := hH25.at fun o e => k26 _ o e
  have hN26 : h26.IsList D2 us2.toArray := hN25.at fun o e => k26 _ o e
  clear Z25 hH25 hN25 k26 hvR
  refine wpN_of (CF.stL Z26 (v := .ref h25.objs.size) fun h27 Z27 k27 => ?_)
  have hmR : (fun y => if y = Str.ofString "rows" then some (Value.ref h25.objs.size) else m22 y) (Str.ofString "rows") = some (.ref h25.objs.size) := if_pos rfl
  have hmr3 : (fun y => if y = Str.ofString "rows" then some (Value.ref h25.objs.size) else m22 y) (Str.ofString "row") = some (.bytes row.toArray t15) := (if_neg (by decide)).trans hmr2
  have hmb3 : (fun y => if y = Str.ofString "rows" then some (Value.ref h25.objs.size) else m22 y) (Str.ofString "back") = some (.bytes (falling ++ row.reverse ++ row).toArray t21) := (if_neg (by decide)).trans hmb
  have hH27 : h27.IsList D us.toArray := hH26.at fun o e => k27 _ o lo e
  have hN27 : h27.IsList D2 us2.toArray := hN26.at fun o e => k27 _ o lK2 e
  have hR27 : h27.IsList h25.objs.size vR.toArray := hl26'.at fun o e => k27 _ o lKR e
  clear Z26 hH26 hN26 hl26' k27 hmb hmr2
  generalize h25.objs.size = DR at Z27 hmR hmr3 hmb3 hR27 lKR ⊢
  generalize (fun y => if y = Str.ofString "rows" then some (Value.ref DR) else m22 y) = m27 at Z27 hmR hmr3 hmb3
  refine flat_N s h27 rfl rfl rfl rfl fun tk27 => ?_
  -- paths
  refine N_execs (N_Assign (N_Call (nmK (X.keeps Z27.F.keep) (T.keeps Z27.F.keep) (by k_is) rfl rfl rfl (by decide) ?_)))
  refine N_callWithK (K := Mine.hd.heap_39 w.params) (by k_is) (N_args (wpN_of (Z27.ldC 1 rfl ?_)))
  refine N_args_nil ⟨X.keeps Z27.F.keep, ?_⟩
  refine paths_ok (Ok.of B Z27.F X T rfl rfl) (by ktr_room) (by ktr_units) hN27 hN9 hnn fun pa as h28 tk28 k28 lo28 hpa hA => ?_
  dsimp only at k28 lo28 hA
  have lKP : h₁.objs.size ≤ h27.objs.size := Nat.le_trans lo (Nat.le_of_lt (by obtain ⟨_, e, _⟩ := hH27; exact Heap.lt_size e))
  have Z28 := Z27.stays k28
  have hH28 : h28.IsList D us.toArray := hH27.at fun o e => k28 _ o e
  have hN28 : h28.IsList D2 us2.toArray := hN27.at fun o e => k28 _ o e
  have hR28 : h28.IsList DR vR.toArray := hR27.at fun o e => k28 _ o e
  clear Z27 hH27 hN27 hR27 k28
  refine wpN_of (CF.stC Z28 3 (by simp) fun h29 Z29 k29 => ?_)
  dsimp only [List.set] at Z29
  have hH29 : h29.IsList D us.toArray := hH28.at fun o e => k29 _ o lo e
  have hN29 : h29.IsList D2 us2.toArray := hN28.at fun o e => k29 _ o lK2 e
  have hR29 : h29.IsList DR vR.toArray := hR28.at fun o e => k29 _ o lKR e
  have lKp : h₁.objs.size ≤ pa := Nat.le_trans lKP lo28
  have hp29 : h29.IsList pa (as.map Value.ref).toArray := hpa.at fun o e => k29 _ o lKp e
  have hA29 : ListsAt h₁.objs.size h29 as (runP nn paths0) := (hA.low lKP).stable fun b o q e => k29 b o q e
  clear Z28 hH28 hN28 hR28 k29 hpa hA lo28
  refine flat_N s h29 rfl rfl rfl rfl fun tk29 => ?_
  -- cut
  refine N_execs (N_Assign (wpN_of (wpAny_BinOp (Call_ ?_))))
  refine nmB (X.keeps Z29.F.keep) (T.keeps Z29.F.keep) (by k_is) boot_sum (by decide) rfl rfl rfl rfl (by decide) ?_
  refine PyProof.Rows.callWith_builtin1 ?_
  refine args_cons (Z29.ldC 0 rfl (args_nil (sum_I rfl hH29 hI fun h30 tk30 t30 k30 => ?_)))
  dsimp only at k30
  have Z30 := Z29.stays k30
  have hN30 : h30.IsList D2 us2.toArray := hN29.at fun o e => k30 _ o e
  have hR30 : h30.IsList DR vR.toArray := hR29.at fun o e => k30 _ o e
  have hp30 : h30.IsList pa (as.map Value.ref).toArray := hp29.at fun o e => k30 _ o e
  have hA30 := hA29.stable fun b o _ e => k30 b o e
  clear Z29 hH29 hN29 hR29 hp29 hA29 k30
  refine flat_A s h30 rfl rfl rfl rfl fun tk30' => ?_
  refine wpAny_BinOp (Call_ ?_)
  refine nmB (X.keeps Z30.F.keep) (T.keeps Z30.F.keep) (by k_is) boot_len (by decide) rfl rfl rfl rfl (by decide) ?_
  refine PyProof.Rows.callWith_builtin1 ?_
  refine args_cons (Z30.ldC 1 rfl (args_nil (PyProof.Rows.len_list hN30 (us_len hN9 hnl) (wpAny_Constant_int (add_int (PyProof.Rows.mod_int us_ne ?_))))))
  obtain ⟨cn, hcn⟩ := cut_nat hs.sum us2.toArray.size
  refine wpN_of (CF.stC Z30 4 (by simp) fun h31 Z31 k31 => ?_)
  dsimp only [List.set] at Z31
  generalize hs.sum.fmod ((us2.toArray.size : Nat) + 1 : Int) = cv at Z31 hcn
  subst hcn
  have hN31 : h31.IsList D2 us2.toArray := hN30.at fun o e => k31 _ o lK2 e
  have hR31 : h31.IsList DR vR.toArray := hR30.at fun o e => k31 _ o lKR e
  have hp31 : h31.IsList pa (as.map Value.ref).toArray := hp30.at fun o e => k31 _ o lKp e
  have hA31 := hA30.stable fun b o q e => k31 b o q e
  clear Z30 hN30 hR30 hp30 hA30 k31
  refine flat_N s h31 rfl rfl rfl rfl fun tk31 => ?_
  -- told
  have lK31 : L' < h31.objs.size := Z31.F.ns.lt
  have lR31 : DR < h31.objs.size := by obtain ⟨_, e, _⟩ := hR31; exact Heap.lt_size e
  have hI31 : s.heap.get? h31.objs.size = none := next_is_new Z31.F
  have hRn : vR.toArray.size = 3 := by rw [List.size_toArray, hB.length]; rfl
  refine N_execs (N_G (asgL (h₀ := s.heap) rfl rfl rfl ?_ ?_ rfl (fun _ => rfl) rfl rfl ?_))
  · decide
  · decide
  refine Z31.ldL hmR (wpAny_pyIter_list hR31 ?_)
  refine ⟨_, [h31.objs.size], _, _, _, rfl, Z31.F.push _, fun q => Nat.ne_of_lt lK31 (List.mem_singleton.mp q), fun b hb => by rw [List.mem_singleton.mp hb]; exact hI31,
    obRowsB (rs := [falling, row, row.reverse]) (fun r => runL nn r) (Walks.list rfl h31.objs.size DR (Nat.ne_of_lt lR31) vR.toArray) ⟨⟨_, Heap.get?_push_size _ rfl, rfl, rfl⟩, hR31.push _⟩ (fp_lt lR31) (by rw [hRn]; decide) (fun i v q => hB.at i v (by simpa using q)) ?_, fun _ _ _ _ h _ => h, ?_⟩
  · intro i r t h32 tk32 hr hE hsz keep
    obtain ⟨m32, hn32, hm32⟩ := hE
    have ka32 : ∀ b o, h31.get? b = some o → h32.get? b = some o := fun b o e => keep b o (fun q => Nat.ne_of_lt (Heap.lt_size e) (List.mem_singleton.mp q)) (Heap.get?_push_of_some _ e)
    have Z32 := Z31.stays ka32
    have hN32 : h32.IsList D2 us2.toArray := hN31.at fun o e => ka32 _ o e
    have hr5 : r.length = 5 := (r3 hrl hr).1
    refine G_N (flat_N s h32 rfl rfl rfl rfl fun tk32' => ?_)
    refine N_Call (nmK (X.keeps Z32.F.keep) (T.keeps Z32.F.keep) (by k_is) rfl rfl rfl (by decide) ?_)
    refine N_callWithK (K := Mine.hd.heap_39 w.params) (by k_is) (N_args (wpN_of (nmK (X.keeps Z32.F.keep) (T.keeps Z32.F.keep) (by k_is) rfl rfl rfl (by decide) ?_)))
    refine N_args (wpN_of (Subscript_ (Z32.ldC 1 rfl (wpAny_Slice (Z32.ldC 4 rfl (wpAny_pure (wpAny_pure ?_)))))))
    refine slice_I (s₀ := ⟨_, _, _, _, _⟩) hN32 hN9 (.int _ _) .none .none (by decide) (le15 hnl) fun D33 us33 h33 lo33 hD33 hI33 k33 => ?_
    have Z33 := Z32.stays k33
    have hN33 : h33.IsList D2 us2.toArray := hN32.at fun o e => k33 _ o e
    have hn33 := hn32.keeps k33
    refine flat_N s h33 rfl rfl rfl rfl fun tk33 => ?_
    refine N_args (N_Call (nmK (X.keeps Z33.F.keep) (T.keeps Z33.F.keep) (by k_is) rfl rfl rfl (by decide) ?_))
    refine N_callWithK (K := Mine.hd.heap_39 w.params) (by k_is) (N_args (wpN_of (nmK (X.keeps Z33.F.keep) (T.keeps Z33.F.keep) (by k_is) rfl rfl rfl (by decide) ?_)))
    refine N_args (wpN_of (Subscript_ (Z33.ldC 1 rfl (wpAny_Slice (wpAny_pure (Z33.ldC 4 rfl (wpAny_pure ?_)))))))
    refine slice_I (s₀ := ⟨_, _, _, _, _⟩) hN33 hN9 .none (.int _ _) .none (by decide) (le15 hnl) fun D34 us34 h34 lo34 hD34 hI34 k34 => ?_
    have Z34 := Z33.stays k34
    have hn34 := hn33.keeps k34
    refine flat_N s h34 rfl rfl rfl rfl fun tk34 => ?_
    refine N_args (wpN_of (nmL hn34 hm32 rfl rfl (by decide) ?_))
    refine N_args_nil ⟨X.keeps Z34.F.keep, ?_⟩
    refine reduce_ok (Ok.of B Z34.F X T rfl rfl) (by ktr_room) (by ktr_units) hr5 hD34.isList hI34 (wires_take hnn cn) fun t35 h35 tk35 k35 => ?_
    have Z35 := Z34.stays k35
    refine flat_N s h35 rfl rfl rfl rfl fun tk35' => ?_
    refine N_args_nil ⟨X.keeps Z35.F.keep, ?_⟩
    refine reduce_ok (Ok.of B Z35.F X T rfl rfl) (by ktr_room) (by ktr_units) ((runL_length _ _).trans hr5) (hD33.isList.at fun o e => k35 _ o (k34 _ o e)) hI33 (wires_drop hnn cn) fun t36 h36 tk36 k36 => ?_
    exact ⟨⟨h36, _, rfl, fun b o e => k36 b o (k35 b o (k34 b o (k33 b o e)))⟩, t36, by rw [run_cut]⟩
  intro h32 tk32 ys32 hl32 hK32 F32 keep32
  have hK32' : BytesAre ys32 (([falling, row, row.reverse] : List (List UInt8)).map fun r => runL nn r) := by
    rw [hRn] at hK32; exact hK32
  have ka32 : ∀ b o, b ≠ L' → h31.get? b = some o → h32.get? b = some o := fun b o q e => keep32 b o q (fun z => Nat.ne_of_lt (Heap.lt_size e) (List.mem_singleton.mp z)) (Heap.get?_push_of_some _ e)
  have hl32' : h32.IsList (h31.objs.size + 1) ys32.toArray := by
    have := hl32.isList
    dsimp only at this
    rw [Heap.size_push] at this
    exact this
  have lKT : h₁.objs.size ≤ h31.objs.size + 1 := Nat.le_succ_of_le (Nat.le_trans lKR (Nat.le_of_lt lR31))
  have F32' : Fr s.heap L' h32 (fun z => if z = Str.ofString "told" then some (Value.ref (h31.objs.size + 1)) else m27 z) := by
    have := F32
    dsimp only at this
    rw [Heap.size_push] at this
    exact this
  have lKL : L' < h₁.objs.size := cf2 Z31.lt
  have Z32 := Z31.asg F32' (wr := []) (fun _ h => nomatch h) fun b o q _ e => ka32 b o q e
  have neK : ∀ b, h₁.objs.size ≤ b → b ≠ L' := fun b q z => Nat.not_lt.mpr q (z ▸ lKL)
  have hR32 : h32.IsList DR vR.toArray := hR31.at fun o e => ka32 _ o (neK _ lKR) e
  have hp32 : h32.IsList pa (as.map Value.ref).toArray := hp31.at fun o e => ka32 _ o (neK _ lKp) e
  have hA32 := hA31.stable fun b o q e => ka32 b o (neK b q) e
  have hmT : (fun z => if z = Str.ofString "told" then some (Value.ref (h31.objs.size + 1)) else m27 z) (Str.ofString "told") = some (.ref (h31.objs.size + 1)) := if_pos rfl
  have hmR4 : (fun z => if z = Str.ofString "told" then some (Value.ref (h31.objs.size + 1)) else m27 z) (Str.ofString "rows") = some (.ref DR) := (if_neg (by decide)).trans hmR
  have hmr4 : (fun z => if z = Str.ofString "told" then some (Value.ref (h31.objs.size + 1)) else m27 z) (Str.ofString "row") = some (.bytes row.toArray t15) := (if_neg (by decide)).trans hmr3
  have hmb4 : (fun z => if z = Str.ofString "told" then some (Value.ref (h31.objs.size + 1)) else m27 z) (Str.ofString "back") = some (.bytes (falling ++ row.reverse ++ row).toArray t21) := (if_neg (by decide)).trans hmb3
  clear hK32 hl32 F32 F32' keep32 ka32 Z31 hR31 hp31 hA31 hN31 hmR hmr3 hmb3 hN9
  refine flat_N s h32 rfl rfl rfl rfl fun tk32' => ?_
  generalize (fun z => if z = Str.ofString "told" then some (Value.ref (h31.objs.size + 1)) else m27 z) = m32 at Z32 hmT hmR4 hmr4 hmb4
  generalize h31.objs.size + 1 = DT at hl32' hmT lKT
  -- the test
  refine N_execs (N_IfN (N_isTrue_BoolOp (N_Or_cons (wpN_of (wpAny_isTrue_Not (isTrue_Call (Call_ ?_)))))))
  refine nmB (X.keeps Z32.F.keep) (T.keeps Z32.F.keep) (by k_is) boot_isinstance (by decide) rfl rfl rfl rfl (by decide) ?_
  refine PyProof.Rows.callWith_builtin1 ?_
  refine args_cons (Z32.ldL hmb4 (args_cons ?_))
  refine nmB (X.keeps Z32.F.keep) (T.keeps Z32.F.keep) (by k_is) boot_bytes (by decide) rfl rfl rfl rfl (by decide) ?_
  refine args_nil (call_isinstance_yes (Tx := "bytes") (T := "bytes") (typeIs_bytes _ _ _) (kitMeta_of (by decide +kernel)) F.bm_sub (wpAny_truthy_bool ?_))
  refine ite_not (by decide) ?_
  refine N_Or_cons (N_isTrue_Compare1 (wpN_of (Z32.ldL hmT ?_)))
  refine N_G (evalL rfl rfl ?_ ?_ rfl (fun _ => rfl) ?_)
  · decide
  · decide
  refine disp_tuple (args_cons (Call_ ?_))
  refine nmB (X.keeps Z32.F.keep) (T.keeps Z32.F.keep) (by k_is) boot_bytes (by decide) rfl rfl rfl rfl (by decide) ?_
  refine PyProof.Rows.callWith_type1 ?_
  refine args_cons (disp_list (args_cons (wpAny_Constant_int (args_cons (wpAny_Constant_int (args_cons (wpAny_Constant_int (args_cons (wpAny_Constant_int (args_cons (wpAny_Constant_int (args_nil ⟨Nat.le_of_ble_eq_true rfl, fun h33 hl33 k33 => ?_⟩))))))))))))
  refine args_nil (bytes_fall rfl hl33.isList ints5 fun h34 t34 tk34 k34 => ?_)
  dsimp only at k33 k34
  have ka34 : ∀ b o, h32.get? b = some o → h34.get? b = some o := fun b o e => k34 b o (k33 b o e)
  have Z34 := Z32.stays ka34
  refine flat_A s h34 rfl rfl rfl rfl fun tk34' => ?_
  refine args_cons (Z34.ldL hmr4 (args_cons (Subscript_ (Z34.ldL hmr4 (wpAny_Slice (wpAny_pure (wpAny_pure (wpAny_UnaryOp (wpAny_Constant_int (neg_int ?_)))))))))) 
  refine slice_rev (s₀ := ⟨_, _, _, _, _⟩) (le5 hrl) fun h35 t35 tk35 k35 => ?_
  refine flat_A s h35 rfl rfl rfl rfl fun tk35' => ?_
  refine args_nil ⟨Nat.le_of_ble_eq_true rfl, fun h36 hl36 k36 lt36 => ?_⟩
  have hB36 := three_are (a := t34) (b := t15) (c := t35) (x := falling) (y := row) (z := row.reverse)
  dsimp only at hl36 k36 lt36
  have hl36' : h36.IsTuple h35.objs.size [Value.bytes falling.toArray t34, Value.bytes row.toArray t15, Value.bytes row.reverse.toArray t35].toArray := hl36
  generalize [Value.bytes falling.toArray t34, Value.bytes row.toArray t15, Value.bytes row.reverse.toArray t35] = vT at hB36 hl36'
  have ka36 : ∀ b o, h32.get? b = some o → h36.get? b = some o := fun b o e => k36 b o (k35 b o (ka34 b o e))
  have Z36 := Z32.stays ka36
  have hT36 : h36.IsList DT ys32.toArray := hl32'.at fun o e => ka36 _ o e
  have hR36 : h36.IsList DR vR.toArray := hR32.at fun o e => ka36 _ o e
  have hp36 : h36.IsList pa (as.map Value.ref).toArray := hp32.at fun o e => ka36 _ o e
  have hA36 := hA32.stable fun b o _ e => ka36 b o e
  clear Z32 hl32' hR32 hp32 hA32 Z34 k33 k34 ka34 k35 k36 ka36 hl33 hl36
  refine wpAny_pyIter_tuple hl36' ?_
  have hTn : vT.toArray.size = 3 := by rw [List.size_toArray, hB36.length]; rfl
  dsimp only
  refine ⟨_, [h36.objs.size], _, _, rfl, obRowsB (rs := [falling, row, row.reverse]) (fun r => runL nn r) (Walks.tuple rfl h36.objs.size h35.objs.size (Nat.ne_of_lt lt36) vT.toArray) ⟨⟨_, Heap.get?_push_size _ rfl, rfl, rfl⟩, hl36'.push _⟩ (fp_lt lt36) (by rw [hTn]; decide) (fun i v q => hB36.at i v (by simpa using q)) ?_, ?_⟩
  · intro i r t h37 tk37 hr hE hsz keep
    obtain ⟨m37, hn37, hm37⟩ := hE
    have ka37 : ∀ b o, h36.get? b = some o → h37.get? b = some o := fun b o e => keep b o (fun q => Nat.ne_of_lt (Heap.lt_size e) (List.mem_singleton.mp q)) (Heap.get?_push_of_some _ e)
    have Z37 := Z36.stays ka37
    have hr5 := r3 hrl hr
    refine G_N (flat_N s h37 rfl rfl rfl rfl fun tk37' => ?_)
    refine N_Call (nmK (X.keeps Z37.F.keep) (T.keeps Z37.F.keep) (by k_is) rfl rfl rfl (by decide) ?_)
    refine N_callWithK (K := Mine.hd.heap_39 w.params) (by k_is) (N_args (wpN_of (nmL hn37 hm37 rfl rfl (by decide) ?_)))
    refine N_args (wpN_of (Z37.ldC 3 rfl ?_))
    refine N_args_nil ⟨X.keeps Z37.F.keep, ?_⟩
    refine due_ok (Ok.of B Z37.F X T rfl rfl) (by ktr_room) hr5.1 (hp36.at fun o e => ka37 _ o e) (hA36.stable fun b o _ e => ka37 b o e) (paths_len nn).1 (paths_len nn).2 fun t38 h38 tk38 k38 => ?_
    exact ⟨⟨h38, _, rfl, fun b o e => k38 b o e⟩, t38, by rw [due_is hnn hr5.1 (hr5.2 hr6)]⟩
  intro h37 tk37 ys37 hl37 hK37 keep37
  have hK37' : BytesAre ys37 (([falling, row, row.reverse] : List (List UInt8)).map fun r => runL nn r) := by
    rw [hTn] at hK37; exact hK37
  have ka37 : ∀ b o, h36.get? b = some o → h37.get? b = some o := fun b o e => keep37 b o (fun z => Nat.ne_of_lt (Heap.lt_size e) (List.mem_singleton.mp z)) (Heap.get?_push_of_some _ e)
  have Z37 := Z36.stays ka37
  have hT37 : h37.IsList DT ys32.toArray := hT36.at fun o e => ka37 _ o e
  have hR37 : h37.IsList DR vR.toArray := hR36.at fun o e => ka37 _ o e
  have hl37' := hl37.isList
  clear Z36 hT36 hR36 hp36 hA36 hK37 keep37 hl37 hl36' ka37
  refine wpN_of (ne_lists hT37 hl37' (by rw [List.size_toArray, List.size_toArray, hK32'.length, hK37'.length]) (by ktr_units) (hK32'.at2 hK37' _ _) (wpN_of (wpAny_truthy_bool ?_)))
  refine ite_not (by decide) ?_
  refine N_Or_nil (ite_not (by decide) ?_)
  refine N_execs_nil ?_
  refine flat_N s h37 rfl rfl rfl rfl fun tk37' => ?_
  clear hl37' hK37' hB36 hTn lt36 hmb4 hmr4
  -- short
  obtain ⟨t0, ht0⟩ := bytes_first hK32'
  refine N_execs (N_Assign (N_Call (nmK (X.keeps Z37.F.keep) (T.keeps Z37.F.keep) (by k_is) rfl rfl rfl (by decide) ?_)))
  refine N_callWithK (K := Mine.hd.heap_39 w.params) (by k_is) (N_args (wpN_of (Subscript_ (Z37.ldL hmT (wpAny_Constant_int ?_)))))
  refine PyProof.Rows.item_list hT37 (by decide) (by decide) (x := .bytes (runL nn falling).toArray t0) (by simpa using ht0) ?_
  refine N_args_nil ⟨X.keeps Z37.F.keep, ?_⟩
  refine read_ok (Ok.of B Z37.F X T rfl rfl) (by ktr_room) (by ktr_units) (runL_length _ _) fun sa sv h38 tk38 k38 los hS38 hSi => ?_
  dsimp only at k38 los
  have lKs : h₁.objs.size ≤ h37.objs.size := Nat.le_trans lKT (Nat.le_of_lt (by obtain ⟨_, e, _⟩ := hT37; exact Heap.lt_size e))
  have Z38 := Z37.stays k38
  have hT38 : h38.IsList DT ys32.toArray := hT37.at fun o e => k38 _ o e
  have hR38 : h38.IsList DR vR.toArray := hR37.at fun o e => k38 _ o e
  clear Z37 hT37 hR37 k38
  obtain ⟨hwo, hrun⟩ := off_ok hnn
  generalize readOff (runL nn falling) = off at hSi hwo hrun
  have lKS : h₁.objs.size ≤ sa := Nat.le_trans lKs los
  refine wpN_of (CF.stC Z38 5 (by simp) fun h39 Z39 k39 => ?_)
  dsimp only [List.set] at Z39
  have hT39 : h39.IsList DT ys32.toArray := hT38.at fun o e => k39 _ o lKT e
  have hR39 : h39.IsList DR vR.toArray := hR38.at fun o e => k39 _ o lKR e
  have hS39 : h39.IsList sa sv.toArray := hS38.at fun o e => k39 _ o lKS e
  clear Z38 hT38 hR38 hS38 k39 los
  refine flat_N s h39 rfl rfl rfl rfl fun tk39 => ?_
  -- again
  have lK39 : L' < h39.objs.size := Z39.F.ns.lt
  have lR39 : DR < h39.objs.size := by obtain ⟨_, e, _⟩ := hR39; exact Heap.lt_size e
  have hI39 : s.heap.get? h39.objs.size = none := next_is_new Z39.F
  refine N_execs (N_G (asgL (h₀ := s.heap) rfl rfl rfl ?_ ?_ rfl (fun _ => rfl) rfl rfl ?_))
  · decide
  · decide
  refine Z39.ldL hmR4 (wpAny_pyIter_list hR39 ?_)
  refine ⟨_, [h39.objs.size], _, _, _, rfl, Z39.F.push _, fun q => Nat.ne_of_lt lK39 (List.mem_singleton.mp q), fun b hb => by rw [List.mem_singleton.mp hb]; exact hI39,
    obRowsL (rs := [falling, row, row.reverse]) (fun r => natsOf (runL nn r)) (Walks.list rfl h39.objs.size DR (Nat.ne_of_lt lR39) vR.toArray) ⟨⟨_, Heap.get?_push_size _ rfl, rfl, rfl⟩, hR39.push _⟩ (fp_lt lR39) (by rw [hRn]; decide) (Nat.le_add_right _ _) (wr_lt) (fun i v q => hB.at i v (by simpa using q)) ?_, ?_, ?_⟩
  · intro i r t h40 tk40 hr hE hsz keep
    obtain ⟨m40, hn40, hm40⟩ := hE
    have ka40 : ∀ b o, h39.get? b = some o → h40.get? b = some o := fun b o e => keep b o (fun q => Nat.ne_of_lt (Heap.lt_size e) (List.mem_singleton.mp q)) (Heap.get?_push_of_some _ e)
    have Z40 := Z39.stays ka40
    have hS40 : h40.IsList sa sv.toArray := hS39.at fun o e => ka40 _ o e
    have hr5 := (r3 hrl hr).1
    refine G_N (flat_N s h40 rfl rfl rfl rfl fun tk40' => ?_)
    refine N_Call (nmB (X.keeps Z40.F.keep) (T.keeps Z40.F.keep) (by k_is) boot_listM (by decide) rfl rfl rfl rfl (by decide) ?_)
    refine N_callWithT (N_args (N_Call (nmK (X.keeps Z40.F.keep) (T.keeps Z40.F.keep) (by k_is) rfl rfl rfl (by decide) ?_)))
    refine N_callWithK (K := Mine.hd.heap_39 w.params) (by k_is) (N_args (wpN_of (nmK (X.keeps Z40.F.keep) (T.keeps Z40.F.keep) (by k_is) rfl rfl rfl (by decide) ?_)))
    refine N_args (wpN_of (Z40.ldC 5 rfl ?_))
    refine N_args (wpN_of (nmL hn40 hm40 rfl rfl (by decide) ?_))
    refine N_args_nil ⟨X.keeps Z40.F.keep, ?_⟩
    refine reduce_ok (Ok.of B Z40.F X T rfl rfl) (by ktr_room) (by ktr_units) hr5 hS40 hSi hwo fun t41 h41 tk41 k41 => ?_
    have hlt42 := (hn40.keeps k41).lt
    refine flat_N s h41 rfl rfl rfl rfl fun tk41' => ?_
    refine N_args_nil (wpN_of (list_bytes rfl (le5 ((runL_length _ _).trans hr5)) fun h42 tk42 us42 k42 hl42 hi42 => ?_))
    refine ⟨⟨h42, _, rfl, fun b o e => k42 b o (k41 b o e)⟩, _, us42, rfl, hlt42, fun b o e => Heap.lt_size (k41 b o e), hl42, ?_⟩
    rw [hrun r hr5] at hi42
    exact hi42
  · rintro i ys h h' ⟨as9, e9, hA9⟩ hs9
    refine ⟨as9, e9, hA9.stable fun b o q e => (hs9.2 b (fun z => ?_)).trans e⟩
    rw [z] at q
    exact again_abs lK39 q
  intro h40 tk40 ys40 hl40 hK40 F40 keep40
  obtain ⟨aA, rfl, hAA⟩ := hK40
  have hAA' : ListsAt (h39.objs.size + 1) h40 aA ((([falling, row, row.reverse] : List (List UInt8)).map fun r => natsOf (runL nn r))) := by
    rw [hRn] at hAA
    exact hAA.low (by dsimp only; rw [Heap.size_push]; exact Nat.le_add_right _ _)
  have ka40 : ∀ b o, b ≠ L' → h39.get? b = some o → h40.get? b = some o := fun b o q e => keep40 b o q (fun z => Nat.ne_of_lt (Heap.lt_size e) (List.mem_singleton.mp z)) (Heap.get?_push_of_some _ e)
  have hl40' : h40.IsList (h39.objs.size + 1) (aA.map Value.ref).toArray := by
    have := hl40.isList
    dsimp only at this
    rw [Heap.size_push] at this
    exact this
  have F40' : Fr s.heap L' h40 (fun z => if z = Str.ofString "again" then some (Value.ref (h39.objs.size + 1)) else m32 z) := by
    have := F40
    dsimp only at this
    rw [Heap.size_push] at this
    exact this
  have Z40 := Z39.asg F40' (wr := []) (fun _ h => nomatch h) fun b o q _ e => ka40 b o q e
  have hT40 : h40.IsList DT ys32.toArray := hT39.at fun o e => ka40 _ o (neK _ lKT) e
  have hmA : (fun z => if z = Str.ofString "again" then some (Value.ref (h39.objs.size + 1)) else m32 z) (Str.ofString "again") = some (.ref (h39.objs.size + 1)) := if_pos rfl
  have hmT2 : (fun z => if z = Str.ofString "again" then some (Value.ref (h39.objs.size + 1)) else m32 z) (Str.ofString "told") = some (.ref DT) := (if_neg (by decide)).trans hmT
  clear hAA hl40 F40 F40' keep40 ka40 Z39 hT39 hR39 hS39 hmR4 hmT hSi hwo hrun
  refine flat_N s h40 rfl rfl rfl rfl fun tk40' => ?_
  generalize (fun z => if z = Str.ofString "again" then some (Value.ref (h39.objs.size + 1)) else m32 z) = m40 at Z40 hmA hmT2
  generalize h39.objs.size + 1 = DA at hl40' hmA hAA'
  -- the answer
  refine wpN_of (wpAny_execs_cons (wpAny_Return_some (wpAny_Compare1 (Call_ ?_))))
  refine nmK (X.keeps Z40.F.keep) (T.keeps Z40.F.keep) (by k_is) rfl rfl rfl (by decide) ?_
  refine callWith_K (K := Mine.hd.heap_39 w.params) (X.keeps Z40.F.keep) (by k_is) ?_
  refine args_cons (Z40.ldL hmA (args_cons (any_G (evalL rfl rfl ?_ ?_ rfl (fun _ => rfl) ?_))))
  · decide
  · decide
  have lT40 : DT < h40.objs.size := by obtain ⟨_, e, _⟩ := hT40; exact Heap.lt_size e
  have hYn : ys32.toArray.size = 3 := by rw [List.size_toArray, hK32'.length]; rfl
  refine Z40.ldL hmT2 (wpAny_pyIter_list hT40 ?_)
  refine ⟨_, [h40.objs.size], _, _, rfl, obRowsL (rs := ([falling, row, row.reverse] : List (List UInt8)).map fun r => runL nn r) natsOf (Walks.list rfl h40.objs.size DT (Nat.ne_of_lt lT40) ys32.toArray) ⟨⟨_, Heap.get?_push_size _ rfl, rfl, rfl⟩, hT40.push _⟩ (fp_lt lT40) (by rw [hYn]; decide) (Nat.le_add_right _ _) (wr_lt) (fun i v q => hK32'.at i v (by simpa using q)) ?_, ?_⟩
  · intro i r t h41 tk41 hr hE hsz keep
    obtain ⟨m41, hn41, hm41⟩ := hE
    have ka41 : ∀ b o, h40.get? b = some o → h41.get? b = some o := fun b o e => keep b o (fun q => Nat.ne_of_lt (Heap.lt_size e) (List.mem_singleton.mp q)) (Heap.get?_push_of_some _ e)
    have Z41 := Z40.stays ka41
    refine G_of (Call_ ?_)
    refine nmB (X.keeps Z41.F.keep) (T.keeps Z41.F.keep) (by k_is) boot_listM (by decide) rfl rfl rfl rfl (by decide) ?_
    refine PyProof.Rows.callWith_type1 ?_
    refine args_cons (nmL hn41 hm41 rfl rfl (by decide) (args_nil (list_bytes rfl (le5 (r3run hrl hr)) fun h42 tk42 us42 k42 hl42 hi42 => ?_)))
    exact ⟨⟨h42, _, rfl, fun b o e => k42 b o e⟩, _, us42, rfl, hn41.lt, fun b o e => Heap.lt_size e, hl42, hi42⟩
  intro h41 tk41 ys41 hl41 hK41 keep41
  obtain ⟨aB, rfl, hAB⟩ := hK41
  have hAB' : ListsAt 0 h41 aB ((([falling, row, row.reverse] : List (List UInt8)).map fun r => natsOf (runL nn r))) := by
    rw [hYn] at hAB
    exact hAB.low (Nat.zero_le _)
  have ka41 : ∀ b o, h40.get? b = some o → h41.get? b = some o := fun b o e => keep41 b o (fun z => Nat.ne_of_lt (Heap.lt_size e) (List.mem_singleton.mp z)) (Heap.get?_push_of_some _ e)
  have Z41 := Z40.stays ka41
  refine args_nil ⟨X.keeps Z41.F.keep, ?_⟩
  refine tw_lists (Ok.of B Z41.F X T rfl rfl) (by ktr_room) (by ktr_units) (hl40'.at fun o e => ka41 _ o e) hl41.isList (two_len hAA' hAB') (fun A s' k hu j h1 h2 => lists_at2 hAA' hAB' (fun b o e => k b o (ka41 b o e)) k hu j h1 h2) fun t42 h42 tk42 k42 => ?_
  refine wpAny_Constant_int (PyProof.Rows.eq_int ?_)
  exact hret _ _ fun b o e => k42 b o (Z41.F.keep b o e)
end Mine
end

section
open PySem PySem.W PyProof.Rows PySem.Calls
set_option maxRecDepth 100000
set_option maxHeartbeats 2000000
namespace Mine
theorem mg_law {w : World} {mg : Nm} {h : Heap} (X : (hd.heap_39 w.params).In h) (T : h.Ns mainGlobals mg) : mg (Str.ofString "law") = some (.ref 64) := mg_of X T (by k_is)
theorem good_true {args : List WData} {cl : PySem.Str → Option Addr} {mean : ExcName → Option Value} {s₁ : Shared} {h' : Heap} {tk : Nat} (hg : s₁.gens = #[]) (k : s₁.heap.StaysIn h') :
    GoodWG PySem.Challenge.rw_oy0011_01.row.claim cl mean args s₁ (.ok (.ret (.bool true))) { s₁ with heap := h', toks := tk } :=
  GoodW.toG ⟨.inl ⟨.bool true, .bool true, [], rfl, fun _ => rfl, .bool true, by first | (with_unfolding_all rfl) | (kernel_rfl) | (simp [RowW.claim, OpenRow.toRowW, OpenLaw.row, WTm.value]; done), fun _ => ⟨List.nodup_nil, fun _ h => nomatch h⟩⟩, k, rfl, hg⟩
end Mine
theorem PySem.Challenge.cw_oy0011_01_holds : PySem.Challenge.rw_oy0011_01.Holds := by
  refine Mine.hd ?_
  intro w s₀ s₁ mg mb G Y fa o pm cd doc dV kV ho hd hcd hD hmg hg args vals as hpre hlay hrd hwl hlo
  have KX := kIn_of Y
  have hmg' : mg (Str.ofString "law") = some (.ref fa) := hmg
  refine Ground.open G ?_
  intro T B D TE TW
  rw [Mine.mg_law KX T.g] at hmg'
  obtain rfl : (64 : Addr) = fa := by injection hmg' with e; injection e
  clear ho hd hcd hD hmg hmg' D TE TW B G Y
  wrow_args hpre hlay hrd hwl hlo
  rename IntsAre _ _ => hI
  rename s₁.heap.IsList _ _ => hL
  rename ¬ _ < _ => hlen
  refine Mine.wpC_mono (Mine.law_ok (dp := 1 + claimMargin) (un := 4) (gd := some []) (outer := []) ⟨⟨rfl, fun _ _ e => e, trivial⟩, KX, T⟩ (by decide) (by decide) hL hI (by omega) fun h' tk' k => ?_) (fun v s' h => h) (fun _ _ h => h.elim)
  exact Mine.good_true hg k
end
