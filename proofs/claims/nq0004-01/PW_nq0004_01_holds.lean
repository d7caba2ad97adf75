import PyProof.Rows.All
import Wide.All
import OpenK.AllK
import Wide.FinOn
import PySem.Challenge.RW_nq0004_01
set_option Elab.async false

section NqLogicPart
open PySem PySem.W PyProof.Rows
namespace Nq
open Sem (wp)

/-- a code that holds a bytearray by its first argument: the one thing that bytearray's init asks of the stack and that an Around does not tell -/
def badCode : Code → Bool
  | .builtin id _ => Builtin.Bytes.decodersThatHold.contains id
  | _ => false

def Clean (Γ : Ctx) : Prop := badCode Γ.code = false ∧ ∀ x ∈ Γ.below, badCode x.1 = false

/-- as wpAny, over the stacks without such a code (b = true), or over all (b = false); nothing is raised -/
def wpS {α : Type} (b : Bool) (M : Model) (A : Around) (t : Sem α) (Q : α → Shared → Prop) (s : Shared) : Prop :=
  ∀ Γ p, Γ.In A → (b = true → Clean Γ) → wp M Γ t (fun a _ s' => Q a s') (fun _ _ _ => False) p s

def codeS (b : Bool) (M : Model) (A : Around) (c : Code) (R : Flow → Shared → Prop) (s : Shared) : Prop :=
  ∀ Γ p, Γ.code = c → Γ.Below A → (b = true → ∀ x ∈ Γ.below, badCode x.1 = false) → wpCode M Γ (fun r s' => ∃ f, r = .ok f ∧ R f s') p s

section
variable {α β : Type} {b : Bool} {M : Model} {A : Around} {s : Shared}

theorem wpS.of_any {t : Sem α} {Q : α → Shared → Prop} (h : wpAny M A t Q (fun _ _ => False) s) : wpS b M A t Q s := fun Γ p hΓ _ => h Γ p hΓ
theorem wpS.any {t : Sem α} {Q : α → Shared → Prop} {E : Value → Shared → Prop} (h : wpS false M A t Q s) : wpAny M A t Q E s :=
  fun Γ p hΓ => Sem.wp_mono M Γ t (fun _ _ _ x => x) (fun _ _ _ x => x.elim) p s (h Γ p hΓ (fun x => by cases x))
theorem wpS.weak {t : Sem α} {Q : α → Shared → Prop} (h : wpS false M A t Q s) : wpS b M A t Q s := fun Γ p hΓ _ => h Γ p hΓ (fun x => by cases x)
theorem wpS.mono {t : Sem α} {Q Q' : α → Shared → Prop} (h : wpS b M A t Q s) (hQ : ∀ a s', Q a s' → Q' a s') : wpS b M A t Q' s :=
  fun Γ p hΓ hc => Sem.wp_mono M Γ t (fun a _ s' x => hQ a s' x) (fun _ _ _ x => x) p s (h Γ p hΓ hc)
theorem wpS.pure {a : α} {Q : α → Shared → Prop} (h : Q a s) : wpS b M A (Pure.pure a) Q s := fun _ _ _ _ => h
theorem wpS.bind {m : Sem α} {f : α → Sem β} {Q : β → Shared → Prop} (h : wpS b M A m (fun a s' => wpS b M A (f a) Q s') s) : wpS b M A (m >>= f) Q s :=
  fun Γ p hΓ hc => by
    rw [Sem.wp_bind']
    exact Sem.wp_mono M Γ m (fun a p' s' x => x Γ p' hΓ hc) (fun _ _ _ x => x) p s (h Γ p hΓ hc)
theorem wpS.bindAny {m : Sem α} {f : α → Sem β} {Q : β → Shared → Prop} (h : wpAny M A m (fun a s' => wpS b M A (f a) Q s') (fun _ _ => False) s) : wpS b M A (m >>= f) Q s :=
  wpS.bind (wpS.of_any h)
theorem wpS.ofEq {t t' : Sem α} {Q : α → Shared → Prop} (e : t = t') (h : wpS b M A t' Q s) : wpS b M A t Q s := e ▸ h
theorem wpS.holding {vs : List Value} {m : Sem α} {Q : α → Shared → Prop} (h : wpS b M A m Q s) : wpS b M A (PySem.holding vs m) Q s :=
  fun Γ p hΓ hc => by rw [Sem.wp_holding]; exact h Γ p hΓ hc
theorem wpS.onRaise {m : Sem α} {k : Value → Sem Unit} {Q : α → Shared → Prop} (h : wpS b M A m Q s) : wpS b M A (m.onRaise k) Q s :=
  fun Γ p hΓ hc => by
    rw [Sem.wp_onRaise]
    exact Sem.wp_mono M Γ m (fun _ _ _ x => x) (fun _ _ _ x => x.elim) p s (h Γ p hΓ hc)
theorem wpS.attempt {m : Sem α} {Q : Except Value α → Shared → Prop} (h : wpS b M A m (fun a => Q (.ok a)) s) : wpS b M A m.attempt Q s :=
  fun Γ p hΓ hc => by
    rw [Sem.wp_attempt]
    exact Sem.wp_mono M Γ m (fun _ _ _ x => x) (fun _ _ _ x => x.elim) p s (h Γ p hΓ hc)
theorem wpS.standAt {pos : Pos} {Q : Unit → Shared → Prop} (h : Q () s) : wpS b M A (PySem.standAt pos) Q s := fun _ _ _ _ => h
theorem wpS.point {Q : Unit → Shared → Prop} (h : Q () s) : wpS b M A PySem.point Q s := fun _ _ _ _ => h

theorem codeS.mono {c : Code} {R R' : Flow → Shared → Prop} (h : codeS b M A c R s) (hR : ∀ f s', R f s' → R' f s') : codeS b M A c R' s :=
  fun Γ p hc hΓ hk => wpCode_mono (fun _ s' ⟨f, e, x⟩ => ⟨f, e, hR f s' x⟩) (h Γ p hc hΓ hk)
theorem codeS.of_any {c : Code} {R : Flow → Shared → Prop} (h : codeAny M A c (fun r s' => ∃ f, r = .ok f ∧ R f s') s) : codeS b M A c R s := fun Γ p hc hΓ _ => h Γ p hc hΓ

theorem wpS.run {c : Code} {Q : Flow → Shared → Prop} (hc : codeS b M A c Q s) : wpS b M A (PySem.run c) Q s := fun Γ p hΓ hk => by
  rw [Sem.wp_run]
  refine wpCode_mono (fun r s' x => ?_) (hc (Γ.enter c none p) p rfl (hΓ.enter c none p (by intro x; cases x)) fun hb x hx => ?_)
  · obtain ⟨f, rfl, y⟩ := x; exact y
  · rcases List.mem_cons.mp hx with rfl | hx
    · exact (hk hb).1
    · exact (hk hb).2 x hx
theorem wpS.runValue {c : Code} {Q : Value → Shared → Prop} (hc : codeS b M A c (fun f s' => ∃ v, f = .ret v ∧ Q v s') s) : wpS b M A (PySem.runValue c) Q s := by
  unfold PySem.runValue
  refine wpS.bind (wpS.run (codeS.mono hc fun f s' x => ?_))
  obtain ⟨v, rfl, y⟩ := x
  exact wpS.pure y
theorem wpS.call {f : Value} {pos : List Value} {Q : Value → Shared → Prop} (hc : codeS b M A (.call f ⟨pos, []⟩) (fun f s' => ∃ v, f = .ret v ∧ Q v s') s) :
    wpS b M A (PySem.call f pos []) Q s := wpS.runValue hc
theorem wpS.runOwn {c : Code} {env : Env} {Q : Flow → Shared → Prop} (hc : codeS b M A c Q s) : wpS b M A (PySem.runOwn c env) Q s := by
  unfold PySem.runOwn
  exact wpS.onRaise (wpS.run hc)

theorem codeS.of_tree {c : Code} {R : Flow → Shared → Prop} (hb : badCode c = false)
    (h : wpS b M (A.under c) (M.den c) (fun fin s' => match fin with | .done f => R f s' | .again c' => c'.quiet = true ∧ codeS b M A c' R s') s) : codeS b M A c R s :=
  fun Γ p hc hΓ hk => by
    rw [wpCode_iff_wp, hc]
    refine Sem.wp_mono M Γ _ (fun fin p' s' x => ?_) (fun _ _ _ x => x.elim) p s (h Γ p (hc ▸ hΓ.in) fun q => ⟨hc ▸ hb, hk q⟩)
    cases fin with
    | done f => exact ⟨f, rfl, x⟩
    | again c' => exact ⟨x.1, x.2 (Γ.goto c') p' rfl (hΓ.goto c') hk⟩

theorem codeS.loop {c : Code} {R : Flow → Shared → Prop} (hb : badCode c = false) (hq : c.quiet = true) (I : Nat → Shared → Prop)
    (turn : ∀ n s, I n s → wpS b M (A.under c) (M.den c) (fun fin s' => match fin with | .done f => R f s' | .again c' => c' = c ∧ ∃ m, m < n ∧ I m s') s)
    (n : Nat) (h : I n s) : codeS b M A c R s := by
  induction n using Nat.strongRecOn generalizing s with
  | ind n ih =>
    refine codeS.of_tree hb ((turn n s h).mono fun fin s' x => ?_)
    cases fin with
    | done f => exact x
    | again c' => obtain ⟨rfl, m, hm, hI⟩ := x; exact ⟨hq, ih m hm hI⟩
end
end Nq
end NqLogicPart

section NqHeadPart
open PySem PySem.W PySem.Calls PyProof.Rows
namespace Nq
open Sem (wp)

theorem clean_caller : Clean ⟨.builtin "claim.caller" {}, none, none, [], none⟩ := ⟨by decide +kernel, fun _ h => nomatch h⟩

/-- a thread at the claim's caller, whose tree is known over clean stacks alone, ends -/
theorem ends_clean {prog : Program} {w : World} {t : Sem Fin} {s : Shared} {R : Result → Shared → Prop} (hz : s.asleep)
    (h : wpS true (model prog w) callerA t (fun fin s' => ∃ f, fin = .done f ∧ R (.ok f) s' ∧ leftWithCleanup s'.gens = false) s) :
    ∃ n r s' s'', schedN (denote table) prog w n (.single s ⟨t, .builtin "claim.caller" {}, default, []⟩) = .halted (outcomeOf r) s'' ∧
      runN (denote table) prog w n s ⟨t, .builtin "claim.caller" {}, default, []⟩ = .halted (outcomeOf r) s'' ∧ s''.forget = s'.forget ∧ R r s' :=
  wp_halts_full (M := model prog w) (R := R) hz (Sem.wp_mono _ _ t (fun fin _ s' x => by obtain ⟨f, rfl, y⟩ := x; exact y) (fun _ _ _ x => x.elim) default s (h _ default caller_in fun _ => clean_caller))

abbrev WalkS (q : Program) (loose : List Str) (XP : (Str → Option Value) → Heap → Prop) (YP : World → Heap → Prop) (r : RowW) (d : DefRec) (kwd : List (Str × Expr)) : Prop :=
  ∀ (w : World) (s₀ s₁ : Shared) (mg mb : Str → Option Value), Ground q loose r.records XP w s₀ mg mb s₁.heap → YP w s₁.heap → ∀ (a : Addr) (o : Obj) (pm cd doc dV kV : Value), s₁.heap.get? a = some o →
    o.data = .func { docDef d.name d.params d.body d.scope pm cd doc with defaults := dV, kwdefaults := kV } → s₁.heap.CodeRec cd d.name → Dflts mg s₁.heap d.params kwd dV kV → mg d.name = some (.ref a) → s₁.gens = #[] →
    ∀ (args : List WData) (vals : List Value) (as : List Addr), r.claim.pre args = true → WData.layableAll args = true → ReadsAllW r.records (classAt s₀.heap) s₁.heap vals args as → WellAll w.params s₁.heap vals args → (∀ a ∈ as, (a == sysModules) = false) →
      wpS true (model r.prog w) callerA (PySem.call (.ref a) vals) (fun v s' => GoodWG r.claim (classAt s₀.heap) (ExcName.means s₀.heap) args s₁ (.ok (.ret v)) s') s₁
end Nq

namespace NqT
open Nq
/-- the library's head of an open row, over clean stacks: o_head finds it by this name -/
theorem PySem.W.holds_open {r : OpenRow} {q : Program} {loose : List Str} {Xt : Shared → Bool} {XP : (Str → Option Value) → Heap → Prop} {α : Type} {Yf : Shared → α} {Ya : World → α} {YP : World → Heap → Prop} {d : DefRec} {kwd : List (Str × Expr)} {N : Nat}
    (left : LeftO r.prog q loose Xt Yf Ya N) (hY : ∀ w s, Yf s = Ya w → YP w s.heap) (hYk : ∀ w h h', YP w h → (∀ b o, h.get? b = some o → h'.get? b = some o) → YP w h')
    (hX : ∀ s, Xt s = true → XP (s.heap.nsMap mainGlobals) s.heap) (hXk : ∀ mg h h', XP mg h → (∀ b o, h.get? b = some o → h'.get? b = some o) → XP mg h')
    (hdef : defOf q r.name = some (d, kwd)) (hp : r.prog.theDef r.name = some (d.params, d.body, d.scope)) (hk : kwWritten? d.params.kwonlyargs d.params.kw_defaults = some kwd) (hRf : ∀ s, Xt s = true → RecFacts r.records s.heap) (hwr : (!r.writes || r.records.isEmpty) = true)
    (said : r.wellSaid = true) (ok : (chainsOk q && opensWell r.prog && (frees r.toRowW && r.within.isEmpty)) = true) (hb : r.prog.bare) (hw : r.toRowW.promised)
    (walk : WalkS q loose XP YP r.toRowW d kwd) : r.Holds := by
  simp only [Bool.and_eq_true] at ok
  obtain ⟨⟨chains, opens⟩, fr, wi⟩ := ok
  obtain ⟨same, un, al, ap, mk⟩ := frees_parts fr
  have noWithin : r.toRowW.claim.within = [] := List.isEmpty_iff.mp wi
  have ident := ident_freeW un al ap
  refine ⟨said, hw, ⟨hb, opens, by show r.makers.map _ = []; rw [mk]; rfl⟩, hw.witness, fun w => ⟨(left.behind hX chains w).1, fun s' hs' => ?_⟩⟩
  obtain ⟨s₀, fence, none₀, s, ran, asleep, gens, isNs, G, y⟩ := (left.behind (XP := fun mg h => XP mg h ∧ RecFacts r.records h) (fun s hs => ⟨hX s hs, hRf s hs⟩) chains w).2 s' hs'
  have RF := G.X.2
  have G₀ : Ground q loose [] XP w s (s.heap.nsMap mainGlobals) (s.heap.nsMap builtinsNs) s.heap := { G with X := G.X.1 }
  have GR : Ground q loose r.records XP w s _ _ s.heap := RF.ground G₀
  have gens : s.gens = #[] := Array.eq_empty_of_size_eq_zero (beq_iff_eq.mp gens)
  refine ⟨s₀, fence, none₀, s, ran, fun n hn => ?_, RF.1, RF.2.1, fun args pre lay ord hord => ?_⟩
  · obtain rfl : n = r.name := by split at hn <;> simp_all
    exact pinned_of_view isNs G₀ hdef hp hk
  obtain ⟨⟨vs, s₁⟩, laid⟩ := Option.isSome_iff_exists.mp (layAllW_isSome (P := w.params) (ord := ord) GR.has args r.args s (pre_splitW pre).1)
  have kept := layAllW_keeps _ _ _ laid
  obtain ⟨rest1, _, rest3, rest4⟩ := layAllW_rest _ _ _ laid
  obtain ⟨as, reads, inn, old⟩ := reads_layAllW hord _ _ _ laid lay s₁.heap (fun _ _ e => e)
  have L : Laid r.records w s s₁ args vs as := ⟨⟨ord, hord, laid⟩, reads, inn, old, kept, rest1.trans gens, rest3⟩
  have G₁ := GR.keeps hXk kept
  obtain ⟨a, o, pm, cd, doc, dV, kV, f1, f2, f3, f4, f5⟩ := G₁.fn hdef
  have body := walk w s s₁ _ _ G₁ (hYk _ _ _ (hY w s y) kept) a o pm cd doc dV kV f2 f3 f4 f5 (defOf_name hdef ▸ f1) L.gens args vs as pre lay L.reads L.well (L.low GR.low)
  obtain ⟨n, res, t, t', sched, run, fo, ⟨ends, os⟩, nk⟩ := ends_clean (prog := r.prog) (w := w) (s := s₁)
    (t := do match ← nsGet mainNs r.name with
      | some f => do ret (← PySem.call f vs)
      | none => unsupported "claim.caller:no-such-global")
    (R := fun res t => (r.toRowW.claim.Ends s args vs s₁ res t ∧ t.os = s.os) ∧ (r.writes = true → namesKept r.prog r.keeps s.heap t.heap ∧ ∀ x ∈ r.records, ∀ a, classAt s.heap x.1 = some a → recordClass t.heap a x.1 (x.2.map (·.1)) = true))
    (Shared.asleep_of_life rest4 asleep) (wpS.bindAny (wpAny_nsGet G₁.T.g (by
      rw [show s.heap.nsMap mainGlobals r.name = some (.ref a) from f1]
      refine wpS.bind (body.mono fun v t g => wpS.pure ⟨_, rfl, ?_⟩)
      have z := g.laid (c := r.toRowW.claim) same noWithin ident L
      exact ⟨⟨⟨z.1, z.2.1⟩, fun q => ⟨namesKept_of ran isNs r.keeps kept g.2.1.old, noTable hwr q⟩⟩, leftWithCleanup_false_of_bare z.2.2⟩)))
  obtain ⟨eh, _, _, eo, _⟩ := Shared.forget_eq fo
  have life : t'.heap.life = s.heap.life := (runN_life _ _ _ run).trans rest4
  refine ⟨vs, s₁, laid, n, _, t', sched, ?_, (fun _ i x hx => by rw [gens] at hx; simp at hx), by rw [eh]; exact nk, by rw [life], Shared.rest_eq (eo.trans os)⟩
  rcases ends.congr eh with ⟨v, rfl, d1, d2, d3, d4, d5⟩ | ⟨e, ob, cls, rfl, d1, d2, d3, d4, d5⟩
  · exact .inl ⟨v, rfl, d1, d2, d3, fun b o y _ => d4 b o y, d5⟩
  · exact .inr ⟨e, ob, cls, rfl, d1, d2, d3, d4, fun b o y _ => d5 b o y⟩

set_option maxRecDepth 100000 in
set_option maxHeartbeats 8000000 in
open_top hd for _root_.PySem.Challenge.rw_nq0004_01
end NqT
end NqHeadPart

section NqBaPart
open PySem PySem.W PySem.Calls PyProof.Rows
set_option maxRecDepth 100000
namespace Nq
theorem ba_mro : mroOf (.type "bytearray") = pure [.type "bytearray", .type "object"] := by rw [mroOf_type]; kernel_rfl
theorem ba_new : typeLookup (.type "bytearray") "__new__" = pure (some (.builtin "bytearray.__new__")) := by rw [typeLookup_type, builtinLookup_eq_fast]; kernel_rfl
theorem ba_slot_init : Slot "bytearray" "__init__" "bytearray.__init__" :=
  .of (owner := "bytearray") (n := "__init__") (by rw [typeLookup_type, builtinLookup_eq_fast]; kernel_rfl) (by decide +kernel) (by decide +kernel) (by decide +kernel)
    (by first | exact .inl (by decide +kernel) | exact .inr (by decide +kernel)) (by rw [isSubtype_type]; kernel_rfl)
theorem ba_called : TypeCalled "bytearray" "bytearray.__new__" "bytearray.__init__" :=
  ⟨by decide +kernel, by decide +kernel, ⟨_, _, ba_mro⟩, madeBy_type ba_mro ba_new (by decide +kernel), by decide +kernel, by rw [isSubtype_type]; kernel_rfl, ba_slot_init⟩
theorem ba_typeCall (a : Value) : checkTypeCall "bytearray" ⟨[a], []⟩ = pure () := by kernel_rfl
theorem ba_newCall (a : Value) : checkBuiltinCall "bytearray.__new__" ⟨[.type "bytearray", a], []⟩ = pure () := by kernel_rfl
theorem ba_plain_new : plainId "bytearray.__new__" = true := by decide +kernel
theorem ba_plain_init : plainId "bytearray.__init__" = true := by decide +kernel
theorem ba_entry_new : entryFor table "bytearray.__new__" = some Builtin.«list.__new__» :=
  entryFor_alias (id' := "list.__new__") (by kernel_rfl) rfl (by decide +kernel) (by kernel_rfl)
theorem ba_entry_init : entryFor table "bytearray.__init__" = some Builtin.«bytearray.__init__» := by first | exact entryFor_of_fast (by kernel_rfl) | exact entryFor_of_tree (by kernel_rfl)
theorem ba_args_init (a b : Value) : argsOk "bytearray.__init__" ⟨[a, b], []⟩ := by unfold argsOk; kernel_rfl
set_option maxRecDepth 1000000 in
set_option maxHeartbeats 4000000 in
theorem ba_owner : ("bytearray.__new__".splitOn ".__new__").headD "" = "bytearray" := by simp +decide [String.splitOn, String.splitOnAux]
theorem ba_sub : isSubtype (.type "bytearray") (.type "bytearray") = pure true := by rw [isSubtype_type]; kernel_rfl

section
variable {prog : Program} {w : World} {A : Around} {s : Shared}
theorem ba_code_new {E : Value → Shared → Prop} (a : Value) {Q₁ : Value → Shared → Prop}
    (h : Q₁ (.ref s.heap.objs.size) { s with heap := s.heap.push { cls := .type "bytearray", data := .bytearray #[] } }) :
    codeAny (model prog w) A (.call (.builtin "bytearray.__new__") ⟨[.type "bytearray", a], []⟩) (wants Q₁ E) s := by
  refine codeAny_of_tree ?_
  show wpAny _ A.in1 (do checkBuiltinCall "bytearray.__new__" ⟨[.type "bytearray", a], []⟩; again (.builtin "bytearray.__new__" ⟨[.type "bytearray", a], []⟩)) _ _ s
  refine wpAny_bind (wpAny_of_eq (ba_newCall a) (wpAny_pure ⟨plainId_quiet ba_plain_new _, codeAny_builtin_stack ba_entry_new rfl fun p st => ?_⟩))
  rw [Around.under_plainId ba_plain_new _]
  have hsub := ba_sub
  have hown := ba_owner
  obtain ⟨hp, g, d, tk, os⟩ := s
  simp only [hown]
  wp_walk
  exact h

theorem codeS.builtin {b : Bool} {id : String} {args : Args} {B : Builtin} {R : Flow → Shared → Prop} (he : entryFor table id = some B) (hn : Builtin.Bytes.decodersThatHold.contains id = false)
    (h : wpS b (model prog w) (A.under (.builtin id args)) (B args) (fun fin s' => match fin with | .done f => R f s' | .again c' => c'.quiet = true ∧ codeS b (model prog w) A c' R s') s) : codeS b (model prog w) A (.builtin id args) R s := by
  refine codeS.of_tree hn ?_
  have e : (model prog w).den (.builtin id args) = B args := by
    show (match entryFor table id with | some b => b args | none => unsupported ((withoutEnding? id "#data").getD id)) = _
    rw [he]
  rw [e]; exact h
theorem wpS.iteF {α : Type} {b : Bool} {M : Model} {c : Prop} [Decidable c] {x y : Sem α} {Q : α → Shared → Prop} (hc : ¬ c) (h : wpS b M A y Q s) : wpS b M A (if c then x else y) Q s := by rw [if_neg hc]; exact h
theorem wpS.iteT {α : Type} {b : Bool} {M : Model} {c : Prop} [Decidable c] {x y : Sem α} {Q : α → Shared → Prop} (hc : c) (h : wpS b M A x Q s) : wpS b M A (if c then x else y) Q s := by rw [if_pos hc]; exact h
theorem wpS.callSlot {b : Bool} {T : String} {name : Str} {id : String} {self : Value} {args : List Value} {B : Builtin} {Q : Option Value → Shared → Prop} (sl : Slot T name id) (hT : s.TypeIs self T) (he : entryFor table id = some B)
    (hn : Builtin.Bytes.decodersThatHold.contains id = false) (ha : argsOk id ⟨self :: args, []⟩)
    (h : wpS b (model prog w) A.in1 (B ⟨self :: args, []⟩) (fun fin s' => ∃ v, fin = .done (.ret v) ∧ Q (some v) s') s) : wpS b (model prog w) A (callSpecial? self name args) Q s := by
  unfold callSpecial?
  refine wpS.bindAny (wpAny_specialOf hT sl.lookup ?_)
  refine wpS.holding (wpS.bindAny (wpAny_of_eq (sl.bind self) ?_))
  refine wpS.bind (wpS.call ?_)
  refine codeS.of_tree rfl ?_
  show wpS _ _ A.in1 (checkBuiltinCall id ⟨self :: args, []⟩ >>= fun _ => again (.builtin id ⟨self :: args, []⟩)) _ _
  refine wpS.bindAny (sl.check _ _ _ _ _ _ _ _ hT ha ?_)
  refine wpS.pure ⟨plainId_quiet sl.plain _, codeS.builtin he hn ?_⟩
  rw [Around.under_plainId sl.plain _]
  refine h.mono fun fin s' x => ?_
  obtain ⟨v, rfl, q⟩ := x
  exact ⟨v, rfl, wpS.pure q⟩
set_option maxHeartbeats 1000000 in
theorem ba_call {n : Int} {t : Tok} {Q : Value → Shared → Prop} 
   (hi : ∀ a h', h'.get? a = some { cls := .type "bytearray", data := .bytearray #[] } → (∀ b o, s.heap.get? b = some o → h'.get? b = some o) → s.heap.get? a = none → 
     wpS true (model prog w) A.in1.in1 (Builtin.«bytearray.__init__» ⟨[.ref a, .int n t], []⟩) (fun fin s' => fin = .done (.ret .none) ∧ Q (.ref a) s') { s with heap := h' }) :
    wpS true (model prog w) A (call (.type "bytearray") [.int n t]) Q s := by
  refine wpS.call (codeS.of_tree rfl ?_)
  show wpS _ _ _ (Pure.pure (Fin.again (.builtin "type.__call__" ⟨[.type "bytearray", .int n t], []⟩))) _ _
  refine wpS.pure ⟨Code.quiet_builtin _ (by decide +kernel), codeS.builtin F.entry_type_call (by decide +kernel) ?_⟩
  rw [Around.under_plain (weight_type_call_type "bytearray" _ []) rfl]
  unfold Builtin.«type.__call__»
  dsimp only
  refine wpS.iteF (by decide) ?_
  refine wpS.iteF (by rw [ba_called.canCreate]; decide) ?_
  refine wpS.bindAny (wpAny_of_eq (ba_typeCall _) ?_)
  refine wpS.bindAny (wpAny_of_eq ba_mro ?_)
  refine wpS.iteF (by decide) ?_
  refine wpS.bindAny (wpAny_of_eq ba_called.made ?_)
  refine wpS.bind (wpS.pure ?_)
  refine wpS.bind (wpS.holding (wpS.call (codeS.of_any (codeAny_mono (ba_code_new (E := fun _ _ => False) (Q₁ := fun v s' => v = .ref s.heap.objs.size ∧ s' = { s with heap := s.heap.push { cls := .type "bytearray", data := .bytearray #[] } }) _ ⟨rfl, rfl⟩) fun r s' hr => ?_))))
  cases r with
  | error e => exact hr.elim
  | ok f =>
    cases f with
    | ret v =>
      obtain ⟨rfl, rfl⟩ := hr
      refine ⟨_, rfl, _, rfl, ?_⟩
      have hg : (s.heap.push { cls := .type "bytearray", data := .bytearray #[] }).get? s.heap.objs.size = some { cls := .type "bytearray", data := .bytearray #[] } := Heap.get?_push_size _ rfl
      have hT : ({ s with heap := s.heap.push { cls := .type "bytearray", data := .bytearray #[] } } : Shared).TypeIs (.ref s.heap.objs.size) "bytearray" := ⟨_, hg, rfl⟩
      refine wpS.bindAny (wpAny_isInstance hT ba_sub ?_)
      refine wpS.iteF (by decide) ?_
      refine wpS.bind (wpS.holding (wpS.callSlot ba_slot_init hT ba_entry_init (by decide +kernel) (ba_args_init _ _) ((hi _ _ hg (fun b o e => Heap.get?_push_of_some _ e) (by
        cases e : s.heap.get? s.heap.objs.size with
        | none => rfl
        | some o => exact absurd (Heap.lt_size e) (Nat.lt_irrefl _))).mono fun fin s' x => ⟨.none, x.1, ?_⟩)))
      refine wpS.iteF (by decide) ?_
      exact wpS.pure ⟨_, rfl, x.2⟩
    | _ => exact hr.elim
end
end Nq
end NqBaPart

section NqBbPart
open PySem PySem.W PySem.Calls PyProof.Rows
set_option maxRecDepth 100000
namespace Nq
theorem ba_look_release : typeLookup (.type "bytearray") "__release_buffer__" = pure (some (.builtin "bytearray.__release_buffer__")) := by rw [typeLookup_type, builtinLookup_eq_fast]; kernel_rfl
theorem ba_bind (v : Value) : Builtin.Bytes.bindOptional "bytearray.__init__" "bytearray" ["source", "encoding", "errors"] [v] [] = pure [some v, none, none] := by kernel_rfl
theorem ba_end : "bytearray.__release_buffer__".endsWith ("." ++ "__release_buffer__") = true := by decide +kernel
theorem ba_drop : "bytearray.__release_buffer__".dropRight ("__release_buffer__".length + 1) = "bytearray" := by decide +kernel
theorem int_index : typeLookup (.type "int") "__index__" = pure (some (.builtin "int.__index__")) := by rw [typeLookup_type, builtinLookup_eq_fast]; kernel_rfl
section
variable {prog : Program} {w : World} {A : Around} {s : Shared}
theorem ba_own {a : Addr} {M : Model} {E : Value → Shared → Prop} {Q : Bool → Shared → Prop} (hT : s.TypeIs (.ref a) "bytearray") (h : Q false s) : wpAny M A (Builtin.Bytes.ownRelease (.ref a)) Q E s := by
  unfold Builtin.Bytes.ownRelease Builtin.Bytes.slotIsOwn
  refine wpAny_bind (wpAny_bind (wpAny_specialOf hT ba_look_release ?_))
  dsimp only
  rw [ba_end, ba_drop]
  refine bm_if_false rfl ?_
  exact wpAny_isInstance hT ba_sub (wpAny_pure h)
theorem exported_not {a : Addr} {M : Model} {Q : Bool → Shared → Prop} (hg : A.guards = some []) (h : Q false s) : wpS true M A (Builtin.Bytes.exported (.ref a)) Q s := fun Γ p hΓ hc => by
  have hg' : guardsOf ((Γ.code, p) :: Γ.below) = [] := by rw [guardsOf_cons]; exact hΓ.2.2.2.1 [] hg
  have hc' := hc rfl
  have key : ∀ f : Code × Pos → Bool, (∀ c q, c.isGuard = false → badCode c = false → f (c, q) = false) → ((Γ.code, p) :: Γ.below).any f = false := fun f hf => by
    rw [List.any_eq_false]
    intro x hx
    have h1 : x.1.isGuard = false := by
      cases hq : x.1.isGuard with
      | false => rfl
      | true =>
        have : x.1 ∈ guardsOf ((Γ.code, p) :: Γ.below) := List.mem_filter.mpr ⟨List.mem_map_of_mem hx, hq⟩
        rw [hg'] at this; cases this
    have h2 : badCode x.1 = false := by
      rcases List.mem_cons.mp hx with rfl | hx
      · exact hc'.1
      · exact hc'.2 x hx
    rw [hf x.1 x.2 h1 h2]; decide
  unfold Builtin.Bytes.exported
  show Q (((Γ.code, p) :: Γ.below).any _) s
  rw [key _ ?_]
  · exact h
  · intro c q h1 h2
    split <;> simp_all [Code.isGuard, guardIds, badCode]
theorem ba_write {a : Addr} {b : Array UInt8} {M : Model} {E : Value → Shared → Prop} {f : Array UInt8 → Array UInt8} {Q : Unit → Shared → Prop} (ha : s.heap.get? a = some { cls := .type "bytearray", data := .bytearray b }) (hz : (f b).size ≤ sizeLine)
    (h : ∀ h', h'.get? a = some { cls := .type "bytearray", data := .bytearray (f b) } → Heap.SameBut a s.heap h' → Q () { s with heap := h' }) : wpAny M A (Builtin.Bytes.write (.ref a) f) Q E s := by
  show wpAny _ _ (updateBytearray a f) _ _ _
  unfold updateBytearray
  refine wpAny_bind (wpAny_load ha ?_)
  show wpAny _ _ (update a (Obj.mapBytearray f) >>= fun _ => lookBehind a) _ _ _
  refine wpAny_bind (wpAny_update ha ?_)
  have h2 : (s.heap.update a (Obj.mapBytearray f)).get? a = some { cls := .type "bytearray", data := .bytearray (f b) } := Heap.get?_update_self (Obj.mapBytearray f) ha rfl
  refine wpAny_lookBehind h2 ?_ (h _ h2 (Heap.SameBut.update ..))
  show (if (f b).size > sizeLine then some "bytearray:memory" else none) = none
  rw [if_neg (Nat.not_lt.mpr hz)]
set_option maxHeartbeats 1000000 in
theorem ba_init {n : Int} {t : Tok} {a : Addr} {Q : Shared → Prop} (hg : A.guards = some []) (h0 : 0 ≤ n) (h1 : n ≤ 16777216) (ha : s.heap.get? a = some { cls := .type "bytearray", data := .bytearray #[] })
    (hQ : ∀ h', h'.get? a = some { cls := .type "bytearray", data := .bytearray (Array.replicate n.toNat 0) } → Heap.SameBut a s.heap h' → Q { s with heap := h' }) :
    wpS true (model prog w) A (Builtin.«bytearray.__init__» ⟨[.ref a, .int n t], []⟩) (fun fin s' => fin = .done (.ret .none) ∧ Q s') s := by
  unfold Builtin.«bytearray.__init__»
  dsimp only
  have hT : s.TypeIs (.ref a) "bytearray" := ⟨_, ha, rfl⟩
  refine wpS.bindAny (ba_own hT ?_)
  refine wpS.iteF (by decide) ?_
  refine wpS.bindAny (wpAny_of_eq (ba_bind _) ?_)
  dsimp only
  refine wpS.bindAny (wpAny_of_eq (a := ()) rfl ?_)
  refine wpS.bindAny (wpAny_of_eq (a := ()) rfl ?_)
  refine wpS.bind ?_
  show wpS _ _ _ (Builtin.Bytes.exported (.ref a) >>= fun b => match b with | true => Pure.pure b | false => (Builtin.Bytes.exportsOf (Value.ref a) >>= fun n => Pure.pure (decide (n > 0)))) _ _
  refine wpS.bind (exported_not hg ?_)
  dsimp only
  unfold Builtin.Bytes.exportsOf
  refine wpS.bindAny (wpAny_bind (wpAny_load ha (wpAny_pure ?_)))
  refine wpS.pure ?_
  refine wpS.iteF (by decide) ?_
  refine wpS.bindAny (ba_write ha (Nat.zero_le _) fun h₁ ha₁ hs₁ => ?_)
  refine wpS.bindAny (wpAny_of_eq (a := none) rfl ?_)
  refine wpS.iteF (by decide) ?_
  refine wpS.bind (wpS.iteF (by decide) (wpS.iteF (by decide) (wpS.pure ?_)))
  refine wpS.bindAny (wpAny_specialOf (T := "int") rfl int_index ?_)
  refine wpS.iteT (by rfl) ?_
  refine wpS.bindAny (wpAny_attempt (wpAny_of_eq (rfl : asIndex (.int n t) = pure n) ?_))
  dsimp only
  have fits : Builtin.Bytes.fitsIndex n = true := by
    simp only [Builtin.Bytes.fitsIndex, Bool.and_eq_true, decide_eq_true_eq]; omega
  have tl : Builtin.Bytes.tooLong n.toNat = false := by
    unfold Builtin.Bytes.tooLong
    rw [decide_eq_false_iff_not]
    show ¬ (n.toNat > 2 ^ 24)
    omega
  refine wpS.iteF (by rw [fits]; decide) ?_
  refine wpS.iteF (by omega) ?_
  refine wpS.iteF (by rw [beq_iff_eq]; omega) ?_
  refine wpS.iteF (by rw [tl]; decide) ?_
  refine wpS.bindAny (wpAny_rule ?_)
  by_cases hn : n > 0
  · refine wpS.iteT hn ?_
    refine wpS.bindAny (ba_write (f := fun _ => Array.replicate n.toNat 0) ha₁ (by simp only [Array.size_replicate, sizeLine]; omega) fun h₂ ha₂ hs₂ => ?_)
    exact wpS.pure ⟨rfl, hQ h₂ ha₂ (hs₁.trans hs₂)⟩
  · refine wpS.iteF hn ?_
    have : n = 0 := by omega
    subst this
    exact wpS.pure ⟨rfl, hQ h₁ ha₁ hs₁⟩

theorem bytearray_new {n : Int} {t : Tok} {Q : Value → Shared → Prop} (hg : A.guards = some []) (h0 : 0 ≤ n) (h1 : n ≤ 16777216)
    (hQ : ∀ a h', h'.get? a = some { cls := .type "bytearray", data := .bytearray (Array.replicate n.toNat 0) } → (∀ b o, s.heap.get? b = some o → h'.get? b = some o) → s.heap.get? a = none → Q (.ref a) { s with heap := h' }) :
    wpS true (model prog w) A (call (.type "bytearray") [.int n t]) Q s :=
  ba_call fun a h₁ ha hk hn => ba_init (s := { s with heap := h₁ }) hg h0 h1 ha fun h₂ ha₂ hs₂ => hQ a h₂ ha₂ (fun b o e => hs₂.extBut b o (by rintro rfl; rw [hn] at e; cases e) (hk b o e)) hn
end
end Nq
end NqBbPart

section NqBcPart
open PySem PySem.W PySem.Calls PyProof.Rows
set_option maxRecDepth 100000
namespace Nq
theorem ba_slot_set : Slot "bytearray" "__setitem__" "bytearray.__setitem__" :=
  .of (owner := "bytearray") (n := "__setitem__") (by rw [typeLookup_type, builtinLookup_eq_fast]; kernel_rfl) (by decide +kernel) (by decide +kernel) (by decide +kernel)
    (by first | exact .inl (by decide +kernel) | exact .inr (by decide +kernel)) (by rw [isSubtype_type]; kernel_rfl)
theorem ba_entry_set : entryFor table "bytearray.__setitem__" = some Builtin.«bytearray.__setitem__» := by first | exact entryFor_of_fast (by kernel_rfl) | exact entryFor_of_tree (by kernel_rfl)
theorem ba_args_set (a b c : Value) : argsOk "bytearray.__setitem__" ⟨[a, b, c], []⟩ := by unfold argsOk; kernel_rfl
theorem ba_no_bytes : typeLookup (.type "bytearray") "__bytes__" = pure none := by rw [typeLookup_type, builtinLookup_eq_fast]; kernel_rfl
theorem ba_no_index : typeLookup (.type "bytearray") "__index__" = pure none := by rw [typeLookup_type, builtinLookup_eq_fast]; kernel_rfl
theorem ba_look_buffer : typeLookup (.type "bytearray") "__buffer__" = pure (some (.builtin "bytearray.__buffer__")) := by rw [typeLookup_type, builtinLookup_eq_fast]; kernel_rfl
theorem ba_end2 : "bytearray.__buffer__".endsWith ("." ++ "__buffer__") = true := by decide +kernel
theorem ba_drop2 : "bytearray.__buffer__".dropRight ("__buffer__".length + 1) = "bytearray" := by decide +kernel
section
variable {prog : Program} {w : World} {A : Around} {E : Value → Shared → Prop} {s : Shared}
theorem ba_payload {a : Addr} {b : Array UInt8} {M : Model} {Q : Array UInt8 → Shared → Prop} (ha : s.heap.get? a = some { cls := .type "bytearray", data := .bytearray b }) (h : Q b s) : wpAny M A (Builtin.Bytes.payload (.ref a)) Q E s := by
  unfold Builtin.Bytes.payload Builtin.Bytes.payload?
  refine wpAny_bind (wpAny_bind (wpAny_load ha ?_))
  exact wpAny_pure (wpAny_pure h)
set_option maxHeartbeats 1000000 in
theorem ba_set {a : Addr} {b : Array UInt8} {k x : Int} {t u : Tok} {Q : Unit → Shared → Prop} (ha : s.heap.get? a = some { cls := .type "bytearray", data := .bytearray b }) (hz : b.size ≤ 16777216) (h0 : 0 ≤ k) (h1 : k < b.size) (x0 : 0 ≤ x) (x1 : x < 256)
    (h : ∀ h', h'.get? a = some { cls := .type "bytearray", data := .bytearray (b.setIfInBounds k.toNat x.toNat.toUInt8) } → Heap.SameBut a s.heap h' → Q () { s with heap := h' }) :
    wpAny (model prog w) A (setItem (.ref a) (.int k t) (.int x u)) Q E s := by
  have hT : s.TypeIs (.ref a) "bytearray" := ⟨_, ha, rfl⟩
  unfold setItem
  refine wpAny_holding ?_
  refine wpAny_bind (wpAny_sequenceKey hT (by decide) ?_)
  refine wpAny_bind (wpAny_callSpecial?_slot (name := Str.ofString "__setitem__") hT ba_slot_set (wpAny_call_entry ba_slot_set hT ba_entry_set ?_ (ba_args_set _ _ _)))
  unfold Builtin.«bytearray.__setitem__»
  dsimp only
  refine bm_if_false rfl ?_
  unfold Builtin.Bytes.subscript?
  refine wpAny_bind (wpAny_bind (wpAny_specialOf (T := "int") rfl int_index ?_))
  refine bm_if_false rfl ?_
  refine wpAny_bind (wpAny_of_eq (rfl : asIndex (.int k t) = pure k) ?_)
  have fits : Builtin.Bytes.fitsIndex k = true := by
    simp only [Builtin.Bytes.fitsIndex, Bool.and_eq_true, decide_eq_true_eq]; omega
  refine bm_if_false (by rw [fits]; rfl) ?_
  refine wpAny_pure ?_
  dsimp only
  refine wpAny_bind ?_
  unfold Builtin.Bytes.byteValue
  refine wpAny_bind (wpAny_of_eq (rfl : asIndex (.int x u) = pure x) ?_)
  refine bm_if_false (by simp only [Bool.or_eq_false_iff, decide_eq_false_iff_not]; omega) ?_
  refine wpAny_pure ?_
  refine wpAny_bind (ba_payload ha ?_)
  have hi : seqIndex? k b.size = some k.toNat := seqIndex_of h0 h1
  rw [hi]
  dsimp only
  refine wpAny_bind (ba_write ha (by rw [Array.size_setIfInBounds]; exact hz) fun h' ha' hs' => ?_)
  exact wpAny_pure ⟨.none, rfl, wpAny_pure (h h' ha' hs')⟩

theorem ba_buffer {a : Addr} {b : Array UInt8} {M : Model} {id : String} {f : Bool} {Q : Option (Array UInt8) → Shared → Prop} (ha : s.heap.get? a = some { cls := .type "bytearray", data := .bytearray b }) (h : Q (some b) s) : wpAny M A (Builtin.Bytes.buffer? id (.ref a) f) Q E s := by
  have hT : s.TypeIs (.ref a) "bytearray" := ⟨_, ha, rfl⟩
  unfold Builtin.Bytes.buffer?
  refine wpAny_bind (wpAny_specialOf hT ba_look_buffer ?_)
  dsimp only
  refine wpAny_bind ?_
  unfold Builtin.Bytes.slotIsOwn
  refine wpAny_bind (wpAny_specialOf hT ba_look_buffer ?_)
  dsimp only
  rw [ba_end2, ba_drop2]
  refine bm_if_false rfl ?_
  refine wpAny_isInstance hT ba_sub ?_
  refine bm_if_false rfl ?_
  refine wpAny_bind (wpAny_specialOf hT ba_look_buffer ?_)
  refine wpAny_bind (ba_own hT ?_)
  refine bm_if_false rfl ?_
  exact wpAny_bind (ba_payload ha (wpAny_pure h))

set_option maxHeartbeats 1000000 in
theorem ba_bytes_new {a : Addr} {b : Array UInt8} {Q : Value → Shared → Prop} (ha : s.heap.get? a = some { cls := .type "bytearray", data := .bytearray b }) (hz : b.size ≤ 16777216)
    (hQ : ∀ t k, Q (.bytes b t) { s with toks := k }) :
    codeAny (model prog w) A (.call (.builtin "bytes.__new__") ⟨[.type "bytes", .ref a], []⟩) (wants Q E) s := by
  refine codeAny_of_tree ?_
  show wpAny _ A.in1 (do checkBuiltinCall "bytes.__new__" ⟨[.type "bytes", .ref a], []⟩; again (.builtin "bytes.__new__" ⟨[.type "bytes", .ref a], []⟩)) _ _ s
  refine wpAny_bind (wpAny_of_eq (F.bm_newCall _) (wpAny_pure ⟨plainId_quiet F.bm_plain _, codeAny_builtin F.bm_entry ?_⟩))
  rw [Around.under_plainId F.bm_plain _]
  have hT : s.TypeIs (.ref a) "bytearray" := ⟨_, ha, rfl⟩
  unfold Builtin.«bytes.__new__»
  refine wpAny_bind (wpAny_of_eq (a := true) rfl ?_)
  refine bm_if_false rfl ?_
  refine wpAny_bind (wpAny_of_eq F.bm_sub ?_)
  refine bm_if_false rfl ?_
  refine wpAny_bind (wpAny_of_eq (F.bm_bind _) ?_)
  refine wpAny_bind (wpAny_of_eq (a := ()) rfl ?_)
  refine wpAny_bind (wpAny_of_eq (a := ()) rfl ?_)
  refine bm_if_false rfl ?_
  refine wpAny_bind (wpAny_specialOf hT ba_no_bytes ?_)
  dsimp only
  refine wpAny_bind (wpAny_bind ?_)
  show wpAny _ _ (load a >>= _) _ _ _
  refine wpAny_bind (wpAny_load ha ?_)
  refine wpAny_pure (wpAny_pure ?_)
  refine bm_if_false rfl ?_
  refine wpAny_bind (wpAny_specialOf hT ba_no_index ?_)
  refine bm_if_true rfl ?_
  first
    | show wpAny _ _ (Builtin.Bytes.buffer? "bytes.__new__" (.ref a) true >>= _) _ _ _
    | (refine wpAny_bind ?_; show wpAny _ _ (Builtin.Bytes.buffer? "bytes.__new__" (.ref a) true >>= _) _ _ _)
  refine wpAny_bind (ba_buffer ha ?_)
  dsimp only
  refine wpAny_bind (wpAny_rule ?_)
  refine wpAny_bind (wpAny_mkBytes ?_ (by show b.size ≤ 2 ^ 24; omega))
  show wpAny _ _ (if (Value.type "bytes" == Value.type "bytes") = true then _ else _) _ _ _
  refine bm_if_true (by decide) ?_
  first
    | exact wpAny_pure (hQ _ _)
    | exact wpAny_bind (wpAny_pure (wpAny_pure (hQ _ _)))
    | exact wpAny_pure (wpAny_pure (hQ _ _))

theorem bytes_ba {a : Addr} {b : Array UInt8} {Q : Value → Shared → Prop} (ha : s.heap.get? a = some { cls := .type "bytearray", data := .bytearray b }) (hz : b.size ≤ 16777216)
    (hQ : ∀ t k, Q (.bytes b t) { s with toks := k }) : wpAny (model prog w) A (call (.type "bytes") [.ref a]) Q E s := by
  refine callType_codes (Q₁ := fun obj s₁ => s₁.TypeIs obj "bytes" ∧ Q obj s₁) F.bm_called (F.bm_typeCall _) F.entry_object_init
    (ba_bytes_new ha hz fun t k => ⟨PySem.W.typeIs_bytes _ _ _, hQ t k⟩) fun obj s₁ h₁ => ?_
  exact ⟨h₁.1, F.args_object_init_2 obj _, object_init_meets F.bm_called.init.lookup F.bm_called.made (by decide) prog w A.in1 _ s₁ ⟨h₁.1, rfl, h₁.2⟩⟩
end
end Nq
end NqBcPart

section NqSortPart
open PySem PySem.W PySem.Calls PyProof.Rows
set_option maxRecDepth 100000
namespace Nq
abbrev nats (l : List UInt8) : List Nat := l.map (·.toNat)

theorem nats_inj : ∀ {a b : List UInt8}, nats a = nats b → a = b
  | [], [], _ => rfl
  | [], _ :: _, h => by simp [nats] at h
  | _ :: _, [], h => by simp [nats] at h
  | x :: a, y :: b, h => by
    simp only [nats, List.map_cons, List.cons.injEq] at h
    rw [UInt8.toNat_inj.mp h.1, nats_inj h.2]

theorem order_lt : ∀ a b : List UInt8, (Builtin.Bytes.order a b == .lt) = decide (nats a < nats b)
  | [], [] => by simp [Builtin.Bytes.order, nats]
  | [], _ :: _ => by simp [Builtin.Bytes.order, nats]
  | _ :: _, [] => by simp [Builtin.Bytes.order, nats]
  | x :: a, y :: b => by
    have ih := order_lt a b
    simp only [Builtin.Bytes.order, nats, List.map_cons, List.cons_lt_cons_iff] at ih ⊢
    by_cases h : x < y
    · have h' : x.toNat < y.toNat := UInt8.lt_iff_toNat_lt.mp h
      simp [h, h']
    · have h' : ¬ x.toNat < y.toNat := fun q => h (UInt8.lt_iff_toNat_lt.mpr q)
      by_cases g : y < x
      · have g' : y.toNat < x.toNat := UInt8.lt_iff_toNat_lt.mp g
        have ne : ¬ x.toNat = y.toNat := by omega
        simp [h, h', g, ne]
      · have g' : ¬ y.toNat < x.toNat := fun q => g (UInt8.lt_iff_toNat_lt.mpr q)
        have e : x.toNat = y.toNat := by omega
        simp [h, g, e, ih]

abbrev bytesKind : KeyKind where
  α := List Nat
  blt a b := decide (a < b)
  irrefl a := by simpa using List.lt_irrefl a
  trans a b c h1 h2 := by simp only [decide_eq_true_eq] at *; exact List.lt_trans h1 h2
  negTrans a b c h := by
    simp only [decide_eq_true_eq] at *
    by_cases hab : a < b
    · exact .inl hab
    · exact .inr (List.lt_of_le_of_lt (List.not_lt.mp hab) h)
  total a b h1 h2 := by simp only [decide_eq_false_iff_not] at *; exact List.le_antisymm (List.not_lt.mp h2) (List.not_lt.mp h1)
  keyOf v := match v with | .bytes x _ => some (nats x.toList) | _ => none
  dflt := []

theorem by_slot_lt : Slot "bytes" "__lt__" "bytes.__lt__" :=
  .of (owner := "bytes") (n := "__lt__") (by rw [typeLookup_type, builtinLookup_eq_fast]; kernel_rfl) (by decide +kernel) (by decide +kernel) (by decide +kernel)
    (by first | exact .inl (by decide +kernel) | exact .inr (by decide +kernel)) (by rw [isSubtype_type]; kernel_rfl)
theorem by_entry_lt : entryFor table "bytes.__lt__" = some Builtin.«bytes.__lt__» := by first | exact entryFor_of_fast (by kernel_rfl) | exact entryFor_of_tree (by kernel_rfl)
theorem by_args_lt (a b : Value) : argsOk "bytes.__lt__" ⟨[a, b], []⟩ := by unfold argsOk; kernel_rfl

section
variable {prog : Program} {w : World} {A : Around} {E : Value → Shared → Prop} {s : Shared}
theorem call_bytes_lt {a b : Array UInt8} {t u : Tok} {Q : Value → Shared → Prop} (h : Q (.bool (decide (nats a.toList < nats b.toList))) s) :
    wpAny (model prog w) A (call (.builtin "bytes.__lt__") [.bytes a t, .bytes b u]) Q E s := by
  refine wpAny_call_entry by_slot_lt (typeIs_bytes s a t) by_entry_lt ?_ (by_args_lt _ _)
  show wpAny _ _ (isInstance (.bytes b u) (.type "bytes") >>= fun r => _) _ _ s
  refine wpAny_bind (wpAny_isInstance (typeIs_bytes s b u) F.bm_sub ?_)
  exact wpAny_pure ⟨_, rfl, by rw [← order_lt] at h; exact h⟩

theorem oneLt_bytes {a b : Array UInt8} {t u : Tok} {Q : Bool → Shared → Prop} (h : Q (decide (nats a.toList < nats b.toList)) s) : wpAny (model prog w) A (oneLt' true (.bytes a t) (.bytes b u)) Q E s := by
  rw [oneLt'_eq]
  simp only [if_true]
  refine wpAny_bind (wpAny_cRoomFor_byValue rfl ?_)
  refine wpAny_bind (wpAny_callSpecialIfBound?_slot (typeIs_bytes s a t) by_slot_lt (call_bytes_lt ?_))
  exact wpAny_truthy_bool h
end
theorem bytesKind_oneLt : bytesKind.OneLt := by
  intro prog w A E s x y a b Q ha hb h
  cases x <;> simp only [bytesKind, reduceCtorEq, Option.some.injEq] at ha
  cases y <;> simp only [bytesKind, reduceCtorEq, Option.some.injEq] at hb
  cases ha; cases hb
  exact oneLt_bytes h

theorem keyKind_three (x y z : Array UInt8) (t u v : Tok) : keyKind' #[.bytes x t, .bytes y u, .bytes z v] = pure oneType' := by
  have first : ∀ b t, firstOfTuple' (.bytes b t) = pure none := fun _ _ => rfl
  have ty : ∀ b t, typeOf (.bytes b t) = pure (.type "bytes") := fun _ _ => rfl
  rw [keyKind'_eq, List.mapM_toArray]
  simp only [List.mapM_cons, List.mapM_nil, first, pure_bind, map_pure]
  rw [if_neg (by simp), if_neg (by simp)]
  rw [oneTypeOnly'_eq, List.mapM_toArray]
  simp only [List.mapM_cons, List.mapM_nil, ty, pure_bind, map_pure]
  simp

theorem perm_sum : ∀ {l m : List Int}, l.Perm m → l.sum = m.sum := by
  intro l m h
  induction h with
  | nil => rfl
  | cons x _ ih => simp [ih]
  | swap x y l => simp; omega
  | trans _ _ a b => exact a.trans b

/-- the middle of three ints: the sum less the least and the greatest -/
def mid (x y z : Int) : Int := x + y + z - min (min x y) z - max (max x y) z

theorem mid_of_perm {a b c x y z : Int} (h : [a, b, c].Perm [x, y, z]) (h1 : a ≤ b) (h2 : b ≤ c) : b = mid x y z := by
  have hs := perm_sum h
  have ha : a ∈ [x, y, z] := h.mem_iff.mp (by simp)
  have hc : c ∈ [x, y, z] := h.mem_iff.mp (by simp)
  have hx : x ∈ [a, b, c] := h.mem_iff.mpr (by simp)
  have hy : y ∈ [a, b, c] := h.mem_iff.mpr (by simp)
  have hz : z ∈ [a, b, c] := h.mem_iff.mpr (by simp)
  simp only [List.sum_cons, List.sum_nil, List.mem_cons, List.not_mem_nil, or_false] at *
  unfold mid
  omega

section
variable {prog : Program} {w : World} {A : Around} {E : Value → Shared → Prop} {s : Shared}
/-- sorted of three words: the second is the word of the middle number -/
theorem sorted_three {l : Addr} {x y z : Int} {t u v : Tok} {enc : Int → List UInt8} {Q : Value → Shared → Prop}
    (hl : s.heap.IsList l #[.bytes (enc x).toArray t, .bytes (enc y).toArray u, .bytes (enc z).toArray v])
    (mono : ∀ a ∈ [x, y, z], ∀ b ∈ [x, y, z], (nats (enc a) < nats (enc b) ↔ a < b))
    (h : ∀ r v1 v2 v3 h' tk, s.heap.get? r = none → h'.IsList r #[v1, .bytes (enc (mid x y z)).toArray v2, v3] → (∀ b o, s.heap.get? b = some o → h'.get? b = some o) → Q (.ref r) { s with heap := h', toks := tk }) :
    wpAny (model prog w) A (call (.builtin "sorted") [.ref l]) Q E s := by
  refine sortedK bytesKind_oneLt (vs := [.bytes (enc x).toArray t, .bytes (enc y).toArray u, .bytes (enc z).toArray v]) hl ?_ (fun v₁ v₂ rest e => by cases e; exact keyKind_three ..) (by show 3 < 64; decide) fun st' hp hs => ?_
  · intro p hp
    rw [pairsOf_toList] at hp
    simp only [List.zip_cons_cons, List.zip_nil_left, List.mem_cons, List.not_mem_nil, or_false] at hp
    rcases hp with rfl | rfl | rfl <;> exact ⟨_, rfl⟩
  · have hl : (arrOf st').toList.Perm _ := Array.perm_iff_toList_perm.mp hp
    rw [pairsOf_toList] at hl
    have hlen := hl.length_eq
    have back : ∀ p ∈ (arrOf st').toList, ∃ n ∈ [x, y, z], ∃ tk, p = (.bytes (enc n).toArray tk, .bytes (enc n).toArray tk) := fun p hp' => by
      have := hl.mem_iff.mp hp'
      simp only [List.zip_cons_cons, List.zip_nil_left, List.mem_cons, List.not_mem_nil, or_false] at this
      rcases this with rfl | rfl | rfl
      · exact ⟨x, by simp, t, rfl⟩
      · exact ⟨y, by simp, u, rfl⟩
      · exact ⟨z, by simp, v, rfl⟩
    obtain ⟨p1, p2, p3, e⟩ : ∃ p1 p2 p3, (arrOf st').toList = [p1, p2, p3] := by
      match hq : (arrOf st').toList, hlen with
      | [p1, p2, p3], _ => exact ⟨p1, p2, p3, rfl⟩
    obtain ⟨a, ha, ta, rfl⟩ := back p1 (by rw [e]; simp)
    obtain ⟨b, hb, tb, rfl⟩ := back p2 (by rw [e]; simp)
    obtain ⟨c, hc, tc, rfl⟩ := back p3 (by rw [e]; simp)
    have inj : ∀ n ∈ [x, y, z], ∀ k ∈ [x, y, z], enc n = enc k → n = k := fun n hn k hk q => by
      have h1 := mono n hn k hk
      have h2 := mono k hk n hn
      rw [q] at h1 h2
      have n1 : ¬ n < k := fun q => List.lt_irrefl _ (h1.mpr q)
      have n2 : ¬ k < n := fun q => List.lt_irrefl _ (h2.mpr q)
      omega
    have pl : [enc a, enc b, enc c].Perm [enc x, enc y, enc z] := by
      have := hl.map (fun p => match p.1 with | .bytes b _ => b.toList | _ => [])
      rw [e] at this
      simpa using this
    have pi : [a, b, c].Perm [x, y, z] := by
      let dec : List UInt8 → Int := fun l => if l = enc x then x else if l = enc y then y else z
      have hd : ∀ n ∈ [x, y, z], dec (enc n) = n := fun n hn => by
        show (if enc n = enc x then x else if enc n = enc y then y else z) = n
        split
        · rename_i q; exact (inj n hn x (by simp) q).symm
        · split
          · rename_i q; exact (inj n hn y (by simp) q).symm
          · rename_i q1 q2
            simp only [List.mem_cons, List.not_mem_nil, or_false] at hn
            rcases hn with rfl | rfl | rfl
            · exact absurd rfl q1
            · exact absurd rfl q2
            · rfl
      have := pl.map dec
      simpa only [List.map_cons, List.map_nil, hd a ha, hd b hb, hd c hc, hd x (by simp), hd y (by simp), hd z (by simp)] using this
    have hsz : (pairsOf [Value.bytes (enc x).toArray t, .bytes (enc y).toArray u, .bytes (enc z).toArray v]).size = 3 := by rw [pairsOf_size]; rfl
    have ea : arrOf st' = #[(.bytes (enc a).toArray ta, .bytes (enc a).toArray ta), (.bytes (enc b).toArray tb, .bytes (enc b).toArray tb), (.bytes (enc c).toArray tc, .bytes (enc c).toArray tc)] := by
      rw [← Array.toList_inj]; exact e
    rw [hsz, ea] at hs
    have s1 := hs 0 1 (by decide) (by decide)
    have s2 := hs 1 2 (by decide) (by decide)
    have l1 : ¬ nats (enc b) < nats (enc a) := of_decide_eq_false s1
    have l2 : ¬ nats (enc c) < nats (enc b) := of_decide_eq_false s2
    have m1 : a ≤ b := Int.not_lt.mp fun q => l1 ((mono b hb a ha).mpr q)
    have m2 : b ≤ c := Int.not_lt.mp fun q => l2 ((mono c hc b hb).mpr q)
    have hm := mid_of_perm pi m1 m2
    obtain ⟨ep, he⟩ := sortedAll_at s.heap [Value.bytes (enc x).toArray t, .bytes (enc y).toArray u, .bytes (enc z).toArray v] ((arrOf st').map (·.2))
    rw [ea] at he ⊢
    refine h (s.heap.objs.size + 1) (.bytes (enc a).toArray ta) tb (.bytes (enc c).toArray tc) _ s.toks ?_ ⟨_, he, rfl, ep, ?_⟩ (fun b o e => sortedAll_old e)
    · cases q : s.heap.get? (s.heap.objs.size + 1) with
      | none => rfl
      | some o => exact absurd (Heap.lt_size q) (Nat.not_lt.mpr (Nat.le_succ _))
    · rw [← hm]; simp [seqObj]
end
end Nq
end NqSortPart

section NqJoinPart
open PySem PySem.W PySem.Calls PyProof.Rows
set_option maxRecDepth 100000
namespace Nq
/-- values that are bytes, and their octets -/
inductive BytesAre : List Value → List (List UInt8) → Prop
  | nil : BytesAre [] []
  | cons (b : List UInt8) (t : Tok) {vs : List Value} {bs : List (List UInt8)} : BytesAre vs bs → BytesAre (.bytes b.toArray t :: vs) (b :: bs)
theorem BytesAre.length : ∀ {vs : List Value} {bs : List (List UInt8)}, BytesAre vs bs → vs.length = bs.length
  | _, _, .nil => rfl
  | _, _, .cons _ _ r => by rw [List.length_cons, List.length_cons, r.length]
theorem BytesAre.at : ∀ {vs : List Value} {bs : List (List UInt8)}, BytesAre vs bs → ∀ (i : Nat) (b : List UInt8), bs[i]? = some b → ∃ t, vs[i]? = some (.bytes b.toArray t)
  | _, _, .nil, i, b, h => by simp at h
  | _, _, .cons b t r, 0, c, h => by simp at h; subst h; exact ⟨t, rfl⟩
  | _, _, .cons b t r, i + 1, c, h => by simpa using r.at i c (by simpa using h)
theorem BytesAre.snoc : ∀ {vs : List Value} {bs : List (List UInt8)}, BytesAre vs bs → ∀ (b : List UInt8) (t : Tok), BytesAre (vs ++ [.bytes b.toArray t]) (bs ++ [b])
  | _, _, .nil, b, t => .cons b t .nil
  | _, _, .cons c u r, b, t => .cons c u (r.snoc b t)

theorem by_slot_join : Slot "bytes" "join" "bytes.join" :=
  .of (owner := "bytes") (n := "join") (by rw [typeLookup_type, builtinLookup_eq_fast]; kernel_rfl) (by decide +kernel) (by decide +kernel) (by decide +kernel)
    (by first | exact .inl (by decide +kernel) | exact .inr (by decide +kernel)) (by rw [isSubtype_type]; kernel_rfl)
theorem by_entry_join : entryFor table "bytes.join" = some Builtin.«bytes.join» := by first | exact entryFor_of_fast (by kernel_rfl) | exact entryFor_of_tree (by kernel_rfl)
theorem by_args_join (a b : Value) : argsOk "bytes.join" ⟨[a, b], []⟩ := by unfold argsOk; kernel_rfl
theorem by_type_join : typeOf (.builtin "bytes.join") = pure (.type "method_descriptor") := by show builtinType _ = _; rw [builtinType_eq_fast]; kernel_rfl

theorem take_eq {b : Array UInt8} {t : Tok} {id : String} : Builtin.Bytes.takeBufferQuiet? id (.bytes b t) 0 = pure (some (b, none)) := by
  unfold Builtin.Bytes.takeBufferQuiet? Builtin.Bytes.takeBuffer?
  rw [KBy.special_eq KBy.look_buffer, KBy.own_buffer]
  unfold Builtin.Bytes.buffer?
  rw [KBy.special_eq KBy.look_buffer, KBy.own_buffer, KBy.own_release]
  rfl

def fromBytes (taken : List (Value × Option Value)) : Prop := ∀ x ∈ taken, (∃ b t, x.1 = .bytes b t) ∧ x.2 = none
section
variable {prog : Program} {w : World} {A : Around} {E : Value → Shared → Prop} {s : Shared}
theorem letGo_taken {M : Model} {Q : Unit → Shared → Prop} (h : Q () s) : ∀ (taken : List (Value × Option Value)) (keep : List Value), fromBytes taken → wpAny M A (Builtin.Bytes.joinLetGo taken keep) Q E s
  | [], _, _ => wpAny_pure h
  | (x, w) :: r, keep, hk => by
    obtain ⟨_, hw⟩ := hk (x, w) (.head _)
    simp only at hw
    subst hw
    unfold Builtin.Bytes.joinLetGo
    refine wpAny_bind (wpAny_letGo ?_)
    exact letGo_taken h r keep fun y hy => hk y (.tail _ hy)

theorem joined_nil : ∀ (parts : List (List UInt8)), Builtin.Bytes.joined #[] (parts.map List.toArray) = parts.flatten.toArray := by
  have key : ∀ (parts : List (List UInt8)) (k : Nat) (acc : List UInt8), (List.foldl (fun (out : Array UInt8) (x : Array UInt8 × Nat) => (if x.2 > 0 then out ++ #[] else out) ++ x.1) acc.toArray ((parts.map List.toArray).zipIdx k)) = (acc ++ parts.flatten).toArray := by
    intro parts
    induction parts with
    | nil => intro k acc; simp
    | cons p r ih =>
      intro k acc
      simp only [List.map_cons, List.zipIdx_cons, List.foldl_cons, List.flatten_cons]
      have e : (if k > 0 then acc.toArray ++ #[] else acc.toArray) ++ p.toArray = (acc ++ p).toArray := by split <;> simp
      rw [e, ih, List.append_assoc]
  intro parts
  have := key parts 0 []
  simpa [Builtin.Bytes.joined] using this

theorem forRange {β : Type} {M : Model} {n : Nat} {f : Nat → β → Sem (ForInStep β)} {b₀ : β} {Q : β → Shared → Prop} (I : Nat → β → Prop)
    (turn : ∀ i b, i < n → I i b → wpAny M A (f i b) (fun r s' => ∃ b', r = .yield b' ∧ I (i + 1) b' ∧ s' = s) E s) (fin : ∀ b, I n b → Q b s) (h0 : I 0 b₀) : wpAny M A (forIn [:n] b₀ f) Q E s := by
  rw [Std.Legacy.Range.forIn_eq_forIn_range']
  refine wpAny_forIn_list f (fun l b s' => ∃ i, l = List.range' i (n - i) ∧ i ≤ n ∧ I i b ∧ s' = s) Q ?_ ?_ _ _ ⟨0, by simp [Std.Legacy.Range.size], Nat.zero_le _, h0, rfl⟩
  · rintro x rest b s' ⟨i, hl, hi, hI, rfl⟩
    have hlt : i < n := by
      rcases Nat.lt_or_ge i n with h | h
      · exact h
      · rw [Nat.sub_eq_zero_of_le h] at hl; cases hl
    have e : n - i = (n - (i + 1)) + 1 := by omega
    rw [e, List.range'_succ] at hl
    injection hl with h1 h2
    subst h1
    refine wpAny_mono (turn x b hlt hI) (fun r s'' hr => ?_) fun _ _ z => z
    obtain ⟨b', rfl, hI', rfl⟩ := hr
    exact ⟨x + 1, h2, hlt, hI', rfl⟩
  · rintro b s' ⟨i, hl, hi, hI, rfl⟩
    have : n - i = 0 := by
      cases h : n - i with
      | zero => rfl
      | succ k => rw [h, List.range'_succ] at hl; cases hl
    have : i = n := by omega
    subst this
    exact fin b hI
set_option maxHeartbeats 1000000 in
theorem join_call {l : Addr} {vs : List Value} {bs : List (List UInt8)} {t₀ : Tok} {Q : Value → Shared → Prop} (hl : s.heap.IsList l vs.toArray) (hb : BytesAre vs bs) (hz : bs.flatten.length ≤ 16777216) (h2 : 2 ≤ bs.length)
    (hQ : ∀ t k, Q (.bytes bs.flatten.toArray t) { s with toks := k }) : wpAny (model prog w) A (call (.builtin "bytes.join") [.bytes #[] t₀, .ref l]) Q E s := by
  refine wpAny_call_entry by_slot_join (typeIs_bytes s _ _) by_entry_join ?_ (by_args_join _ _)
  unfold Builtin.«bytes.join» Builtin.Bytes.joinM
  refine wpAny_bind (wpAny_of_eq (a := (Value.bytes #[] t₀, Value.ref l)) rfl ?_)
  dsimp only
  refine bm_if_true (by decide) ?_
  have hlen := hb.length
  obtain ⟨o, ho, hc, n, hd⟩ := id hl
  refine wpAny_bind ?_
  unfold Builtin.Bytes.joinItems
  refine wpAny_bind (wpAny_typeOf hl.typeIs ?_)
  refine bm_if_true (by decide) ?_
  refine wpAny_pure ?_
  refine wpAny_bind (wpAny_seqItems ho hd ?_)
  dsimp only
  refine bm_if_true (by decide) ?_
  generalize hv : vs.toArray = arr at hd ⊢
  have harr : arr.size = bs.length := by rw [← hv]; simpa using hlen
  obtain ⟨v1, v2, rest, rfl⟩ : ∃ v1 v2 rest, vs = v1 :: v2 :: rest := by
    match vs, hlen with
    | [], h => simp at h; omega
    | [_], h => simp at h; omega
    | v1 :: v2 :: rest, _ => exact ⟨v1, v2, rest, rfl⟩
  subst hv
  show wpAny _ _ (forIn [:(v1 :: v2 :: rest).toArray.size] _ _ >>= fun r => _) _ _ _
  generalize hv : (v1 :: v2 :: rest).toArray = arr at hd harr ⊢
  · refine wpAny_bind (forRange (fun i b => b.1 = ((bs.map List.toArray).take i).toArray ∧ fromBytes b.2) ?_ ?_ ⟨by simp, fun _ h => nomatch h⟩)
    · rintro i ⟨parts, taken⟩ hi ⟨hp, hf⟩
      simp only at hp hf
      subst hp
      have hi' : i < bs.length := by omega
      obtain ⟨t, hv'⟩ := hb.at i bs[i] (List.getElem?_eq_getElem hi')
      refine wpAny_bind (wpAny_seqItems ho hd ?_)
      dsimp only
      have hx : arr.getD i .none = .bytes (bs[i]).toArray t := by
        rw [← hv, Array.getD_eq_getD_getElem?]; simp [hv']
      rw [hx]
      refine bm_if_false ?_ ?_
      · rw [Bool.or_eq_false_iff]
        refine ⟨by decide, List.any_eq_false.mpr fun x hx => ?_⟩
        obtain ⟨⟨b, t, e⟩, _⟩ := hf x hx
        rw [e]; exact Bool.false_ne_true
      refine wpAny_bind (wpAny_holding (wpAny_of_eq take_eq ?_))
      dsimp only
      refine wpAny_bind (wpAny_seqItems ho hd ?_)
      dsimp only
      refine bm_if_false (by simp) ?_
      refine wpAny_pure ⟨_, rfl, ⟨?_, ?_⟩, rfl⟩
      · rw [List.take_add_one, List.getElem?_map, List.getElem?_eq_getElem hi']
        simp
      · intro x hx
        rcases List.mem_append.mp hx with hx | hx
        · exact hf x hx
        · rw [List.mem_singleton.mp hx]; exact ⟨⟨_, _, rfl⟩, rfl⟩
    · rintro ⟨parts, taken⟩ ⟨hp, hf⟩
      simp only at hp hf
      subst hp
      have et : (bs.map List.toArray).take arr.size = bs.map List.toArray := by rw [harr]; exact List.take_of_length_le (by simp)
      rw [et]
      refine wpAny_bind (wpAny_of_eq (rfl : Builtin.Bytes.payload (.bytes #[] t₀) = pure #[]) ?_)
      dsimp only
      have hs : ∀ (l : List (List UInt8)) (k : Nat), List.foldl (fun x1 (x2 : Array UInt8) => x1 + x2.size) k (l.map List.toArray) = k + l.flatten.length := by
        intro l
        induction l with
        | nil => intro k; simp
        | cons a r ih => intro k; simp only [List.map_cons, List.foldl_cons, ih, List.flatten_cons, List.length_append, List.size_toArray]; omega
      refine bm_if_false (KBy.tooLong_not ?_) ?_
      · rw [List.foldl_toArray', hs]
        · simpa using hz
        · rfl
      · rw [joined_nil]
        refine wpAny_bind (wpAny_mkBytes ?_ (by show bs.flatten.toArray.size ≤ 2 ^ 24; simpa using hz))
        refine wpAny_bind (wpAny_holding (wpAny_point ?_))
        refine wpAny_bind (letGo_taken ?_ taken _ hf)
        exact wpAny_pure ⟨_, rfl, hQ _ _⟩
theorem join_method {M : Model} {b : Array UInt8} {t : Tok} {pl : Sem Bool} {Q : Value × List Value → Shared → Prop} (h : Q (.builtin "bytes.join", [.bytes b t]) s) : wpAny M A (getMethod (.bytes b t) "join" pl) Q E s := by
  with_reducible exact KBd.method_of (.bytes b t) (typeIs_bytes _ _ _) by_slot_join by_type_join KBd.noRef h
end
end Nq
end NqJoinPart

section NqEqPart
open PySem PySem.W PySem.Calls PyProof.Rows
set_option maxRecDepth 100000
namespace Nq
open PySem.SeqAt
theorem eqAt_bytes {A : Around} {s : Shared} (b : Array UInt8) (t u : Tok) : EqAt A s (.bytes b t) (.bytes b u) true := fun prog w E Q h => by
  unfold eqBool
  refine wpAny_holding ?_
  by_cases e : (Value.bytes b t == Value.bytes b u) = true
  · rw [if_pos e]
    exact wpAny_bind (wpAny_rule (wpAny_pure h))
  · rw [if_neg e]
    refine wpAny_bind ?_
    show wpAny _ _ (compareOp .Eq (.bytes b t) (.bytes b u)) _ _ _
    refine eq_bytes ?_
    rw [beq_self_eq_true]
    exact wpAny_truthy_bool h
theorem eqAt_type {A : Around} {s : Shared} (T : String) : EqAt A s (.type T) (.type T) true := fun prog w E Q h => by
  unfold eqBool
  refine wpAny_holding ?_
  rw [if_pos (by simp)]
  exact wpAny_bind (wpAny_rule (wpAny_pure h))

section
variable {prog : Program} {w : World} {A : Around} {E : Value → Shared → Prop} {s : Shared} {l m : Addr} {vs us : List Value}
theorem all_true (n : Nat) : (List.range n).all (fun _ => true) = true := by simp
theorem lists_eq {Q : Value → Shared → Prop} (hl : s.heap.IsList l vs.toArray) (hm : s.heap.IsList m us.toArray) (hsz : vs.length = us.length) (hu : A.units + 64 < cLine)
    (he : ∀ j (h1 : j < vs.length) (h2 : j < us.length), EqAt A.in1 s vs[j] us[j] true) (h : Q (.bool true) s) : wpAny (model prog w) A (compareOp .Eq (.ref l) (.ref m)) Q E s := by
  have := RcAt.lists (A := A) hl hm (by simpa using hsz) (e := fun _ => true) (by omega) (fun j h1 h2 => by simpa using he j (by simpa using h1) (by simpa using h2))
  rw [all_true] at this
  exact this prog w E Q h
theorem lists_ne {Q : Value → Shared → Prop} (hl : s.heap.IsList l vs.toArray) (hm : s.heap.IsList m us.toArray) (hsz : vs.length = us.length) (hu : A.units + 64 < cLine)
    (he : ∀ j (h1 : j < vs.length) (h2 : j < us.length), EqAt A.in1 s vs[j] us[j] true) (h : Q (.bool false) s) : wpAny (model prog w) A (compareOp .NotEq (.ref l) (.ref m)) Q E s := by
  have := RcNeAt.lists (A := A) hl hm (by simpa using hsz) (e := fun _ => true) (by omega) (fun j h1 h2 => by simpa using he j (by simpa using h1) (by simpa using h2))
  rw [all_true] at this
  exact this prog w E Q h
theorem BytesAre.eqAt {bs : List (List UInt8)} (h1 : BytesAre vs bs) (h2 : BytesAre us bs) : ∀ j (a : j < vs.length) (b : j < us.length), EqAt A s vs[j] us[j] true := fun j a b => by
  have hj : j < bs.length := by rw [← h1.length]; exact a
  obtain ⟨t, e⟩ := h1.at j bs[j] (List.getElem?_eq_getElem hj)
  obtain ⟨u, f⟩ := h2.at j bs[j] (List.getElem?_eq_getElem hj)
  have e' : vs[j] = .bytes bs[j].toArray t := by rw [List.getElem?_eq_getElem a] at e; exact Option.some.inj e
  have f' : us[j] = .bytes bs[j].toArray u := by rw [List.getElem?_eq_getElem b] at f; exact Option.some.inj f
  rw [e', f']
  exact eqAt_bytes _ _ _
end
end Nq
end NqEqPart

section NqDataPart
open PySem PySem.W PySem.Calls PyProof.Rows
set_option maxRecDepth 100000
namespace Nq
/-- data: ints, octets, a class, lists of data -/
inductive Dt where
  | int (i : Int)
  | bytes (b : List UInt8)
  | type (T : String)
  | list (ds : List Dt)

mutual
/-- the value reads as the datum; the lists stand at these addresses -/
inductive Rd (h : Heap) : Value → Dt → List Addr → Prop
  | int (i : Int) (t : Tok) : Rd h (.int i t) (.int i) []
  | bytes (b : List UInt8) (t : Tok) : Rd h (.bytes b.toArray t) (.bytes b) []
  | type (T : String) : Rd h (.type T) (.type T) []
  | list {a : Addr} {vs : List Value} {ds : List Dt} {as : List Addr} : h.IsList a vs.toArray → RdAll h vs ds as → Rd h (.ref a) (.list ds) (a :: as)
inductive RdAll (h : Heap) : List Value → List Dt → List Addr → Prop
  | nil : RdAll h [] [] []
  | cons {v : Value} {d : Dt} {as : List Addr} {vs : List Value} {ds : List Dt} {bs : List Addr} : Rd h v d as → RdAll h vs ds bs → RdAll h (v :: vs) (d :: ds) (as ++ bs)
end

mutual
theorem Rd.frame {h h' : Heap} : ∀ {v : Value} {d : Dt} {as : List Addr}, Rd h v d as → (∀ a ∈ as, ∀ o, h.get? a = some o → h'.get? a = some o) → Rd h' v d as
  | _, _, _, .int i t, _ => .int i t
  | _, _, _, .bytes b t, _ => .bytes b t
  | _, _, _, .type T, _ => .type T
  | _, _, _, .list hl r, k => .list (hl.at fun o e => k _ (.head _) o e) (r.frame fun a ha o e => k a (.tail _ ha) o e)
theorem RdAll.frame {h h' : Heap} : ∀ {vs : List Value} {ds : List Dt} {as : List Addr}, RdAll h vs ds as → (∀ a ∈ as, ∀ o, h.get? a = some o → h'.get? a = some o) → RdAll h' vs ds as
  | _, _, _, .nil, _ => .nil
  | _, _, _, .cons x r, k => .cons (x.frame fun a ha o e => k a (List.mem_append_left _ ha) o e) (r.frame fun a ha o e => k a (List.mem_append_right _ ha) o e)
end
mutual
theorem Rd.live {h : Heap} : ∀ {v : Value} {d : Dt} {as : List Addr}, Rd h v d as → ∀ a ∈ as, ∃ o, h.get? a = some o
  | _, _, _, .int i t, a, ha => nomatch ha
  | _, _, _, .bytes b t, a, ha => nomatch ha
  | _, _, _, .type T, a, ha => nomatch ha
  | _, _, _, .list ⟨o, ho, _⟩ r, a, ha => by
    rcases List.mem_cons.mp ha with rfl | ha
    · exact ⟨o, ho⟩
    · exact r.live a ha
theorem RdAll.live {h : Heap} : ∀ {vs : List Value} {ds : List Dt} {as : List Addr}, RdAll h vs ds as → ∀ a ∈ as, ∃ o, h.get? a = some o
  | _, _, _, .nil, a, ha => nomatch ha
  | _, _, _, .cons x r, a, ha => by
    rcases List.mem_append.mp ha with ha | ha
    · exact x.live a ha
    · exact r.live a ha
end
theorem Rd.keeps {h h' : Heap} {v : Value} {d : Dt} {as : List Addr} (x : Rd h v d as) (k : ∀ b o, h.get? b = some o → h'.get? b = some o) : Rd h' v d as := x.frame fun a _ o e => k a o e
theorem RdAll.keeps {h h' : Heap} {vs : List Value} {ds : List Dt} {as : List Addr} (x : RdAll h vs ds as) (k : ∀ b o, h.get? b = some o → h'.get? b = some o) : RdAll h' vs ds as := x.frame fun a _ o e => k a o e
theorem RdAll.length {h : Heap} : ∀ {vs : List Value} {ds : List Dt} {as : List Addr}, RdAll h vs ds as → vs.length = ds.length
  | _, _, _, .nil => rfl
  | _, _, _, .cons _ r => by rw [List.length_cons, List.length_cons, r.length]
theorem RdAll.append {h : Heap} : ∀ {vs : List Value} {ds : List Dt} {as : List Addr}, RdAll h vs ds as → ∀ {us : List Value} {es : List Dt} {bs : List Addr}, RdAll h us es bs → RdAll h (vs ++ us) (ds ++ es) (as ++ bs)
  | _, _, _, .nil, _, _, _, y => y
  | _, _, _, .cons x r, _, _, _, y => by rw [List.append_assoc]; exact .cons x (r.append y)
theorem RdAll.one {h : Heap} {v : Value} {d : Dt} {as : List Addr} (x : Rd h v d as) : RdAll h [v] [d] as := by
  have := RdAll.cons x (.nil (h := h)); rwa [List.append_nil] at this
theorem RdAll.at {h : Heap} : ∀ {vs : List Value} {ds : List Dt} {as : List Addr}, RdAll h vs ds as → ∀ (i : Nat) (d : Dt), ds[i]? = some d → ∃ v bs, vs[i]? = some v ∧ Rd h v d bs ∧ ∀ b ∈ bs, b ∈ as
  | _, _, _, .nil, i, d, e => by simp at e
  | _, _, _, .cons x r, 0, d, e => by simp at e; subst e; exact ⟨_, _, rfl, x, fun b hb => List.mem_append_left _ hb⟩
  | _, _, _, .cons x r, i + 1, d, e => by
    obtain ⟨v, bs, h1, h2, h3⟩ := r.at i d (by simpa using e)
    exact ⟨v, bs, by simpa using h1, h2, fun b hb => List.mem_append_right _ (h3 b hb)⟩
theorem RdAll.ints {h : Heap} : ∀ {vs : List Value} {ns : List Int} {as : List Addr}, RdAll h vs (ns.map .int) as → IntsAre vs ns ∧ as = []
  | _, [], _, .nil => ⟨.nil, rfl⟩
  | _, n :: ns, _, .cons x r => by
    cases x with
    | int _ t => obtain ⟨a, b⟩ := r.ints; exact ⟨.cons n t a, by rw [b]; rfl⟩
theorem RdAll.of_ints {h : Heap} : ∀ {vs : List Value} {ns : List Int}, IntsAre vs ns → RdAll h vs (ns.map .int) []
  | _, _, .nil => .nil
  | _, _, .cons n t r => .cons (.int n t) (RdAll.of_ints r)
theorem RdAll.bytes {h : Heap} : ∀ {vs : List Value} {bs : List (List UInt8)} {as : List Addr}, RdAll h vs (bs.map .bytes) as → BytesAre vs bs ∧ as = []
  | _, [], _, .nil => ⟨.nil, rfl⟩
  | _, b :: bs, _, .cons x r => by
    cases x with
    | bytes _ t => obtain ⟨a, e⟩ := r.bytes; exact ⟨.cons b t a, by rw [e]; rfl⟩
theorem RdAll.of_bytes {h : Heap} : ∀ {vs : List Value} {bs : List (List UInt8)}, BytesAre vs bs → RdAll h vs (bs.map .bytes) []
  | _, _, .nil => .nil
  | _, _, .cons n t r => .cons (.bytes n t) (RdAll.of_bytes r)
/-- a value that reads as octets -/
theorem Rd.bytes_inv {h : Heap} {v : Value} {b : List UInt8} {as : List Addr} (x : Rd h v (.bytes b) as) : ∃ t, v = .bytes b.toArray t := by cases x; exact ⟨_, rfl⟩
theorem Rd.int_inv {h : Heap} {v : Value} {i : Int} {as : List Addr} (x : Rd h v (.int i) as) : ∃ t, v = .int i t := by cases x; exact ⟨_, rfl⟩
theorem Rd.list_inv {h : Heap} {v : Value} {ds : List Dt} {as : List Addr} (x : Rd h v (.list ds) as) : ∃ a vs bs, v = .ref a ∧ h.IsList a vs.toArray ∧ RdAll h vs ds bs ∧ as = a :: bs := by
  cases x with
  | list hl r => exact ⟨_, _, _, rfl, hl, r, rfl⟩

/-- rows of ints -/
abbrev rowsD (rows : List (List Int)) : Dt := .list (rows.map fun r => .list (r.map .int))

-- keeping
theorem kp_refl (s : Shared) : Keeps s s := ⟨s.heap, s.toks, rfl, fun _ _ e => e⟩
theorem kp_trans {s₁ s₂ s₃ : Shared} (x : Keeps s₁ s₂) (y : Keeps s₂ s₃) : Keeps s₁ s₃ := by
  obtain ⟨h, t, rfl, k⟩ := x
  obtain ⟨h', t', rfl, k'⟩ := y
  exact ⟨h', t', rfl, fun b o e => k' b o (k b o e)⟩
theorem kp_k {s s' : Shared} (x : Keeps s s') : ∀ b o, s.heap.get? b = some o → s'.heap.get? b = some o := by
  obtain ⟨h, t, rfl, k⟩ := x; exact k
theorem kp_of {s : Shared} {h : Heap} {t : Nat} (k : ∀ b o, s.heap.get? b = some o → h.get? b = some o) : Keeps s { s with heap := h, toks := t } := ⟨h, t, rfl, k⟩
theorem kp_tok {s : Shared} (t : Nat) : Keeps s { s with toks := t } := ⟨s.heap, t, rfl, fun _ _ e => e⟩
/-- all stands but at one address, which was not there -/
theorem kp_but {s₀ s : Shared} {h : Heap} {t : Nat} {a : Addr} (x : Keeps s₀ s) (hs : Heap.SameBut a s.heap h) (n : s₀.heap.get? a = none) : Keeps s₀ { s with heap := h, toks := t } := by
  obtain ⟨h₁, t₁, rfl, k⟩ := x
  exact ⟨h, t, rfl, fun b o e => hs.extBut b o (by rintro rfl; rw [n] at e; cases e) (k b o e)⟩
theorem kp_none {s s' : Shared} (x : Keeps s s') {a : Addr} (e : s'.heap.get? a = none) : s.heap.get? a = none := by
  cases q : s.heap.get? a with
  | none => rfl
  | some o => rw [kp_k x a o q] at e; cases e
theorem fresh_size (h : Heap) {a : Addr} (ha : h.objs.size ≤ a) : h.get? a = none := by
  cases e : h.get? a with
  | none => rfl
  | some o => exact absurd (Heap.lt_size e) (Nat.not_lt.mpr ha)

/-- the name stands for the value in this environment -/
def Has (h : Heap) (env : Env) (x : Str) (v : Value) : Prop :=
  (env.kindOf x = some .local ∧ ∃ m, h.Ns env.locals m ∧ m x = some v) ∨ (env.kindOf x = some .cell ∧ ∃ c, env.cells.lookup x = some c ∧ h.IsCell c (some v))
theorem Has.keeps {h h' : Heap} {env : Env} {x : Str} {v : Value} (y : Has h env x v) (k : ∀ b o, h.get? b = some o → h'.get? b = some o) : Has h' env x v := by
  rcases y with ⟨a, m, n, e⟩ | ⟨a, c, l, n⟩
  · exact .inl ⟨a, m, n.keeps k, e⟩
  · exact .inr ⟨a, c, l, n.keeps k⟩

/-- the environment's own objects stand -/
structure Wf (h : Heap) (env : Env) : Prop where
  fn : env.scope.kind = .function
  ns : ∃ m, h.Ns env.locals m
  cell : ∀ x c, env.cells.lookup x = some c → ∃ v, h.IsCell c v
  apart : env.cells.Pairwise fun x y => x.2 ≠ y.2
theorem Wf.keeps {h h' : Heap} {env : Env} (x : Wf h env) (k : ∀ b o, h.get? b = some o → h'.get? b = some o) : Wf h' env :=
  ⟨x.fn, let ⟨m, n⟩ := x.ns; ⟨m, n.keeps k⟩, fun y c hp => let ⟨v, i⟩ := x.cell y c hp; ⟨v, i.keeps k⟩, x.apart⟩
theorem Wf.off {h : Heap} {env : Env} (x : Wf h env) {y : Str} {c : Addr} (hp : env.cells.lookup y = some c) : c ≠ env.locals := fun e => by
  obtain ⟨v, o, ho, hd⟩ := x.cell y c hp
  obtain ⟨m, o', es, ep, ho', hd', _⟩ := x.ns
  rw [e, ho'] at ho
  cases ho
  rw [hd] at hd'
  cases hd'

/-- where a name's value lies -/
def slotOf (env : Env) (x : Str) : Addr := if env.kindOf x = some .local then env.locals else (env.cells.lookup x).getD 0
/-- a name that may be stored -/
def May (env : Env) (x : Str) : Prop := env.kindOf x = some .local ∨ (env.kindOf x = some .cell ∧ (env.cells.lookup x).isSome = true)

section
variable {M : Model} {A : Around} {E : Value → Shared → Prop} {s : Shared} {env : Env}
theorem ev_name {x : Str} {pos : Pos} {v : Value} {Q : Value → Shared → Prop} (hf : env.scope.kind = .function) (y : Has s.heap env x v) (h : Q v s) (hd : (x == ("__debug__" : Str)) = false := by decide) :
    wpAny M A (eval (.Name x pos) env) Q E s := by
  refine wpAny_Name ?_ hd
  rcases y with ⟨a, m, n, e⟩ | ⟨a, c, l, n⟩
  · exact wpAny_loadName_local hf a n e h
  · exact wpAny_loadName_cell hf a l n h

theorem st_name {x : Str} {v : Value} {Q : Unit → Shared → Prop} (W : Wf s.heap env) (hm : May env x)
    (h : ∀ h' tk, Wf h' env → Has h' env x v → (∀ y u, y ≠ x → Has s.heap env y u → Has h' env y u) → Heap.SameBut (slotOf env x) s.heap h' → Q () { s with heap := h', toks := tk }) :
    wpAny M A (storeName env x v) Q E s := by
  rcases hm with hl | ⟨hl, hc⟩
  · obtain ⟨m, n⟩ := W.ns
    refine wpAny_storeName_local hl n (fun h' n' hs => ?_) (by rw [W.fn]; rfl)
    refine h h' _ ⟨W.fn, ⟨_, n'⟩, fun z p hp => ?_, W.apart⟩ (.inl ⟨hl, _, n', by simp⟩) (fun y u hy hu => ?_) (by rw [slotOf, if_pos hl]; exact hs)
    · obtain ⟨w, c⟩ := W.cell z p hp
      exact ⟨w, c.sameBut hs (W.off hp)⟩
    · rcases hu with ⟨a, m₂, n₂, e⟩ | ⟨a, c, l, n₂⟩
      · refine .inl ⟨a, _, n', ?_⟩
        obtain ⟨o, es, ep, ho, hd, _, hf⟩ := n
        obtain ⟨o₂, es₂, ep₂, ho₂, hd₂, _, hf₂⟩ := n₂
        rw [ho] at ho₂; cases ho₂
        rw [hd] at hd₂; cases hd₂
        show (if y = x then some v else m y) = some u
        rw [if_neg hy, ← hf, hf₂, e]
      · exact .inr ⟨a, c, l, n₂.sameBut hs (W.off l)⟩
  · obtain ⟨c, l⟩ := Option.isSome_iff_exists.mp hc
    obtain ⟨w, ic⟩ := W.cell _ _ l
    refine wpAny_storeName_cell W.fn hl l ic fun h' c' hs => ?_
    have off := W.off l
    refine h h' s.toks ⟨W.fn, ?_, fun z p hp => ?_, W.apart⟩ (.inr ⟨hl, c, l, c'⟩) (fun y u hy hu => ?_) (by rw [slotOf, if_neg (by rw [hl]; decide), l]; exact hs)
    · obtain ⟨m, n⟩ := W.ns
      exact ⟨m, n.sameBut hs (Ne.symm off)⟩
    · by_cases q : p = c
      · rw [q]; exact ⟨_, c'⟩
      · obtain ⟨w', ic'⟩ := W.cell z p hp
        exact ⟨w', ic'.sameBut hs q⟩
    · rcases hu with ⟨a, m₂, n₂, e⟩ | ⟨a, c₂, l₂, n₂⟩
      · exact .inl ⟨a, m₂, n₂.sameBut hs (Ne.symm off), e⟩
      · exact .inr ⟨a, c₂, l₂, n₂.sameBut hs fun q => hy (name_of_addr W.apart (mem_of_lookup l₂) (q ▸ mem_of_lookup l))⟩
end
end Nq
end NqDataPart

section NqLoopPart
open PySem PySem.W PySem.Calls PyProof.Rows
set_option maxRecDepth 100000
namespace Nq
section
variable {b : Bool} {M : Model} {A : Around} {s : Shared}
theorem codeS.any {c : Code} {R : Flow → Shared → Prop} (h : codeS false M A c R s) : codeAny M A c (fun r s' => ∃ f, r = .ok f ∧ R f s') s := fun Γ p hc hΓ => h Γ p hc hΓ (fun x => by cases x)
theorem codeS.loop2 {c : Code} {R : Flow → Shared → Prop} (hb : badCode c = false) (hq : c.quiet = true) (I : Nat → Shared → Prop)
    (turn : ∀ n s, I n s → wpS b M (A.under c) (M.den c) (fun fin s' => match fin with | .done f => R f s' | .again c' => (c' = c ∧ ∃ m, m < n ∧ I m s') ∨ (c'.quiet = true ∧ codeS b M A c' R s')) s)
    (n : Nat) (h : I n s) : codeS b M A c R s := by
  induction n using Nat.strongRecOn generalizing s with
  | ind n ih =>
    refine codeS.of_tree hb ((turn n s h).mono fun fin s' x => ?_)
    cases fin with
    | done f => exact x
    | again c' =>
      rcases x with ⟨rfl, m, hm, hI⟩ | x
      · exact ⟨hq, ih m hm hI⟩
      · exact x
end

section
variable {b : Bool} {prog : Program} {w : World} {A : Around} {s : Shared} {env : Env}
theorem codeS.block {body : List Stmt} {R : Flow → Shared → Prop} (h : wpS b (model prog w) A (execs body env) R s) : codeS b (model prog w) A (.block body env) R s := by
  refine codeS.of_tree rfl ?_
  rw [Around.under_of_weight (by rfl)]
  show wpS _ _ _ ((execs body env).onRaise _ >>= fun f => Pure.pure (Fin.done f)) _ _
  exact wpS.bind (wpS.onRaise (h.mono fun f s' x => wpS.pure x))

/-- a for over a walk: what holds between the turns -/
theorem codeS.for {x : Str} {px : Pos} {body : List Stmt} {I : Addr} {fp wr : List Addr} {n : Nat} {P : Nat → Value → Prop} {St : Nat → Heap → Prop} {R : Flow → Shared → Prop} (Inv : Nat → Shared → Prop)
    (W : Walks prog w A I fp wr n P St) (st : St 0 s.heap) (h0 : Inv 0 s)
    (stab : ∀ i s' h tk, Inv i s' → (∀ b o, b ∉ wr → s'.heap.get? b = some o → h.get? b = some o) → Inv i { s' with heap := h, toks := tk })
    (turn : ∀ i v s', i < n → P i v → Inv i s' → St (i + 1) s'.heap → wpAny (model prog w) A (storeName env x v) (fun _ s'' => wpS b (model prog w) A (execs body env) (fun f s₃ => f = .next ∧ Inv (i + 1) s₃ ∧ St (i + 1) s₃.heap) s'') (fun _ _ => False) s')
    (fin : ∀ s', Inv n s' → R .next s') : codeS b (model prog w) A (.forLoop (.Name x px) (.ref I) body [] env) R s := by
  refine codeS.loop2 rfl rfl (fun k s' => ∃ i, i ≤ n ∧ k = n - i ∧ Inv i s' ∧ St i s'.heap) ?_ n ⟨0, Nat.zero_le _, rfl, h0, st⟩
  rintro k s' ⟨i, hi, rfl, hI, hs⟩
  rw [Around.under_of_weight (by rfl)]
  show wpS _ _ _ ((forTurn (.Name x px) (.ref I) body [] env).onRaise _) _ _
  refine wpS.onRaise ?_
  unfold forTurn
  refine wpS.bind (wpS.standAt ?_)
  refine wpS.bind (wpS.onRaise (wpS.of_any ?_))
  by_cases hlt : i < n
  · refine W.item i s' _ _ hlt hs fun v h₁ tk₁ hP st₁ k₁ => ?_
    dsimp only
    refine wpS.bindAny (wpAny_of_eq (a := ()) rfl ?_)
    have hI' := stab i s' h₁ tk₁ hI k₁
    refine wpS.bindAny (wpAny_assign_Name (wpAny_mono (turn i v _ hlt hP hI' st₁) (fun _ s₂ h₂ => ?_) fun _ _ z => z))
    refine wpS.bind (h₂.mono fun f s₃ h₃ => ?_)
    obtain ⟨rfl, i₃, st₃⟩ := h₃
    exact wpS.pure (.inl ⟨rfl, n - (i + 1), by omega, i + 1, hlt, rfl, i₃, st₃⟩)
  · have : i = n := by omega
    subst this
    refine W.done s' _ _ hs fun h₁ tk₁ k₁ => ?_
    dsimp only
    exact wpS.pure (.inr ⟨rfl, codeS.block (wpS.pure (fin _ (stab i s' h₁ tk₁ hI k₁)))⟩)
theorem wpS.for {x : Str} {px : Pos} {iter : Expr} {body : List Stmt} {pos : Pos} {Q : Flow → Shared → Prop}
    (h : wpS b (model prog w) A (eval iter env) (fun xv s₁ => wpS b (model prog w) A (pyIter xv) (fun it s₂ => codeS b (model prog w) A (.forLoop (.Name x px) it body [] env) Q s₂) s₁) s)
    (hs : ∀ x, foldedSetIterable iter env x = Pure.pure x := by intro _; rfl) : wpS b (model prog w) A (exec (.For (.Name x px) iter body [] pos) env) Q s := by
  rw [exec_For]
  refine wpS.bind (wpS.standAt (wpS.bind (h.mono fun xv s₁ h₁ => ?_)))
  refine wpS.bind (wpS.ofEq (hs xv) (wpS.pure (wpS.bind (wpS.standAt (wpS.bind (wpS.holding (h₁.mono fun it s₂ h₂ => wpS.runOwn h₂)))))))

theorem wpS.execs_nil {Q : Flow → Shared → Prop} (h : Q .next s) : wpS b (model prog w) A (execs [] env) Q s := fun _ _ _ _ => h
theorem wpS.execs_cons {st : Stmt} {rest : List Stmt} {Q : Flow → Shared → Prop} (h : wpS b (model prog w) A (exec st env) (fun f s' => match f with | .next => wpS b (model prog w) A (execs rest env) Q s' | f => Q f s') s) :
    wpS b (model prog w) A (execs (st :: rest) env) Q s := fun Γ p hΓ hc => by
  rw [PySem.execs_cons, Sem.wp_bind']
  refine Sem.wp_mono _ Γ _ (fun f p' s' h' => ?_) (fun _ _ _ x => x) _ _ (h Γ p hΓ hc)
  cases f <;> first | exact h' Γ p' hΓ hc | exact h'

/-- a comprehension's loop at a depth whose turn is an action behind the target's store -/
theorem codeS.comp {e : Expr} {depth : Nat} {x : Str} {px p₀ : Pos} {acc : Value} {act : Sem Unit} {I : Addr} {fp wr : List Addr} {n : Nat} {P : Nat → Value → Prop} {St : Nat → Heap → Prop} {R : Flow → Shared → Prop} (Inv : Nat → Shared → Prop)
    (hq : (Code.compLoop e depth (.ref I) acc env).isFrame = false)
    (shape : compTurn e depth (.ref I) acc env = (standAt p₀ >>= fun _ => pyNext (.ref I) >>= fun r => match r with
      | none => Pure.pure (.done .next)
      | some v => letOwnedTupleGo (.Name x px) (.ref I) v >>= fun _ => assign (.Name x px) env v >>= fun _ => act >>= fun _ => again (.compLoop e depth (.ref I) acc env)))
    (W : Walks prog w A I fp wr n P St) (st : St 0 s.heap) (h0 : Inv 0 s)
    (stab : ∀ i s' h tk, Inv i s' → (∀ b o, b ∉ wr → s'.heap.get? b = some o → h.get? b = some o) → Inv i { s' with heap := h, toks := tk })
    (turn : ∀ i v s', i < n → P i v → Inv i s' → St (i + 1) s'.heap → wpAny (model prog w) A (storeName env x v) (fun _ s'' => wpS b (model prog w) A act (fun _ s₃ => Inv (i + 1) s₃ ∧ St (i + 1) s₃.heap) s'') (fun _ _ => False) s')
    (fin : ∀ s', Inv n s' → R .next s') : codeS b (model prog w) A (.compLoop e depth (.ref I) acc env) R s := by
  have hw : (Code.compLoop e depth (.ref I) acc env).frames = 0 := by
    show (if (Code.compLoop e depth (.ref I) acc env).isFrame then 1 else 0) = 0
    rw [hq]; rfl
  have hwt : (Code.compLoop e depth (.ref I) acc env).weight = 0 := by
    show (Code.compLoop e depth (.ref I) acc env).frames + 0 + 0 + 0 = 0
    rw [hw]
  refine codeS.loop2 rfl rfl (fun k s' => ∃ i, i ≤ n ∧ k = n - i ∧ Inv i s' ∧ St i s'.heap) ?_ n ⟨0, Nat.zero_le _, rfl, h0, st⟩
  rintro k s' ⟨i, hi, rfl, hI, hs⟩
  rw [Around.under_of_weight hwt (by show 3 * _ = 0; rw [hw])]
  show wpS _ _ _ (if (Code.compLoop e depth (.ref I) acc env).isFrame = true then _ else (compTurn e depth (.ref I) acc env).onRaise _) _ _
  refine wpS.iteF (by rw [hq]; decide) ?_
  refine wpS.onRaise ?_
  rw [shape]
  refine wpS.bind (wpS.standAt ?_)
  refine wpS.bindAny ?_
  by_cases hlt : i < n
  · refine W.item i s' _ _ hlt hs fun v h₁ tk₁ hP st₁ k₁ => ?_
    dsimp only
    refine wpS.bindAny (wpAny_of_eq (a := ()) rfl ?_)
    have hI' := stab i s' h₁ tk₁ hI k₁
    refine wpS.bindAny (wpAny_assign_Name (wpAny_mono (turn i v _ hlt hP hI' st₁) (fun _ s₂ h₂ => ?_) fun _ _ z => z))
    refine wpS.bind (h₂.mono fun _ s₃ h₃ => ?_)
    exact wpS.pure (.inl ⟨rfl, n - (i + 1), by omega, i + 1, hlt, rfl, h₃.1, h₃.2⟩)
  · have : i = n := by omega
    subst this
    refine W.done s' _ _ hs fun h₁ tk₁ k₁ => ?_
    exact wpS.pure (fin _ (stab i s' h₁ tk₁ hI k₁))

theorem codeS.compStart {e : Expr} {depth : Nat} {acc : Value} {I : Addr} {R : Flow → Shared → Prop} {g : Comprehension} (hq : (Code.compStart e depth (.ref I) acc env).isFrame = false) (hg : (clausesOf e)[depth]? = some g) (ha : (g.is_async != 0) = false)
    (self : ∀ (Q : Value → Shared → Prop), Q (.ref I) s → wpAny (model prog w) A (pyIter (.ref I)) Q (fun _ _ => False) s)
    (h : codeS b (model prog w) A (.compLoop e depth (.ref I) acc env) R s) : codeS b (model prog w) A (.compStart e depth (.ref I) acc env) R s := by
  have hw : (Code.compStart e depth (.ref I) acc env).frames = 0 := by
    show (if (Code.compStart e depth (.ref I) acc env).isFrame then 1 else 0) = 0
    rw [hq]; rfl
  have hwt : (Code.compStart e depth (.ref I) acc env).weight = 0 := by
    show (Code.compStart e depth (.ref I) acc env).frames + 0 + 0 + 0 = 0
    rw [hw]
  refine codeS.of_tree rfl ?_
  rw [Around.under_of_weight hwt (by show 3 * _ = 0; rw [hw])]
  show wpS _ _ _ (if (Code.compStart e depth (.ref I) acc env).isFrame = true then _ else (PySem.compStart e depth (.ref I) acc env).onRaise _) _ _
  refine wpS.iteF (by rw [hq]; decide) ?_
  refine wpS.onRaise ?_
  unfold PySem.compStart
  rw [hg]
  refine wpS.iteF (by simp only [Option.elim]; rw [ha]; decide) ?_
  refine wpS.bindAny (wpAny_askSetting ?_)
  by_cases hc : (model prog w).w.params.followText "comprehension-iter-twice" = true
  · refine wpS.iteT hc ?_
    exact wpS.pure ⟨rfl, h⟩
  · refine wpS.iteF hc ?_
    refine wpS.bindAny (wpAny_rule ?_)
    refine wpS.bind (wpS.standAt ?_)
    refine wpS.bindAny (self _ ?_)
    exact wpS.pure ⟨rfl, h⟩
end
end Nq
end NqLoopPart

section NqCompPart
open PySem PySem.W PySem.Calls PyProof.Rows
set_option maxRecDepth 100000
namespace Nq
theorem cellsFrom_app : ∀ (names : List (Str × NameKind)) (n : Nat) (acc : List (Str × Addr)), cellsFrom n names acc = cellsFrom n names [] ++ acc
  | [], _, _ => rfl
  | (x, k) :: r, n, acc => by
    unfold cellsFrom
    split
    · rw [cellsFrom_app r (n + 1) ((x, n) :: acc), cellsFrom_app r (n + 1) [(x, n)], List.append_assoc]; rfl
    · exact cellsFrom_app r n acc

theorem nlt {a b : Nat} (h : a < b) (k : b ≤ a) : False := Nat.lt_irrefl _ (Nat.lt_of_lt_of_le h k)
theorem cellsFrom_ge : ∀ (names : List (Str × NameKind)) (n : Nat) (acc : List (Str × Addr)), ∀ p ∈ cellsFrom n names acc, p ∈ acc ∨ n ≤ p.2
  | [], _, _, p, hp => .inl hp
  | (x, k) :: r, n, acc, p, hp => by
    unfold cellsFrom at hp
    split at hp
    · rcases cellsFrom_ge r (n + 1) _ p hp with q | q
      · rcases List.mem_cons.mp q with rfl | q
        · exact .inr (Nat.le_refl _)
        · exact .inl q
      · exact .inr (Nat.le_of_succ_le q)
    · exact cellsFrom_ge r n acc p hp
/-- a comprehension's environment -/
def compE (env : Env) (scope : Scope) (cl : List (Str × Addr)) (C : Addr) : Env :=
  { scope := relabel scope env, locals := C, globals := env.globals, cells := cellsFrom (C + 1) scope.names cl, qual := env.qual, func := none, code := env.code, frame := env.frame, builtins := env.builtins }

section
variable {b : Bool} {prog : Program} {w : World} {A : Around} {s : Shared} {env : Env}

theorem compE_new {M : Model} {E : Value → Shared → Prop} {scope : Scope} {cl : List (Str × Addr)} {Q : Env → Shared → Prop} (W : Wf s.heap env) (hcl : ∀ p ∈ cl, env.cells.lookup p.1 = some p.2) (hca : cl.Pairwise fun x y => x.2 ≠ y.2) (hk : scope.kind = .function)
    (h : ∀ h', (∀ b o, s.heap.get? b = some o → h'.get? b = some o) → Wf h' (compE env scope cl s.heap.objs.size) →
      Q (newEnv scope s.heap.objs.size env.globals (cellsFrom (s.heap.objs.size + 1) scope.names cl) env.qual none .none (some env) builtinsNs) { s with heap := h' }) :
    wpAny M A (newFunctionEnv scope env.globals cl [] env.qual none .none (some env)) Q E s := by
  simp only [newFunctionEnv]
  refine wpAny_bind (wpAny_alloc ?_)
  refine wpAny_bind (wpAny_layCells _ (fun name kind cells => by cases hkc : kind == NameKind.cell <;> simp [hkc]) _ _ _ _ ?_)
  rw [show ({ s with heap := s.heap.push { cls := .type (if (some env).isSome then "dict" else "frame"), data := .dict #[] } } : Shared).heap.objs.size = s.heap.objs.size + 1 from Heap.size_push ..]
  have keep : ∀ b o, s.heap.get? b = some o → (pushCells (s.heap.push { cls := .type (if (some env).isSome then "dict" else "frame"), data := .dict #[] }) scope.names).get? b = some o := fun b o e => pushCells_keeps _ _ b o (Heap.get?_push_of_some _ e)
  have ok := cellsFrom_ok scope.names (s.heap.push { cls := .type (if (some env).isSome then "dict" else "frame"), data := .dict #[] }) (s.heap.objs.size + 1) [] ⟨fun _ _ hm => (nomatch hm), List.Pairwise.nil⟩ (by rw [Heap.size_push]; exact Nat.le_refl _)
  rw [Heap.size_push] at ok
  refine wpAny_bind (wpAny_of_eq (a := ⟨⟩) rfl ?_)
  refine wpAny_pure (h _ keep ⟨hk, ⟨_, (Heap.Ns.new s.heap _).keeps (pushCells_keeps _ _)⟩, fun z p hp => ?_, ?_⟩)
  · have hp' : (z, p) ∈ cellsFrom (s.heap.objs.size + 1) scope.names cl := mem_of_lookup hp
    rw [cellsFrom_app] at hp'
    rcases List.mem_append.mp hp' with q | q
    · exact ⟨_, (ok.empty z p q).1⟩
    · obtain ⟨v, c⟩ := W.cell z p (hcl (z, p) q)
      exact ⟨v, c.keeps keep⟩
  · show (cellsFrom (s.heap.objs.size + 1) scope.names cl).Pairwise _
    rw [cellsFrom_app]
    refine List.pairwise_append.mpr ⟨ok.apart, hca, fun x hx y hy e => ?_⟩
    have h1 := (ok.empty x.1 x.2 hx).2
    obtain ⟨v, c⟩ := W.cell y.1 y.2 (hcl y hy)
    have h2 : y.2 < s.heap.objs.size := c.lt
    exact Nat.ne_of_lt (Nat.lt_of_lt_of_le h2 (Nat.le_of_succ_le h1)) e.symm

theorem comp_top {e : Expr} {scope : Scope} {pos : Pos} {first : Sem Value} {g : Comprehension} {gs : List Comprehension} {cl : List (Str × Addr)} {Q : Value → Shared → Prop}
    (hg : clausesOf e = g :: gs) (hs : ∀ x, foldedSetIterable g.iter env x = Pure.pure x) (hclos : closureFor scope env = Pure.pure cl) (hk : scope.kind = .function) (hnames : ∀ x ∈ scope.names, x.2 = .local → scope.names.lookup x.1 = some .local)
    (h : wpS b (model prog w) A first (fun x s₁ => wpS b (model prog w) A (pyIter x) (fun it s₂ => wpS b (model prog w) A (newList []) (fun acc s₃ =>
      wpS b (model prog w) A (newFunctionEnv scope env.globals cl [] env.qual none .none (some env)) (fun cenv s₄ =>
        codeS b (model prog w) A (.compStart e 0 it acc { cenv with scope := relabel scope env }) (fun _ s' => ∃ m, s'.heap.Ns cenv.locals m ∧ ∀ h', Heap.SameBut cenv.locals s'.heap h' → Q acc { s' with heap := h' }) s₄) s₃) s₂) s₁) s) :
    wpS b (model prog w) A (comprehension e scope env pos (newList []) false first) Q s := by
  unfold comprehension
  rw [hclos, hg]
  refine wpS.bind (h.mono fun x s₁ h₁ => wpS.bind (wpS.standAt (wpS.bind (wpS.ofEq (hs x) (wpS.pure (wpS.bind (wpS.holding (h₁.mono fun it s₂ h₂ => ?_))))))))
  refine wpS.iteF (by decide) ?_
  refine wpS.bind (h₂.mono fun acc s₃ h₃ => ?_)
  refine wpS.bind (wpS.pure ?_)
  refine wpS.bind (h₃.mono fun cenv s₄ h₄ => ?_)
  dsimp only
  have hv : ∀ x ∈ (scope.names.filter fun x => (x.2 == .local || x.2 == .cell) && x.1 != (".0" : Str)).reverse, x.2 = .local →
      Env.kindOf { cenv with scope := relabel scope env } x.1 = some .local := fun x hx hl => lookup_relabel_local (hnames x (List.mem_filter.mp (List.mem_reverse.mp hx)).1 hl)
  refine wpS.holding (wpS.bind (wpS.attempt (wpS.holding (wpS.run (h₄.mono fun f s' hr => ?_)))))
  obtain ⟨m, hn, hr⟩ := hr
  exact wpS.bindAny (wpAny_holding (wpAny_comp_letGo (cenv := { cenv with scope := relabel scope env }) hk _ s' m hv hn fun h' m' _ hs' => wpS.pure (hr h' hs')))

theorem comp_list {elt iter : Expr} {x : Str} {px : Pos} {scope : Scope} {pos : Pos} {cl : List (Str × Addr)} {I : Addr} {fp wr : List Addr} {n : Nat} {P : Nat → Value → Prop} {St : Nat → Heap → Prop} {RR : Value → Addr → Shared → Prop} (ds : Nat → Dt)
    (W : Walks prog w A I fp wr n P St) (st : St 0 s.heap) (hfp : ∀ a ∈ fp, a < s.heap.objs.size) (hsz : n ≤ sizeLine) (wf : Wf s.heap env) (hcl : ∀ p ∈ cl, env.cells.lookup p.1 = some p.2) (hca : cl.Pairwise fun x y => x.2 ≠ y.2) (hk : scope.kind = .function)
    (live : ∀ i h, St i h → ∀ a ∈ wr, ∃ o, h.get? a = some o) (hoff : ∀ y c, env.cells.lookup y = some c → c ∉ wr) (hmay : ∀ C, May (compE env scope cl C) x) (hslot : ∀ C, slotOf (compE env scope cl C) x ≥ C)
    (helt : ∀ i v C s₃, i < n → P i v → s.heap.objs.size ≤ C → Wf s₃.heap (compE env scope cl C) → Has s₃.heap (compE env scope cl C) x v → (∀ y u, Has s.heap env y u → (compE env scope cl C).kindOf y = some .cell → env.kindOf y = some .cell → (compE env scope cl C).cells.lookup y = env.cells.lookup y → Has s₃.heap (compE env scope cl C) y u) →
      (∀ b o, b ∉ wr → s.heap.get? b = some o → s₃.heap.get? b = some o) → (∃ h tk, s₃ = { s with heap := h, toks := tk }) →
      wpS b (model prog w) A (eval elt (compE env scope cl C)) (fun y s₄ => Keeps s₃ s₄ ∧ ∃ as, Rd s₄.heap y (ds i) as ∧ ∀ a ∈ as, s₃.heap.get? a = none) s₃)
    (fin : ∀ D vs as C h' tk m, s.heap.get? D = none → s.heap.get? C = none → h'.Ns C m → h'.IsList D vs.toArray → D ≠ C → RdAll h' vs ((List.range n).map ds) as → (∀ a ∈ as, s.heap.get? a = none ∧ a ≠ C) →
      (∀ b o, b ∉ wr → s.heap.get? b = some o → h'.get? b = some o) → RR (.ref D) C { s with heap := h', toks := tk }) :
    wpS b (model prog w) A (newList []) (fun acc s₃ => wpS b (model prog w) A (newFunctionEnv scope env.globals cl [] env.qual none .none (some env)) (fun cenv s₄ =>
      codeS b (model prog w) A (.compStart (.ListComp elt [⟨.Name x px, iter, [], 0⟩] scope pos) 0 (.ref I) acc { cenv with scope := relabel scope env }) (fun _ s' => RR acc cenv.locals s') s₄) s₃) s := by
  refine wpS.of_any (wpAny_newObj_type ?_ (Nat.zero_le _))
  generalize hH : s.heap.push { cls := .type "list", dict := none, data := .seq ([] : List Value).toArray } = H
  have hHs : H.objs.size = s.heap.objs.size + 1 := by rw [← hH, Heap.size_push]
  have keepH : ∀ b o, s.heap.get? b = some o → H.get? b = some o := fun b o e => by rw [← hH]; exact Heap.get?_push_of_some _ e
  refine wpS.of_any (compE_new (s := { s with heap := H }) (wf.keeps keepH) hcl hca hk fun h₁ keep₁ wf₁ => ?_)
  generalize hC : H.objs.size = C at *
  have hC' : C = s.heap.objs.size + 1 := hHs
  generalize hD : s.heap.objs.size = D at *
  have old : ∀ b o, s.heap.get? b = some o → h₁.get? b = some o := fun b o e => keep₁ b o (keepH b o e)
  have lD : h₁.IsList D #[] := ⟨_, keep₁ _ _ (by rw [← hH, ← hD]; exact Heap.get?_push_size _ rfl), rfl, _, rfl⟩
  have st₁ : St 0 h₁ := W.frame 0 _ _ st fun a _ o e => old a o e
  show codeS b (model prog w) A (.compStart (.ListComp elt [⟨.Name x px, iter, [], 0⟩] scope pos) 0 (.ref I) (.ref D) (compE env scope cl C)) (fun _ s' => RR (.ref D) C s') { s with heap := h₁ }
  refine codeS.compStart rfl rfl rfl (fun Q hq => W.self 0 _ _ _ st₁ hq) ?_
  have fr : ∀ a, D ≤ a → s.heap.get? a = none := fun a ha => fresh_size _ (by rw [hD]; exact ha)
  have wrD : ∀ a ∈ wr, a < D := fun a ha => hfp a (W.sub a ha)
  have offC : ∀ y c, (compE env scope cl C).cells.lookup y = some c → c ∉ wr := fun y c hp q => by
    have hp' : (y, c) ∈ cellsFrom (C + 1) scope.names cl := mem_of_lookup hp
    rw [cellsFrom_app] at hp'
    rcases List.mem_append.mp hp' with z | z
    · rcases cellsFrom_ge scope.names (C + 1) [] _ z with y | y
      · cases y
      · exact nlt (wrD _ q) (Nat.le_trans (by omega) y)
    · exact hoff _ _ (hcl _ z) q
  generalize hcenv : compE env scope cl C = cenv at *
  have eL : cenv.locals = C := by rw [← hcenv]; rfl
  generalize hsl : slotOf cenv x = sl at *
  have slC : C ≤ sl := by rw [← hsl, ← hcenv]; exact hslot C
  refine codeS.comp (act := eval elt cenv >>= fun y => call (.builtin "list.append") [.ref D, y] >>= fun _ => Pure.pure ()) (fun i s' => ∃ h tk vs as, s' = { s with heap := h, toks := tk } ∧ h.IsList D vs.toArray ∧ Wf h cenv ∧ RdAll h vs ((List.range i).map ds) as ∧
      (∀ a ∈ as, a ∉ wr ∧ a ≠ D ∧ a ≠ C ∧ a ≠ sl ∧ s.heap.get? a = none) ∧ ∀ b o, b ∉ wr → s.heap.get? b = some o → h.get? b = some o) rfl (compTurn_list1 elt (.Name x px) iter scope pos (.ref I) (.ref D) cenv) W st₁
    ⟨h₁, s.toks, [], [], rfl, lD, wf₁, .nil, (fun _ h => nomatch h), fun b o _ e => old b o e⟩ ?_ ?_ ?_
  · rintro i s' h tk ⟨h₀, tk₀, vs, as, rfl, l₀, w₀, r₀, f₀, k₀⟩ k
    have nD : D ∉ wr := fun q => Nat.lt_irrefl _ (wrD _ q)
    refine ⟨h, tk, vs, as, rfl, l₀.at fun o e => k D o nD e, ⟨w₀.fn, ?_, fun z p hp => ?_, w₀.apart⟩, r₀.frame fun a ha o e => k a o (f₀ a ha).1 e, f₀, fun b o hb e => k b o hb (k₀ b o hb e)⟩
    · obtain ⟨m, n⟩ := w₀.ns
      exact ⟨m, n.at' fun o e => k _ o (fun q => nlt (wrD _ (eL ▸ q)) (by omega)) e⟩
    · obtain ⟨v, o, ho, hd⟩ := w₀.cell z p hp
      exact ⟨v, o, k _ o (offC z p hp) ho, hd⟩
  · rintro i v s' hi hP ⟨h₀, tk₀, vs, as, rfl, l₀, w₀, r₀, f₀, k₀⟩ hst
    refine st_name w₀ (by rw [← hcenv]; exact hmay C) fun h₂ tk₂ w₂ has₂ oth₂ sb₂ => ?_
    rw [hsl] at sb₂
    have nsl : ∀ a, a < D → a ≠ sl := fun a ha q => nlt (q ▸ ha) (Nat.le_trans (by omega) slC)
    have k₂ : ∀ b o, b ∉ wr → s.heap.get? b = some o → h₂.get? b = some o := fun b o hb e => sb₂.extBut b o (nsl b (by rw [← hD]; exact Heap.lt_size e)) (k₀ b o hb e)
    have l₂ : h₂.IsList D vs.toArray := l₀.at fun o e => sb₂.extBut D o (fun q => nlt (show D < C by omega) (q ▸ slC)) e
    have r₂ := r₀.frame (h' := h₂) fun a ha o e => sb₂.extBut a o (f₀ a ha).2.2.2.1 e
    have hst₂ : St (i + 1) h₂ := W.frame _ _ _ hst fun a ha o e => sb₂.extBut a o (nsl a (hfp a ha)) e
    have sl₂ : ∃ o, h₂.get? sl = some o := by
      rcases has₂ with ⟨ql, m, ⟨o, es, ep, ho, _⟩, _⟩ | ⟨ql, c, lc, o, ho, _⟩
      · exact ⟨o, by rw [← hsl, slotOf, if_pos ql]; exact ho⟩
      · exact ⟨o, by rw [← hsl, slotOf, if_neg (by rw [ql]; decide), lc]; exact ho⟩
    have main := helt i v C { s with heap := h₂, toks := tk₂ } hi hP (by omega) (by rw [hcenv]; exact w₂) (by rw [hcenv]; exact has₂) (fun y u hu q1 q2 q3 => by
      rcases hu with ⟨q, _⟩ | ⟨_, c, lc, o, ho, hd⟩
      · rw [q2] at q; cases q
      · exact .inr ⟨q1, c, q3.trans lc, o, k₂ c o (hoff _ _ lc) ho, hd⟩) k₂ ⟨h₂, tk₂, rfl⟩
    rw [hcenv] at main
    refine wpS.bind (main.mono fun y s₄ h₄ => ?_)
    obtain ⟨⟨h₄, tk₄, rfl, k₄⟩, as', rd, fr'⟩ := h₄
    have len := r₀.length
    refine wpS.bindAny (wpAny_list_append (l₂.at fun o e => k₄ D o e) (fun h₅ l₅ s₅ => ?_) (hsz := ?_))
    · have out : ∀ a ∈ as', ∀ c, (∃ o, h₂.get? c = some o) → a ≠ c := fun a ha c ⟨o, ho⟩ q => by
        have := fr' a ha
        rw [q] at this
        rw [show h₂.get? c = none from this] at ho
        cases ho
      have dO : ∃ o, h₂.get? D = some o := let ⟨o, ho, _⟩ := l₂; ⟨o, ho⟩
      have cO : ∃ o, h₂.get? C = some o := by
        obtain ⟨m, o, es, ep, ho, _⟩ := w₂.ns
        rw [eL] at ho
        exact ⟨o, ho⟩
      have up : ∀ a, a ≠ D → ∀ o, h₄.get? a = some o → h₅.get? a = some o := fun a ha o e => s₅.extBut a o ha e
      refine wpS.pure ⟨⟨h₅, tk₄, vs ++ [y], as ++ as', rfl, by simpa using l₅, ⟨w₂.fn, ?_, fun z p hp => ?_, w₂.apart⟩, ?_, fun a ha => ?_, fun b o hb e => up b (by rintro rfl; rw [fr _ (Nat.le_refl _)] at e; cases e) o (k₄ b o (k₂ b o hb e))⟩, ?_⟩
      · obtain ⟨m, n⟩ := w₂.ns
        exact ⟨m, (n.keeps k₄).at' fun o e => up _ (by rw [eL]; omega) o e⟩
      · obtain ⟨v', o, ho, hd⟩ := w₂.cell z p hp
        refine ⟨v', o, up _ (fun q => ?_) o (k₄ _ o ho), hd⟩
        obtain ⟨o', ho', hc', n', hd'⟩ := l₂
        rw [q, ho'] at ho
        cases ho
        rw [hd] at hd'
        cases hd'
      · rw [List.range_succ, List.map_append]
        exact RdAll.append ((r₂.keeps k₄).frame fun a ha o e => up a (f₀ a ha).2.1 o e) (RdAll.one (rd.frame fun a ha o e => up a (out a ha D dO) o e))
      · rcases List.mem_append.mp ha with ha | ha
        · exact f₀ a ha
        · refine ⟨fun q => out a ha a (live _ _ hst₂ a q) rfl, out a ha D dO, out a ha C cO, out a ha sl sl₂, ?_⟩
          cases e : s.heap.get? a with
          | none => rfl
          | some o =>
            by_cases q : a ∈ wr
            · exact absurd rfl (out a ha a (live _ _ hst₂ a q))
            · exact absurd rfl (out a ha a ⟨o, k₂ a o q e⟩)
      · exact W.frame _ _ _ hst₂ fun a ha o e => up a (fun q => Nat.lt_irrefl D (q ▸ hfp a ha)) o (k₄ a o e)
    · show vs.toArray.size ≤ sizeLine
      rw [List.size_toArray, len, List.length_map, List.length_range]
      omega
  · rintro s' ⟨h₀, tk₀, vs, as, rfl, l₀, w₀, r₀, f₀, k₀⟩
    obtain ⟨m, n⟩ := w₀.ns
    rw [eL] at n
    exact fin D vs as C h₀ tk₀ m (fr _ (Nat.le_refl _)) (fr _ (by omega)) n l₀ (show (D : Nat) ≠ C from by omega) r₀ (fun a ha => ⟨(f₀ a ha).2.2.2.2, (f₀ a ha).2.2.1⟩) k₀
end
end Nq
end NqCompPart

section NqCallPart
open PySem PySem.W PySem.Calls PyProof.Rows
set_option maxRecDepth 100000
namespace Nq
/-- room: what the rules ask of the frames around -/
structure Rm (A : Around) (n : Nat) : Prop where
  handled : A.handled = none
  guards : A.guards = some []
  units : A.units ≤ 100 + 20 * n
  depth : A.depth ≤ 400 + n
theorem Rm.deeper {A : Around} {n : Nat} (r : Rm A n) (env : Env) : Rm (A.deeper env) (n + 1) :=
  ⟨r.handled, r.guards, by show A.units + 3 ≤ _; have := r.units; omega, by show A.depth + 1 ≤ _; have := r.depth; omega⟩
theorem Rm.line {A : Around} {n : Nat} (r : Rm A n) (hn : n ≤ 100) : A.units + 64 < cLine := by have := r.units; show A.units + 64 < 9900; omega
theorem Rm.room {A : Around} {n : Nat} (r : Rm A n) (hn : n ≤ 100) : A.depth < recursionLimit := by have := r.depth; show A.depth < 1000; omega

/-- the program's defs and the built-ins stand in this heap -/
abbrev Gd (q : Program) (mean : ExcName → Option Value) (mg mb : Str → Option Value) (h : Heap) : Prop := Top q (looseW q []) mean mg mb h

section
variable {b : Bool} {prog : Program} {w : World} {A : Around} {s : Shared} {env : Env} {q : Program} {mean : ExcName → Option Value} {mg mb : Str → Option Value}

theorem ev_global {M : Model} {E : Value → Shared → Prop} {x : Str} {pos : Pos} {v : Value} {Q : Value → Shared → Prop} (T : Gd q mean mg mb s.heap) (hf : env.scope.kind = .function) (hg : env.globals = mainGlobals) (hx : env.kindOf x = some .globalImplicit)
    (hv : mg x = some v) (h : Q v s) (hd : (x == ("__debug__" : Str)) = false := by decide) : wpAny M A (eval (.Name x pos) env) Q E s :=
  Name_function_global hf hx (loadGlobal_global (env := env) (by rw [hg]; exact T.g) hv h) hd
theorem ev_builtin {M : Model} {E : Value → Shared → Prop} {x : Str} {pos : Pos} {v : Value} {Q : Value → Shared → Prop} (T : Gd q mean mg mb s.heap) (hf : env.scope.kind = .function) (hg : env.globals = mainGlobals) (hb : env.builtins = builtinsNs) (hx : env.kindOf x = some .globalImplicit)
    (hm : mg x = none) (hv : bootBuiltins x = some v) (h : Q v s) (hn : x ≠ "__name__" := by decide) (hd : (x == ("__debug__" : Str)) = false := by decide) : wpAny M A (eval (.Name x pos) env) Q E s :=
  Name_function_global hf hx (loadGlobal_builtin (env := env) (by rw [hg]; exact T.g) hm (by rw [hb]; exact T.b) ((T.builtins x hn).trans hv) h) hd

/-- a call of a def: its frame is made, the parameters stand -/
theorem callDef {a : Addr} {o : Obj} {fd : FuncData} {body : List Stmt} {vals : List Value} {binds : List (Str × Value)} {Q : Value → Shared → Prop} {n : Nat} (rm : Rm A n) (hn : n ≤ 100)
    (ho : s.heap.get? a = some o) (hd : o.data = .func fd) (hlim : s.heap.NoLimit) (hcd : s.heap.CodeRec fd.code fd.qualname) (hbody : fd.body = .stmts body) (hbind : bindArgs fd ⟨vals, []⟩ = Pure.pure binds) (hclo : fd.closure = [])
    (hkind : ∀ L : Nat, ∀ x ∈ binds, fd.scope.names.lookup x.1 = some .local ∨ (fd.scope.names.lookup x.1 = some .cell ∧ ((cellsFrom (L + 1) fd.scope.names []).lookup x.1).isSome = true))
    (hvals : ∀ L : Nat, ∀ x ∈ binds, bindL (callEnvC fd L a).kindOf binds (fun _ => none) x.1 = some x.2 ∧ (callEnvC fd L a).kindOf x.1 = some .local ∨ bindC (callEnvC fd L a).kindOf binds (fun _ => none) x.1 = some x.2 ∧ (callEnvC fd L a).kindOf x.1 = some .cell)
    (h : ∀ s₁, Keeps s s₁ → Wf s₁.heap (callEnvC fd s.heap.objs.size a) → (∀ x ∈ binds, Has s₁.heap (callEnvC fd s.heap.objs.size a) x.1 x.2) →
      wpS b (model prog w) (A.deeper (callEnvC fd s.heap.objs.size a)) (execs body (callEnvC fd s.heap.objs.size a)) (fun f s' => Q (match f with | .ret v => v | _ => .none) s') s₁)
    (hco : fd.scope.isCoroutine = false := by rfl) (hgen : fd.scope.isGenerator = false := by rfl) (hk : fd.scope.kind = .function := by rfl) : wpS b (model prog w) A (call (.ref a) vals) Q s := by
  refine wpS.call (codeS.of_tree rfl ?_)
  show wpS _ _ A.in1 (callAny (.ref a) ⟨vals, []⟩) _ _
  simp only [callAny]
  refine wpS.bindAny (wpAny_load ho ?_)
  obtain ⟨c, oc, vs, tq, hc, hoc, hdc, hq⟩ := hcd
  simp only [hd, callFunction, hco, hgen, hbody, hc]
  refine wpS.bindAny (wpAny_field hoc hdc hq ?_)
  refine wpS.bind (wpS.pure ?_)
  rw [hbind, hclo]
  refine wpS.bind (wpS.pure ?_)
  refine wpS.bindAny (wpAny_newFunctionEnv_cells hk (hkind _) fun env' he s₁ x => ?_)
  have he' : env' = callEnvC fd s.heap.objs.size a := by rw [he]; unfold callEnvC; rw [hc]
  subst he'
  refine wpS.bindAny (wpAny_enterFrame (hlim.keeps x.toInCall.keep) (rm.room hn) ?_)
  refine wpS.pure ⟨rfl, codeS.of_tree rfl ?_⟩
  show wpS _ _ (A.deeper (callEnvC fd s.heap.objs.size a)) (PySem.point >>= fun _ => (execs body (callEnvC fd s.heap.objs.size a)).onRaise (leaving (callEnvC fd s.heap.objs.size a)) >>= fun r => match r with | .ret v => ret v | _ => ret .none) _ _
  refine wpS.bind (wpS.point (wpS.bind (wpS.onRaise ?_)))
  have keeps : Keeps s s₁ := x.toInCall.done
  refine (h s₁ keeps ⟨hk, ⟨_, x.toInCall.ns⟩, fun y c' hy => ⟨_, x.cell y c' hy⟩, x.apart⟩ fun y hy => ?_).mono fun f s' hf => ?_
  · rcases hvals s.heap.objs.size y hy with ⟨e, k⟩ | ⟨e, k⟩
    · exact .inl ⟨k, _, x.toInCall.ns, e⟩
    · rcases hkind s.heap.objs.size y hy with z | ⟨_, z⟩
      · have : (callEnvC fd s.heap.objs.size a).kindOf y.1 = some .local := z
        rw [k] at this; cases this
      · obtain ⟨c', hc'⟩ := Option.isSome_iff_exists.mp z
        have := x.cell y.1 c' hc'
        rw [e] at this
        exact .inr ⟨k, c', hc', this⟩
  · cases f <;> exact wpS.pure ⟨_, rfl, hf⟩

/-- what a loop walks -/
def Src (prog : Program) (w : World) (A : Around) (xv : Value) (s : Shared) (n : Nat) (P : Nat → Value → Prop) : Prop :=
  ∀ (Q : Value → Shared → Prop), (∀ I fp wr St s₂, Walks prog w A I fp wr n P St → St 0 s₂.heap → (∀ i h, St i h → ∀ a ∈ wr, ∃ o, h.get? a = some o) → (∀ a ∈ fp, a < s₂.heap.objs.size) → (∀ a ∈ wr, s.heap.get? a = none) → Keeps s s₂ → Q (.ref I) s₂) →
    wpAny (model prog w) A (pyIter xv) Q (fun _ _ => False) s
theorem src_list {l : Addr} {vs : List Value} (hh : A.handled = none) (hl : s.heap.IsList l vs.toArray) : Src prog w A (.ref l) s vs.length (fun i v => vs[i]? = some v) := fun Q h => by
  refine wpAny_pyIter_list hl ?_
  have hlt : l < s.heap.objs.size := by obtain ⟨_, e, _⟩ := hl; exact Heap.lt_size e
  have W := Walks.list (prog := prog) (w := w) hh s.heap.objs.size l (Nat.ne_of_lt hlt) vs.toArray
  have e : vs.toArray.size = vs.length := by simp
  have ep : (fun (i : Nat) (v : Value) => vs.toArray[i]? = some v) = fun i v => vs[i]? = some v := by funext i v; simp
  rw [e, ep] at W
  refine h _ _ _ _ _ W ⟨⟨_, Heap.get?_push_size _ rfl, rfl, rfl⟩, hl.push _⟩ (fun i h st a ha => ?_) (fun a ha => ?_) (fun a ha => ?_) ⟨_, s.toks, rfl, fun b o e => Heap.get?_push_of_some _ e⟩
  · rw [List.mem_singleton.mp ha]; obtain ⟨⟨o, ho, _⟩, _⟩ := st; exact ⟨o, ho⟩
  · show a < (s.heap.push _).objs.size
    rw [Heap.size_push]
    rcases List.mem_cons.mp ha with rfl | ha
    · exact Nat.lt_succ_self _
    · rw [List.mem_singleton.mp ha]; exact Nat.lt_succ_of_lt hlt
  · rw [List.mem_singleton.mp ha]; exact fresh_size _ (Nat.le_refl _)
theorem src_range {r : Addr} {x y c : Int} {t u v : Tok} {n : Nat} (hh : A.handled = none) (hr : IsRange s.heap r x y c t u v) (hs : Builtin.Range.small x y c = true) (hn : Builtin.Range.rangeSize x y c = n) :
    Src prog w A (.ref r) s n (fun i v => ∃ t, v = .int (x + i * c) t) := fun Q h => by
  refine wpAny_pyIter_range hr hs ?_
  rw [hn]
  refine h _ _ _ _ _ (Walks.range hh s.heap.objs.size x c n) ?_ (fun i h st a ha => ?_) (fun a ha => ?_) (fun a ha => ?_) ⟨_, s.toks, rfl, fun b o e => Heap.get?_push_of_some _ e⟩
  · show (s.heap.push _).get? s.heap.objs.size = _
    rw [Heap.get?_push_size _ rfl]
    simp [rawInt]
  · rw [List.mem_singleton.mp ha]; exact ⟨_, st⟩
  · rw [List.mem_singleton.mp ha]
    show s.heap.objs.size < (s.heap.push _).objs.size
    rw [Heap.size_push]; exact Nat.lt_succ_self _
  · rw [List.mem_singleton.mp ha]; exact fresh_size _ (Nat.le_refl _)
end
end Nq
end NqCallPart

section NqExprPart
open PySem PySem.W PySem.Calls PyProof.Rows
set_option maxRecDepth 100000
namespace Nq
section
variable {b : Bool} {prog : Program} {w : World} {A : Around} {s : Shared} {env : Env} {M : Model}
theorem wpS.keep {α : Type} {vs : List Value} {m : Sem α} {Q : α → Shared → Prop} (h : wpS b M A m Q s) : wpS b M A (m.keep vs) Q s :=
  fun Γ p hΓ hc => by rw [Sem.wp_keep]; exact h Γ p hΓ hc
theorem evalArgsS {f : Value} {e : Expr} {rest : List Expr} {pos : Pos} {Q : Args → Shared → Prop}
    (h : wpAny M A (spliced (backTo pos (starEach (e :: rest) env))) (fun vs s' => Q ⟨vs, []⟩ s') (fun _ _ => False) s) (he : starEach (e :: rest) env = (false, eval e env) :: starEach rest env) :
    wpAny M A (evalArgs f true (backTo pos (starEach (e :: rest) env)) []) Q (fun _ _ => False) s := by
  rw [he] at h ⊢
  exact evalArgs_plain h
theorem callS_type {pos : Pos} {T : String} {e : Expr} {rest : List Expr} {Q : Value → Shared → Prop}
    (h : wpAny M A (spliced (backTo pos (starEach (e :: rest) env))) (fun vs s₁ => wpS b M A (call (.type T) vs) Q s₁) (fun _ _ => False) s)
    (he : starEach (e :: rest) env = (false, eval e env) :: starEach rest env := by rfl)
    (hplain : (backTo pos (starEach (e :: rest) env)).any (·.1) = false := by rfl) :
    wpS b M A (callWith pos (.type T) [] (backTo pos (starEach (e :: rest) env)) []) Q s := by
  unfold callWith
  refine wpS.bindAny (wpAny_holding (evalArgsS (wpAny_mono h (fun vs s₁ h₁ => ?_) fun _ _ x => x) he))
  refine wpS.bind (wpS.standAt ?_)
  simp only [hplain, List.any_nil, Bool.or_false]
  refine wpS.bind (wpS.pure ?_)
  exact wpS.bind (h₁.mono fun r s₂ hr => wpS.bindAny (wpAny_holding (wpAny_point (wpS.pure hr))))
theorem callS_fn {pos : Pos} {a : Addr} {e : Expr} {rest : List Expr} {Q : Value → Shared → Prop}
    (h : wpAny M A (spliced (backTo pos (starEach (e :: rest) env))) (fun vs s₁ => (∃ o fd, s₁.heap.get? a = some o ∧ o.data = .func fd) ∧ wpS b M A (call (.ref a) vs) Q s₁) (fun _ _ => False) s)
    (he : starEach (e :: rest) env = (false, eval e env) :: starEach rest env := by rfl)
    (hplain : (backTo pos (starEach (e :: rest) env)).any (·.1) = false := by rfl) :
    wpS b M A (callWith pos (.ref a) [] (backTo pos (starEach (e :: rest) env)) []) Q s := by
  unfold callWith
  refine wpS.bindAny (wpAny_holding (evalArgsS (wpAny_mono h (fun vs s₁ h₁ => ?_) fun _ _ x => x) he))
  obtain ⟨⟨o, fd, ho, hd⟩, h₁⟩ := h₁
  have tail : ∀ {t : Sem Value}, wpS b M A t Q s₁ → wpS b M A (t >>= fun r => holding [r] point >>= fun _ => Pure.pure r) Q s₁ :=
    fun ht => wpS.bind (ht.mono fun r s₂ hr => wpS.bindAny (wpAny_holding (wpAny_point (wpS.pure hr))))
  refine wpS.bind (wpS.standAt ?_)
  simp only [hplain, List.any_nil, Bool.or_false]
  refine wpS.bindAny (m := keeperOf (.ref a)) ?_
  unfold keeperOf
  refine wpAny_bind (wpAny_load ho ?_)
  rw [hd]
  refine wpAny_pure ?_
  dsimp only
  split
  · exact tail h₁
  · exact tail (wpS.keep h₁)
theorem callExprS {func : Expr} {args : List Expr} {pos : Pos} {Q : Value → Shared → Prop}
    (h : wpAny M A (eval func env) (fun f s₁ => wpS b M A (callWith pos f [] (backTo pos (starEach args env)) []) Q s₁) (fun _ _ => False) s)
    (he : eval (.Call func args [] pos) env = (do callWith pos (← eval func env) [] (backTo pos (starEach args env)) (backToKw pos (keywordEach [] env))) := by rfl) :
    wpS b M A (eval (.Call func args [] pos) env) Q s := by
  rw [he]; exact wpS.bindAny h
theorem assignS {x : Str} {pos' : Pos} {value : Expr} {pos : Pos} {Q : Flow → Shared → Prop}
    (h : wpS b M A (eval value env) (fun v s₁ => wpAny M A (storeName env x v) (fun _ => Q .next) (fun _ _ => False) s₁) s)
    (hs : swapsWith value (some (.Name x pos')) pos.line env = Pure.pure false := by rfl) :
    wpS b M A (exec (.Assign [.Name x pos'] value pos) env) Q s := by
  rw [exec_Assign_Name env x pos' value pos hs]
  refine wpS.bind (wpS.standAt (wpS.bind (h.mono fun v s₁ h₁ => wpS.bind (wpS.standAt (wpS.bindAny (wpAny_bindName (wpAny_mono h₁ (fun _ s₂ h₂ => wpS.pure h₂) fun _ _ z => z)))))))
theorem returnS {e : Expr} {pos : Pos} {Q : Flow → Shared → Prop} (h : wpS b M A (eval e env) (fun v => Q (.ret v)) s) : wpS b M A (exec (.Return (some e) pos) env) Q s := by
  rw [exec_Return_some]
  exact wpS.bind (wpS.standAt (wpS.bind (h.mono fun v s₁ h₁ => wpS.pure h₁)))
end

/-- where the frame of a call lies, nothing lay -/
theorem slot_new {fd : FuncData} {a : Addr} {h : Heap} {x : Str} (hm : May (callEnvC fd h.objs.size a) x) : h.get? (slotOf (callEnvC fd h.objs.size a) x) = none := by
  rcases hm with k | ⟨k, c⟩
  · rw [slotOf, if_pos k]; exact fresh_size _ (Nat.le_refl _)
  · obtain ⟨c, hc⟩ := Option.isSome_iff_exists.mp c
    rw [slotOf, if_neg (by rw [k]; decide), hc]
    rcases cellsFrom_ge fd.scope.names (h.objs.size + 1) [] _ (mem_of_lookup hc) with z | z
    · cases z
    · exact fresh_size _ (Nat.le_of_succ_le z)

/-- a def of the text, by its place -/
def defAt (p : Program) (n : Nat) : DefRec := match p.main.body.drop n with
  | .FunctionDef name args body _ _ _ scope _ _ pos :: _ => ⟨name, args, body, scope, pos⟩
  | _ => ⟨"", { posonlyargs := [], args := [], vararg := none, kwonlyargs := [], kw_defaults := [], kwarg := none, defaults := [] }, [], { kind := .function, names := [], isGenerator := false, isCoroutine := false, more := [] }, ⟨0, 0, 0, 0⟩⟩
abbrev dAt (n : Nat) : DefRec := defAt PySem.Challenge.pw_nq0004_01 n
end Nq
end NqExprPart

section NqPurePart
open PySem PySem.W PySem.Calls PyProof.Rows
set_option linter.unusedVariables false
set_option maxRecDepth 100000
namespace Nq
/-- what is known of the program's top -/
structure Ok (q : Program) (mg : Str → Option Value) : Prop where
  defs : ∀ n ∈ [1, 4, 6, 7, 8, 9, 10, 11, 12], dAt n ∈ recsOf q
  free : ∀ x ∈ ([Str.ofString "bytearray", Str.ofString "len", Str.ofString "range", Str.ofString "bytes", Str.ofString "sorted", Str.ofString "min", Str.ofString "max", Str.ofString "sum", Str.ofString "type"] : List Str), mg x = none

theorem boot_bytearray : bootBuiltins "bytearray" = some (.type "bytearray") := by decide +kernel
theorem boot_bytes' : bootBuiltins "bytes" = some (.type "bytes") := by decide +kernel
theorem boot_len' : bootBuiltins "len" = some (.builtin "len") := by decide +kernel
theorem boot_range' : bootBuiltins "range" = some (.type "range") := by decide +kernel
abbrev fdAt (n : Nat) (pm code doc : Value) : FuncData := docDef (dAt n).name (dAt n).params (dAt n).body (dAt n).scope pm code doc

/-- an environment of the text's: a function's or a comprehension's -/
structure En (q : Program) (mean : ExcName → Option Value) (mg mb : Str → Option Value) (h : Heap) (env : Env) : Prop where
  top : Gd q mean mg mb h
  ok : Ok q mg
  fn : env.scope.kind = .function
  gl : env.globals = mainGlobals
  bl : env.builtins = builtinsNs
theorem En.keeps {q : Program} {mean : ExcName → Option Value} {mg mb : Str → Option Value} {h h' : Heap} {env : Env} (x : En q mean mg mb h env) (k : ∀ b o, h.get? b = some o → h'.get? b = some o) : En q mean mg mb h' env :=
  ⟨x.top.keeps k, x.ok, x.fn, x.gl, x.bl⟩

/-- an expression whose value is told and that changes no object -/
def EvV (prog : Program) (w : World) (A : Around) (h : Heap) (env : Env) (e : Expr) (P : Value → Prop) : Prop :=
  ∀ s : Shared, (∀ b o, h.get? b = some o → s.heap.get? b = some o) → ∀ (Q : Value → Shared → Prop) (E : Value → Shared → Prop), (∀ v k, P v → Q v { s with toks := k }) → wpAny (model prog w) A (eval e env) Q E s
abbrev EvI (prog : Program) (w : World) (A : Around) (h : Heap) (env : Env) (e : Expr) (i : Int) : Prop := EvV prog w A h env e (fun v => ∃ t, v = .int i t)

section
variable {prog : Program} {w : World} {A : Around} {h : Heap} {env : Env} {q : Program} {mean : ExcName → Option Value} {mg mb : Str → Option Value}
theorem EvV.keeps {e : Expr} {P : Value → Prop} (x : EvV prog w A h env e P) {h' : Heap} (k : ∀ b o, h.get? b = some o → h'.get? b = some o) : EvV prog w A h' env e P :=
  fun s ks Q E hq => x s (fun b o e => ks b o (k b o e)) Q E hq
theorem EvV.at {e : Expr} {P : Value → Prop} (x : EvV prog w A h env e P) {s : Shared} {Q : Value → Shared → Prop} {E : Value → Shared → Prop} (k : ∀ b o, h.get? b = some o → s.heap.get? b = some o) (hq : ∀ v k, P v → Q v { s with toks := k }) :
    wpAny (model prog w) A (eval e env) Q E s := x s k Q E hq
theorem evName {x : Str} {pos : Pos} {v : Value} (fn : env.scope.kind = .function) (y : Has h env x v) (hd : (x == ("__debug__" : Str)) = false := by decide) : EvV prog w A h env (.Name x pos) (fun u => u = v) :=
  fun s ks Q E hq => ev_name fn (y.keeps ks) (hq v s.toks rfl) hd
theorem evInt {x : Str} {pos : Pos} {i : Int} {t : Tok} (fn : env.scope.kind = .function) (y : Has h env x (.int i t)) (hd : (x == ("__debug__" : Str)) = false := by decide) : EvI prog w A h env (.Name x pos) i :=
  fun s ks Q E hq => ev_name fn (y.keeps ks) (hq _ s.toks ⟨t, rfl⟩) hd
theorem evConst {i : Int} {k : Nat} {pos : Pos} : EvI prog w A h env (.Constant (.int i) k pos) i :=
  fun s ks Q E hq => wpAny_Constant_int (hq _ _ ⟨_, rfl⟩)
theorem evBin {l r : Expr} {op : Operator} {pos : Pos} {P₁ P₂ P : Value → Prop} (x : EvV prog w A h env l P₁) (y : EvV prog w A h env r P₂)
    (f : ∀ u v (s : Shared) (Q : Value → Shared → Prop) (E : Value → Shared → Prop), P₁ u → P₂ v → (∀ z k, P z → Q z { s with toks := k }) → wpAny (model prog w) A (binaryOp op u v) Q E s) : EvV prog w A h env (.BinOp l op r pos) P :=
  fun s ks Q E hq => wpAny_BinOp (x s ks _ _ fun u k hu => y { s with toks := k } ks _ _ fun v k' hv => f u v _ _ _ hu hv fun z k'' hz => hq z k'' hz)
theorem evAdd {l r : Expr} {pos : Pos} {i j : Int} (x : EvI prog w A h env l i) (y : EvI prog w A h env r j) : EvI prog w A h env (.BinOp l .Add r pos) (i + j) :=
  evBin x y fun u v s Q E hu hv hq => by obtain ⟨t, rfl⟩ := hu; obtain ⟨t', rfl⟩ := hv; exact PyProof.Rows.add_int (hq _ _ ⟨_, rfl⟩)
theorem evSub {l r : Expr} {pos : Pos} {i j : Int} (x : EvI prog w A h env l i) (y : EvI prog w A h env r j) : EvI prog w A h env (.BinOp l .Sub r pos) (i - j) :=
  evBin x y fun u v s Q E hu hv hq => by obtain ⟨t, rfl⟩ := hu; obtain ⟨t', rfl⟩ := hv; exact PyProof.Rows.sub_int (hq _ _ ⟨_, rfl⟩)
theorem evMul {l r : Expr} {pos : Pos} {i j : Int} (x : EvI prog w A h env l i) (y : EvI prog w A h env r j) (hm : IntMulOk i j) : EvI prog w A h env (.BinOp l .Mult r pos) (i * j) :=
  evBin x y fun u v s Q E hu hv hq => by obtain ⟨t, rfl⟩ := hu; obtain ⟨t', rfl⟩ := hv; exact PyProof.Rows.mul_int (hq _ _ ⟨_, rfl⟩) hm
theorem evMod {l r : Expr} {pos : Pos} {i j : Int} (x : EvI prog w A h env l i) (y : EvI prog w A h env r j) (hj : j ≠ 0) : EvI prog w A h env (.BinOp l .Mod r pos) (i.fmod j) :=
  evBin x y fun u v s Q E hu hv hq => by obtain ⟨t, rfl⟩ := hu; obtain ⟨t', rfl⟩ := hv; exact mod_int' hj (hq _ _ ⟨_, rfl⟩)
theorem evDiv {l r : Expr} {pos : Pos} {i j : Int} (x : EvI prog w A h env l i) (y : EvI prog w A h env r j) (hj : j ≠ 0) (hs : j.natAbs < 1073741824) : EvI prog w A h env (.BinOp l .FloorDiv r pos) (i.fdiv j) :=
  evBin x y fun u v s Q E hu hv hq => by obtain ⟨t, rfl⟩ := hu; obtain ⟨t', rfl⟩ := hv; exact PyProof.Rows.floordiv_int hj (hq _ _ ⟨_, rfl⟩) (.inl (PyProof.noPylong_small hs))
theorem evPow {l r : Expr} {pos : Pos} {i j : Int} (x : EvI prog w A h env l i) (y : EvI prog w A h env r j) (hj : 0 ≤ j) (hs : (Builtin.Int.intBits i : Int) * j ≤ 2 ^ 27) : EvI prog w A h env (.BinOp l .Pow r pos) (i ^ j.toNat) :=
  evBin x y fun u v s Q E hu hv hq => by obtain ⟨t, rfl⟩ := hu; obtain ⟨t', rfl⟩ := hv; exact PyProof.Rows.pow_int hj hs (hq _ _ ⟨_, rfl⟩)
/-- a built-in function upon one told value -/
theorem evCall1 {f : Str} {id : String} {p pos : Pos} {e : Expr} {P₁ P : Value → Prop} (en : En q mean mg mb h env) (hx : env.kindOf f = some .globalImplicit) (hm : mg f = none) (hb : bootBuiltins f = some (.builtin id)) (x : EvV prog w A h env e P₁)
    (g : ∀ u (s : Shared) (Q : Value → Shared → Prop) (E : Value → Shared → Prop), P₁ u → (∀ b o, h.get? b = some o → s.heap.get? b = some o) → (∀ z k, P z → Q z { s with toks := k }) → wpAny (model prog w) A (call (.builtin id) [u]) Q E s)
    (hn : f ≠ "__name__" := by decide) (hd : (f == ("__debug__" : Str)) = false := by decide) (he : starEach [e] env = (false, eval e env) :: starEach [] env := by rfl)
    (hc : eval (.Call (.Name f p) [e] [] pos) env = (do callWith pos (← eval (.Name f p) env) [] (backTo pos (starEach [e] env)) (backToKw pos (keywordEach [] env))) := by rfl) : EvV prog w A h env (.Call (.Name f p) [e] [] pos) P :=
  fun s ks Q E hq => Call_ (ev_builtin (en.top.keeps ks) en.fn en.gl en.bl hx hm hb (callWith_builtin1 (args_cons (x s ks _ _ fun u k hu => args_nil (g u _ _ _ hu ks fun z k' hz => hq z k' hz)) he) he rfl) hn hd) hc
theorem evLenB {p pos : Pos} {e : Expr} {b : List UInt8} (en : En q mean mg mb h env) (hx : env.kindOf (Str.ofString "len") = some .globalImplicit) (x : EvV prog w A h env e (fun v => ∃ t, v = .bytes b.toArray t)) (hz : b.length ≤ 1000000)
    (he : starEach [e] env = (false, eval e env) :: starEach [] env := by rfl)
    (hc : eval (.Call (.Name (Str.ofString "len") p) [e] [] pos) env = (do callWith pos (← eval (.Name (Str.ofString "len") p) env) [] (backTo pos (starEach [e] env)) (backToKw pos (keywordEach [] env))) := by rfl) :
    EvI prog w A h env (.Call (.Name (Str.ofString "len") p) [e] [] pos) b.length :=
  evCall1 en hx (en.ok.free _ (by simp)) boot_len' x (fun u s Q E hu _ hq => by
    obtain ⟨t, rfl⟩ := hu
    refine len_bytes (by simp only [List.size_toArray]; omega) ?_
    exact hq _ _ ⟨_, by simp; rfl⟩) (he := he) (hc := hc)
theorem evLenL {p pos : Pos} {e : Expr} {l : Addr} {vs : List Value} (en : En q mean mg mb h env) (hx : env.kindOf (Str.ofString "len") = some .globalImplicit) (x : EvV prog w A h env e (fun v => v = .ref l)) (hl : h.IsList l vs.toArray) (hz : vs.length ≤ 1000000)
    (he : starEach [e] env = (false, eval e env) :: starEach [] env := by rfl)
    (hc : eval (.Call (.Name (Str.ofString "len") p) [e] [] pos) env = (do callWith pos (← eval (.Name (Str.ofString "len") p) env) [] (backTo pos (starEach [e] env)) (backToKw pos (keywordEach [] env))) := by rfl) :
    EvI prog w A h env (.Call (.Name (Str.ofString "len") p) [e] [] pos) vs.length :=
  evCall1 en hx (en.ok.free _ (by simp)) boot_len' x (fun u s Q E hu ks hq => by
    subst hu
    refine PyProof.Rows.len_list (hl.at fun o e => ks l o e) (by simp only [List.size_toArray]; omega) ?_
    exact hq _ _ ⟨_, by simp; rfl⟩) (he := he) (hc := hc)
/-- an item of a list, counted from the front or from behind -/
theorem evItem {value slice : Expr} {pos : Pos} {l : Addr} {vs : List Value} {k : Int} {j : Nat} {v : Value} (x : EvV prog w A h env value (fun u => u = .ref l)) (y : EvI prog w A h env slice k) (hl : h.IsList l vs.toArray) (hz : vs.length ≤ 1000000)
    (hk : (0 ≤ k ∧ k = j) ∨ (k < 0 ∧ k + vs.length = j)) (hv : vs[j]? = some v)
    (hs : ∀ t, subscripted slice false (.ref l) (.int k t) = operate [.ref l, .int k t] (getItem (.ref l) (.int k t)) := by intro _; with_unfolding_all rfl) : EvV prog w A h env (.Subscript value slice pos) (fun u => u = v) :=
  fun s ks Q E hq => by
    refine Subscript_ (x s ks _ _ fun u k₁ hu => y { s with toks := k₁ } ks _ _ fun i k₂ hi => ?_)
    subst hu
    obtain ⟨t, rfl⟩ := hi
    have hj : j < vs.length := by
      rcases Nat.lt_or_ge j vs.length with z | z
      · exact z
      · rw [List.getElem?_eq_none z] at hv; cases hv
    have hl' := hl.at (h' := s.heap) fun o e => ks l o e
    refine tail_any (Heap.IsList.typeIs (s := { s with toks := k₂ }) hl') slot_list_getitem.lookup ?_ (hs t)
    rcases hk with ⟨h0, e⟩ | ⟨h0, e⟩
    · refine wpAny_getItem_list (s := { s with toks := k₂ }) hl' h0 (by omega) ?_ (hq _ _ rfl)
      have : k.toNat = j := by omega
      rw [this]; simpa using hv
    · refine wpAny_getItem_list_neg (s := { s with toks := k₂ }) hl' h0 (by simp only [List.size_toArray]; omega) (by omega) ?_ (hq _ _ rfl)
      have : (k + (vs.toArray.size : Int)).toNat = j := by simp only [List.size_toArray]; omega
      rw [this]; simpa using hv
/-- an octet of bytes -/
theorem evOctet {value slice : Expr} {pos : Pos} {b : List UInt8} {k : Int} {j : Nat} {c : UInt8} (x : EvV prog w A h env value (fun u => ∃ t, u = .bytes b.toArray t)) (y : EvI prog w A h env slice k) (hz : b.length ≤ 1000000) (hk : k = j) (hc : b[j]? = some c)
    (hs : ∀ t u, subscripted slice false (.bytes b.toArray t) (.int k u) = operate [.bytes b.toArray t, .int k u] (getItem (.bytes b.toArray t) (.int k u)) := by intro _ _; with_unfolding_all rfl)
    (ht : ∀ t r, letTemporaryGo value (.bytes b.toArray t) r = Pure.pure () := by intro _ _; with_unfolding_all rfl) : EvI prog w A h env (.Subscript value slice pos) c.toNat :=
  fun s ks Q E hq => by
    refine Subscript_ (x s ks _ _ fun u k₁ hu => y { s with toks := k₁ } ks _ _ fun i k₂ hi => ?_)
    obtain ⟨t, rfl⟩ := hu
    obtain ⟨t', rfl⟩ := hi
    have hj : j < b.length := by
      rcases Nat.lt_or_ge j b.length with z | z
      · exact z
      · rw [List.getElem?_eq_none z] at hc; cases hc
    refine KBy.item_N (by omega) (by omega) (by omega) ?_ (hs t t') (ht t)
    have e : k.toNat = j := by omega
    rw [e, List.getD_eq_getElem?_getD, hc]
    exact hq _ _ ⟨_, rfl⟩
end
end Nq
end NqPurePart

section NqRangePart
open PySem PySem.W PySem.Calls PyProof.Rows
set_option linter.unusedVariables false
set_option maxRecDepth 100000
namespace Nq
theorem size_one (n : Nat) : Builtin.Range.rangeSize 0 n 1 = n := by
  unfold Builtin.Range.rangeSize
  rw [if_pos (by decide)]
  split <;> omega
theorem size_from (a : Int) (n : Nat) : Builtin.Range.rangeSize a (a + n) 1 = n := by
  unfold Builtin.Range.rangeSize
  rw [if_pos (by decide)]
  split <;> omega
theorem size_steps (n wd : Nat) (hw : 1 ≤ wd) : Builtin.Range.rangeSize 0 ((n * wd : Nat) : Int) wd = n := by
  unfold Builtin.Range.rangeSize
  rw [if_pos (by omega)]
  cases n with
  | zero => simp
  | succ k =>
    have hpos : 0 < (k + 1) * wd := Nat.mul_pos (Nat.succ_pos _) hw
    rw [if_pos (by omega)]
    have e : (((k + 1) * wd : Nat) : Int) - 0 - 1 = (wd - 1 : Int) + k * wd := by
      rw [Nat.add_mul]; push_cast; omega
    rw [e, Int.add_mul_ediv_right _ _ (by omega), Int.ediv_eq_zero_of_lt (by omega) (by omega)]
    push_cast; omega
theorem small_steps (n wd : Nat) (hw : 1 ≤ wd) (hwd : wd ≤ 1000000) (hz : n * wd ≤ 1000000) : Builtin.Range.small 0 ((n * wd : Nat) : Int) wd = true := by
  have hn : n ≤ 1000000 := Nat.le_trans (Nat.le_mul_of_pos_right n hw) hz
  unfold Builtin.Range.small
  rw [size_steps n wd hw]
  simp only [Builtin.Range.rangeFitsLong, Bool.and_eq_true, Bool.or_eq_true, decide_eq_true_eq, beq_iff_eq]
  rw [if_pos (by omega)]
  simp only [Bool.and_eq_true, decide_eq_true_eq]
  omega
section
variable {prog : Program} {w : World} {A : Around} {s : Shared} {env : Env} {h : Heap} {q : Program} {mean : ExcName → Option Value} {mg mb : Str → Option Value} {E : Value → Shared → Prop}
theorem ev_range1 {p pos : Pos} {e : Expr} {n : Int} {Q : Value → Shared → Prop} (en : En q mean mg mb s.heap env) (hx : env.kindOf (Str.ofString "range") = some .globalImplicit) (x : EvI prog w A s.heap env e n)
    (hq : ∀ r s' t u v, IsRange s'.heap r 0 n 1 t u v → Keeps s s' → Q (.ref r) s')
    (he : starEach [e] env = (false, eval e env) :: starEach [] env := by rfl)
    (hc : eval (.Call (.Name (Str.ofString "range") p) [e] [] pos) env = (do callWith pos (← eval (.Name (Str.ofString "range") p) env) [] (backTo pos (starEach [e] env)) (backToKw pos (keywordEach [] env))) := by rfl) :
    wpAny (model prog w) A (eval (.Call (.Name (Str.ofString "range") p) [e] [] pos) env) Q E s := by
  refine Call_ (ev_builtin en.top en.fn en.gl en.bl hx (en.ok.free _ (by simp)) boot_range' (callWith_type1 (args_cons (x.at (fun _ _ e => e) fun u k hu => args_nil ?_) he) he rfl)) hc
  obtain ⟨t, rfl⟩ := hu
  exact call_range_1 (hq _ _ _ _ _ (IsRange.new ..) ⟨_, _, rfl, fun b o e => Heap.get?_push_of_some _ e⟩)
theorem ev_range2 {p pos : Pos} {e₁ e₂ : Expr} {a b : Int} {Q : Value → Shared → Prop} (en : En q mean mg mb s.heap env) (hx : env.kindOf (Str.ofString "range") = some .globalImplicit) (x : EvI prog w A s.heap env e₁ a) (y : EvI prog w A s.heap env e₂ b)
    (hq : ∀ r s' t u v, IsRange s'.heap r a b 1 t u v → Keeps s s' → Q (.ref r) s')
    (he : starEach [e₁, e₂] env = (false, eval e₁ env) :: starEach [e₂] env := by rfl) (he₂ : starEach [e₂] env = (false, eval e₂ env) :: starEach [] env := by rfl)
    (hc : eval (.Call (.Name (Str.ofString "range") p) [e₁, e₂] [] pos) env = (do callWith pos (← eval (.Name (Str.ofString "range") p) env) [] (backTo pos (starEach [e₁, e₂] env)) (backToKw pos (keywordEach [] env))) := by rfl)
    (hp : (backTo pos (starEach [e₂] env)).any (·.1) = false := by rfl) :
    wpAny (model prog w) A (eval (.Call (.Name (Str.ofString "range") p) [e₁, e₂] [] pos) env) Q E s := by
  refine Call_ (ev_builtin en.top en.fn en.gl en.bl hx (en.ok.free _ (by simp)) boot_range' (callWith_type1 (args_cons (x.at (fun _ _ e => e) fun u k hu => args_cons (y { s with toks := k } (fun _ _ e => e) _ _ fun v k' hv => args_nil ?_) he₂) he) he hp)) hc
  obtain ⟨t, rfl⟩ := hu
  obtain ⟨t', rfl⟩ := hv
  exact call_range_2 (hq _ _ _ _ _ (IsRange.new ..) ⟨_, _, rfl, fun b o e => Heap.get?_push_of_some _ e⟩)
theorem ev_range3 {p pos : Pos} {e₁ e₂ e₃ : Expr} {a b c : Int} {Q : Value → Shared → Prop} (en : En q mean mg mb s.heap env) (hx : env.kindOf (Str.ofString "range") = some .globalImplicit) (x : EvI prog w A s.heap env e₁ a) (y : EvI prog w A s.heap env e₂ b) (z : EvI prog w A s.heap env e₃ c)
    (hc0 : c ≠ 0) (hcs : c.natAbs < 1073741824) (hq : ∀ r s' t u v, IsRange s'.heap r a b c t u v → Keeps s s' → Q (.ref r) s')
    (he : starEach [e₁, e₂, e₃] env = (false, eval e₁ env) :: starEach [e₂, e₃] env := by rfl) (he₂ : starEach [e₂, e₃] env = (false, eval e₂ env) :: starEach [e₃] env := by rfl) (he₃ : starEach [e₃] env = (false, eval e₃ env) :: starEach [] env := by rfl)
    (hc : eval (.Call (.Name (Str.ofString "range") p) [e₁, e₂, e₃] [] pos) env = (do callWith pos (← eval (.Name (Str.ofString "range") p) env) [] (backTo pos (starEach [e₁, e₂, e₃] env)) (backToKw pos (keywordEach [] env))) := by rfl)
    (hp : (backTo pos (starEach [e₂, e₃] env)).any (·.1) = false := by rfl) :
    wpAny (model prog w) A (eval (.Call (.Name (Str.ofString "range") p) [e₁, e₂, e₃] [] pos) env) Q E s := by
  refine Call_ (ev_builtin en.top en.fn en.gl en.bl hx (en.ok.free _ (by simp)) boot_range' (callWith_type1 (args_cons (x.at (fun _ _ e => e) fun u k hu => args_cons (y { s with toks := k } (fun _ _ e => e) _ _ fun v k' hv => args_cons (z { s with toks := k' } (fun _ _ e => e) _ _ fun v' k'' hv' => args_nil ?_) he₃) he₂) he) he hp)) hc
  obtain ⟨t, rfl⟩ := hu
  obtain ⟨t', rfl⟩ := hv
  obtain ⟨t'', rfl⟩ := hv'
  exact call_range_3 hc0 (hq _ _ _ _ _ (IsRange.new ..) ⟨_, _, rfl, fun b o e => Heap.get?_push_of_some _ e⟩) (.inl (PyProof.noPylong_small hcs))
end

-- the plain law of the swap
def swIx (wd p : Nat) : Nat := p / wd * wd + (wd - 1 - p % wd)
theorem swIx_step {wd p : Nat} (hw : 1 ≤ wd) : swIx wd (wd + p) = wd + swIx wd p := by
  unfold swIx
  rw [Nat.add_div_left _ hw, Nat.add_mod_left, Nat.succ_mul]
  omega
theorem swIx_low {wd p : Nat} (h : p < wd) : swIx wd p = wd - 1 - p := by
  unfold swIx
  rw [Nat.div_eq_of_lt h, Nat.mod_eq_of_lt h]
  omega
theorem flat_length {wd : Nat} : ∀ {words : List (List UInt8)}, (∀ l ∈ words, l.length = wd) → words.flatten.length = words.length * wd
  | [], _ => by simp
  | x :: r, h => by
    rw [List.flatten_cons, List.length_append, flat_length fun l hl => h l (.tail _ hl), h x (.head _), List.length_cons, Nat.succ_mul]
    omega
theorem swap_flat {wd : Nat} (hw : 1 ≤ wd) : ∀ (words : List (List UInt8)), (∀ l ∈ words, l.length = wd) → ∀ p, p < words.length * wd → (words.map List.reverse).flatten[p]? = words.flatten[swIx wd p]?
  | [], _, p, hp => by simp at hp
  | x :: r, h, p, hp => by
    have hx := h x (.head _)
    rw [List.map_cons, List.flatten_cons, List.flatten_cons]
    by_cases q : p < wd
    · rw [List.getElem?_append_left (by rw [List.length_reverse, hx]; exact q), List.getElem?_reverse (by rw [hx]; exact q), swIx_low q, List.getElem?_append_left (by rw [hx]; omega), hx]
    · have e : p = wd + (p - wd) := by omega
      have e2 : swIx wd p = wd + swIx wd (p - wd) := by rw [← swIx_step hw, ← e]
      rw [List.getElem?_append_right (by rw [List.length_reverse, hx]; omega), List.length_reverse, hx, e2, List.getElem?_append_right (by rw [hx]; omega), hx, Nat.add_sub_cancel_left]
      exact swap_flat hw r (fun l hl => h l (.tail _ hl)) (p - wd) (by rw [List.length_cons, Nat.succ_mul] at hp; omega)
theorem swap_done {wd : Nat} (hw : 1 ≤ wd) {words : List (List UInt8)} (h : ∀ l ∈ words, l.length = wd) {c : Array UInt8} (hs : c.size = words.length * wd) (hc : ∀ p, p < words.length * wd → c[p]? = words.flatten[swIx wd p]?) :
    c = (words.map List.reverse).flatten.toArray := by
  have hl : (words.map List.reverse).flatten.length = words.length * wd := by
    have := flat_length (wd := wd) (words := words.map List.reverse) fun l hl => by
      obtain ⟨m, hm, rfl⟩ := List.mem_map.mp hl
      rw [List.length_reverse]; exact h m hm
    rw [this, List.length_map]
  apply Array.ext'
  apply List.ext_getElem?
  intro p
  by_cases hp : p < words.length * wd
  · have h1 := hc p hp
    rw [← swap_flat hw words h p hp] at h1
    simpa using h1
  · rw [List.getElem?_eq_none (by simp; omega), List.getElem?_eq_none (by simp only [List.toList_toArray]; omega)]
end Nq
end NqRangePart

section NqSwapPart
open PySem PySem.W PySem.Calls PyProof.Rows
set_option linter.unusedVariables false
set_option maxRecDepth 100000
namespace Nq
theorem slot_local {env : Env} {x : Str} (h : env.kindOf x = some .local) : slotOf env x = env.locals := if_pos h
theorem st_local {M : Model} {A : Around} {E : Value → Shared → Prop} {s s₀ : Shared} {env : Env} {x : Str} {v : Value} {Q : Unit → Shared → Prop} (W : Wf s.heap env) (hl : env.kindOf x = some .local) (k : Keeps s₀ s) (new : s₀.heap.get? env.locals = none)
    (h : ∀ h' tk, Wf h' env → Has h' env x v → (∀ y u, y ≠ x → Has s.heap env y u → Has h' env y u) → Heap.SameBut env.locals s.heap h' → Keeps s₀ { s with heap := h', toks := tk } → Q () { s with heap := h', toks := tk }) :
    wpAny M A (storeName env x v) Q E s :=
  st_name W (.inl hl) fun h' tk a b c d => h h' tk a b c (slot_local hl ▸ d) (kp_but k (slot_local hl ▸ d) new)
/-- the walk of a range: its iterator alone -/
def SrcR (prog : Program) (w : World) (A : Around) (xv : Value) (s : Shared) (n : Nat) (P : Nat → Value → Prop) : Prop :=
  ∀ (Q : Value → Shared → Prop), (∀ I St s₂, Walks prog w A I [I] [I] n P St → St 0 s₂.heap → (∀ i h, St i h → ∃ o, h.get? I = some o) → s.heap.get? I = none → Keeps s s₂ → Q (.ref I) s₂) →
    wpAny (model prog w) A (pyIter xv) Q (fun _ _ => False) s
theorem srcR {prog : Program} {w : World} {A : Around} {s : Shared} {r : Addr} {x y c : Int} {t u v : Tok} {n : Nat} (hh : A.handled = none) (hr : IsRange s.heap r x y c t u v) (hs : Builtin.Range.small x y c = true) (hn : Builtin.Range.rangeSize x y c = n) :
    SrcR prog w A (.ref r) s n (fun i v => ∃ t, v = .int (x + i * c) t) := fun Q h => by
  refine wpAny_pyIter_range hr hs ?_
  rw [hn]
  refine h _ _ _ (Walks.range hh s.heap.objs.size x c n) ?_ (fun i h st => ⟨_, st⟩) (fresh_size _ (Nat.le_refl _)) ⟨_, s.toks, rfl, fun b o e => Heap.get?_push_of_some _ e⟩
  show (s.heap.push _).get? s.heap.objs.size = _
  rw [Heap.get?_push_size _ rfl]
  simp [rawInt]
/-- this address is none of the environment's own -/
def Off (env : Env) (a : Addr) : Prop := a ≠ env.locals ∧ ∀ x c, env.cells.lookup x = some c → c ≠ a
theorem Wf.offs {h : Heap} {env : Env} (W : Wf h env) {a : Addr} (n : h.get? a = none) : Off env a := by
  refine ⟨fun e => ?_, fun x c hc e => ?_⟩
  · obtain ⟨m, o, es, ep, ho, _⟩ := W.ns
    rw [← e, n] at ho; cases ho
  · obtain ⟨v, o, ho, _⟩ := W.cell x c hc
    rw [e, n] at ho; cases ho
theorem Wf.but {h h' : Heap} {env : Env} (W : Wf h env) {a : Addr} (off : Off env a) (k : ∀ b o, b ≠ a → h.get? b = some o → h'.get? b = some o) : Wf h' env :=
  ⟨W.fn, let ⟨m, n⟩ := W.ns; ⟨m, n.at' fun o e => k _ o (Ne.symm off.1) e⟩, fun x c hc => let ⟨v, o, ho, hd⟩ := W.cell x c hc; ⟨v, o, k c o (off.2 x c hc) ho, hd⟩, W.apart⟩
theorem Has.but {h h' : Heap} {env : Env} {x : Str} {v : Value} (y : Has h env x v) {a : Addr} (off : Off env a) (k : ∀ b o, b ≠ a → h.get? b = some o → h'.get? b = some o) : Has h' env x v := by
  rcases y with ⟨z, m, n, e⟩ | ⟨z, c, l, o, ho, hd⟩
  · exact .inl ⟨z, m, n.at' fun o e => k _ o (Ne.symm off.1) e, e⟩
  · exact .inr ⟨z, c, l, o, k c o (off.2 x c l) ho, hd⟩
theorem kp_at {s₀ s : Shared} {h : Heap} {tk : Nat} {a : Addr} (x : Keeps s₀ s) (n : s₀.heap.get? a = none) (k : ∀ b o, b ≠ a → s.heap.get? b = some o → h.get? b = some o) : Keeps s₀ { s with heap := h, toks := tk } := by
  obtain ⟨h₁, t₁, rfl, kk⟩ := x
  exact ⟨h, tk, rfl, fun b o e => k b o (by rintro rfl; rw [n] at e; cases e) (kk b o e)⟩
theorem swIx_at {wd i j : Nat} (hw : j < wd) : swIx wd (i * wd + (wd - 1 - j)) = i * wd + j := by
  have h1 : wd - 1 - j < wd := by omega
  have e1 : (i * wd + (wd - 1 - j)) / wd = i := by rw [Nat.mul_comm, Nat.mul_add_div (by omega), Nat.div_eq_of_lt h1, Nat.add_zero]
  have e2 : (i * wd + (wd - 1 - j)) % wd = wd - 1 - j := by rw [Nat.mul_comm, Nat.mul_add_mod, Nat.mod_eq_of_lt h1]
  unfold swIx
  rw [e1, e2]
  omega
section
variable {prog : Program} {w : World} {A : Around} {s : Shared} {q : Program} {mean : ExcName → Option Value} {mg mb : Str → Option Value}
set_option maxHeartbeats 1000000 in
theorem swap_spec {n : Nat} {fa : Addr} {words : List (List UInt8)} {wd : Nat} {t tw : Tok} (rm : Rm A n) (hn : n ≤ 90) (ok : Ok q mg) (T : Gd q mean mg mb s.heap) (hf : mg (dAt 1).name = some (.ref fa))
    (hw : 1 ≤ wd) (hwords : ∀ l ∈ words, l.length = wd) (hsz : words.flatten.length ≤ 100000) (hwd : wd ≤ 1000) :
    wpS true (model prog w) A (call (.ref fa) [.bytes words.flatten.toArray t, .int wd tw]) (fun v s' => Keeps s s' ∧ ∃ u, v = .bytes (words.map List.reverse).flatten.toArray u) s := by
  obtain ⟨a, o, pm, code, doc, h1, h2, h3, h4⟩ := T.fn (dAt 1) (ok.defs 1 (by simp))
  rw [hf] at h1
  cases h1
  refine callDef (fd := fdAt 1 pm code doc) (binds := [(Str.ofString "data", .bytes words.flatten.toArray t), (Str.ofString "width", .int wd tw)]) rm (by omega) h2 h3 T.nolimit h4 rfl rfl rfl ?_ ?_ ?_
  · intro L x hx
    simp only [List.mem_cons, List.not_mem_nil, or_false] at hx
    rcases hx with rfl | rfl <;> exact .inl rfl
  · intro L x hx
    simp only [List.mem_cons, List.not_mem_nil, or_false] at hx
    rcases hx with rfl | rfl <;> exact .inl ⟨rfl, rfl⟩
  intro s₁ k₁ wf₁ has₁
  generalize hA : A.deeper _ = A₁
  have rm₁ : Rm A₁ (n + 1) := by rw [← hA]; exact rm.deeper _
  have newL : s.heap.get? (callEnvC (fdAt 1 pm code doc) s.heap.objs.size fa).locals = none := fresh_size _ (Nat.le_refl _)
  have l1 : (callEnvC (fdAt 1 pm code doc) s.heap.objs.size fa).kindOf (Str.ofString "swapped_data") = some .local := rfl
  have l2 : (callEnvC (fdAt 1 pm code doc) s.heap.objs.size fa).kindOf (Str.ofString "i") = some .local := rfl
  have l3 : (callEnvC (fdAt 1 pm code doc) s.heap.objs.size fa).kindOf (Str.ofString "j") = some .local := rfl
  have g1 : (callEnvC (fdAt 1 pm code doc) s.heap.objs.size fa).kindOf (Str.ofString "bytearray") = some .globalImplicit := rfl
  have g2 : (callEnvC (fdAt 1 pm code doc) s.heap.objs.size fa).kindOf (Str.ofString "len") = some .globalImplicit := rfl
  have g3 : (callEnvC (fdAt 1 pm code doc) s.heap.objs.size fa).kindOf (Str.ofString "range") = some .globalImplicit := rfl
  have g4 : (callEnvC (fdAt 1 pm code doc) s.heap.objs.size fa).kindOf (Str.ofString "bytes") = some .globalImplicit := rfl
  have gl : (callEnvC (fdAt 1 pm code doc) s.heap.objs.size fa).globals = mainGlobals := rfl
  have bl : (callEnvC (fdAt 1 pm code doc) s.heap.objs.size fa).builtins = builtinsNs := rfl
  generalize callEnvC (fdAt 1 pm code doc) s.heap.objs.size fa = env at *
  have fn : env.scope.kind = .function := wf₁.fn
  have hdata₁ : Has s₁.heap env (Str.ofString "data") (.bytes words.flatten.toArray t) := has₁ _ (.head _)
  have hwid₁ : Has s₁.heap env (Str.ofString "width") (.int wd tw) := has₁ _ (.tail _ (.head _))
  have enOf : ∀ s' : Shared, Keeps s s' → En q mean mg mb s'.heap env := fun s' k => ⟨T.keeps (kp_k k), ok, fn, gl, bl⟩
  have hlen := flat_length hwords
  -- swapped_data = bytearray(len(data))
  refine wpS.execs_cons (assignS ?_ rfl)
  refine callExprS (ev_builtin (enOf s₁ k₁).top fn gl bl g1 (ok.free _ (by simp)) boot_bytearray ?_)
  refine callS_type (args_cons ((evLenB (enOf s₁ k₁) g2 (fun s' ks Q E hq => ev_name fn (hdata₁.keeps ks) (hq _ s'.toks ⟨t, rfl⟩)) (by omega)).at (fun _ _ e => e) fun v k hv => args_nil ?_))
  obtain ⟨tl, rfl⟩ := hv
  refine bytearray_new (s := { s₁ with toks := k }) rm₁.guards (by omega) (by omega) fun ba h₂ hb₂ kp₂ nb₂ => ?_
  have k₂ : Keeps s { s₁ with heap := h₂, toks := k } := kp_trans k₁ ⟨h₂, k, rfl, kp₂⟩
  have nba : s.heap.get? ba = none := kp_none k₁ nb₂
  refine st_local (s := { s₁ with heap := h₂, toks := k }) (wf₁.keeps kp₂) l1 k₂ newL fun h₃ tk₃ wf₃ has₃ oth₃ sb₃ k₃ => ?_
  have baL : ba ≠ env.locals := fun e => by
    obtain ⟨m, o', es, ep, ho', hd', _⟩ := (wf₁.keeps kp₂).ns
    rw [e, ho'] at hb₂
    cases hb₂
    cases hd'
  have hb₃ : h₃.get? ba = some { cls := .type "bytearray", data := .bytearray (Array.replicate words.flatten.length 0) } := (sb₃.2 ba baL).trans (by simpa using hb₂)
  -- what holds between the turns
  have hdata₃ := oth₃ (Str.ofString "data") _ (by decide) (hdata₁.keeps kp₂)
  have hwid₃ := oth₃ (Str.ofString "width") _ (by decide) (hwid₁.keeps kp₂)
  generalize hD : words.flatten = data at *
  have hbd : ba ≠ env.locals := baL
  -- one store: the turn of the inner loop
  let Inv : (Nat → Prop) → Shared → Prop := fun done s' => Keeps s s' ∧ Wf s'.heap env ∧ Has s'.heap env (Str.ofString "data") (.bytes data.toArray t) ∧ Has s'.heap env (Str.ofString "width") (.int wd tw) ∧ Has s'.heap env (Str.ofString "swapped_data") (.ref ba) ∧
    ∃ c : Array UInt8, s'.heap.get? ba = some { cls := .type "bytearray", data := .bytearray c } ∧ c.size = data.length ∧ ∀ p, done p → c[p]? = data[swIx wd p]?
  have stab : ∀ (I : Addr), s.heap.get? I = none → I ≠ ba → Off env I → ∀ done s' h tk, Inv done s' → (∀ b o, b ∉ [I] → s'.heap.get? b = some o → h.get? b = some o) → Inv done { s' with heap := h, toks := tk } := by
    rintro I hI hb off done s' h tk ⟨a1, a2, a3, a4, a5, c, a6, a7⟩ k
    have k' : ∀ b o, b ≠ I → s'.heap.get? b = some o → h.get? b = some o := fun b o hb e => k b o (fun z => hb (List.mem_singleton.mp z)) e
    exact ⟨kp_at a1 hI k', a2.but off k', a3.but off k', a4.but off k', a5.but off k', c, k' ba _ (Ne.symm hb) a6, a7⟩
  have stored : ∀ (x : Str) done s' h tk, env.kindOf x = some .local → x ≠ Str.ofString "data" → x ≠ Str.ofString "width" → x ≠ Str.ofString "swapped_data" → Inv done s' → Wf h env → (∀ y v, y ≠ x → Has s'.heap env y v → Has h env y v) → Heap.SameBut env.locals s'.heap h → Keeps s { s' with heap := h, toks := tk } → Inv done { s' with heap := h, toks := tk } := by
    rintro x done s' h tk hl x1 x2 x3 ⟨a1, a2, a3, a4, a5, c, a6, a7⟩ wf oth sb kp
    exact ⟨kp, wf, oth _ _ (Ne.symm x1) a3, oth _ _ (Ne.symm x2) a4, oth _ _ (Ne.symm x3) a5, c, (sb.2 ba hbd).trans a6, a7⟩
  have hN : (words.length * wd : Nat) = data.length := hlen.symm
  have lenPos : words.length * wd ≤ 100000 := by omega
  refine wpS.execs_cons (wpS.for (wpS.of_any (ev_range3 (enOf _ k₃) g3 evConst (evLenB (enOf _ k₃) g2 (fun s' ks Q E hq => ev_name fn (hdata₃.keeps ks) (hq _ s'.toks ⟨t, rfl⟩)) (by omega)) (evInt fn hwid₃) (by omega) (by omega) fun r s₄ t₁ t₂ t₃ hr k₄ => ?_)))
  rw [hlen] at hr
  refine wpS.of_any (srcR (n := words.length) rm₁.handled hr (small_steps _ _ hw (by omega) (by omega)) (size_steps _ _ hw) _ fun I St s₅ W st live nI k₅ => ?_)
  have wf₄ : Wf s₄.heap env := wf₃.keeps (kp_k k₄)
  have nba₃ : ∃ o, s₄.heap.get? ba = some o := ⟨_, kp_k k₄ _ _ hb₃⟩
  have Iba : I ≠ ba := fun e => by obtain ⟨o, ho⟩ := nba₃; rw [← e, nI] at ho; cases ho
  have k35 := kp_trans k₄ k₅
  refine codeS.for (fun i s' => Inv (fun p => p < i * wd) s') W st ⟨kp_trans k₃ k35, wf₃.keeps (kp_k k35), hdata₃.keeps (kp_k k35), hwid₃.keeps (kp_k k35), has₃.keeps (kp_k k35), _, kp_k k35 _ _ hb₃, by simp, fun p hp => by omega⟩
    (fun i s' h tk hi k => stab I (kp_none (kp_trans k₃ k₄) nI) Iba (wf₄.offs nI) _ s' h tk hi k) ?_ ?_
  · -- a turn of the outer loop
    rintro i v s' hi ⟨ti, rfl⟩ hI hst
    obtain ⟨a1, a2, a3, a4, a5, c, a6, a7⟩ := id hI
    refine st_local a2 l2 a1 newL fun h₆ tk₆ wf₆ has₆ oth₆ sb₆ k₆ => ?_
    have I₆ := stored _ _ s' h₆ tk₆ l2 (by decide) (by decide) (by decide) hI wf₆ oth₆ sb₆ k₆
    have IL : I ≠ env.locals := (wf₄.offs nI).1
    have st₆ : St (i + 1) h₆ := W.frame _ _ _ hst fun a ha o e => sb₆.extBut a o (by rw [List.mem_singleton.mp ha]; exact IL) e
    have hwid₆ := oth₆ _ _ (by decide) a4
    refine wpS.execs_cons (wpS.for (wpS.of_any (ev_range1 (s := { s' with heap := h₆, toks := tk₆ }) (enOf _ k₆) g3 (evInt fn hwid₆) fun r₂ s₇ u₁ u₂ u₃ hr₂ k₇ => ?_)))
    refine wpS.of_any (srcR (n := wd) rm₁.handled hr₂ (small_one (by omega) (by omega) (by omega) (by omega)) (size_one wd) _ fun I₂ St₂ s₈ W₂ st₂ live₂ nI₂ k₈ => ?_)
    have wf₇ : Wf s₇.heap env := wf₆.keeps (kp_k k₇)
    have k68 := kp_trans k₇ k₈
    have ba₇ : ∃ o, s₇.heap.get? ba = some o := by obtain ⟨_, _, _, _, _, c', z, _⟩ := I₆; exact ⟨_, kp_k k₇ _ _ z⟩
    have I2ba : I₂ ≠ ba := fun e => by obtain ⟨o, ho⟩ := ba₇; rw [← e, nI₂] at ho; cases ho
    have I2I : I ≠ I₂ := fun e => by
      obtain ⟨o, ho⟩ := live _ _ st₆
      have := kp_k k₇ _ _ ho
      rw [e, nI₂] at this; cases this
    refine codeS.for (fun j s' => Inv (fun p => p < i * wd ∨ (i * wd + (wd - j) ≤ p ∧ p < i * wd + wd)) s' ∧ Has s'.heap env (Str.ofString "i") (.int (0 + i * wd) ti) ∧ St (i + 1) s'.heap) W₂ st₂ ?_ ?_ ?_ ?_
    · obtain ⟨b1, b2, b3, b4, b5, c', b6, b7, b8⟩ := I₆
      exact ⟨⟨kp_trans b1 k68, b2.keeps (kp_k k68), b3.keeps (kp_k k68), b4.keeps (kp_k k68), b5.keeps (kp_k k68), c', kp_k k68 _ _ b6, b7, fun p hp => b8 p (by omega)⟩, has₆.keeps (kp_k k68), W.frame _ _ _ st₆ fun a _ o e => kp_k k68 a o e⟩
    · rintro j s'' h tk ⟨b1, b2, b3⟩ k
      have k' : ∀ b o, b ≠ I₂ → s''.heap.get? b = some o → h.get? b = some o := fun b o hb e => k b o (fun z => hb (List.mem_singleton.mp z)) e
      exact ⟨stab I₂ (kp_none (kp_trans k₆ k₇) nI₂) I2ba (wf₇.offs nI₂) _ s'' h tk b1 k, b2.but (wf₇.offs nI₂) k', W.frame _ _ _ b3 fun a ha o e => k' a o (by rw [List.mem_singleton.mp ha]; exact I2I) e⟩
    · rintro j v s'' hj ⟨tj, rfl⟩ ⟨b1, b2, b3⟩ hst₂
      obtain ⟨c1, c2, c3, c4, c5, c, c6, c7, c8⟩ := id b1
      refine st_local c2 l3 c1 newL fun h₉ tk₉ wf₉ has₉ oth₉ sb₉ k₉ => ?_
      have I₉ := stored _ _ s'' h₉ tk₉ l3 (by decide) (by decide) (by decide) b1 wf₉ oth₉ sb₉ k₉
      have hi₉ := oth₉ _ _ (by decide) b2
      obtain ⟨d1, d2, d3, d4, d5, c, d6, d7, d8⟩ := id I₉
      have IL2 : I₂ ≠ env.locals := (wf₇.offs nI₂).1
      have st₉ : St (i + 1) h₉ := W.frame _ _ _ b3 fun a ha o e => sb₉.extBut a o (by rw [List.mem_singleton.mp ha]; exact IL) e
      have st2₉ : St₂ (j + 1) h₉ := W₂.frame _ _ _ hst₂ fun a ha o e => sb₉.extBut a o (by rw [List.mem_singleton.mp ha]; exact IL2) e
      have him : i * wd + wd ≤ words.length * wd := by rw [← Nat.succ_mul]; exact Nat.mul_le_mul_right _ hi
      have hjd : i * wd + j < data.length := by omega
      refine wpS.execs_cons (wpS.of_any ?_)
      refine wpAny_Assign_Subscript ?_ rfl
      refine (evOctet (b := data) (j := i * wd + j) (c := data[i * wd + j]) (fun s' ks Q E hq => ev_name fn (d3.keeps ks) (hq _ s'.toks ⟨t, rfl⟩)) (evAdd (evInt fn hi₉) (evInt fn has₉)) (by omega) (by push_cast; omega) (List.getElem?_eq_getElem hjd)).at (fun _ _ e => e) fun v k hv => ?_
      obtain ⟨tv, rfl⟩ := hv
      refine ev_name fn d5 ?_
      refine (evSub (evSub (evAdd (evInt fn hi₉) (evInt fn d4)) evConst) (evInt fn has₉)).at (fun _ _ e => e) fun v k' hv => ?_
      obtain ⟨tv', rfl⟩ := hv
      have hlt := UInt8.toNat_lt (data[i * wd + j])
      refine ba_set (s := { s'' with heap := h₉, toks := k' }) d6 (by omega) (by push_cast; omega) (by rw [d7]; push_cast; omega) (by omega) (by omega) fun h₁₀ hb₁₀ sb₁₀ => ?_
      have kk : ∀ b o, b ≠ ba → h₉.get? b = some o → h₁₀.get? b = some o := fun b o hb e => sb₁₀.extBut b o hb e
      have offb : Off env ba := ⟨hbd, fun x c' hc e => by
        obtain ⟨v, o', ho', hd'⟩ := d2.cell x c' hc
        rw [e, show h₉.get? ba = _ from d6] at ho'
        cases ho'
        cases hd'⟩
      refine wpS.execs_nil ⟨rfl, ⟨⟨kp_at (s := { s'' with heap := h₉, toks := tk₉ }) d1 nba kk, Wf.but (h := h₉) d2 offb kk, d3.but offb kk, d4.but offb kk, d5.but offb kk, _, hb₁₀, by rw [Array.size_setIfInBounds]; exact d7, fun p hp => ?_⟩, hi₉.but offb kk, W.frame _ _ _ st₉ fun a ha o e => kk a o (by rw [List.mem_singleton.mp ha]; exact Iba) e⟩, W₂.frame _ _ _ st2₉ fun a ha o e => kk a o (by rw [List.mem_singleton.mp ha]; exact I2ba) e⟩
      have ek : ((0 : Int) + (i : Int) * (wd : Int) + (wd : Int) - 1 - (0 + (j : Int) * 1)).toNat = i * wd + (wd - 1 - j) := by
        have : ((i * wd : Nat) : Int) = (i : Int) * (wd : Int) := by push_cast; rfl
        omega
      rw [ek]
      by_cases hpk : p = i * wd + (wd - 1 - j)
      · subst hpk
        rw [Array.getElem?_setIfInBounds_self_of_lt (by rw [d7]; omega), swIx_at hj, List.getElem?_eq_getElem hjd]
        simp
      · rw [Array.getElem?_setIfInBounds_ne (Ne.symm hpk)]
        exact d8 p (by omega)
    · rintro s'' ⟨b1, b2, b3⟩
      obtain ⟨c1, c2, c3, c4, c5, c, c6, c7, c8⟩ := b1
      refine wpS.execs_nil ⟨rfl, ⟨c1, c2, c3, c4, c5, c, c6, c7, fun p hp => c8 p ?_⟩, b3⟩
      rw [Nat.succ_mul] at hp
      omega
  · intro s' hI
    obtain ⟨c1, c2, c3, c4, c5, c, c6, c7, c8⟩ := hI
    refine wpS.execs_cons (returnS (wpS.of_any ?_))
    refine Call_ (ev_builtin (enOf _ c1).top fn gl bl g4 (ok.free _ (by simp)) boot_bytes' (callWith_type1 (args_cons (ev_name fn c5 (args_nil ?_)))))
    refine bytes_ba c6 (by omega) fun t' k' => ?_
    subst hD
    have e := swap_done hw hwords (by omega) c8
    rw [e]
    exact ⟨kp_trans c1 (kp_tok _), _, rfl⟩
end
end Nq
end NqSwapPart

section NqSmallPart
open PySem PySem.W PySem.Calls PyProof.Rows
set_option linter.unusedVariables false
set_option maxRecDepth 100000
namespace Nq
theorem boot_min' : bootBuiltins "min" = some (.builtin "min") := by decide +kernel
theorem boot_max' : bootBuiltins "max" = some (.builtin "max") := by decide +kernel
theorem boot_sorted' : bootBuiltins "sorted" = some (.builtin "sorted") := by decide +kernel
section
variable {b : Bool} {prog : Program} {w : World} {A : Around} {s : Shared} {q : Program} {mean : ExcName → Option Value} {mg mb : Str → Option Value} {env : Env}
theorem ifS {M : Model} {test : Expr} {body orelse : List Stmt} {pos : Pos} {Q : Flow → Shared → Prop}
    (h : wpAny M A (isTrue test env (eval test env)) (fun c s₂ => if c then wpS b M A (execs body env) Q s₂ else wpS b M A (execs orelse env) Q s₂) (fun _ _ => False) s) : wpS b M A (exec (.If test body orelse pos) env) Q s := by
  rw [exec_If]
  refine wpS.bind (wpS.standAt (wpS.bindAny (wpAny_mono h (fun c s₂ h₂ => ?_) fun _ _ z => z)))
  cases c
  · exact h₂
  · exact h₂

theorem ev_call3 {E : Value → Shared → Prop} {f : Str} {id : String} {p pos : Pos} {e₁ e₂ e₃ : Expr} {P₁ P₂ P₃ : Value → Prop} {Q : Value → Shared → Prop} (en : En q mean mg mb s.heap env) (hx : env.kindOf f = some .globalImplicit) (hm : mg f = none) (hb : bootBuiltins f = some (.builtin id))
    (x : EvV prog w A s.heap env e₁ P₁) (y : EvV prog w A s.heap env e₂ P₂) (z : EvV prog w A s.heap env e₃ P₃)
    (g : ∀ u v z k, P₁ u → P₂ v → P₃ z → wpAny (model prog w) A (call (.builtin id) [u, v, z]) Q E { s with toks := k }) (hn : f ≠ "__name__" := by decide) (hd : (f == ("__debug__" : Str)) = false := by decide)
    (he : starEach [e₁, e₂, e₃] env = (false, eval e₁ env) :: starEach [e₂, e₃] env := by rfl) (he₂ : starEach [e₂, e₃] env = (false, eval e₂ env) :: starEach [e₃] env := by rfl) (he₃ : starEach [e₃] env = (false, eval e₃ env) :: starEach [] env := by rfl)
    (hc : eval (.Call (.Name f p) [e₁, e₂, e₃] [] pos) env = (do callWith pos (← eval (.Name f p) env) [] (backTo pos (starEach [e₁, e₂, e₃] env)) (backToKw pos (keywordEach [] env))) := by rfl)
    (hp : (backTo pos (starEach [e₂, e₃] env)).any (·.1) = false := by rfl) :
    wpAny (model prog w) A (eval (.Call (.Name f p) [e₁, e₂, e₃] [] pos) env) Q E s :=
  Call_ (ev_builtin en.top en.fn en.gl en.bl hx hm hb (callWith_builtin1 (args_cons (x.at (fun _ _ e => e) fun u k hu => args_cons (y { s with toks := k } (fun _ _ e => e) _ _ fun v k' hv => args_cons (z { s with toks := k' } (fun _ _ e => e) _ _ fun v' k'' hv' => args_nil (g _ _ _ _ hu hv hv')) he₃) he₂) he) he hp) hn hd) hc

set_option maxHeartbeats 1000000 in
theorem middle_spec {n : Nat} {fa : Addr} {x y z : Int} {t₁ t₂ t₃ : Tok} (rm : Rm A n) (hn : n ≤ 90) (ok : Ok q mg) (T : Gd q mean mg mb s.heap) (hf : mg (dAt 9).name = some (.ref fa)) :
    wpS b (model prog w) A (call (.ref fa) [.int x t₁, .int y t₂, .int z t₃]) (fun v s' => Keeps s s' ∧ ∃ u, v = .int (mid x y z) u) s := by
  obtain ⟨a, o, pm, code, doc, h1, h2, h3, h4⟩ := T.fn (dAt 9) (ok.defs 9 (by simp))
  rw [hf] at h1
  cases h1
  refine callDef (fd := fdAt 9 pm code doc) (binds := [(Str.ofString "one", .int x t₁), (Str.ofString "two", .int y t₂), (Str.ofString "three", .int z t₃)]) rm (by omega) h2 h3 T.nolimit h4 rfl rfl rfl ?_ ?_ ?_
  · intro L x hx
    simp only [List.mem_cons, List.not_mem_nil, or_false] at hx
    rcases hx with rfl | rfl | rfl <;> exact .inl rfl
  · intro L x hx
    simp only [List.mem_cons, List.not_mem_nil, or_false] at hx
    rcases hx with rfl | rfl | rfl <;> exact .inl ⟨rfl, rfl⟩
  intro s₁ k₁ wf₁ has₁
  generalize hA : A.deeper _ = A₁
  have rm₁ : Rm A₁ (n + 1) := by rw [← hA]; exact rm.deeper _
  have g1 : (callEnvC (fdAt 9 pm code doc) s.heap.objs.size fa).kindOf (Str.ofString "min") = some .globalImplicit := rfl
  have g2 : (callEnvC (fdAt 9 pm code doc) s.heap.objs.size fa).kindOf (Str.ofString "max") = some .globalImplicit := rfl
  have gl : (callEnvC (fdAt 9 pm code doc) s.heap.objs.size fa).globals = mainGlobals := rfl
  have bl : (callEnvC (fdAt 9 pm code doc) s.heap.objs.size fa).builtins = builtinsNs := rfl
  generalize callEnvC (fdAt 9 pm code doc) s.heap.objs.size fa = env at *
  have fn : env.scope.kind = .function := wf₁.fn
  have ho : Has s₁.heap env (Str.ofString "one") (.int x t₁) := has₁ _ (.head _)
  have ht : Has s₁.heap env (Str.ofString "two") (.int y t₂) := has₁ _ (.tail _ (.head _))
  have hh : Has s₁.heap env (Str.ofString "three") (.int z t₃) := has₁ _ (.tail _ (.tail _ (.head _)))
  have T₁ : Gd q mean mg mb s₁.heap := T.keeps (kp_k k₁)
  refine wpS.execs_cons (returnS (wpS.of_any ?_))
  refine wpAny_BinOp (wpAny_BinOp ((evAdd (evAdd (evInt fn ho) (evInt fn ht)) (evInt fn hh)).at (fun _ _ e => e) fun v k hv => ?_))
  obtain ⟨tv, rfl⟩ := hv
  refine ev_call3 (s := { s₁ with toks := k }) ⟨T₁, ok, fn, gl, bl⟩ g1 (ok.free _ (by simp)) boot_min' (evName fn ho) (evName fn ht) (evName fn hh) fun u1 u2 u3 k' e1 e2 e3 => ?_
  subst e1 e2 e3
  refine min_three_ints rm₁.handled fun h₂ tk₂ k₂ => ?_
  have kk : ∀ b o, s₁.heap.get? b = some o → h₂.get? b = some o := k₂
  have e1 : ∃ u, (if y < x then (if z < y then Value.int z t₃ else .int y t₂) else (if z < x then .int z t₃ else .int x t₁)) = .int (min (min x y) z) u := by
    split <;> split
    · exact ⟨_, by congr 1; omega⟩
    · exact ⟨_, by congr 1; omega⟩
    · exact ⟨_, by congr 1; omega⟩
    · exact ⟨_, by congr 1; omega⟩
  obtain ⟨u1, e1⟩ := e1
  rw [e1]
  refine PyProof.Rows.sub_int ?_
  refine ev_call3 ⟨T₁.keeps kk, ok, fn, gl, bl⟩ g2 (ok.free _ (by simp)) boot_max' (evName fn (ho.keeps kk)) (evName fn (ht.keeps kk)) (evName fn (hh.keeps kk)) fun u1 u2 u3 k' e1 e2 e3 => ?_
  subst e1 e2 e3
  refine max_three_ints rm₁.handled fun h₃ tk₃ k₃ => ?_
  have e2 : ∃ u, (if y > x then (if z > y then Value.int z t₃ else .int y t₂) else (if z > x then .int z t₃ else .int x t₁)) = .int (max (max x y) z) u := by
    split <;> split
    · exact ⟨_, by congr 1; omega⟩
    · exact ⟨_, by congr 1; omega⟩
    · exact ⟨_, by congr 1; omega⟩
    · exact ⟨_, by congr 1; omega⟩
  obtain ⟨u2, e2⟩ := e2
  rw [e2]
  refine PyProof.Rows.sub_int ?_
  exact ⟨kp_trans k₁ ⟨h₃, _, rfl, fun b o e => k₃ b o (kk b o e)⟩, _, rfl⟩

set_option maxHeartbeats 1000000 in
theorem median_spec {n : Nat} {fa l : Addr} {x y z : Int} {t₁ t₂ t₃ : Tok} {enc : Int → List UInt8} (rm : Rm A n) (hn : n ≤ 90) (ok : Ok q mg) (T : Gd q mean mg mb s.heap) (hf : mg (dAt 4).name = some (.ref fa))
    (hl : s.heap.IsList l #[.bytes (enc x).toArray t₁, .bytes (enc y).toArray t₂, .bytes (enc z).toArray t₃]) (mono : ∀ a ∈ [x, y, z], ∀ b ∈ [x, y, z], (nats (enc a) < nats (enc b) ↔ a < b)) :
    wpS b (model prog w) A (call (.ref fa) [.ref l]) (fun v s' => Keeps s s' ∧ ∃ u, v = .bytes (enc (mid x y z)).toArray u) s := by
  obtain ⟨a, o, pm, code, doc, h1, h2, h3, h4⟩ := T.fn (dAt 4) (ok.defs 4 (by simp))
  rw [hf] at h1
  cases h1
  refine callDef (fd := fdAt 4 pm code doc) (binds := [(Str.ofString "data", .ref l)]) rm (by omega) h2 h3 T.nolimit h4 rfl rfl rfl ?_ ?_ ?_
  · intro L x hx
    simp only [List.mem_cons, List.not_mem_nil, or_false] at hx
    rcases hx with rfl; exact .inl rfl
  · intro L x hx
    simp only [List.mem_cons, List.not_mem_nil, or_false] at hx
    rcases hx with rfl; exact .inl ⟨rfl, rfl⟩
  intro s₁ k₁ wf₁ has₁
  generalize hA : A.deeper _ = A₁
  have rm₁ : Rm A₁ (n + 1) := by rw [← hA]; exact rm.deeper _
  have newL : s.heap.get? (callEnvC (fdAt 4 pm code doc) s.heap.objs.size fa).locals = none := fresh_size _ (Nat.le_refl _)
  have l1 : (callEnvC (fdAt 4 pm code doc) s.heap.objs.size fa).kindOf (Str.ofString "data") = some .local := rfl
  have l2 : (callEnvC (fdAt 4 pm code doc) s.heap.objs.size fa).kindOf (Str.ofString "n") = some .local := rfl
  have g1 : (callEnvC (fdAt 4 pm code doc) s.heap.objs.size fa).kindOf (Str.ofString "sorted") = some .globalImplicit := rfl
  have g2 : (callEnvC (fdAt 4 pm code doc) s.heap.objs.size fa).kindOf (Str.ofString "len") = some .globalImplicit := rfl
  have gl : (callEnvC (fdAt 4 pm code doc) s.heap.objs.size fa).globals = mainGlobals := rfl
  have bl : (callEnvC (fdAt 4 pm code doc) s.heap.objs.size fa).builtins = builtinsNs := rfl
  generalize callEnvC (fdAt 4 pm code doc) s.heap.objs.size fa = env at *
  have fn : env.scope.kind = .function := wf₁.fn
  have hdata : Has s₁.heap env (Str.ofString "data") (.ref l) := has₁ _ (.head _)
  have enOf : ∀ s' : Shared, Keeps s s' → En q mean mg mb s'.heap env := fun s' k => ⟨T.keeps (kp_k k), ok, fn, gl, bl⟩
  -- data = sorted(data)
  refine wpS.execs_cons (assignS (wpS.of_any ?_) rfl)
  refine Call_ (ev_builtin (enOf s₁ k₁).top fn gl bl g1 (ok.free _ (by simp)) boot_sorted' (callWith_builtin1 (args_cons (ev_name fn hdata (args_nil ?_)))))
  refine sorted_three (hl.at fun o e => kp_k k₁ l o e) mono fun r v1 v2 v3 h₂ tk₂ nr hr k₂ => ?_
  have k₂' : Keeps s { s₁ with heap := h₂, toks := tk₂ } := kp_trans k₁ (kp_of k₂)
  refine st_local (s := { s₁ with heap := h₂, toks := tk₂ }) (wf₁.keeps k₂) l1 k₂' newL fun h₃ tk₃ wf₃ has₃ oth₃ sb₃ k₃ => ?_
  have rL : r ≠ env.locals := (wf₁.offs nr).1
  have hr₃ : h₃.IsList r #[v1, .bytes (enc (mid x y z)).toArray v2, v3] := hr.at fun o e => sb₃.extBut r o rL e
  -- n = len(data)
  refine wpS.execs_cons (assignS (wpS.of_any ((evLenL (vs := [v1, .bytes (enc (mid x y z)).toArray v2, v3]) (enOf _ k₃) g2 (evName fn has₃) hr₃ (by show 3 ≤ 1000000; decide)).at (fun _ _ e => e) fun v k hv => ?_)) rfl)
  obtain ⟨tn, rfl⟩ := hv
  refine st_local (s := { s₁ with heap := h₃, toks := k }) wf₃ l2 (kp_trans k₃ (kp_tok k)) newL fun h₄ tk₄ wf₄ has₄ oth₄ sb₄ k₄ => ?_
  have hr₄ : h₄.IsList r #[v1, .bytes (enc (mid x y z)).toArray v2, v3] := hr₃.at fun o e => sb₄.extBut r o rL e
  have hd₄ := oth₄ _ _ (by decide) has₃
  have hn₄ : Has h₄ env (Str.ofString "n") (.int 3 tn) := has₄
  -- if n == 0
  refine wpS.execs_cons (ifS (wpAny_isTrue_Compare1 (ev_name fn hn₄ (wpAny_Constant_int (PyProof.Rows.eq_int (wpAny_truthy_bool ?_))))))
  rw [if_neg (by decide)]
  refine wpS.execs_nil ?_
  -- if n % 2 == 1
  refine wpS.execs_cons (ifS (wpAny_isTrue_Compare1 ((evMod (evInt fn hn₄) evConst (by decide)).at (fun _ _ e => e) fun v k' hv => ?_)))
  obtain ⟨tm, rfl⟩ := hv
  refine wpAny_Constant_int (PyProof.Rows.eq_int (wpAny_truthy_bool ?_))
  rw [if_pos (by decide)]
  refine wpS.execs_cons (returnS (wpS.of_any ((evItem (vs := [v1, .bytes (enc (mid x y z)).toArray v2, v3]) (j := 1) (evName fn hd₄) (evDiv (evInt fn hn₄) evConst (by decide) (by decide)) hr₄ (by show 3 ≤ 1000000; decide) (.inl ⟨by decide, by decide⟩) rfl).at (fun _ _ e => e) fun v k'' hv => ?_)))
  subst hv
  exact ⟨kp_trans k₄ (kp_tok _), _, rfl⟩
end
end Nq
end NqSmallPart

section NqComp2Part
open PySem PySem.W PySem.Calls PyProof.Rows
set_option linter.unusedVariables false
set_option maxRecDepth 100000
namespace Nq
section
variable {b : Bool} {prog : Program} {w : World} {A : Around} {s : Shared} {env : Env}
/-- as codeS.comp, the turn's rest any tree that ends in the next turn -/
theorem codeS.compT {e : Expr} {depth : Nat} {x : Str} {px p₀ : Pos} {acc : Value} {tail : Sem Fin} {I : Addr} {fp wr : List Addr} {n : Nat} {P : Nat → Value → Prop} {St : Nat → Heap → Prop} {R : Flow → Shared → Prop} (Inv : Nat → Shared → Prop)
    (hq : (Code.compLoop e depth (.ref I) acc env).isFrame = false)
    (shape : compTurn e depth (.ref I) acc env = (standAt p₀ >>= fun _ => pyNext (.ref I) >>= fun r => match r with
      | none => Pure.pure (.done .next)
      | some v => letOwnedTupleGo (.Name x px) (.ref I) v >>= fun _ => assign (.Name x px) env v >>= fun _ => tail))
    (W : Walks prog w A I fp wr n P St) (st : St 0 s.heap) (h0 : Inv 0 s)
    (stab : ∀ i s' h tk, Inv i s' → (∀ b o, b ∉ wr → s'.heap.get? b = some o → h.get? b = some o) → Inv i { s' with heap := h, toks := tk })
    (turn : ∀ i v s', i < n → P i v → Inv i s' → St (i + 1) s'.heap → wpAny (model prog w) A (storeName env x v) (fun _ s'' => wpS b (model prog w) A tail (fun fin s₃ => fin = .again (.compLoop e depth (.ref I) acc env) ∧ Inv (i + 1) s₃ ∧ St (i + 1) s₃.heap) s'') (fun _ _ => False) s')
    (fin : ∀ s', Inv n s' → R .next s') : codeS b (model prog w) A (.compLoop e depth (.ref I) acc env) R s := by
  have hw : (Code.compLoop e depth (.ref I) acc env).frames = 0 := by
    show (if (Code.compLoop e depth (.ref I) acc env).isFrame then 1 else 0) = 0
    rw [hq]; rfl
  have hwt : (Code.compLoop e depth (.ref I) acc env).weight = 0 := by
    show (Code.compLoop e depth (.ref I) acc env).frames + 0 + 0 + 0 = 0
    rw [hw]
  refine codeS.loop2 rfl rfl (fun k s' => ∃ i, i ≤ n ∧ k = n - i ∧ Inv i s' ∧ St i s'.heap) ?_ n ⟨0, Nat.zero_le _, rfl, h0, st⟩
  rintro k s' ⟨i, hi, rfl, hI, hs⟩
  rw [Around.under_of_weight hwt (by show 3 * _ = 0; rw [hw])]
  show wpS _ _ _ (if (Code.compLoop e depth (.ref I) acc env).isFrame = true then _ else (compTurn e depth (.ref I) acc env).onRaise _) _ _
  refine wpS.iteF (by rw [hq]; decide) ?_
  refine wpS.onRaise ?_
  rw [shape]
  refine wpS.bind (wpS.standAt ?_)
  refine wpS.bindAny ?_
  by_cases hlt : i < n
  · refine W.item i s' _ _ hlt hs fun v h₁ tk₁ hP st₁ k₁ => ?_
    dsimp only
    refine wpS.bindAny (wpAny_of_eq (a := ()) rfl ?_)
    have hI' := stab i s' h₁ tk₁ hI k₁
    refine wpS.bindAny (wpAny_assign_Name (wpAny_mono (turn i v _ hlt hP hI' st₁) (fun _ s₂ h₂ => ?_) fun _ _ z => z))
    refine h₂.mono fun fin s₃ h₃ => ?_
    obtain ⟨rfl, i₃, st₃⟩ := h₃
    exact .inl ⟨rfl, n - (i + 1), by omega, i + 1, hlt, rfl, i₃, st₃⟩
  · have : i = n := by omega
    subst this
    refine W.done s' _ _ hs fun h₁ tk₁ k₁ => ?_
    exact wpS.pure (fin _ (stab i s' h₁ tk₁ hI k₁))

theorem turn_two (elt iter₁ iter₂ : Expr) (x₁ x₂ : Str) (p₁ p₂ : Pos) (scope : Scope) (pos : Pos) (it acc : Value) :
    compTurn (.ListComp elt [⟨.Name x₁ p₁, iter₁, [], 0⟩, ⟨.Name x₂ p₂, iter₂, [], 0⟩] scope pos) 0 it acc env = (standAt iter₁.pos >>= fun _ => pyNext it >>= fun r => match r with
      | none => Pure.pure (.done .next)
      | some v => letOwnedTupleGo (.Name x₁ p₁) it v >>= fun _ => assign (.Name x₁ p₁) env v >>= fun _ =>
        (eval iter₂ env >>= fun x => standAt iter₂.pos >>= fun _ => foldedSetIterable iter₂ env x >>= fun x => holding [x] (pyIter x) >>= fun it' => runOwn (.compStart (.ListComp elt [⟨.Name x₁ p₁, iter₁, [], 0⟩, ⟨.Name x₂ p₂, iter₂, [], 0⟩] scope pos) 1 it' acc env) env >>= fun _ =>
          again (.compLoop (.ListComp elt [⟨.Name x₁ p₁, iter₁, [], 0⟩, ⟨.Name x₂ p₂, iter₂, [], 0⟩] scope pos) 0 it acc env))) := by rfl
theorem turn_two1 (elt iter₁ iter₂ : Expr) (x₁ x₂ : Str) (p₁ p₂ : Pos) (scope : Scope) (pos : Pos) (it acc : Value) :
    compTurn (.ListComp elt [⟨.Name x₁ p₁, iter₁, [], 0⟩, ⟨.Name x₂ p₂, iter₂, [], 0⟩] scope pos) 1 it acc env = (standAt iter₂.pos >>= fun _ => pyNext it >>= fun r => match r with
      | none => Pure.pure (.done .next)
      | some v => letOwnedTupleGo (.Name x₂ p₂) it v >>= fun _ => assign (.Name x₂ p₂) env v >>= fun _ =>
        (eval elt env >>= fun x => call (.builtin "list.append") [acc, x] >>= fun _ => Pure.pure ()) >>= fun _ =>
          again (.compLoop (.ListComp elt [⟨.Name x₁ p₁, iter₁, [], 0⟩, ⟨.Name x₂ p₂, iter₂, [], 0⟩] scope pos) 1 it acc env)) := by rfl
end
end Nq
end NqComp2Part

section NqGenPart
open PySem PySem.W PySem.Calls PyProof.Rows
set_option linter.unusedVariables false
set_option maxRecDepth 100000
namespace Nq
/-- what a comprehension's scope shuts in -/
structure CC (env : Env) (scope : Scope) (cl : List (Str × Addr)) : Prop where
  clos : closureFor scope env = Pure.pure cl
  look : ∀ p ∈ cl, env.cells.lookup p.1 = some p.2
  nodup : cl.Pairwise fun x y => x.1 ≠ y.1
  kind : scope.kind = .function
  names : ∀ x ∈ scope.names, x.2 = .local → scope.names.lookup x.1 = some .local
theorem CC.apart {h : Heap} {env : Env} {scope : Scope} {cl : List (Str × Addr)} (c : CC env scope cl) (W : Wf h env) : cl.Pairwise fun x y => x.2 ≠ y.2 :=
  c.nodup.imp_of_mem fun {a b} ha hb ne e => ne (name_of_addr W.apart (mem_of_lookup (c.look a ha)) (e ▸ mem_of_lookup (c.look b hb)))
/-- the outer name stands in the comprehension too -/
def Tr (env env' : Env) (h h' : Heap) : Prop := ∀ y u, Has h env y u → env'.kindOf y = some .cell → env.kindOf y = some .cell → env'.cells.lookup y = env.cells.lookup y → Has h' env' y u
section
variable {b : Bool} {prog : Program} {w : World} {A : Around} {s : Shared} {env : Env}
theorem En.comp {q : Program} {mean : ExcName → Option Value} {mg mb : Str → Option Value} {h h' : Heap} {scope : Scope} {cl : List (Str × Addr)} {C : Addr} (x : En q mean mg mb h env) (k : ∀ b o, h.get? b = some o → h'.get? b = some o) (hk : scope.kind = .function) : En q mean mg mb h' (compE env scope cl C) :=
  ⟨x.top.keeps k, x.ok, hk, x.gl, x.bl⟩
theorem comp_topU {e : Expr} {scope : Scope} {pos : Pos} {first : Sem Value} {g : Comprehension} {gs : List Comprehension} {cl : List (Str × Addr)} {u : Value → Sem Unit} {Q : Value → Shared → Prop}
    (hg : clausesOf e = g :: gs) (hs : ∀ x, foldedSetIterable g.iter env x = Pure.pure x) (hclos : closureFor scope env = Pure.pure cl) (hk : scope.kind = .function) (hnames : ∀ x ∈ scope.names, x.2 = .local → scope.names.lookup x.1 = some .local)
    (h : wpS false (model prog w) A first (fun x s₁ => wpS false (model prog w) A (pyIter x) (fun it s₂ => wpS false (model prog w) A (newList []) (fun acc s₃ =>
      wpS false (model prog w) A (newFunctionEnv scope env.globals cl [] env.qual none .none (some env)) (fun cenv s₄ =>
        codeS false (model prog w) A (.compStart e 0 it acc { cenv with scope := relabel scope env }) (fun _ s' => wpAny (model prog w) A (u acc) (fun _ s'' => ∃ m, s''.heap.Ns cenv.locals m ∧ ∀ h', Heap.SameBut cenv.locals s''.heap h' → Q .none { s'' with heap := h' }) (fun _ _ => False) s') s₄) s₃) s₂) s₁) s) :
    wpAny (model prog w) A (comprehension e scope env pos (newList []) false first (some u)) Q (fun _ _ => False) s := by
  refine wpAny_comprehension_free (use := some u) hg hs hclos hk hnames (h.mono fun x s₁ h₁ => (h₁.mono fun it s₂ h₂ => (h₂.mono fun acc s₃ h₃ => (h₃.mono fun cenv s₄ h₄ => ?_).any).any).any).any
  refine codeAny_mono h₄.any fun r s' hr => ?_
  obtain ⟨f, rfl, hr⟩ := hr
  exact hr

theorem ev_comp {elt iter : Expr} {x : Str} {px : Pos} {scope : Scope} {pos : Pos} {cl : List (Str × Addr)} {n : Nat} {P : Nat → Value → Prop} {Q : Value → Shared → Prop} (ds : Nat → Dt) (wf : Wf s.heap env) (cc : CC env scope cl) (hsz : n ≤ sizeLine)
    (hit : wpS b (model prog w) A (eval iter env) (fun xv s₁ => Keeps s s₁ ∧ Src prog w A xv s₁ n P) s)
    (hmay : ∀ C, May (compE env scope cl C) x) (hslot : ∀ C, slotOf (compE env scope cl C) x ≥ C)
    (helt : ∀ i v C s₃, i < n → P i v → Keeps s s₃ → Wf s₃.heap (compE env scope cl C) → Has s₃.heap (compE env scope cl C) x v → Tr env (compE env scope cl C) s.heap s₃.heap →
      wpS b (model prog w) A (eval elt (compE env scope cl C)) (fun y s₄ => Keeps s₃ s₄ ∧ ∃ as, Rd s₄.heap y (ds i) as ∧ ∀ a ∈ as, s₃.heap.get? a = none) s₃)
    (fin : ∀ v s' as, Keeps s s' → Rd s'.heap v (.list ((List.range n).map ds)) as → (∀ a ∈ as, s.heap.get? a = none) → Q v s')
    (hs : ∀ x, foldedSetIterable iter env x = Pure.pure x := by intro _; rfl) :
    wpS b (model prog w) A (eval (.ListComp elt [⟨.Name x px, iter, [], 0⟩] scope pos) env) Q s := by
  show wpS b (model prog w) A (comprehension (.ListComp elt [⟨.Name x px, iter, [], 0⟩] scope pos) scope env _ (newList []) false (eval iter env)) Q s
  refine comp_top rfl hs cc.clos cc.kind cc.names (hit.mono fun xv s₁ h₁ => ?_)
  obtain ⟨k₁, src⟩ := h₁
  refine wpS.of_any (src _ fun I fp wr St s₂ W st live hfp hwr k₂ => ?_)
  have k12 := kp_trans k₁ k₂
  have nwr : ∀ b o, s.heap.get? b = some o → b ∉ wr := fun b o e q => by have := hwr b q; rw [kp_k k₁ b o e] at this; cases this
  have wf₂ : Wf s₂.heap env := wf.keeps (kp_k k12)
  refine comp_list (s := s₂) (RR := fun v C s' => ∃ m, s'.heap.Ns C m ∧ ∀ h', Heap.SameBut C s'.heap h' → Q v { s' with heap := h' }) ds W st hfp hsz wf₂ cc.look (cc.apart wf) cc.kind live ?_ hmay hslot ?_ ?_
  · intro y c hc
    obtain ⟨v, o, ho, _⟩ := wf.cell y c hc
    exact nwr c o ho
  · intro i v C s₃ hi hP hC wf₃ has₃ tr₃ kp₃ eq₃
    have K : Keeps s s₃ := by
      obtain ⟨h, tk, rfl⟩ := eq₃
      obtain ⟨h₂, t₂, rfl, k⟩ := k12
      exact ⟨h, tk, rfl, fun b o e => kp₃ b o (nwr b o e) (k b o e)⟩
    exact helt i v C s₃ hi hP K wf₃ has₃ fun y u hu a c d => tr₃ y u (hu.keeps (kp_k k12)) a c d
  · intro D vs as C h' tk m nD nC ns hD hDC rd fr kp
    refine ⟨m, ns, fun h'' sb => ?_⟩
    have kk : ∀ b o, s.heap.get? b = some o → h''.get? b = some o := fun b o e => by
      have e2 := kp_k k12 b o e
      exact sb.extBut b o (by rintro rfl; rw [nC] at e2; cases e2) (kp b o (nwr b o e) e2)
    refine fin (.ref D) _ (D :: as) ?_ (.list (hD.at fun o e => sb.extBut D o hDC e) (rd.frame fun a ha o e => sb.extBut a o (fr a ha).2 e)) fun a ha => ?_
    · obtain ⟨h₂, t₂, rfl, k⟩ := k12
      exact ⟨h'', tk, rfl, kk⟩
    · rcases List.mem_cons.mp ha with rfl | ha
      · exact kp_none k12 nD
      · exact kp_none k12 (fr a ha).1

theorem st_comp {elt iter : Expr} {x y : Str} {px py : Pos} {scope : Scope} {pos spos : Pos} {cl : List (Str × Addr)} {n : Nat} {P : Nat → Value → Prop} {Q : Flow → Shared → Prop} (ds : Nat → Dt) (wf : Wf s.heap env) (cc : CC env scope cl) (hsz : n ≤ sizeLine)
    (hsw : swapsWith (.ListComp elt [⟨.Name x px, iter, [], 0⟩] scope pos) (some (.Name y py)) spos.line env = Pure.pure true) (hy : env.kindOf y = some .local)
    (hit : wpS false (model prog w) A (eval iter env) (fun xv s₁ => Keeps s s₁ ∧ Src prog w A xv s₁ n P) s)
    (hmay : ∀ C, May (compE env scope cl C) x) (hslot : ∀ C, slotOf (compE env scope cl C) x ≥ C)
    (helt : ∀ i v C s₃, i < n → P i v → Keeps s s₃ → Wf s₃.heap (compE env scope cl C) → Has s₃.heap (compE env scope cl C) x v → Tr env (compE env scope cl C) s.heap s₃.heap →
      wpS false (model prog w) A (eval elt (compE env scope cl C)) (fun y s₄ => Keeps s₃ s₄ ∧ ∃ as, Rd s₄.heap y (ds i) as ∧ ∀ a ∈ as, s₃.heap.get? a = none) s₃)
    (fin : ∀ v h' tk as, Wf h' env → Has h' env y v → (∀ z u, z ≠ y → Has s.heap env z u → Has h' env z u) → (∀ b o, b ≠ env.locals → s.heap.get? b = some o → h'.get? b = some o) → Rd h' v (.list ((List.range n).map ds)) as → (∀ a ∈ as, s.heap.get? a = none) → Q .next { s with heap := h', toks := tk })
    (hs : ∀ x, foldedSetIterable iter env x = Pure.pure x := by intro _; rfl) :
    wpS b (model prog w) A (exec (.Assign [.Name y py] (.ListComp elt [⟨.Name x px, iter, [], 0⟩] scope pos) spos) env) Q s := by
  rw [exec_Assign_Name_used _ _ _ _ hsw]
  refine wpS.of_any (wpAny_bind (wpAny_standAt (wpAny_bind ?_)))
  show wpAny _ A (do let _ ← comprehension (.ListComp elt [⟨.Name x px, iter, [], 0⟩] scope pos) scope env _ (newList []) false (eval iter env) (some (assign (.Name y py) env))) _ _ s
  refine wpAny_bind (wpAny_mono (comp_topU (u := assign (.Name y py) env) (Q := fun _ s' => Q .next s') rfl hs cc.clos cc.kind cc.names (hit.mono fun xv s₁ h₁ => ?_)) (fun _ s' hq => wpAny_pure (wpAny_pure hq)) fun _ _ e => e)
  obtain ⟨k₁, src⟩ := h₁
  refine wpS.of_any (src _ fun I fp wr St s₂ W st live hfp hwr k₂ => ?_)
  have k12 := kp_trans k₁ k₂
  have nwr : ∀ b o, s.heap.get? b = some o → b ∉ wr := fun b o e q => by have := hwr b q; rw [kp_k k₁ b o e] at this; cases this
  have wf₂ : Wf s₂.heap env := wf.keeps (kp_k k12)
  refine comp_list (s := s₂) (RR := fun v C s' => wpAny (model prog w) A (assign (.Name y py) env v) (fun _ s'' => ∃ m, s''.heap.Ns C m ∧ ∀ h', Heap.SameBut C s''.heap h' → Q .next { s'' with heap := h' }) (fun _ _ => False) s') ds W st hfp hsz wf₂ cc.look (cc.apart wf) cc.kind live ?_ hmay hslot ?_ ?_
  · intro y c hc
    obtain ⟨v, o, ho, _⟩ := wf.cell y c hc
    exact nwr c o ho
  · intro i v C s₃ hi hP hC wf₃ has₃ tr₃ kp₃ eq₃
    have K : Keeps s s₃ := by
      obtain ⟨h, tk, rfl⟩ := eq₃
      obtain ⟨h₂, t₂, rfl, k⟩ := k12
      exact ⟨h, tk, rfl, fun b o e => kp₃ b o (nwr b o e) (k b o e)⟩
    exact helt i v C s₃ hi hP K wf₃ has₃ fun y u hu a c d => tr₃ y u (hu.keeps (kp_k k12)) a c d
  · intro D vs as C h' tk m nD nC ns hD hDC rd fr kp
    have kk : ∀ b o, s.heap.get? b = some o → h'.get? b = some o := fun b o e => kp b o (nwr b o e) (kp_k k12 b o e)
    refine wpAny_assign_Name (st_name (s := { s₂ with heap := h', toks := tk }) (wf.keeps kk) (.inl hy) fun h₃ tk₃ wf₃ has₃ oth₃ sb₃ => ?_)
    rw [slot_local hy] at sb₃
    have offC : Off env C := wf₂.offs nC
    have offL : ∀ a, s.heap.get? a = none → a ≠ env.locals := fun a e q => by
      obtain ⟨m, o, es, ep, ho, _⟩ := wf.ns
      rw [← q, e] at ho; cases ho
    refine ⟨m, ns.at' fun o e => sb₃.extBut C o offC.1 e, fun h₄ sb₄ => ?_⟩
    have k34 : ∀ b o, b ≠ C → h₃.get? b = some o → h₄.get? b = some o := fun b o hb e => sb₄.extBut b o hb e
    have sC : ∀ b o, s.heap.get? b = some o → b ≠ C := fun b o e q => by
      have := kp_k k12 b o e
      rw [q, nC] at this; cases this
    have nD' := kp_none k12 nD
    have := fin (.ref D) h₄ tk₃ (D :: as) (wf₃.but offC k34) (has₃.but offC k34) (fun z u hz hu => (oth₃ z u hz (hu.keeps kk)).but offC k34) (fun b o hb e => k34 b o (sC b o e) (sb₃.extBut b o hb (kk b o e)))
      (.list (hD.at fun o e => k34 D o hDC (sb₃.extBut D o (offL D nD') e)) (rd.frame fun a ha o e => k34 a o (fr a ha).2 (sb₃.extBut a o (offL a (kp_none k12 (fr a ha).1)) e))) (fun a ha => by
        rcases List.mem_cons.mp ha with rfl | ha
        · exact nD'
        · exact kp_none k12 (fr a ha).1)
    obtain ⟨h₂, t₂, rfl, k⟩ := k12
    exact this
end
end Nq
end NqGenPart

section NqTwoPart
open PySem PySem.W PySem.Calls PyProof.Rows
set_option linter.unusedVariables false
set_option maxRecDepth 100000
namespace Nq
section
variable {b : Bool} {prog : Program} {w : World} {A : Around} {s : Shared} {env : Env}
theorem srcL {l : Addr} {vs : List Value} (hh : A.handled = none) (hl : s.heap.IsList l vs.toArray) (Q : Value → Shared → Prop)
    (h : ∀ I St s₂, Walks prog w A I [I, l] [I] vs.length (fun i v => vs[i]? = some v) St → St 0 s₂.heap → (∀ i h, St i h → (∃ o, h.get? I = some o) ∧ ∃ o, h.get? l = some o) → s.heap.get? I = none → Keeps s s₂ → Q (.ref I) s₂) :
    wpAny (model prog w) A (pyIter (.ref l)) Q (fun _ _ => False) s := by
  refine wpAny_pyIter_list hl ?_
  have hlt : l < s.heap.objs.size := by obtain ⟨_, e, _⟩ := hl; exact Heap.lt_size e
  have W := Walks.list (prog := prog) (w := w) hh s.heap.objs.size l (Nat.ne_of_lt hlt) vs.toArray
  have e : vs.toArray.size = vs.length := by simp
  have ep : (fun (i : Nat) (v : Value) => vs.toArray[i]? = some v) = fun i v => vs[i]? = some v := by funext i v; simp
  rw [e, ep] at W
  refine h _ _ _ W ⟨⟨_, Heap.get?_push_size _ rfl, rfl, rfl⟩, hl.push _⟩ (fun i h st => ?_) (fresh_size _ (Nat.le_refl _)) ⟨_, s.toks, rfl, fun b o e => Heap.get?_push_of_some _ e⟩
  obtain ⟨⟨o, ho, _⟩, o', ho', _⟩ := st
  exact ⟨⟨o, ho⟩, o', ho'⟩
theorem Has.slot {h : Heap} {env : Env} {x : Str} {v : Value} (y : Has h env x v) : ∃ o, h.get? (slotOf env x) = some o := by
  rcases y with ⟨ql, m, ⟨o, es, ep, ho, _⟩, _⟩ | ⟨ql, c, lc, o, ho, _⟩
  · exact ⟨o, by rw [slotOf, if_pos ql]; exact ho⟩
  · exact ⟨o, by rw [slotOf, if_neg (by rw [ql]; decide), lc]; exact ho⟩
set_option maxHeartbeats 1000000 in
theorem ev_comp2 {elt : Expr} {x₁ x₂ rv : Str} {p₁ p₂ q₁ q₂ : Pos} {scope : Scope} {pos : Pos} {cl : List (Str × Addr)} {R : Addr} {vs : List Value} {rows : List (List Int)} {as : List Addr} {Q : Value → Shared → Prop} (f : Int → List UInt8)
    (hh : A.handled = none) (wf : Wf s.heap env) (cc : CC env scope cl) (hrows : Has s.heap env rv (.ref R)) (hl : s.heap.IsList R vs.toArray) (rd : RdAll s.heap vs (rows.map fun r => .list (r.map .int)) as) (hsz : rows.flatten.length ≤ sizeLine)
    (may1 : ∀ C, (compE env scope cl C).kindOf x₁ = some .local) (may2 : ∀ C, May (compE env scope cl C) x₂) (slot2 : ∀ C, slotOf (compE env scope cl C) x₂ ≥ C) (hx : x₁ ≠ x₂)
    (helt : ∀ x t C s₃, x ∈ rows.flatten → Keeps s s₃ → Wf s₃.heap (compE env scope cl C) → Has s₃.heap (compE env scope cl C) x₂ (.int x t) → Tr env (compE env scope cl C) s.heap s₃.heap →
      wpS b (model prog w) A (eval elt (compE env scope cl C)) (fun y s₄ => Keeps s₃ s₄ ∧ ∃ u, y = .bytes (f x).toArray u) s₃)
    (fin : ∀ D us s', Keeps s s' → s'.heap.IsList D us.toArray → BytesAre us (rows.flatten.map f) → s.heap.get? D = none → Q (.ref D) s')
    (hd1 : (x₁ == ("__debug__" : Str)) = false := by decide) (hd2 : (rv == ("__debug__" : Str)) = false := by decide) :
    wpS b (model prog w) A (eval (.ListComp elt [⟨.Name x₁ p₁, .Name rv q₁, [], 0⟩, ⟨.Name x₂ p₂, .Name x₁ q₂, [], 0⟩] scope pos) env) Q s := by
  show wpS b (model prog w) A (comprehension (.ListComp elt [⟨.Name x₁ p₁, .Name rv q₁, [], 0⟩, ⟨.Name x₂ p₂, .Name x₁ q₂, [], 0⟩] scope pos) scope env _ (newList []) false (eval (.Name rv q₁) env)) Q s
  refine comp_top rfl (fun _ => rfl) cc.clos cc.kind cc.names (wpS.of_any (ev_name wf.fn hrows ?_ hd2))
  refine wpS.of_any (srcL hh hl _ fun I St s₂ W st live nI k₂ => ?_)
  have wf₂ : Wf s₂.heap env := wf.keeps (kp_k k₂)
  refine wpS.of_any (wpAny_newObj_type ?_ (Nat.zero_le _))
  generalize hH : s₂.heap.push { cls := .type "list", dict := none, data := .seq ([] : List Value).toArray } = H
  have hHs : H.objs.size = s₂.heap.objs.size + 1 := by rw [← hH, Heap.size_push]
  have keepH : ∀ b o, s₂.heap.get? b = some o → H.get? b = some o := fun b o e => by rw [← hH]; exact Heap.get?_push_of_some _ e
  refine wpS.of_any (compE_new (s := { s₂ with heap := H }) (wf₂.keeps keepH) cc.look (cc.apart wf) cc.kind fun h₁ keep₁ wf₁ => ?_)
  generalize hC : H.objs.size = C at *
  have hC' : C = s₂.heap.objs.size + 1 := hHs
  generalize hD : s₂.heap.objs.size = D at *
  have old : ∀ b o, s₂.heap.get? b = some o → h₁.get? b = some o := fun b o e => keep₁ b o (keepH b o e)
  have lD : h₁.IsList D #[] := ⟨_, keep₁ _ _ (by rw [← hH, ← hD]; exact Heap.get?_push_size _ rfl), rfl, _, rfl⟩
  have st₁ : St 0 h₁ := W.frame 0 _ _ st fun a _ o e => old a o e
  show codeS b (model prog w) A (.compStart (.ListComp elt [⟨.Name x₁ p₁, .Name rv q₁, [], 0⟩, ⟨.Name x₂ p₂, .Name x₁ q₂, [], 0⟩] scope pos) 0 (.ref I) (.ref D) (compE env scope cl C)) (fun _ s' => ∃ m, s'.heap.Ns C m ∧ ∀ h', Heap.SameBut C s'.heap h' → Q (.ref D) { s' with heap := h' }) { s₂ with heap := h₁ }
  refine codeS.compStart rfl rfl rfl (fun Q hq => W.self 0 _ _ _ st₁ hq) ?_
  have fr : ∀ a, D ≤ a → s₂.heap.get? a = none := fun a ha => fresh_size _ (by rw [hD]; exact ha)
  have helt' := fun x t => helt x t C
  have m1 := may1 C
  have m2 := may2 C
  have sl2 := slot2 C
  have trC : ∀ h', (∀ b o, s.heap.get? b = some o → h'.get? b = some o) → Tr env (compE env scope cl C) s.heap h' := fun h' k y u hu a1 a2 a3 => by
    rcases hu with ⟨q, _⟩ | ⟨_, c, lc, o, ho, hd⟩
    · rw [a2] at q; cases q
    · exact .inr ⟨a1, c, a3.trans lc, o, k c o ho, hd⟩
  have eL : (compE env scope cl C).locals = C := rfl
  -- the cells of the comprehension are not the list nor the walk
  have ID : I < D := by
    obtain ⟨⟨o, ho⟩, _⟩ := live _ _ st
    have := Heap.lt_size ho
    rw [hD] at this; exact this
  have RD : R < D := by
    obtain ⟨_, ⟨o, ho⟩⟩ := live _ _ st
    have := Heap.lt_size ho
    rw [hD] at this; exact this
  have cells : ∀ y c, (compE env scope cl C).cells.lookup y = some c → c ≠ I ∧ c ≠ D := fun y c hp => by
    have hp' : (y, c) ∈ cellsFrom (C + 1) scope.names cl := mem_of_lookup hp
    rw [cellsFrom_app] at hp'
    rcases List.mem_append.mp hp' with z | z
    · rcases cellsFrom_ge scope.names (C + 1) [] _ z with z | z
      · cases z
      · have z' : C + 1 ≤ c := z
        exact ⟨fun e => nlt (show I < D from ID) (by rw [← e]; exact Nat.le_trans (show D ≤ C + 1 from by omega) z'), fun e => nlt (show D < C + 1 by omega) (by rw [← e]; exact z')⟩
    · obtain ⟨v, o, ho, _⟩ := wf.cell y c (cc.look (y, c) z)
      refine ⟨fun e => (by rw [e, nI] at ho; cases ho), fun e => ?_⟩
      have := kp_k k₂ _ _ ho
      rw [e, fr D (Nat.le_refl _)] at this; cases this
  have offI : Off (compE env scope cl C) I := ⟨fun e => nlt (show I < C from Nat.lt_trans ID (by omega)) (by rw [e]; exact Nat.le_refl _), fun y c hc => (cells y c hc).1⟩
  have offD : Off (compE env scope cl C) D := ⟨fun e => nlt (show D < C by omega) (by rw [e]; exact Nat.le_refl _), fun y c hc => (cells y c hc).2⟩
  generalize hcenv : compE env scope cl C = cenv at *
  have hsl1 : slotOf cenv x₁ = C := by rw [slot_local m1, eL]
  let Inv : List (List UInt8) → Shared → Prop := fun bs s' => Keeps s s' ∧ Wf s'.heap cenv ∧ ∃ us, s'.heap.IsList D us.toArray ∧ BytesAre us bs
  have nsD : s.heap.get? D = none := kp_none k₂ (fr D (Nat.le_refl _))
  have nsC : ∀ a, C ≤ a → s.heap.get? a = none := fun a ha => kp_none k₂ (fr a (by omega))
  -- a store into one of the comprehension's names
  have stored : ∀ (x : Str) bs s' h tk, C ≤ slotOf cenv x → Inv bs s' → Wf h cenv → Heap.SameBut (slotOf cenv x) s'.heap h → Inv bs { s' with heap := h, toks := tk } := by
    rintro x bs s' h tk hs ⟨a1, a2, us, a3, a4⟩ wf' sb
    exact ⟨kp_at a1 (nsC _ hs) fun b o hb e => sb.extBut b o hb e, wf', us, a3.at fun o e => sb.extBut D o (fun q => nlt (show D < C by omega) (by rw [q]; exact hs)) e, a4⟩
  have stabI : ∀ (J : Addr), s.heap.get? J = none → J ≠ D → Off cenv J → ∀ bs s' h tk, Inv bs s' → (∀ b o, b ∉ [J] → s'.heap.get? b = some o → h.get? b = some o) → Inv bs { s' with heap := h, toks := tk } := by
    rintro J hJ hJD off bs s' h tk ⟨a1, a2, us, a3, a4⟩ k
    have k' : ∀ b o, b ≠ J → s'.heap.get? b = some o → h.get? b = some o := fun b o hb e => k b o (fun z => hb (List.mem_singleton.mp z)) e
    exact ⟨kp_at a1 hJ k', a2.but off k', us, a3.at fun o e => k' D o (Ne.symm hJD) e, a4⟩
  have hlen : vs.length = rows.length := by rw [rd.length, List.length_map]
  have frameC : ∀ i (x : Str) h h', C ≤ slotOf cenv x → St i h → Heap.SameBut (slotOf cenv x) h h' → St i h' := fun i x h h' hs hst sb => W.frame _ _ _ hst fun a ha o e => sb.extBut a o (fun q => by
    have : a < D := by
      rcases List.mem_cons.mp ha with rfl | ha
      · exact ID
      · rw [List.mem_singleton.mp ha]; exact RD
    exact nlt (show a < C from Nat.lt_trans this (by omega)) (by rw [q]; exact hs)) e
  refine codeS.compT (s := { s₂ with heap := h₁ }) (fun i s' => Inv ((rows.take i).flatten.map f) s') rfl (turn_two elt (.Name rv q₁) (.Name x₁ q₂) x₁ x₂ p₁ p₂ scope pos (.ref I) (.ref D)) W st₁ ⟨?_, wf₁, [], lD, .nil⟩ (fun i s' h tk => stabI I nI (Nat.ne_of_lt ID) offI _ s' h tk) ?_ ?_
  · obtain ⟨h₂, t₂, rfl, k⟩ := k₂
    exact ⟨h₁, t₂, rfl, fun b o e => old b o (k b o e)⟩
  · rintro i v s' hi hv hI hst
    have hi' : i < rows.length := by rw [← hlen]; exact hi
    obtain ⟨v', bs', hv', rdv, _⟩ := rd.at i (.list (rows[i].map .int)) (by rw [List.getElem?_map, List.getElem?_eq_getElem hi']; rfl)
    rw [hv] at hv'
    cases hv'
    obtain ⟨l, us, cs, rfl, hlu, rdu, _⟩ := rdv.list_inv
    obtain ⟨hin, _⟩ := rdu.ints
    obtain ⟨a1, a2, us₀, a3, a4⟩ := id hI
    refine st_name a2 (.inl m1) fun h₃ tk₃ wf₃ has₃ oth₃ sb₃ => ?_
    have I₃ := stored x₁ _ s' h₃ tk₃ (by rw [hsl1]; exact Nat.le_refl _) hI wf₃ sb₃
    have st₃ : St (i + 1) h₃ := frameC _ x₁ _ _ (by rw [hsl1]; exact Nat.le_refl _) hst sb₃
    obtain ⟨b1, b2, us₁, b3, b4⟩ := id I₃
    refine wpS.bindAny (ev_name (s := { s' with heap := h₃, toks := tk₃ }) wf₃.fn has₃ ?_ hd1)
    refine wpS.bind (wpS.standAt (wpS.bindAny (wpAny_pure ?_)))
    have hlu₃ : h₃.IsList l us.toArray := hlu.at fun o e => kp_k b1 l o e
    refine wpS.bindAny (wpAny_holding (srcL (s := { s' with heap := h₃, toks := tk₃ }) hh hlu₃ _ fun J St₂ s₄ W₂ st₂ live₂ nJ k₄ => ?_))
    have kp₄ := kp_k k₄
    have K4 : Keeps s s₄ := kp_trans b1 k₄
    have nJs : s.heap.get? J = none := kp_none b1 nJ
    have JD : J ≠ D := fun e => by obtain ⟨o, ho, _⟩ := b3; rw [← e] at ho; rw [show h₃.get? J = none from nJ] at ho; cases ho
    have offJ : Off cenv J := wf₃.offs nJ
    have JI : ∀ a ∈ [I, R], a ≠ J := fun a ha e => by
      obtain ⟨⟨o, ho⟩, o', ho'⟩ := live _ _ st₃
      rcases List.mem_cons.mp ha with rfl | ha
      · rw [e, show h₃.get? J = none from nJ] at ho; cases ho
      · rw [← List.mem_singleton.mp ha, e, show h₃.get? J = none from nJ] at ho'; cases ho'
    have Jlt : J ≠ slotOf cenv x₂ ∧ l ≠ slotOf cenv x₂ ∨ True := .inr trivial
    have hlenu : us.length = rows[i].length := by rw [rdu.length, List.length_map]
    refine wpS.bind (wpS.runOwn (codeS.compStart rfl rfl rfl (fun Q hq => W₂.self 0 _ _ _ st₂ hq) ?_))
    refine codeS.compT (fun j s'' => Inv ((rows.take i).flatten.map f ++ (rows[i].take j).map f) s'' ∧ St (i + 1) s''.heap ∧ ∀ o, h₃.get? (slotOf cenv x₂) = some o → ∃ o', s''.heap.get? (slotOf cenv x₂) = some o') rfl (turn_two1 elt (.Name rv q₁) (.Name x₁ q₂) x₁ x₂ p₁ p₂ scope pos (.ref J) (.ref D)) W₂ st₂ ?_ ?_ ?_ ?_
    · refine ⟨⟨K4, b2.keeps kp₄, us₁, b3.at fun o e => kp₄ D o e, by simpa using b4⟩, W.frame _ _ _ st₃ fun a _ o e => kp₄ a o e, fun o e => ⟨o, kp₄ _ o e⟩⟩
    · rintro j s'' h tk ⟨c1, c2, c3⟩ k
      have k' : ∀ b o, b ≠ J → s''.heap.get? b = some o → h.get? b = some o := fun b o hb e => k b o (fun z => hb (List.mem_singleton.mp z)) e
      refine ⟨stabI J nJs JD offJ _ s'' h tk c1 k, W.frame _ _ _ c2 fun a ha o e => k' a o (JI a ha) e, fun o e => ?_⟩
      obtain ⟨o', e'⟩ := c3 o e
      exact ⟨o', k' _ _ (fun q => by rw [q, show h₃.get? J = none from nJ] at e; cases e) e'⟩
    · rintro j v s'' hj hvj ⟨c1, c2, c3⟩ hst₂
      have hj' : j < rows[i].length := by rw [← hlenu]; exact hj
      obtain ⟨v', bs'', hv', rdv', _⟩ := (RdAll.of_ints (h := s.heap) hin).at j (.int rows[i][j]) (by rw [List.getElem?_map, List.getElem?_eq_getElem hj']; rfl)
      rw [hvj] at hv'
      cases hv'
      obtain ⟨tv, rfl⟩ := rdv'.int_inv
      obtain ⟨d1, d2, us₂, d3, d4⟩ := id c1
      refine st_name d2 m2 fun h₅ tk₅ wf₅ has₅ oth₅ sb₅ => ?_
      have I₅ := stored x₂ _ s'' h₅ tk₅ sl2 c1 wf₅ sb₅
      obtain ⟨e1, e2, us₃, e3, e4⟩ := I₅
      have st₅ : St (i + 1) h₅ := frameC _ x₂ _ _ sl2 c2 sb₅
      -- the slot is none of the inner walk's
      have slJ : ∀ a ∈ [J, l], a ≠ slotOf cenv x₂ := fun a ha q => by
        rcases List.mem_cons.mp ha with rfl | ha
        · rcases m2 with m2 | ⟨m2, m3⟩
          · exact offJ.1 (by rw [q, slot_local m2])
          · obtain ⟨c, hc⟩ := Option.isSome_iff_exists.mp m3
            refine offJ.2 x₂ c hc ?_
            rw [q, slotOf, if_neg (by rw [m2]; decide), hc]; rfl
        · rw [List.mem_singleton.mp ha] at q
          obtain ⟨o, ho, _⟩ := hlu
          have := nsC l (by rw [q]; exact sl2)
          rw [this] at ho; cases ho
      have st2₅ : St₂ (j + 1) h₅ := W₂.frame _ _ _ hst₂ fun a ha o e => sb₅.extBut a o (slJ a ha) e
      refine wpS.bind (wpS.bind ((helt' rows[i][j] tv { s'' with heap := h₅, toks := tk₅ } ?_ e1 e2 has₅ (trC _ (kp_k e1))).mono fun y s₆ h₆ => ?_))
      · exact List.mem_flatten.mpr ⟨rows[i], List.getElem_mem _, List.getElem_mem _⟩
      obtain ⟨k₆, ty, rfl⟩ := h₆
      have kp₆ := kp_k k₆
      have lenb : us₃.length ≤ sizeLine := by
        rw [e4.length]
        have h1 : (rows.take i).flatten.length + rows[i].length ≤ rows.flatten.length := by
          have : rows.flatten = (rows.take i).flatten ++ (rows[i] ++ (rows.drop (i + 1)).flatten) := by
            conv => lhs; rw [← List.take_append_drop i rows, List.flatten_append, List.drop_eq_getElem_cons hi', List.flatten_cons]
          rw [this]; simp only [List.length_append]; omega
        simp only [List.length_append, List.length_map, List.length_take]
        omega
      refine wpS.bindAny (wpAny_list_append (e3.at fun o e => kp₆ D o e) (fun h₇ l₇ s₇ => ?_) (hsz := by simpa using lenb))
      have up : ∀ a, a ≠ D → ∀ o, h₅.get? a = some o → h₇.get? a = some o := fun a ha o e => s₇.extBut a o ha (kp₆ a o e)
      have dO : ∃ o, h₅.get? D = some o := let ⟨o, ho, _⟩ := e3; ⟨o, ho⟩
      refine wpS.pure (wpS.pure ⟨rfl, ⟨⟨?_, ?_, us₃ ++ [.bytes (f rows[i][j]).toArray ty], by simpa using l₇, ?_⟩, ?_, fun o e => ?_⟩, ?_⟩)
      · have := kp_but (t := s₆.toks) (kp_trans e1 k₆) s₇ nsD
        exact this
      · exact wf₅.but offD fun b o hb e => up b hb o e
      · have := e4.snoc (f rows[i][j]) ty
        rwa [List.append_assoc, ← List.map_singleton (f := f), ← List.map_append, List.take_append_getElem] at this
      · exact W.frame _ _ _ st₅ fun a ha o e => up a (by
          rcases List.mem_cons.mp ha with rfl | ha
          · exact Nat.ne_of_lt ID
          · rw [List.mem_singleton.mp ha]; exact Nat.ne_of_lt RD) o e
      · obtain ⟨o', ho'⟩ := has₅.slot
        exact ⟨o', up _ (fun q => nlt (show D < C by omega) (by rw [← q]; exact sl2)) o' ho'⟩
      · refine W₂.frame _ _ _ st2₅ fun a ha o e => up a ?_ o e
        rcases List.mem_cons.mp ha with rfl | ha
        · exact JD
        · rw [List.mem_singleton.mp ha]
          intro q
          obtain ⟨o', ho', _⟩ := hlu
          rw [q, nsD] at ho'; cases ho'
    · rintro s'' ⟨c1, c2, c3⟩
      refine wpS.pure ⟨rfl, ?_, c2⟩
      rw [hlenu, List.take_length] at c1
      have e : (rows.take (i + 1)).flatten.map f = (rows.take i).flatten.map f ++ rows[i].map f := by
        rw [← List.take_append_getElem hi', List.flatten_append, List.map_append]; simp
      rw [e]; exact c1
  · rintro s' ⟨a1, a2, us, a3, a4⟩
    obtain ⟨m, ns⟩ := a2.ns
    refine ⟨m, by rw [← eL]; exact ns, fun h' sb => fin D us _ ?_ (a3.at fun o e => sb.extBut D o (show (D : Nat) ≠ C by omega) e) ?_ nsD⟩
    · exact kp_but (t := s'.toks) a1 sb (nsC C (Nat.le_refl _))
    · rw [hlen, List.take_length] at a4; exact a4
end
end Nq
end NqTwoPart

section NqOctPart
open PySem PySem.W PySem.Calls PyProof.Rows
set_option linter.unusedVariables false
set_option maxRecDepth 100000
namespace Nq
/-- a scope of a comprehension -/
abbrev sc (names : List (Str × NameKind)) : Scope := { kind := .function, names := names, isGenerator := false, isCoroutine := false, more := [] }
/-- the octets of a number, the low ones first -/
def lo (wd : Nat) (x : Int) : List UInt8 := (List.range wd).map fun k => ((x.fdiv (256 ^ k)).fmod 256).toNat.toUInt8
/-- the octets of a number, the high ones first -/
def hi (wd : Nat) (x : Int) : List UInt8 := (List.range wd).map fun (k : Nat) => ((x.fdiv (256 ^ ((wd : Int) - 1 - k).toNat)).fmod 256).toNat.toUInt8
theorem bits256 : Builtin.Int.intBits 256 = 9 := by decide +kernel
theorem fmod_low (x : Int) : 0 ≤ x.fmod 256 ∧ x.fmod 256 < 256 := ⟨Int.fmod_nonneg_of_pos x (by decide), Int.fmod_lt_of_pos x (by decide)⟩
theorem pow_small {k : Nat} (h : k ≤ 3) : (256 ^ k : Int) ≠ 0 ∧ (256 ^ k : Int).natAbs < 1073741824 := by
  match k, h with
  | 0, _ => exact ⟨by decide, by decide⟩
  | 1, _ => exact ⟨by decide, by decide⟩
  | 2, _ => exact ⟨by decide, by decide⟩
  | 3, _ => exact ⟨by decide, by decide⟩
section
variable {b : Bool} {prog : Program} {w : World} {A : Around} {s : Shared} {q : Program} {mean : ExcName → Option Value} {mg mb : Str → Option Value}
set_option maxHeartbeats 2000000 in
theorem octets_spec {n : Nat} {fa R : Addr} {vs : List Value} {rows : List (List Int)} {as : List Addr} {wd : Nat} {tw : Tok} (rm : Rm A n) (hn : n ≤ 90) (ok : Ok q mg) (T : Gd q mean mg mb s.heap) (hf : mg (dAt 6).name = some (.ref fa))
    (hl : s.heap.IsList R vs.toArray) (rd : RdAll s.heap vs (rows.map fun r => .list (r.map .int)) as) (h2 : 2 ≤ rows.flatten.length) (hsz : rows.flatten.length ≤ 1000) (hw : wd ≤ 3) :
    wpS b (model prog w) A (call (.ref fa) [.ref R, .int wd tw]) (fun v s' => Keeps s s' ∧ ∃ u, v = .bytes (rows.flatten.map (lo wd)).flatten.toArray u) s := by
  obtain ⟨a, o, pm, code, doc, e1, e2, e3, e4⟩ := T.fn (dAt 6) (ok.defs 6 (by simp))
  rw [hf] at e1
  cases e1
  refine callDef (fd := fdAt 6 pm code doc) (binds := [(Str.ofString "rows", .ref R), (Str.ofString "width", .int wd tw)]) rm (by omega) e2 e3 T.nolimit e4 rfl rfl rfl ?_ ?_ ?_
  · intro L x hx
    simp only [List.mem_cons, List.not_mem_nil, or_false] at hx
    rcases hx with rfl | rfl
    · exact .inl rfl
    · exact .inr ⟨rfl, rfl⟩
  · intro L x hx
    simp only [List.mem_cons, List.not_mem_nil, or_false] at hx
    rcases hx with rfl | rfl
    · exact .inl ⟨rfl, rfl⟩
    · exact .inr ⟨rfl, rfl⟩
  intro s₁ k₁ wf₁ has₁
  generalize hA : A.deeper _ = A₁
  have rm₁ : Rm A₁ (n + 1) := by rw [← hA]; exact rm.deeper _
  let sc1 : Scope := sc [(Str.ofString ".0", .local), (Str.ofString "row", .local), (Str.ofString "number", .cell), (Str.ofString "bytes", .globalImplicit), (Str.ofString "range", .globalImplicit), (Str.ofString "width", .free)]
  let sc2 : Scope := sc [(Str.ofString ".0", .local), (Str.ofString "k", .local), (Str.ofString "number", .free)]
  let L1 : Addr := s.heap.objs.size + 1
  have lw : (callEnvC (fdAt 6 pm code doc) s.heap.objs.size fa).kindOf (Str.ofString "width") = some .cell := rfl
  have cc1 : CC (callEnvC (fdAt 6 pm code doc) s.heap.objs.size fa) sc1 [(Str.ofString "width", L1)] := ⟨rfl, fun p hp => by rw [List.mem_singleton.mp hp]; rfl, List.pairwise_singleton _ _, rfl, by decide⟩
  have kr : ∀ C, (compE (callEnvC (fdAt 6 pm code doc) s.heap.objs.size fa) sc1 [(Str.ofString "width", L1)] C).kindOf (Str.ofString "row") = some .local := fun _ => rfl
  have kn : ∀ C, (compE (callEnvC (fdAt 6 pm code doc) s.heap.objs.size fa) sc1 [(Str.ofString "width", L1)] C).kindOf (Str.ofString "number") = some .cell := fun _ => rfl
  have kb : ∀ C, (compE (callEnvC (fdAt 6 pm code doc) s.heap.objs.size fa) sc1 [(Str.ofString "width", L1)] C).kindOf (Str.ofString "bytes") = some .globalImplicit := fun _ => rfl
  have kg : ∀ C, (compE (callEnvC (fdAt 6 pm code doc) s.heap.objs.size fa) sc1 [(Str.ofString "width", L1)] C).kindOf (Str.ofString "range") = some .globalImplicit := fun _ => rfl
  have kw : ∀ C, (compE (callEnvC (fdAt 6 pm code doc) s.heap.objs.size fa) sc1 [(Str.ofString "width", L1)] C).kindOf (Str.ofString "width") = some .cell := fun _ => rfl
  have cw : ∀ C, (compE (callEnvC (fdAt 6 pm code doc) s.heap.objs.size fa) sc1 [(Str.ofString "width", L1)] C).cells.lookup (Str.ofString "width") = (callEnvC (fdAt 6 pm code doc) s.heap.objs.size fa).cells.lookup (Str.ofString "width") := fun _ => rfl
  have cn : ∀ C, (compE (callEnvC (fdAt 6 pm code doc) s.heap.objs.size fa) sc1 [(Str.ofString "width", L1)] C).cells.lookup (Str.ofString "number") = some (C + 1) := fun _ => rfl
  have cc2 : ∀ C, CC (compE (callEnvC (fdAt 6 pm code doc) s.heap.objs.size fa) sc1 [(Str.ofString "width", L1)] C) sc2 [(Str.ofString "number", C + 1)] := fun C => ⟨rfl, fun p hp => by
    simp only [List.mem_cons, List.not_mem_nil, or_false] at hp
    rcases hp with rfl; rfl, by first | exact List.pairwise_singleton _ _ | exact List.Pairwise.cons (fun p hp => by rw [List.mem_singleton.mp hp]; show Str.ofString "width" ≠ Str.ofString "number"; decide) (List.pairwise_singleton _ _), rfl, by decide⟩
  have jk : ∀ C C', (compE (compE (callEnvC (fdAt 6 pm code doc) s.heap.objs.size fa) sc1 [(Str.ofString "width", L1)] C) sc2 [(Str.ofString "number", C + 1)] C').kindOf (Str.ofString "k") = some .local := fun _ _ => rfl
  have jn : ∀ C C', (compE (compE (callEnvC (fdAt 6 pm code doc) s.heap.objs.size fa) sc1 [(Str.ofString "width", L1)] C) sc2 [(Str.ofString "number", C + 1)] C').kindOf (Str.ofString "number") = some .cell := fun _ _ => rfl
  have jc : ∀ C C', (compE (compE (callEnvC (fdAt 6 pm code doc) s.heap.objs.size fa) sc1 [(Str.ofString "width", L1)] C) sc2 [(Str.ofString "number", C + 1)] C').cells.lookup (Str.ofString "number") = (compE (callEnvC (fdAt 6 pm code doc) s.heap.objs.size fa) sc1 [(Str.ofString "width", L1)] C).cells.lookup (Str.ofString "number") := fun _ _ => rfl
  have gl : (callEnvC (fdAt 6 pm code doc) s.heap.objs.size fa).globals = mainGlobals := rfl
  have bl : (callEnvC (fdAt 6 pm code doc) s.heap.objs.size fa).builtins = builtinsNs := rfl
  generalize callEnvC (fdAt 6 pm code doc) s.heap.objs.size fa = env at *
  have fn : env.scope.kind = .function := wf₁.fn
  have hr : Has s₁.heap env (Str.ofString "rows") (.ref R) := has₁ _ (.head _)
  have hwid : Has s₁.heap env (Str.ofString "width") (.int wd tw) := has₁ _ (.tail _ (.head _))
  have en₁ : En q mean mg mb s₁.heap env := ⟨T.keeps (kp_k k₁), ok, fn, gl, bl⟩
  have hl₁ : s₁.heap.IsList R vs.toArray := hl.at fun o e => kp_k k₁ R o e
  have rd₁ := rd.keeps (kp_k k₁)
  refine wpS.execs_cons (returnS (wpS.of_any ?_))
  refine MethodCall_ (Constant_bytes (join_method (callWith_method1 (args_cons (wpS.any ?_)))))
  refine ev_comp2 (s := { s₁ with toks := s₁.toks + 1 }) (scope := sc1) (cl := [(Str.ofString "width", L1)]) (lo wd) rm₁.handled wf₁ cc1 hr hl₁ rd₁ (Nat.le_trans hsz (by decide)) kr (fun C => .inr ⟨kn C, by rw [cn C]; rfl⟩)
    (fun C => by rw [slotOf, if_neg (by rw [kn C]; decide), cn C]; exact Nat.le_succ C) (by decide) ?_ ?_
  · intro x t C s₃ hx k₃ wf₃ hnum tr₃
    have hnum' := hnum
    have hwid₃ := tr₃ _ _ hwid (kw C) lw (cw C)
    have en₃ : En q mean mg mb s₃.heap (compE env sc1 [(Str.ofString "width", L1)] C) := en₁.comp (kp_k k₃) rfl
    have fn₃ := en₃.fn
    have gl₃ := en₃.gl
    have bl₃ := en₃.bl
    refine callExprS (ev_builtin en₃.top fn₃ gl₃ bl₃ (kb C) (ok.free _ (by simp)) boot_bytes' (callS_type (args_cons (wpS.any ?_))))
    refine ev_comp (P := fun i v => ∃ t, v = .int ((0 : Int) + i * 1) t) (n := wd) (scope := sc2) (cl := [(Str.ofString "number", C + 1)]) (fun (k : Nat) => .int ((x.fdiv (256 ^ (k : Nat))).fmod 256)) wf₃ (cc2 C) (Nat.le_trans hw (by decide)) ?_ (fun C' => .inl (jk C C')) (fun C' => by rw [slot_local (jk C C')]; exact Nat.le_refl _) ?_ ?_
    · refine wpS.of_any (ev_range1 en₃ (kg C) (evInt fn₃ hwid₃) fun r s₄ t₁ t₂ t₃ hr₄ k₄ => ⟨k₄, ?_⟩)
      exact src_range rm₁.handled hr₄ (small_one (by omega) (by omega) (by omega) (by omega)) (size_one wd)
    · intro i v C' s₄ hi hP k₄ wf₄ hk₄ tr₄
      obtain ⟨tk, rfl⟩ := hP
      have hn₄ := tr₄ _ _ hnum (jn C C') (kn C) (jc C C')
      have fn₄ := wf₄.fn
      have ee : ((0 : Int) + (i : Int) * 1) = (i : Int) := by omega
      rw [ee] at hk₄
      have small := pow_small (k := i) (by omega)
      refine wpS.of_any ((evMod (evDiv (j := 256 ^ i) (evInt fn₄ hn₄) (evPow evConst (evInt fn₄ hk₄) (by omega) (by rw [bits256]; omega)) small.1 small.2) evConst (by decide)).at (fun _ _ e => e) fun v k hv => ?_)
      obtain ⟨tv, rfl⟩ := hv
      exact ⟨kp_tok _, [], .int _ _, fun _ h => nomatch h⟩
    · intro v s₄ as' k₄ rd₄ fr₄
      obtain ⟨l, us, bs, rfl, hlu, rdu, _⟩ := rd₄.list_inv
      refine args_nil ?_
      have ea : (List.range wd).map (fun (k : Nat) => Dt.int ((x.fdiv (256 ^ (k : Nat))).fmod 256)) = ((List.range wd).map fun (k : Nat) => (x.fdiv (256 ^ (k : Nat))).fmod 256).map .int := by rw [List.map_map]; rfl
      rw [ea] at rdu
      obtain ⟨ia, _⟩ := rdu.ints
      refine wpS.of_any (call_bytes_ints hlu ia (fun m hm => ?_) ?_ rm₁.handled fun h' t' k' kp' => ⟨kp_trans k₄ (kp_of kp'), t', ?_⟩)
      · obtain ⟨k, _, rfl⟩ := List.mem_map.mp hm
        exact fmod_low _
      · rw [rdu.length, List.length_map, List.length_map, List.length_range]; exact Nat.le_trans hw (by decide)
      · congr 1
        unfold byteArr lo
        rw [List.map_map]; rfl
  · intro D us s₂ k₂ hD hus nD
    refine args_nil ?_
    have hwl : ∀ l ∈ rows.flatten.map (lo wd), l.length = wd := fun l hl => by obtain ⟨x, _, rfl⟩ := List.mem_map.mp hl; simp [lo]
    have hfl := flat_length hwl
    rw [List.length_map] at hfl
    have hle : rows.flatten.length * wd ≤ 1000 * 3 := Nat.mul_le_mul hsz hw
    refine join_call hD hus (by rw [hfl]; omega) (by rw [List.length_map]; exact h2) fun t k => ⟨kp_trans k₁ (kp_trans (kp_tok _) (kp_trans k₂ (kp_tok k))), t, rfl⟩
set_option maxHeartbeats 2000000 in
theorem high_spec {n : Nat} {fa R : Addr} {vs : List Value} {rows : List (List Int)} {as : List Addr} {wd : Nat} {tw : Tok} (rm : Rm A n) (hn : n ≤ 90) (ok : Ok q mg) (T : Gd q mean mg mb s.heap) (hf : mg (dAt 7).name = some (.ref fa))
    (hl : s.heap.IsList R vs.toArray) (rd : RdAll s.heap vs (rows.map fun r => .list (r.map .int)) as) (h2 : 2 ≤ rows.flatten.length) (hsz : rows.flatten.length ≤ 1000) (hw : wd ≤ 3) :
    wpS b (model prog w) A (call (.ref fa) [.ref R, .int wd tw]) (fun v s' => Keeps s s' ∧ ∃ u, v = .bytes (rows.flatten.map (hi wd)).flatten.toArray u) s := by
  obtain ⟨a, o, pm, code, doc, e1, e2, e3, e4⟩ := T.fn (dAt 7) (ok.defs 7 (by simp))
  rw [hf] at e1
  cases e1
  refine callDef (fd := fdAt 7 pm code doc) (binds := [(Str.ofString "rows", .ref R), (Str.ofString "width", .int wd tw)]) rm (by omega) e2 e3 T.nolimit e4 rfl rfl rfl ?_ ?_ ?_
  · intro L x hx
    simp only [List.mem_cons, List.not_mem_nil, or_false] at hx
    rcases hx with rfl | rfl
    · exact .inl rfl
    · exact .inr ⟨rfl, rfl⟩
  · intro L x hx
    simp only [List.mem_cons, List.not_mem_nil, or_false] at hx
    rcases hx with rfl | rfl
    · exact .inl ⟨rfl, rfl⟩
    · exact .inr ⟨rfl, rfl⟩
  intro s₁ k₁ wf₁ has₁
  generalize hA : A.deeper _ = A₁
  have rm₁ : Rm A₁ (n + 1) := by rw [← hA]; exact rm.deeper _
  let sc1 : Scope := sc [(Str.ofString ".0", .local), (Str.ofString "row", .local), (Str.ofString "number", .cell), (Str.ofString "bytes", .globalImplicit), (Str.ofString "range", .globalImplicit), (Str.ofString "width", .free)]
  let sc2 : Scope := sc [(Str.ofString ".0", .local), (Str.ofString "k", .local), (Str.ofString "number", .free), (Str.ofString "width", .free)]
  let L1 : Addr := s.heap.objs.size + 1
  have lw : (callEnvC (fdAt 7 pm code doc) s.heap.objs.size fa).kindOf (Str.ofString "width") = some .cell := rfl
  have cc1 : CC (callEnvC (fdAt 7 pm code doc) s.heap.objs.size fa) sc1 [(Str.ofString "width", L1)] := ⟨rfl, fun p hp => by rw [List.mem_singleton.mp hp]; rfl, List.pairwise_singleton _ _, rfl, by decide⟩
  have kr : ∀ C, (compE (callEnvC (fdAt 7 pm code doc) s.heap.objs.size fa) sc1 [(Str.ofString "width", L1)] C).kindOf (Str.ofString "row") = some .local := fun _ => rfl
  have kn : ∀ C, (compE (callEnvC (fdAt 7 pm code doc) s.heap.objs.size fa) sc1 [(Str.ofString "width", L1)] C).kindOf (Str.ofString "number") = some .cell := fun _ => rfl
  have kb : ∀ C, (compE (callEnvC (fdAt 7 pm code doc) s.heap.objs.size fa) sc1 [(Str.ofString "width", L1)] C).kindOf (Str.ofString "bytes") = some .globalImplicit := fun _ => rfl
  have kg : ∀ C, (compE (callEnvC (fdAt 7 pm code doc) s.heap.objs.size fa) sc1 [(Str.ofString "width", L1)] C).kindOf (Str.ofString "range") = some .globalImplicit := fun _ => rfl
  have kw : ∀ C, (compE (callEnvC (fdAt 7 pm code doc) s.heap.objs.size fa) sc1 [(Str.ofString "width", L1)] C).kindOf (Str.ofString "width") = some .cell := fun _ => rfl
  have cw : ∀ C, (compE (callEnvC (fdAt 7 pm code doc) s.heap.objs.size fa) sc1 [(Str.ofString "width", L1)] C).cells.lookup (Str.ofString "width") = (callEnvC (fdAt 7 pm code doc) s.heap.objs.size fa).cells.lookup (Str.ofString "width") := fun _ => rfl
  have cn : ∀ C, (compE (callEnvC (fdAt 7 pm code doc) s.heap.objs.size fa) sc1 [(Str.ofString "width", L1)] C).cells.lookup (Str.ofString "number") = some (C + 1) := fun _ => rfl
  have cc2 : ∀ C, CC (compE (callEnvC (fdAt 7 pm code doc) s.heap.objs.size fa) sc1 [(Str.ofString "width", L1)] C) sc2 [(Str.ofString "width", L1), (Str.ofString "number", C + 1)] := fun C => ⟨rfl, fun p hp => by
    simp only [List.mem_cons, List.not_mem_nil, or_false] at hp
    rcases hp with rfl | rfl <;> rfl, by first | exact List.pairwise_singleton _ _ | exact List.Pairwise.cons (fun p hp => by rw [List.mem_singleton.mp hp]; show Str.ofString "width" ≠ Str.ofString "number"; decide) (List.pairwise_singleton _ _), rfl, by decide⟩
  have jk : ∀ C C', (compE (compE (callEnvC (fdAt 7 pm code doc) s.heap.objs.size fa) sc1 [(Str.ofString "width", L1)] C) sc2 [(Str.ofString "width", L1), (Str.ofString "number", C + 1)] C').kindOf (Str.ofString "k") = some .local := fun _ _ => rfl
  have jn : ∀ C C', (compE (compE (callEnvC (fdAt 7 pm code doc) s.heap.objs.size fa) sc1 [(Str.ofString "width", L1)] C) sc2 [(Str.ofString "width", L1), (Str.ofString "number", C + 1)] C').kindOf (Str.ofString "number") = some .cell := fun _ _ => rfl
  have jc : ∀ C C', (compE (compE (callEnvC (fdAt 7 pm code doc) s.heap.objs.size fa) sc1 [(Str.ofString "width", L1)] C) sc2 [(Str.ofString "width", L1), (Str.ofString "number", C + 1)] C').cells.lookup (Str.ofString "number") = (compE (callEnvC (fdAt 7 pm code doc) s.heap.objs.size fa) sc1 [(Str.ofString "width", L1)] C).cells.lookup (Str.ofString "number") := fun _ _ => rfl
  have jw : ∀ C C', (compE (compE (callEnvC (fdAt 7 pm code doc) s.heap.objs.size fa) sc1 [(Str.ofString "width", L1)] C) sc2 [(Str.ofString "width", L1), (Str.ofString "number", C + 1)] C').kindOf (Str.ofString "width") = some .cell := fun _ _ => rfl
  have jv : ∀ C C', (compE (compE (callEnvC (fdAt 7 pm code doc) s.heap.objs.size fa) sc1 [(Str.ofString "width", L1)] C) sc2 [(Str.ofString "width", L1), (Str.ofString "number", C + 1)] C').cells.lookup (Str.ofString "width") = (compE (callEnvC (fdAt 7 pm code doc) s.heap.objs.size fa) sc1 [(Str.ofString "width", L1)] C).cells.lookup (Str.ofString "width") := fun _ _ => rfl
  have gl : (callEnvC (fdAt 7 pm code doc) s.heap.objs.size fa).globals = mainGlobals := rfl
  have bl : (callEnvC (fdAt 7 pm code doc) s.heap.objs.size fa).builtins = builtinsNs := rfl
  generalize callEnvC (fdAt 7 pm code doc) s.heap.objs.size fa = env at *
  have fn : env.scope.kind = .function := wf₁.fn
  have hr : Has s₁.heap env (Str.ofString "rows") (.ref R) := has₁ _ (.head _)
  have hwid : Has s₁.heap env (Str.ofString "width") (.int wd tw) := has₁ _ (.tail _ (.head _))
  have en₁ : En q mean mg mb s₁.heap env := ⟨T.keeps (kp_k k₁), ok, fn, gl, bl⟩
  have hl₁ : s₁.heap.IsList R vs.toArray := hl.at fun o e => kp_k k₁ R o e
  have rd₁ := rd.keeps (kp_k k₁)
  refine wpS.execs_cons (returnS (wpS.of_any ?_))
  refine MethodCall_ (Constant_bytes (join_method (callWith_method1 (args_cons (wpS.any ?_)))))
  refine ev_comp2 (s := { s₁ with toks := s₁.toks + 1 }) (scope := sc1) (cl := [(Str.ofString "width", L1)]) (hi wd) rm₁.handled wf₁ cc1 hr hl₁ rd₁ (Nat.le_trans hsz (by decide)) kr (fun C => .inr ⟨kn C, by rw [cn C]; rfl⟩)
    (fun C => by rw [slotOf, if_neg (by rw [kn C]; decide), cn C]; exact Nat.le_succ C) (by decide) ?_ ?_
  · intro x t C s₃ hx k₃ wf₃ hnum tr₃
    have hnum' := hnum
    have hwid₃ := tr₃ _ _ hwid (kw C) lw (cw C)
    have en₃ : En q mean mg mb s₃.heap (compE env sc1 [(Str.ofString "width", L1)] C) := en₁.comp (kp_k k₃) rfl
    have fn₃ := en₃.fn
    have gl₃ := en₃.gl
    have bl₃ := en₃.bl
    refine callExprS (ev_builtin en₃.top fn₃ gl₃ bl₃ (kb C) (ok.free _ (by simp)) boot_bytes' (callS_type (args_cons (wpS.any ?_))))
    refine ev_comp (P := fun i v => ∃ t, v = .int ((0 : Int) + i * 1) t) (n := wd) (scope := sc2) (cl := [(Str.ofString "width", L1), (Str.ofString "number", C + 1)]) (fun (k : Nat) => .int ((x.fdiv (256 ^ ((wd : Int) - 1 - k).toNat)).fmod 256)) wf₃ (cc2 C) (Nat.le_trans hw (by decide)) ?_ (fun C' => .inl (jk C C')) (fun C' => by rw [slot_local (jk C C')]; exact Nat.le_refl _) ?_ ?_
    · refine wpS.of_any (ev_range1 en₃ (kg C) (evInt fn₃ hwid₃) fun r s₄ t₁ t₂ t₃ hr₄ k₄ => ⟨k₄, ?_⟩)
      exact src_range rm₁.handled hr₄ (small_one (by omega) (by omega) (by omega) (by omega)) (size_one wd)
    · intro i v C' s₄ hi hP k₄ wf₄ hk₄ tr₄
      obtain ⟨tk, rfl⟩ := hP
      have hn₄ := tr₄ _ _ hnum (jn C C') (kn C) (jc C C')
      have hw₄ := tr₄ _ _ hwid₃ (jw C C') (kw C) (jv C C')
      have fn₄ := wf₄.fn
      have ee : ((0 : Int) + (i : Int) * 1) = (i : Int) := by omega
      rw [ee] at hk₄
      have small := pow_small (k := ((wd : Int) - 1 - i).toNat) (by omega)
      refine wpS.of_any ((evMod (evDiv (j := 256 ^ ((wd : Int) - 1 - i).toNat) (evInt fn₄ hn₄) (evPow evConst (evSub (evSub (evInt fn₄ hw₄) evConst) (evInt fn₄ hk₄)) (by omega) (by rw [bits256]; omega)) small.1 small.2) evConst (by decide)).at (fun _ _ e => e) fun v k hv => ?_)
      obtain ⟨tv, rfl⟩ := hv
      exact ⟨kp_tok _, [], .int _ _, fun _ h => nomatch h⟩
    · intro v s₄ as' k₄ rd₄ fr₄
      obtain ⟨l, us, bs, rfl, hlu, rdu, _⟩ := rd₄.list_inv
      refine args_nil ?_
      have ea : (List.range wd).map (fun (k : Nat) => Dt.int ((x.fdiv (256 ^ ((wd : Int) - 1 - k).toNat)).fmod 256)) = ((List.range wd).map fun (k : Nat) => (x.fdiv (256 ^ ((wd : Int) - 1 - k).toNat)).fmod 256).map .int := by rw [List.map_map]; rfl
      rw [ea] at rdu
      obtain ⟨ia, _⟩ := rdu.ints
      refine wpS.of_any (call_bytes_ints hlu ia (fun m hm => ?_) ?_ rm₁.handled fun h' t' k' kp' => ⟨kp_trans k₄ (kp_of kp'), t', ?_⟩)
      · obtain ⟨k, _, rfl⟩ := List.mem_map.mp hm
        exact fmod_low _
      · rw [rdu.length, List.length_map, List.length_map, List.length_range]; exact Nat.le_trans hw (by decide)
      · congr 1
        unfold byteArr hi
        rw [List.map_map]; rfl
  · intro D us s₂ k₂ hD hus nD
    refine args_nil ?_
    have hwl : ∀ l ∈ rows.flatten.map (hi wd), l.length = wd := fun l hl => by obtain ⟨x, _, rfl⟩ := List.mem_map.mp hl; simp [hi]
    have hfl := flat_length hwl
    rw [List.length_map] at hfl
    have hle : rows.flatten.length * wd ≤ 1000 * 3 := Nat.mul_le_mul hsz hw
    refine join_call hD hus (by rw [hfl]; omega) (by rw [List.length_map]; exact h2) fun t k => ⟨kp_trans k₁ (kp_trans (kp_tok _) (kp_trans k₂ (kp_tok k))), t, rfl⟩
end
end Nq
end NqOctPart

section NqArgsPart
open PySem PySem.W PySem.Calls PyProof.Rows
set_option linter.unusedVariables false
set_option maxRecDepth 100000
namespace Nq
section
variable {b : Bool} {prog : Program} {w : World} {A : Around} {s : Shared} {env : Env} {M : Model} {q : Program} {mean : ExcName → Option Value} {mg mb : Str → Option Value}
theorem argsS_nil {pos : Pos} {Q : List Value → Shared → Prop} (h : Q [] s) : wpS b M A (spliced (backTo pos (starEach [] env))) Q s := wpS.of_any (args_nil h)
theorem splicedS {x : Sem Value} {rest : List (Bool × Sem Value)} {Q : List Value → Shared → Prop}
    (h : wpS b M A x (fun v s₁ => wpS b M A (spliced rest) (fun vs s₂ => Q (v :: vs) s₂) s₁) s) : wpS b M A (spliced ((false, x) :: rest)) Q s := by
  rw [spliced]
  refine wpS.bind (h.mono fun v s₁ h₁ => ?_)
  simp only [Bool.false_eq_true, if_false]
  exact wpS.bind (wpS.pure (wpS.bind (wpS.holding (h₁.mono fun vs s₂ h₂ => wpS.pure h₂))))
theorem argsS_cons {e : Expr} {rest : List Expr} {pos : Pos} {Q : List Value → Shared → Prop}
    (h : wpS b M A (eval e env) (fun v s₁ => wpS b M A (spliced (backTo pos (starEach rest env))) (fun vs s₂ => Q (v :: vs) s₂) s₁) s)
    (he : starEach (e :: rest) env = (false, eval e env) :: starEach rest env := by rfl) : wpS b M A (spliced (backTo pos (starEach (e :: rest) env))) Q s := by
  rw [he]; exact splicedS h
theorem evalArgsB {f : Value} {e : Expr} {rest : List Expr} {pos : Pos} {Q : Args → Shared → Prop}
    (h : wpS b M A (spliced (backTo pos (starEach (e :: rest) env))) (fun vs s' => Q ⟨vs, []⟩ s') s) (he : starEach (e :: rest) env = (false, eval e env) :: starEach rest env) :
    wpS b M A (evalArgs f true (backTo pos (starEach (e :: rest) env)) []) Q s := by
  rw [he] at h ⊢
  unfold evalArgs
  show wpS b M A (spliced ((false, eval e env) :: backTo pos (starEach rest env)) >>= _) Q s
  refine wpS.bind (h.mono fun vs s' h' => ?_)
  exact wpS.holding (wpS.bind (wpS.pure (wpS.bind (wpS.pure (wpS.pure h')))))
theorem callB_fn {pos : Pos} {a : Addr} {e : Expr} {rest : List Expr} {Q : Value → Shared → Prop}
    (h : wpS b M A (spliced (backTo pos (starEach (e :: rest) env))) (fun vs s₁ => (∃ o fd, s₁.heap.get? a = some o ∧ o.data = .func fd) ∧ wpS b M A (call (.ref a) vs) Q s₁) s)
    (he : starEach (e :: rest) env = (false, eval e env) :: starEach rest env := by rfl)
    (hplain : (backTo pos (starEach (e :: rest) env)).any (·.1) = false := by rfl) :
    wpS b M A (callWith pos (.ref a) [] (backTo pos (starEach (e :: rest) env)) []) Q s := by
  unfold callWith
  refine wpS.bind (wpS.holding (evalArgsB (h.mono fun vs s₁ h₁ => ?_) he))
  obtain ⟨⟨o, fd, ho, hd⟩, h₁⟩ := h₁
  have tail : ∀ {t : Sem Value}, wpS b M A t Q s₁ → wpS b M A (t >>= fun r => holding [r] point >>= fun _ => Pure.pure r) Q s₁ :=
    fun ht => wpS.bind (ht.mono fun r s₂ hr => wpS.bindAny (wpAny_holding (wpAny_point (wpS.pure hr))))
  refine wpS.bind (wpS.standAt ?_)
  simp only [hplain, List.any_nil, Bool.or_false]
  refine wpS.bindAny (m := keeperOf (.ref a)) ?_
  unfold keeperOf
  refine wpAny_bind (wpAny_load ho ?_)
  rw [hd]
  refine wpAny_pure ?_
  dsimp only
  split
  · exact tail h₁
  · exact tail (wpS.keep h₁)
theorem callB_builtin {pos : Pos} {id : String} {first : List Value} {e : Expr} {rest : List Expr} {Q : Value → Shared → Prop}
    (h : wpS b M A (spliced (backTo pos (starEach (e :: rest) env))) (fun vs s₁ => wpS b M A (call (.builtin id) (first ++ vs)) Q s₁) s)
    (he : starEach (e :: rest) env = (false, eval e env) :: starEach rest env := by rfl)
    (hplain : (backTo pos (starEach (e :: rest) env)).any (·.1) = false := by rfl) :
    wpS b M A (callWith pos (.builtin id) first (backTo pos (starEach (e :: rest) env)) []) Q s := by
  unfold callWith
  refine wpS.bind (wpS.holding (evalArgsB (h.mono fun vs s₁ h₁ => ?_) he))
  refine wpS.bind (wpS.standAt ?_)
  simp only [hplain, List.any_nil, Bool.or_false]
  refine wpS.bind (wpS.pure ?_)
  exact wpS.bind (h₁.mono fun r s₂ hr => wpS.bindAny (wpAny_holding (wpAny_point (wpS.pure hr))))
theorem methodS {o : Expr} {name : Str} {apos pos : Pos} {args : List Expr} {pl : Sem Bool} {Q : Value → Shared → Prop}
    (h : wpS b M A (eval o env) (fun ov s₁ => wpS b M A (getMethod ov name pl) (fun fx s₂ => wpS b M A (callWith pos fx.1 fx.2 (backTo pos (starEach args env)) []) Q s₂) s₁) s)
    (he : eval (.Call (.Attribute o name apos) args [] pos) env = (do
      let ov ← eval o env
      standAt apos.atName
      let (f, first) ← holding [ov] (getMethod ov name pl)
      callWith pos f first (backTo pos (starEach args env)) []) := by rfl) :
    wpS b M A (eval (.Call (.Attribute o name apos) args [] pos) env) Q s := by
  rw [he]
  exact wpS.bind (h.mono fun ov s₁ h₁ => wpS.bind (wpS.standAt (wpS.bind (wpS.holding (h₁.mono fun fx s₂ h₂ => h₂)))))
theorem exprS {e : Expr} {pos : Pos} {Q : Flow → Shared → Prop} (h : wpS b (model prog w) A (eval e env) (fun v s' => v = .none ∧ Q .next s') s)
    (hi : interactive env = false := by rfl) (hs : swapsWith e none pos.line env = Pure.pure false := by rfl) : wpS b (model prog w) A (exec (.Expr e pos) env) Q s := by
  rw [exec_Expr env e pos hi hs]
  refine wpS.bind (wpS.standAt (wpS.bind (h.mono fun v s' h' => ?_)))
  obtain ⟨rfl, h'⟩ := h'
  rw [dropValue_plain (by intro a ha; cases ha)]
  exact wpS.pure h'
theorem appendS {x : Str} {p apos cpos pos : Pos} {e : Expr} {D : Addr} {its : Array Value} {Q : Flow → Shared → Prop} (fn : env.scope.kind = .function) (y : Has s.heap env x (.ref D)) (pl : PlainL s.heap D its)
    (h : wpS b (model prog w) A (eval e env) (fun v s₁ => ∃ its, PlainL s₁.heap D its ∧ its.size ≤ sizeLine ∧ ∀ h', PlainL h' D (its.push v) → Heap.SameBut D s₁.heap h' → Q .next { s₁ with heap := h' }) s)
    (pf : Sem Bool)
    (hc : eval (.Call (.Attribute (.Name x p) "append" apos) [e] [] cpos) env = (do
      let ov ← eval (.Name x p) env
      standAt apos.atName
      let (f, first) ← holding [ov] (getMethod ov "append" pf)
      callWith cpos f first (backTo cpos (starEach [e] env)) []) := by rfl) (he : starEach [e] env = (false, eval e env) :: starEach [] env := by rfl)
    (hi : interactive env = false := by rfl) (hs : swapsWith (.Call (.Attribute (.Name x p) "append" apos) [e] [] cpos) none pos.line env = Pure.pure false := by rfl) (hd : (x == ("__debug__" : Str)) = false := by decide) :
    wpS b (model prog w) A (exec (.Expr (.Call (.Attribute (.Name x p) "append" apos) [e] [] cpos) pos) env) Q s := by
  obtain ⟨ob, n, hob, hcl, hdi, _⟩ := id pl
  refine exprS (methodS (pl := pf) (wpS.of_any (ev_name fn y ?_ hd)) hc) hi hs
  refine wpS.of_any (Calls.getMethod_list_append hob hcl hdi ?_)
  refine callB_builtin (argsS_cons (h.mono fun v s₁ h₁ => argsS_nil ?_) he) he (by rw [he]; rfl)
  obtain ⟨its', p₁, hz, h₁⟩ := h₁
  exact wpS.of_any (list_append_plainL p₁ (hsz := hz) fun h' a b => ⟨rfl, h₁ h' a b⟩)
/-- a def of the text stands -/
theorem fnLive {h : Heap} {k : Nat} {fa : Addr} (T : Gd q mean mg mb h) (hd : dAt k ∈ recsOf q) (hf : mg (dAt k).name = some (.ref fa)) : ∃ o fd, h.get? fa = some o ∧ o.data = .func fd := by
  obtain ⟨a, o, pm, code, doc, h1, h2, h3, _⟩ := T.fn (dAt k) hd
  rw [hf] at h1
  cases h1
  exact ⟨o, _, h2, h3⟩
theorem ev_def1 {f : Str} {fa : Addr} {p pos : Pos} {e₁ : Expr} {P₁ : Value → Prop} {Q : Value → Shared → Prop} (en : En q mean mg mb s.heap env) (hx : env.kindOf f = some .globalImplicit) (hf : mg f = some (.ref fa)) (lv : ∃ o fd, s.heap.get? fa = some o ∧ o.data = .func fd)
    (x : EvV prog w A s.heap env e₁ P₁) (g : ∀ u k, P₁ u → wpS b (model prog w) A (call (.ref fa) [u]) Q { s with toks := k }) (hd : (f == ("__debug__" : Str)) = false := by decide)
    (he : starEach [e₁] env = (false, eval e₁ env) :: starEach [] env := by rfl)
    (hc : eval (.Call (.Name f p) [e₁] [] pos) env = (do callWith pos (← eval (.Name f p) env) [] (backTo pos (starEach [e₁] env)) (backToKw pos (keywordEach [] env))) := by rfl) :
    wpS b (model prog w) A (eval (.Call (.Name f p) [e₁] [] pos) env) Q s :=
  callExprS (ev_global en.top en.fn en.gl hx hf (callB_fn (argsS_cons (wpS.of_any (x.at (fun _ _ e => e) fun u k hu => argsS_nil ⟨lv, g u k hu⟩)) he) he (by rw [he]; rfl)) hd) hc
theorem ev_def2 {f : Str} {fa : Addr} {p pos : Pos} {e₁ e₂ : Expr} {P₁ P₂ : Value → Prop} {Q : Value → Shared → Prop} (en : En q mean mg mb s.heap env) (hx : env.kindOf f = some .globalImplicit) (hf : mg f = some (.ref fa)) (lv : ∃ o fd, s.heap.get? fa = some o ∧ o.data = .func fd)
    (x : EvV prog w A s.heap env e₁ P₁) (y : EvV prog w A s.heap env e₂ P₂) (g : ∀ u v k, P₁ u → P₂ v → wpS b (model prog w) A (call (.ref fa) [u, v]) Q { s with toks := k }) (hd : (f == ("__debug__" : Str)) = false := by decide)
    (he : starEach [e₁, e₂] env = (false, eval e₁ env) :: starEach [e₂] env := by rfl) (he₂ : starEach [e₂] env = (false, eval e₂ env) :: starEach [] env := by rfl)
    (hc : eval (.Call (.Name f p) [e₁, e₂] [] pos) env = (do callWith pos (← eval (.Name f p) env) [] (backTo pos (starEach [e₁, e₂] env)) (backToKw pos (keywordEach [] env))) := by rfl)
    (hp : (backTo pos (starEach [e₁, e₂] env)).any (·.1) = false := by rfl) :
    wpS b (model prog w) A (eval (.Call (.Name f p) [e₁, e₂] [] pos) env) Q s :=
  callExprS (ev_global en.top en.fn en.gl hx hf (callB_fn (argsS_cons (wpS.of_any (x.at (fun _ _ e => e) fun u k hu => argsS_cons (wpS.of_any (y { s with toks := k } (fun _ _ e => e) _ _ fun v k' hv => argsS_nil ⟨lv, g u v k' hu hv⟩)) he₂)) he) he hp) hd) hc
theorem ev_def3 {f : Str} {fa : Addr} {p pos : Pos} {e₁ e₂ e₃ : Expr} {P₁ P₂ P₃ : Value → Prop} {Q : Value → Shared → Prop} (en : En q mean mg mb s.heap env) (hx : env.kindOf f = some .globalImplicit) (hf : mg f = some (.ref fa)) (lv : ∃ o fd, s.heap.get? fa = some o ∧ o.data = .func fd)
    (x : EvV prog w A s.heap env e₁ P₁) (y : EvV prog w A s.heap env e₂ P₂) (z : EvV prog w A s.heap env e₃ P₃) (g : ∀ u v z k, P₁ u → P₂ v → P₃ z → wpS b (model prog w) A (call (.ref fa) [u, v, z]) Q { s with toks := k }) (hd : (f == ("__debug__" : Str)) = false := by decide)
    (he : starEach [e₁, e₂, e₃] env = (false, eval e₁ env) :: starEach [e₂, e₃] env := by rfl) (he₂ : starEach [e₂, e₃] env = (false, eval e₂ env) :: starEach [e₃] env := by rfl) (he₃ : starEach [e₃] env = (false, eval e₃ env) :: starEach [] env := by rfl)
    (hc : eval (.Call (.Name f p) [e₁, e₂, e₃] [] pos) env = (do callWith pos (← eval (.Name f p) env) [] (backTo pos (starEach [e₁, e₂, e₃] env)) (backToKw pos (keywordEach [] env))) := by rfl)
    (hp : (backTo pos (starEach [e₁, e₂, e₃] env)).any (·.1) = false := by rfl) :
    wpS b (model prog w) A (eval (.Call (.Name f p) [e₁, e₂, e₃] [] pos) env) Q s :=
  callExprS (ev_global en.top en.fn en.gl hx hf (callB_fn (argsS_cons (wpS.of_any (x.at (fun _ _ e => e) fun u k hu => argsS_cons (wpS.of_any (y { s with toks := k } (fun _ _ e => e) _ _ fun v k' hv => argsS_cons (wpS.of_any (z { s with toks := k' } (fun _ _ e => e) _ _ fun v' k'' hv' => argsS_nil ⟨lv, g u v v' k'' hu hv hv'⟩)) he₃)) he₂)) he) he hp) hd) hc
end
end Nq
end NqArgsPart

section NqToldPart
open PySem PySem.W PySem.Calls PyProof.Rows
set_option linter.unusedVariables false
set_option maxRecDepth 100000
namespace Nq
def at2 (rows : List (List Int)) (k c : Nat) : Int := (rows.getD k []).getD c 0
def midRow (rows : List (List Int)) (j : Nat) : List Int := (List.range (rows.getD (j + 1) []).length).map fun c => mid (at2 rows j c) (at2 rows (j + 1) c) (at2 rows (j + 2) c)
/-- the rows one pass on -/
def told (rows : List (List Int)) : List (List Int) := [rows.getD 0 []] ++ (List.range (rows.length - 2)).map (midRow rows) ++ [rows.getD (rows.length - 1) []]
theorem rowAt {h : Heap} {vs : List Value} {rows : List (List Int)} {as : List Addr} (rd : RdAll h vs (rows.map fun r => .list (r.map .int)) as) {k : Nat} (hk : k < rows.length) :
    ∃ a us bs, vs[k]? = some (.ref a) ∧ h.IsList a us.toArray ∧ IntsAre us (rows.getD k []) ∧ Rd h (.ref a) (.list ((rows.getD k []).map .int)) bs ∧ ∀ b ∈ bs, b ∈ as := by
  have e : rows.getD k [] = rows[k] := by rw [List.getD_eq_getElem?_getD, List.getElem?_eq_getElem hk]; rfl
  obtain ⟨v, bs, hv, r, hb⟩ := rd.at k (.list (rows[k].map .int)) (by rw [List.getElem?_map, List.getElem?_eq_getElem hk]; rfl)
  obtain ⟨a, us, cs, rfl, hl, ru, _⟩ := r.list_inv
  exact ⟨a, us, bs, hv, hl, by rw [e]; exact ru.ints.1, by rw [e]; exact r, hb⟩
theorem intAt {us : List Value} {ns : List Int} (hi : IntsAre us ns) {c : Nat} (hc : c < ns.length) : ∃ t, us[c]? = some (.int (ns.getD c 0) t) := by
  obtain ⟨v, bs, hv, r, _⟩ := (RdAll.of_ints (h := default) hi).at c (.int ns[c]) (by rw [List.getElem?_map, List.getElem?_eq_getElem hc]; rfl)
  obtain ⟨t, rfl⟩ := r.int_inv
  exact ⟨t, by rw [hv, List.getD_eq_getElem?_getD, List.getElem?_eq_getElem hc]; rfl⟩
section
variable {b : Bool} {prog : Program} {w : World} {A : Around} {s : Shared} {env : Env} {h : Heap} {q : Program} {mean : ExcName → Option Value} {mg mb : Str → Option Value} {E : Value → Shared → Prop}
theorem EvV.imp {e : Expr} {P P' : Value → Prop} (x : EvV prog w A h env e P) (f : ∀ v, P v → P' v) : EvV prog w A h env e P' := fun s ks Q E hq => x s ks Q E fun v k hv => hq v k (f v hv)
theorem evMinusOne {p₁ p₂ : Pos} : EvI prog w A h env (.UnaryOp .USub (.Constant (.int 1) 0 p₁) p₂) (-1) := fun s' ks Q E hq => by
  refine wpAny_UnaryOp (wpAny_Constant_int (PyProof.Rows.neg_int ?_))
  exact hq _ _ ⟨_, rfl⟩
theorem fnAt {k : Nat} (T : Gd q mean mg mb h) (hd : dAt k ∈ recsOf q) : ∃ fa, mg (dAt k).name = some (.ref fa) ∧ ∃ o fd, h.get? fa = some o ∧ o.data = .func fd := by
  obtain ⟨a, o, pm, code, doc, h1, h2, h3, _⟩ := T.fn (dAt k) hd
  exact ⟨a, h1, o, _, h2, h3⟩
theorem evRow {value slice : Expr} {pos : Pos} {R : Addr} {vs : List Value} {rows : List (List Int)} {as : List Addr} {k : Int} {j : Nat} (x : EvV prog w A h env value (fun u => u = .ref R)) (y : EvI prog w A h env slice k) (hl : h.IsList R vs.toArray) (rd : RdAll h vs (rows.map fun r => .list (r.map .int)) as) (hz : rows.length ≤ 1000)
    (hk : (0 ≤ k ∧ k = j) ∨ (k < 0 ∧ k + rows.length = j)) (hj : j < rows.length)
    (hs : ∀ l t, subscripted slice false (.ref l) (.int k t) = operate [.ref l, .int k t] (getItem (.ref l) (.int k t)) := by intro _ _; with_unfolding_all rfl) :
    ∃ a us bs, EvV prog w A h env (.Subscript value slice pos) (fun u => u = .ref a) ∧ h.IsList a us.toArray ∧ IntsAre us (rows.getD j []) ∧ Rd h (.ref a) (.list ((rows.getD j []).map .int)) bs ∧ ∀ b ∈ bs, b ∈ as := by
  obtain ⟨a, us, bs, hv, ha, hi, r, hb⟩ := rowAt rd hj
  have len : vs.length = rows.length := by rw [rd.length, List.length_map]
  exact ⟨a, us, bs, evItem x y hl (by omega) (by rw [len]; exact hk) hv (hs R), ha, hi, r, hb⟩
theorem evCell {value slice slice₂ : Expr} {pos pos₂ : Pos} {R : Addr} {vs : List Value} {rows : List (List Int)} {as : List Addr} {k c : Int} {j d : Nat} (x : EvV prog w A h env value (fun u => u = .ref R)) (y : EvI prog w A h env slice k) (z : EvI prog w A h env slice₂ c) (hl : h.IsList R vs.toArray) (rd : RdAll h vs (rows.map fun r => .list (r.map .int)) as) (hz : rows.length ≤ 1000)
    (hk : k = j) (hj : j < rows.length) (hc : c = d) (hd : d < (rows.getD j []).length) (hw : (rows.getD j []).length ≤ 1000)
    (hs : ∀ l t, subscripted slice false (.ref l) (.int k t) = operate [.ref l, .int k t] (getItem (.ref l) (.int k t)) := by intro _ _; with_unfolding_all rfl)
    (hs₂ : ∀ l t, subscripted slice₂ false (.ref l) (.int c t) = operate [.ref l, .int c t] (getItem (.ref l) (.int c t)) := by intro _ _; with_unfolding_all rfl) :
    EvI prog w A h env (.Subscript (.Subscript value slice pos) slice₂ pos₂) (at2 rows j d) := by
  obtain ⟨a, us, bs, ev, ha, hi, _⟩ := evRow (pos := pos) x y hl rd hz (.inl ⟨by omega, hk⟩) hj hs
  obtain ⟨t, ht⟩ := intAt hi hd
  exact (evItem (j := d) ev z ha (by rw [hi.length]; omega) (.inl ⟨by omega, hc⟩) ht (hs₂ a)).imp fun v hv => ⟨t, hv⟩
theorem add_l {l b : Addr} {vs ws : List Value} {Q : Value → Shared → Prop} (hl : s.heap.IsList l vs.toArray) (hb : s.heap.IsList b ws.toArray) (hsz : vs.length + ws.length ≤ sizeLine)
    (h : Q (.ref s.heap.objs.size) { s with heap := s.heap.push { cls := .type "list", data := .seq (vs ++ ws).toArray } }) : wpAny (model prog w) A (binaryOp .Add (.ref l) (.ref b)) Q E s := by
  obtain ⟨⟨cls, dd, data, sl⟩, ho, hc, n, hd⟩ := id hl
  obtain ⟨⟨cls2, dd2, data2, sl2⟩, ho2, hc2, n2, hd2⟩ := id hb
  simp only at hc hd hc2 hd2
  subst hc hd hc2 hd2
  have e : vs.toArray ++ ws.toArray = (vs ++ ws).toArray := by simp
  refine concat_meets ⟨_, ho, rfl⟩ ⟨_, ho2, rfl⟩ noFill_list_add seq_list_add PySem.F.slot_list_add PySem.F.entry_list_add (PySem.F.args_list_add_2 _ _) (list_addW l b vs.toArray ws.toArray n n2 dd dd2 sl sl2 (by simpa using hsz)) ⟨ho, ho2, ?_⟩
  rw [e]
  exact h
theorem getRow_length {rows : List (List Int)} {ch : Nat} (hch : ∀ r ∈ rows, r.length = ch) {k : Nat} (hk : k < rows.length) : (rows.getD k []).length = ch := by
  rw [List.getD_eq_getElem?_getD, List.getElem?_eq_getElem hk]
  exact hch _ (List.getElem_mem _)
set_option maxHeartbeats 4000000 in
theorem told_spec {n : Nat} {fa R : Addr} {rows : List (List Int)} {as : List Addr} {ch : Nat} (rm : Rm A n) (hn : n ≤ 80) (ok : Ok q mg) (T : Gd q mean mg mb s.heap) (hf : mg (dAt 10).name = some (.ref fa))
    (rd : Rd s.heap (.ref R) (rowsD rows) as) (h2 : 2 ≤ rows.length) (hsz : rows.length ≤ 1000) (hch : ∀ r ∈ rows, r.length = ch) (hcz : ch ≤ 1000) :
    wpS b (model prog w) A (call (.ref fa) [.ref R]) (fun v s' => Keeps s s' ∧ ∃ R' as', v = .ref R' ∧ Rd s'.heap (.ref R') (rowsD (told rows)) as' ∧ ∀ a ∈ as', a ∈ as ∨ s.heap.get? a = none) s := by
  obtain ⟨a, o, pm, code, doc, e1, e2, e3, e4⟩ := T.fn (dAt 10) (ok.defs 10 (by simp))
  rw [hf] at e1
  cases e1
  refine callDef (fd := fdAt 10 pm code doc) (binds := [(Str.ofString "rows", .ref R)]) rm (by omega) e2 e3 T.nolimit e4 rfl rfl rfl ?_ ?_ ?_
  · intro L x hx
    simp only [List.mem_cons, List.not_mem_nil, or_false] at hx
    rcases hx with rfl
    exact .inr ⟨rfl, rfl⟩
  · intro L x hx
    simp only [List.mem_cons, List.not_mem_nil, or_false] at hx
    rcases hx with rfl
    exact .inr ⟨rfl, rfl⟩
  intro s₁ k₁ wf₁ has₁
  generalize hA : A.deeper _ = A₁
  have rm₁ : Rm A₁ (n + 1) := by rw [← hA]; exact rm.deeper _
  have newL : s.heap.get? (callEnvC (fdAt 10 pm code doc) s.heap.objs.size fa).locals = none := fresh_size _ (Nat.le_refl _)
  let sc1 : Scope := sc [(Str.ofString ".0", .local), (Str.ofString "k", .cell), (Str.ofString "range", .globalImplicit), (Str.ofString "len", .globalImplicit), (Str.ofString "rows", .free)]
  let sc2 : Scope := sc [(Str.ofString ".0", .local), (Str.ofString "c", .local), (Str.ofString "_law_middle", .globalImplicit), (Str.ofString "k", .free), (Str.ofString "rows", .free)]
  let L1 : Addr := s.heap.objs.size + 1
  have lr : (callEnvC (fdAt 10 pm code doc) s.heap.objs.size fa).kindOf (Str.ofString "rows") = some .cell := rfl
  have li : (callEnvC (fdAt 10 pm code doc) s.heap.objs.size fa).kindOf (Str.ofString "inner") = some .local := rfl
  have g1 : (callEnvC (fdAt 10 pm code doc) s.heap.objs.size fa).kindOf (Str.ofString "range") = some .globalImplicit := rfl
  have g2 : (callEnvC (fdAt 10 pm code doc) s.heap.objs.size fa).kindOf (Str.ofString "len") = some .globalImplicit := rfl
  have cc1 : CC (callEnvC (fdAt 10 pm code doc) s.heap.objs.size fa) sc1 [(Str.ofString "rows", L1)] := ⟨rfl, fun p hp => by rw [List.mem_singleton.mp hp]; rfl, List.pairwise_singleton _ _, rfl, by decide⟩
  have hsw : ∀ elt iter px pos py, pos.line = py.line → swapsWith (.ListComp elt [⟨.Name (Str.ofString "k") px, iter, [], 0⟩] sc1 pos) (some (.Name (Str.ofString "inner") py)) pos.line (callEnvC (fdAt 10 pm code doc) s.heap.objs.size fa) = Pure.pure true := fun elt iter px pos py e => by
    show Pure.pure (_ && (py.line == pos.line) && _) = _
    rw [e, beq_self_eq_true]; rfl
  have kk : ∀ C, (compE (callEnvC (fdAt 10 pm code doc) s.heap.objs.size fa) sc1 [(Str.ofString "rows", L1)] C).kindOf (Str.ofString "k") = some .cell := fun _ => rfl
  have kg : ∀ C, (compE (callEnvC (fdAt 10 pm code doc) s.heap.objs.size fa) sc1 [(Str.ofString "rows", L1)] C).kindOf (Str.ofString "range") = some .globalImplicit := fun _ => rfl
  have kl : ∀ C, (compE (callEnvC (fdAt 10 pm code doc) s.heap.objs.size fa) sc1 [(Str.ofString "rows", L1)] C).kindOf (Str.ofString "len") = some .globalImplicit := fun _ => rfl
  have kr : ∀ C, (compE (callEnvC (fdAt 10 pm code doc) s.heap.objs.size fa) sc1 [(Str.ofString "rows", L1)] C).kindOf (Str.ofString "rows") = some .cell := fun _ => rfl
  have cr : ∀ C, (compE (callEnvC (fdAt 10 pm code doc) s.heap.objs.size fa) sc1 [(Str.ofString "rows", L1)] C).cells.lookup (Str.ofString "rows") = (callEnvC (fdAt 10 pm code doc) s.heap.objs.size fa).cells.lookup (Str.ofString "rows") := fun _ => rfl
  have ck : ∀ C, (compE (callEnvC (fdAt 10 pm code doc) s.heap.objs.size fa) sc1 [(Str.ofString "rows", L1)] C).cells.lookup (Str.ofString "k") = some (C + 1) := fun _ => rfl
  have cc2 : ∀ C, CC (compE (callEnvC (fdAt 10 pm code doc) s.heap.objs.size fa) sc1 [(Str.ofString "rows", L1)] C) sc2 [(Str.ofString "rows", L1), (Str.ofString "k", C + 1)] := fun C => ⟨rfl, fun p hp => by
    simp only [List.mem_cons, List.not_mem_nil, or_false] at hp
    rcases hp with rfl | rfl <;> rfl, List.Pairwise.cons (fun p hp => by rw [List.mem_singleton.mp hp]; show Str.ofString "rows" ≠ Str.ofString "k"; decide) (List.pairwise_singleton _ _), rfl, by decide⟩
  have jc : ∀ C C', (compE (compE (callEnvC (fdAt 10 pm code doc) s.heap.objs.size fa) sc1 [(Str.ofString "rows", L1)] C) sc2 [(Str.ofString "rows", L1), (Str.ofString "k", C + 1)] C').kindOf (Str.ofString "c") = some .local := fun _ _ => rfl
  have jm : ∀ C C', (compE (compE (callEnvC (fdAt 10 pm code doc) s.heap.objs.size fa) sc1 [(Str.ofString "rows", L1)] C) sc2 [(Str.ofString "rows", L1), (Str.ofString "k", C + 1)] C').kindOf (dAt 9).name = some .globalImplicit := fun _ _ => rfl
  have jk : ∀ C C', (compE (compE (callEnvC (fdAt 10 pm code doc) s.heap.objs.size fa) sc1 [(Str.ofString "rows", L1)] C) sc2 [(Str.ofString "rows", L1), (Str.ofString "k", C + 1)] C').kindOf (Str.ofString "k") = some .cell := fun _ _ => rfl
  have jr : ∀ C C', (compE (compE (callEnvC (fdAt 10 pm code doc) s.heap.objs.size fa) sc1 [(Str.ofString "rows", L1)] C) sc2 [(Str.ofString "rows", L1), (Str.ofString "k", C + 1)] C').kindOf (Str.ofString "rows") = some .cell := fun _ _ => rfl
  have jkc : ∀ C C', (compE (compE (callEnvC (fdAt 10 pm code doc) s.heap.objs.size fa) sc1 [(Str.ofString "rows", L1)] C) sc2 [(Str.ofString "rows", L1), (Str.ofString "k", C + 1)] C').cells.lookup (Str.ofString "k") = (compE (callEnvC (fdAt 10 pm code doc) s.heap.objs.size fa) sc1 [(Str.ofString "rows", L1)] C).cells.lookup (Str.ofString "k") := fun _ _ => rfl
  have jrc : ∀ C C', (compE (compE (callEnvC (fdAt 10 pm code doc) s.heap.objs.size fa) sc1 [(Str.ofString "rows", L1)] C) sc2 [(Str.ofString "rows", L1), (Str.ofString "k", C + 1)] C').cells.lookup (Str.ofString "rows") = (compE (callEnvC (fdAt 10 pm code doc) s.heap.objs.size fa) sc1 [(Str.ofString "rows", L1)] C).cells.lookup (Str.ofString "rows") := fun _ _ => rfl
  have gl : (callEnvC (fdAt 10 pm code doc) s.heap.objs.size fa).globals = mainGlobals := rfl
  have bl : (callEnvC (fdAt 10 pm code doc) s.heap.objs.size fa).builtins = builtinsNs := rfl
  generalize callEnvC (fdAt 10 pm code doc) s.heap.objs.size fa = env at *
  have fn : env.scope.kind = .function := wf₁.fn
  have hr : Has s₁.heap env (Str.ofString "rows") (.ref R) := has₁ _ (.head _)
  have en₁ : En q mean mg mb s₁.heap env := ⟨T.keeps (kp_k k₁), ok, fn, gl, bl⟩
  obtain ⟨_, vs, bs, eR, hl, rdv, eas⟩ := rd.list_inv
  cases eR
  have hl₁ : s₁.heap.IsList R vs.toArray := hl.at fun o e => kp_k k₁ R o e
  have rd₁ := rdv.keeps (kp_k k₁)
  have len : vs.length = rows.length := by rw [rdv.length, List.length_map]
  obtain ⟨ma, hm, lvm⟩ := fnAt T (ok.defs 9 (by simp))
  have isp : ∀ k : Nat, (((rows.length : Nat) : Int) - 1) = 1 + ((rows.length - 2 : Nat) : Int) := fun _ => by omega
  refine wpS.execs_cons (st_comp (P := fun i v => ∃ t, v = .int ((1 : Int) + i * 1) t) (n := rows.length - 2) (scope := sc1) (cl := [(Str.ofString "rows", L1)]) (fun i => .list ((midRow rows i).map .int)) wf₁ cc1 (Nat.le_trans (Nat.sub_le _ _) (Nat.le_trans hsz (by decide))) (hsw _ _ _ ⟨38, 12, 38, 133⟩ _ rfl) li ?_
    (fun C => .inr ⟨kk C, by rw [ck C]; rfl⟩) (fun C => by rw [slotOf, if_neg (by rw [kk C]; decide), ck C]; exact Nat.le_succ C) ?_ ?_)
  · refine wpS.of_any (ev_range2 en₁ g1 evConst (evSub (evLenL en₁ g2 (evName fn hr) hl₁ (by omega)) evConst) fun r s₂ t₁ t₂ t₃ hr₂ k₂ => ⟨k₂, ?_⟩)
    have e : ((vs.length : Nat) : Int) - 1 = 1 + ((rows.length - 2 : Nat) : Int) := by omega
    rw [e] at hr₂
    exact src_range rm₁.handled hr₂ (small_one (by omega) (by omega) (by omega) (by omega)) (size_from 1 _)
  · intro i v C s₃ hi hP k₃ wf₃ hk₃ tr₃
    obtain ⟨tk, rfl⟩ := hP
    have hr₃ := tr₃ _ _ hr (kr C) lr (cr C)
    have en₃ : En q mean mg mb s₃.heap (compE env sc1 [(Str.ofString "rows", L1)] C) := en₁.comp (kp_k k₃) rfl
    have fn₃ := en₃.fn
    have hl₃ : s₃.heap.IsList R vs.toArray := hl₁.at fun o e => kp_k k₃ R o e
    have rd₃ := rd₁.keeps (kp_k k₃)
    have hlen := getRow_length hch (k := i + 1) (by omega)
    obtain ⟨ra, rus, rbs, rev, rl, rints, _⟩ := evRow (A := A₁) (prog := prog) (w := w) (pos := ⟨38, 89, 38, 96⟩) (j := i + 1) (evName (pos := ⟨38, 89, 38, 93⟩) fn₃ hr₃) (evInt (pos := ⟨38, 94, 38, 95⟩) fn₃ hk₃) hl₃ rd₃ hsz (.inl ⟨by omega, by omega⟩) (by omega)
    have rlen : rus.length = ch := by rw [rints.length, hlen]
    refine ev_comp (P := fun i v => ∃ t, v = .int ((0 : Int) + i * 1) t) (n := ch) (scope := sc2) (cl := [(Str.ofString "rows", L1), (Str.ofString "k", C + 1)]) (fun c => .int (mid (at2 rows i c) (at2 rows (i + 1) c) (at2 rows (i + 2) c))) wf₃ (cc2 C) (Nat.le_trans hcz (by decide)) ?_ (fun C' => .inl (jc C C')) (fun C' => by rw [slot_local (jc C C')]; exact Nat.le_refl _) ?_ ?_
    · refine wpS.of_any (ev_range1 en₃ (kg C) (evLenL en₃ (kl C) rev rl (by omega)) fun r s₄ t₁ t₂ t₃ hr₄ k₄ => ⟨k₄, ?_⟩)
      rw [rlen] at hr₄
      exact src_range rm₁.handled hr₄ (small_one (by omega) (by omega) (by omega) (by omega)) (size_one ch)
    · intro c v C' s₄ hc hP k₄ wf₄ hc₄ tr₄
      obtain ⟨tc, rfl⟩ := hP
      have hr₄ := tr₄ _ _ hr₃ (jr C C') (kr C) (jrc C C')
      have hk₄ := tr₄ _ _ hk₃ (jk C C') (kk C) (jkc C C')
      have en₄ : En q mean mg mb s₄.heap (compE (compE env sc1 [(Str.ofString "rows", L1)] C) sc2 [(Str.ofString "rows", L1), (Str.ofString "k", C + 1)] C') := en₃.comp (kp_k k₄) rfl
      have fn₄ := en₄.fn
      have hl₄ : s₄.heap.IsList R vs.toArray := hl₃.at fun o e => kp_k k₄ R o e
      have rd₄ := rd₃.keeps (kp_k k₄)
      have T₄ := en₄.top
      have lv₄ : ∃ o fd, s₄.heap.get? ma = some o ∧ o.data = .func fd := fnLive T₄ (ok.defs 9 (by simp)) hm
      have lenI := fun (m : Nat) (hm : m < rows.length) => getRow_length hch hm
      refine ev_def3 (fa := ma) en₄ (jm C C') hm lv₄ (evCell (j := i) (d := c) (evName fn₄ hr₄) (evSub (evInt fn₄ hk₄) evConst) (evInt fn₄ hc₄) hl₄ rd₄ hsz (by omega) (by omega) (by omega) (by rw [lenI _ (by omega)]; exact hc) (by rw [lenI _ (by omega)]; exact hcz))
        (evCell (j := i + 1) (d := c) (evName fn₄ hr₄) (evInt fn₄ hk₄) (evInt fn₄ hc₄) hl₄ rd₄ hsz (by omega) (by omega) (by omega) (by rw [lenI _ (by omega)]; exact hc) (by rw [lenI _ (by omega)]; exact hcz))
        (evCell (j := i + 2) (d := c) (evName fn₄ hr₄) (evAdd (evInt fn₄ hk₄) evConst) (evInt fn₄ hc₄) hl₄ rd₄ hsz (by omega) (by omega) (by omega) (by rw [lenI _ (by omega)]; exact hc) (by rw [lenI _ (by omega)]; exact hcz)) fun u v z k hu hv hz => ?_
      obtain ⟨tu, rfl⟩ := hu
      obtain ⟨tv, rfl⟩ := hv
      obtain ⟨tz, rfl⟩ := hz
      refine (middle_spec (s := { s₄ with toks := k }) rm₁ (by omega) ok T₄ hm).mono fun y s₅ h₅ => ?_
      obtain ⟨k₅, u, rfl⟩ := h₅
      exact ⟨kp_trans (kp_tok k) k₅, [], .int _ _, fun _ h => nomatch h⟩
    · intro v s₄ as' k₄ rd₄ fr₄
      refine ⟨k₄, as', ?_, fr₄⟩
      have e : midRow rows i = (List.range ch).map fun c => mid (at2 rows i c) (at2 rows (i + 1) c) (at2 rows (i + 2) c) := by unfold midRow; rw [hlen]
      rw [e, List.map_map]
      exact rd₄
  · intro v h₂ tk₂ as' wf₂ hin oth₂ kp₂ rdI frI
    have nL : ∀ b o, s.heap.get? b = some o → b ≠ env.locals := fun b o e q => by rw [q, newL] at e; cases e
    have K2 : Keeps s { s₁ with heap := h₂, toks := tk₂ } := by
      obtain ⟨h', t', rfl, k⟩ := k₁
      exact ⟨h₂, tk₂, rfl, fun b o e => kp₂ b o (nL b o e) (k b o e)⟩
    have hl₂ : h₂.IsList R vs.toArray := hl.at fun o e => kp_k K2 R o e
    have rd₂ := rdv.keeps (kp_k K2)
    have hr₂ := oth₂ _ _ (by decide) hr
    obtain ⟨I, ius, ias, rfl, hI, rdius, easI⟩ := rdI.list_inv
    have lenI : ius.length = rows.length - 2 := by rw [rdius.length, List.length_map, List.length_range]
    refine wpS.execs_cons (returnS (wpS.of_any ?_))
    obtain ⟨a₀, us₀, bs₀, ev₀, hl₀, hi₀, r₀, in₀⟩ := evRow (A := A₁) (prog := prog) (w := w) (pos := ⟨39, 12, 39, 19⟩) (k := 0) (j := 0) (evName (pos := ⟨39, 12, 39, 16⟩) fn hr₂) (evConst (k := 0) (pos := ⟨39, 17, 39, 18⟩)) hl₂ rd₂ hsz (.inl ⟨by omega, by omega⟩) (by omega)
    refine wpAny_BinOp (wpAny_BinOp (wpAny_List_spliced (args_cons (ev₀.at (fun _ _ e => e) fun v k hv => args_nil ⟨show 1 ≤ sizeLine by decide, ?_⟩))))
    subst hv
    generalize hh₃ : h₂.push { cls := .type "list", data := .seq [Value.ref a₀].toArray } = h₃
    have k23 : ∀ b o, h₂.get? b = some o → h₃.get? b = some o := fun b o e => by rw [← hh₃]; exact Heap.get?_push_of_some _ e
    have hl3 : h₃.IsList h₂.objs.size [Value.ref a₀].toArray := by rw [← hh₃]; exact ⟨_, Heap.get?_push_size _ rfl, rfl, _, rfl⟩
    refine ev_name fn (hin.keeps k23) ?_
    refine add_l hl3 (hI.at fun o e => k23 I o e) ?_ ?_
    · show 1 + ius.length ≤ sizeLine
      rw [lenI]; exact Nat.le_trans (show 1 + (rows.length - 2) ≤ 1000 by omega) (by decide)
    dsimp only
    generalize hh₄ : h₃.push { cls := .type "list", data := .seq ([Value.ref a₀] ++ ius).toArray } = h₄
    have k34 : ∀ b o, h₃.get? b = some o → h₄.get? b = some o := fun b o e => by rw [← hh₄]; exact Heap.get?_push_of_some _ e
    have hl4 : h₄.IsList h₃.objs.size ([Value.ref a₀] ++ ius).toArray := by rw [← hh₄]; exact ⟨_, Heap.get?_push_size _ rfl, rfl, _, rfl⟩
    have k24 : ∀ b o, h₂.get? b = some o → h₄.get? b = some o := fun b o e => k34 b o (k23 b o e)
    obtain ⟨a₉, us₉, bs₉, ev₉, hl₉, hi₉, r₉, in₉⟩ := evRow (A := A₁) (prog := prog) (w := w) (pos := ⟨39, 32, 39, 40⟩) (k := -1) (j := rows.length - 1) (evName (pos := ⟨39, 32, 39, 36⟩) fn (hr₂.keeps k24)) (evMinusOne (p₁ := ⟨39, 38, 39, 39⟩) (p₂ := ⟨39, 37, 39, 39⟩)) (hl₂.at fun o e => k24 R o e) (rd₂.keeps k24) hsz (.inr ⟨by omega, by omega⟩) (by omega)
    refine wpAny_List_spliced (args_cons (ev₉ { s₁ with heap := h₄, toks := _ } (fun _ _ e => e) _ _ fun v k' hv => args_nil ⟨show 1 ≤ sizeLine by decide, ?_⟩))
    subst hv
    generalize hh₅ : h₄.push { cls := .type "list", data := .seq [Value.ref a₉].toArray } = h₅
    have k45 : ∀ b o, h₄.get? b = some o → h₅.get? b = some o := fun b o e => by rw [← hh₅]; exact Heap.get?_push_of_some _ e
    have hl5 : h₅.IsList h₄.objs.size [Value.ref a₉].toArray := by rw [← hh₅]; exact ⟨_, Heap.get?_push_size _ rfl, rfl, _, rfl⟩
    refine add_l (hl4.at fun o e => k45 _ o e) hl5 ?_ ?_
    · simp only [List.length_append, List.length_cons, List.length_nil, lenI]
      exact Nat.le_trans (show 0 + 1 + (rows.length - 2) + (0 + 1) ≤ 1000 by omega) (by decide)
    dsimp only
    generalize hh₆ : h₅.push { cls := .type "list", data := .seq ([Value.ref a₀] ++ ius ++ [Value.ref a₉]).toArray } = h₆
    have k56 : ∀ b o, h₅.get? b = some o → h₆.get? b = some o := fun b o e => by rw [← hh₆]; exact Heap.get?_push_of_some _ e
    have hl6 : h₆.IsList h₅.objs.size ([Value.ref a₀] ++ ius ++ [Value.ref a₉]).toArray := by rw [← hh₆]; exact ⟨_, Heap.get?_push_size _ rfl, rfl, _, rfl⟩
    have k26 : ∀ b o, h₂.get? b = some o → h₆.get? b = some o := fun b o e => k56 b o (k45 b o (k24 b o e))
    have K6 : ∀ b o, s.heap.get? b = some o → h₆.get? b = some o := fun b o e => k26 b o (kp_k K2 b o e)
    have n6 : s.heap.get? h₅.objs.size = none := by
      cases e : s.heap.get? h₅.objs.size with
      | none => rfl
      | some o => 
        have := k45 _ _ (k24 _ _ (kp_k K2 _ _ e))
        rw [fresh_size _ (Nat.le_refl _)] at this; cases this
    refine ⟨?_, _, h₅.objs.size :: (bs₀ ++ ias ++ bs₉), rfl, .list hl6 ?_, fun a ha => ?_⟩
    · obtain ⟨h', t', rfl, k⟩ := k₁
      exact ⟨h₆, _, rfl, K6⟩
    · have e : (told rows).map (fun r => Dt.list (r.map .int)) = [.list ((rows.getD 0 []).map .int)] ++ (List.range (rows.length - 2)).map (fun i => .list ((midRow rows i).map .int)) ++ [.list ((rows.getD (rows.length - 1) []).map .int)] := by
        unfold told; rw [List.map_append, List.map_append, List.map_map]; rfl
      rw [e]
      exact ((RdAll.one (r₀.keeps k26)).append (rdius.keeps k26)).append (RdAll.one (r₉.keeps fun b o e => k56 b o (k45 b o e)))
    · rcases List.mem_cons.mp ha with rfl | ha
      · exact .inr n6
      · rcases List.mem_append.mp ha with ha | ha
        · rcases List.mem_append.mp ha with ha | ha
          · exact .inl (by rw [eas]; exact .tail _ (in₀ a ha))
          · exact .inr (kp_none k₁ (frI a (by rw [easI]; exact .tail _ ha)))
        · exact .inl (by rw [eas]; exact .tail _ (in₉ a ha))
end
end Nq
end NqToldPart

section NqStatesPart
open PySem PySem.W PySem.Calls PyProof.Rows
set_option linter.unusedVariables false
set_option maxRecDepth 100000
namespace Nq
/-- the rows after so many passes -/
def it : Nat → List (List Int) → List (List Int)
  | 0, r => r
  | k + 1, r => told (it k r)
theorem told_length {rows : List (List Int)} (h : 2 ≤ rows.length) : (told rows).length = rows.length := by
  unfold told; simp only [List.length_append, List.length_cons, List.length_nil, List.length_map, List.length_range]; omega
theorem told_ch {rows : List (List Int)} {ch : Nat} (h : 2 ≤ rows.length) (hch : ∀ r ∈ rows, r.length = ch) : ∀ r ∈ told rows, r.length = ch := by
  intro r hr
  unfold told at hr
  rcases List.mem_append.mp hr with hr | hr
  · rcases List.mem_append.mp hr with hr | hr
    · rw [List.mem_singleton.mp hr]; exact getRow_length hch (by omega)
    · obtain ⟨j, hj, rfl⟩ := List.mem_map.mp hr
      have := List.mem_range.mp hj
      unfold midRow
      rw [List.length_map, List.length_range]
      exact getRow_length hch (by omega)
  · rw [List.mem_singleton.mp hr]; exact getRow_length hch (by omega)
theorem it_ok {rows : List (List Int)} {ch : Nat} (h : 2 ≤ rows.length) (hch : ∀ r ∈ rows, r.length = ch) : ∀ k, (it k rows).length = rows.length ∧ ∀ r ∈ it k rows, r.length = ch
  | 0 => ⟨rfl, hch⟩
  | k + 1 => by
    obtain ⟨a, c⟩ := it_ok h hch k
    exact ⟨by rw [it, told_length (by omega), a], told_ch (by omega) c⟩
section
variable {b : Bool} {prog : Program} {w : World} {A : Around} {s : Shared} {env : Env} {h : Heap} {q : Program} {mean : ExcName → Option Value} {mg mb : Str → Option Value} {E : Value → Shared → Prop}
theorem evNeg {i : Int} {p₁ p₂ : Pos} : EvI prog w A h env (.UnaryOp .USub (.Constant (.int i) 0 p₁) p₂) (-i) := fun s' ks Q E hq => by
  exact wpAny_UnaryOp (wpAny_Constant_int (PyProof.Rows.neg_int (hq _ _ ⟨_, rfl⟩)))
theorem rows_ne {l m : Addr} {rows rows' : List (List Int)} {as as' : List Addr} {Q : Value → Shared → Prop} (r : Rd s.heap (.ref l) (rowsD rows) as) (r' : Rd s.heap (.ref m) (rowsD rows') as') (hlen : rows.length = rows'.length) (hu : A.units + 200 < cLine)
    (hq : Q (.bool (!decide (rows = rows'))) s) : wpAny (model prog w) A (compareOp .NotEq (.ref l) (.ref m)) Q E s := by
  obtain ⟨_, vs, _, e, hl, rv, _⟩ := r.list_inv
  cases e
  obtain ⟨_, us, _, e, hm, ru, _⟩ := r'.list_inv
  cases e
  have lv : vs.length = rows.length := by rw [rv.length, List.length_map]
  have lu : us.length = rows'.length := by rw [ru.length, List.length_map]
  have key := PySem.SeqAt.RcNeAt.lists (A := A) hl hm (e := fun j => decide (rows.getD j [] = rows'.getD j [])) (by simp only [List.size_toArray]; omega) (by omega) (fun j h1 h2 => by
    simp only [List.size_toArray] at h1 h2
    obtain ⟨a, xs, bs, e1, hx, ix, _⟩ := rowAt rv (k := j) (by omega)
    obtain ⟨c, ys, cs, e2, hy, iy, _⟩ := rowAt ru (k := j) (by omega)
    rw [List.getElem?_eq_getElem h1] at e1
    rw [List.getElem?_eq_getElem h2] at e2
    have e1' : vs.toArray[j] = .ref a := by simpa using e1
    have e2' : us.toArray[j] = .ref c := by simpa using e2
    rw [e1', e2']
    exact PySem.W.keq_ints (A := A) hx ix hy iy (by show A.units + 1 + 64 < cLine; omega))
  have e : (List.range vs.toArray.size).all (fun j => decide (rows.getD j [] = rows'.getD j [])) = decide (rows = rows') := by
    rw [Bool.eq_iff_iff]
    simp only [List.size_toArray, List.all_eq_true, List.mem_range, decide_eq_true_eq]
    constructor
    · intro hall
      apply List.ext_getElem hlen
      intro j h1 h2
      have := hall j (by omega)
      rw [List.getD_eq_getElem?_getD, List.getD_eq_getElem?_getD, List.getElem?_eq_getElem h1, List.getElem?_eq_getElem h2] at this
      exact this
    · rintro rfl; intros; rfl
  rw [e] at key
  exact key prog w E Q hq
set_option maxHeartbeats 4000000 in
theorem states_spec {n : Nat} {fa R : Addr} {rows : List (List Int)} {as : List Addr} {ch M : Nat} (rm : Rm A n) (hn : n ≤ 70) (ok : Ok q mg) (T : Gd q mean mg mb s.heap) (hf : mg (dAt 11).name = some (.ref fa))
    (rd : Rd s.heap (.ref R) (rowsD rows) as) (h2 : 2 ≤ rows.length) (hsz : rows.length ≤ 1000) (hch : ∀ r ∈ rows, r.length = ch) (hcz : ch ≤ 1000) (hM : M ≤ 100) (settle : it (M + 1) rows = it M rows) :
    wpS b (model prog w) A (call (.ref fa) [.ref R]) (fun v s' => Keeps s s' ∧ ∃ S vs as' m, v = .ref S ∧ s'.heap.IsList S vs.toArray ∧ m ≤ M ∧ RdAll s'.heap vs ((List.range (m + 2)).map fun k => rowsD (it k rows)) as') s := by
  obtain ⟨a, o, pm, code, doc, e1, e2, e3, e4⟩ := T.fn (dAt 11) (ok.defs 11 (by simp))
  rw [hf] at e1
  cases e1
  refine callDef (fd := fdAt 11 pm code doc) (binds := [(Str.ofString "rows", .ref R)]) rm (by omega) e2 e3 T.nolimit e4 rfl rfl rfl ?_ ?_ ?_
  · intro L x hx
    simp only [List.mem_cons, List.not_mem_nil, or_false] at hx
    rcases hx with rfl
    exact .inl rfl
  · intro L x hx
    simp only [List.mem_cons, List.not_mem_nil, or_false] at hx
    rcases hx with rfl
    exact .inl ⟨rfl, rfl⟩
  intro s₁ k₁ wf₁ has₁
  generalize hA : A.deeper _ = A₁
  have rm₁ : Rm A₁ (n + 1) := by rw [← hA]; exact rm.deeper _
  have newL : s.heap.get? (callEnvC (fdAt 11 pm code doc) s.heap.objs.size fa).locals = none := fresh_size _ (Nat.le_refl _)
  have l1 : (callEnvC (fdAt 11 pm code doc) s.heap.objs.size fa).kindOf (Str.ofString "states") = some .local := rfl
  have g1 : (callEnvC (fdAt 11 pm code doc) s.heap.objs.size fa).kindOf (dAt 10).name = some .globalImplicit := rfl
  have gi : interactive (callEnvC (fdAt 11 pm code doc) s.heap.objs.size fa) = false := rfl
  have gl : (callEnvC (fdAt 11 pm code doc) s.heap.objs.size fa).globals = mainGlobals := rfl
  have bl : (callEnvC (fdAt 11 pm code doc) s.heap.objs.size fa).builtins = builtinsNs := rfl
  generalize callEnvC (fdAt 11 pm code doc) s.heap.objs.size fa = env at *
  have fn : env.scope.kind = .function := wf₁.fn
  have hr : Has s₁.heap env (Str.ofString "rows") (.ref R) := has₁ _ (.head _)
  have enOf : ∀ s' : Shared, Keeps s s' → En q mean mg mb s'.heap env := fun s' k => ⟨T.keeps (kp_k k), ok, fn, gl, bl⟩
  obtain ⟨ta, ht, _⟩ := fnAt T (ok.defs 10 (by simp))
  have lv : ∀ s', Keeps s s' → ∃ o fd, s'.heap.get? ta = some o ∧ o.data = .func fd := fun s' k => fnLive (enOf s' k).top (ok.defs 10 (by simp)) ht
  have oks := it_ok h2 hch
  have rd₁ := rd.keeps (kp_k k₁)
  -- states = [rows, _law_told(rows)]
  refine wpS.execs_cons (assignS (wpS.of_any (wpAny_List_spliced (args_cons (ev_name fn hr (args_cons (wpS.any ?_)))))) rfl)
  refine ev_def1 (fa := ta) (enOf s₁ k₁) g1 ht (lv s₁ k₁) (evName fn hr) fun u k hu => ?_
  subst hu
  refine (told_spec (s := { s₁ with toks := k }) rm₁ (by omega) ok (enOf s₁ k₁).top ht rd₁ h2 hsz hch hcz).mono fun v s₂ h₂ => ?_
  obtain ⟨k₂, R', as', rfl, rd', in'⟩ := h₂
  have k02 : Keeps s s₂ := kp_trans k₁ (kp_trans (kp_tok k) k₂)
  have k12 := kp_k (kp_trans (kp_tok k) k₂)
  refine args_nil ⟨show 2 ≤ sizeLine by decide, ?_⟩
  generalize hh₃ : s₂.heap.push { cls := .type "list", data := .seq [Value.ref R, Value.ref R'].toArray } = h₃
  generalize hS : s₂.heap.objs.size = S
  have k23 : ∀ b o, s₂.heap.get? b = some o → h₃.get? b = some o := fun b o e => by rw [← hh₃]; exact Heap.get?_push_of_some _ e
  have hS₃ : PlainL h₃ S [Value.ref R, Value.ref R'].toArray := by rw [← hh₃, ← hS]; exact ⟨_, _, Heap.get?_push_size _ rfl, rfl, rfl, rfl⟩
  have nS : s₂.heap.get? S = none := fresh_size _ (by rw [hS]; exact Nat.le_refl _)
  have nSs : s.heap.get? S = none := kp_none k02 nS
  have k03 : Keeps s { s₂ with heap := h₃ } := kp_trans k02 ⟨h₃, s₂.toks, rfl, k23⟩
  have wf₃ : Wf h₃ env := wf₁.keeps fun b o e => k23 b o (k12 b o e)
  refine st_local (s := { s₂ with heap := h₃ }) wf₃ l1 k03 newL fun h₄ tk₄ wf₄ has₄ oth₄ sb₄ k₄ => ?_
  have offS : Off env S := (wf₁.keeps k12).offs nS
  have kL : ∀ b o, b ≠ env.locals → h₃.get? b = some o → h₄.get? b = some o := fun b o hb e => sb₄.extBut b o hb e
  have notL : ∀ a, (∃ o, s.heap.get? a = some o) ∨ s₁.heap.get? a = none → a ≠ env.locals := fun a ha e => by
    rcases ha with ⟨o, ha⟩ | ha
    · rw [e, newL] at ha; cases ha
    · exact (wf₁.offs ha).1 e
  -- what holds between the turns
  let Inv : Nat → Shared → Prop := fun j s' => Keeps s s' ∧ Wf s'.heap env ∧ Has s'.heap env (Str.ofString "states") (.ref S) ∧
    ∃ vs as, PlainL s'.heap S vs.toArray ∧ RdAll s'.heap vs ((List.range (j + 2)).map fun k => rowsD (it k rows)) as ∧ ∀ a ∈ as, a ≠ S
  have rdR := rd.keeps fun b o e => kL b o (notL b (.inl ⟨o, e⟩)) (kp_k k03 b o e)
  have I₀ : Inv 0 { s₂ with heap := h₄, toks := tk₄ } := by
    refine ⟨k₄, wf₄, has₄, [.ref R, .ref R'], as ++ as', ?_, ?_, fun a ha => ?_⟩
    · obtain ⟨o, n, ho, hp⟩ := hS₃
      exact ⟨o, n, kL S o offS.1 ho, hp⟩
    · have r1 : Rd h₄ (.ref R') (rowsD (it 1 rows)) as' := (rd'.keeps k23).frame fun a ha o e => kL a o (notL a ((in' a ha).elim (fun h => .inl (rd.live a h)) fun h => .inr h)) e
      have := RdAll.append (RdAll.one rdR) (RdAll.one r1)
      exact this
    · rcases List.mem_append.mp ha with ha | ha
      · obtain ⟨o, ho⟩ := rd.live a ha
        exact fun e => by rw [e, nSs] at ho; cases ho
      · obtain ⟨o, ho⟩ := rd'.live a ha
        exact fun e => by rw [e, nS] at ho; cases ho
  -- the last and the one before
  have last : ∀ j s', Inv j s' → ∃ S' vs as c bs, S' = S ∧ PlainL s'.heap S vs.toArray ∧ vs.length = j + 2 ∧ RdAll s'.heap vs ((List.range (j + 2)).map fun k => rowsD (it k rows)) as ∧ vs[j + 1]? = some (.ref c) ∧ Rd s'.heap (.ref c) (rowsD (it (j + 1) rows)) bs ∧ (∀ a ∈ bs, a ∈ as) ∧ (∀ a ∈ as, a ≠ S) ∧ ∃ d cs, vs[j]? = some (.ref d) ∧ Rd s'.heap (.ref d) (rowsD (it j rows)) cs := by
    rintro j s' ⟨a1, a2, a3, vs, as, a4, a5, a6⟩
    have len : vs.length = j + 2 := by rw [a5.length, List.length_map, List.length_range]
    obtain ⟨v, bs, hv, r, hb⟩ := a5.at (j + 1) (rowsD (it (j + 1) rows)) (by rw [List.getElem?_map, List.getElem?_range (by omega)]; rfl)
    obtain ⟨v', cs, hv', r', _⟩ := a5.at j (rowsD (it j rows)) (by rw [List.getElem?_map, List.getElem?_range (by omega)]; rfl)
    obtain ⟨c, _, _, rfl, _⟩ := r.list_inv
    obtain ⟨d, _, _, rfl, _⟩ := r'.list_inv
    exact ⟨S, vs, as, c, bs, rfl, a4, len, a5, hv, r, hb, a6, d, cs, hv', r'⟩
  refine wpS.execs_cons (wpS.of_any (wpAny_While (codeAny_whileLoop (fun n s' => ∃ j, j ≤ M ∧ n = M - j ∧ Inv j s') ?_ M ⟨0, Nat.zero_le _, rfl, I₀⟩)))
  rintro n' s₅ ⟨j, hj, rfl, hI⟩
  obtain ⟨a1, a2, a3, _⟩ := id hI
  obtain ⟨_, vs, as₅, c, bs, _, pS, len, rdS, hc, rc, hbs, ne₅, d, cs, hd, rdd⟩ := last j s₅ hI
  have evLast : ∀ pos p₀ p₁ p₂, EvV prog w A₁ s₅.heap env (.Subscript (.Name (Str.ofString "states") p₀) (.UnaryOp .USub (.Constant (.int 1) 0 p₁) p₂) pos) (fun u => u = .ref c) := fun pos p₀ p₁ p₂ =>
    evItem (j := j + 1) (evName fn a3) evNeg pS.isList (by omega) (.inr ⟨by omega, by omega⟩) hc
  have evPrev : ∀ pos p₀ p₁ p₂, EvV prog w A₁ s₅.heap env (.Subscript (.Name (Str.ofString "states") p₀) (.UnaryOp .USub (.Constant (.int 2) 0 p₁) p₂) pos) (fun u => u = .ref d) := fun pos p₀ p₁ p₂ =>
    evItem (j := j) (evName fn a3) evNeg pS.isList (by omega) (.inr ⟨by omega, by omega⟩) hd
  refine wpAny_isTrue_Compare1 ((evLast _ _ _ _).at (fun _ _ e => e) fun v k hv => (evPrev _ _ _ _) { s₅ with toks := k } (fun _ _ e => e) _ _ fun v' k' hv' => ?_)
  subst hv hv'
  refine rows_ne (s := { s₅ with toks := k' }) rc rdd (by rw [(oks (j + 1)).1, (oks j).1]) (by have := rm₁.units; show A₁.units + 200 < 9900; omega) (wpAny_truthy_bool ?_)
  by_cases eq : it (j + 1) rows = it j rows
  · rw [decide_eq_true eq, Bool.not_true, if_neg (by decide)]
    refine wpAny_pure ?_
    dsimp only
    refine wpS.execs_cons (returnS (wpS.of_any (ev_name fn a3 ?_)))
    exact ⟨kp_trans a1 (kp_tok k'), S, vs, as₅, j, rfl, pS.isList, hj, rdS⟩
  · rw [decide_eq_false eq, Bool.not_false, if_pos rfl]
    have hjM : j < M := by
      rcases Nat.lt_or_ge j M with h | h
      · exact h
      · have : j = M := by omega
        rw [this] at eq; exact absurd settle eq
    refine wpS.any (wpS.execs_cons (appendS (s := { s₅ with toks := k' }) fn a3 pS ?_ _ (hi := gi)))
    have ka : Keeps s { s₅ with toks := k' } := kp_trans a1 (kp_tok k')
    refine ev_def1 (s := { s₅ with toks := k' }) (fa := ta) (enOf _ ka) g1 ht (lv _ ka) (evLast _ _ _ _) fun u k₆ hu => ?_
    subst hu
    refine (told_spec (s := { s₅ with toks := k₆ }) rm₁ (by omega) ok (enOf _ a1).top ht rc (by rw [(oks (j + 1)).1]; exact h2) (by rw [(oks (j + 1)).1]; exact hsz) (oks (j + 1)).2 hcz).mono fun v s₆ h₆ => ?_
    obtain ⟨k56, R₆, as₆, rfl, rd₆, in₆⟩ := h₆
    have kk56 := kp_k k56
    refine ⟨vs.toArray, pS.keeps kk56, ?_, fun h₇ p₇ sb₇ => ?_⟩
    · rw [List.size_toArray, len]
      exact Nat.le_trans (show j + 2 ≤ 1000 by omega) (by decide)
    have up : ∀ b o, b ≠ S → s₆.heap.get? b = some o → h₇.get? b = some o := fun b o hb e => sb₇.extBut b o hb e
    have up5 : ∀ b o, b ≠ S → s₅.heap.get? b = some o → h₇.get? b = some o := fun b o hb e => up b o hb (kk56 b o e)
    have ne₆ : ∀ a ∈ as₆, a ≠ S := fun a ha e => by
      rcases in₆ a ha with z | z
      · exact ne₅ a (hbs a z) e
      · obtain ⟨o, _, ho, _⟩ := pS
        have z' : s₅.heap.get? a = none := z
        rw [e, ho] at z'; cases z'
    refine wpS.execs_nil ⟨M - (j + 1), by omega, j + 1, by omega, rfl, ?_, a2.but offS up5, a3.but offS up5, vs ++ [.ref R₆], as₅ ++ as₆, by simpa using p₇, ?_, fun a ha => ?_⟩
    · have := kp_but (t := s₆.toks) (kp_trans a1 (kp_trans (kp_tok k₆) k56)) sb₇ nSs
      exact this
    · rw [List.range_succ, List.map_append]
      exact RdAll.append (rdS.frame fun a ha o e => up5 a o (ne₅ a ha) e) (RdAll.one (rd₆.frame fun a ha o e => up a o (ne₆ a ha) e))
    · rcases List.mem_append.mp ha with ha | ha
      · exact ne₅ a ha
      · exact ne₆ a ha
end
end Nq
end NqStatesPart

section NqNumPart
open PySem PySem.W PySem.Calls PyProof.Rows
set_option linter.unusedVariables false
set_option maxRecDepth 100000
namespace Nq
theorem hi_lo (wd : Nat) (x : Int) : hi wd x = (lo wd x).reverse := by
  unfold hi lo
  apply List.ext_getElem
  · simp
  · intro k h1 h2
    simp only [List.length_map, List.length_range] at h1
    rw [List.getElem_reverse]
    simp only [List.getElem_map, List.getElem_range, List.length_map, List.length_range]
    have e : ((wd : Int) - 1 - k).toNat = wd - 1 - k := by omega
    rw [e]
theorem lo_length (wd : Nat) (x : Int) : (lo wd x).length = wd := by simp [lo]
theorem hi_length (wd : Nat) (x : Int) : (hi wd x).length = wd := by simp [hi]
theorem hi_rev (wd : Nat) (x : Int) : (hi wd x).reverse = lo wd x := by rw [hi_lo, List.reverse_reverse]
theorem octet {x : Int} : ((x.fmod 256).toNat.toUInt8).toNat = (x % 256).toNat := by
  rw [Int.fmod_eq_emod_of_nonneg x (by decide)]
  have h1 := Int.emod_nonneg x (show (256 : Int) ≠ 0 by decide)
  have h2 := Int.emod_lt_of_pos x (show (0 : Int) < 256 by decide)
  rw [Nat.toUInt8, UInt8.toNat_ofNat']
  omega
theorem nats_hi2 (x : Int) : nats (hi 2 x) = [(x / 256 % 256).toNat, (x % 256).toNat] := by
  show [((x.fdiv 256).fmod 256).toNat.toUInt8.toNat, ((x.fdiv 1).fmod 256).toNat.toUInt8.toNat] = _
  rw [octet, octet]
  rw [Int.fdiv_eq_ediv_of_nonneg _ (by decide), Int.fdiv_eq_ediv_of_nonneg _ (by decide)]
  show [(x / 256 % 256).toNat, (x / 1 % 256).toNat] = _
  rw [Int.ediv_one]
theorem nats_hi3 (x : Int) : nats (hi 3 x) = [(x / 65536 % 256).toNat, (x / 256 % 256).toNat, (x % 256).toNat] := by
  show [((x.fdiv 65536).fmod 256).toNat.toUInt8.toNat, ((x.fdiv 256).fmod 256).toNat.toUInt8.toNat, ((x.fdiv 1).fmod 256).toNat.toUInt8.toNat] = _
  rw [octet, octet, octet]
  rw [Int.fdiv_eq_ediv_of_nonneg _ (by decide), Int.fdiv_eq_ediv_of_nonneg _ (by decide), Int.fdiv_eq_ediv_of_nonneg _ (by decide)]
  show [(x / 65536 % 256).toNat, (x / 256 % 256).toNat, (x / 1 % 256).toNat] = _
  rw [Int.ediv_one]
/-- numbers of a width: the octets, high ones first, stand in the numbers' order -/
theorem hi_mono {wd : Nat} (hw : wd = 2 ∨ wd = 3) {a b : Int} (ha : 0 ≤ a ∧ a < 256 ^ wd) (hb : 0 ≤ b ∧ b < 256 ^ wd) : nats (hi wd a) < nats (hi wd b) ↔ a < b := by
  rcases hw with rfl | rfl
  · rw [nats_hi2, nats_hi2, List.cons_lt_cons_iff, List.cons_lt_cons_iff]
    have e : (256 : Int) ^ 2 = 65536 := by decide
    rw [e] at ha hb
    simp only [List.not_lt_nil, and_false, or_false]
    omega
  · rw [nats_hi3, nats_hi3, List.cons_lt_cons_iff, List.cons_lt_cons_iff, List.cons_lt_cons_iff]
    have e : (256 : Int) ^ 3 = 16777216 := by decide
    rw [e] at ha hb
    simp only [List.not_lt_nil, and_false, or_false]
    omega
/-- one pass over the words -/
def passed (nums : List Int) (ch : Nat) : List Int := (List.range nums.length).map fun k => if ch ≤ k ∧ k + ch < nums.length then mid (nums.getD (k - ch) 0) (nums.getD k 0) (nums.getD (k + ch) 0) else nums.getD k 0
theorem passed_length (nums : List Int) (ch : Nat) : (passed nums ch).length = nums.length := by simp [passed]
end Nq
end NqNumPart

section NqPassPart
open PySem PySem.W PySem.Calls PyProof.Rows
set_option linter.unusedVariables false
set_option maxRecDepth 100000
namespace Nq
theorem flat_cut {wd : Nat} : ∀ {words : List (List UInt8)}, (∀ l ∈ words, l.length = wd) → ∀ (i : Nat) (x : List UInt8), words[i]? = some x → (words.flatten.drop (i * wd)).take wd = x
  | [], _, i, x, h => by simp at h
  | y :: r, hw, 0, x, h => by
    simp at h; subst h
    have := hw y (.head _)
    rw [Nat.zero_mul, List.drop_zero, List.flatten_cons, ← this, List.take_left]
  | y :: r, hw, i + 1, x, h => by
    have e := hw y (.head _)
    rw [List.flatten_cons, Nat.succ_mul, Nat.add_comm, ← List.drop_drop, ← e, List.drop_left, e]
    exact flat_cut (fun l hl => hw l (.tail _ hl)) i x (by simpa using h)
theorem range_getD {α β : Type} (l : List α) (d : α) (f : α → β) : (List.range l.length).map (fun i => f (l.getD i d)) = l.map f := by
  apply List.ext_getElem
  · simp
  · intro i h1 h2
    simp only [List.length_map, List.length_range] at h1
    simp only [List.getElem_map, List.getElem_range]
    rw [List.getD_eq_getElem?_getD, List.getElem?_eq_getElem h1]; rfl
theorem mem_getD {nums : List Int} {k : Nat} (hk : k < nums.length) : nums.getD k 0 ∈ nums := by
  rw [List.getD_eq_getElem?_getD, List.getElem?_eq_getElem hk]
  exact List.getElem_mem _
section
variable {b : Bool} {prog : Program} {w : World} {A : Around} {s : Shared} {env : Env} {h : Heap} {q : Program} {mean : ExcName → Option Value} {mg mb : Str → Option Value} {E : Value → Shared → Prop}
theorem st_new {M : Model} {s₀ : Shared} {x : Str} {v : Value} {Q : Unit → Shared → Prop} (W : Wf s.heap env) (hm : May env x) (k : Keeps s₀ s) (new : s₀.heap.get? (slotOf env x) = none)
    (h : ∀ h' tk, Wf h' env → Has h' env x v → (∀ y u, y ≠ x → Has s.heap env y u → Has h' env y u) → Heap.SameBut (slotOf env x) s.heap h' → Keeps s₀ { s with heap := h', toks := tk } → Q () { s with heap := h', toks := tk }) :
    wpAny M A (storeName env x v) Q E s :=
  st_name W hm fun h' tk a b c d => h h' tk a b c d (kp_but k d new)
theorem ev_cut {value e₁ e₂ : Expr} {p pos : Pos} {bs : List UInt8} {i j : Nat} {Q : Value → Shared → Prop} (x : EvV prog w A s.heap env value (fun u => ∃ t, u = .bytes bs.toArray t)) (y : EvI prog w A s.heap env e₁ i) (z : EvI prog w A s.heap env e₂ j) (hi : i ≤ bs.length) (hj : j ≤ bs.length) (hz : bs.length ≤ 1000000)
    (hq : ∀ h' t k, (∀ b o, s.heap.get? b = some o → h'.get? b = some o) → Q (.bytes ((bs.drop i).take (j - i)).toArray t) { s with heap := h', toks := k })
    (ht : ∀ o r, letTemporaryGo value o r = Pure.pure () := by intro _ _; rfl) :
    wpAny (model prog w) A (eval (.Subscript value (.Slice (some e₁) (some e₂) none p) pos) env) Q E s := by
  refine wpAny_Subscript_Slice FB.slot_bytes_getitem.lookup (x.at (fun _ _ e => e) fun u k hu => ?_) ht
  obtain ⟨t, rfl⟩ := hu
  refine wpAny_Slice ?_
  show wpAny (model prog w) A (eval e₁ env) _ _ _
  refine y { s with toks := k } (fun _ _ e => e) _ _ fun u k₁ hu => ?_
  obtain ⟨t₁, rfl⟩ := hu
  show wpAny (model prog w) A (eval e₂ env) _ _ _
  refine z { s with toks := k₁ } (fun _ _ e => e) _ _ fun u k₂ hu => ?_
  obtain ⟨t₂, rfl⟩ := hu
  refine wpAny_pure ⟨typeIs_bytes _ _ _, ?_⟩
  have hsz : (KBy.picked bs.toArray (some (i : Int)) (some (j : Int))).size ≤ sizeLine := Nat.le_trans (KBc.size_picked_le _ _ _) (by rw [List.size_toArray]; exact Nat.le_trans hz (by decide))
  refine getItem_meets (typeIs_bytes _ _ _) (by decide) FB.slot_bytes_getitem FB.entry_bytes_getitem (FB.args_bytes_getitem_2 _ _) (KBc.meets_slice2 bs.toArray t _ (.int i t₁) (.int j t₂)) ⟨Heap.IsSliceOf.new _ _ _ _, hsz, fun t' k' => ?_⟩
  have e : KBy.picked bs.toArray (some (i : Int)) (some (j : Int)) = ((bs.drop i).take (j - i)).toArray := by
    rw [KBc.picked_eq]
    simp only [Option.elim_some, List.size_toArray, clipAt_nat, Nat.min_eq_left hi, Nat.min_eq_left hj]
  rw [e]
  exact hq _ _ _ fun b o e => Heap.get?_push_of_some _ e
theorem ev_list3 {pos : Pos} {e₁ e₂ e₃ : Expr} {P₁ P₂ P₃ : Value → Prop} {Q : Value → Shared → Prop}
    (x : EvV prog w A s.heap env e₁ P₁) (y : EvV prog w A s.heap env e₂ P₂) (z : EvV prog w A s.heap env e₃ P₃)
    (g : ∀ u v z k, P₁ u → P₂ v → P₃ z → Q (.ref s.heap.objs.size) { s with heap := s.heap.push { cls := .type "list", data := .seq #[u, v, z] }, toks := k })
    (he : starEach [e₁, e₂, e₃] env = (false, eval e₁ env) :: starEach [e₂, e₃] env := by rfl) (he₂ : starEach [e₂, e₃] env = (false, eval e₂ env) :: starEach [e₃] env := by rfl) (he₃ : starEach [e₃] env = (false, eval e₃ env) :: starEach [] env := by rfl) :
    wpAny (model prog w) A (eval (.List [e₁, e₂, e₃] pos) env) Q E s :=
  wpAny_List_spliced (args_cons (x.at (fun _ _ e => e) fun u k hu => args_cons (y { s with toks := k } (fun _ _ e => e) _ _ fun v k' hv => args_cons (z { s with toks := k' } (fun _ _ e => e) _ _ fun v' k'' hv' => args_nil ⟨show 3 ≤ sizeLine by decide, g _ _ _ _ hu hv hv'⟩) he₃) he₂) he)
set_option maxHeartbeats 4000000 in
theorem pass_spec {n : Nat} {fa : Addr} {nums : List Int} {wd ch : Nat} {t tw tc : Tok} (rm : Rm A n) (hn : n ≤ 70) (ok : Ok q mg) (T : Gd q mean mg mb s.heap) (hf : mg (dAt 8).name = some (.ref fa))
    (hw : wd = 2 ∨ wd = 3) (hnum : ∀ x ∈ nums, 0 ≤ x ∧ x < 256 ^ wd) (h2 : 2 ≤ nums.length) (hsz : nums.length ≤ 1000) (hcz : ch ≤ 1000) :
    wpS true (model prog w) A (call (.ref fa) [.bytes (nums.map (lo wd)).flatten.toArray t, .int wd tw, .int ch tc]) (fun v s' => Keeps s s' ∧ ∃ u, v = .bytes ((passed nums ch).map (lo wd)).flatten.toArray u) s := by
  obtain ⟨a, o, pm, code, doc, e1, e2, e3, e4⟩ := T.fn (dAt 8) (ok.defs 8 (by simp))
  rw [hf] at e1
  cases e1
  refine callDef (fd := fdAt 8 pm code doc) (binds := [(Str.ofString "track", .bytes (nums.map (lo wd)).flatten.toArray t), (Str.ofString "width", .int wd tw), (Str.ofString "channels", .int ch tc)]) rm (by omega) e2 e3 T.nolimit e4 rfl rfl rfl ?_ ?_ ?_
  · intro L x hx
    simp only [List.mem_cons, List.not_mem_nil, or_false] at hx
    rcases hx with rfl | rfl | rfl
    · exact .inl rfl
    · exact .inr ⟨rfl, rfl⟩
    · exact .inl rfl
  · intro L x hx
    simp only [List.mem_cons, List.not_mem_nil, or_false] at hx
    rcases hx with rfl | rfl | rfl
    · exact .inl ⟨rfl, rfl⟩
    · exact .inr ⟨rfl, rfl⟩
    · exact .inl ⟨rfl, rfl⟩
  intro s₁ k₁ wf₁ has₁
  generalize hA : A.deeper _ = A₁
  have rm₁ : Rm A₁ (n + 1) := by rw [← hA]; exact rm.deeper _
  have newL : s.heap.get? (callEnvC (fdAt 8 pm code doc) s.heap.objs.size fa).locals = none := fresh_size _ (Nat.le_refl _)
  have newT : s.heap.get? (slotOf (callEnvC (fdAt 8 pm code doc) s.heap.objs.size fa) (Str.ofString "turned")) = none := slot_new (.inr ⟨rfl, rfl⟩)
  have slT : slotOf (callEnvC (fdAt 8 pm code doc) s.heap.objs.size fa) (Str.ofString "turned") ≠ (callEnvC (fdAt 8 pm code doc) s.heap.objs.size fa).locals := Nat.ne_of_gt (show s.heap.objs.size < s.heap.objs.size + 2 by omega)
  let sc1 : Scope := sc [(Str.ofString ".0", .local), (Str.ofString "k", .local), (Str.ofString "turned", .free), (Str.ofString "width", .free)]
  let L1 : Addr := s.heap.objs.size + 1
  let L2 : Addr := s.heap.objs.size + 2
  have lw : (callEnvC (fdAt 8 pm code doc) s.heap.objs.size fa).kindOf (Str.ofString "width") = some .cell := rfl
  have lt : (callEnvC (fdAt 8 pm code doc) s.heap.objs.size fa).kindOf (Str.ofString "turned") = some .cell := rfl
  have mt : May (callEnvC (fdAt 8 pm code doc) s.heap.objs.size fa) (Str.ofString "turned") := .inr ⟨rfl, rfl⟩
  have lk : (callEnvC (fdAt 8 pm code doc) s.heap.objs.size fa).kindOf (Str.ofString "k") = some .local := rfl
  have lwo : (callEnvC (fdAt 8 pm code doc) s.heap.objs.size fa).kindOf (Str.ofString "words") = some .local := rfl
  have lma : (callEnvC (fdAt 8 pm code doc) s.heap.objs.size fa).kindOf (Str.ofString "made") = some .local := rfl
  have g1 : (callEnvC (fdAt 8 pm code doc) s.heap.objs.size fa).kindOf (Str.ofString "range") = some .globalImplicit := rfl
  have g2 : (callEnvC (fdAt 8 pm code doc) s.heap.objs.size fa).kindOf (Str.ofString "len") = some .globalImplicit := rfl
  have g3 : (callEnvC (fdAt 8 pm code doc) s.heap.objs.size fa).kindOf (dAt 1).name = some .globalImplicit := rfl
  have g4 : (callEnvC (fdAt 8 pm code doc) s.heap.objs.size fa).kindOf (dAt 4).name = some .globalImplicit := rfl
  have gi : interactive (callEnvC (fdAt 8 pm code doc) s.heap.objs.size fa) = false := rfl
  have cc1 : CC (callEnvC (fdAt 8 pm code doc) s.heap.objs.size fa) sc1 [(Str.ofString "width", L1), (Str.ofString "turned", L2)] := ⟨rfl, fun p hp => by
    simp only [List.mem_cons, List.not_mem_nil, or_false] at hp
    rcases hp with rfl | rfl <;> rfl, List.Pairwise.cons (fun p hp => by rw [List.mem_singleton.mp hp]; show Str.ofString "width" ≠ Str.ofString "turned"; decide) (List.pairwise_singleton _ _), rfl, by decide⟩
  have hsw : ∀ elt iter px pos py, pos.line = py.line → swapsWith (.ListComp elt [⟨.Name (Str.ofString "k") px, iter, [], 0⟩] sc1 pos) (some (.Name (Str.ofString "words") py)) pos.line (callEnvC (fdAt 8 pm code doc) s.heap.objs.size fa) = Pure.pure true := fun elt iter px pos py e => by
    show Pure.pure (_ && (py.line == pos.line) && _) = _
    rw [e, beq_self_eq_true]; rfl
  have kk : ∀ C, (compE (callEnvC (fdAt 8 pm code doc) s.heap.objs.size fa) sc1 [(Str.ofString "width", L1), (Str.ofString "turned", L2)] C).kindOf (Str.ofString "k") = some .local := fun _ => rfl
  have kt : ∀ C, (compE (callEnvC (fdAt 8 pm code doc) s.heap.objs.size fa) sc1 [(Str.ofString "width", L1), (Str.ofString "turned", L2)] C).kindOf (Str.ofString "turned") = some .cell := fun _ => rfl
  have kw : ∀ C, (compE (callEnvC (fdAt 8 pm code doc) s.heap.objs.size fa) sc1 [(Str.ofString "width", L1), (Str.ofString "turned", L2)] C).kindOf (Str.ofString "width") = some .cell := fun _ => rfl
  have ct : ∀ C, (compE (callEnvC (fdAt 8 pm code doc) s.heap.objs.size fa) sc1 [(Str.ofString "width", L1), (Str.ofString "turned", L2)] C).cells.lookup (Str.ofString "turned") = (callEnvC (fdAt 8 pm code doc) s.heap.objs.size fa).cells.lookup (Str.ofString "turned") := fun _ => rfl
  have cw : ∀ C, (compE (callEnvC (fdAt 8 pm code doc) s.heap.objs.size fa) sc1 [(Str.ofString "width", L1), (Str.ofString "turned", L2)] C).cells.lookup (Str.ofString "width") = (callEnvC (fdAt 8 pm code doc) s.heap.objs.size fa).cells.lookup (Str.ofString "width") := fun _ => rfl
  have gl : (callEnvC (fdAt 8 pm code doc) s.heap.objs.size fa).globals = mainGlobals := rfl
  have bl : (callEnvC (fdAt 8 pm code doc) s.heap.objs.size fa).builtins = builtinsNs := rfl
  generalize callEnvC (fdAt 8 pm code doc) s.heap.objs.size fa = env at *
  have fn : env.scope.kind = .function := wf₁.fn
  have enOf : ∀ s' : Shared, Keeps s s' → En q mean mg mb s'.heap env := fun s' k => ⟨T.keeps (kp_k k), ok, fn, gl, bl⟩
  have htr : Has s₁.heap env (Str.ofString "track") (.bytes (nums.map (lo wd)).flatten.toArray t) := has₁ _ (.head _)
  have hwi : Has s₁.heap env (Str.ofString "width") (.int wd tw) := has₁ _ (.tail _ (.head _))
  have hch : Has s₁.heap env (Str.ofString "channels") (.int ch tc) := has₁ _ (.tail _ (.tail _ (.head _)))
  obtain ⟨ba, hb, _⟩ := fnAt T (ok.defs 1 (by simp))
  obtain ⟨me, hm, _⟩ := fnAt T (ok.defs 4 (by simp))
  have lvb : ∀ s', Keeps s s' → ∃ o fd, s'.heap.get? ba = some o ∧ o.data = .func fd := fun s' k => fnLive (enOf s' k).top (ok.defs 1 (by simp)) hb
  have lvm : ∀ s', Keeps s s' → ∃ o fd, s'.heap.get? me = some o ∧ o.data = .func fd := fun s' k => fnLive (enOf s' k).top (ok.defs 4 (by simp)) hm
  have wd1 : 1 ≤ wd := by omega
  have wd3 : wd ≤ 3 := by omega
  have lenM : nums.length * wd ≤ 3000 := Nat.le_trans (Nat.mul_le_mul hsz wd3) (by decide)
  have lenLo : ∀ l ∈ nums.map (lo wd), l.length = wd := fun l hl => by obtain ⟨x, _, rfl⟩ := List.mem_map.mp hl; exact lo_length wd x
  have lenHi : ∀ l ∈ nums.map (hi wd), l.length = wd := fun l hl => by obtain ⟨x, _, rfl⟩ := List.mem_map.mp hl; exact hi_length wd x
  have fl1 : (nums.map (lo wd)).flatten.length = nums.length * wd := by rw [flat_length lenLo, List.length_map]
  have fl2 : (nums.map (hi wd)).flatten.length = nums.length * wd := by rw [flat_length lenHi, List.length_map]
  -- turned = _byteswap(track, width)
  refine wpS.execs_cons (assignS ?_ rfl)
  refine ev_def2 (fa := ba) (enOf s₁ k₁) g3 hb (lvb s₁ k₁) (evName fn htr) (evName fn hwi) fun u v k hu hv => ?_
  subst hu hv
  refine (swap_spec (s := { s₁ with toks := k }) rm₁ (by omega) ok (enOf s₁ k₁).top hb wd1 lenLo (by omega) (by omega)).mono fun v s₂ h₂ => ?_
  obtain ⟨k₂, tt, rfl⟩ := h₂
  rw [List.map_map, show (List.reverse ∘ lo wd) = hi wd from funext fun x => (hi_lo wd x).symm]
  have k12 := kp_k (kp_trans (kp_tok k) k₂)
  have K2 : Keeps s s₂ := kp_trans k₁ (kp_trans (kp_tok k) k₂)
  refine st_new (wf₁.keeps k12) mt K2 newT fun h₃ tk₃ wf₃ hta oth₃ sb₃ K3 => ?_
  have hwi₃ := oth₃ _ _ (by decide) (hwi.keeps k12)
  have hch₃ := oth₃ _ _ (by decide) (hch.keeps k12)
  -- words
  refine wpS.execs_cons (st_comp (s := { s₂ with heap := h₃, toks := tk₃ }) (P := fun i v => ∃ t, v = .int ((0 : Int) + i * (wd : Int)) t) (n := nums.length) (scope := sc1) (cl := [(Str.ofString "width", L1), (Str.ofString "turned", L2)]) (fun i => .bytes (hi wd (nums.getD i 0))) wf₃ cc1 (Nat.le_trans hsz (by decide)) (hsw _ _ _ ⟨27, 12, 27, 71⟩ _ rfl) lwo ?_
    (fun C => .inl (kk C)) (fun C => by rw [slot_local (kk C)]; exact Nat.le_refl _) ?_ ?_)
  · refine wpS.of_any (ev_range3 (s := { s₂ with heap := h₃, toks := tk₃ }) (enOf _ K3) g1 evConst (evLenB (enOf _ K3) g2 (fun s' ks Q E hq => ev_name fn (hta.keeps ks) (hq _ s'.toks ⟨tt, rfl⟩)) (by omega)) (evInt fn hwi₃) (by omega) (by omega) fun r s₄ t₁ t₂ t₃ hr k₄ => ⟨k₄, ?_⟩)
    rw [fl2] at hr
    exact src_range rm₁.handled hr (small_steps _ _ wd1 (by omega) (by omega)) (size_steps _ _ wd1)
  · intro i v C s₄ hi' hP k₄ wf₄ hk₄ tr₄
    obtain ⟨tk, rfl⟩ := hP
    have ht₄ := tr₄ _ _ hta (kt C) lt (ct C)
    have hw₄ := tr₄ _ _ hwi₃ (kw C) lw (cw C)
    have fn₄ := wf₄.fn
    have him : i * wd + wd ≤ nums.length * wd := by rw [← Nat.succ_mul]; exact Nat.mul_le_mul_right _ hi'
    have ei : ((0 : Int) + (i : Int) * (wd : Int)) = ((i * wd : Nat) : Int) := by push_cast; omega
    rw [ei] at hk₄
    have ej : (((i * wd : Nat) : Int) + (wd : Int)) = ((i * wd + wd : Nat) : Int) := by push_cast; omega
    have evj := evAdd (A := A₁) (prog := prog) (w := w) (pos := ⟨27, 22, 27, 31⟩) (evInt (pos := ⟨27, 22, 27, 23⟩) fn₄ hk₄) (evInt (pos := ⟨27, 26, 27, 31⟩) fn₄ hw₄)
    rw [ej] at evj
    refine wpS.of_any (ev_cut (bs := (nums.map (hi wd)).flatten) (i := i * wd) (j := i * wd + wd) (fun s' ks Q E hq => ev_name fn₄ (ht₄.keeps ks) (hq _ s'.toks ⟨tt, rfl⟩)) (evInt fn₄ hk₄) evj (by omega) (by omega) (by omega) fun h' t' k' kp' => ⟨kp_of kp', [], ?_, fun _ h => nomatch h⟩)
    rw [Nat.add_sub_cancel_left, flat_cut lenHi i (hi wd (nums.getD i 0)) (by rw [List.getElem?_map, List.getD_eq_getElem?_getD, List.getElem?_eq_getElem hi']; rfl)]
    exact .bytes _ _
  · intro v h₄ tk₄ as₄ wf₄ hwo oth₄ kp₄ rd₄ fr₄
    obtain ⟨Wd, vs, bs, rfl, hWd, rdW, easW⟩ := rd₄.list_inv
    have evs : (List.range nums.length).map (fun i => Dt.bytes (hi wd (nums.getD i 0))) = (nums.map (hi wd)).map .bytes := by rw [range_getD nums 0 fun x => Dt.bytes (hi wd x), List.map_map]; rfl
    rw [evs] at rdW
    obtain ⟨bW, _⟩ := rdW.bytes
    have nL : ∀ b o, s.heap.get? b = some o → b ≠ env.locals := fun b o e q => by rw [q, newL] at e; cases e
    have K4 : Keeps s { s₂ with heap := h₄, toks := tk₄ } := by
      have kk := kp_k K3
      obtain ⟨h', t', rfl, k⟩ := K2
      exact ⟨h₄, tk₄, rfl, fun b o e => kp₄ b o (nL b o e) (kk b o e)⟩
    have nWd : s.heap.get? Wd = none := kp_none K3 (fr₄ Wd (by rw [easW]; exact .head _))
    have WdL : Wd ≠ env.locals := (wf₃.offs (fr₄ Wd (by rw [easW]; exact .head _))).1
    have lvs : vs.length = nums.length := by rw [bW.length, List.length_map]
    have hwi₄ := oth₄ _ _ (by decide) hwi₃
    have hch₄ := oth₄ _ _ (by decide) hch₃
    -- made = []
    refine wpS.execs_cons (assignS (wpS.of_any (wpAny_List_spliced (args_nil ⟨show 0 ≤ sizeLine by decide, ?_⟩))) rfl)
    dsimp only
    generalize hh₅ : h₄.push { cls := .type "list", data := .seq ([] : List Value).toArray } = h₅
    generalize hMd : h₄.objs.size = Md
    have k45 : ∀ b o, h₄.get? b = some o → h₅.get? b = some o := fun b o e => by rw [← hh₅]; exact Heap.get?_push_of_some _ e
    have pM₅ : PlainL h₅ Md ([] : List Value).toArray := by rw [← hh₅, ← hMd]; exact ⟨_, _, Heap.get?_push_size _ rfl, rfl, rfl, rfl⟩
    have nM : h₄.get? Md = none := fresh_size _ (by rw [hMd]; exact Nat.le_refl _)
    have nMs : s.heap.get? Md = none := kp_none K4 nM
    have offM : Off env Md := wf₄.offs nM
    have WM : Wd ≠ Md := fun e => by obtain ⟨o, ho, _⟩ := hWd; rw [e, nM] at ho; cases ho
    have K5 : Keeps s { s₂ with heap := h₅, toks := tk₄ } := kp_trans K4 ⟨h₅, tk₄, rfl, k45⟩
    refine st_local (s := { s₂ with heap := h₅, toks := tk₄ }) (wf₄.keeps k45) lma K5 newL fun h₆ tk₆ wf₆ hma oth₆ sb₆ K6 => ?_
    have kL : ∀ b o, b ≠ env.locals → h₅.get? b = some o → h₆.get? b = some o := fun b o hb e => sb₆.extBut b o hb e
    let Inv : Nat → Shared → Prop := fun i s' => Keeps s s' ∧ Wf s'.heap env ∧ Has s'.heap env (Str.ofString "words") (.ref Wd) ∧ Has s'.heap env (Str.ofString "made") (.ref Md) ∧ Has s'.heap env (Str.ofString "channels") (.int ch tc) ∧ Has s'.heap env (Str.ofString "width") (.int wd tw) ∧
      s'.heap.IsList Wd vs.toArray ∧ ∃ us, PlainL s'.heap Md us.toArray ∧ BytesAre us (((passed nums ch).take i).map (hi wd))
    have I₀ : Inv 0 { s₂ with heap := h₆, toks := tk₆ } := ⟨K6, wf₆, oth₆ _ _ (by decide) (hwo.keeps k45), hma, oth₆ _ _ (by decide) (hch₄.keeps k45), oth₆ _ _ (by decide) (hwi₄.keeps k45), hWd.at fun o e => kL Wd o WdL (k45 Wd o e), [], (let ⟨o, n, ho, hp⟩ := pM₅; ⟨o, n, kL Md o offM.1 ho, hp⟩), .nil⟩
    obtain ⟨b1, b2, b3, b4, b5, b6, b7, us₀, b8, b9⟩ := id I₀
    refine wpS.execs_cons (wpS.for (wpS.of_any (ev_range1 (s := { s₂ with heap := h₆, toks := tk₆ }) (enOf _ b1) g1 (evLenL (enOf _ b1) g2 (evName fn b3) b7 (by omega)) fun r s₇ t₁ t₂ t₃ hr k₇ => ?_)))
    rw [lvs] at hr
    refine wpS.of_any (srcR (n := nums.length) rm₁.handled hr (small_one (by omega) (by omega) (by omega) (by omega)) (size_one _) _ fun I St s₈ W st live nI k₈ => ?_)
    have k68 := kp_trans k₇ k₈
    have nIs : s.heap.get? I = none := kp_none (kp_trans K6 k₇) nI
    have offI : Off env I := (wf₆.keeps (kp_k k₇)).offs nI
    have IW : I ≠ Wd := fun e => by obtain ⟨o, ho, _⟩ := b7; have := kp_k k₇ _ _ ho; rw [← e, nI] at this; cases this
    have IM : I ≠ Md := fun e => by obtain ⟨o, _, ho, _⟩ := b8; have := kp_k k₇ _ _ ho; rw [← e, nI] at this; cases this
    have lenP := passed_length nums ch
    refine codeS.for Inv W st ⟨kp_trans K6 k68, b2.keeps (kp_k k68), b3.keeps (kp_k k68), b4.keeps (kp_k k68), b5.keeps (kp_k k68), b6.keeps (kp_k k68), b7.at (fun o e => kp_k k68 _ o e), us₀, b8.keeps (kp_k k68), b9⟩ ?_ ?_ ?_
    · rintro i s' h tk ⟨c1, c2, c3, c4, c5, c6, c7, us, c8, c9⟩ k
      have k' : ∀ b o, b ≠ I → s'.heap.get? b = some o → h.get? b = some o := fun b o hb e => k b o (fun z => hb (List.mem_singleton.mp z)) e
      exact ⟨kp_at c1 nIs k', c2.but offI k', c3.but offI k', c4.but offI k', c5.but offI k', c6.but offI k', c7.at (fun o e => k' Wd o (Ne.symm IW) e), us, (let ⟨o, n, ho, hp⟩ := c8; ⟨o, n, k' Md o (Ne.symm IM) ho, hp⟩), c9⟩
    · rintro i v s' hi' ⟨ti, rfl⟩ ⟨c1, c2, c3, c4, c5, c6, c7, us, c8, c9⟩ hst
      have ei : ((0 : Int) + (i : Int) * 1) = (i : Int) := by omega
      rw [ei]
      refine st_local c2 lk c1 newL fun h₉ tk₉ wf₉ hk₉ oth₉ sb₉ K9 => ?_
      have kL₉ : ∀ b o, b ≠ env.locals → s'.heap.get? b = some o → h₉.get? b = some o := fun b o hb e => sb₉.extBut b o hb e
      have d3 := oth₉ _ _ (by decide) c3
      have d4 := oth₉ _ _ (by decide) c4
      have d5 := oth₉ _ _ (by decide) c5
      have d6 := oth₉ _ _ (by decide) c6
      have d7 : h₉.IsList Wd vs.toArray := c7.at fun o e => kL₉ Wd o WdL e
      have d8 : PlainL h₉ Md us.toArray := let ⟨o, n, ho, hp⟩ := c8; ⟨o, n, kL₉ Md o offM.1 ho, hp⟩
      have st₉ : St (i + 1) h₉ := W.frame _ _ _ hst fun a ha o e => kL₉ a o (by rw [List.mem_singleton.mp ha]; exact offI.1) e
      have lus : us.length = i := by rw [c9.length, List.length_map, List.length_take]; omega
      have wat : ∀ k, k < nums.length → ∃ t, vs[k]? = some (.bytes (hi wd (nums.getD k 0)).toArray t) := fun k hk => bW.at k _ (by rw [List.getElem?_map, List.getD_eq_getElem?_getD, List.getElem?_eq_getElem hk]; rfl)
      -- after an append
      have done : ∀ (x : Int) (s₁₀ : Shared) (tx : Tok), Keeps { s' with heap := h₉, toks := tk₉ } s₁₀ → (passed nums ch)[i]? = some x → ∀ h', PlainL h' Md (us.toArray.push (.bytes (hi wd x).toArray tx)) → Heap.SameBut Md s₁₀.heap h' → Inv (i + 1) { s₁₀ with heap := h' } ∧ St (i + 1) h' := by
        intro x s₁₀ tx kk hx h' p' sb'
        have up : ∀ b o, b ≠ Md → h₉.get? b = some o → h'.get? b = some o := fun b o hb e => sb'.extBut b o hb (kp_k kk b o e)
        refine ⟨⟨?_, wf₉.but offM up, d3.but offM up, d4.but offM up, d5.but offM up, d6.but offM up, d7.at (fun o e => up Wd o WM e), us ++ [.bytes (hi wd x).toArray tx], by simpa using p', ?_⟩, ?_⟩
        · have := kp_but (t := s₁₀.toks) (kp_trans K9 kk) sb' nMs
          exact this
        · have e : ((passed nums ch).take (i + 1)).map (hi wd) = ((passed nums ch).take i).map (hi wd) ++ [hi wd x] := by
            rw [List.take_add_one, hx, Option.toList_some, List.map_append]; rfl
          rw [e]
          exact c9.snoc _ _
        · exact W.frame _ _ _ st₉ fun a ha o e => up a o (by rw [List.mem_singleton.mp ha]; exact IM) e
      have plen : us.toArray.size ≤ sizeLine := by rw [List.size_toArray, lus]; exact Nat.le_trans (show i ≤ 1000 by omega) (by decide)
      have pat : (passed nums ch)[i]? = some (if ch ≤ i ∧ i + ch < nums.length then mid (nums.getD (i - ch) 0) (nums.getD i 0) (nums.getD (i + ch) 0) else nums.getD i 0) := by
        unfold passed
        rw [List.getElem?_map, List.getElem?_range hi']; rfl
      have els : ¬ (ch ≤ i ∧ i + ch < nums.length) → ∀ tk' (Q : Flow → Shared → Prop), (∀ s₃, Inv (i + 1) s₃ ∧ St (i + 1) s₃.heap → Q .next s₃) → wpS true (model prog w) A₁ (execs [.Expr (.Call (.Attribute (.Name (Str.ofString "made") ⟨33, 12, 33, 16⟩) "append" ⟨33, 12, 33, 23⟩) [.Subscript (.Name (Str.ofString "words") ⟨33, 24, 33, 29⟩) (.Name (Str.ofString "k") ⟨33, 30, 33, 31⟩) ⟨33, 24, 33, 32⟩] [] ⟨33, 12, 33, 33⟩) ⟨33, 12, 33, 33⟩] env) Q { s' with heap := h₉, toks := tk' } := by
        intro hno tk' Q hQ
        rw [if_neg hno] at pat
        obtain ⟨tx, hx⟩ := wat i hi'
        refine wpS.execs_cons (appendS (s := { s' with heap := h₉, toks := tk' }) fn d4 d8 ?_ _ (hi := gi))
        refine wpS.of_any ((evItem (j := i) (evName fn d3) (evInt fn hk₉) d7 (by omega) (.inl ⟨by omega, rfl⟩) hx) { s' with heap := h₉, toks := tk' } (fun _ _ e => e) _ _ fun v k'' hv => ?_)
        subst hv
        exact ⟨us.toArray, d8, plen, fun h' p' sb' => wpS.execs_nil (hQ _ (done _ { s' with heap := h₉, toks := k'' } tx ⟨h₉, k'', rfl, fun _ _ e => e⟩ pat h' p' sb'))⟩
      refine wpS.execs_cons (ifS ?_)
      refine isTrue_chain (ev_name (s := { s' with heap := h₉, toks := tk₉ }) fn d5 (test_link (ev_name (s := { s' with heap := h₉, toks := tk₉ }) fn hk₉ (PyProof.Rows.le_int (wpAny_truthy_bool ?_)))))
      by_cases hc : ch ≤ i
      · rw [decide_eq_true (show (ch : Int) ≤ (i : Int) by omega), if_pos rfl]
        refine test_last ((evSub (evLenL (h := h₉) ⟨T.keeps (kp_k K9), ok, fn, gl, bl⟩ g2 (evName fn d3) d7 (by omega)) (evInt fn d5)) { s' with heap := h₉, toks := tk₉ } (fun _ _ e => e) _ _ fun v k' hv => ?_)
        obtain ⟨tv, rfl⟩ := hv
        refine PyProof.Rows.lt_int (wpAny_truthy_bool ?_)
        by_cases hd : i + ch < nums.length
        · rw [decide_eq_true (show (i : Int) < ((vs.length : Nat) : Int) - (ch : Int) by omega), if_pos rfl]
          rw [if_pos ⟨hc, hd⟩] at pat
          obtain ⟨tx, hx⟩ := wat (i - ch) (by omega)
          obtain ⟨ty, hy⟩ := wat i hi'
          obtain ⟨tz, hz⟩ := wat (i + ch) hd
          have Kt : Keeps s { s' with heap := h₉, toks := k' } := kp_trans K9 ⟨h₉, k', rfl, fun _ _ e => e⟩
          refine wpS.execs_cons (appendS (s := { s' with heap := h₉, toks := k' }) fn d4 d8 ?_ _ (hi := gi))
          refine callExprS (ev_global (s := { s' with heap := h₉, toks := k' }) (enOf _ Kt).top fn gl g4 hm (callB_fn (argsS_cons (wpS.of_any ?_))))
          refine ev_list3 (s := { s' with heap := h₉, toks := k' }) (evItem (j := i - ch) (evName fn d3) (evSub (evInt fn hk₉) (evInt fn d5)) d7 (by omega) (.inl ⟨by omega, by omega⟩) hx) (evItem (j := i) (evName fn d3) (evInt fn hk₉) d7 (by omega) (.inl ⟨by omega, rfl⟩) hy)
            (evItem (j := i + ch) (evName fn d3) (evAdd (evInt fn hk₉) (evInt fn d5)) d7 (by omega) (.inl ⟨by omega, by omega⟩) hz) fun u v z k'' hu hv hz' => ?_
          subst hu hv hz'
          generalize hh₁₀ : h₉.push { cls := .type "list", data := .seq #[.bytes (hi wd (nums.getD (i - ch) 0)).toArray tx, .bytes (hi wd (nums.getD i 0)).toArray ty, .bytes (hi wd (nums.getD (i + ch) 0)).toArray tz] } = h₁₀
          have k910 : ∀ b o, h₉.get? b = some o → h₁₀.get? b = some o := fun b o e => by rw [← hh₁₀]; exact Heap.get?_push_of_some _ e
          have lst : h₁₀.IsList h₉.objs.size #[.bytes (hi wd (nums.getD (i - ch) 0)).toArray tx, .bytes (hi wd (nums.getD i 0)).toArray ty, .bytes (hi wd (nums.getD (i + ch) 0)).toArray tz] := by rw [← hh₁₀]; exact ⟨_, Heap.get?_push_size _ rfl, rfl, _, rfl⟩
          have K10 : Keeps s { s' with heap := h₁₀, toks := k'' } := kp_trans K9 ⟨h₁₀, k'', rfl, k910⟩
          refine argsS_nil ⟨lvm _ K10, ?_⟩
          refine (median_spec (s := { s' with heap := h₁₀, toks := k'' }) (enc := hi wd) rm₁ (by omega) ok (enOf _ K10).top hm lst ?_).mono fun v s₁₁ h₁₁ => ?_
          · have inR : ∀ a ∈ [nums.getD (i - ch) 0, nums.getD i 0, nums.getD (i + ch) 0], 0 ≤ a ∧ a < 256 ^ wd := fun a ha => by
              simp only [List.mem_cons, List.not_mem_nil, or_false] at ha
              rcases ha with rfl | rfl | rfl
              · exact hnum _ (mem_getD (by omega))
              · exact hnum _ (mem_getD hi')
              · exact hnum _ (mem_getD hd)
            exact fun a ha c hc => hi_mono hw (inR a ha) (inR c hc)
          · obtain ⟨k₁₁, tm, rfl⟩ := h₁₁
            have kk11 : Keeps { s' with heap := h₉, toks := tk₉ } s₁₁ := kp_trans ⟨h₁₀, k'', rfl, k910⟩ k₁₁
            exact ⟨us.toArray, d8.keeps (kp_k kk11), plen, fun h' p' sb' => wpS.execs_nil (wpS.execs_nil ⟨rfl, done _ _ tm kk11 pat h' p' sb'⟩)⟩
        · rw [decide_eq_false (show ¬ (i : Int) < ((vs.length : Nat) : Int) - (ch : Int) by omega), if_neg (by decide)]
          exact els (fun z => hd z.2) _ _ fun s₃ h => wpS.execs_nil ⟨rfl, h⟩
      · rw [decide_eq_false (show ¬ (ch : Int) ≤ (i : Int) by omega), if_neg (by decide), if_neg (by decide)]
        exact els (fun z => hc z.1) _ _ fun s₃ h => wpS.execs_nil ⟨rfl, h⟩
    · rintro s' ⟨c1, c2, c3, c4, c5, c6, c7, us, c8, c9⟩
      dsimp only
      rw [← lenP, List.take_length] at c9
      have lenP' : ∀ l ∈ (passed nums ch).map (hi wd), l.length = wd := fun l hl => by obtain ⟨x, _, rfl⟩ := List.mem_map.mp hl; exact hi_length wd x
      have fl3 : ((passed nums ch).map (hi wd)).flatten.length = nums.length * wd := by rw [flat_length lenP', List.length_map, lenP]
      refine wpS.execs_cons (returnS ?_)
      refine callExprS (ev_global (enOf _ c1).top fn gl g3 hb (callB_fn (argsS_cons (wpS.of_any ?_))))
      refine MethodCall_ (Constant_bytes (join_method (callWith_method1 (args_cons (ev_name (s := { s' with toks := s'.toks + 1 }) fn c4 (args_nil ?_))))))
      refine join_call (s := { s' with toks := s'.toks + 1 }) c8.isList c9 (by omega) (by rw [List.length_map, lenP]; exact h2) fun tj kj => ?_
      refine argsS_cons (wpS.of_any (ev_name (s := { s' with toks := kj }) fn c6 (argsS_nil ⟨lvb _ (kp_trans c1 (kp_tok kj)), ?_⟩)))
      refine (swap_spec (s := { s' with toks := kj }) rm₁ (by omega) ok (enOf _ (kp_trans c1 (kp_tok kj))).top hb wd1 lenP' (by omega) (by omega)).mono fun v s₉ h₉ => ?_
      obtain ⟨k₉, tt', rfl⟩ := h₉
      refine ⟨kp_trans c1 (kp_trans (kp_tok kj) k₉), tt', ?_⟩
      rw [List.map_map, show (List.reverse ∘ hi wd) = lo wd from funext fun x => hi_rev wd x]
end
end Nq
end NqPassPart

section NqTracksPart
open PySem PySem.W PySem.Calls PyProof.Rows
set_option linter.unusedVariables false
set_option maxRecDepth 100000
namespace Nq
/-- the words after so many passes -/
def pit (ch : Nat) : Nat → List Int → List Int
  | 0, r => r
  | k + 1, r => passed (pit ch k r) ch
theorem pit_length (ch : Nat) (nums : List Int) : ∀ k, (pit ch k nums).length = nums.length
  | 0 => rfl
  | k + 1 => by rw [pit, passed_length, pit_length ch nums k]
theorem passed_in {nums : List Int} {ch : Nat} {B : Int} (h : ∀ x ∈ nums, 0 ≤ x ∧ x < B) : ∀ x ∈ passed nums ch, 0 ≤ x ∧ x < B := by
  intro x hx
  obtain ⟨k, hk, rfl⟩ := List.mem_map.mp hx
  have hk' := List.mem_range.mp hk
  split
  · rename_i hc
    have h1 := h _ (mem_getD (show k - ch < nums.length by omega))
    have h2 := h _ (mem_getD hk')
    have h3 := h _ (mem_getD hc.2)
    unfold mid
    omega
  · exact h _ (mem_getD hk')
theorem pit_in {nums : List Int} {ch : Nat} {B : Int} (h : ∀ x ∈ nums, 0 ≤ x ∧ x < B) : ∀ k, ∀ x ∈ pit ch k nums, 0 ≤ x ∧ x < B
  | 0 => h
  | k + 1 => passed_in (pit_in h k)
section
variable {b : Bool} {prog : Program} {w : World} {A : Around} {s : Shared} {env : Env} {h : Heap} {q : Program} {mean : ExcName → Option Value} {mg mb : Str → Option Value} {E : Value → Shared → Prop}
set_option maxHeartbeats 4000000 in
theorem tracks_spec {n : Nat} {fa : Addr} {nums : List Int} {wd ch P : Nat} {t tw tc tp : Tok} (rm : Rm A n) (hn : n ≤ 60) (ok : Ok q mg) (T : Gd q mean mg mb s.heap) (hf : mg (dAt 12).name = some (.ref fa))
    (hw : wd = 2 ∨ wd = 3) (hnum : ∀ x ∈ nums, 0 ≤ x ∧ x < 256 ^ wd) (h2 : 2 ≤ nums.length) (hsz : nums.length ≤ 1000) (hcz : ch ≤ 1000) (hP : P ≤ 1000) :
    wpS true (model prog w) A (call (.ref fa) [.bytes (nums.map (lo wd)).flatten.toArray t, .int wd tw, .int ch tc, .int P tp]) (fun v s' => Keeps s s' ∧ ∃ S us, v = .ref S ∧ s'.heap.IsList S us.toArray ∧ BytesAre us ((List.range (P + 1)).map fun k => ((pit ch k nums).map (lo wd)).flatten) ∧ s.heap.get? S = none) s := by
  obtain ⟨a, o, pm, code, doc, e1, e2, e3, e4⟩ := T.fn (dAt 12) (ok.defs 12 (by simp))
  rw [hf] at e1
  cases e1
  refine callDef (fd := fdAt 12 pm code doc) (binds := [(Str.ofString "track", .bytes (nums.map (lo wd)).flatten.toArray t), (Str.ofString "width", .int wd tw), (Str.ofString "channels", .int ch tc), (Str.ofString "passes", .int P tp)]) rm (by omega) e2 e3 T.nolimit e4 rfl rfl rfl ?_ ?_ ?_
  · intro L x hx
    simp only [List.mem_cons, List.not_mem_nil, or_false] at hx
    rcases hx with rfl | rfl | rfl | rfl <;> exact .inl rfl
  · intro L x hx
    simp only [List.mem_cons, List.not_mem_nil, or_false] at hx
    rcases hx with rfl | rfl | rfl | rfl <;> exact .inl ⟨rfl, rfl⟩
  intro s₁ k₁ wf₁ has₁
  generalize hA : A.deeper _ = A₁
  have rm₁ : Rm A₁ (n + 1) := by rw [← hA]; exact rm.deeper _
  have newL : s.heap.get? (callEnvC (fdAt 12 pm code doc) s.heap.objs.size fa).locals = none := fresh_size _ (Nat.le_refl _)
  have ltr : (callEnvC (fdAt 12 pm code doc) s.heap.objs.size fa).kindOf (Str.ofString "tracks") = some .local := rfl
  have ltu : (callEnvC (fdAt 12 pm code doc) s.heap.objs.size fa).kindOf (Str.ofString "turn") = some .local := rfl
  have g1 : (callEnvC (fdAt 12 pm code doc) s.heap.objs.size fa).kindOf (Str.ofString "range") = some .globalImplicit := rfl
  have g2 : (callEnvC (fdAt 12 pm code doc) s.heap.objs.size fa).kindOf (dAt 8).name = some .globalImplicit := rfl
  have gi : interactive (callEnvC (fdAt 12 pm code doc) s.heap.objs.size fa) = false := rfl
  have gl : (callEnvC (fdAt 12 pm code doc) s.heap.objs.size fa).globals = mainGlobals := rfl
  have bl : (callEnvC (fdAt 12 pm code doc) s.heap.objs.size fa).builtins = builtinsNs := rfl
  generalize callEnvC (fdAt 12 pm code doc) s.heap.objs.size fa = env at *
  have fn : env.scope.kind = .function := wf₁.fn
  have enOf : ∀ s' : Shared, Keeps s s' → En q mean mg mb s'.heap env := fun s' k => ⟨T.keeps (kp_k k), ok, fn, gl, bl⟩
  have htr : Has s₁.heap env (Str.ofString "track") (.bytes (nums.map (lo wd)).flatten.toArray t) := has₁ _ (.head _)
  have hwi : Has s₁.heap env (Str.ofString "width") (.int wd tw) := has₁ _ (.tail _ (.head _))
  have hch : Has s₁.heap env (Str.ofString "channels") (.int ch tc) := has₁ _ (.tail _ (.tail _ (.head _)))
  have hpa : Has s₁.heap env (Str.ofString "passes") (.int P tp) := has₁ _ (.tail _ (.tail _ (.tail _ (.head _))))
  obtain ⟨pa, hp, _⟩ := fnAt T (ok.defs 8 (by simp))
  have lvp : ∀ s', Keeps s s' → ∃ o fd, s'.heap.get? pa = some o ∧ o.data = .func fd := fun s' k => fnLive (enOf s' k).top (ok.defs 8 (by simp)) hp
  let tr : Nat → List UInt8 := fun k => ((pit ch k nums).map (lo wd)).flatten
  -- tracks = [track]
  refine wpS.execs_cons (assignS (wpS.of_any (wpAny_List_spliced (args_cons (ev_name fn htr (args_nil ⟨show 1 ≤ sizeLine by decide, ?_⟩))))) rfl)
  generalize hh₂ : s₁.heap.push { cls := .type "list", data := .seq [Value.bytes (nums.map (lo wd)).flatten.toArray t].toArray } = h₂
  generalize hS : s₁.heap.objs.size = S
  have k12 : ∀ b o, s₁.heap.get? b = some o → h₂.get? b = some o := fun b o e => by rw [← hh₂]; exact Heap.get?_push_of_some _ e
  have pS₂ : PlainL h₂ S [Value.bytes (nums.map (lo wd)).flatten.toArray t].toArray := by rw [← hh₂, ← hS]; exact ⟨_, _, Heap.get?_push_size _ rfl, rfl, rfl, rfl⟩
  have nS₁ : s₁.heap.get? S = none := fresh_size _ (by rw [hS]; exact Nat.le_refl _)
  have nS : s.heap.get? S = none := kp_none k₁ nS₁
  have offS : Off env S := wf₁.offs nS₁
  have K2 : Keeps s { s₁ with heap := h₂ } := kp_trans k₁ ⟨h₂, s₁.toks, rfl, k12⟩
  refine st_local (s := { s₁ with heap := h₂ }) (wf₁.keeps k12) ltr K2 newL fun h₃ tk₃ wf₃ hts oth₃ sb₃ K3 => ?_
  have kL : ∀ b o, b ≠ env.locals → h₂.get? b = some o → h₃.get? b = some o := fun b o hb e => sb₃.extBut b o hb e
  let Inv : Nat → Shared → Prop := fun i s' => Keeps s s' ∧ Wf s'.heap env ∧ Has s'.heap env (Str.ofString "tracks") (.ref S) ∧ Has s'.heap env (Str.ofString "channels") (.int ch tc) ∧ Has s'.heap env (Str.ofString "width") (.int wd tw) ∧
    ∃ us, PlainL s'.heap S us.toArray ∧ BytesAre us ((List.range (i + 1)).map tr)
  have I₀ : Inv 0 { s₁ with heap := h₃, toks := tk₃ } := ⟨K3, wf₃, hts, oth₃ _ _ (by decide) (hch.keeps k12), oth₃ _ _ (by decide) (hwi.keeps k12), [.bytes (nums.map (lo wd)).flatten.toArray t], (let ⟨o, n, ho, hp⟩ := pS₂; ⟨o, n, kL S o offS.1 ho, hp⟩), .cons _ _ .nil⟩
  have hpa₃ := oth₃ _ _ (by decide) (hpa.keeps k12)
  obtain ⟨b1, b2, b3, b4, b5, us₀, b6, b7⟩ := id I₀
  refine wpS.execs_cons (wpS.for (wpS.of_any (ev_range1 (s := { s₁ with heap := h₃, toks := tk₃ }) (enOf _ b1) g1 (evInt fn hpa₃) fun r s₄ t₁ t₂ t₃ hr k₄ => ?_)))
  refine wpS.of_any (srcR (n := P) rm₁.handled hr (small_one (by omega) (by omega) (by omega) (by omega)) (size_one _) _ fun I St s₅ W st live nI k₅ => ?_)
  have k35 := kp_trans k₄ k₅
  have nIs : s.heap.get? I = none := kp_none (kp_trans K3 k₄) nI
  have offI : Off env I := (wf₃.keeps (kp_k k₄)).offs nI
  have IS : I ≠ S := fun e => by obtain ⟨o, _, ho, _⟩ := b6; have := kp_k k₄ _ _ ho; rw [← e, nI] at this; cases this
  refine codeS.for Inv W st ⟨kp_trans K3 k35, b2.keeps (kp_k k35), b3.keeps (kp_k k35), b4.keeps (kp_k k35), b5.keeps (kp_k k35), us₀, b6.keeps (kp_k k35), b7⟩ ?_ ?_ ?_
  · rintro i s' h tk ⟨c1, c2, c3, c4, c5, us, c6, c7⟩ k
    have k' : ∀ b o, b ≠ I → s'.heap.get? b = some o → h.get? b = some o := fun b o hb e => k b o (fun z => hb (List.mem_singleton.mp z)) e
    exact ⟨kp_at c1 nIs k', c2.but offI k', c3.but offI k', c4.but offI k', c5.but offI k', us, (let ⟨o, n, ho, hp⟩ := c6; ⟨o, n, k' S o (Ne.symm IS) ho, hp⟩), c7⟩
  · rintro i v s' hi' ⟨ti, rfl⟩ ⟨c1, c2, c3, c4, c5, us, c6, c7⟩ hst
    refine st_local c2 ltu c1 newL fun h₆ tk₆ wf₆ hk₆ oth₆ sb₆ K6 => ?_
    have kL₆ : ∀ b o, b ≠ env.locals → s'.heap.get? b = some o → h₆.get? b = some o := fun b o hb e => sb₆.extBut b o hb e
    have d3 := oth₆ _ _ (by decide) c3
    have d4 := oth₆ _ _ (by decide) c4
    have d5 := oth₆ _ _ (by decide) c5
    have d6 : PlainL h₆ S us.toArray := let ⟨o, n, ho, hp⟩ := c6; ⟨o, n, kL₆ S o offS.1 ho, hp⟩
    have st₆ : St (i + 1) h₆ := W.frame _ _ _ hst fun a ha o e => kL₆ a o (by rw [List.mem_singleton.mp ha]; exact offI.1) e
    have lus : us.length = i + 1 := by rw [c7.length, List.length_map, List.length_range]
    obtain ⟨tl, hl⟩ := c7.at i (tr i) (by rw [List.getElem?_map, List.getElem?_range (by omega)]; rfl)
    refine wpS.execs_cons (appendS (s := { s' with heap := h₆, toks := tk₆ }) fn d3 d6 ?_ _ (hi := gi))
    refine ev_def3 (s := { s' with heap := h₆, toks := tk₆ }) (fa := pa) (enOf _ K6) g2 hp (lvp _ K6) (evItem (j := i) (evName fn d3) evNeg d6.isList (by omega) (.inr ⟨by omega, by omega⟩) hl) (evName fn d5) (evName fn d4) fun u v z k hu hv hz => ?_
    subst hu hv hz
    refine (pass_spec (s := { s' with heap := h₆, toks := k }) rm₁ (by omega) ok (enOf _ K6).top hp hw (pit_in hnum i) (by rw [pit_length]; exact h2) (by rw [pit_length]; exact hsz) hcz).mono fun v s₇ h₇ => ?_
    obtain ⟨k₇, tv, rfl⟩ := h₇
    have kk7 : Keeps { s' with heap := h₆, toks := tk₆ } s₇ := kp_trans (kp_tok k) k₇
    refine ⟨us.toArray, d6.keeps (kp_k kk7), ?_, fun h' p' sb' => ?_⟩
    · rw [List.size_toArray, lus]; exact Nat.le_trans (show i + 1 ≤ 1001 by omega) (by decide)
    have up : ∀ b o, b ≠ S → h₆.get? b = some o → h'.get? b = some o := fun b o hb e => sb'.extBut b o hb (kp_k kk7 b o e)
    refine wpS.execs_nil ⟨rfl, ⟨?_, wf₆.but offS up, d3.but offS up, d4.but offS up, d5.but offS up, us ++ [.bytes (tr (i + 1)).toArray tv], ?_, ?_⟩, ?_⟩
    · have := kp_but (t := s₇.toks) (kp_trans K6 kk7) sb' nS
      exact this
    · have e : us.toArray.push (Value.bytes (tr (i + 1)).toArray tv) = (us ++ [Value.bytes (tr (i + 1)).toArray tv]).toArray := by simp
      rw [← e]; exact p'
    · rw [List.range_succ, List.map_append]
      exact c7.snoc _ _
    · exact W.frame _ _ _ st₆ fun a ha o e => up a o (by rw [List.mem_singleton.mp ha]; exact IS) e
  · rintro s' ⟨c1, c2, c3, c4, c5, us, c6, c7⟩
    dsimp only
    refine wpS.execs_cons (returnS (wpS.of_any (ev_name fn c3 ?_)))
    exact ⟨c1, S, us, rfl, c6.isList, c7, nS⟩
end
end Nq
end NqTracksPart

section NqPlainPart
open PySem PySem.W PySem.Calls PyProof.Rows
set_option linter.unusedVariables false
set_option maxRecDepth 100000
namespace Nq
theorem getD_app_left {α : Type} (l r : List α) (d : α) {i : Nat} (h : i < l.length) : (l ++ r).getD i d = l.getD i d := by
  rw [List.getD_eq_getElem?_getD, List.getD_eq_getElem?_getD, List.getElem?_append_left h]
theorem getD_app_right {α : Type} (l r : List α) (d : α) {i : Nat} (h : l.length ≤ i) : (l ++ r).getD i d = r.getD (i - l.length) d := by
  rw [List.getD_eq_getElem?_getD, List.getD_eq_getElem?_getD, List.getElem?_append_right h]
theorem told_first {rows : List (List Int)} : (told rows).getD 0 [] = rows.getD 0 [] := rfl
theorem told_last {rows : List (List Int)} (h : 2 ≤ rows.length) : (told rows).getD (rows.length - 1) [] = rows.getD (rows.length - 1) [] := by
  unfold told
  rw [getD_app_right _ _ _ (by simp; omega)]
  have e : rows.length - 1 - ([rows.getD 0 []] ++ (List.range (rows.length - 2)).map (midRow rows)).length = 0 := by
    simp; omega
  rw [e]; rfl
theorem told_mid {rows : List (List Int)} {j : Nat} (h : j + 2 < rows.length) : (told rows).getD (j + 1) [] = midRow rows j := by
  unfold told
  rw [getD_app_left _ _ _ (by simp; omega), getD_app_right _ _ _ (by simp)]
  rw [List.getD_eq_getElem?_getD, List.length_singleton, Nat.add_sub_cancel, List.getElem?_map, List.getElem?_range (by omega)]
  rfl
theorem at_told_mid {rows : List (List Int)} {ch : Nat} (hch : ∀ r ∈ rows, r.length = ch) {j c : Nat} (h : j + 2 < rows.length) (hc : c < ch) : at2 (told rows) (j + 1) c = mid (at2 rows j c) (at2 rows (j + 1) c) (at2 rows (j + 2) c) := by
  rw [at2, told_mid h]
  unfold midRow
  rw [getRow_length hch (by omega), List.getD_eq_getElem?_getD, List.getElem?_map, List.getElem?_range hc]
  rfl
theorem at_told_first {rows : List (List Int)} {c : Nat} : at2 (told rows) 0 c = at2 rows 0 c := rfl
theorem at_told_last {rows : List (List Int)} {c : Nat} (h : 2 ≤ rows.length) : at2 (told rows) (rows.length - 1) c = at2 rows (rows.length - 1) c := by rw [at2, told_last h]; rfl
/-- the middle of three is settled from the side whose end stands -/
theorem mid_settles (a b c d : Int) : mid a (mid a b c) (mid b c d) = mid a b c ∧ mid a (mid a b c) c = mid a b c ∧ mid (mid d c b) (mid c b a) a = mid c b a ∧ mid c (mid c b a) a = mid c b a := by
  unfold mid
  refine ⟨?_, ?_, ?_, ?_⟩ <;> omega
section
variable {rows : List (List Int)} {ch : Nat}
theorem front_settles (h2 : 2 ≤ rows.length) (hch : ∀ r ∈ rows, r.length = ch) {c : Nat} (hc : c < ch) : ∀ i, i < rows.length → ∀ t, i ≤ t → at2 (it (t + 1) rows) i c = at2 (it t rows) i c
  | 0, _, t, _ => rfl
  | i + 1, hi, t, ht => by
    have ok := it_ok h2 hch
    obtain ⟨t', rfl⟩ : ∃ t', t = t' + 1 := ⟨t - 1, by omega⟩
    have ih := front_settles h2 hch hc i (by omega) t' (by omega)
    by_cases last : i + 1 = rows.length - 1
    · show at2 (told (it (t' + 1) rows)) (i + 1) c = _
      have := at_told_last (rows := it (t' + 1) rows) (c := c) (by rw [(ok _).1]; exact h2)
      rw [(ok _).1, ← last] at this
      exact this
    · have e1 : at2 (it (t' + 1 + 1) rows) (i + 1) c = mid (at2 (it (t' + 1) rows) i c) (at2 (it (t' + 1) rows) (i + 1) c) (at2 (it (t' + 1) rows) (i + 2) c) := at_told_mid (ok _).2 (by rw [(ok _).1]; omega) hc
      have e2 : at2 (it (t' + 1) rows) (i + 1) c = mid (at2 (it t' rows) i c) (at2 (it t' rows) (i + 1) c) (at2 (it t' rows) (i + 2) c) := at_told_mid (ok _).2 (by rw [(ok _).1]; omega) hc
      rw [e1, ih, e2]
      by_cases last2 : i + 2 = rows.length - 1
      · have e3 : at2 (it (t' + 1) rows) (i + 2) c = at2 (it t' rows) (i + 2) c := by
          have := at_told_last (rows := it t' rows) (c := c) (by rw [(ok _).1]; exact h2)
          rw [(ok _).1, ← last2] at this
          exact this
        rw [e3]
        exact (mid_settles _ _ _ 0).2.1
      · have e3 : at2 (it (t' + 1) rows) (i + 2) c = mid (at2 (it t' rows) (i + 1) c) (at2 (it t' rows) (i + 2) c) (at2 (it t' rows) (i + 3) c) := at_told_mid (ok _).2 (by rw [(ok _).1]; omega) hc
        rw [e3]
        exact (mid_settles _ _ _ _).1
theorem back_settles (h2 : 2 ≤ rows.length) (hch : ∀ r ∈ rows, r.length = ch) {c : Nat} (hc : c < ch) : ∀ i k, i + k + 1 = rows.length → ∀ t, i ≤ t → at2 (it (t + 1) rows) k c = at2 (it t rows) k c
  | 0, k, hk, t, _ => by
    have ok := it_ok h2 hch
    have := at_told_last (rows := it t rows) (c := c) (by rw [(ok _).1]; exact h2)
    rw [(ok _).1, show rows.length - 1 = k by omega] at this
    exact this
  | i + 1, k, hk, t, ht => by
    have ok := it_ok h2 hch
    obtain ⟨t', rfl⟩ : ∃ t', t = t' + 1 := ⟨t - 1, by omega⟩
    have ih := back_settles h2 hch hc i (k + 1) (by omega) t' (by omega)
    cases k with
    | zero => rfl
    | succ k =>
      have e1 : at2 (it (t' + 1 + 1) rows) (k + 1) c = mid (at2 (it (t' + 1) rows) k c) (at2 (it (t' + 1) rows) (k + 1) c) (at2 (it (t' + 1) rows) (k + 2) c) := at_told_mid (ok _).2 (by rw [(ok _).1]; omega) hc
      have e2 : at2 (it (t' + 1) rows) (k + 1) c = mid (at2 (it t' rows) k c) (at2 (it t' rows) (k + 1) c) (at2 (it t' rows) (k + 2) c) := at_told_mid (ok _).2 (by rw [(ok _).1]; omega) hc
      rw [e1, ih, e2]
      cases k with
      | zero =>
        have e3 : at2 (it (t' + 1) rows) 0 c = at2 (it t' rows) 0 c := rfl
        rw [e3]
        exact (mid_settles _ _ _ 0).2.2.2
      | succ k =>
        have e3 : at2 (it (t' + 1) rows) (k + 1) c = mid (at2 (it t' rows) k c) (at2 (it t' rows) (k + 1) c) (at2 (it t' rows) (k + 2) c) := at_told_mid (ok _).2 (by rw [(ok _).1]; omega) hc
        rw [e3]
        exact (mid_settles _ _ _ _).2.2.1
theorem rows_ext {xs ys : List (List Int)} (hl : xs.length = ys.length) (hx : ∀ r ∈ xs, r.length = ch) (hy : ∀ r ∈ ys, r.length = ch) (h : ∀ k, k < xs.length → ∀ c, c < ch → at2 xs k c = at2 ys k c) : xs = ys := by
  apply List.ext_getElem hl
  intro k h1 h2
  have l1 := hx xs[k] (List.getElem_mem _)
  have l2 := hy ys[k] (List.getElem_mem _)
  apply List.ext_getElem (by omega)
  intro c h3 h4
  have := h k h1 c (by omega)
  simp only [at2, List.getD_eq_getElem?_getD, List.getElem?_eq_getElem h1, List.getElem?_eq_getElem h2, Option.getD_some, List.getElem?_eq_getElem h3, List.getElem?_eq_getElem h4] at this
  exact this
/-- nine rows or fewer settle in four passes -/
theorem settles (h2 : 2 ≤ rows.length) (h9 : rows.length ≤ 9) (hch : ∀ r ∈ rows, r.length = ch) : it 5 rows = it 4 rows := by
  have ok := it_ok h2 hch
  refine rows_ext (by rw [(ok 5).1, (ok 4).1]) (ok 5).2 (ok 4).2 fun k hk c hc => ?_
  rw [(ok 5).1] at hk
  by_cases h4 : k ≤ 4
  · exact front_settles h2 hch hc k hk 4 h4
  · exact back_settles h2 hch hc (rows.length - 1 - k) k (by omega) 4 (by omega)
theorem flat_at : ∀ {rows : List (List Int)}, (∀ r ∈ rows, r.length = ch) → ∀ k c, k < rows.length → c < ch → rows.flatten.getD (k * ch + c) 0 = at2 rows k c
  | [], _, k, c, hk, _ => by simp at hk
  | x :: r, h, 0, c, _, hc => by
    rw [Nat.zero_mul, Nat.zero_add, List.flatten_cons, getD_app_left _ _ _ (by rw [h x (.head _)]; exact hc)]
    rfl
  | x :: r, h, k + 1, c, hk, hc => by
    have hx := h x (.head _)
    rw [List.flatten_cons, Nat.succ_mul, getD_app_right _ _ _ (by rw [hx]; omega), hx, show k * ch + ch + c - ch = k * ch + c by omega, flat_at (fun y hy => h y (.tail _ hy)) k c (by simpa using hk) hc]
    rfl
theorem flat_len : ∀ {rows : List (List Int)}, (∀ r ∈ rows, r.length = ch) → rows.flatten.length = rows.length * ch
  | [], _ => by simp
  | x :: r, h => by
    rw [List.flatten_cons, List.length_append, flat_len fun l hl => h l (.tail _ hl), h x (.head _), List.length_cons, Nat.succ_mul]
    omega
/-- a pass over the words of the rows is the rows one pass on -/
theorem passed_flat (h2 : 2 ≤ rows.length) (hch : ∀ r ∈ rows, r.length = ch) (hc1 : 1 ≤ ch) : passed rows.flatten ch = (told rows).flatten := by
  have hl := flat_len hch
  have hl' := flat_len (told_ch h2 hch)
  rw [told_length h2] at hl'
  apply List.ext_getElem
  · rw [passed_length, hl, hl']
  · intro p h1 hp
    rw [passed_length, hl] at h1
    have hpc : p % ch < ch := Nat.mod_lt _ hc1
    have hpk : p / ch < rows.length := Nat.div_lt_of_lt_mul (by rw [Nat.mul_comm]; exact h1)
    have hpe : p / ch * ch + p % ch = p := by rw [Nat.mul_comm]; exact Nat.div_add_mod p ch
    generalize hk : p / ch = k at *
    generalize hcc : p % ch = c at *
    have er : (told rows).flatten[p] = at2 (told rows) k c := by
      have := flat_at (told_ch h2 hch) k c (by rw [told_length h2]; exact hpk) hpc
      rw [hpe, List.getD_eq_getElem?_getD, List.getElem?_eq_getElem hp] at this
      exact this
    rw [er]
    have fa := fun k' (hk' : k' < rows.length) => flat_at hch k' c hk' hpc
    have el : ∀ hh, (passed rows.flatten ch)[p]'hh = if ch ≤ p ∧ p + ch < rows.flatten.length then mid (rows.flatten.getD (p - ch) 0) (rows.flatten.getD p 0) (rows.flatten.getD (p + ch) 0) else rows.flatten.getD p 0 := by
      intro hh
      simp [passed]
    rw [el]
    have e0 : rows.flatten.getD p 0 = at2 rows k c := by rw [← hpe]; exact fa k hpk
    rw [hl, e0]
    have s1 : (k + 1) * ch = k * ch + ch := Nat.succ_mul k ch
    by_cases hk0 : k = 0
    · have hlt : ¬ (ch ≤ p ∧ p + ch < rows.length * ch) := fun z => by
        rw [hk0, Nat.zero_mul] at hpe; omega
      rw [if_neg hlt, hk0]; rfl
    · by_cases hkl : k = rows.length - 1
      · have hlt : ¬ (ch ≤ p ∧ p + ch < rows.length * ch) := fun z => by
          have : rows.length = k + 1 := by omega
          rw [this, s1] at z; omega
        rw [if_neg hlt, hkl, at_told_last h2]
      · obtain ⟨j, rfl⟩ : ∃ j, k = j + 1 := ⟨k - 1, by omega⟩
        have s2 : (j + 1) * ch = j * ch + ch := Nat.succ_mul j ch
        have s3 : (j + 3) * ch ≤ rows.length * ch := Nat.mul_le_mul_right _ (by omega)
        have s4 : (j + 3) * ch = (j + 1) * ch + ch + ch := by rw [Nat.succ_mul, Nat.succ_mul]
        rw [if_pos ⟨by omega, by omega⟩, at_told_mid hch (by omega) hpc]
        have e1 : rows.flatten.getD (p - ch) 0 = at2 rows j c := by rw [show p - ch = j * ch + c by omega]; exact fa j (by omega)
        have e2 : rows.flatten.getD (p + ch) 0 = at2 rows (j + 2) c := by
          rw [show p + ch = (j + 2) * ch + c by rw [Nat.succ_mul]; omega]; exact fa (j + 2) (by omega)
        rw [e1, e2]
theorem pit_flat (h2 : 2 ≤ rows.length) (hch : ∀ r ∈ rows, r.length = ch) (hc1 : 1 ≤ ch) : ∀ k, pit ch k rows.flatten = (it k rows).flatten
  | 0 => rfl
  | k + 1 => by
    have ok := it_ok h2 hch k
    rw [pit, pit_flat h2 hch hc1 k, passed_flat (by rw [ok.1]; exact h2) ok.2 hc1]; rfl
end
end Nq
end NqPlainPart

section NqLaw1Part
open PySem PySem.W PySem.Calls PyProof.Rows
set_option linter.unusedVariables false
set_option maxRecDepth 100000
namespace Nq
theorem boot_sum' : bootBuiltins "sum" = some (.builtin "sum") := by decide +kernel
theorem boot_type' : bootBuiltins "type" = some (.type "type") := by decide +kernel
section
variable {b : Bool} {prog : Program} {w : World} {A : Around} {s : Shared} {env : Env} {h : Heap} {q : Program} {mean : ExcName → Option Value} {mg mb : Str → Option Value} {E : Value → Shared → Prop} {M : Model}
theorem sum_l {l : Addr} {vs : List Value} {ns : List Int} {Q : Value → Shared → Prop} (hh : A.handled = none) (hl : s.heap.IsList l vs.toArray) (hi : IntsAre vs ns)
    (hq : ∀ h' t k, (∀ b o, s.heap.get? b = some o → h'.get? b = some o) → Q (.int ns.sum t) { s with heap := h', toks := k }) : wpAny (model prog w) A (call (.builtin "sum") [.ref l]) Q E s := by
  obtain ⟨xs, hx⟩ := hi.allInts.items
  rw [hx] at hl
  refine sum_intListG hh hl fun h' tk t' hk => ?_
  have e : preSum (numAt xs) xs.size = ns.sum := by
    rw [preSum_eq, List.take_of_length_le (by simp), ← nums_intItems, ← hx]
    show (numsOf vs).sum = _
    rw [hi.numsOf]
  rw [e]
  exact hq h' t' tk hk
/-- sum of a list that a name stands for -/
theorem ev_sum {x : Str} {p p' pos : Pos} {l : Addr} {vs : List Value} {ns : List Int} {Q : Value → Shared → Prop} (en : En q mean mg mb s.heap env) (hx : env.kindOf (Str.ofString "sum") = some .globalImplicit) (hh : A.handled = none) (y : Has s.heap env x (.ref l)) (hl : s.heap.IsList l vs.toArray) (hi : IntsAre vs ns)
    (hq : ∀ h' t k, (∀ b o, s.heap.get? b = some o → h'.get? b = some o) → Q (.int ns.sum t) { s with heap := h', toks := k })
    (hd : (x == ("__debug__" : Str)) = false := by decide) : wpAny (model prog w) A (eval (.Call (.Name (Str.ofString "sum") p) [.Name x p'] [] pos) env) Q E s :=
  Call_ (ev_builtin en.top en.fn en.gl en.bl hx (en.ok.free _ (by simp)) boot_sum' (callWith_builtin1 (args_cons (ev_name en.fn y (args_nil (sum_l hh hl hi hq)) hd))))
/-- a list of written ints -/
theorem ev_ints {pos : Pos} : ∀ (es : List (Int × Nat × Pos)) (s : Shared) {Q : List Value → Shared → Prop}, (∀ vs k, IntsAre vs (es.map (·.1)) → Q vs { s with toks := k }) → wpAny M A (spliced (backTo pos (starEach (es.map fun e => .Constant (.int e.1) e.2.1 e.2.2) env))) Q E s
  | [], s, Q, hq => args_nil (hq [] s.toks .nil)
  | e :: es, s, Q, hq => by
    refine args_cons (wpAny_Constant_int ?_)
    refine ev_ints es _ fun vs k hv => ?_
    exact hq _ _ (.cons _ _ hv)
theorem compareS {l r : Expr} {op : CmpOp} {pos : Pos} {Q : Value → Shared → Prop}
    (h : wpS b M A (eval l env) (fun a s₁ => wpS b M A (eval r env) (fun c s₂ => wpAny M A (compareOp op a c) Q (fun _ _ => False) s₂) s₁) s)
    (hm : behindInMarks op r = false := by with_unfolding_all rfl) : wpS b M A (eval (.Compare l [op] [r] pos) env) Q s := by
  rw [eval_Compare1, markedBehindIn_of_false hm]
  exact wpS.bind (h.mono fun a s₁ h₁ => wpS.bind (wpS.holding (h₁.mono fun c s₂ h₂ => wpS.bind (wpS.standAt (wpS.of_any (wpAny_operate' h₂))))))
theorem ev_def4 {f : Str} {fa : Addr} {p pos : Pos} {e₁ e₂ e₃ e₄ : Expr} {P₂ P₃ P₄ : Value → Prop} {Q : Value → Shared → Prop} (en : En q mean mg mb s.heap env) (hx : env.kindOf f = some .globalImplicit) (hf : mg f = some (.ref fa)) (lv : ∃ o fd, s.heap.get? fa = some o ∧ o.data = .func fd)
    (x : wpS b (model prog w) A (eval e₁ env) (fun u s₁ => Keeps s s₁ ∧ ∀ v z y k, P₂ v → P₃ z → P₄ y → wpS b (model prog w) A (call (.ref fa) [u, v, z, y]) Q { s₁ with toks := k }) s)
    (y : EvV prog w A s.heap env e₂ P₂) (z : EvV prog w A s.heap env e₃ P₃) (y' : EvV prog w A s.heap env e₄ P₄) (hd : (f == ("__debug__" : Str)) = false := by decide)
    (he : starEach [e₁, e₂, e₃, e₄] env = (false, eval e₁ env) :: starEach [e₂, e₃, e₄] env := by rfl) (he₂ : starEach [e₂, e₃, e₄] env = (false, eval e₂ env) :: starEach [e₃, e₄] env := by rfl) (he₃ : starEach [e₃, e₄] env = (false, eval e₃ env) :: starEach [e₄] env := by rfl) (he₄ : starEach [e₄] env = (false, eval e₄ env) :: starEach [] env := by rfl)
    (hc : eval (.Call (.Name f p) [e₁, e₂, e₃, e₄] [] pos) env = (do callWith pos (← eval (.Name f p) env) [] (backTo pos (starEach [e₁, e₂, e₃, e₄] env)) (backToKw pos (keywordEach [] env))) := by rfl)
    (hp : (backTo pos (starEach [e₁, e₂, e₃, e₄] env)).any (·.1) = false := by rfl) :
    wpS b (model prog w) A (eval (.Call (.Name f p) [e₁, e₂, e₃, e₄] [] pos) env) Q s := by
  refine callExprS (ev_global en.top en.fn en.gl hx hf (callB_fn (argsS_cons (x.mono fun u s₁ h₁ => ?_) he) he hp) hd) hc
  obtain ⟨k₁, h₁⟩ := h₁
  have kk := kp_k k₁
  refine argsS_cons (wpS.of_any (y s₁ kk _ _ fun v k hv => ?_)) he₂
  refine argsS_cons (wpS.of_any (z { s₁ with toks := k } kk _ _ fun v' k' hv' => ?_)) he₃
  refine argsS_cons (wpS.of_any (y' { s₁ with toks := k' } kk _ _ fun v'' k'' hv'' => ?_)) he₄
  obtain ⟨o, fd, ho, hd'⟩ := lv
  exact argsS_nil ⟨⟨o, fd, kk _ _ ho, hd'⟩, h₁ _ _ _ _ hv hv' hv''⟩
/-- a comprehension over a list that a name stands for -/
theorem src_name {x : Str} {p : Pos} {l : Addr} {vs : List Value} (hh : A.handled = none) (fn : env.scope.kind = .function) (y : Has s.heap env x (.ref l)) (hl : s.heap.IsList l vs.toArray) (hd : (x == ("__debug__" : Str)) = false := by decide) :
    wpS b (model prog w) A (eval (.Name x p) env) (fun xv s₁ => Keeps s s₁ ∧ Src prog w A xv s₁ vs.length (fun i v => vs[i]? = some v)) s :=
  wpS.of_any (ev_name fn y ⟨kp_refl s, src_list hh hl⟩ hd)
end
end Nq
end NqLaw1Part

section NqLawPart
open PySem PySem.W PySem.Calls PyProof.Rows
set_option linter.unusedVariables false
set_option maxRecDepth 100000
namespace Nq
def drawRow (ch wd : Nat) (x : Int) : List Int := (List.range ch).map fun way => (x * 9 ^ way).fmod (256 ^ wd)
theorem bits9 : Builtin.Int.intBits 9 = 4 := by decide +kernel
theorem nine_small {k : Nat} (h : k < 2) : Builtin.Int.intBits (9 ^ k : Int) ≤ 64 := by
  match k, h with
  | 0, _ => decide +kernel
  | 1, _ => decide +kernel
section
variable {b : Bool} {prog : Program} {w : World} {A : Around} {s : Shared} {env : Env} {h : Heap} {q : Program} {mean : ExcName → Option Value} {mg mb : Str → Option Value} {E : Value → Shared → Prop}
theorem list_ne_ns {l L : Addr} {its : Array Value} {m : Str → Option Value} (hl : h.IsList l its) (hn : h.Ns L m) : l ≠ L := fun e => by
  obtain ⟨o, ho, _, n, hd⟩ := hl
  obtain ⟨o', es, ep, ho', hd', _⟩ := hn
  rw [e, ho'] at ho
  cases ho
  rw [hd] at hd'
  cases hd'
mutual
theorem Rd.lists : ∀ {v : Value} {d : Dt} {as : List Addr}, Rd h v d as → ∀ a ∈ as, ∃ its, h.IsList a its
  | _, _, _, .int i t, a, ha => nomatch ha
  | _, _, _, .bytes b t, a, ha => nomatch ha
  | _, _, _, .type T, a, ha => nomatch ha
  | _, _, _, .list hl r, a, ha => by
    rcases List.mem_cons.mp ha with rfl | ha
    · exact ⟨_, hl⟩
    · exact r.lists a ha
theorem RdAll.lists : ∀ {vs : List Value} {ds : List Dt} {as : List Addr}, RdAll h vs ds as → ∀ a ∈ as, ∃ its, h.IsList a its
  | _, _, _, .nil, a, ha => nomatch ha
  | _, _, _, .cons x r, a, ha => by
    rcases List.mem_append.mp ha with ha | ha
    · exact x.lists a ha
    · exact r.lists a ha
end
/-- data outlasts a store into a local name -/
theorem RdAll.stored {h' : Heap} {vs : List Value} {ds : List Dt} {as : List Addr} (r : RdAll h vs ds as) (W : Wf h env) (sb : Heap.SameBut env.locals h h') : RdAll h' vs ds as :=
  r.frame fun a ha o e => sb.extBut a o (by obtain ⟨its, hl⟩ := r.lists a ha; obtain ⟨m, n⟩ := W.ns; exact list_ne_ns hl n) e
theorem list_stored {h' : Heap} {l : Addr} {its : Array Value} (r : h.IsList l its) (W : Wf h env) (sb : Heap.SameBut env.locals h h') : h'.IsList l its :=
  r.at fun o e => sb.extBut l o (by obtain ⟨m, n⟩ := W.ns; exact list_ne_ns r n) e
theorem Rd.type_inv {v : Value} {T : String} {as : List Addr} (x : Rd h v (.type T) as) : v = .type T := by cases x; rfl
theorem RdAll.types {T : String} : ∀ {vs : List Value} {n : Nat} {as : List Addr}, RdAll h vs ((List.range n).map fun _ => .type T) as → ∀ j (hj : j < vs.length), vs[j] = .type T := fun {vs n as} r j hj => by
  have hn : j < n := by rw [r.length, List.length_map, List.length_range] at hj; exact hj
  obtain ⟨v, bs, hv, rv, _⟩ := r.at j (.type T) (by rw [List.getElem?_map, List.getElem?_range hn]; rfl)
  rw [List.getElem?_eq_getElem hj] at hv
  exact (Option.some.inj hv).trans rv.type_inv
theorem Src.imp {xv : Value} {n : Nat} {P P' : Nat → Value → Prop} (x : Src prog w A xv s n P) (f : ∀ i v, i < n → P i v → P' i v) : Src prog w A xv s n P' :=
  fun Q h => x Q fun I fp wr St s₂ W st => h I fp wr St s₂ ⟨W.sub, W.frame, fun i s Q E hi st hq => W.item i s Q E hi st (fun v h tk hP => hq v h tk (f i v hi hP)), W.done, W.self⟩ st
set_option maxHeartbeats 8000000 in
theorem law_spec {n : Nat} {fa l : Addr} {o : Obj} {pm code doc : Value} {vs : List Value} {ns : List Int} (rm : Rm A n) (hn : n ≤ 40) (ok : Ok q mg) (T : Gd q mean mg mb s.heap) (ho : s.heap.get? fa = some o) (hdat : o.data = .func (fdAt 13 pm code doc)) (hcode : s.heap.CodeRec code (dAt 13).name)
    (hl : s.heap.IsList l vs.toArray) (hi : IntsAre vs ns) (hlen : ns.length ≤ 1000) :
    wpS true (model prog w) A (call (.ref fa) [.ref l]) (fun v s' => Keeps s s' ∧ v = .bool true) s := by
  refine callDef (fd := fdAt 13 pm code doc) (binds := [(Str.ofString "script", .ref l)]) rm (by omega) ho hdat T.nolimit hcode rfl rfl rfl ?_ ?_ ?_
  · intro L x hx
    simp only [List.mem_cons, List.not_mem_nil, or_false] at hx
    rcases hx with rfl
    exact .inl rfl
  · intro L x hx
    simp only [List.mem_cons, List.not_mem_nil, or_false] at hx
    rcases hx with rfl
    exact .inl ⟨rfl, rfl⟩
  intro s₁ k₁ wf₁ has₁
  generalize hA : A.deeper _ = A₁
  have rm₁ : Rm A₁ (n + 1) := by rw [← hA]; exact rm.deeper _
  have newL : s.heap.get? (callEnvC (fdAt 13 pm code doc) s.heap.objs.size fa).locals = none := fresh_size _ (Nat.le_refl _)
  have newM : s.heap.get? (slotOf (callEnvC (fdAt 13 pm code doc) s.heap.objs.size fa) (Str.ofString "many")) = none := slot_new (.inr ⟨rfl, rfl⟩)
  have newW : s.heap.get? (slotOf (callEnvC (fdAt 13 pm code doc) s.heap.objs.size fa) (Str.ofString "wide")) = none := slot_new (.inr ⟨rfl, rfl⟩)
  let L1 : Addr := s.heap.objs.size + 1
  let L2 : Addr := s.heap.objs.size + 2
  let scA : Scope := sc [(Str.ofString ".0", .local), (Str.ofString "x", .cell), (Str.ofString "range", .globalImplicit), (Str.ofString "many", .free), (Str.ofString "wide", .free)]
  let scB : Scope := sc [(Str.ofString ".0", .local), (Str.ofString "way", .local), (Str.ofString "wide", .free), (Str.ofString "x", .free)]
  let clA : List (Str × Addr) := [(Str.ofString "wide", L2), (Str.ofString "many", L1)]
  let sc1 : Scope := sc [(Str.ofString ".0", .local), (Str.ofString "each", .local), (Str.ofString "_law_octets", .globalImplicit), (Str.ofString "wide", .free)]
  let sc2 : Scope := sc [(Str.ofString ".0", .local), (Str.ofString "each", .local), (Str.ofString "type", .globalImplicit)]
  let sc3 : Scope := sc [(Str.ofString ".0", .local), (Str.ofString "each", .local), (Str.ofString "bytes", .globalImplicit)]
  let sc4 : Scope := sc [(Str.ofString ".0", .local), (Str.ofString "each", .local), (Str.ofString "_byteswap", .globalImplicit), (Str.ofString "wide", .free)]
  let sc5 : Scope := sc [(Str.ofString ".0", .local), (Str.ofString "each", .local), (Str.ofString "_law_high", .globalImplicit), (Str.ofString "wide", .free)]
  have lta : (callEnvC (fdAt 13 pm code doc) s.heap.objs.size fa).kindOf (Str.ofString "taken") = some .local := rfl
  have ldr : (callEnvC (fdAt 13 pm code doc) s.heap.objs.size fa).kindOf (Str.ofString "drawn") = some .local := rfl
  have ldu : (callEnvC (fdAt 13 pm code doc) s.heap.objs.size fa).kindOf (Str.ofString "due") = some .local := rfl
  have lra : (callEnvC (fdAt 13 pm code doc) s.heap.objs.size fa).kindOf (Str.ofString "ran") = some .local := rfl
  have lma : (callEnvC (fdAt 13 pm code doc) s.heap.objs.size fa).kindOf (Str.ofString "many") = some .cell := rfl
  have lwi : (callEnvC (fdAt 13 pm code doc) s.heap.objs.size fa).kindOf (Str.ofString "wide") = some .cell := rfl
  have mma : May (callEnvC (fdAt 13 pm code doc) s.heap.objs.size fa) (Str.ofString "many") := .inr ⟨rfl, rfl⟩
  have mwi : May (callEnvC (fdAt 13 pm code doc) s.heap.objs.size fa) (Str.ofString "wide") := .inr ⟨rfl, rfl⟩
  have gsu : (callEnvC (fdAt 13 pm code doc) s.heap.objs.size fa).kindOf (Str.ofString "sum") = some .globalImplicit := rfl
  have gle : (callEnvC (fdAt 13 pm code doc) s.heap.objs.size fa).kindOf (Str.ofString "len") = some .globalImplicit := rfl
  have gst : (callEnvC (fdAt 13 pm code doc) s.heap.objs.size fa).kindOf (dAt 11).name = some .globalImplicit := rfl
  have gtr : (callEnvC (fdAt 13 pm code doc) s.heap.objs.size fa).kindOf (dAt 12).name = some .globalImplicit := rfl
  have goc : (callEnvC (fdAt 13 pm code doc) s.heap.objs.size fa).kindOf (dAt 6).name = some .globalImplicit := rfl
  have gl : (callEnvC (fdAt 13 pm code doc) s.heap.objs.size fa).globals = mainGlobals := rfl
  have bl : (callEnvC (fdAt 13 pm code doc) s.heap.objs.size fa).builtins = builtinsNs := rfl
  have hsw : ∀ elt iter px pos py, pos.line = py.line → swapsWith (.ListComp elt [⟨.Name (Str.ofString "x") px, iter, [], 0⟩] scA pos) (some (.Name (Str.ofString "drawn") py)) pos.line (callEnvC (fdAt 13 pm code doc) s.heap.objs.size fa) = Pure.pure true := fun elt iter px pos py e => by
    show Pure.pure (_ && (py.line == pos.line) && _) = _
    rw [e, beq_self_eq_true]; rfl
  have ccA : CC (callEnvC (fdAt 13 pm code doc) s.heap.objs.size fa) scA clA := ⟨rfl, fun p hp => by
    simp only [clA, List.mem_cons, List.not_mem_nil, or_false] at hp
    rcases hp with rfl | rfl <;> rfl, List.Pairwise.cons (fun p hp => by rw [List.mem_singleton.mp hp]; show Str.ofString "wide" ≠ Str.ofString "many"; decide) (List.pairwise_singleton _ _), rfl, by decide⟩
  have Akx : ∀ C, (compE (callEnvC (fdAt 13 pm code doc) s.heap.objs.size fa) scA clA C).kindOf (Str.ofString "x") = some .cell := fun _ => rfl
  have Acx : ∀ C, (compE (callEnvC (fdAt 13 pm code doc) s.heap.objs.size fa) scA clA C).cells.lookup (Str.ofString "x") = some (C + 1) := fun _ => rfl
  have Akr : ∀ C, (compE (callEnvC (fdAt 13 pm code doc) s.heap.objs.size fa) scA clA C).kindOf (Str.ofString "range") = some .globalImplicit := fun _ => rfl
  have Akm : ∀ C, (compE (callEnvC (fdAt 13 pm code doc) s.heap.objs.size fa) scA clA C).kindOf (Str.ofString "many") = some .cell := fun _ => rfl
  have Akw : ∀ C, (compE (callEnvC (fdAt 13 pm code doc) s.heap.objs.size fa) scA clA C).kindOf (Str.ofString "wide") = some .cell := fun _ => rfl
  have Acm : ∀ C, (compE (callEnvC (fdAt 13 pm code doc) s.heap.objs.size fa) scA clA C).cells.lookup (Str.ofString "many") = (callEnvC (fdAt 13 pm code doc) s.heap.objs.size fa).cells.lookup (Str.ofString "many") := fun _ => rfl
  have Acw : ∀ C, (compE (callEnvC (fdAt 13 pm code doc) s.heap.objs.size fa) scA clA C).cells.lookup (Str.ofString "wide") = (callEnvC (fdAt 13 pm code doc) s.heap.objs.size fa).cells.lookup (Str.ofString "wide") := fun _ => rfl
  have ccB : ∀ C, CC (compE (callEnvC (fdAt 13 pm code doc) s.heap.objs.size fa) scA clA C) scB [(Str.ofString "x", C + 1), (Str.ofString "wide", L2)] := fun C => ⟨rfl, fun p hp => by
    simp only [List.mem_cons, List.not_mem_nil, or_false] at hp
    rcases hp with rfl | rfl <;> rfl, List.Pairwise.cons (fun p hp => by rw [List.mem_singleton.mp hp]; show Str.ofString "x" ≠ Str.ofString "wide"; decide) (List.pairwise_singleton _ _), rfl, by decide⟩
  have Bky : ∀ C C', (compE (compE (callEnvC (fdAt 13 pm code doc) s.heap.objs.size fa) scA clA C) scB [(Str.ofString "x", C + 1), (Str.ofString "wide", L2)] C').kindOf (Str.ofString "way") = some .local := fun _ _ => rfl
  have Bkx : ∀ C C', (compE (compE (callEnvC (fdAt 13 pm code doc) s.heap.objs.size fa) scA clA C) scB [(Str.ofString "x", C + 1), (Str.ofString "wide", L2)] C').kindOf (Str.ofString "x") = some .cell := fun _ _ => rfl
  have Bkw : ∀ C C', (compE (compE (callEnvC (fdAt 13 pm code doc) s.heap.objs.size fa) scA clA C) scB [(Str.ofString "x", C + 1), (Str.ofString "wide", L2)] C').kindOf (Str.ofString "wide") = some .cell := fun _ _ => rfl
  have Bcx : ∀ C C', (compE (compE (callEnvC (fdAt 13 pm code doc) s.heap.objs.size fa) scA clA C) scB [(Str.ofString "x", C + 1), (Str.ofString "wide", L2)] C').cells.lookup (Str.ofString "x") = (compE (callEnvC (fdAt 13 pm code doc) s.heap.objs.size fa) scA clA C).cells.lookup (Str.ofString "x") := fun _ _ => rfl
  have Bcw : ∀ C C', (compE (compE (callEnvC (fdAt 13 pm code doc) s.heap.objs.size fa) scA clA C) scB [(Str.ofString "x", C + 1), (Str.ofString "wide", L2)] C').cells.lookup (Str.ofString "wide") = (compE (callEnvC (fdAt 13 pm code doc) s.heap.objs.size fa) scA clA C).cells.lookup (Str.ofString "wide") := fun _ _ => rfl
  have cc1 : CC (callEnvC (fdAt 13 pm code doc) s.heap.objs.size fa) sc1 [(Str.ofString "wide", L2)] := ⟨rfl, fun p hp => by rw [List.mem_singleton.mp hp]; rfl, List.pairwise_singleton _ _, rfl, by decide⟩
  have cc2 : CC (callEnvC (fdAt 13 pm code doc) s.heap.objs.size fa) sc2 [] := ⟨rfl, fun p hp => (nomatch hp), .nil, rfl, by decide⟩
  have cc3 : CC (callEnvC (fdAt 13 pm code doc) s.heap.objs.size fa) sc3 [] := ⟨rfl, fun p hp => (nomatch hp), .nil, rfl, by decide⟩
  have cc4 : CC (callEnvC (fdAt 13 pm code doc) s.heap.objs.size fa) sc4 [(Str.ofString "wide", L2)] := ⟨rfl, fun p hp => by rw [List.mem_singleton.mp hp]; rfl, List.pairwise_singleton _ _, rfl, by decide⟩
  have cc5 : CC (callEnvC (fdAt 13 pm code doc) s.heap.objs.size fa) sc5 [(Str.ofString "wide", L2)] := ⟨rfl, fun p hp => by rw [List.mem_singleton.mp hp]; rfl, List.pairwise_singleton _ _, rfl, by decide⟩
  have ke : ∀ C, (compE (callEnvC (fdAt 13 pm code doc) s.heap.objs.size fa) sc1 [(Str.ofString "wide", L2)] C).kindOf (Str.ofString "each") = some .local ∧ (compE (callEnvC (fdAt 13 pm code doc) s.heap.objs.size fa) sc2 [] C).kindOf (Str.ofString "each") = some .local ∧ (compE (callEnvC (fdAt 13 pm code doc) s.heap.objs.size fa) sc3 [] C).kindOf (Str.ofString "each") = some .local ∧
    (compE (callEnvC (fdAt 13 pm code doc) s.heap.objs.size fa) sc4 [(Str.ofString "wide", L2)] C).kindOf (Str.ofString "each") = some .local ∧ (compE (callEnvC (fdAt 13 pm code doc) s.heap.objs.size fa) sc5 [(Str.ofString "wide", L2)] C).kindOf (Str.ofString "each") = some .local := fun _ => ⟨rfl, rfl, rfl, rfl, rfl⟩
  have kf : ∀ C, (compE (callEnvC (fdAt 13 pm code doc) s.heap.objs.size fa) sc1 [(Str.ofString "wide", L2)] C).kindOf (dAt 6).name = some .globalImplicit ∧ (compE (callEnvC (fdAt 13 pm code doc) s.heap.objs.size fa) sc2 [] C).kindOf (Str.ofString "type") = some .globalImplicit ∧ (compE (callEnvC (fdAt 13 pm code doc) s.heap.objs.size fa) sc3 [] C).kindOf (Str.ofString "bytes") = some .globalImplicit ∧
    (compE (callEnvC (fdAt 13 pm code doc) s.heap.objs.size fa) sc4 [(Str.ofString "wide", L2)] C).kindOf (dAt 1).name = some .globalImplicit ∧ (compE (callEnvC (fdAt 13 pm code doc) s.heap.objs.size fa) sc5 [(Str.ofString "wide", L2)] C).kindOf (dAt 7).name = some .globalImplicit := fun _ => ⟨rfl, rfl, rfl, rfl, rfl⟩
  have kw : ∀ C, (compE (callEnvC (fdAt 13 pm code doc) s.heap.objs.size fa) sc1 [(Str.ofString "wide", L2)] C).kindOf (Str.ofString "wide") = some .cell ∧ (compE (callEnvC (fdAt 13 pm code doc) s.heap.objs.size fa) sc4 [(Str.ofString "wide", L2)] C).kindOf (Str.ofString "wide") = some .cell ∧ (compE (callEnvC (fdAt 13 pm code doc) s.heap.objs.size fa) sc5 [(Str.ofString "wide", L2)] C).kindOf (Str.ofString "wide") = some .cell := fun _ => ⟨rfl, rfl, rfl⟩
  have cw : ∀ C, (compE (callEnvC (fdAt 13 pm code doc) s.heap.objs.size fa) sc1 [(Str.ofString "wide", L2)] C).cells.lookup (Str.ofString "wide") = (callEnvC (fdAt 13 pm code doc) s.heap.objs.size fa).cells.lookup (Str.ofString "wide") ∧ (compE (callEnvC (fdAt 13 pm code doc) s.heap.objs.size fa) sc4 [(Str.ofString "wide", L2)] C).cells.lookup (Str.ofString "wide") = (callEnvC (fdAt 13 pm code doc) s.heap.objs.size fa).cells.lookup (Str.ofString "wide") ∧
    (compE (callEnvC (fdAt 13 pm code doc) s.heap.objs.size fa) sc5 [(Str.ofString "wide", L2)] C).cells.lookup (Str.ofString "wide") = (callEnvC (fdAt 13 pm code doc) s.heap.objs.size fa).cells.lookup (Str.ofString "wide") := fun _ => ⟨rfl, rfl, rfl⟩
  generalize callEnvC (fdAt 13 pm code doc) s.heap.objs.size fa = env at *
  have fn : env.scope.kind = .function := wf₁.fn
  have enOf : ∀ s' : Shared, Keeps s s' → En q mean mg mb s'.heap env := fun s' k => ⟨T.keeps (kp_k k), ok, fn, gl, bl⟩
  have hsc : Has s₁.heap env (Str.ofString "script") (.ref l) := has₁ _ (.head _)
  have hl₁ : s₁.heap.IsList l vs.toArray := hl.at fun o e => kp_k k₁ l o e
  have lvs : vs.length = ns.length := hi.length
  -- taken = script[:3]
  refine wpS.execs_cons (assignS (wpS.of_any (wpAny_Subscript_list_slice (ev_name fn hsc ?_))) rfl)
  refine wpAny_pure ?_
  show wpAny _ _ (eval (.Constant (.int 3) 0 ⟨51, 20, 51, 21⟩) env) _ _ _
  refine wpAny_Constant_int ⟨l, vs.toArray, none, some 3, rfl, hl₁, by rw [List.size_toArray, lvs]; exact Nat.le_trans hlen (by decide), .none, .int 3 _, ?_⟩
  rw [show slicePick vs.toArray none (some 3) none = (vs.take 3).toArray from slicePick_upto' vs.toArray 3]
  dsimp only
  generalize hh₂ : Heap.push (s₁.heap.push _) _ = h₂
  generalize hTk : s₁.heap.objs.size + 1 = Tk
  have k12 : ∀ b o, s₁.heap.get? b = some o → h₂.get? b = some o := fun b o e => by rw [← hh₂]; exact Heap.get?_push_of_some _ (Heap.get?_push_of_some _ e)
  have lT₂ : h₂.IsList Tk (vs.take 3).toArray := by
    rw [← hh₂, ← hTk]
    refine ⟨{ cls := .type "list", data := .seq (vs.take 3).toArray }, ?_, rfl, _, rfl⟩
    rw [show s₁.heap.objs.size + 1 = (s₁.heap.push { cls := .type "slice", data := .fields #[.none, .int 3 s₁.toks, .none] }).objs.size from (Heap.size_push ..).symm]
    exact Heap.get?_push_size _ rfl
  have nTk : s₁.heap.get? Tk = none := fresh_size _ (by rw [← hTk]; exact Nat.le_succ _)
  have offT : Off env Tk := wf₁.offs nTk
  have iT : IntsAre (vs.take 3) (ns.take 3) := hi.take 3
  generalize htn : ns.take 3 = tn at *
  have ltn : tn.length ≤ 3 := by rw [← htn]; exact List.length_take_le 3 ns
  have K2 : Keeps s { s₁ with heap := h₂, toks := s₁.toks + 1 } := kp_trans k₁ ⟨h₂, _, rfl, k12⟩
  have nTs : s.heap.get? Tk = none := kp_none k₁ nTk
  have slM : slotOf env (Str.ofString "many") ≠ Tk := by
    obtain ⟨c, hc⟩ := Option.isSome_iff_exists.mp (mma.elim (fun e => by rw [lma] at e; cases e) fun e => e.2)
    rw [slotOf, if_neg (by rw [lma]; decide), hc]
    exact offT.2 _ _ hc
  have slW : slotOf env (Str.ofString "wide") ≠ Tk := by
    obtain ⟨c, hc⟩ := Option.isSome_iff_exists.mp (mwi.elim (fun e => by rw [lwi] at e; cases e) fun e => e.2)
    rw [slotOf, if_neg (by rw [lwi]; decide), hc]
    exact offT.2 _ _ hc
  refine st_local (s := { s₁ with heap := h₂, toks := s₁.toks + 1 }) (wf₁.keeps k12) lta K2 newL fun h₃ tk₃ wf₃ hta₃ oth₃ sb₃ K3 => ?_
  have lT₃ : h₃.IsList Tk (vs.take 3).toArray := lT₂.at fun o e => sb₃.extBut Tk o offT.1 e
  -- many = 1 + sum(taken) % 2
  obtain ⟨ch, hch, ch1, ch2⟩ : ∃ ch : Nat, (1 : Int) + tn.sum.fmod 2 = ch ∧ 1 ≤ ch ∧ ch ≤ 2 := by
    have h1 : 0 ≤ tn.sum.fmod 2 := Int.fmod_nonneg_of_pos _ (by decide)
    have h2 : tn.sum.fmod 2 < 2 := Int.fmod_lt_of_pos _ (by decide)
    exact ⟨(1 + tn.sum.fmod 2).toNat, by omega, by omega, by omega⟩
  obtain ⟨wd, hwd, hwd'⟩ : ∃ wd : Nat, (2 : Int) + (tn.sum.fdiv 2).fmod 2 = wd ∧ (wd = 2 ∨ wd = 3) := by
    have h1 : 0 ≤ (tn.sum.fdiv 2).fmod 2 := Int.fmod_nonneg_of_pos _ (by decide)
    have h2 : (tn.sum.fdiv 2).fmod 2 < 2 := Int.fmod_lt_of_pos _ (by decide)
    exact ⟨(2 + (tn.sum.fdiv 2).fmod 2).toNat, by omega, by omega⟩
  refine wpS.execs_cons (assignS (wpS.of_any (wpAny_BinOp (wpAny_Constant_int (wpAny_BinOp ?_)))) rfl)
  have en₃ : En q mean mg mb h₃ env := enOf _ K3
  refine ev_sum (s := { s₁ with heap := h₃, toks := _ }) en₃ gsu rm₁.handled hta₃ lT₃ iT fun h₄ t₄ k₄ k34 => ?_
  refine wpAny_Constant_int (mod_int' (by decide) (PyProof.Rows.add_int ?_))
  rw [hch]
  dsimp only
  have K4 : Keeps s { s₁ with heap := h₄, toks := k₄ } := kp_trans K3 ⟨h₄, k₄, rfl, k34⟩
  refine st_new (s := { s₁ with heap := h₄, toks := _ }) (wf₃.keeps k34) mma (kp_trans K4 ⟨h₄, _, rfl, fun _ _ e => e⟩) newM fun h₅ tk₅ wf₅ hma₅ oth₅ sb₅ K5 => ?_
  have hta₅ := oth₅ _ _ (by decide) (hta₃.keeps k34)
  have lT₅ : h₅.IsList Tk (vs.take 3).toArray := lT₃.at fun o e => sb₅.extBut Tk o (Ne.symm slM) (k34 Tk o e)
  -- wide = 2 + sum(taken) // 2 % 2
  refine wpS.execs_cons (assignS (wpS.of_any (wpAny_BinOp (wpAny_Constant_int (wpAny_BinOp (wpAny_BinOp ?_))))) rfl)
  have en₅ : En q mean mg mb h₅ env := enOf _ K5
  refine ev_sum (s := { s₁ with heap := h₅, toks := _ }) en₅ gsu rm₁.handled hta₅ lT₅ iT fun h₆ t₆ k₆ k56 => ?_
  refine wpAny_Constant_int (PyProof.Rows.floordiv_int (by decide) (wpAny_Constant_int (mod_int' (by decide) (PyProof.Rows.add_int ?_))) (.inl (PyProof.noPylong_small (by decide))))
  rw [hwd]
  dsimp only
  have K6 : Keeps s { s₁ with heap := h₆, toks := k₆ } := kp_trans K5 ⟨h₆, k₆, rfl, k56⟩
  refine st_new (s := { s₁ with heap := h₆, toks := _ }) (wf₅.keeps k56) mwi (kp_trans K6 ⟨h₆, _, rfl, fun _ _ e => e⟩) newW fun h₇ tk₇ wf₇ hwi₇ oth₇ sb₇ K7 => ?_
  have hta₇ := oth₇ _ _ (by decide) (hta₅.keeps k56)
  have hma₇ := oth₇ _ _ (by decide) (hma₅.keeps k56)
  have lT₇ : h₇.IsList Tk (vs.take 3).toArray := lT₅.at fun o e => sb₇.extBut Tk o (Ne.symm slW) (k56 Tk o e)
  -- drawn
  let xs : List Int := tn ++ [9, 261, 8, 262, 10, 259]
  have lxs : 6 ≤ xs.length ∧ xs.length ≤ 9 := by simp only [xs, List.length_append, List.length_cons, List.length_nil]; omega
  refine wpS.execs_cons (st_comp (s := { s₁ with heap := h₇, toks := tk₇ }) (P := fun i v => ∃ t, v = .int (xs.getD i 0) t) (n := xs.length) (scope := scA) (cl := clA) (fun i => .list ((drawRow ch wd (xs.getD i 0)).map .int)) wf₇ ccA (Nat.le_trans lxs.2 (by decide)) (hsw _ _ _ ⟨54, 12, 54, 108⟩ _ rfl) ldr ?_
    (fun C => .inr ⟨Akx C, by rw [Acx C]; rfl⟩) (fun C => by rw [slotOf, if_neg (by rw [Akx C]; decide), Acx C]; exact Nat.le_succ C) ?_ ?_)
  · refine wpS.of_any (wpAny_BinOp (ev_name (s := { s₁ with heap := h₇, toks := tk₇ }) fn hta₇ (wpAny_List_spliced ?_)))
    refine ev_ints [(9, 0, ⟨54, 83, 54, 84⟩), (261, 0, ⟨54, 86, 54, 89⟩), (8, 0, ⟨54, 91, 54, 92⟩), (262, 0, ⟨54, 94, 54, 97⟩), (10, 0, ⟨54, 99, 54, 101⟩), (259, 0, ⟨54, 103, 54, 106⟩)] _ fun us k hu => ⟨by rw [hu.length]; decide, ?_⟩
    dsimp only
    generalize hh₈ : h₇.push { cls := .type "list", data := .seq us.toArray } = h₈
    have k78 : ∀ b o, h₇.get? b = some o → h₈.get? b = some o := fun b o e => by rw [← hh₈]; exact Heap.get?_push_of_some _ e
    have lU : h₈.IsList h₇.objs.size us.toArray := by rw [← hh₈]; exact ⟨_, Heap.get?_push_size _ rfl, rfl, _, rfl⟩
    have iall : IntsAre (vs.take 3 ++ us) xs := IntsAre.append iT hu
    refine add_l (s := { s₁ with heap := h₈, toks := k }) (lT₇.at fun o e => k78 Tk o e) lU ?_ ⟨⟨_, _, rfl, fun b o e => Heap.get?_push_of_some _ (k78 b o e)⟩, ?_⟩
    · have := iall.length
      rw [List.length_append] at this
      rw [this]; exact Nat.le_trans lxs.2 (by decide)
    · have src := src_list (prog := prog) (w := w) (A := A₁) (s := { s₁ with heap := h₈.push { cls := .type "list", data := .seq (vs.take 3 ++ us).toArray }, toks := k }) (l := h₈.objs.size) (vs := vs.take 3 ++ us) rm₁.handled ⟨_, Heap.get?_push_size _ rfl, rfl, _, rfl⟩
      rw [iall.length] at src
      refine src.imp fun i v hi' hv => ?_
      obtain ⟨t, ht⟩ := intAt iall hi'
      rw [hv] at ht
      exact ⟨t, Option.some.inj ht⟩
  · intro i v C s₈ hi' hP k₈ wf₈ hx₈ tr₈
    obtain ⟨tx, rfl⟩ := hP
    generalize xs.getD i 0 = x at *
    have hm₈ := tr₈ _ _ hma₇ (Akm C) lma (Acm C)
    have hw₈ := tr₈ _ _ hwi₇ (Akw C) lwi (Acw C)
    have en₈ : En q mean mg mb s₈.heap (compE env scA clA C) := (enOf _ K7).comp (kp_k k₈) rfl
    have fn₈ := en₈.fn
    refine ev_comp (P := fun i v => ∃ t, v = .int ((0 : Int) + i * 1) t) (n := ch) (scope := scB) (cl := [(Str.ofString "x", C + 1), (Str.ofString "wide", L2)]) (fun way => .int ((x * 9 ^ way).fmod (256 ^ wd))) wf₈ (ccB C) (Nat.le_trans ch2 (by decide)) ?_ (fun C' => .inl (Bky C C')) (fun C' => by rw [slot_local (Bky C C')]; exact Nat.le_refl _) ?_ ?_
    · refine wpS.of_any (ev_range1 en₈ (Akr C) (evInt fn₈ hm₈) fun r s₉ t₁ t₂ t₃ hr₉ k₉ => ⟨k₉, ?_⟩)
      exact src_range rm₁.handled hr₉ (small_one (by omega) (by omega) (by omega) (by omega)) (size_one ch)
    · intro way v C' s₉ hway hP k₉ wf₉ hy₉ tr₉
      obtain ⟨ty, rfl⟩ := hP
      have hx₉ := tr₉ _ _ hx₈ (Bkx C C') (Akx C) (Bcx C C')
      have hw₉ := tr₉ _ _ hw₈ (Bkw C C') (Akw C) (Bcw C C')
      have fn₉ := wf₉.fn
      have ew : ((0 : Int) + (way : Int) * 1) = (way : Int) := by omega
      rw [ew] at hy₉
      have p0 : (256 ^ wd : Int) ≠ 0 := (pow_small (by omega)).1
      refine wpS.of_any ((evMod (i := x * 9 ^ way) (j := 256 ^ wd) (evMul (j := 9 ^ way) (evInt fn₉ hx₉) (evPow evConst (evInt fn₉ hy₉) (by omega) (by rw [bits9]; omega)) (IntMulOk.of_right (nine_small (by omega)))) (evPow evConst (evInt fn₉ hw₉) (by omega) (by rw [bits256]; omega)) p0).at (fun _ _ e => e) fun v k hv => ?_)
      obtain ⟨tv, rfl⟩ := hv
      exact ⟨kp_tok _, [], .int _ _, fun _ h => nomatch h⟩
    · intro v s₉ as₉ k₉ rd₉ fr₉
      refine ⟨k₉, as₉, ?_, fr₉⟩
      unfold drawRow
      rw [List.map_map]
      exact rd₉
  · intro v h₈ tk₈ as₈ wf₈ hdr₈ oth₈ kp₈ rd₈ fr₈
    have nL : ∀ b o, s.heap.get? b = some o → b ≠ env.locals := fun b o e q => by rw [q, newL] at e; cases e
    have K8 : Keeps s { s₁ with heap := h₈, toks := tk₈ } := by
      have kk := kp_k K7
      obtain ⟨h', t', rfl, k⟩ := k₁
      exact ⟨h₈, tk₈, rfl, fun b o e => kp₈ b o (nL b o e) (kk b o e)⟩
    have hwi₈ := oth₈ _ _ (by decide) hwi₇
    have hma₈ := oth₈ _ _ (by decide) hma₇
    -- the rows
    have erows : (List.range xs.length).map (fun i => Dt.list ((drawRow ch wd (xs.getD i 0)).map .int)) = (xs.map (drawRow ch wd)).map fun r => .list (r.map .int) := by rw [range_getD xs 0 fun x => Dt.list ((drawRow ch wd x).map .int), List.map_map]; rfl
    rw [erows] at rd₈
    generalize hrows : xs.map (drawRow ch wd) = rows at *
    have lrows : rows.length = xs.length := by rw [← hrows, List.length_map]
    have r2 : 2 ≤ rows.length := by omega
    have r9 : rows.length ≤ 9 := by omega
    have hrch : ∀ r ∈ rows, r.length = ch := fun r hr => by
      rw [← hrows] at hr
      obtain ⟨x, _, rfl⟩ := List.mem_map.mp hr
      simp [drawRow]
    have hin : ∀ x ∈ rows.flatten, 0 ≤ x ∧ x < 256 ^ wd := fun x hx => by
      obtain ⟨r, hr, hx⟩ := List.mem_flatten.mp hx
      rw [← hrows] at hr
      obtain ⟨y, _, rfl⟩ := List.mem_map.mp hr
      obtain ⟨way, _, rfl⟩ := List.mem_map.mp hx
      have pp : (0 : Int) < 256 ^ wd := Int.pow_pos (by decide)
      exact ⟨Int.fmod_nonneg_of_pos _ pp, Int.fmod_lt_of_pos _ pp⟩
    have oks := it_ok r2 hrch
    have flk : ∀ k, (it k rows).flatten.length = rows.length * ch := fun k => by rw [flat_len (oks k).2, (oks k).1]
    have fl0 : rows.flatten.length = rows.length * ch := flk 0
    have fl2 : 2 ≤ rows.length * ch := Nat.le_trans r2 (Nat.le_mul_of_pos_right _ ch1)
    have fl3 : rows.length * ch ≤ 18 := Nat.mul_le_mul r9 ch2
    have wd3 : wd ≤ 3 := by omega
    obtain ⟨Dr, dvs, das, rfl, hDr, rdDr, eas⟩ := rd₈.list_inv
    obtain ⟨sa, hsa, _⟩ := fnAt T (ok.defs 11 (by simp))
    obtain ⟨ta, hta, _⟩ := fnAt T (ok.defs 12 (by simp))
    obtain ⟨oa, hoa, _⟩ := fnAt T (ok.defs 6 (by simp))
    obtain ⟨ba, hba, _⟩ := fnAt T (ok.defs 1 (by simp))
    obtain ⟨ha', hha, _⟩ := fnAt T (ok.defs 7 (by simp))
    -- due = _law_states(drawn)
    refine wpS.execs_cons (assignS ?_ rfl)
    refine ev_def1 (s := { s₁ with heap := h₈, toks := tk₈ }) (fa := sa) (enOf _ K8) gst hsa (fnLive (enOf _ K8).top (ok.defs 11 (by simp)) hsa) (evName fn hdr₈) fun u k hu => ?_
    subst hu
    refine (states_spec (s := { s₁ with heap := h₈, toks := k }) (M := 4) rm₁ (by omega) ok (enOf _ K8).top hsa rd₈ r2 (by omega) hrch (by omega) (by omega) (settles r2 r9 hrch)).mono fun v s₉ h₉ => ?_
    obtain ⟨k₉, Du, uvs, uas, m, rfl, hDu, hm4, rdDu⟩ := h₉
    have k89 : Keeps { s₁ with heap := h₈, toks := tk₈ } s₉ := kp_trans (kp_tok k) k₉
    have K9 := kp_trans K8 k89
    have hDr₉ : s₉.heap.IsList Dr dvs.toArray := hDr.at fun o e => kp_k k89 Dr o e
    have rdDr₉ := rdDr.keeps (kp_k k89)
    refine st_local (wf₈.keeps (kp_k k89)) ldu K9 newL fun h₁₀ tk₁₀ wf₁₀ hdu₁₀ oth₁₀ sb₁₀ K10 => ?_
    have W9 := wf₈.keeps (kp_k k89)
    have hDr₁₀ := list_stored hDr₉ W9 sb₁₀
    have rdDr₁₀ := rdDr₉.stored W9 sb₁₀
    have hDu₁₀ := list_stored hDu W9 sb₁₀
    have rdDu₁₀ := rdDu.stored W9 sb₁₀
    have hdr₁₀ := oth₁₀ _ _ (by decide) (hdr₈.keeps (kp_k k89))
    have hwi₁₀ := oth₁₀ _ _ (by decide) (hwi₈.keeps (kp_k k89))
    have hma₁₀ := oth₁₀ _ _ (by decide) (hma₈.keeps (kp_k k89))
    have luv : uvs.length = m + 2 := by rw [rdDu.length, List.length_map, List.length_range]
    have en₁₀ : En q mean mg mb h₁₀ env := enOf _ K10
    have lv : ∀ k fa, k ∈ [1, 4, 6, 7, 8, 9, 10, 11, 12] → mg (dAt k).name = some (.ref fa) → ∀ s', Keeps s s' → ∃ o fd, s'.heap.get? fa = some o ∧ o.data = .func fd := fun k fa hk hm s' ks => fnLive (enOf s' ks).top (ok.defs k hk) hm
    let oct : Nat → List UInt8 := fun k => ((it k rows).flatten.map (lo wd)).flatten
    let hig : Nat → List UInt8 := fun k => ((it k rows).flatten.map (Nq.hi wd)).flatten
    -- ran = _law_tracks(_law_octets(drawn, wide), wide, many, len(due) - 1)
    refine wpS.execs_cons (assignS ?_ rfl)
    refine ev_def4 (s := { s₉ with heap := h₁₀, toks := tk₁₀ }) (fa := ta) en₁₀ gtr hta (lv 12 ta (by simp) hta _ K10) ?_ (evName fn hwi₁₀) (evName fn hma₁₀) (evSub (evLenL en₁₀ gle (evName fn hdu₁₀) hDu₁₀ (by omega)) evConst)
    refine ev_def2 (s := { s₉ with heap := h₁₀, toks := tk₁₀ }) (fa := oa) en₁₀ goc hoa (lv 6 oa (by simp) hoa _ K10) (evName fn hdr₁₀) (evName fn hwi₁₀) fun u v k hu hv => ?_
    subst hu hv
    refine (octets_spec (s := { s₉ with heap := h₁₀, toks := k }) rm₁ (by omega) ok en₁₀.top hoa hDr₁₀ rdDr₁₀ (by rw [fl0]; exact fl2) (by rw [fl0]; omega) wd3).mono fun v s₁₁ h₁₁ => ?_
    obtain ⟨k₁₁, tb, rfl⟩ := h₁₁
    have k10_11 : Keeps { s₉ with heap := h₁₀, toks := tk₁₀ } s₁₁ := kp_trans (kp_tok k) k₁₁
    have K11 := kp_trans K10 k10_11
    refine ⟨k10_11, fun v z y k' hv hz hy => ?_⟩
    subst hv hz
    obtain ⟨tp, rfl⟩ := hy
    have ep : ((uvs.length : Nat) : Int) - 1 = ((m + 1 : Nat) : Int) := by omega
    rw [ep]
    refine (tracks_spec (s := { s₁₁ with toks := k' }) rm₁ (by omega) ok (enOf _ K11).top hta hwd' hin (by rw [fl0]; exact fl2) (by rw [fl0]; omega) (by omega) (by omega)).mono fun v s₁₂ h₁₂ => ?_
    obtain ⟨k₁₂, Rn, rus, rfl, hRn, bRn, nRn⟩ := h₁₂
    have epit : (List.range (m + 1 + 1)).map (fun k => ((pit ch k rows.flatten).map (lo wd)).flatten) = (List.range (m + 2)).map oct := List.map_congr_left fun k _ => by rw [pit_flat r2 hrch ch1 k]
    rw [epit] at bRn
    have k10_12 : Keeps { s₉ with heap := h₁₀, toks := tk₁₀ } s₁₂ := kp_trans k10_11 (kp_trans (kp_tok k') k₁₂)
    have K12 := kp_trans K10 k10_12
    have W12 := wf₁₀.keeps (kp_k k10_12)
    refine st_local W12 lra K12 newL fun h₁₃ tk₁₃ wf₁₃ hra₁₃ oth₁₃ sb₁₃ K13 => ?_
    have hDu₁₃ := list_stored (hDu₁₀.at fun o e => kp_k k10_12 Du o e) W12 sb₁₃
    have rdDu₁₃ := (rdDu₁₀.keeps (kp_k k10_12)).stored W12 sb₁₃
    have hRn₁₃ := list_stored hRn W12 sb₁₃
    have hdu₁₃ := oth₁₃ _ _ (by decide) (hdu₁₀.keeps (kp_k k10_12))
    have hwi₁₃ := oth₁₃ _ _ (by decide) (hwi₁₀.keeps (kp_k k10_12))
    have lrn : rus.length = m + 2 := by rw [bRn.length, List.length_map, List.length_range]
    have small : m + 2 ≤ 1000 := by omega
    have units : A₁.units + 64 < cLine := rm₁.line (by omega)
    have octB : (List.range (m + 2)).map (fun k => Dt.bytes (oct k)) = ((List.range (m + 2)).map oct).map .bytes := by rw [List.map_map]; rfl
    have higB : (List.range (m + 2)).map (fun k => Dt.bytes (hig k)) = ((List.range (m + 2)).map hig).map .bytes := by rw [List.map_map]; rfl
    -- an element of due, an element of ran
    have dueAt : ∀ (s' : Shared), Keeps { s₁₂ with heap := h₁₃, toks := tk₁₃ } s' → ∀ i v, i < uvs.length → uvs[i]? = some v → ∃ a ws bs, v = .ref a ∧ s'.heap.IsList a ws.toArray ∧ RdAll s'.heap ws ((it i rows).map fun r => .list (r.map .int)) bs := by
      intro s' ks i v hi' hv
      obtain ⟨v', bs, hv', r, _⟩ := rdDu₁₃.at i (rowsD (it i rows)) (by rw [List.getElem?_map, List.getElem?_range (by omega)]; rfl)
      rw [hv] at hv'
      cases hv'
      obtain ⟨a, ws, cs, rfl, ha, ra, _⟩ := r.list_inv
      exact ⟨a, ws, cs, rfl, ha.at fun o e => kp_k ks a o e, ra.keeps (kp_k ks)⟩
    have ranAt : ∀ i v, i < rus.length → rus[i]? = some v → ∃ t, v = .bytes (oct i).toArray t := by
      intro i v hi' hv
      obtain ⟨t, ht⟩ := bRn.at i (oct i) (by rw [List.getElem?_map, List.getElem?_range (by omega)]; rfl)
      rw [hv] at ht
      exact ⟨t, Option.some.inj ht⟩
    refine wpS.execs_cons (ifS (wpAny_isTrue_BoolOp (wpAny_allTrue_Or_cons (wpAny_isTrue_Compare1 (ev_name (s := { s₁₂ with heap := h₁₃, toks := tk₁₃ }) fn hra₁₃ (wpS.any ?_))))))
    refine ev_comp (s := { s₁₂ with heap := h₁₃, toks := tk₁₃ }) (scope := sc1) (cl := [(Str.ofString "wide", L2)]) (fun k => .bytes (oct k)) wf₁₃ cc1 (by rw [luv]; exact Nat.le_trans small (by decide)) (src_name rm₁.handled fn hdu₁₃ hDu₁₃) (fun C => .inl (ke C).1) (fun C => by rw [slot_local (ke C).1]; exact Nat.le_refl _) ?_ ?_
    · intro i v C s₁₄ hi' hv k₁₄ wf₁₄ hea tr₁₄
      obtain ⟨a, ws, bs, rfl, ha, ra⟩ := dueAt s₁₄ k₁₄ i v hi' hv
      have hw := tr₁₄ _ _ hwi₁₃ (kw C).1 lwi (cw C).1
      have K14 := kp_trans K13 k₁₄
      have en₁₄ : En q mean mg mb s₁₄.heap (compE env sc1 [(Str.ofString "wide", L2)] C) := (enOf _ K13).comp (kp_k k₁₄) rfl
      refine ev_def2 (fa := oa) en₁₄ (kf C).1 hoa (lv 6 oa (by simp) hoa _ K14) (evName en₁₄.fn hea) (evName en₁₄.fn hw) fun u v k hu hv => ?_
      subst hu hv
      refine (octets_spec (s := { s₁₄ with toks := k }) rm₁ (by omega) ok en₁₄.top hoa ha ra (by rw [flk i]; exact fl2) (by rw [flk i]; omega) wd3).mono fun v s₁₅ h₁₅ => ?_
      obtain ⟨k₁₅, t', rfl⟩ := h₁₅
      exact ⟨kp_trans (kp_tok k) k₁₅, [], .bytes _ _, fun _ h => nomatch h⟩
    intro v s₁₄ as₁₄ k₁₄ rd₁₄ fr₁₄
    obtain ⟨O, ovs, obs, rfl, hO, rdO, _⟩ := rd₁₄.list_inv
    rw [luv, octB] at rdO
    obtain ⟨bO, _⟩ := rdO.bytes
    have hRn₁₄ : s₁₄.heap.IsList Rn rus.toArray := hRn₁₃.at fun o e => kp_k k₁₄ Rn o e
    refine lists_ne hRn₁₄ hO (by rw [bRn.length, bO.length]) units (BytesAre.eqAt bRn bO) (wpAny_truthy_bool ?_)
    rw [if_neg (by decide)]
    -- the kinds
    have K14 := kp_trans K13 k₁₄
    have wf₁₄ := wf₁₃.keeps (kp_k k₁₄)
    refine wpAny_allTrue_Or_cons (wpAny_isTrue_Compare1 (wpS.any ?_))
    refine ev_comp (s := s₁₄) (scope := sc2) (cl := []) (fun k => .type "bytes") wf₁₄ cc2 (by rw [lrn]; exact Nat.le_trans small (by decide)) (src_name rm₁.handled fn (hra₁₃.keeps (kp_k k₁₄)) hRn₁₄) (fun C => .inl (ke C).2.1) (fun C => by rw [slot_local (ke C).2.1]; exact Nat.le_refl _) ?_ ?_
    · intro i v C s₁₅ hi' hv k₁₅ wf₁₅ hea tr₁₅
      obtain ⟨t, rfl⟩ := ranAt i v hi' hv
      have en₁₅ : En q mean mg mb s₁₅.heap (compE env sc2 [] C) := (enOf _ K14).comp (kp_k k₁₅) rfl
      refine callExprS (ev_builtin en₁₅.top en₁₅.fn en₁₅.gl en₁₅.bl (kf C).2.1 (ok.free _ (by simp)) boot_type' (callS_type (args_cons (ev_name en₁₅.fn hea (args_nil (wpS.of_any ?_))))))
      exact call_type_of (typeIs_bytes _ _ _) (by decide) ⟨kp_refl _, [], .type _, fun _ h => nomatch h⟩
    intro v s₁₅ as₁₅ k₁₅ rd₁₅ fr₁₅
    obtain ⟨X, xvs, xbs, rfl, hX, rdX, _⟩ := rd₁₅.list_inv
    have K15 := kp_trans K14 k₁₅
    refine wpS.any ?_
    refine ev_comp (s := s₁₅) (scope := sc3) (cl := []) (fun k => .type "bytes") (wf₁₄.keeps (kp_k k₁₅)) cc3 (by rw [luv]; exact Nat.le_trans small (by decide)) (src_name rm₁.handled fn ((hdu₁₃.keeps (kp_k k₁₄)).keeps (kp_k k₁₅)) ((hDu₁₃.at fun o e => kp_k k₁₄ Du o e).at fun o e => kp_k k₁₅ Du o e)) (fun C => .inl (ke C).2.2.1) (fun C => by rw [slot_local (ke C).2.2.1]; exact Nat.le_refl _) ?_ ?_
    · intro i v C s₁₆ hi' hv k₁₆ wf₁₆ hea tr₁₆
      have en₁₆ : En q mean mg mb s₁₆.heap (compE env sc3 [] C) := (enOf _ K15).comp (kp_k k₁₆) rfl
      exact wpS.of_any (ev_builtin en₁₆.top en₁₆.fn en₁₆.gl en₁₆.bl (kf C).2.2.1 (ok.free _ (by simp)) boot_bytes' ⟨kp_refl _, [], .type _, fun _ h => nomatch h⟩)
    intro v s₁₆ as₁₆ k₁₆ rd₁₆ fr₁₆
    obtain ⟨Y, yvs, ybs, rfl, hY, rdY, _⟩ := rd₁₆.list_inv
    have hX₁₆ : s₁₆.heap.IsList X xvs.toArray := hX.at fun o e => kp_k k₁₆ X o e
    have lxv : xvs.length = m + 2 := by rw [rdX.length, List.length_map, List.length_range, lrn]
    have lyv : yvs.length = m + 2 := by rw [rdY.length, List.length_map, List.length_range, luv]
    refine lists_ne hX₁₆ hY (by omega) units (fun j h1 h2 => by rw [rdX.types j h1, rdY.types j h2]; exact eqAt_type "bytes") (wpAny_truthy_bool ?_)
    rw [if_neg (by decide)]
    refine wpAny_allTrue_Or_nil ?_
    rw [if_neg (by decide)]
    refine wpS.execs_nil ?_
    -- the last line
    have K16 := kp_trans K15 k₁₆
    have k13_16 : Keeps { s₁₂ with heap := h₁₃, toks := tk₁₃ } s₁₆ := kp_trans k₁₄ (kp_trans k₁₅ k₁₆)
    have wf₁₆ := wf₁₃.keeps (kp_k k13_16)
    refine wpS.execs_cons (returnS (compareS ?_))
    refine ev_comp (s := s₁₆) (scope := sc4) (cl := [(Str.ofString "wide", L2)]) (fun k => .bytes (hig k)) wf₁₆ cc4 (by rw [lrn]; exact Nat.le_trans small (by decide)) (src_name rm₁.handled fn (hra₁₃.keeps (kp_k k13_16)) (hRn₁₃.at fun o e => kp_k k13_16 Rn o e)) (fun C => .inl (ke C).2.2.2.1) (fun C => by rw [slot_local (ke C).2.2.2.1]; exact Nat.le_refl _) ?_ ?_
    · intro i v C s₁₇ hi' hv k₁₇ wf₁₇ hea tr₁₇
      obtain ⟨t, rfl⟩ := ranAt i v hi' hv
      have hw := tr₁₇ _ _ (hwi₁₃.keeps (kp_k k13_16)) (kw C).2.1 lwi (cw C).2.1
      have K17 := kp_trans K16 k₁₇
      have en₁₇ : En q mean mg mb s₁₇.heap (compE env sc4 [(Str.ofString "wide", L2)] C) := (enOf _ K16).comp (kp_k k₁₇) rfl
      refine ev_def2 (fa := ba) en₁₇ (kf C).2.2.2.1 hba (lv 1 ba (by simp) hba _ K17) (evName en₁₇.fn hea) (evName en₁₇.fn hw) fun u v k hu hv => ?_
      subst hu hv
      have lenLo : ∀ l ∈ (it i rows).flatten.map (lo wd), l.length = wd := fun l hl => by obtain ⟨x, _, rfl⟩ := List.mem_map.mp hl; exact lo_length wd x
      have lenOct : ((it i rows).flatten.map (lo wd)).flatten.length = rows.length * ch * wd := by rw [flat_length lenLo, List.length_map, flk i]
      have lenO : rows.length * ch * wd ≤ 18 * 3 := Nat.mul_le_mul fl3 wd3
      refine (swap_spec (s := { s₁₇ with toks := k }) rm₁ (by omega) ok en₁₇.top hba (by omega) lenLo (by omega) (by omega)).mono fun v s₁₈ h₁₈ => ?_
      obtain ⟨k₁₈, t', rfl⟩ := h₁₈
      rw [List.map_map, show (List.reverse ∘ lo wd) = Nq.hi wd from funext fun x => (hi_lo wd x).symm]
      exact ⟨kp_trans (kp_tok k) k₁₈, [], .bytes _ _, fun _ h => nomatch h⟩
    intro v s₁₇ as₁₇ k₁₇ rd₁₇ fr₁₇
    obtain ⟨Z, zvs, zbs, rfl, hZ, rdZ, _⟩ := rd₁₇.list_inv
    rw [lrn, higB] at rdZ
    obtain ⟨bZ, _⟩ := rdZ.bytes
    have K17 := kp_trans K16 k₁₇
    have k13_17 := kp_trans k13_16 k₁₇
    refine ev_comp (s := s₁₇) (scope := sc5) (cl := [(Str.ofString "wide", L2)]) (fun k => .bytes (hig k)) (wf₁₃.keeps (kp_k k13_17)) cc5 (by rw [luv]; exact Nat.le_trans small (by decide)) (src_name rm₁.handled fn (hdu₁₃.keeps (kp_k k13_17)) (hDu₁₃.at fun o e => kp_k k13_17 Du o e)) (fun C => .inl (ke C).2.2.2.2) (fun C => by rw [slot_local (ke C).2.2.2.2]; exact Nat.le_refl _) ?_ ?_
    · intro i v C s₁₈ hi' hv k₁₈ wf₁₈ hea tr₁₈
      obtain ⟨a, ws, bs, rfl, ha, ra⟩ := dueAt s₁₈ (kp_trans k13_17 k₁₈) i v hi' hv
      have hw := tr₁₈ _ _ (hwi₁₃.keeps (kp_k k13_17)) (kw C).2.2 lwi (cw C).2.2
      have K18 := kp_trans K17 k₁₈
      have en₁₈ : En q mean mg mb s₁₈.heap (compE env sc5 [(Str.ofString "wide", L2)] C) := (enOf _ K17).comp (kp_k k₁₈) rfl
      refine ev_def2 (fa := ha') en₁₈ (kf C).2.2.2.2 hha (lv 7 ha' (by simp) hha _ K18) (evName en₁₈.fn hea) (evName en₁₈.fn hw) fun u v k hu hv => ?_
      subst hu hv
      refine (high_spec (s := { s₁₈ with toks := k }) rm₁ (by omega) ok en₁₈.top hha ha ra (by rw [flk i]; exact fl2) (by rw [flk i]; omega) wd3).mono fun v s₁₉ h₁₉ => ?_
      obtain ⟨k₁₉, t', rfl⟩ := h₁₉
      exact ⟨kp_trans (kp_tok k) k₁₉, [], .bytes _ _, fun _ h => nomatch h⟩
    intro v s₁₈ as₁₈ k₁₈ rd₁₈ fr₁₈
    obtain ⟨V, vvs, vbs, rfl, hV, rdV, _⟩ := rd₁₈.list_inv
    rw [luv, higB] at rdV
    obtain ⟨bV, _⟩ := rdV.bytes
    exact lists_eq (hZ.at fun o e => kp_k k₁₈ Z o e) hV (by rw [bZ.length, bV.length]) units (BytesAre.eqAt bZ bV) ⟨kp_trans K17 k₁₈, rfl⟩
end
end Nq
end NqLawPart

section NqEndPart
open PySem PySem.W PySem.Calls PyProof.Rows
set_option linter.unusedVariables false
set_option maxRecDepth 100000
namespace Nq
theorem rm_caller : Rm callerA 0 := ⟨rfl, rfl, by decide, by decide⟩
/-- the names of built-ins that the text uses -/
abbrev names9 : List Str := [Str.ofString "bytearray", Str.ofString "len", Str.ofString "range", Str.ofString "bytes", Str.ofString "sorted", Str.ofString "min", Str.ofString "max", Str.ofString "sum", Str.ofString "type"]
theorem post_true (args : List WData) : PySem.Challenge.rw_nq0004_01.row.claim.post args (.bool true) args = true := by
  refine postW_of (X := true) (by rfl) ?_ rfl
  show WTm.value [] (.eq .res (.lit (.bool true))) { args := args, res := some (.bool true), after := args } = some (.bool true)
  first | with_unfolding_all rfl | simp [WTm.value] | (unfold WTm.value; simp [WTm.value])
/-- the walk, for any view of the top that shows the defs and hides no built-in -/
theorem walk {q : Program} {XP : (Str → Option Value) → Heap → Prop} {YP : World → Heap → Prop} {d : DefRec} {kwd : List (Str × Expr)} (hn : d.name = (dAt 13).name)
    (recs : [1, 4, 6, 7, 8, 9, 10, 11, 12, 13].map dAt = recsOf q)
    (free : ∀ x ∈ names9, x ∉ startupNames ∧ x ∉ looseW q [] ∧ x ∉ (recsOf q).map (·.name) ∧ x ∉ (litsOf q).map (·.1) ∧ x ∉ (clssOf q (looseW q [])).map (·.name)) :
    WalkS q [] XP YP PySem.Challenge.rw_nq0004_01.row.toRowW d kwd := by
  intro w s₀ s₁ mg mb G y a o pm cd doc dV kV ho hd hcd hdf hmg hgens args vals as hpre hlay hrd hwl hlo
  have T : Gd q (ExcName.means s₀.heap) mg mb s₁.heap := G.T
  have inn : ∀ n ∈ [1, 4, 6, 7, 8, 9, 10, 11, 12, 13], dAt n ∈ recsOf q := fun n h => recs ▸ List.mem_map_of_mem h
  have ok : Ok q mg := ⟨fun n hn => inn n (by simp only [List.mem_cons, List.not_mem_nil, or_false] at hn ⊢; omega), fun x hx => let ⟨f1, f2, f3, f4, f5⟩ := free x hx; T.free x f1 f2 f3 f4 f5⟩
  obtain ⟨a', o', pm', cd', doc', e1, e2, e3, e4⟩ := T.fn (dAt 13) (inn 13 (by simp))
  have ea : a' = a := by
    rw [← hn, hmg] at e1; cases e1; rfl
  subst ea
  clear hd hcd hdf ho
  wrow_args hpre hlay hrd hwl hlo
  rename (s₁.heap.IsList _ _) => hL
  rename (IntsAre _ _) => hI
  rename (¬ _ < _) => hc
  refine (law_spec rm_caller (by decide) ok T e2 e3 e4 hL hI (by omega)).mono fun v s' hv => ?_
  obtain ⟨k, rfl⟩ := hv
  have kk := kp_k k
  have hos : s'.os = s₁.os ∧ s'.gens = #[] := by
    obtain ⟨h', t', rfl, _⟩ := k
    exact ⟨rfl, hgens⟩
  refine GoodW.toG ⟨.inl ⟨.bool true, .bool true, [], rfl, ?_, .bool true, ?_, fun _ => ⟨List.nodup_nil, fun _ h => nomatch h⟩⟩, kk, hos.1, hos.2⟩
  · intro cls; rfl
  · exact post_true _
theorem ends : PySem.Challenge.rw_nq0004_01.Holds := NqT.hd (walk rfl (by kernel_rfl) (by decide +kernel))
end Nq
end NqEndPart

set_option maxRecDepth 100000 in
set_option maxHeartbeats 8000000 in
theorem PySem.Challenge.cw_nq0004_01_holds : PySem.Challenge.rw_nq0004_01.Holds := by
  exact Nq.ends
