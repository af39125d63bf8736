import PyProof.Rows.All
import Wide.All
import OpenK.AllK
import Wide.FinOn
import Lean
import PySem.Challenge.RW_bd5008_01
set_option Elab.async false
set_option linter.all false
set_option maxRecDepth 100000
-- B1
namespace Mine
open PySem PySem.W PySem.Calls PyProof.Rows PySem.Builtin PySem.Builtin.Bytes
namespace F
theorem ba_mro : mroOf (.type "bytearray") = pure [.type "bytearray", .type "object"] := by rw [mroOf_type]; kernel_rfl
theorem ba_lookup_new : typeLookup (.type "bytearray") "__new__" = pure (some (.builtin "bytearray.__new__")) := by rw [typeLookup_type, builtinLookup_eq_fast]; kernel_rfl
theorem ba_slot_init : Slot "bytearray" "__init__" "bytearray.__init__" :=
  .of (owner := "bytearray") (n := "__init__") (by rw [typeLookup_type, builtinLookup_eq_fast]; kernel_rfl) (by decide +kernel) (by decide +kernel) (by decide +kernel)
    (by first | exact .inl (by decide +kernel) | exact .inr (by decide +kernel)) (by rw [isSubtype_type]; kernel_rfl)
theorem ba_called : TypeCalled "bytearray" "bytearray.__new__" "bytearray.__init__" :=
  ⟨by decide +kernel, by decide +kernel, ⟨_, _, ba_mro⟩, madeBy_type ba_mro ba_lookup_new (by decide +kernel), by decide +kernel, by rw [isSubtype_type]; kernel_rfl, ba_slot_init⟩
theorem ba_typeCall_0 : checkTypeCall "bytearray" ⟨[], []⟩ = pure () := by kernel_rfl
theorem ba_typeCall_1 (a : Value) : checkTypeCall "bytearray" ⟨[a], []⟩ = pure () := by kernel_rfl
theorem ba_newCall (l : List Value) : checkBuiltinCall "bytearray.__new__" ⟨.type "bytearray" :: l, []⟩ = pure () := by kernel_rfl
theorem ba_entry_new : entryFor table "bytearray.__new__" = some Builtin.«list.__new__» := entryFor_alias (id' := "list.__new__") (by kernel_rfl) (by decide +kernel) (by decide +kernel) (by kernel_rfl)
theorem ba_no_release : typeLookup (.type "bytearray") "__release_buffer__" = pure (some (.builtin "bytearray.__release_buffer__")) := by rw [typeLookup_type, builtinLookup_eq_fast]; kernel_rfl
theorem ba_buffer : typeLookup (.type "bytearray") "__buffer__" = pure (some (.builtin "bytearray.__buffer__")) := by rw [typeLookup_type, builtinLookup_eq_fast]; kernel_rfl
theorem ba_index : typeLookup (.type "bytearray") "__index__" = pure none := by rw [typeLookup_type, builtinLookup_eq_fast]; kernel_rfl
theorem by_buffer : typeLookup (.type "bytes") "__buffer__" = pure (some (.builtin "bytes.__buffer__")) := by rw [typeLookup_type, builtinLookup_eq_fast]; kernel_rfl
theorem by_index : typeLookup (.type "bytes") "__index__" = pure none := by rw [typeLookup_type, builtinLookup_eq_fast]; kernel_rfl
theorem by_release : typeLookup (.type "bytes") "__release_buffer__" = pure none := by rw [typeLookup_type, builtinLookup_eq_fast]; kernel_rfl
theorem by_sub : isSubtype (.type "bytes") (.type "bytes") = pure true := by rw [isSubtype_type]; kernel_rfl
theorem ba_bind_0 : Bytes.bindOptional "bytearray.__init__" "bytearray" ["source", "encoding", "errors"] [] [] = pure [none, none, none] := by kernel_rfl
theorem ba_bind_1 (v : Value) : Bytes.bindOptional "bytearray.__init__" "bytearray" ["source", "encoding", "errors"] [v] [] = pure [some v, none, none] := by kernel_rfl
theorem ba_plain_new : plainId "bytearray.__new__" = true := by decide +kernel
theorem ba_entry_init : entryFor table "bytearray.__init__" = some Builtin.«bytearray.__init__» := by first | exact entryFor_of_fast (by kernel_rfl) | exact entryFor_of_tree (by kernel_rfl)
theorem ba_initArgs_0 (o : Value) : argsOk "bytearray.__init__" ⟨[o], []⟩ := by unfold argsOk; kernel_rfl
theorem ba_initArgs_1 (o a : Value) : argsOk "bytearray.__init__" ⟨[o, a], []⟩ := by unfold argsOk; kernel_rfl
theorem ba_sub : isSubtype (.type "bytearray") (.type "bytearray") = pure true := by rw [isSubtype_type]; kernel_rfl
theorem ba_owner : ("bytearray.__new__".splitOn ".__new__").headD "" = "bytearray" := by rw [PySem.W.split_bytearray]; rfl
end F
section
variable {prog : Program} {w : World} {A : Around} {E : Value → Shared → Prop} {s : Shared}
abbrev baObj (b : Array UInt8) : Obj := { cls := .type "bytearray", data := .bytearray b }
theorem code_ba_new (l : List Value) {Q₁ : Value → Shared → Prop}
    (h : Q₁ (.ref s.heap.objs.size) { s with heap := s.heap.push (baObj #[]) }) :
    codeAny (model prog w) A (.call (.builtin "bytearray.__new__") ⟨.type "bytearray" :: l, []⟩) (wants Q₁ E) s := by
  refine codeAny_of_tree ?_
  show wpAny _ A.in1 (do checkBuiltinCall "bytearray.__new__" ⟨.type "bytearray" :: l, []⟩; again (.builtin "bytearray.__new__" ⟨.type "bytearray" :: l, []⟩)) _ _ s
  refine wpAny_bind (wpAny_of_eq (F.ba_newCall l) (wpAny_pure ⟨plainId_quiet F.ba_plain_new _, codeAny_builtin_stack F.ba_entry_new rfl fun p st => ?_⟩))
  rw [Around.under_plainId F.ba_plain_new _]
  have hsub := F.ba_sub
  have hown := F.ba_owner
  obtain ⟨hp, g, d, tk, os⟩ := s
  simp only [hown]
  wp_walk
  exact h
end
end Mine

-- G1
namespace Mine
open PySem PySem.W PySem.Calls PyProof.Rows PySem.Builtin PySem.Builtin.Bytes
open PySem.Sem (wp)
def isDec (c : Code) : Bool := match c with
  | .builtin i _ => decodersThatHold.contains i
  | _ => false
def CleanB (Γ : PySem.Ctx) : Prop := ∀ q ∈ Γ.below, isDec q.1 = false
def Clean (Γ : PySem.Ctx) : Prop := isDec Γ.code = false ∧ CleanB Γ
def wpG {α : Type} (M : Model) (A : Around) (t : Sem α) (Q : α → Shared → Prop) (E : Value → Shared → Prop) (s : Shared) : Prop :=
  ∀ Γ p, Γ.In A → Clean Γ → wp M Γ t (fun a _ s' => Q a s') (fun e _ s' => E e s') p s
def codeG (M : Model) (A : Around) (c : Code) (R : Result → Shared → Prop) (s : Shared) : Prop :=
  ∀ Γ p, Γ.code = c → Γ.Below A → CleanB Γ → wpCode M Γ R p s
theorem Clean.enter {Γ : PySem.Ctx} (h : Clean Γ) (c : Code) (hd : Option Value) (p : Pos) : CleanB (Γ.enter c hd p) := fun q hq => by
  rcases List.mem_cons.mp (show q ∈ (Γ.code, p) :: Γ.below from hq) with rfl | hq
  · exact h.1
  · exact h.2 q hq
section
variable {α β : Type} {M : Model} {A : Around} {E : Value → Shared → Prop} {s : Shared}
theorem wpG_of {t : Sem α} {Q : α → Shared → Prop} (h : wpAny M A t Q E s) : wpG M A t Q E s := fun Γ p hΓ _ => h Γ p hΓ
theorem codeG_of {c : Code} {R : Result → Shared → Prop} (h : codeAny M A c R s) : codeG M A c R s := fun Γ p hc hΓ _ => h Γ p hc hΓ
theorem wpG_pure {a : α} {Q : α → Shared → Prop} (h : Q a s) : wpG M A (pure a) Q E s := fun _ _ _ _ => h
theorem wpG_throw {e : Value} {Q : α → Shared → Prop} (h : E e s) : wpG M A (throw e : Sem α) Q E s := fun _ _ _ _ => h
theorem wpG_mono {t : Sem α} {Q Q' : α → Shared → Prop} {E' : Value → Shared → Prop} (h : wpG M A t Q E s) (hQ : ∀ a s, Q a s → Q' a s) (hE : ∀ e s, E e s → E' e s) : wpG M A t Q' E' s :=
  fun Γ p hΓ hc => Sem.wp_mono M Γ t (fun a _ s => hQ a s) (fun e _ s => hE e s) p s (h Γ p hΓ hc)
theorem wpG_bind {m : Sem α} {f : α → Sem β} {Q : β → Shared → Prop} (h : wpG M A m (fun a s' => wpG M A (f a) Q E s') E s) : wpG M A (m >>= f) Q E s := fun Γ p hΓ hc => by
  rw [Sem.wp_bind']
  exact Sem.wp_mono M Γ m (fun a p' s' h' => h' Γ p' hΓ hc) (fun _ _ _ h' => h') p s (h Γ p hΓ hc)
theorem wpG_tryCatch {m : Sem α} {k : Value → Sem α} {Q : α → Shared → Prop} (h : wpG M A m Q (fun e s' => wpG M A (k e) Q E s') s) : wpG M A (tryCatch m k) Q E s := fun Γ p hΓ hc => by
  rw [Sem.wp_tryCatch']
  exact Sem.wp_mono M Γ m (fun _ _ _ h' => h') (fun e p' s' h' => h' Γ p' hΓ hc) p s (h Γ p hΓ hc)
theorem wpG_onRaise {m : Sem α} {k : Value → Sem Unit} {Q : α → Shared → Prop} (h : wpG M A m Q (fun e s' => wpG M A (k e) (fun _ s'' => E e s'') E s') s) : wpG M A (m.onRaise k) Q E s := fun Γ p hΓ hc => by
  rw [Sem.wp_onRaise]
  exact Sem.wp_mono M Γ m (fun _ _ _ h' => h') (fun e p' s' h' => h' Γ p' hΓ hc) p s (h Γ p hΓ hc)
theorem wpG_attempt {m : Sem α} {Q : Except Value α → Shared → Prop} (h : wpG M A m (fun a => Q (.ok a)) (fun e => Q (.error e)) s) : wpG M A m.attempt Q E s := fun Γ p hΓ hc => by rw [Sem.wp_attempt]; exact h Γ p hΓ hc
theorem wpG_holding {vs : List Value} {m : Sem α} {Q : α → Shared → Prop} (h : wpG M A m Q E s) : wpG M A (holding vs m) Q E s := fun Γ p hΓ hc => by rw [Sem.wp_holding]; exact h Γ p hΓ hc
theorem wpG_keep {vs : List Value} {m : Sem α} {Q : α → Shared → Prop} (h : wpG M A m Q E s) : wpG M A (m.keep vs) Q E s := fun Γ p hΓ hc => by rw [Sem.wp_keep]; exact h Γ p hΓ hc
theorem wpG_operating {vs : List Value} {m : Sem Value} {Q : Value → Shared → Prop} (h : wpG M A m Q E s) : wpG M A (operate vs m) Q E s := fun Γ p hΓ hc => by rw [Sem.wp_operate]; exact h Γ p hΓ hc
theorem wpG_of_eq {t : Sem α} {a : α} {Q : α → Shared → Prop} (h : t = pure a) (hQ : Q a s) : wpG M A t Q E s := h ▸ wpG_pure hQ
theorem wpG_standAt {pos : Pos} {Q : Unit → Shared → Prop} (h : Q () s) : wpG M A (standAt pos) Q E s := fun _ _ _ _ => h
theorem wpG_point {Q : Unit → Shared → Prop} (h : Q () s) : wpG M A point Q E s := fun _ _ _ _ => h
theorem wpG_rule {tag : String} {Q : Unit → Shared → Prop} (h : Q () s) : wpG M A (rule tag) Q E s := fun _ _ _ _ => h
theorem wpG_if_false {c : Bool} {a b : Sem α} {Q : α → Shared → Prop} (hc : c = false) (h : wpG M A b Q E s) : wpG M A (if c = true then a else b) Q E s := by subst hc; exact h
theorem wpG_if_true {c : Bool} {a b : Sem α} {Q : α → Shared → Prop} (hc : c = true) (h : wpG M A a Q E s) : wpG M A (if c = true then a else b) Q E s := by subst hc; exact h
theorem wpG_run {c : Code} {h : Option Value} {Q : Flow → Shared → Prop}
    (hc : codeG M (A.mark h) c (fun r s' => match r with | .ok f => Q f s' | .error e => E e s') s) (hnb : h ≠ some byPass := by intro x; cases x) : wpG M A (run c h) Q E s :=
  fun Γ p hΓ hC => by rw [Sem.wp_run]; exact hc _ p rfl (hΓ.enter c h p hnb) (hC.enter c h p)
theorem wpG_runValue {c : Code} {Q : Value → Shared → Prop}
    (hc : codeG M A c (fun r s' => match r with | .ok (.ret v) => Q v s' | .ok _ => False | .error e => E e s') s) : wpG M A (runValue c) Q E s :=
  fun Γ p hΓ hC => by rw [Sem.wp_runValue]; exact hc _ p rfl (hΓ.enter c none p (by intro x; cases x)) (hC.enter c none p)
theorem wpG_call {f : Value} {pos : List Value} {kw : List (Str × Value)} {Q : Value → Shared → Prop}
    (hc : codeG M A (.call f ⟨pos, kw⟩) (fun r s' => match r with | .ok (.ret v) => Q v s' | .ok _ => False | .error e => E e s') s) : wpG M A (call f pos kw) Q E s := wpG_runValue hc
theorem codeG_mono {c : Code} {R R' : Result → Shared → Prop} (h : codeG M A c R s) (hR : ∀ r s, R r s → R' r s) : codeG M A c R' s :=
  fun Γ p hc hΓ hC => wpCode_mono hR (h Γ p hc hΓ hC)
theorem codeG_of_tree {c : Code} {R : Result → Shared → Prop} (hd : isDec c = false)
    (h : wpG M (A.under c) (M.den c) (fun fin s' => match fin with | .done f => R (.ok f) s' | .again c' => c'.quiet = true ∧ codeG M A c' R s') (fun e s' => R (.error e) s') s) : codeG M A c R s := fun Γ p hc hΓ hC => by
  rw [wpCode_iff_wp, hc]
  refine Sem.wp_mono M Γ _ (fun fin p' s' h' => ?_) (fun _ _ _ h' => h') p s (h Γ p (hc ▸ hΓ.in) ⟨by rw [hc]; exact hd, hC⟩)
  cases fin with
  | done f => exact h'
  | again c' => exact ⟨h'.1, h'.2 (Γ.goto c') p' rfl (hΓ.goto c') hC⟩
theorem guards_none {l : List (Code × Pos)} (h : guardsOf l = []) : ∀ q ∈ l, q.1.isGuard = false := fun q hq => by
  cases e : q.1.isGuard with
  | false => rfl
  | true =>
    have : q.1 ∈ guardsOf l := List.mem_filter.mpr ⟨List.mem_map_of_mem hq, e⟩
    rw [h] at this
    cases this
theorem wpG_exported {a : Addr} {Q : Bool → Shared → Prop} (hg : A.guards = some []) (h : Q false s) : wpG M A (exported (.ref a)) Q E s := fun Γ p hΓ hC => by
  have hgs : guardsOf ((Γ.code, p) :: Γ.below) = [] := by rw [guardsOf_cons]; exact hΓ.2.2.2.1 [] hg
  have key : ∀ q ∈ ((Γ.code, p) :: Γ.below), q.1.isGuard = false ∧ isDec q.1 = false := fun q hq => by
    refine ⟨guards_none hgs q hq, ?_⟩
    rcases List.mem_cons.mp hq with rfl | hq
    · exact hC.1
    · exact hC.2 q hq
  unfold exported
  show Q (List.any ((Γ.code, p) :: Γ.below) _) s
  rw [List.any_eq_false.mpr]
  · exact h
  rintro ⟨c, p'⟩ hq
  obtain ⟨h1, h2⟩ := key _ hq
  dsimp only at h1 h2 ⊢
  split
  all_goals first
    | (rename_i e; cases e; exfalso; revert h1; simp [Code.isGuard, guardIds]; done)
    | (rename_i e; cases e; simp [isDec] at h2; simp; intro _; exact h2)
    | simp
end
end Mine

-- G2
namespace Mine
open PySem PySem.W PySem.Calls PyProof.Rows
open PySem.Sem (wp)
theorem caller_clean : Clean (⟨.builtin "claim.caller" {}, none, none, [], none⟩ : PySem.Ctx) := ⟨by decide +kernel, fun _ h => nomatch h⟩
theorem wp_of_wpG_done {M : Model} {A : Around} {Γ : PySem.Ctx} {t : Sem Fin} {R : Result → Shared → Prop} {s : Shared} (hin : Γ.In A) (hc : Clean Γ)
    (h : wpG M A t (fun fin s' => ∃ f, fin = .done f ∧ R (.ok f) s') (fun e s' => R (.error e) s') s) (p : Pos) :
    wp M Γ t (Sem.finPost M Γ R) (fun e _ s' => R (.error e) s') p s := by
  refine Sem.wp_mono M Γ t (fun fin p' s' h' => ?_) (fun _ _ _ h' => h') p s (h Γ p hin hc)
  obtain ⟨f, rfl, hf⟩ := h'
  exact hf
theorem thread_endsG {prog : Program} {w : World} {t : Sem Fin} {s : Shared} {R : Result → Shared → Prop} (hreg : s.asleep)
    (h : wpG (model prog w) callerA t (fun fin s' => ∃ f, fin = .done f ∧ (R (.ok f) s' ∧ leftWithCleanup s'.gens = false)) (fun e s' => R (.error e) s' ∧ leftWithCleanup s'.gens = false) s) :
    ∃ n r s' s'', runN (denote table) prog w n s ⟨t, .builtin "claim.caller" {}, default, []⟩ = .halted (outcomeOf r) s' ∧
      schedN (denote table) prog w n (.single s ⟨t, .builtin "claim.caller" {}, default, []⟩) = .halted (outcomeOf r) s' ∧ s'.forget = s''.forget ∧ R r s'' := by
  obtain ⟨n, r, s₁, s₂, hs, hn, hfo, hR⟩ := wp_halts_full (M := model prog w) (R := R) hreg (wp_of_wpG_done (R := fun r s' => R r s' ∧ leftWithCleanup s'.gens = false) caller_in caller_clean h default)
  exact ⟨n, r, s₂, s₁, hn, hs, hfo, hR⟩
theorem callFrom_G {c : ClaimW} {tree : List Value → Sem Fin} {w : World} {s : Shared} {free : Addr → Prop} {gens : Prop} {kept : Heap → Prop} (hz : s.asleep) (hgens : s.gens = #[])
    (hspec : ∀ args, c.pre args = true → WData.layableAll args = true →
      ∀ ord : List DictEntry → List DictEntry, (∀ l, (ord l).Perm l) →
      ∃ vs s₁, layAllW c.records (classAt s.heap) w.params ord args s = some (vs, s₁) ∧
        wpG (model c.prog w) callerA (tree vs) (fun fin s' => ∃ f, fin = .done f ∧ (c.Ends s args vs s₁ (.ok f) s' ∧ s'.os = s.os ∧ AllBare s'.gens ∧ kept s'.heap))
          (fun e s' => c.Ends s args vs s₁ (.error e) s' ∧ s'.os = s.os ∧ AllBare s'.gens ∧ kept s'.heap) s₁) :
    c.CallFrom (fun vs => ⟨tree vs, .builtin "claim.caller" {}, default, []⟩) w free gens kept s := by
  intro args hpre hlay ord hord
  obtain ⟨vs, s₁, hlaid, hcode⟩ := hspec args hpre hlay ord hord
  have hal := layAllW_rest _ _ _ hlaid
  obtain ⟨k, r, s', s'', hrun, hsched, hfo, hcase, hos, hkp⟩ := thread_endsG (prog := c.prog) (w := w) (t := tree vs) (s := s₁)
    (R := fun r s' => c.Ends s args vs s₁ r s' ∧ s'.os = s.os ∧ kept s'.heap)
    (Shared.asleep_of_life hal.2.2.2 hz)
    (wpG_mono hcode (fun fin s' h => by
      obtain ⟨f, e, h1, h2, h3, h4⟩ := h
      exact ⟨f, e, ⟨h1, h2, h4⟩, leftWithCleanup_false_of_bare h3⟩) (fun e s' h => by
      obtain ⟨h1, h2, h3, h4⟩ := h
      exact ⟨⟨h1, h2, h4⟩, leftWithCleanup_false_of_bare h3⟩))
  obtain ⟨eh, _, _, eo, _⟩ := Shared.forget_eq hfo
  have hcase := hcase.congr eh
  have hkp : kept s'.heap := by first | exact eh ▸ hkp | (rw [eh] at hkp; exact hkp) | (rw [← eh] at hkp; exact hkp)
  rw [← eo] at hos
  have hlife : s'.heap.life = s.heap.life := (runN_life _ _ _ hrun).trans hal.2.2.2
  refine ⟨vs, s₁, hlaid, k, _, s', hsched, ?_, (fun _ i x hx => by rw [hgens] at hx; simp at hx), hkp, by rw [hlife], Shared.rest_eq hos⟩
  rcases hcase with ⟨v, rfl, d1, d2, d3, d4, d5⟩ | ⟨e, ob, cls, rfl, d1, d2, d3, d4, d5⟩
  · exact .inl ⟨v, rfl, d1, d2, d3, fun b o y _ => d4 b o y, d5⟩
  · exact .inr ⟨e, ob, cls, rfl, d1, d2, d3, d4, fun b o y _ => d5 b o y⟩
theorem open_any {r : RowW} {run : Value → List Value → Sem Value} {tree : List Value → Sem Fin} {q : Program} {loose defs kps : List Str} {writes : Bool} {Xt : Shared → Bool} {XP : (Str → Option Value) → Heap → Prop} {α : Type} {Yf : Shared → α} {Ya : World → α} {YP : World → Heap → Prop} {N : Nat}
    (left : LeftO r.prog q loose Xt Yf Ya N) (hY : ∀ w s, Yf s = Ya w → YP w s.heap) (hYk : ∀ w h h', YP w h → (∀ b o, h.get? b = some o → h'.get? b = some o) → YP w h') (hX : ∀ s, Xt s = true → XP (s.heap.nsMap mainGlobals) s.heap) (hXk : ∀ mg h h', XP mg h → (∀ b o, h.get? b = some o → h'.get? b = some o) → XP mg h')
    (hRf : ∀ s, Xt s = true → RecFacts r.records s.heap) (hwr : (!writes || r.records.isEmpty) = true) (ok : (chainsOk q && opensWell r.prog && (frees r && r.within.isEmpty)) = true) (hb : r.prog.bare) (hw : r.promised)
    (ht : ∀ vs (w : World) (s : Shared) mg f (Q : Fin → Shared → Prop) (E : Value → Shared → Prop), s.heap.Ns mainGlobals mg → mg r.name = some f → wpG (model r.prog w) callerA (run f vs) (fun v s' => Q (.done (.ret v)) s') E s → wpG (model r.prog w) callerA (tree vs) Q E s)
    (pin : ∀ w s, s.heap.isNs mainGlobals = true → Ground q loose [] XP w s (s.heap.nsMap mainGlobals) (s.heap.nsMap builtinsNs) s.heap → ∀ n ∈ defs, isTheDefsW r.prog s.heap n)
    (call : ∀ (w : World) (s₀ s₁ : Shared) (mg mb : Str → Option Value), Ground q loose r.records XP w s₀ mg mb s₁.heap → YP w s₁.heap → ∀ (args : List WData) (vs : List Value) (as : List Addr),
      r.claim.pre args = true → WData.layableAll args = true → Laid r.records w s₀ s₁ args vs as → sysModules < s₀.heap.objs.size → ∃ f, mg r.name = some f ∧
        wpG (model r.prog w) callerA (run f vs) (fun v s' => GoodWG r.claim (classAt s₀.heap) (ExcName.means s₀.heap) args s₁ (.ok (.ret v)) s')
          (fun e s' => GoodWG r.claim (classAt s₀.heap) (ExcName.means s₀.heap) args s₁ (.error e) s') s₁) : r.claim.HoldsOpenBy (fun vs => ⟨tree vs, .builtin "claim.caller" {}, default, []⟩) defs kps writes := by
  obtain ⟨ok, k5⟩ := Bool.and_eq_true_iff.mp ok
  obtain ⟨hch, o1⟩ := Bool.and_eq_true_iff.mp ok
  obtain ⟨k5, k6⟩ := Bool.and_eq_true_iff.mp k5
  obtain ⟨hsame, hu, ha, hap, hm⟩ := frees_parts k5
  refine ⟨⟨hb, o1, by show r.makers.map _ = []; rw [hm]; rfl⟩, hw.witness, fun w => ⟨(left.behind hX hch w).1, fun s' hs' => ?_⟩⟩
  obtain ⟨s₀, hf, hg0, s, hT, hz, hgens, hg, G00, y⟩ := (left.behind (XP := fun mg h => XP mg h ∧ RecFacts r.records h) (fun s hs => ⟨hX s hs, hRf s hs⟩) hch w).2 s' hs'
  have G0 : Ground q loose [] XP w s (s.heap.nsMap mainGlobals) (s.heap.nsMap builtinsNs) s.heap := ⟨G00.T, G00.B, G00.D, G00.TE, G00.TD, G00.W, G00.X.1, G00.cls, G00.has, G00.apart, G00.once, G00.K⟩
  have RF := G00.X.2
  have hT' := hT
  refine ⟨s₀, hf, hg0, s, hT, pin w s hg G0, RF.1, RF.2.1, ?_⟩
  have hgens : s.gens = #[] := Array.eq_empty_of_size_eq_zero (beq_iff_eq.mp hgens)
  have G : Ground q loose r.records XP w s _ _ s.heap := RF.ground G0
  refine callFrom_G (c := r.claim) hz hgens fun args hpre hlay ord hord => ?_
  obtain ⟨⟨vs, s₁⟩, hlaid⟩ := Option.isSome_iff_exists.mp (layAllW_isSome (P := w.params) (ord := ord) G.has args r.args s (pre_splitW hpre).1)
  have keeps := layAllW_keeps _ _ _ hlaid
  have hal := layAllW_rest _ _ _ hlaid
  obtain ⟨as, hrd, hin, hold⟩ := reads_layAllW hord _ _ _ hlaid hlay s₁.heap (fun _ _ e => e)
  have L : Laid r.records w s s₁ args vs as := ⟨⟨ord, hord, hlaid⟩, hrd, hin, hold, keeps, hal.1.trans hgens, hal.2.2.1⟩
  have G₁ := G.keeps hXk keeps
  obtain ⟨f, hf, h⟩ := call w s s₁ _ _ G₁ (hYk _ _ _ (hY w s y) keeps) args vs as hpre hlay L G.low
  have hi := ident_freeW hu ha hap
  have hwi : r.claim.within = [] := List.isEmpty_iff.mp k6
  exact ⟨vs, s₁, hlaid, ht vs w s₁ _ f _ _ G₁.T.g hf (wpG_mono h (fun v s' g => ⟨_, rfl, have z := g.laid (c := r.claim) hsame hwi hi L; ⟨z.1, z.2.1, z.2.2, fun q => ⟨namesKept_of hT' hg kps keeps g.2.1.old, noTable hwr q⟩⟩⟩) fun e s' g => have z := g.laid (c := r.claim) hsame hwi hi L; ⟨z.1, z.2.1, z.2.2, fun q => ⟨namesKept_of hT' hg kps keeps g.2.1.old, noTable hwr q⟩⟩)⟩
abbrev WalkG (q : Program) (loose : List Str) (XP : (Str → Option Value) → Heap → Prop) (YP : World → Heap → Prop) (r : RowW) (d : DefRec) (kwd : List (Str × Expr)) (run : Value → List Value → Sem Value) : Prop :=
  ∀ (w : World) (s₀ s₁ : Shared) (mg mb : Str → Option Value), Ground q loose r.records XP w s₀ mg mb s₁.heap → YP w s₁.heap → ∀ (a : Addr) (o : Obj) (pm cd doc dV kV : Value), s₁.heap.get? a = some o →
    o.data = .func { docDef d.name d.params d.body d.scope pm cd doc with defaults := dV, kwdefaults := kV } → s₁.heap.CodeRec cd d.name → Dflts mg s₁.heap d.params kwd dV kV → mg d.name = some (.ref a) → s₁.gens = #[] →
    ∀ (args : List WData) (vals : List Value) (as : List Addr), r.claim.pre args = true → WData.layableAll args = true → ReadsAllW r.records (classAt s₀.heap) s₁.heap vals args as → WellAll w.params s₁.heap vals args → (∀ a ∈ as, (a == sysModules) = false) →
      wpG (model r.prog w) callerA (run (.ref a) vals) (fun v s' => GoodWG r.claim (classAt s₀.heap) (ExcName.means s₀.heap) args s₁ (.ok (.ret v)) s')
        (fun e s' => GoodWG r.claim (classAt s₀.heap) (ExcName.means s₀.heap) args s₁ (.error e) s') s₁
end Mine
namespace MineH
open _root_.PySem _root_.PySem.W _root_.PySem.Calls PyProof.Rows Mine
theorem PySem.W.holds_open {r : OpenRow} {q : Program} {loose : List Str} {Xt : Shared → Bool} {XP : (Str → Option Value) → Heap → Prop} {α : Type} {Yf : Shared → α} {Ya : World → α} {YP : World → Heap → Prop} {d : DefRec} {kwd : List (Str × Expr)} {N : Nat}
    (left : LeftO r.prog q loose Xt Yf Ya N) (hY : ∀ w s, Yf s = Ya w → YP w s.heap) (hYk : ∀ w h h', YP w h → (∀ b o, h.get? b = some o → h'.get? b = some o) → YP w h')
    (hX : ∀ s, Xt s = true → XP (s.heap.nsMap mainGlobals) s.heap) (hXk : ∀ mg h h', XP mg h → (∀ b o, h.get? b = some o → h'.get? b = some o) → XP mg h')
    (hdef : defOf q r.name = some (d, kwd)) (hp : r.prog.theDef r.name = some (d.params, d.body, d.scope)) (hk : kwWritten? d.params.kwonlyargs d.params.kw_defaults = some kwd) (hRf : ∀ s, Xt s = true → RecFacts r.records s.heap) (hwr : (!r.writes || r.records.isEmpty) = true)
    (k1 : r.wellSaid = true) (ok : (chainsOk q && opensWell r.prog && (frees r.toRowW && r.within.isEmpty)) = true) (hb : r.prog.bare) (hw : r.toRowW.promised)
    (call : WalkG q loose XP YP r.toRowW d kwd fun f vs => PySem.call f vs) : r.Holds := by
  refine ⟨k1, hw, open_any (r := r.toRowW) (run := fun f vs => PySem.call f vs) (tree := fun vs => do match ← nsGet mainNs r.name with
      | some f => do ret (← PySem.call f vs)
      | none => unsupported "claim.caller:no-such-global") left hY hYk hX hXk hRf hwr ok hb hw
    (fun vs w s mg f Q E hg hf h => wpG_bind (wpG_of (wpAny_nsGet hg (by rw [hf]; exact wpG_bind (wpG_mono h (fun _ _ x => wpG_pure x) fun _ _ x => x)))))
    (fun w s hg G n hn => ?_) fun w s₀ s₁ mg mb G Y args vs as hpre hlay L low => ?_⟩
  · obtain rfl : n = r.name := by split at hn <;> simp_all
    exact pinned_of_view hg G hdef hp hk
  · obtain ⟨a, o, pm, cd, doc, dV, kV, h1, h2, h3, h4, h5⟩ := G.fn hdef
    exact ⟨.ref a, h1, call w s₀ s₁ mg mb G Y a o pm cd doc dV kV h2 h3 h4 h5 (defOf_name hdef ▸ h1) L.gens args vs as hpre hlay L.reads L.well (L.low low)⟩
end MineH

-- G3
namespace Mine
open PySem PySem.W PySem.Calls PyProof.Rows
open PySem.Sem (wp)
section
variable {M : Model} {A : Around} {E : Value → Shared → Prop} {s : Shared} {env : Env}
theorem wpG_release {vs keep : List Value} {Q : Unit → Shared → Prop} (h : Q () s) : wpG M A (release vs keep) Q E s := fun Γ p _ _ => by rw [Sem.wp_release]; exact h
theorem wpG_execs_nil {Q : Flow → Shared → Prop} (h : Q .next s) : wpG M A (execs [] env) Q E s := wpG_pure h
theorem wpG_execs_cons {st rest} {Q : Flow → Shared → Prop}
    (h : wpG M A (exec st env) (fun f s' => match f with | .next => wpG M A (execs rest env) Q E s' | f => Q f s') E s) : wpG M A (execs (st :: rest) env) Q E s := by
  rw [execs_cons]
  refine wpG_bind (wpG_mono h (fun f s' h' => ?_) fun _ _ x => x)
  cases f <;> first | exact h' | exact wpG_pure h'
theorem wpG_Expr {e pos} {Q : Flow → Shared → Prop} (h : wpG M A (eval e env) (fun v s' => match v with | .ref _ => False | _ => Q .next s') E s)
    (hi : interactive env = false := by rfl) (hs : swapsWith e none pos.line env = pure false := by rfl) : wpG M A (exec (.Expr e pos) env) Q E s := by
  rw [exec_Expr env e pos hi hs]
  refine wpG_bind (wpG_standAt (wpG_bind (wpG_mono h (fun v s' h' => ?_) fun _ _ x => x)))
  have hv : ∀ a, v ≠ .ref a := fun a hva => by subst hva; exact h'
  rw [dropValue_plain hv]
  refine wpG_pure ?_
  cases v <;> first | exact h' | exact (hv _ rfl).elim
theorem wpG_Assign_Name {x pos' value pos} {Q : Flow → Shared → Prop}
    (h : wpG M A (eval value env) (fun v s₁ => wpAny M A (storeName env x v) (fun _ => Q .next) E s₁) E s)
    (hs : swapsWith value (some (.Name x pos')) pos.line env = pure false := by rfl) : wpG M A (exec (.Assign [.Name x pos'] value pos) env) Q E s := by
  rw [exec_Assign_Name env x pos' value pos hs]
  exact wpG_bind (wpG_standAt (wpG_bind (wpG_mono h (fun v s₁ h₁ => wpG_bind (wpG_standAt (wpG_bind (wpG_of (wpAny_bindName (wpAny_mono h₁ (fun _ _ z => wpG_pure z) fun _ _ z => z)))))) fun _ _ z => z)))
theorem wpG_If {test body orelse pos} {Q : Flow → Shared → Prop}
    (h : wpAny M A (isTrue test env (eval test env)) (fun b s₂ => if b then wpG M A (execs body env) Q E s₂ else wpG M A (execs orelse env) Q E s₂) E s) :
    wpG M A (exec (.If test body orelse pos) env) Q E s := by
  rw [exec_If]
  refine wpG_bind (wpG_standAt (wpG_bind (wpG_mono (wpG_of h) (fun b s₂ h₂ => ?_) fun _ _ z => z)))
  cases b <;> exact h₂
theorem wpG_IfExp {test body orelse : Expr} {pos : Pos} {Q : Value → Shared → Prop}
    (h : wpAny M A (isTrue test env (eval test env)) (fun b s₁ => if b then wpG M A (eval body env) Q E s₁ else wpG M A (eval orelse env) Q E s₁) E s) :
    wpG M A (eval (.IfExp test body orelse pos) env) Q E s := by
  rw [arm_eval_IfExp]
  refine wpG_bind (wpG_mono (wpG_of h) (fun b s₂ h₂ => ?_) fun _ _ z => z)
  cases b <;> exact h₂
theorem wpG_Return_some {e pos} {Q : Flow → Shared → Prop} (h : wpG M A (eval e env) (fun v => Q (.ret v)) E s) : wpG M A (exec (.Return (some e) pos) env) Q E s := by
  rw [exec_Return_some]
  exact wpG_bind (wpG_standAt (wpG_bind (wpG_mono h (fun _ _ z => wpG_pure z) fun _ _ z => z)))
theorem wpG_Try_except {body orelse : List Stmt} {h₀ : ExceptHandler} {hs : List ExceptHandler} {pos : Pos} {Q : Flow → Shared → Prop}
    (h : wpG M A (execs body env) (fun f s₁ => match f with | .next => wpG M A (execs orelse env) Q E s₁ | f => Q f s₁)
      (fun e s₁ => wpAny M A (noteFrame e env) (fun _ s₂ => wpAny M A (setFlight e none) (fun _ s₃ => wpAny M A (handleBy e env (h₀ :: hs)) Q E s₃) E s₂) E s₁) s) :
    wpG M A (exec (.Try body (h₀ :: hs) orelse [] pos) env) Q E s := by
  rw [arm_exec_Try]
  refine wpG_bind (wpG_standAt ?_)
  unfold tryStmt
  simp only [List.isEmpty_nil, if_true, List.isEmpty_cons, Bool.false_and, Bool.false_eq_true, if_false]
  refine wpG_bind (wpG_attempt (wpG_mono h (fun f s₁ h₁ => ?_) fun e s₁ h₁ => ?_))
  · cases f <;> first | exact h₁ | exact wpG_pure h₁
  · exact wpG_of (wpAny_bind (wpAny_mono h₁ (fun _ _ h₂ => wpAny_bind h₂) fun _ _ x => x))
theorem wpG_AugAssign_AttributeAny {o value : Expr} {attr : Str} {tpos pos : Pos} {op : Operator} {Q : Flow → Shared → Prop}
    (h : wpAny M A (eval o env) (fun ov s₁ => wpAny M A (getAttr ov attr true) (fun old s₂ =>
          wpAny M A (eval value env) (fun v s₃ => wpG M A (inplaceOp op old v) (fun new s₄ =>
            wpAny M A (setAttr ov attr new) (fun _ => Q .next) E s₄) E s₃) E s₂) E s₁) E s) :
    wpG M A (exec (.AugAssign (.Attribute o attr tpos) op value pos) env) Q E s := by
  rw [arm_exec_AugAssign_2]
  refine wpG_bind (wpG_standAt (wpG_bind (wpG_mono (wpG_of h) (fun ov s₁ h₁ => ?_) fun _ _ x => x)))
  refine wpG_bind (wpG_holding (wpG_bind (wpG_standAt (wpG_bind (wpG_mono (wpG_of h₁) (fun old s₂ h₂ => ?_) fun _ _ x => x)))))
  refine wpG_bind (wpG_holding (wpG_mono (wpG_of h₂) (fun v s₃ h₃ => ?_) fun _ _ x => x))
  refine wpG_bind (wpG_standAt (wpG_operating (wpG_mono h₃ (fun new s₄ h₄ => ?_) fun _ _ x => x)))
  exact wpG_bind (wpG_standAt (wpG_bind (wpG_holding (wpG_mono (wpG_of h₄) (fun _ _ h₅ => wpG_bind (wpG_release (wpG_pure h₅))) fun _ _ x => x))))
theorem wpG_Delete1 {o i : Expr} {tpos pos : Pos} {Q : Flow → Shared → Prop}
    (h : wpAny M A (eval o env) (fun ov s₁ => wpAny M A (eval i env) (fun iv s₂ => wpG M A (delItem ov iv) (fun _ => Q .next) E s₂) E s₁) E s) :
    wpG M A (exec (.Delete [.Subscript o i tpos] pos) env) Q E s := by
  rw [arm_exec_Delete, arm_deleteEach_cons, arm_deleteEach_nil, arm_delete_Subscript]
  refine wpG_bind (wpG_standAt (wpG_bind (wpG_bind (wpG_bind (wpG_mono (wpG_of h) (fun ov s₁ h₁ => ?_) fun _ _ x => x)))))
  refine wpG_bind (wpG_holding (wpG_mono (wpG_of h₁) (fun iv s₂ h₂ => ?_) fun _ _ x => x))
  exact wpG_bind (wpG_standAt (wpG_bind (wpG_holding (wpG_mono h₂ (fun _ _ h₃ => wpG_release (wpG_pure (wpG_pure h₃))) fun _ _ x => x))))
theorem wpG_Call_Name {id : Str} {p pos : Pos} {args : List Expr} {keywords : List Keyword} {Q : Value → Shared → Prop}
    (h : wpAny M A (eval (.Name id p) env) (fun f s₁ => wpG M A (callWith pos f [] (backTo pos (starEach args env)) (backToKw pos (keywordEach keywords env))) Q E s₁) E s) :
    wpG M A (eval (.Call (.Name id p) args keywords pos) env) Q E s := by
  rw [arm_eval_Call_Name']
  exact wpG_bind (wpG_of h)
theorem wpG_Call_Attr {o : Expr} {name : Str} {apos pos : Pos} {args : List Expr} {kws : List Keyword} {pl : Sem Bool} {Q : Value → Shared → Prop}
    (h : wpAny M A (eval o env) (fun ov s₁ => wpAny M A (getMethod ov name pl) (fun fx s₂ => wpG M A (callWith pos fx.1 fx.2 (backTo pos (starEach args env)) (backToKw pos (keywordEach kws env))) Q E s₂) E s₁) E s)
    (he : eval (.Call (.Attribute o name apos) args kws pos) env = (do
      let ov ← eval o env
      standAt apos.atName
      let (f, first) ← holding [ov] (getMethod ov name pl)
      callWith pos f first (backTo pos (starEach args env)) (backToKw pos (keywordEach kws env))) := by rfl) :
    wpG M A (eval (.Call (.Attribute o name apos) args kws pos) env) Q E s := by
  rw [he]
  exact wpG_bind (wpG_mono (wpG_of h) (fun ov s₁ h₁ => wpG_bind (wpG_standAt (wpG_bind (wpG_holding (wpG_mono (wpG_of h₁) (fun fx s₂ h₂ => h₂) fun _ _ x => x))))) fun _ _ x => x)
theorem callG_of {P : Heap → Prop} {pos : Pos} {f : Value} {first : List Value} {Q : Value → Shared → Prop} {args : List (Bool × Sem Value)} {keywords : List (Option Str × Sem Value)} (hplain : (args.any (·.1) || keywords.any (·.1.isNone)) = false)
    (hk : ∀ h, P h → ∃ k, (k = Keeper.frame ∨ k = Keeper.machine ∨ k = Keeper.boundFrame) ∧ Looks M h (keeperOf f) k)
    (h : wpAny M A (evalArgs f true args keywords) (fun a s₁ => P s₁.heap ∧ wpG M A (call f (first ++ a.pos) a.kw) Q E s₁) E s) : wpG M A (callWith pos f first args keywords) Q E s := by
  unfold callWith
  refine wpG_bind (wpG_holding (wpG_mono (wpG_of h) (fun a s₁ h₁ => wpG_bind (wpG_standAt ?_)) fun _ _ x => x))
  obtain ⟨k, hk', L⟩ := hk _ h₁.1
  simp only [hplain]
  refine wpG_bind (wpG_of (L.here ?_))
  have tail : ∀ {t : Sem Value}, wpG M A t Q E s₁ → wpG M A (t >>= fun r => holding [r] point >>= fun _ => pure r) Q E s₁ :=
    fun ht => wpG_bind (wpG_mono ht (fun r s₂ hr => wpG_bind (wpG_holding (wpG_point (wpG_pure hr)))) fun _ _ x => x)
  have marked (mk : Value) : wpG M A (callMarked mk f (first ++ a.pos) a.kw) Q E s₁ := by unfold callMarked; exact wpG_keep h₁.2
  rcases hk' with rfl | rfl | rfl <;> dsimp only <;> first | exact tail h₁.2 | (split <;> first | exact tail h₁.2 | exact tail (marked _))
variable {K : Frag} {pos : Pos} {f : Value} {first : List Value} {Q : Value → Shared → Prop}
theorem callG_K {h₀ : Heap} {e : Expr} {rest : List Expr} (_X : K.In h₀) (hk : keepIn K f = true) (h : wpAny M A (spliced (backTo pos (starEach (e :: rest) env))) (fun vs s₁ => K.In s₁.heap ∧ wpG M A (call f (first ++ vs)) Q E s₁) E s)
    (he : starEach (e :: rest) env = (false, eval e env) :: starEach rest env := by rfl) (hplain : (backTo pos (starEach rest env)).any (·.1) = false := by rfl) :
    wpG M A (callWith pos f first (backTo pos (starEach (e :: rest) env)) []) Q E s := by
  rw [he] at h ⊢
  exact callG_of (by show ((false || (backTo pos (starEach rest env)).any (·.1)) || false) = false; rw [hplain]; rfl) (keeps_K hk) (evalArgs_plain h)
theorem callG_K0 (X : K.In s.heap) (hk : keepIn K f = true) (h : wpG M A (call f (first ++ [])) Q E s) : wpG M A (callWith pos f first (backTo pos (starEach [] env)) []) Q E s :=
  callG_of rfl (keeps_K hk) (evalArgs_nil3 ⟨X, h⟩)
theorem callG_KW {e : Expr} {rest : List Expr} {kws : List Keyword} (_X : K.In s.heap) (hk : keepIn K f = true) (hall : (backToKw pos (keywordEach kws env)).all (·.1.isSome) = true)
    (h : wpAny M A (spliced (backTo pos (starEach (e :: rest) env))) (fun vs s₁ => wpAny M A (evalAll ((backToKw pos (keywordEach kws env)).map (·.2)))
      (fun ks s₂ => K.In s₂.heap ∧ wpG M A (call f (first ++ vs) (((backToKw pos (keywordEach kws env)).filterMap (·.1)).zip ks)) Q E s₂) E s₁) E s)
    (hplain : ((backTo pos (starEach (e :: rest) env)).any (·.1) || (backToKw pos (keywordEach kws env)).any (·.1.isNone)) = false := by rfl) (he : starEach (e :: rest) env = (false, eval e env) :: starEach rest env := by rfl) :
    wpG M A (callWith pos f first (backTo pos (starEach (e :: rest) env)) (backToKw pos (keywordEach kws env))) Q E s :=
  callG_of hplain (keeps_K hk) (evalArgs_kw2 hall h he)
end
section
variable {prog : Program} {w : World} {A : Around} {s : Shared} {R : Result → Shared → Prop}
theorem codeG_func {body env}
    (h : wpG (model prog w) (A.deeper env) (execs body env) (fun f s' => R (.ok (.ret (match f with | .ret v => v | _ => .none))) s')
      (fun e s' => wpAny (model prog w) (A.deeper env) (leaving env e) (fun _ s'' => R (.error e) s'') (fun e' s'' => R (.error e') s'') s') s) :
    codeG (model prog w) A (.func body env) R s := by
  refine codeG_of_tree rfl ?_
  show wpG _ (A.deeper env) (do point; match ← (execs body env).onRaise (leaving env) with | .ret v => ret v | _ => ret .none) _ _ s
  refine wpG_bind (wpG_point (wpG_bind (wpG_onRaise (wpG_mono h (fun f s' h' => ?_) fun _ _ h' => wpG_of h'))))
  cases f <;> exact wpG_pure h'
theorem codeG_call_function {a : Addr} {args : Args} {o : Obj} {fd : FuncData} {body : List Stmt} (hroom : A.depth < recursionLimit)
    (ho : s.heap.get? a = some o)
    (hd' : o.data = .func fd) (hco : fd.scope.isCoroutine = false) (hgen : fd.scope.isGenerator = false) (hbody : fd.body = .stmts body) (hcd : s.heap.CodeRec fd.code fd.qualname)
    (h : wpAny (model prog w) A.in1 (bindArgs fd args) (fun binds s₁ =>
      wpAny (model prog w) A.in1 (newFunctionEnv fd.scope fd.globals fd.closure binds (fd.qualname ++ ".<locals>.") (some a) fd.code none fd.builtins)
        (fun env s₂ => s₂.heap.NoLimit ∧ codeG (model prog w) A (.func body env) R s₂) (fun e s' => R (.error e) s') s₁) (fun e s' => R (.error e) s') s) :
    codeG (model prog w) A (.call (.ref a) args) R s := by
  refine codeG_of_tree rfl (wpG_of ?_)
  show wpAny _ A.in1 (callAny (.ref a) args) _ _ s
  simp only [callAny]
  refine wpAny_bind (wpAny_load ho ?_)
  obtain ⟨c, oc, vs, tq, hc, hoc, hdc, hq⟩ := hcd
  simp only [hd', callFunction, hco, hgen, hbody, hc]
  rw [hc] at h
  refine wpAny_bind (m := field (.ref c) 1) (wpAny_field hoc hdc hq (wpAny_bind (wpAny_pure ?_)))
  exact wpAny_bind (wpAny_mono h (fun binds s₁ h₁ => wpAny_bind (wpAny_mono h₁ (fun env s₂ h₂ => wpAny_bind (wpAny_enterFrame h₂.1 hroom
    (wpAny_pure (And.intro rfl h₂.2)))) fun _ _ h' => h')) fun _ _ h' => h')
theorem codeG_call_def {a : Addr} {o : Obj} {fd : FuncData} {body : List Stmt} {args : Args} {binds : List (Str × Value)}
    (hroom : A.depth < recursionLimit) (ho : s.heap.get? a = some o) (hdata : o.data = .func fd) (hlim : s.heap.NoLimit) (hcd : s.heap.CodeRec fd.code fd.qualname)
    (hbody : fd.body = .stmts body) (hbind : BindsTo s fd args binds)
    (hcell : ∀ x ∈ fd.scope.names, x.2 ≠ .cell) (hloc : ∀ x ∈ binds, fd.scope.names.lookup x.1 = some .local)
    (h : ∀ h₀, h₀.Ns s.heap.objs.size (fun x => binds.reverse.lookup x) → (∀ b o, s.heap.get? b = some o → h₀.get? b = some o) →
      wpG (model prog w) (A.deeper (callEnv fd s.heap.objs.size a)) (execs body (callEnv fd s.heap.objs.size a)) (fun f s' => R (.ok (.ret (match f with | .ret v => v | _ => .none))) s')
        (fun e s' => wpAny (model prog w) (A.deeper (callEnv fd s.heap.objs.size a)) (leaving (callEnv fd s.heap.objs.size a) e) (fun _ s'' => R (.error e) s'') (fun e' s'' => R (.error e') s'') s')
        { s with heap := h₀, toks := s.toks + binds.length })
    (hco : fd.scope.isCoroutine = false := by rfl) (hgen : fd.scope.isGenerator = false := by rfl) (hk : fd.scope.kind = .function := by rfl) :
    codeG (model prog w) A (.call (.ref a) args) R s := by
  refine codeG_call_function hroom ho hdata hco hgen hbody hcd (hbind _ _ _ _ ?_)
  refine wpAny_newFunctionEnv hcell hloc (fun h₀ hns₀ hsb₀ => ⟨hlim.fresh _ hsb₀, codeG_func (h h₀ hns₀ fun b o e => ?_)⟩) hk
  exact hsb₀.extBut b o (Nat.ne_of_lt (Heap.lt_size e)) (Heap.get?_push_of_some _ e)
end
section
variable {prog : Program} {w : World} {A A₀ : Around} {s : Shared} {K : Frag} {L : Addr} {h₀ base : Heap} {m mg mb : Str → Option Value} {news : List (Addr × Obj)} {p : Program} {loose : List Str} {mean : ExcName → Option Value}
theorem code_defG {env : Env} {outer : List Env} {R : Result → Shared → Prop} {name qual : Str} {params : Arguments} {body : List Stmt} {scope : Scope} {cl : List (Str × Addr)} {dV kV doc pm cdv ct oc : Value} {an od : Option Addr} {osl : Array (Option Value)} {f : Addr} {args : Args} {binds : List (Str × Value)}
    (B : Below A₀ base outer h₀) (F : Fr h₀ L s.heap m) (X₀ : K.In h₀) (N : News h₀ L s.heap news) (T : Top p loose mean mg mb h₀) (hA : A.frames = some (env :: outer)) (hf : env.frame = some L) (hke : env.scope.kind = .function)
    (ho : K.lookup f = some ⟨oc, od, .func (fnX name qual params body scope cl dV kV doc pm an cdv ct), osl⟩) (hcd : codeIn K cdv qual = true) (hroom : A.depth < recursionLimit)
    (hbind : BindsTo s (fnX name qual params body scope cl dV kV doc pm an cdv ct) args binds) (hloc : ∀ y ∈ binds, scope.names.lookup y.1 = some .local)
    (h : ∀ g L' h₁, Fr h₀ L g m → Fr g L' h₁ (fun y => binds.reverse.lookup y) → News g L' h₁ news → Below A base (env :: outer) g → K.In g → Top p loose mean mg mb g → (∀ p ∈ news, p.1 < L') →
      wpG (model prog w) (A.deeper (envX qual scope L' f cdv cl)) (execs body (envX qual scope L' f cdv cl))
        (fun fl s' => LeaveK h₀ L m g R (match fl with | .ret v => v | _ => .none) s')
        (fun e s' => wpAny (model prog w) (A.deeper (envX qual scope L' f cdv cl)) (leaving (envX qual scope L' f cdv cl) e) (fun _ s'' => R (.error e) s'') (fun e' s'' => R (.error e') s'') s')
        { s with heap := h₁, toks := s.toks + binds.length })
    (hcell : ∀ x ∈ scope.names, x.2 ≠ .cell) (hco : scope.isCoroutine = false := by rfl) (hgen : scope.isGenerator = false := by rfl) (hk : scope.kind = .function := by rfl) :
    codeG (model prog w) A (.call (.ref f) args) R s := by
  obtain ⟨FG, BG, st, lv⟩ := groundX (R := R) B F N hA hf hke
  refine codeG_call_def (fd := fnX name qual params body scope cl dV kV doc pm an cdv ct) (body := body) (binds := binds) hroom ((X₀.keeps F.keep) _ _ ho) rfl (T.nolimit.keeps F.keep) (codeRec_of (X₀.keeps F.keep) hcd) rfl hbind hcell hloc (fun h₁ hns hk₁ => ?_) hco hgen hk
  exact wpG_mono (h _ s.heap.objs.size h₁ FG ⟨hns, fun b o e => hk₁ b o (of_hideAll _ e), Nat.le_of_eq (hideAll_size _ _)⟩
    (fun p hp => ⟨hk₁ _ _ (N p hp).1, Nat.ne_of_lt (Heap.lt_size (N p hp).1), hideAll_none _ (List.mem_map_of_mem hp)⟩) BG (X₀.keeps st) (T.keeps st) (fun p hp => Heap.lt_size (N p hp).1)) (fun fl s' hl => lv _ _ hl) fun _ _ y => y
end
end Mine

-- B2
namespace Mine
open PySem PySem.W PySem.Calls PyProof.Rows PySem.Builtin PySem.Builtin.Bytes
open PySem.Sem (wp)
namespace F
theorem ba_slot_iadd : Slot "bytearray" "__iadd__" "bytearray.__iadd__" :=
  .of (owner := "bytearray") (n := "__iadd__") (by rw [typeLookup_type, builtinLookup_eq_fast]; kernel_rfl) (by decide +kernel) (by decide +kernel) (by decide +kernel)
    (by first | exact .inl (by decide +kernel) | exact .inr (by decide +kernel)) (by rw [isSubtype_type]; kernel_rfl)
theorem ba_slot_del : Slot "bytearray" "__delitem__" "bytearray.__delitem__" :=
  .of (owner := "bytearray") (n := "__delitem__") (by rw [typeLookup_type, builtinLookup_eq_fast]; kernel_rfl) (by decide +kernel) (by decide +kernel) (by decide +kernel)
    (by first | exact .inl (by decide +kernel) | exact .inr (by decide +kernel)) (by rw [isSubtype_type]; kernel_rfl)
theorem ba_slot_get : Slot "bytearray" "__getitem__" "bytearray.__getitem__" :=
  .of (owner := "bytearray") (n := "__getitem__") (by rw [typeLookup_type, builtinLookup_eq_fast]; kernel_rfl) (by decide +kernel) (by decide +kernel) (by decide +kernel)
    (by first | exact .inl (by decide +kernel) | exact .inr (by decide +kernel)) (by rw [isSubtype_type]; kernel_rfl)
theorem ba_slot_set : Slot "bytearray" "__setitem__" "bytearray.__setitem__" :=
  .of (owner := "bytearray") (n := "__setitem__") (by rw [typeLookup_type, builtinLookup_eq_fast]; kernel_rfl) (by decide +kernel) (by decide +kernel) (by decide +kernel)
    (by first | exact .inl (by decide +kernel) | exact .inr (by decide +kernel)) (by rw [isSubtype_type]; kernel_rfl)
theorem ba_slot_len : Slot "bytearray" "__len__" "bytearray.__len__" :=
  .of (owner := "bytearray") (n := "__len__") (by rw [typeLookup_type, builtinLookup_eq_fast]; kernel_rfl) (by decide +kernel) (by decide +kernel) (by decide +kernel)
    (by first | exact .inl (by decide +kernel) | exact .inr (by decide +kernel)) (by rw [isSubtype_type]; kernel_rfl)
theorem ba_slot_iter : Slot "bytearray" "__iter__" "bytearray.__iter__" :=
  .of (owner := "bytearray") (n := "__iter__") (by rw [typeLookup_type, builtinLookup_eq_fast]; kernel_rfl) (by decide +kernel) (by decide +kernel) (by decide +kernel)
    (by first | exact .inl (by decide +kernel) | exact .inr (by decide +kernel)) (by rw [isSubtype_type]; kernel_rfl)
theorem ba_iadd : typeLookup (.type "bytearray") (dunderI "add") = pure (some (.builtin "bytearray.__iadd__")) := by rw [typeLookup_type, builtinLookup_eq_fast]; kernel_rfl
theorem ba_fillI : fillsInplaceSlot (.type "bytearray") "add" (Operator.Add == .Add) = pure false := by
  unfold fillsInplaceSlot
  show (typeLookup (.type "bytearray") (dunderI "add") >>= fun fi => pure (fi.isSome && !isSeqSlot fi)) = pure false
  rw [ba_iadd]; kernel_rfl
theorem ba_seqI : seqSlot? (.type "bytearray") (dunderI "add") = pure (some (.builtin "bytearray.__iadd__")) := by
  unfold seqSlot?
  rw [ba_iadd]; kernel_rfl
theorem ba_fillN : fillsNumberSlot (.type "bytearray") "add" = pure false := by first | rfl | kernel_rfl | (unfold fillsNumberSlot; kernel_rfl)
theorem by_fillN : fillsNumberSlot (.type "bytes") "add" = pure false := by first | rfl | kernel_rfl | (unfold fillsNumberSlot; kernel_rfl)
theorem ba_entry_iadd : entryFor table "bytearray.__iadd__" = some Builtin.«bytearray.__iadd__» := by first | exact entryFor_of_fast (by kernel_rfl) | exact entryFor_of_tree (by kernel_rfl)
theorem ba_entry_del : entryFor table "bytearray.__delitem__" = some Builtin.«bytearray.__delitem__» := by first | exact entryFor_of_fast (by kernel_rfl) | exact entryFor_of_tree (by kernel_rfl)
theorem ba_entry_get : entryFor table "bytearray.__getitem__" = some Builtin.«bytearray.__getitem__» := by first | exact entryFor_of_fast (by kernel_rfl) | exact entryFor_of_tree (by kernel_rfl)
theorem ba_entry_set : entryFor table "bytearray.__setitem__" = some Builtin.«bytearray.__setitem__» := by first | exact entryFor_of_fast (by kernel_rfl) | exact entryFor_of_tree (by kernel_rfl)
theorem ba_entry_len : entryFor table "bytearray.__len__" = some Builtin.«bytearray.__len__» := by first | exact entryFor_of_fast (by kernel_rfl) | exact entryFor_of_tree (by kernel_rfl)
theorem ba_entry_iter : entryFor table "bytearray.__iter__" = some Builtin.«bytearray.__iter__» := by first | exact entryFor_of_fast (by kernel_rfl) | exact entryFor_of_tree (by kernel_rfl)
theorem ba_args2 (id : String) (h : id ∈ ["bytearray.__iadd__", "bytearray.__delitem__", "bytearray.__getitem__"]) (a b : Value) : argsOk id ⟨[a, b], []⟩ := by
  simp only [List.mem_cons, List.not_mem_nil, or_false] at h
  rcases h with rfl | rfl | rfl <;> (unfold argsOk; kernel_rfl)
theorem ba_args3 (a b c : Value) : argsOk "bytearray.__setitem__" ⟨[a, b, c], []⟩ := by unfold argsOk; kernel_rfl
theorem ba_args1 (id : String) (h : id ∈ ["bytearray.__len__", "bytearray.__iter__"]) (a : Value) : argsOk id ⟨[a], []⟩ := by
  simp only [List.mem_cons, List.not_mem_nil, or_false] at h
  rcases h with rfl | rfl <;> (unfold argsOk; kernel_rfl)
theorem int_index : typeLookup (.type "int") "__index__" = pure (some (.builtin "int.__index__")) := by rw [typeLookup_type, builtinLookup_eq_fast]; kernel_rfl
theorem ba_own_end : ("bytearray.__release_buffer__".endsWith ("." ++ "__release_buffer__")) = true := by decide +kernel
theorem ba_own_drop : "bytearray.__release_buffer__".dropRight ("__release_buffer__".length + 1) = "bytearray" := by decide +kernel
theorem ba_buf_end : ("bytearray.__buffer__".endsWith ("." ++ "__buffer__")) = true := by decide +kernel
theorem ba_buf_drop : "bytearray.__buffer__".dropRight ("__buffer__".length + 1) = "bytearray" := by decide +kernel
theorem by_buf_end : ("bytes.__buffer__".endsWith ("." ++ "__buffer__")) = true := by decide +kernel
theorem by_buf_drop : "bytes.__buffer__".dropRight ("__buffer__".length + 1) = "bytes" := by decide +kernel
end F
section
variable {M : Model} {A : Around} {E : Value → Shared → Prop} {s : Shared}
theorem baT {a : Addr} {b : Array UInt8} (ho : s.heap.get? a = some (baObj b)) : s.TypeIs (.ref a) "bytearray" := ⟨_, ho, rfl⟩
theorem ba_payload {a : Addr} {b : Array UInt8} {Q : Array UInt8 → Shared → Prop} (ho : s.heap.get? a = some (baObj b)) (h : Q b s) : wpAny M A (payload (.ref a)) Q E s := by
  unfold payload
  refine wpAny_bind ?_
  show wpAny _ _ (load a >>= _) _ _ _
  exact wpAny_bind (wpAny_load ho (wpAny_pure (wpAny_pure h)))
theorem ba_exports {a : Addr} {b : Array UInt8} {Q : Nat → Shared → Prop} (ho : s.heap.get? a = some (baObj b)) (h : Q 0 s) : wpAny M A (exportsOf (.ref a)) Q E s :=
  wpAny_bind (wpAny_load ho (wpAny_pure h))
theorem ba_upd {h : Heap} {a : Addr} {b : Array UInt8} (f : Array UInt8 → Array UInt8) (ho : h.get? a = some (baObj b)) : (h.update a (Obj.mapBytearray f)).get? a = some (baObj (f b)) :=
  Heap.get?_update_self (Obj.mapBytearray f) ho rfl
theorem ba_write {a : Addr} {b : Array UInt8} {f : Array UInt8 → Array UInt8} {Q : Unit → Shared → Prop} (ho : s.heap.get? a = some (baObj b)) (hz : (f b).size ≤ sizeLine) (h : Q () { s with heap := s.heap.update a (Obj.mapBytearray f) }) : wpAny M A (write (.ref a) f) Q E s := by
  show wpAny _ _ (updateBytearray a f) _ _ _
  unfold updateBytearray
  refine wpAny_bind (wpAny_load ho ?_)
  show wpAny _ _ (update a (Obj.mapBytearray f) >>= fun _ => lookBehind a) _ _ _
  refine wpAny_bind (wpAny_update ho ?_)
  refine wpAny_lookBehind (ba_upd f ho) ?_ h
  show (if (f b).size > sizeLine then some "bytearray:memory" else none) = none
  rw [if_neg (by omega)]
theorem ba_slotOwn {v : Value} {T name id : String} {Q : Bool → Shared → Prop} (hT : s.TypeIs v T) (hl : typeLookup (.type T) (name : Str) = pure (some (.builtin id))) (e1 : id.endsWith ("." ++ name) = true) (e2 : id.dropRight (name.length + 1) = T) (e3 : isSubtype (.type T) (.type T) = pure true) (h : Q true s) : wpAny M A (slotIsOwn v name) Q E s := by
  unfold slotIsOwn
  refine wpAny_bind (wpAny_specialOf hT hl ?_)
  dsimp only
  rw [e1, e2]
  exact wpAny_isInstance hT e3 h
theorem ba_ownRel {a : Addr} {b : Array UInt8} {Q : Bool → Shared → Prop} (ho : s.heap.get? a = some (baObj b)) (h : Q false s) : wpAny M A (ownRelease (.ref a)) Q E s := by
  unfold ownRelease
  exact wpAny_bind (ba_slotOwn (baT ho) F.ba_no_release F.ba_own_end F.ba_own_drop F.ba_sub (wpAny_pure h))
theorem by_ownRel {b : Array UInt8} {t : Tok} {Q : Bool → Shared → Prop} (h : Q false s) : wpAny M A (ownRelease (.bytes b t)) Q E s := by
  unfold ownRelease slotIsOwn
  exact wpAny_bind (wpAny_bind (wpAny_specialOf (PySem.W.typeIs_bytes _ _ _) F.by_release (wpAny_pure (wpAny_pure h))))
theorem ba_buf {a : Addr} {b : Array UInt8} {id : String} {full : Bool} {Q : Option (Array UInt8) → Shared → Prop} (ho : s.heap.get? a = some (baObj b)) (h : Q (some b) s) : wpAny M A (buffer? id (.ref a) full) Q E s := by
  unfold buffer?
  refine wpAny_bind (wpAny_specialOf (baT ho) F.ba_buffer ?_)
  refine wpAny_bind (ba_slotOwn (baT ho) F.ba_buffer F.ba_buf_end F.ba_buf_drop F.ba_sub ?_)
  refine bm_if_false rfl ?_
  refine wpAny_bind (wpAny_specialOf (baT ho) F.ba_buffer ?_)
  dsimp only
  refine wpAny_bind (ba_ownRel ho ?_)
  refine bm_if_false rfl ?_
  exact wpAny_bind (ba_payload ho (wpAny_pure h))
theorem by_buf {b : Array UInt8} {t : Tok} {id : String} {full : Bool} {Q : Option (Array UInt8) → Shared → Prop} (h : Q (some b) s) : wpAny M A (buffer? id (.bytes b t) full) Q E s := by
  have hT := PySem.W.typeIs_bytes s b t
  unfold buffer?
  refine wpAny_bind (wpAny_specialOf hT F.by_buffer ?_)
  refine wpAny_bind (ba_slotOwn hT F.by_buffer F.by_buf_end F.by_buf_drop F.by_sub ?_)
  refine bm_if_false rfl ?_
  refine wpAny_bind (wpAny_specialOf hT F.by_buffer ?_)
  dsimp only
  refine wpAny_bind (by_ownRel ?_)
  refine bm_if_false rfl ?_
  exact wpAny_bind (wpAny_bind (wpAny_pure (wpAny_pure (wpAny_pure h))))
theorem ba_subscript {i : Int} {u : Tok} {Q : Option Int → Shared → Prop} (hf : fitsIndex i = true) (h : Q (some i) s) : wpAny M A (subscript? (.int i u)) Q E s := by
  unfold subscript?
  refine wpAny_bind (wpAny_specialOf (typeIs_int s i u) F.int_index ?_)
  refine bm_if_false rfl ?_
  refine wpAny_bind (wpAny_of_eq (rfl : asIndex (.int i u) = pure i) ?_)
  refine bm_if_false (by rw [hf]; rfl) ?_
  exact wpAny_pure h
theorem ba_resize {a : Addr} {b : Array UInt8} {Q : Unit → Shared → Prop} (hg : A.guards = some []) (ho : s.heap.get? a = some (baObj b)) (h : Q () s) : wpG M A (checkResize (.ref a)) Q E s := by
  unfold checkResize
  refine wpG_bind (wpG_bind (wpG_exported hg ?_))
  refine wpG_bind (wpG_of (ba_exports ho ?_))
  exact wpG_pure (wpG_pure h)
end
section
variable {prog : Program} {w : World} {A : Around} {E : Value → Shared → Prop} {s : Shared} {R : Result → Shared → Prop}
theorem codeG_builtin {id : String} {args : Args} {b : Builtin} (hd : decodersThatHold.contains id = false) (hb : entryFor table id = some b)
    (h : wpG (model prog w) (A.under (.builtin id args)) (b args)
      (fun fin s' => match fin with | .done f => R (.ok f) s' | .again c' => c'.quiet = true ∧ codeG (model prog w) A c' R s') (fun e s' => R (.error e) s') s) :
    codeG (model prog w) A (.builtin id args) R s := by
  refine codeG_of_tree hd ?_
  show wpG _ _ (match entryFor table id with | some b => b args | none => unsupported ((withoutEnding? id "#data").getD id)) _ _ s
  rw [hb]; exact h
theorem codeG_call_builtin {id : String} {args : Args} {b : Builtin} (hd : decodersThatHold.contains id = false) (hq : plainId id = true) (hb : entryFor table id = some b)
    (h : wpAny (model prog w) A.in1 (checkBuiltinCall id args) (fun _ s₁ => wpG (model prog w) A.in1 (b args)
      (fun fin s' => match fin with | .done f => R (.ok f) s' | .again c' => c'.quiet = true ∧ codeG (model prog w) A c' R s') (fun e s' => R (.error e) s') s₁)
      (fun e s' => R (.error e) s') s) : codeG (model prog w) A (.call (.builtin id) args) R s := by
  refine codeG_of_tree rfl ?_
  show wpG _ A.in1 (do checkBuiltinCall id args; again (.builtin id args)) _ _ s
  refine wpG_bind (wpG_mono (wpG_of h) (fun _ s₁ h₁ => wpG_pure (And.intro (plainId_quiet hq args) (codeG_builtin hd hb ?_))) fun _ _ h' => h')
  rw [Around.under_plainId hq args]; exact h₁
theorem callG_entry {T : String} {name : Str} {id : String} {b : Builtin} {self : Value} {rest : List Value} {Q : Value → Shared → Prop} (h : Slot T name id) (hd : decodersThatHold.contains id = false) (hT : s.TypeIs self T)
    (hb : entryFor table id = some b) (ha : argsOk id ⟨self :: rest, []⟩)
    (hc : wpG (model prog w) A.in1 (b ⟨self :: rest, []⟩) (fun fin s' => ∃ v, fin = .done (.ret v) ∧ Q v s') E s) :
    wpG (model prog w) A (call (.builtin id) (self :: rest)) Q E s := by
  refine wpG_call (codeG_call_builtin hd h.plain hb (h.check _ _ _ _ _ _ _ _ hT ha (wpG_mono hc (fun fin s' h' => ?_) fun _ _ h' => h')))
  obtain ⟨v, rfl, hv⟩ := h'; exact hv
theorem callSpecialG {M : Model} {self : Value} {T : String} {name : Str} {id : String} {args : List Value} {Q : Option Value → Shared → Prop} (hT : s.TypeIs self T) (h : Slot T name id)
    (hc : wpG M A (call (.builtin id) (self :: args)) (fun v => Q (some v)) E s) : wpG M A (callSpecial? self name args) Q E s := by
  simp only [callSpecial?]
  refine wpG_bind (wpG_of (wpAny_specialOf hT h.lookup ?_))
  simp only [h.bind]
  exact wpG_holding (wpG_bind (wpG_pure (wpG_bind (wpG_mono hc (fun v s' h' => wpG_pure h') fun _ _ h' => h'))))
theorem size_erase_le (b : Array UInt8) (k : Nat) : (b.eraseIdxIfInBounds k).size ≤ b.size := by
  unfold Array.eraseIdxIfInBounds
  split
  · rw [Array.size_eraseIdx]; omega
  · exact Nat.le_refl _
theorem ba_delItem {a : Addr} {b : Array UInt8} {i : Value} {Q : Unit → Shared → Prop} (ho : s.heap.get? a = some (baObj b))
    (h : wpG (model prog w) A.in1 (Builtin.«bytearray.__delitem__» ⟨[.ref a, i], []⟩) (fun fin s' => ∃ v, fin = .done (.ret v) ∧ Q () s') E s) : wpG (model prog w) A (delItem (.ref a) i) Q E s := by
  unfold delItem
  refine wpG_holding ?_
  refine wpG_bind (wpG_of (wpAny_sequenceKey (baT ho) (by decide) ?_))
  refine wpG_bind (callSpecialG (name := Str.ofString "__delitem__") (baT ho) F.ba_slot_del (callG_entry F.ba_slot_del (by decide +kernel) (baT ho) F.ba_entry_del (F.ba_args2 _ (by decide) _ _) ?_))
  exact wpG_mono h (fun fin s' ⟨v, e, q⟩ => ⟨v, e, wpG_pure q⟩) fun _ _ z => z
theorem ba_del0 {a : Addr} {b : Array UInt8} {i : Int} {u : Tok} {k : Nat} {Q : Unit → Shared → Prop} (hg : A.guards = some []) (ho : s.heap.get? a = some (baObj b)) (hk : seqIndex? i b.size = some k) (hf : fitsIndex i = true) (hz : b.size ≤ sizeLine)
    (h : Q () { s with heap := s.heap.update a (Obj.mapBytearray (·.eraseIdxIfInBounds k)) }) : wpG (model prog w) A (delItem (.ref a) (.int i u)) Q E s := by
  refine ba_delItem ho ?_
  unfold Builtin.«bytearray.__delitem__»
  refine wpG_bind (wpG_pure ?_)
  dsimp only
  refine wpG_bind (wpG_of (ba_subscript hf ?_))
  refine wpG_bind (wpG_of (ba_payload ho ?_))
  rw [hk]
  refine wpG_bind (ba_resize hg ho ?_)
  refine wpG_bind (wpG_of (ba_write ho (Nat.le_trans (size_erase_le b k) hz) ?_))
  exact wpG_bind (wpG_pure (wpG_pure ⟨_, rfl, h⟩))
end
end Mine

-- B3
namespace Mine
open PySem PySem.W PySem.Calls PyProof.Rows PySem.Builtin PySem.Builtin.Bytes
open PySem.Sem (wp)
namespace F
theorem slice_index : typeLookup (.type "slice") "__index__" = pure none := by rw [typeLookup_type, builtinLookup_eq_fast]; kernel_rfl
end F
abbrev slObj (k : Int) (u : Tok) : Obj := { cls := .type "slice", data := .fields #[.none, .int k u, .none] }
section
variable {M : Model} {A : Around} {E : Value → Shared → Prop} {s : Shared}
theorem sl_sub {sl : Addr} {k : Int} {u : Tok} {Q : Option Int → Shared → Prop} (hs : s.heap.get? sl = some (slObj k u)) (h : Q none s) : wpAny M A (subscript? (.ref sl)) Q E s := by
  have hT : s.TypeIs (.ref sl) "slice" := ⟨_, hs, rfl⟩
  unfold subscript?
  refine wpAny_bind (wpAny_specialOf hT F.slice_index ?_)
  refine bm_if_true rfl ?_
  exact wpAny_pure h
theorem sl_parts {sl : Addr} {k : Int} {u : Tok} {Q : Value × Value × Value → Shared → Prop} (hs : s.heap.get? sl = some (slObj k u)) (h : Q (.none, rawInt k, .none) s) : wpAny M A (sliceParts (.ref sl)) Q E s := by
  unfold sliceParts
  refine wpAny_bind (wpAny_field hs rfl (i := 2) rfl (wpAny_bind (wpAny_pure ?_)))
  refine bm_if_false rfl ?_
  refine wpAny_bind (wpAny_field hs rfl (i := 0) rfl (wpAny_bind (wpAny_pure ?_)))
  refine wpAny_bind (wpAny_field hs rfl (i := 1) rfl (wpAny_bind ?_))
  refine bm_if_false rfl ?_
  refine wpAny_bind (wpAny_specialOf (typeIs_int s k u) F.int_index ?_)
  refine bm_if_false rfl ?_
  refine wpAny_bind (wpAny_of_eq (rfl : asIndex (.int k u) = pure k) ?_)
  exact wpAny_pure (wpAny_pure h)
theorem sl_idx {k : Int} {n : Nat} {Q : Int × Int × Int → Shared → Prop} (h0 : 0 ≤ k) (h : Q (0, ((min k.toNat n : Nat) : Int), 1) s) : wpAny M A (sliceIndices .none (rawInt k) .none n) Q E s := by
  have e : (sliceIndices .none (rawInt k) .none n : Sem (Int × Int × Int)) = pure (0, ((min k.toNat n : Nat) : Int), 1) := by
    have e1 : (sliceIndices .none (rawInt k) .none n : Sem (Int × Int × Int)) = pure (0, max 0 (min (if k < 0 then k + n else k) n), 1) := rfl
    rw [e1, if_neg (by omega)]
    congr 2
    congr 1
    omega
  rw [e]
  exact wpAny_pure h
end
theorem sliced_take (b : Array UInt8) (k : Nat) : sliced b 0 ((min k b.size : Nat) : Int) 1 = (b.toList.take k).toArray := by
  unfold sliced
  have e : sliceRange 0 ((min k b.size : Nat) : Int) 1 = (List.range (min k b.size - 0)).map (0 + ·) := sliceRange_one 0 (min k b.size)
  rw [e, pick_run]
  congr 1
  rw [List.drop_zero, Nat.sub_zero, ← Array.length_toList]
  rw [← List.take_take, List.take_of_length_le (Nat.le_refl _)]
theorem deleted_drop (b : Array UInt8) (k : Nat) : (b.toList.zipIdx.filterMap fun (x, j) => if selects 0 ((min k b.size : Nat) : Int) 1 j then none else some x) = b.toList.drop k := by
  have main : ∀ (l : List UInt8) (j c : Nat), c = j + l.length → (∀ m : Nat, True) → ((l.zipIdx j).filterMap fun (x, i) => if selects 0 ((min k c : Nat) : Int) 1 i then none else some x) = l.drop (k - j) := by
    intro l
    induction l with
    | nil => intro j c _ _; simp
    | cons x l ih =>
      intro j c hc hm
      rw [List.zipIdx_cons, List.filterMap_cons]
      have hsel : selects 0 ((min k c : Nat) : Int) 1 j = decide (j < k) := by
        unfold selects
        rw [if_pos (by decide)]
        simp only [List.length_cons] at hc
        have : ((j : Int) - 0) % 1 = 0 := by omega
        rw [this]
        by_cases hk : j < k
        · simp [hk]; omega
        · simp [hk]; omega
      simp only [hsel]
      have ih' := ih (j + 1) c (by simp only [List.length_cons] at hc; omega) hm
      by_cases hk : j < k
      · simp only [hk, decide_true, if_true]
        rw [ih', show k - j = (k - (j + 1)) + 1 from by omega]
        rfl
      · simp only [hk, decide_false, Bool.false_eq_true, if_false]
        rw [ih', show k - j = 0 from by omega, show k - (j + 1) = 0 from by omega]
        rfl
  have := main b.toList 0 b.size (by simp) (fun _ => trivial)
  rw [Nat.sub_zero] at this
  exact this
section
variable {prog : Program} {w : World} {A : Around} {E : Value → Shared → Prop} {s : Shared} {R : Result → Shared → Prop}
theorem ba_delTo {a sl : Addr} {b : Array UInt8} {k : Int} {u : Tok} {Q : Unit → Shared → Prop} (hg : A.guards = some []) (ho : s.heap.get? a = some (baObj b)) (hs : s.heap.get? sl = some (slObj k u)) (h0 : 0 ≤ k) (hz : b.size ≤ sizeLine)
    (h : ∀ f : Array UInt8 → Array UInt8, f b = (b.toList.drop k.toNat).toArray → Q () { s with heap := s.heap.update a (Obj.mapBytearray f) }) : wpG (model prog w) A (delItem (.ref a) (.ref sl)) Q E s := by
  refine ba_delItem ho ?_
  unfold Builtin.«bytearray.__delitem__»
  refine wpG_bind (wpG_pure ?_)
  dsimp only
  refine wpG_bind (wpG_of (sl_sub hs ?_))
  dsimp only
  refine wpG_bind (wpG_of (wpAny_typeOf (T := "slice") ⟨_, hs, rfl⟩ ?_))
  refine wpG_if_false rfl ?_
  refine wpG_bind (wpG_of (sl_parts hs ?_))
  refine wpG_bind (wpG_of (ba_payload ho ?_))
  refine wpG_bind (wpG_of (sl_idx h0 ?_))
  dsimp only
  refine wpG_bind (wpG_rule ?_)
  have fin : wpG (model prog w) A.in1 (do write (.ref a) (fun b_1 => (b_1.toList.zipIdx.filterMap fun (x, j) => if selects 0 ((min k.toNat b.size : Nat) : Int) 1 j then none else some x).toArray); ret .none) (fun fin s' => ∃ v, fin = .done (.ret v) ∧ Q () s') E s := by
    have e : (b.toList.zipIdx.filterMap fun (x, j) => if selects 0 ((min k.toNat b.size : Nat) : Int) 1 j then none else some x).toArray = (b.toList.drop k.toNat).toArray := by rw [deleted_drop]
    refine wpG_bind (wpG_of (ba_write ho (by rw [e]; simp; omega) ?_))
    exact wpG_pure ⟨_, rfl, h _ e⟩
  split
  · exact wpG_bind (ba_resize hg ho fin)
  · exact fin
theorem ba_getTo {a sl : Addr} {b : Array UInt8} {k : Int} {u : Tok} {Q : Value → Shared → Prop} (ho : s.heap.get? a = some (baObj b)) (hs : s.heap.get? sl = some (slObj k u)) (h0 : 0 ≤ k) (hz : b.size ≤ sizeLine)
    (h : Q (.ref s.heap.objs.size) { s with heap := s.heap.push (baObj (b.toList.take k.toNat).toArray) }) : wpAny (model prog w) A (getItem (.ref a) (.ref sl)) Q E s := by
  refine wpAny_getItem_slot (baT ho) (by decide) F.ba_slot_get (wpAny_call_entry F.ba_slot_get (baT ho) F.ba_entry_get ?_ (F.ba_args2 _ (by decide) _ _))
  unfold Builtin.«bytearray.__getitem__»
  refine wpAny_bind (wpAny_pure ?_)
  dsimp only
  refine wpAny_bind (sl_sub hs ?_)
  dsimp only
  refine wpAny_bind (wpAny_typeOf (T := "slice") ⟨_, hs, rfl⟩ ?_)
  refine bm_if_false rfl ?_
  refine wpAny_bind (sl_parts hs ?_)
  refine wpAny_bind (ba_payload ho ?_)
  refine wpAny_bind (sl_idx h0 ?_)
  dsimp only
  rw [sliced_take]
  unfold newBytearray
  refine wpAny_bind (wpAny_newObj_type ?_ (by show (b.toList.take k.toNat).toArray.size ≤ sizeLine; simp; omega))
  exact wpAny_pure ⟨_, rfl, h⟩
theorem ba_get0 {a : Addr} {b : Array UInt8} {i : Int} {k : Nat} {u : Tok} {c : UInt8} {Q : Value → Shared → Prop} (ho : s.heap.get? a = some (baObj b)) (hk : seqIndex? i b.size = some k) (hc : b[k]? = some c) (hf : fitsIndex i = true)
    (h : Q (.int c.toNat s.toks) { s with toks := s.toks + 1 }) : wpAny (model prog w) A (getItem (.ref a) (.int i u)) Q E s := by
  refine wpAny_getItem_slot (baT ho) (by decide) F.ba_slot_get (wpAny_call_entry F.ba_slot_get (baT ho) F.ba_entry_get ?_ (F.ba_args2 _ (by decide) _ _))
  unfold Builtin.«bytearray.__getitem__»
  refine wpAny_bind (wpAny_pure ?_)
  dsimp only
  refine wpAny_bind (ba_subscript hf ?_)
  dsimp only
  refine wpAny_bind (ba_payload ho ?_)
  rw [hk]
  show wpAny _ _ (match b[k]? with | some x => _ | none => _) _ _ _
  rw [hc]
  exact wpAny_bind (wpAny_mkInt (wpAny_bind (wpAny_pure (wpAny_pure ⟨_, rfl, h⟩))))
theorem ba_len {a : Addr} {b : Array UInt8} {Q : Value → Shared → Prop} (ho : s.heap.get? a = some (baObj b)) (hz : b.size ≤ sizeLine)
    (h : ∀ tk tk', Q (.int b.size tk) { s with toks := tk' }) : wpAny (model prog w) A (call (.builtin "len") [.ref a]) Q E s := by
  refine Calls.call_function_entry kind_len plain_len entry_len (args_len1 _) ?_
  unfold Builtin.«len»
  refine wpAny_bind (m := oneArg "len" _) (wpAny_pure ?_)
  refine wpAny_bind (m := callSpecial? (.ref a) (Str.ofString "__len__")) (wpAny_callSpecial?_slot (name := Str.ofString "__len__") (baT ho) F.ba_slot_len (wpAny_call_entry F.ba_slot_len (baT ho) F.ba_entry_len ?_ (F.ba_args1 _ (by decide) _)))
  unfold Builtin.«bytearray.__len__»
  refine wpAny_bind (wpAny_pure ?_)
  dsimp only
  refine wpAny_bind (ba_payload ho ?_)
  refine wpAny_bind (wpAny_mkInt (wpAny_pure ⟨_, rfl, ?_⟩))
  show wpAny _ _ _ _ _ { s with toks := s.toks + 1 }
  refine wpAny_bind (wpAny_holding (wpAny_pure ?_))
  refine wpAny_bind (wpAny_letGo ?_)
  show wpAny _ _ (if ((b.size : Nat) : Int) < 0 then _ else _) _ _ _
  rw [if_neg (by omega)]
  show wpAny _ _ (if ((b.size : Nat) : Int) ≥ 2 ^ 63 then _ else _) _ _ _
  rw [if_neg (by rw [sizeLine_eq] at hz; omega)]
  exact wpAny_bind (wpAny_mkInt (wpAny_pure ⟨_, rfl, h _ _⟩))
theorem ba_set {a : Addr} {b : Array UInt8} {i v : Int} {k : Nat} {u t : Tok} {Q : Unit → Shared → Prop} (ho : s.heap.get? a = some (baObj b)) (hk : seqIndex? i b.size = some k) (hf : fitsIndex i = true) (hv0 : 0 ≤ v) (hv1 : v < 256) (hz : b.size ≤ sizeLine)
    (h : Q () { s with heap := s.heap.update a (Obj.mapBytearray (·.setIfInBounds k v.toNat.toUInt8)) }) : wpAny (model prog w) A (setItem (.ref a) (.int i u) (.int v t)) Q E s := by
  unfold setItem
  try with_reducible refine wpAny_holding ?_
  refine wpAny_bind (wpAny_sequenceKey (baT ho) (by decide) ?_)
  refine wpAny_bind (wpAny_callSpecial?_slot (name := Str.ofString "__setitem__") (baT ho) F.ba_slot_set (wpAny_call_entry F.ba_slot_set (baT ho) F.ba_entry_set ?_ (F.ba_args3 _ _ _)))
  unfold Builtin.«bytearray.__setitem__»
  refine bm_if_false rfl ?_
  dsimp only
  refine wpAny_bind (ba_subscript hf ?_)
  dsimp only
  refine wpAny_bind ?_
  unfold byteValue
  refine wpAny_bind (wpAny_of_eq (rfl : asIndex (.int v t) = pure v) ?_)
  refine bm_if_false (by simp only [Bool.or_eq_false_iff, decide_eq_false_iff_not]; omega) ?_
  refine wpAny_pure ?_
  refine wpAny_bind (ba_payload ho ?_)
  rw [hk]
  refine wpAny_bind (ba_write ho (by simp; omega) ?_)
  exact wpAny_bind (wpAny_pure (wpAny_pure ⟨_, rfl, wpAny_pure h⟩))
theorem ba_iadd {a : Addr} {b more : Array UInt8} {v : Value} {Q : Value → Shared → Prop} (hg : A.guards = some []) (ho : s.heap.get? a = some (baObj b)) (hv : (∃ t, v = .bytes more t) ∨ (∃ c, v = .ref c ∧ c ≠ a ∧ s.heap.get? c = some (baObj more))) (hz : b.size + more.size ≤ sizeLine)
    (h : Q (.ref a) { s with heap := s.heap.update a (Obj.mapBytearray (· ++ more)) }) : wpG (model prog w) A (inplaceOp .Add (.ref a) v) Q E s := by
  unfold inplaceOp
  refine wpG_holding ?_
  refine wpG_bind (wpG_of (wpAny_typeOf (baT ho) ?_))
  refine wpG_bind (wpG_of (wpAny_of_eq F.ba_fillI ?_))
  refine wpG_if_false rfl ?_
  have b1 : ∀ {Q : Option Value → Shared → Prop}, Q none s → wpAny (model prog w) A (binaryOp1 "add" (.ref a) v) Q E s := fun {Q} hq => by
    rcases hv with ⟨t, rfl⟩ | ⟨c, rfl, _, hc⟩
    · simp only [binaryOp1]
      refine wpAny_bind (wpAny_typeOf (baT ho) (wpAny_bind (wpAny_typeOf (PySem.W.typeIs_bytes s more t) (wpAny_bind (wpAny_of_eq F.ba_fillN ?_)))))
      refine bm_if_false (by decide) ?_
      refine wpAny_bind (wpAny_of_eq F.by_fillN ?_)
      simp only [pure_bind, Bool.false_and, Bool.and_false, Bool.false_eq_true, if_false]
      exact wpAny_pure hq
    · exact wpAny_binaryOp1_none (baT ho) (baT hc) F.ba_fillN hq
  refine wpG_bind (wpG_of (b1 ?_))
  dsimp only
  refine wpG_bind (wpG_of (wpAny_of_eq F.ba_seqI ?_))
  dsimp only
  refine wpG_bind (wpG_rule ?_)
  refine callG_entry (name := "__iadd__") F.ba_slot_iadd (by decide +kernel) (baT ho) F.ba_entry_iadd (F.ba_args2 _ (by decide) _ _) ?_
  unfold Builtin.«bytearray.__iadd__»
  refine wpG_bind (wpG_pure ?_)
  dsimp only
  have buf : ∀ {Q : Option (Array UInt8 × Option Value) → Shared → Prop}, Q (some (more, none)) s → wpAny (model prog w) A.in1 (takeBufferQuiet? "bytearray.__iadd__" v 0) Q E s := fun {Q} hq => by
    unfold takeBufferQuiet?
    refine wpAny_bind (wpAny_attempt ?_)
    unfold takeBuffer?
    rcases hv with ⟨t, rfl⟩ | ⟨c, rfl, _, hc⟩
    · have hT := PySem.W.typeIs_bytes s more t
      refine wpAny_bind (wpAny_specialOf hT F.by_buffer ?_)
      refine wpAny_bind (ba_slotOwn hT F.by_buffer F.by_buf_end F.by_buf_drop F.by_sub ?_)
      refine bm_if_false rfl ?_
      refine wpAny_bind (wpAny_specialOf hT F.by_buffer ?_)
      exact wpAny_bind (by_buf (wpAny_pure (wpAny_pure hq)))
    · refine wpAny_bind (wpAny_specialOf (baT hc) F.ba_buffer ?_)
      refine wpAny_bind (ba_slotOwn (baT hc) F.ba_buffer F.ba_buf_end F.ba_buf_drop F.ba_sub ?_)
      refine bm_if_false rfl ?_
      refine wpAny_bind (wpAny_specialOf (baT hc) F.ba_buffer ?_)
      exact wpAny_bind (ba_buf hc (wpAny_pure (wpAny_pure hq)))
  refine wpG_bind (wpG_of (buf ?_))
  have same : Bytes.sameRef (.ref a) v = false := by
    rcases hv with ⟨t, rfl⟩ | ⟨c, rfl, hca, _⟩
    · rfl
    · show (a == c) = false
      simp [Ne.symm hca]
  dsimp only [thenGiveBack]
  have fin : wpG (model prog w) A.in1 (do let b ← payload (.ref a); (if Bytes.tooLong (b.size + more.size) then unsupported "bytearray.__iadd__:memory" else do write (.ref a) (· ++ more); ret (.ref a))) (fun fin s' => ∃ v, fin = .done (.ret v) ∧ Q v s') E s := by
    refine wpG_bind (wpG_of (ba_payload ho ?_))
    refine wpG_if_false (by show decide (b.size + more.size > sizeLine) = false; exact decide_eq_false (by omega)) ?_
    refine wpG_bind (wpG_of (ba_write ho (by rw [Array.size_append]; omega) ?_))
    exact wpG_pure ⟨_, rfl, h⟩
  by_cases hm : (!more.isEmpty) = true
  · refine wpG_if_true hm ?_
    refine wpG_if_false same ?_
    exact wpG_bind (ba_resize hg ho fin)
  · exact wpG_if_false (by simpa using hm) fin
end
end Mine

-- B4
namespace Mine
open PySem PySem.W PySem.Calls PyProof.Rows PySem.Builtin PySem.Builtin.Bytes
open PySem.Sem (wp)
section
variable {prog : Program} {w : World} {A : Around} {E : Value → Shared → Prop} {s : Shared}
theorem callTypeG {T newId initId : String} {Bi : Builtin} {args : List Value} {Q Q₁ : Value → Shared → Prop} (ft : TypeCalled T newId initId) (hdI : decodersThatHold.contains initId = false)
    (hct : checkTypeCall T ⟨args, []⟩ = pure ()) (entryI : entryFor table initId = some Bi)
    (hnew : codeAny (model prog w) A.in1 (.call (.builtin newId) ⟨.type T :: args, []⟩) (wants Q₁ E) s)
    (hnext : ∀ obj s₁, Q₁ obj s₁ → s₁.TypeIs obj T ∧ argsOk initId ⟨obj :: args, []⟩ ∧
      wpG (model prog w) A.in1.in1 (Bi ⟨obj :: args, []⟩) (fun fin s' => fin = .done (.ret .none) ∧ Q obj s') E s₁) :
    wpG (model prog w) A (call (.type T) args) Q E s := by
  obtain ⟨c, tl, hmro⟩ := ft.mro
  refine wpG_call (codeG_of_tree rfl ?_)
  show wpG _ _ (callAny (.type T) _) _ _ _
  refine wpG_pure ⟨Code.quiet_builtin _ (by decide +kernel), codeG_builtin (by decide +kernel) PySem.F.entry_type_call ?_⟩
  rw [Around.under_plain (weight_type_call_type T args []) rfl]
  unfold Builtin.«type.__call__»
  dsimp only
  refine wpG_if_false ft.notType ?_
  refine wpG_if_false ft.canCreate ?_
  refine wpG_bind (wpG_of (wpAny_of_eq hct ?_))
  refine wpG_bind (wpG_of (wpAny_of_eq hmro ?_))
  refine wpG_if_false rfl ?_
  refine wpG_bind (wpG_of (wpAny_of_eq ft.made ?_))
  refine wpG_bind (wpG_pure ?_)
  refine wpG_bind (wpG_holding (wpG_of (wpAny_call ?_)))
  refine codeAny_mono hnew fun r s₁ hr => ?_
  match r, hr with
  | .error e, hr => exact hr
  | .ok (.ret obj), hr =>
    obtain ⟨hT, hok, hsi⟩ := hnext _ _ hr
    refine wpG_bind (wpG_of (wpAny_isInstance hT ft.sub ?_))
    refine wpG_if_false rfl ?_
    refine wpG_bind (wpG_holding (callSpecialG (name := Str.ofString "__init__") hT ft.init (callG_entry ft.init hdI hT entryI hok ?_)))
    refine wpG_mono hsi (fun fin s' h' => ⟨.none, h'.1, ?_⟩) fun _ _ z => z
    dsimp only
    refine wpG_if_false rfl ?_
    exact wpG_pure h'.2
def Src (h : Heap) (o : Addr) (rest : List Value) (out : Array UInt8) : Prop :=
  (rest = [] ∧ out = #[]) ∨ (∃ t, rest = [.bytes out t]) ∨ (∃ c, rest = [.ref c] ∧ c ≠ o ∧ h.get? c = some (baObj out)) ∨
    (∃ l vs ns, rest = [.ref l] ∧ l ≠ o ∧ h.IsList l vs.toArray ∧ IntsAre vs ns ∧ (∀ n ∈ ns, 0 ≤ n ∧ n < 256) ∧ out = byteArr ns)
theorem ints_tw {p : Value → Bool} : ∀ {vs : List Value} {ns : List Int}, IntsAre vs ns → (∀ n ∈ ns, 0 ≤ n ∧ n < 256) → (∀ i t, p (.int i t) = (decide (0 ≤ i) && decide (i < 256))) → vs.takeWhile p = vs := by
  intro vs ns hi hr hp
  induction hi with
  | nil => rfl
  | cons n t hi ih =>
    obtain ⟨h0, h1⟩ := hr n (.head _)
    rw [List.takeWhile_cons, hp]
    simp only [h0, h1, decide_true, Bool.and_self, if_true]
    rw [ih fun x hx => hr x (.tail _ hx)]
theorem ints_fm {f : Value → Option UInt8} : ∀ {vs : List Value} {ns : List Int}, IntsAre vs ns → (∀ i t, f (.int i t) = some i.toNat.toUInt8) → vs.filterMap f = ns.map fun n => n.toNat.toUInt8 := by
  intro vs ns hi hp
  induction hi with
  | nil => rfl
  | cons n t hi ih => rw [List.filterMap_cons, hp]; simp only [List.map_cons]; rw [ih]
theorem ba_init {o : Addr} {rest : List Value} {out : Array UInt8} {Q : Fin → Shared → Prop} (hg : A.guards = some []) (ho : s.heap.get? o = some (baObj #[])) (hs : Src s.heap o rest out) (hz : out.size ≤ sizeLine)
    (h : ∀ h', Heap.SameBut o s.heap h' → h'.get? o = some (baObj out) → Q (.done (.ret .none)) { s with heap := h' }) :
    wpG (model prog w) A (Builtin.«bytearray.__init__» ⟨.ref o :: rest, []⟩) Q E s := by
  have hb : Bytes.bindOptional "bytearray.__init__" "bytearray" ["source", "encoding", "errors"] rest [] = pure [rest.head?, none, none] := by
    rcases hs with ⟨rfl, _⟩ | ⟨t, rfl⟩ | ⟨c, rfl, _⟩ | ⟨l, vs, ns, rfl, _⟩
    · exact F.ba_bind_0
    all_goals exact F.ba_bind_1 _
  unfold Builtin.«bytearray.__init__»
  dsimp only
  refine wpG_bind (wpG_of (ba_ownRel ho ?_))
  refine wpG_if_false rfl ?_
  refine wpG_bind (wpG_of (wpAny_of_eq hb ?_))
  dsimp only
  refine wpG_bind (wpG_of (wpAny_of_eq (a := ()) rfl ?_))
  refine wpG_bind (wpG_of (wpAny_of_eq (a := ()) rfl ?_))
  refine wpG_bind (wpG_bind (wpG_exported hg ?_))
  refine wpG_bind (wpG_of (ba_exports ho ?_))
  refine wpG_pure ?_
  refine wpG_if_false rfl ?_
  refine wpG_bind (wpG_of (ba_write ho (Nat.zero_le _) ?_))
  have ho₁ : (s.heap.update o (Obj.mapBytearray fun _ => #[])).get? o = some (baObj #[]) := ba_upd (fun _ => #[]) ho
  have sb : Heap.SameBut o s.heap (s.heap.update o (Obj.mapBytearray fun _ => #[])) := Heap.SameBut.update ..
  generalize s.heap.update o (Obj.mapBytearray fun _ => #[]) = h₁ at ho₁ sb
  have wr : ∀ {M : Model} {A : Around}, wpAny M A (do write (.ref o) (fun _ => out); ret .none) Q E { s with heap := h₁ } := fun {M A} =>
    wpAny_bind (ba_write ho₁ hz (wpAny_pure (h _ (sb.trans (Heap.SameBut.update ..)) (ba_upd (fun _ => out) ho₁))))
  refine wpG_of ?_
  rcases hs with ⟨rfl, rfl⟩ | ⟨t, rfl⟩ | ⟨c, rfl, hco, hc⟩ | ⟨l, vs, ns, rfl, hlo, hl, hi, hr, rfl⟩
  · exact wpAny_pure (h _ sb ho₁)
  · dsimp only [List.head?]
    have hT := PySem.W.typeIs_bytes { s with heap := h₁ } out t
    refine wpAny_bind (wpAny_pure ?_)
    refine bm_if_false rfl ?_
    refine wpAny_bind (wpAny_of_eq (a := ()) rfl ?_)
    refine wpAny_bind (wpAny_specialOf hT F.by_index ?_)
    refine bm_if_false rfl ?_
    refine wpAny_bind (by_buf ?_)
    dsimp only
    exact wpAny_bind (wpAny_rule wr)
  · have hc₁ : h₁.get? c = some (baObj out) := (sb.2 c hco).trans hc
    dsimp only [List.head?]
    have hT := baT (s := { s with heap := h₁ }) hc₁
    refine wpAny_bind ?_
    show wpAny _ _ (load c >>= _) _ _ _
    refine wpAny_bind (wpAny_load hc₁ (wpAny_pure ?_))
    refine bm_if_false rfl ?_
    refine wpAny_bind (wpAny_of_eq (a := ()) rfl ?_)
    refine wpAny_bind (wpAny_specialOf hT F.ba_index ?_)
    refine bm_if_false rfl ?_
    refine wpAny_bind (ba_buf hc₁ ?_)
    dsimp only
    exact wpAny_bind (wpAny_rule wr)
  · have hl₁ : h₁.IsList l vs.toArray := hl.extBut sb.extBut hlo
    have hT : Shared.TypeIs { s with heap := h₁ } (.ref l) "list" := Heap.IsList.typeIs (s := { s with heap := h₁ }) hl₁
    obtain ⟨ol, hol, hoc, nl, hod⟩ := id hl₁
    dsimp only [List.head?]
    refine wpAny_bind ?_
    show wpAny _ _ (load l >>= _) _ _ _
    refine wpAny_bind (wpAny_load hol ?_)
    rw [hod]
    refine wpAny_pure ?_
    refine bm_if_false rfl ?_
    refine wpAny_bind (wpAny_of_eq (a := ()) rfl ?_)
    refine wpAny_bind (wpAny_specialOf hT PySem.F.bm_no_index ?_)
    refine bm_if_false rfl ?_
    refine wpAny_bind ?_
    unfold buffer?
    refine wpAny_bind (wpAny_specialOf hT PySem.F.bm_no_buffer ?_)
    refine wpAny_bind (wpAny_specialOf hT PySem.F.bm_no_buffer ?_)
    refine wpAny_pure ?_
    dsimp only
    refine wpAny_bind (wpAny_typeOf hT ?_)
    refine bm_if_true rfl ?_
    refine wpAny_bind (wpAny_seqItems hol hod ?_)
    dsimp only
    rw [ints_tw hi hr fun _ _ => rfl, ints_fm hi fun _ _ => rfl]
    have e : vs.toArray[vs.length]? = none := by simp
    rw [e]
    exact wpAny_bind (wpAny_rule wr)
theorem call_ba {rest : List Value} {out : Array UInt8} {Q : Value → Shared → Prop} (hg : A.guards = some []) (hl : rest.length ≤ 1) (hs : Src s.heap s.heap.objs.size rest out) (hz : out.size ≤ sizeLine)
    (h : ∀ h', (∀ b o, s.heap.get? b = some o → h'.get? b = some o) → h'.get? s.heap.objs.size = some (baObj out) → h'.objs.size = s.heap.objs.size + 1 → Q (.ref s.heap.objs.size) { s with heap := h' }) : wpG (model prog w) A (call (.type "bytearray") rest) Q E s := by
  have hct : checkTypeCall "bytearray" ⟨rest, []⟩ = pure () := by
    match rest, hl with
    | [], _ => exact F.ba_typeCall_0
    | [a], _ => exact F.ba_typeCall_1 a
  have hok : ∀ v, argsOk "bytearray.__init__" ⟨v :: rest, []⟩ := fun v => by
    match rest, hl with
    | [], _ => exact F.ba_initArgs_0 v
    | [a], _ => exact F.ba_initArgs_1 v a
  refine callTypeG (Q₁ := fun obj s₁ => obj = .ref s.heap.objs.size ∧ s₁ = { s with heap := s.heap.push (baObj #[]) }) F.ba_called (by decide +kernel) hct F.ba_entry_init (code_ba_new rest ⟨rfl, rfl⟩) fun obj s₁ h₁ => ?_
  obtain ⟨rfl, rfl⟩ := h₁
  have ho : (s.heap.push (baObj #[])).get? s.heap.objs.size = some (baObj #[]) := Heap.get?_push_size _ rfl
  refine ⟨baT (s := { s with heap := s.heap.push (baObj #[]) }) ho, hok _, ba_init hg ho ?_ hz fun h' sb ho' => ⟨rfl, ?_⟩⟩
  · rcases hs with x | x | ⟨c, e, hc, hg'⟩ | ⟨l, vs, ns, e, hl, hli, x⟩
    · exact .inl x
    · exact .inr (.inl x)
    · exact .inr (.inr (.inl ⟨c, e, hc, Heap.get?_push_of_some _ hg'⟩))
    · exact .inr (.inr (.inr ⟨l, vs, ns, e, hl, hli.push _, x⟩))
  · refine h h' (fun b o e => (sb.2 b (Nat.ne_of_lt (Heap.lt_size e))).trans (Heap.get?_push_of_some _ e)) ho' (by rw [sb.1]; exact Heap.size_push _ _)
end
end Mine

-- B5
namespace Mine
open PySem PySem.W PySem.Calls PyProof.Rows PySem.Builtin PySem.Builtin.Bytes
open PySem.Sem (wp)
namespace F
theorem bi_slot_next : Slot "bytearray_iterator" "__next__" "bytearray_iterator.__next__" :=
  .of (owner := "bytearray_iterator") (n := "__next__") (by rw [typeLookup_type, builtinLookup_eq_fast]; kernel_rfl) (by decide +kernel) (by decide +kernel) (by decide +kernel)
    (by first | exact .inl (by decide +kernel) | exact .inr (by decide +kernel)) (by rw [isSubtype_type]; kernel_rfl)
theorem bi_entry_next : entryFor table "bytearray_iterator.__next__" = some Builtin.«bytearray_iterator.__next__» := by first | exact entryFor_of_fast (by kernel_rfl) | exact entryFor_of_tree (by kernel_rfl)
theorem bi_args_next (a : Value) : argsOk "bytearray_iterator.__next__" ⟨[a], []⟩ := by unfold argsOk; kernel_rfl
theorem bi_slot_iter : Slot "bytearray_iterator" "__iter__" "bytearray_iterator.__iter__" := .of (owner := "bytearray_iterator") (n := "__iter__") (by rw [typeLookup_type, builtinLookup_eq_fast]; kernel_rfl) (by decide +kernel) (by decide +kernel) (by decide +kernel)
    (by first | exact .inl (by decide +kernel) | exact .inr (by decide +kernel)) (by rw [isSubtype_type]; kernel_rfl)
theorem bi_entry_iter : entryFor table "bytearray_iterator.__iter__" = some Builtin.«dict_keyiterator.__iter__» := entryFor_alias (id' := "dict_keyiterator.__iter__") (by kernel_rfl) (by decide +kernel) (by decide +kernel) (by kernel_rfl)
theorem bi_args_iter (a : Value) : argsOk "bytearray_iterator.__iter__" ⟨[a], []⟩ := by unfold argsOk; kernel_rfl
theorem ba_len_id : splitId "bytearray.__len__" = some ("bytearray", "__len__") := by decide +kernel
end F
abbrev biObj (a : Addr) (i : Nat) : Obj := { cls := .type "bytearray_iterator", data := .fields #[.ref a, .int i 0] }
section
variable {prog : Program} {w : World} {A : Around} {E : Value → Shared → Prop} {s : Shared}
theorem ba_iter {a : Addr} {b : Array UInt8} {Q : Value → Shared → Prop} (ho : s.heap.get? a = some (baObj b)) (h : Q (.ref s.heap.objs.size) { s with heap := s.heap.push (biObj a 0) }) : wpAny (model prog w) A (pyIter (.ref a)) Q E s := by
  refine wpAny_pyIter_slot (baT ho) F.ba_slot_iter (wpAny_call_entry F.ba_slot_iter (baT ho) F.ba_entry_iter ?_ (F.ba_args1 _ (by decide) _))
  show wpAny _ _ (do ret (← newFields "bytearray_iterator" [.ref a, rawInt 0])) _ _ s
  exact wpAny_bind (wpAny_newObj_type (wpAny_pure ⟨_, rfl, "bytearray_iterator", _, ⟨_, Heap.get?_push_size _ rfl, rfl⟩, F.bi_slot_next.lookup, h⟩))
theorem bi_next {I a : Addr} {b : Array UInt8} {i : Nat} {c : UInt8} {Q : Option Value → Shared → Prop} (hi : s.heap.get? I = some (biObj a i)) (ho : s.heap.get? a = some (baObj b)) (hc : b[i]? = some c)
    (h : Q (some (.int c.toNat s.toks)) { s with heap := s.heap.update I (Obj.mapFields (·.setIfInBounds 1 (rawInt (i + 1)))), toks := s.toks + 1 }) : wpAny (model prog w) A (pyNext (.ref I)) Q E s := by
  have hT : s.TypeIs (.ref I) "bytearray_iterator" := ⟨_, hi, rfl⟩
  unfold pyNext
  refine wpAny_bind (wpAny_attempt (wpAny_callSpecial?_slot (name := Str.ofString "__next__") hT F.bi_slot_next (wpAny_call_entry F.bi_slot_next hT F.bi_entry_next ?_ (F.bi_args_next _))))
  unfold Builtin.«bytearray_iterator.__next__»
  refine wpAny_bind (wpAny_pure ?_)
  dsimp only
  refine wpAny_bind (wpAny_field hi rfl (i := 0) rfl ?_)
  refine wpAny_bind (wpAny_load ho ?_)
  refine wpAny_bind (wpAny_field hi rfl (i := 1) rfl ?_)
  show wpAny _ _ (match b[((i : Nat) : Int).toNat]? with | some c => _ | none => _) _ _ _
  rw [Int.toNat_natCast, hc]
  refine wpAny_bind (wpAny_setField hi rfl (by simp) ?_)
  exact wpAny_bind (wpAny_mkInt (wpAny_pure ⟨_, rfl, wpAny_pure h⟩))
theorem bi_end {I a : Addr} {b : Array UInt8} {i : Nat} {Q : Option Value → Shared → Prop} (hh : A.handled = none) (hi : s.heap.get? I = some (biObj a i)) (ho : s.heap.get? a = some (baObj b)) (hc : b[i]? = none)
    (h : ∀ h', (∀ x o, x ≠ I → s.heap.get? x = some o → h'.get? x = some o) → Q none { s with heap := h' }) : wpAny (model prog w) A (pyNext (.ref I)) Q E s := by
  have hT : s.TypeIs (.ref I) "bytearray_iterator" := ⟨_, hi, rfl⟩
  unfold pyNext
  refine wpAny_bind (wpAny_attempt (wpAny_callSpecial?_slot (name := Str.ofString "__next__") hT F.bi_slot_next (wpAny_call_entry F.bi_slot_next hT F.bi_entry_next ?_ (F.bi_args_next _))))
  unfold Builtin.«bytearray_iterator.__next__»
  refine wpAny_bind (wpAny_pure ?_)
  dsimp only
  refine wpAny_bind (wpAny_field hi rfl (i := 0) rfl ?_)
  refine wpAny_bind (wpAny_load ho ?_)
  refine wpAny_bind (wpAny_field hi rfl (i := 1) rfl ?_)
  show wpAny _ _ (match b[((i : Nat) : Int).toNat]? with | some c => _ | none => _) _ _ _
  rw [Int.toNat_natCast, hc]
  refine wpAny_bind (wpAny_rule (wpAny_bind (wpAny_setField hi rfl (by simp) (wpAny_bind (wpAny_letGo ?_)))))
  unfold SmallTypes.stopIteration
  refine wpAny_bind ?_
  simp only [newExc, newTuple]
  refine wpAny_bind (wpAny_newObj_type ?_ (by size_fits))
  refine wpAny_bind (m := firstArgMember _ _) (wpAny_of_eq (a := Value.none) (by first | rfl | (simp only [firstArgMember]; rfl)) ?_)
  refine wpAny_newObj_type ?_ (by size_fits)
  simp only [raiseNew]
  refine wpAny_bind (wpAny_handled ?_)
  rw [show A.in1.handled = none from hh]
  refine wpAny_bind (wpAny_pure (wpAny_throw ?_))
  refine wpAny_bind (wpAny_isInstance (T := "StopIteration") (b := true) ⟨_, Heap.get?_push_size _ rfl, rfl⟩ isSubtype_stop ?_)
  exact wpAny_pure (h _ fun x o hx e => (((Heap.SameBut.update ..).extBut.push _).push _) x o hx e)
theorem ba_walks {I a : Addr} {b : Array UInt8} (hIa : I ≠ a) (hh : A.handled = none) : WalksS prog w A I [I, a] [I] (fun a b => b = a) b.size (fun i v => ∃ c t, b[i]? = some c ∧ v = .int c.toNat t) (fun i s => s.heap.get? I = some (biObj a i) ∧ s.heap.get? a = some (baObj b)) where
  sub := fun x hx => by rw [List.mem_singleton.mp hx]; exact .head _
  grefl := fun _ => rfl
  gtrans := fun _ _ _ h1 h2 => h2.trans h1
  frame := fun i s h' _ st _ hk => ⟨hk I (.head _) _ st.1, hk a (.tail _ (.head _)) _ st.2⟩
  item := fun i s Q E hi st hQ => by
    obtain ⟨c, hc⟩ : ∃ c, b[i]? = some c := ⟨b[i], Array.getElem?_eq_getElem hi⟩
    refine bi_next st.1 st.2 hc (hQ _ _ ⟨c, _, hc, rfl⟩ ⟨?_, (Heap.get?_update_other _ _ hIa).trans st.2⟩ ⟨fun x o hx e => (Heap.get?_update_other _ _ (fun q => hx (List.mem_singleton.mpr q.symm))).trans e, rfl, rfl, rfl, Nat.le_succ _⟩)
    have := Heap.get?_update_self (Obj.mapFields (·.setIfInBounds 1 (rawInt (i + 1)))) st.1 (Obj.isFreed_of_fields (Obj.data_mapFields rfl _))
    exact this
  done := fun s Q E st hQ => bi_end hh st.1 st.2 (by simp) fun h' hk => hQ _ ⟨fun x o hx e => hk x o (fun q => hx (List.mem_singleton.mpr q)) e, rfl, rfl, rfl, Nat.le_refl _⟩
  self := fun i s Q E st h => by
    have hT : s.TypeIs (.ref I) "bytearray_iterator" := ⟨_, st.1, rfl⟩
    refine wpAny_pyIter_slot hT F.bi_slot_iter (wpAny_call_entry F.bi_slot_iter hT F.bi_entry_iter ?_ (F.bi_args_iter _))
    show wpAny _ _ (ret (.ref I)) _ _ s
    exact wpAny_pure ⟨_, rfl, "bytearray_iterator", _, hT, F.bi_slot_next.lookup, h⟩
theorem call_list_ba {a : Addr} {b : Array UInt8} {Q : Value → Shared → Prop} (hh : A.handled = none) (ho : s.heap.get? a = some (baObj b)) (hz : b.size ≤ sizeLine)
    (h : ∀ h' tk vs c, (∀ x o, s.heap.get? x = some o → h'.get? x = some o) → h'.get? s.heap.objs.size = some { cls := .type "list", data := .seq vs c } → IntsAre vs.toList (b.toList.map fun c => ((c.toNat : Nat) : Int)) → Q (.ref s.heap.objs.size) { s with heap := h', toks := tk }) :
    wpAny (model prog w) A (call (.type "list") [.ref a]) Q E s := by
  refine callType_codes (Q₁ := fun obj s₁ => obj = .ref s.heap.objs.size ∧ s₁ = { s with heap := s.heap.push { cls := .type "list", data := .seq #[] } }) PySem.F.called_list (PySem.F.typeCall_list_1 _) PySem.F.entry_list_init
    (code_list_new _ ⟨rfl, rfl⟩) fun obj s₁ h₁ => ?_
  obtain ⟨rfl, rfl⟩ := h₁
  have hS : (s.heap.push { cls := .type "list", data := .seq #[] }).get? s.heap.objs.size = some { cls := .type "list", data := .seq #[] } := Heap.get?_push_size _ rfl
  have hSa : s.heap.objs.size ≠ a := Nat.ne_of_gt (Heap.lt_size ho)
  refine ⟨⟨_, hS, rfl⟩, PySem.F.args_list_init_2 _ _, ?_⟩
  generalize hS0 : s.heap.objs.size = S at *
  show wpAny _ _ (do let old ← Builtin.List.listItems (.ref S); Builtin.List.listUpdate (.ref S) (fun _ => #[]); letGo old.toList.reverse; Builtin.List.listExtendWith (.ref S) (.ref a) .none) _ _ _
  refine wpAny_bind ?_
  unfold Builtin.List.listItems
  refine wpAny_bind (wpAny_seqItems hS rfl (wpAny_pure ?_))
  show wpAny _ _ (updateSeq S (fun _ => #[]) >>= fun _ => letGo (#[] : Array Value).toList.reverse >>= fun _ => Builtin.List.listExtendWith (.ref S) (.ref a) .none) _ _ _
  refine wpAny_bind (wpAny_updateSeq hS rfl ?_)
  have hS₂ := Heap.get?_update_self (Obj.mapSeq (fun _ => (#[] : Array Value))) hS rfl
  have oth : ∀ x o, x ≠ S → s.heap.get? x = some o → ((s.heap.push { cls := .type "list", data := .seq #[] }).update S (Obj.mapSeq (fun _ => (#[] : Array Value)))).get? x = some o :=
    fun x o hx e => (Heap.get?_update_other _ _ (Ne.symm hx)).trans (Heap.get?_push_of_some _ e)
  have hz2 : ((s.heap.push { cls := .type "list", data := .seq #[] }).update S (Obj.mapSeq (fun _ => (#[] : Array Value)))).objs.size = S + 1 := by
    rw [(Heap.SameBut.update ..).1, Heap.size_push, hS0]
  generalize (s.heap.push { cls := .type "list", data := .seq #[] }).update S (Obj.mapSeq (fun _ => (#[] : Array Value))) = h2 at hS₂ oth hz2
  have ho2 : h2.get? a = some (baObj b) := oth a _ (Ne.symm hSa) ho
  refine wpAny_bind (wpAny_letGo ?_)
  unfold Builtin.List.listExtendWith
  refine wpAny_bind (wpAny_typeOf (T := "bytearray") (baT (s := { s with heap := h2 }) ho2) ?_)
  have h1 : Builtin.List.listSameRef (.ref S) (.ref a) = false := by simp [Builtin.List.listSameRef, hSa]
  have h2' : (Value.type "bytearray" == Value.type "list") = false := by decide
  have h3 : (Value.type "bytearray" == Value.type "tuple") = false := by decide
  simp only [h1, h2', h3, Bool.or_false, Bool.false_eq_true, if_false]
  refine wpAny_bind (ba_iter (s := { s with heap := h2 }) ho2 ?_)
  refine wpAny_bind (wpAny_holding ?_)
  have ho3 : (h2.push (biObj a 0)).get? a = some (baObj b) := Heap.get?_push_of_some _ ho2
  have hT3 : Shared.TypeIs { s with heap := h2.push (biObj a 0) } (.ref a) "bytearray" := baT (s := { s with heap := h2.push (biObj a 0) }) ho3
  unfold Builtin.List.listLengthHint
  refine wpAny_bind (wpAny_specialOf hT3 F.ba_slot_len.lookup ?_)
  wp_delta
  refine wpAny_bind (wpAny_isInstance hT3 F.ba_sub ?_)
  show wpAny _ _ (typeOf (Value.ref a) >>= _) _ _ _
  refine wpAny_bind (wpAny_typeOf hT3 ?_)
  refine wpAny_pure ?_
  rw [if_neg (by decide)]
  have hIa : h2.objs.size ≠ a := Nat.ne_of_gt (Heap.lt_size ho2)
  have hSf : S ∉ [h2.objs.size, a] := fun hm => by
    rw [hz2] at hm
    rcases List.mem_cons.mp hm with e | hm
    · exact absurd e (Nat.ne_of_lt (Nat.lt_succ_self _))
    · exact hSa (List.mem_singleton.mp hm)
  refine wpAny_pure ⟨plainId_quiet PySem.F.plain_extend_loop _, codeAny_extend_loopS (prog := prog) (w := w) (A := A.in1) (ba_walks (A := A.in1.in1) hIa hh) hz _ hSf _ b.size 0 _ _ _ rfl (Nat.zero_le _) ⟨Heap.get?_push_size _ rfl, ho3⟩ (Heap.get?_push_of_some _ hS₂) (ItemsOf.nil _) fun s' acc' c' hm hS' hacc => ?_⟩
  rw [Moved.eq_with hm]
  refine ⟨rfl, h s'.heap s'.toks acc' c' (fun x o e => hm.heap x o (fun hmem => ?_) (Heap.get?_push_of_some _ (oth x o ?_ e))) hS' ?_⟩
  · have hlt := Heap.lt_size e
    rcases List.mem_cons.mp hmem with e' | hmem
    · rw [e', hS0] at hlt; exact absurd hlt (Nat.lt_irrefl _)
    · rw [List.mem_singleton.mp hmem] at hlt
      replace hlt : h2.objs.size < s.heap.objs.size := hlt
      rw [hz2, hS0] at hlt
      exact absurd hlt (Nat.not_lt.mpr (Nat.le_succ _))
  · rw [← hS0]; exact Nat.ne_of_lt (Heap.lt_size e)
  · have key : ∀ (l : List UInt8) (vs : List Value), vs.length = l.length → (∀ (j : Nat) v, vs[j]? = some v → ∃ (c : UInt8) (t : Tok), l[j]? = some c ∧ v = Value.int ((c.toNat : Nat) : Int) t) → IntsAre vs (l.map fun c => ((c.toNat : Nat) : Int)) := by
      intro l
      induction l with
      | nil => intro vs hv _; rw [List.length_eq_zero_iff.mp hv]; exact .nil
      | cons c l ih =>
        intro vs hv hp
        match vs, hv, hp with
        | v :: vs, hv, hp =>
          obtain ⟨c', t, e1, rfl⟩ := hp 0 v rfl
          simp only [List.getElem?_cons_zero, Option.some.injEq] at e1
          subst e1
          exact .cons _ t (ih vs (by simpa using hv) fun j v hj => by
            obtain ⟨c', t, e1, e2⟩ := hp (j + 1) v (by simpa using hj)
            exact ⟨c', t, by simpa using e1, e2⟩)
    refine key b.toList acc'.toList (by simpa using hacc.1) fun j v hj => ?_
    obtain ⟨c, t, e1, e2⟩ := hacc.2 j v (by simpa using hj)
    exact ⟨c, t, by simpa using e1, e2⟩
end
end Mine

-- R1
namespace Mine
open PySem PySem.W PySem.Calls PyProof.Rows PySem.Builtin PySem.Builtin.Bytes PySem.Builtin.Struct
namespace F
theorem entry_pack : entryFor table "_struct.pack" = some Builtin.«_struct.pack» := entryFor_of_tree (by kernel_rfl)
theorem kind_pack : builtinKind "_struct.pack" = none := by kernel_rfl
theorem plain_pack : plainId "_struct.pack" = true := by decide +kernel
theorem args_pack (a b : Value) : argsOk "_struct.pack" ⟨[a, b], []⟩ := by unfold argsOk; kernel_rfl
theorem entry_unpack : entryFor table "_struct.unpack" = some Builtin.«_struct.unpack» := entryFor_of_tree (by kernel_rfl)
theorem kind_unpack : builtinKind "_struct.unpack" = none := by kernel_rfl
theorem plain_unpack : plainId "_struct.unpack" = true := by decide +kernel
theorem args_unpack (a b : Value) : argsOk "_struct.unpack" ⟨[a, b], []⟩ := by unfold argsOk; kernel_rfl
end F
def fmtB : Format := { bigEndian := false, native := true, codes := [⟨'B', 1, 0, 1⟩], size := 1, items := 1 }
def fmtH : Format := { bigEndian := true, native := false, codes := [⟨'H', 1, 0, 2⟩], size := 2, items := 1 }
def fmtL : Format := { bigEndian := true, native := false, codes := [⟨'L', 1, 0, 4⟩], size := 4, items := 1 }
theorem mf_B (t : Tok) : moduleFormat (.str (Str.ofString "B") t) = pure fmtB := by kernel_rfl
theorem mf_H (t : Tok) : moduleFormat (.str (Str.ofString ">H") t) = pure fmtH := by kernel_rfl
theorem mf_L (t : Tok) : moduleFormat (.str (Str.ofString ">L") t) = pure fmtL := by kernel_rfl
def be2 (i : Int) : Array UInt8 := #[((i / 256).toNat).toUInt8, (i.toNat).toUInt8]

theorem ofNat_mod (n : Nat) : UInt8.ofNat (n % 256) = UInt8.ofNat n := by
  apply UInt8.toNat.inj; simp
theorem intBytes_B (i : Int) (h : 0 ≤ i) (h' : i < 256) : intBytes false 1 i = #[i.toNat.toUInt8] := by
  unfold intBytes
  have : (i % 2 ^ (8 * 1)) = i := by omega
  rw [this]
  simp [Memoryview.toLittleEndian, ofNat_mod]
theorem intBytes_H (i : Int) (h : 0 ≤ i) (h' : i < 65536) : intBytes true 2 i = #[(i / 256).toNat.toUInt8, (i % 256).toNat.toUInt8] := by
  unfold intBytes
  have : (i % 2 ^ (8 * 2)) = i := by omega
  rw [this]
  obtain ⟨n, rfl⟩ := Int.eq_ofNat_of_zero_le h
  have e : (List.range 2) = [0, 1] := by decide
  have e1 : ((n : Int) / 256).toNat = n / 256 := by omega
  have e2 : ((n : Int) % 256).toNat = n % 256 := by omega
  simp only [Memoryview.toLittleEndian, e, e1, e2]
  have e3 : n / 256 % 256 = n / 256 := by omega
  simp [e3]
theorem intBytes_L (i : Int) (h : 0 ≤ i) (h' : i < 4294967296) : intBytes true 4 i = #[(i / 16777216).toNat.toUInt8, (i / 65536 % 256).toNat.toUInt8, (i / 256 % 256).toNat.toUInt8, (i % 256).toNat.toUInt8] := by
  unfold intBytes
  have : (i % 2 ^ (8 * 4)) = i := by omega
  rw [this]
  obtain ⟨n, rfl⟩ := Int.eq_ofNat_of_zero_le h
  have e : (List.range 4) = [0, 1, 2, 3] := by decide
  have e1 : ((n : Int) / 256 % 256).toNat = n / 256 % 256 := by omega
  have e2 : ((n : Int) % 256).toNat = n % 256 := by omega
  have e3 : ((n : Int) / 65536 % 256).toNat = n / 65536 % 256 := by omega
  have e4 : ((n : Int) / 16777216).toNat = n / 16777216 := by omega
  simp only [Memoryview.toLittleEndian, e, e1, e2, e3, e4]
  have e3 : n / 16777216 % 256 = n / 16777216 := by omega
  simp [e3]
theorem run_pack_B (i : Int) (t u : Tok) (h : 0 ≤ i) (h' : i < 256) : Gives (Builtin.«_struct.pack» ⟨[.str (Str.ofString "B") t, .int i u], []⟩) (.bytes #[i.toNat.toUInt8]) :=
  .of_wp fun M A E s Q hq => by
    obtain ⟨hp, g, d, tk, os⟩ := s
    have hm := mf_B t
    have hl : ¬ (i < 0) := by omega
    have hl : ¬ (i > 255) := by omega
    unfold Builtin.«_struct.pack» Struct.packed packEach
    simp only [Std.Legacy.Range.forIn_eq_forIn_range']
    repeat (first | (with_reducible first | refine wpAny_pure ?_ | refine wpAny_bind ?_ | refine wpAny_rule ?_ | refine wpAny_fresh' ?_ | refine wpAny_of_eq (by assumption) ?_) | ((with_reducible apply wpAny_ite_false); focus (rfl; done)) | ((with_reducible apply wpAny_ite_true); focus (rfl; done)) | wp_delta | wp_step)
    refine ⟨_, rfl, ?_⟩
    show Q (.bytes ((intBytes false 1 i).toList.zipIdx.foldl (fun out (c, k) => out.setIfInBounds (0 + k) c) (Array.replicate 1 0)) _) _
    rw [intBytes_B i h h']
    exact hq.2

theorem if_small {α : Type} {M : Model} {A : Around} {E : Value → Shared → Prop} {s : Shared} {b : Array UInt8} {x : Sem α} {y : Sem α} {Q : α → Shared → Prop} (hb : b.size ≤ sizeLine) (h : wpAny M A y Q E s) :
    wpAny M A (if b.size > sizeLine then x else y) Q E s := by rw [if_neg (Nat.not_lt.mpr hb)]; exact h
set_option maxHeartbeats 1000000 in
theorem run_pack_H (i : Int) (t u : Tok) (h : 0 ≤ i) (h' : i < 65536) : Gives (Builtin.«_struct.pack» ⟨[.str (Str.ofString ">H") t, .int i u], []⟩) (.bytes #[(i / 256).toNat.toUInt8, (i % 256).toNat.toUInt8]) :=
  .of_wp fun M A E s Q hq => by
    obtain ⟨hp, g, d, tk, os⟩ := s
    have hm := mf_H t
    have hl : ¬ (i < 0) := by omega
    have hl : ¬ (i > 65535) := by omega
    unfold Builtin.«_struct.pack» Struct.packed packEach
    simp only [Std.Legacy.Range.forIn_eq_forIn_range']
    repeat (first | (with_reducible first | refine wpAny_pure ?_ | refine wpAny_bind ?_ | refine wpAny_rule ?_ | refine wpAny_fresh' ?_ | refine wpAny_of_eq (by assumption) ?_) | ((with_reducible apply wpAny_ite_false); focus (rfl; done)) | ((with_reducible apply wpAny_ite_true); focus (rfl; done)) | wp_delta | wp_step)
    show wpAny M A (if ((intBytes true 2 i).toList.zipIdx.foldl (fun out (c, k) => out.setIfInBounds (0 + k) c) (Array.replicate 2 0)).size > sizeLine then _ else fresh >>= fun l => pure (Value.bytes ((intBytes true 2 i).toList.zipIdx.foldl (fun out (c, k) => out.setIfInBounds (0 + k) c) (Array.replicate 2 0)) l)) _ _ _
    rw [intBytes_H i h h']
    refine if_small (by show 2 ≤ sizeLine; decide) ?_
    repeat (first | (with_reducible first | refine wpAny_pure ?_ | refine wpAny_bind ?_ | refine wpAny_rule ?_ | refine wpAny_fresh' ?_ | refine wpAny_of_eq (by assumption) ?_) | ((with_reducible apply wpAny_ite_false); focus (rfl; done)) | ((with_reducible apply wpAny_ite_true); focus (rfl; done)) | wp_delta | wp_step)
    exact ⟨_, rfl, hq.2⟩
set_option maxHeartbeats 1000000 in
theorem run_pack_L (i : Int) (t u : Tok) (h : 0 ≤ i) (h' : i < 4294967296) : Gives (Builtin.«_struct.pack» ⟨[.str (Str.ofString ">L") t, .int i u], []⟩) (.bytes #[(i / 16777216).toNat.toUInt8, (i / 65536 % 256).toNat.toUInt8, (i / 256 % 256).toNat.toUInt8, (i % 256).toNat.toUInt8]) :=
  .of_wp fun M A E s Q hq => by
    obtain ⟨hp, g, d, tk, os⟩ := s
    have hm := mf_L t
    have hl : ¬ (i < 0) := by omega
    have hl : ¬ (i > 4294967295) := by omega
    unfold Builtin.«_struct.pack» Struct.packed packEach
    simp only [Std.Legacy.Range.forIn_eq_forIn_range']
    repeat (first | (with_reducible first | refine wpAny_pure ?_ | refine wpAny_bind ?_ | refine wpAny_rule ?_ | refine wpAny_fresh' ?_ | refine wpAny_of_eq (by assumption) ?_) | ((with_reducible apply wpAny_ite_false); focus (rfl; done)) | ((with_reducible apply wpAny_ite_true); focus (rfl; done)) | wp_delta | wp_step)
    show wpAny M A (if ((intBytes true 4 i).toList.zipIdx.foldl (fun out (c, k) => out.setIfInBounds (0 + k) c) (Array.replicate 4 0)).size > sizeLine then _ else fresh >>= fun l => pure (Value.bytes ((intBytes true 4 i).toList.zipIdx.foldl (fun out (c, k) => out.setIfInBounds (0 + k) c) (Array.replicate 4 0)) l)) _ _ _
    rw [intBytes_L i h h']
    refine if_small (by show 4 ≤ sizeLine; decide) ?_
    repeat (first | (with_reducible first | refine wpAny_pure ?_ | refine wpAny_bind ?_ | refine wpAny_rule ?_ | refine wpAny_fresh' ?_ | refine wpAny_of_eq (by assumption) ?_) | ((with_reducible apply wpAny_ite_false); focus (rfl; done)) | ((with_reducible apply wpAny_ite_true); focus (rfl; done)) | wp_delta | wp_step)
    exact ⟨_, rfl, hq.2⟩
section
variable {prog : Program} {w : World} {A : Around} {E : Value → Shared → Prop} {s : Shared} {Q : Value → Shared → Prop}
theorem call_gives {id : String} {b : Builtin} {args : List Value} {m : Made} (hk : builtinKind id = none) (hp : plainId id = true) (hb : entryFor table id = some b) (ha : argsOk id ⟨args, []⟩) (g : Gives (b ⟨args, []⟩) m) (hq : m.post Q s) :
    wpAny (model prog w) A (call (.builtin id) args) Q E s := by
  refine wpAny_call (codeAny_call_builtin hp hb ?_)
  have z := g prog w A (fun r s' => match r with | .ok (.ret v) => Q v s' | .ok _ => False | .error e => E e s') s hq
  simp only [checkBuiltinCall, hk]
  cases hsig : Manifest.signature? id with
  | none => exact wpAny_pure z
  | some sig =>
    simp only [argsOk, hsig] at ha
    have h2 : Bind.checkArgs id sig ⟨args, []⟩ = pure () := ha
    show wpAny _ A.in1 (Bind.checkArgs id sig ⟨args, []⟩) _ _ s
    rw [h2]; exact wpAny_pure z
theorem pack_B {i : Int} {t u : Tok} (h : 0 ≤ i) (h' : i < 256) (hq : Q (.bytes #[i.toNat.toUInt8] s.toks) { s with toks := s.toks + 1 }) :
    wpAny (model prog w) A (call (.builtin "_struct.pack") [.str (Str.ofString "B") t, .int i u]) Q E s :=
  call_gives F.kind_pack F.plain_pack F.entry_pack (F.args_pack _ _) (run_pack_B i t u h h') ⟨by (first | (show 1 ≤ sizeLine; decide) | (show 2 ≤ sizeLine; decide) | (show 4 ≤ sizeLine; decide)), hq⟩
theorem pack_H {i : Int} {t u : Tok} (h : 0 ≤ i) (h' : i < 65536) (hq : Q (.bytes #[(i / 256).toNat.toUInt8, (i % 256).toNat.toUInt8] s.toks) { s with toks := s.toks + 1 }) :
    wpAny (model prog w) A (call (.builtin "_struct.pack") [.str (Str.ofString ">H") t, .int i u]) Q E s :=
  call_gives F.kind_pack F.plain_pack F.entry_pack (F.args_pack _ _) (run_pack_H i t u h h') ⟨by (first | (show 1 ≤ sizeLine; decide) | (show 2 ≤ sizeLine; decide) | (show 4 ≤ sizeLine; decide)), hq⟩
theorem pack_L {i : Int} {t u : Tok} (h : 0 ≤ i) (h' : i < 4294967296) (hq : Q (.bytes #[(i / 16777216).toNat.toUInt8, (i / 65536 % 256).toNat.toUInt8, (i / 256 % 256).toNat.toUInt8, (i % 256).toNat.toUInt8] s.toks) { s with toks := s.toks + 1 }) :
    wpAny (model prog w) A (call (.builtin "_struct.pack") [.str (Str.ofString ">L") t, .int i u]) Q E s :=
  call_gives F.kind_pack F.plain_pack F.entry_pack (F.args_pack _ _) (run_pack_L i t u h h') ⟨by (first | (show 1 ≤ sizeLine; decide) | (show 2 ≤ sizeLine; decide) | (show 4 ≤ sizeLine; decide)), hq⟩
end
end Mine

-- B6
namespace Mine
open PySem PySem.W PySem.Calls PyProof.Rows PySem.Builtin PySem.Builtin.Bytes PySem.Builtin.Struct
open PySem.Sem (wp)
namespace F
theorem ba_no_bytes : typeLookup (.type "bytearray") "__bytes__" = pure none := by rw [typeLookup_type, builtinLookup_eq_fast]; kernel_rfl
end F
section
variable {prog : Program} {w : World} {A : Around} {E : Value → Shared → Prop} {s : Shared}
theorem call_bytes_ba {a : Addr} {b : Array UInt8} {Q : Value → Shared → Prop} (ho : s.heap.get? a = some (baObj b)) (hz : b.size ≤ sizeLine)
    (h : Q (.bytes b s.toks) { s with toks := s.toks + 1 }) : wpAny (model prog w) A (call (.type "bytes") [.ref a]) Q E s := by
  refine callType_codes (Q₁ := fun obj s₁ => s₁.TypeIs obj "bytes" ∧ Q obj s₁) PySem.F.bm_called (PySem.F.bm_typeCall _) PySem.F.entry_object_init ?_ fun obj s₁ h₁ =>
    ⟨h₁.1, PySem.F.args_object_init_2 obj _, object_init_meets PySem.F.bm_called.init.lookup PySem.F.bm_called.made (by decide) prog w A.in1 _ s₁ ⟨h₁.1, rfl, h₁.2⟩⟩
  refine codeAny_of_tree ?_
  show wpAny _ _ (do checkBuiltinCall "bytes.__new__" ⟨[.type "bytes", .ref a], []⟩; again (.builtin "bytes.__new__" ⟨[.type "bytes", .ref a], []⟩)) _ _ s
  refine wpAny_bind (wpAny_of_eq (PySem.F.bm_newCall _) (wpAny_pure ⟨plainId_quiet PySem.F.bm_plain _, codeAny_builtin PySem.F.bm_entry ?_⟩))
  rw [Around.under_plainId PySem.F.bm_plain _]
  have hT := baT ho
  unfold Builtin.«bytes.__new__»
  refine wpAny_bind (wpAny_of_eq (a := true) rfl ?_)
  refine bm_if_false rfl ?_
  refine wpAny_bind (wpAny_of_eq PySem.F.bm_sub ?_)
  refine bm_if_false rfl ?_
  refine wpAny_bind (wpAny_of_eq (PySem.F.bm_bind _) ?_)
  refine wpAny_bind (wpAny_of_eq (a := ()) rfl ?_)
  refine wpAny_bind (wpAny_of_eq (a := ()) rfl ?_)
  refine bm_if_false rfl ?_
  refine wpAny_bind (wpAny_specialOf hT F.ba_no_bytes ?_)
  refine wpAny_bind (wpAny_bind ?_)
  show wpAny _ _ (load a >>= _) _ _ _
  refine wpAny_bind (wpAny_load ho ?_)
  refine wpAny_pure (wpAny_pure ?_)
  refine bm_if_false rfl ?_
  refine wpAny_bind (wpAny_specialOf hT F.ba_index ?_)
  refine bm_if_true rfl ?_
  first
    | show wpAny _ _ (buffer? "bytes.__new__" (.ref a) true >>= _) _ _ _
    | (refine wpAny_bind ?_; show wpAny _ _ (buffer? "bytes.__new__" (.ref a) true >>= _) _ _ _)
  refine wpAny_bind (ba_buf ho ?_)
  dsimp only
  refine wpAny_bind (wpAny_rule ?_)
  refine wpAny_bind (wpAny_mkBytes ?_ hz)
  first
    | exact wpAny_pure ⟨PySem.W.typeIs_bytes _ _ _, h⟩
    | (show wpAny _ _ (if (Value.type "bytes" == Value.type "bytes") = true then _ else _) _ _ _
       refine bm_if_true (by decide) ?_
       first
         | exact wpAny_pure ⟨PySem.W.typeIs_bytes _ _ _, h⟩
         | exact wpAny_bind (wpAny_pure (wpAny_pure ⟨PySem.W.typeIs_bytes _ _ _, h⟩)))
theorem call_plain {id : String} {b : Builtin} {args : List Value} {Q : Value → Shared → Prop} (hk : builtinKind id = none) (hp : plainId id = true) (hb : entryFor table id = some b) (ha : argsOk id ⟨args, []⟩)
    (z : wpAny (model prog w) A.in1 (b ⟨args, []⟩) (fun fin s' => ∃ v, fin = .done (.ret v) ∧ Q v s') E s) : wpAny (model prog w) A (call (.builtin id) args) Q E s := by
  refine wpAny_call (codeAny_call_builtin hp hb ?_)
  have z' := wpAny_mono (Q' := fun fin s' => match fin with | .done f => (fun (r : Result) (s' : Shared) => match r with | .ok (.ret v) => Q v s' | .ok _ => False | .error e => E e s') (.ok f) s' | .again c' => c'.quiet = true ∧ codeAny (model prog w) A c' (fun r s' => match r with | .ok (.ret v) => Q v s' | .ok _ => False | .error e => E e s') s') z (fun fin s' ⟨v, e, q⟩ => by subst e; exact q) fun _ _ x => x
  simp only [checkBuiltinCall, hk]
  cases hsig : Manifest.signature? id with
  | none => exact wpAny_pure z'
  | some sig =>
    simp only [argsOk, hsig] at ha
    have h2 : Bind.checkArgs id sig ⟨args, []⟩ = pure () := ha
    show wpAny _ A.in1 (Bind.checkArgs id sig ⟨args, []⟩) _ _ s
    rw [h2]; exact wpAny_pure z'
set_option maxHeartbeats 2000000 in
theorem unpack_H {b : Array UInt8} {t u : Tok} {Q : Value → Shared → Prop} (hb : b.size = 2)
    (h : ∀ n : Nat, n = natOf true b → Q (.ref s.heap.objs.size) { s with heap := s.heap.push { cls := .type "tuple", data := .seq #[.int n s.toks] }, toks := s.toks + 1 }) :
    wpAny (model prog w) A (call (.builtin "_struct.unpack") [.str (Str.ofString ">H") t, .bytes b u]) Q E s := by
  refine call_plain F.kind_unpack F.plain_unpack F.entry_unpack (F.args_unpack _ _) ?_
  have hm := mf_H t
  unfold Builtin.«_struct.unpack» unpackExact bytesLike
  refine wpAny_bind (wpAny_pure ?_)
  refine wpAny_bind (wpAny_pure ?_)
  refine wpAny_bind (wpAny_of_eq hm ?_)
  refine wpAny_bind (wpAny_bind (by_buf (wpAny_pure ?_)))
  refine wpAny_bind (wpAny_pure ?_)
  refine bm_if_false (by rw [hb]; rfl) ?_
  have e : b.extract (0 + 0 + 0 * 2) (0 + 0 + (0 + 1) * 2) = b := by
    show b.extract 0 2 = b
    rw [← hb]; exact Array.extract_size
  refine wpAny_bind ?_
  unfold Struct.unpacked
  simp only [Std.Legacy.Range.forIn_eq_forIn_range', fmtH]
  obtain ⟨hp, g, d, tk, os⟩ := s
  wp_walk
  refine ⟨_, rfl, ?_⟩
  have hl : ('H' : Char).isLower = false := by decide
  simp only [hl, Bool.false_and, Bool.false_eq_true, if_false]
  rw [e]
  exact h _ rfl
set_option maxHeartbeats 2000000 in
theorem unpack_L {b : Array UInt8} {t u : Tok} {Q : Value → Shared → Prop} (hb : b.size = 4)
    (h : ∀ n : Nat, n = natOf true b → Q (.ref s.heap.objs.size) { s with heap := s.heap.push { cls := .type "tuple", data := .seq #[.int n s.toks] }, toks := s.toks + 1 }) :
    wpAny (model prog w) A (call (.builtin "_struct.unpack") [.str (Str.ofString ">L") t, .bytes b u]) Q E s := by
  refine call_plain F.kind_unpack F.plain_unpack F.entry_unpack (F.args_unpack _ _) ?_
  have hm := mf_L t
  unfold Builtin.«_struct.unpack» unpackExact bytesLike
  refine wpAny_bind (wpAny_pure ?_)
  refine wpAny_bind (wpAny_pure ?_)
  refine wpAny_bind (wpAny_of_eq hm ?_)
  refine wpAny_bind (wpAny_bind (by_buf (wpAny_pure ?_)))
  refine wpAny_bind (wpAny_pure ?_)
  refine bm_if_false (by rw [hb]; rfl) ?_
  have e : b.extract (0 + 0 + 0 * 4) (0 + 0 + (0 + 1) * 4) = b := by
    show b.extract 0 4 = b
    rw [← hb]; exact Array.extract_size
  refine wpAny_bind ?_
  unfold Struct.unpacked
  simp only [Std.Legacy.Range.forIn_eq_forIn_range', fmtL]
  obtain ⟨hp, g, d, tk, os⟩ := s
  wp_walk
  refine ⟨_, rfl, ?_⟩
  have hl : ('L' : Char).isLower = false := by decide
  simp only [hl, Bool.false_and, Bool.false_eq_true, if_false]
  rw [e]
  exact h _ rfl
end
theorem natOf_2 (x y : UInt8) : natOf true #[x, y] = x.toNat * 256 + y.toNat := by
  unfold natOf Memoryview.littleEndian
  simp
theorem natOf_4 (x y z v : UInt8) : natOf true #[x, y, z, v] = ((x.toNat * 256 + y.toNat) * 256 + z.toNat) * 256 + v.toNat := by
  unfold natOf Memoryview.littleEndian
  simp
end Mine

-- B7
namespace Mine
open PySem PySem.W PySem.Calls PyProof.Rows PySem.Builtin PySem.Builtin.Bytes
open PySem.Sem (wp)
section
variable {prog : Program} {w : World} {A : Around} {E : Value → Shared → Prop} {s : Shared}
theorem newExc_of {h h1 h' : Heap} {e : Addr} {c : String} (k : ∀ b o, h.get? b = some o → h1.get? b = some o) (x : Heap.NewExc h1 h' e c) : Heap.NewExc h h' e c :=
  ⟨fun b o q => x.keeps b o (k b o q), (by
    cases q : h.get? e with
    | none => rfl
    | some o => have := k e o q; rw [x.new] at this; cases this), x.there⟩
theorem bad_loop {R : Result → Shared → Prop} {l I S : Addr} {vs : List Value} {ns : List Int} {p : Nat} {bad : Int} (hh : A.handled = none) (hi : IntsAre vs ns) (hr : ∀ j n, j < p → ns[j]? = some n → 0 ≤ n ∧ n < 256) (hb : ns[p]? = some bad) (hbad : bad < 0 ∨ 256 ≤ bad) (hz : ns.length ≤ sizeLine) (hIS : I ≠ S) (hlI : l ≠ I) (hlS : l ≠ S) :
    ∀ (k i : Nat) (s : Shared), p - i = k → i ≤ p → s.heap.IsList l vs.toArray → s.heap.IsListIter I l i → s.heap.get? S = some { cls := .type "bytearray", data := .bytearray (byteArr (ns.take i)) } →
      (∀ h' tk e h1, (∀ b o, b ≠ I → b ≠ S → s.heap.get? b = some o → h1.get? b = some o) → h1.objs.size = s.heap.objs.size → Heap.NewExc h1 h' e "ValueError" → R (.error (.ref e)) { s with heap := h', toks := tk }) →
      codeAny (model prog w) A (.builtin "bytes.__new__.loop" ⟨[.type "bytes", .ref I, .ref S], []⟩) R s := by
  have hlen : vs.length = ns.length := hi.length
  have hpl : p < ns.length := (List.getElem?_eq_some_iff.mp hb).1
  intro k
  induction k with
  | zero =>
    intro i s hk hle hl hit hS hR
    have hin : i = p := by omega
    subst hin
    obtain ⟨x, hx⟩ : ∃ x, vs[i]? = some x := ⟨vs[i]'(by omega), List.getElem?_eq_getElem (by omega)⟩
    obtain ⟨n, t, rfl, hn⟩ := IntsAre.at hi i x hx
    obtain rfl : n = bad := Option.some.inj (hn.symm.trans hb)
    refine codeAny_builtin PySem.F.bm_entry_loop ?_
    rw [Around.under_plainId PySem.F.bm_plain_loop _]
    show wpAny _ A.in1 (pyNext (.ref I) >>= _) _ _ s
    refine wpAny_bind (wpAny_pyNext_list_item (x := .int n t) hit hl (by simpa using hx) fun h' hit' hs => ?_)
    refine wpAny_bind (wpAny_holding (wpAny_of_eq (rfl : asIndex (.int n t) = pure n) ?_))
    refine wpAny_bind (wpAny_letGo ?_)
    refine bm_if_true (by rcases hbad with h | h <;> simp [h]) ?_
    refine wpAny_bind (wpAny_rule ?_)
    refine wpAny_bind (wpAny_raiseErrorWords plainExc_ValueError hh fun h2 tk e hx => ?_)
    exact hR h2 tk e h' (fun b o hbI _ q => (hs.2 b hbI).trans q) hs.1 hx
  | succ k ih =>
    intro i s hk hle hl hit hS hR
    have hlt : i < ns.length := by omega
    obtain ⟨x, hx⟩ : ∃ x, vs[i]? = some x := ⟨vs[i]'(by omega), List.getElem?_eq_getElem (by omega)⟩
    obtain ⟨n, t, rfl, hn⟩ := IntsAre.at hi i x hx
    obtain ⟨h0, h1⟩ := hr i n (by omega) hn
    refine codeAny_builtin PySem.F.bm_entry_loop ?_
    rw [Around.under_plainId PySem.F.bm_plain_loop _]
    show wpAny _ A.in1 (pyNext (.ref I) >>= _) _ _ s
    refine wpAny_bind (wpAny_pyNext_list_item (x := .int n t) hit hl (by simpa using hx) fun h' hit' hs => ?_)
    have hS' : h'.get? S = some (baObj (byteArr (ns.take i))) := (hs.2 S (Ne.symm hIS)).trans hS
    refine wpAny_bind (wpAny_holding (wpAny_of_eq (rfl : asIndex (.int n t) = pure n) ?_))
    refine wpAny_bind (wpAny_letGo ?_)
    refine bm_if_false (by simp only [Bool.or_eq_false_iff, decide_eq_false_iff_not]; omega) ?_
    have hS₂ : (h'.update S (Obj.mapBytearray (·.push n.toNat.toUInt8))).get? S = some (baObj (byteArr (ns.take (i + 1)))) := by
      rw [byteArr_take hn]
      exact ba_upd _ hS'
    refine wpAny_bind (ba_write hS' (by
      have := byteArr_size (ns.take (i + 1))
      rw [byteArr_take hn] at this
      rw [this, List.length_take]; omega) ?_)
    refine wpAny_pure ⟨plainId_quiet PySem.F.bm_plain_loop _, ih (i + 1) { s with heap := h'.update S (Obj.mapBytearray (·.push n.toNat.toUInt8)) } (by omega) (by omega) ?_ ?_ hS₂ fun h3 tk e h4 hk3 hz3 hx3 => ?_⟩
    · exact (hl.extBut hs.extBut hlI).extBut (Heap.SameBut.update ..).extBut hlS
    · exact hit'.extBut (Heap.SameBut.update ..).extBut hIS
    · refine hR h3 tk e h4 (fun b o hbI hbS q => hk3 b o hbI hbS ((Heap.get?_update_other _ _ (Ne.symm hbS)).trans (hs.extBut b o hbI q))) (hz3.trans ((Heap.SameBut.update ..).1.trans hs.1)) hx3
theorem call_bytes_bad {l : Addr} {vs : List Value} {ns : List Int} {p : Nat} {bad : Int} {Q : Value → Shared → Prop} (hl : s.heap.IsList l vs.toArray) (hi : IntsAre vs ns) (hr : ∀ j n, j < p → ns[j]? = some n → 0 ≤ n ∧ n < 256) (hb : ns[p]? = some bad) (hbad : bad < 0 ∨ 256 ≤ bad) (hz : ns.length ≤ sizeLine) (hh : A.handled = none)
    (hE : ∀ h' tk e, Heap.NewExc s.heap h' e "ValueError" → E (.ref e) { s with heap := h', toks := tk }) : wpAny (model prog w) A (call (.type "bytes") [.ref l]) Q E s := by
  refine callType_codes (Q₁ := fun _ _ => False) PySem.F.bm_called (PySem.F.bm_typeCall _) PySem.F.entry_object_init ?_ fun _ _ h₁ => h₁.elim
  refine codeAny_of_tree ?_
  show wpAny _ _ (do checkBuiltinCall "bytes.__new__" ⟨[.type "bytes", .ref l], []⟩; again (.builtin "bytes.__new__" ⟨[.type "bytes", .ref l], []⟩)) _ _ s
  refine wpAny_bind (wpAny_of_eq (PySem.F.bm_newCall _) (wpAny_pure ⟨plainId_quiet PySem.F.bm_plain _, codeAny_builtin PySem.F.bm_entry ?_⟩))
  rw [Around.under_plainId PySem.F.bm_plain _]
  have hT : s.TypeIs (.ref l) "list" := hl.typeIs
  obtain ⟨ol, hol, hoc, nl, hod⟩ := id hl
  unfold Builtin.«bytes.__new__»
  refine wpAny_bind (wpAny_of_eq (a := true) rfl ?_)
  refine bm_if_false rfl ?_
  refine wpAny_bind (wpAny_of_eq PySem.F.bm_sub ?_)
  refine bm_if_false rfl ?_
  refine wpAny_bind (wpAny_of_eq (PySem.F.bm_bind _) ?_)
  refine wpAny_bind (wpAny_of_eq (a := ()) rfl ?_)
  refine wpAny_bind (wpAny_of_eq (a := ()) rfl ?_)
  refine bm_if_false rfl ?_
  refine wpAny_bind (wpAny_specialOf hT PySem.F.bm_no_bytes ?_)
  refine wpAny_bind (wpAny_bind ?_)
  show wpAny _ _ (load l >>= _) _ _ _
  refine wpAny_bind (wpAny_load hol ?_)
  rw [hod]
  refine wpAny_pure (wpAny_pure ?_)
  refine bm_if_false rfl ?_
  refine wpAny_bind (wpAny_specialOf hT PySem.F.bm_no_index ?_)
  refine bm_if_true rfl ?_
  first
    | show wpAny _ _ (buffer? "bytes.__new__" (.ref l) true >>= _) _ _ _
    | (refine wpAny_bind ?_; show wpAny _ _ (buffer? "bytes.__new__" (.ref l) true >>= _) _ _ _)
  refine wpAny_bind ?_
  unfold buffer?
  refine wpAny_bind (wpAny_specialOf hT PySem.F.bm_no_buffer ?_)
  refine wpAny_bind (wpAny_specialOf hT PySem.F.bm_no_buffer ?_)
  refine wpAny_pure ?_
  refine wpAny_bind (wpAny_tryCatch (wpAny_pyIter_list hl ?_))
  have hl₁ : (s.heap.push { cls := .type "list_iterator", data := .fields #[.ref l, .int 0 0] }).IsList l vs.toArray := hl.push _
  have hT₁ : ({ s with heap := s.heap.push { cls := .type "list_iterator", data := .fields #[.ref l, .int 0 0] } } : Shared).TypeIs (.ref l) "list" := Heap.IsList.typeIs (s := { s with heap := s.heap.push { cls := .type "list_iterator", data := .fields #[.ref l, .int 0 0] } }) hl₁
  refine wpAny_bind (wpAny_holding ?_)
  unfold lengthHint
  refine wpAny_bind (wpAny_specialOf hT₁ slot_list_len.lookup ?_)
  dsimp only
  rw [PySem.F.bm_split]
  dsimp only
  refine wpAny_bind (wpAny_isInstance hT₁ PySem.F.bm_sub_list ?_)
  refine bm_if_false rfl ?_
  refine bm_if_true (by decide +kernel) ?_
  refine wpAny_pure ?_
  refine wpAny_bind ?_
  unfold newBytearray
  refine wpAny_newObj_type ?_ (Nat.zero_le _)
  have hI : ((s.heap.push { cls := .type "list_iterator", data := .fields #[.ref l, .int 0 0] }).push (baObj #[])).IsListIter s.heap.objs.size l 0 :=
    ⟨_, Heap.get?_push_of_some _ (Heap.get?_push_size _ rfl), rfl, rfl⟩
  have hlt : l < s.heap.objs.size := Heap.lt_size hol
  have hsz : (s.heap.push { cls := .type "list_iterator", data := .fields #[.ref l, .int 0 0] }).objs.size = s.heap.objs.size + 1 := Heap.size_push _ _
  have main := bad_loop (prog := prog) (w := w) (A := A.in1) (R := wants (fun _ _ => False) E) (l := l) (I := s.heap.objs.size) (S := (s.heap.push { cls := .type "list_iterator", data := .fields #[.ref l, .int 0 0] }).objs.size) hh hi hr hb hbad hz (by rw [hsz]; exact Nat.ne_of_lt (Nat.lt_succ_self _)) (Nat.ne_of_lt hlt) (by rw [hsz]; exact Nat.ne_of_lt (Nat.lt_succ_of_lt hlt))
    p 0 { s with heap := (s.heap.push { cls := .type "list_iterator", data := .fields #[.ref l, .int 0 0] }).push (baObj #[]) } rfl (Nat.zero_le _) (hl₁.push _) hI (Heap.get?_push_size _ rfl)
    fun h' tk e h1 hk hz1 hx => hE h' tk e (newExc_of (fun b o q => hk b o (Nat.ne_of_lt (Heap.lt_size q)) (by rw [hsz]; exact Nat.ne_of_lt (Nat.lt_succ_of_lt (Heap.lt_size q))) (Heap.get?_push_of_some _ (Heap.get?_push_of_some _ q))) hx)
  first
    | exact wpAny_pure ⟨plainId_quiet PySem.F.bm_plain_loop _, main⟩
    | exact wpAny_pure (wpAny_pure ⟨plainId_quiet PySem.F.bm_plain_loop _, main⟩)
end
end Mine

-- B8
namespace Mine
open PySem PySem.W PySem.Calls PyProof.Rows PySem.Builtin PySem.Builtin.Bytes
open PySem.Sem (wp)
abbrev sqObj (T : String) (vs : List Value) (n : Nat) : Obj := { cls := .type T, data := .seq vs.toArray n }
section
variable {prog : Program} {w : World} {A : Around} {E : Value → Shared → Prop} {s : Shared} {h₀ : Heap} {L a : Addr} {m : Str → Option Value} {news news' : List (Addr × Obj)} {b more : Array UInt8}
theorem iaddBy_K {v : Value} {Q : Value → Shared → Prop} (hg : A.guards = some []) (F : Fr h₀ L s.heap m) (N : News h₀ L s.heap news) (U : Upd a (baObj b) (baObj (b ++ more)) news news') (hv : (∃ t, v = .bytes more t) ∨ (∃ c, v = .ref c ∧ c ≠ a ∧ (c, baObj more) ∈ news)) (hz : b.size + more.size ≤ sizeLine)
    (h : ∀ h', Fr h₀ L h' m → News h₀ L h' news' → Q (.ref a) { s with heap := h' }) : wpG (model prog w) A (inplaceOp .Add (.ref a) v) Q E s := by
  obtain ⟨pre, post, rfl, rfl, h1, h2⟩ := U.split
  have hd := (N (a, baObj b) (by simp)).1
  refine ba_iadd hg hd (hv.imp id fun ⟨c, e, hc, hm⟩ => ⟨c, e, hc, (N _ hm).1⟩) hz ?_
  have Z := news_upd (f := Obj.mapBytearray (· ++ more)) F N h1 h2 (o' := baObj (b ++ more)) rfl rfl
  exact h _ Z.1 Z.2
theorem del0_K {u : Tok} {c : UInt8} {l : List UInt8} {Q : Unit → Shared → Prop} (hg : A.guards = some []) (F : Fr h₀ L s.heap m) (N : News h₀ L s.heap news) (U : Upd a (baObj (c :: l).toArray) (baObj l.toArray) news news') (hz : l.length + 1 ≤ sizeLine)
    (h : ∀ h', Fr h₀ L h' m → News h₀ L h' news' → Q () { s with heap := h' }) : wpG (model prog w) A (delItem (.ref a) (.int 0 u)) Q E s := by
  obtain ⟨pre, post, rfl, rfl, h1, h2⟩ := U.split
  have hd := (N (a, baObj (c :: l).toArray) (by simp)).1
  refine ba_del0 (k := 0) hg hd (by unfold seqIndex?; simp) (by decide) (by simpa using hz) ?_
  have Z := news_upd (f := Obj.mapBytearray (·.eraseIdxIfInBounds 0)) F N h1 h2 (o' := baObj l.toArray) (by
    show baObj ((c :: l).toArray.eraseIdxIfInBounds 0) = _
    congr 2
    unfold Array.eraseIdxIfInBounds
    rw [dif_pos (by simp)]
    simp) rfl
  exact h _ Z.1 Z.2
theorem delTo_K {sl : Addr} {k : Int} {u : Tok} {Q : Unit → Shared → Prop} (hg : A.guards = some []) (F : Fr h₀ L s.heap m) (N : News h₀ L s.heap news) (U : Upd a (baObj b) (baObj (b.toList.drop k.toNat).toArray) news news') (hs : (sl, slObj k u) ∈ news) (h0 : 0 ≤ k) (hz : b.size ≤ sizeLine)
    (h : ∀ h', Fr h₀ L h' m → News h₀ L h' news' → Q () { s with heap := h' }) : wpG (model prog w) A (delItem (.ref a) (.ref sl)) Q E s := by
  obtain ⟨pre, post, rfl, rfl, h1, h2⟩ := U.split
  have hd := (N (a, baObj b) (by simp)).1
  refine ba_delTo hg hd (N _ hs).1 h0 hz fun f hf => ?_
  have Z := news_upd (f := Obj.mapBytearray f) F N h1 h2 (o' := baObj (b.toList.drop k.toNat).toArray) (by show baObj (f b) = _; rw [hf]) rfl
  exact h _ Z.1 Z.2
theorem getTo_K {sl : Addr} {k : Int} {u : Tok} {Q : Value → Shared → Prop} (F : Fr h₀ L s.heap m) (N : News h₀ L s.heap news) (hb : (a, baObj b) ∈ news) (hs : (sl, slObj k u) ∈ news) (h0 : 0 ≤ k) (hz : b.size ≤ sizeLine)
    (h : ∀ d h', Fr h₀ L h' m → News h₀ L h' ((d, baObj (b.toList.take k.toNat).toArray) :: news) → (∀ p ∈ news, p.1 < d) → Q (.ref d) { s with heap := h' }) : wpAny (model prog w) A (getItem (.ref a) (.ref sl)) Q E s :=
  ba_getTo (N _ hb).1 (N _ hs).1 h0 hz (h _ _ (F.push _) (News.push F N _) fun p hp => Heap.lt_size (N p hp).1)
theorem get0_K {u : Tok} {c : UInt8} {l : List UInt8} {Q : Value → Shared → Prop} (N : News h₀ L s.heap news) (hb : (a, baObj (c :: l).toArray) ∈ news)
    (h : Q (.int c.toNat s.toks) { s with toks := s.toks + 1 }) : wpAny (model prog w) A (getItem (.ref a) (.int 0 u)) Q E s :=
  ba_get0 (k := 0) (N _ hb).1 (by unfold seqIndex?; simp) (by simp) (by decide) h
theorem len_K' {Q : Value → Shared → Prop} (N : News h₀ L s.heap news) (hb : (a, baObj b) ∈ news) (hz : b.size ≤ sizeLine)
    (h : ∀ tk tk', Q (.int b.size tk) { s with toks := tk' }) : wpAny (model prog w) A (call (.builtin "len") [.ref a]) Q E s := ba_len (N _ hb).1 hz h
theorem set0_K {v : Int} {u t : Tok} {c : UInt8} {l : List UInt8} {Q : Unit → Shared → Prop} (F : Fr h₀ L s.heap m) (N : News h₀ L s.heap news) (U : Upd a (baObj (c :: l).toArray) (baObj (v.toNat.toUInt8 :: l).toArray) news news') (hv0 : 0 ≤ v) (hv1 : v < 256) (hz : l.length + 1 ≤ sizeLine)
    (h : ∀ h', Fr h₀ L h' m → News h₀ L h' news' → Q () { s with heap := h' }) : wpAny (model prog w) A (setItem (.ref a) (.int 0 u) (.int v t)) Q E s := by
  obtain ⟨pre, post, rfl, rfl, h1, h2⟩ := U.split
  have hd := (N (a, baObj (c :: l).toArray) (by simp)).1
  refine ba_set (k := 0) hd (by unfold seqIndex?; simp) (by decide) hv0 hv1 (by simpa using hz) ?_
  have Z := news_upd (f := Obj.mapBytearray (·.setIfInBounds 0 v.toNat.toUInt8)) F N h1 h2 (o' := baObj (v.toNat.toUInt8 :: l).toArray) (by
    show baObj ((c :: l).toArray.setIfInBounds 0 v.toNat.toUInt8) = _
    congr 2) rfl
  exact h _ Z.1 Z.2
theorem bytesOf_K {Q : Value → Shared → Prop} (N : News h₀ L s.heap news) (hb : (a, baObj b) ∈ news) (hz : b.size ≤ sizeLine)
    (h : Q (.bytes b s.toks) { s with toks := s.toks + 1 }) : wpAny (model prog w) A (call (.type "bytes") [.ref a]) Q E s := call_bytes_ba (N _ hb).1 hz h
theorem newAt {o : Obj} {x : Addr} {h' : Heap} (F : Fr h₀ L s.heap m) (N : News h₀ L s.heap news) (hk : ∀ b o, s.heap.get? b = some o → h'.get? b = some o) (hx : s.heap.objs.size = x) (ho : h'.get? x = some o) : Fr h₀ L h' m ∧ News h₀ L h' ((x, o) :: news) ∧ ∀ p ∈ news, p.1 < x := by
  subst hx
  refine ⟨F.keeps hk, fun p hp => ?_, fun p hp => Heap.lt_size (N p hp).1⟩
  rcases List.mem_cons.mp hp with rfl | hp
  · obtain ⟨oL, _, _, hL, _⟩ := F.ns
    refine ⟨ho, Nat.ne_of_gt (Heap.lt_size hL), ?_⟩
    cases q : h₀.get? s.heap.objs.size with
    | none => rfl
    | some o' => exact absurd (Heap.lt_size (F.keep _ _ q)) (Nat.lt_irrefl _)
  · exact ⟨hk _ _ (N p hp).1, (N p hp).2⟩
theorem listOf_K {Q : Value → Shared → Prop} (hh : A.handled = none) (F : Fr h₀ L s.heap m) (N : News h₀ L s.heap news) (hb : (a, baObj b) ∈ news) (hz : b.size ≤ sizeLine)
    (h : ∀ d h' tk vs c, Fr h₀ L h' m → News h₀ L h' ((d, sqObj "list" vs c) :: news) → (∀ p ∈ news, p.1 < d) → IntsAre vs (b.toList.map fun c => ((c.toNat : Nat) : Int)) → Q (.ref d) { s with heap := h', toks := tk }) : wpAny (model prog w) A (call (.type "list") [.ref a]) Q E s :=
  call_list_ba hh (N _ hb).1 hz fun h' tk vs c hk ho hi => by
    have Z := newAt (o := sqObj "list" vs.toList c) F N hk rfl (by rw [ho])
    exact h _ h' tk vs.toList c Z.1 Z.2.1 Z.2.2 hi
theorem ba_K {rest : List Value} {Q : Value → Shared → Prop} (hg : A.guards = some []) (F : Fr h₀ L s.heap m) (N : News h₀ L s.heap news) (hl : rest.length ≤ 1)
    (hs : (rest = [] ∧ b = #[]) ∨ (∃ t, rest = [.bytes b t]) ∨ (∃ c, rest = [.ref c] ∧ (c, baObj b) ∈ news) ∨ (∃ l vs ns n, rest = [.ref l] ∧ (l, sqObj "list" vs n) ∈ news ∧ IntsAre vs ns ∧ (∀ n ∈ ns, 0 ≤ n ∧ n < 256) ∧ b = byteArr ns)) (hz : b.size ≤ sizeLine)
    (h : ∀ d h', Fr h₀ L h' m → News h₀ L h' ((d, baObj b) :: news) → (∀ p ∈ news, p.1 < d) → Q (.ref d) { s with heap := h' }) : wpG (model prog w) A (call (.type "bytearray") rest) Q E s := by
  refine call_ba hg hl ?_ hz fun h' hk ho hsz => ?_
  · rcases hs with x | x | ⟨c, e, hm⟩ | ⟨l, vs, ns, n, e, hm, hi, hr, hb⟩
    · exact .inl x
    · exact .inr (.inl x)
    · exact .inr (.inr (.inl ⟨c, e, Nat.ne_of_lt (Heap.lt_size (N _ hm).1), (N _ hm).1⟩))
    · exact .inr (.inr (.inr ⟨l, vs, ns, e, Nat.ne_of_lt (Heap.lt_size (N _ hm).1), ⟨_, (N _ hm).1, rfl, n, rfl⟩, hi, hr, hb⟩))
  · have Z := newAt F N hk rfl ho
    exact h _ h' Z.1 Z.2.1 Z.2.2
end
end Mine

-- B9
namespace Mine
open PySem PySem.W PySem.Calls PyProof.Rows PySem.Builtin PySem.Builtin.Bytes
open PySem.Sem (wp)
section
variable {prog : Program} {w : World} {A : Around} {E : Value → Shared → Prop} {s : Shared} {h₀ : Heap} {L a : Addr} {m : Str → Option Value} {news news' : List (Addr × Obj)} {b more : Array UInt8}
theorem News.perm1 {h : Heap} (N : News h₀ L h news) (hs : ∀ q ∈ news', q ∈ news) : News h₀ L h news' := fun q hq => N q (hs q hq)
theorem tail0_K {value slice : Expr} {u : Tok} {c : UInt8} {l : List UInt8} {Q : Value → Shared → Prop} (N : News h₀ L s.heap news) (hb : (a, baObj (c :: l).toArray) ∈ news)
    (h : Q (.int c.toNat s.toks) { s with toks := s.toks + 1 })
    (hs : subscripted slice false (.ref a) (.int 0 u) = operate [.ref a, .int 0 u] (getItem (.ref a) (.int 0 u)) := by with_unfolding_all rfl) :
    wpAny (model prog w) A (subscriptTail value slice (.ref a) (.int 0 u)) Q E s :=
  tail_any (baT (N _ hb).1) Mine.F.ba_slot_get.lookup (get0_K N hb h) hs
theorem tailTo_K {value slice : Expr} {k : Int} {u : Tok} {ops : List Value} {Q : Value → Shared → Prop} (F : Fr h₀ L s.heap m) (N : News h₀ L s.heap news) (hb : (a, baObj b) ∈ news) (h0 : 0 ≤ k) (hz : b.size ≤ sizeLine)
    (h : ∀ d h', Fr h₀ L h' m → News h₀ L h' ((d, baObj (b.toList.take k.toNat).toArray) :: news) → (∀ p ∈ news, p.1 < d) → Q (.ref d) { s with heap := h' })
    (hs : subscripted slice false (.ref a) (.ref s.heap.objs.size) = operate ops (getItem (.ref a) (.ref s.heap.objs.size))) :
    wpAny (model prog w) A (subscriptTail value slice (.ref a) (.ref s.heap.objs.size)) Q E { s with heap := s.heap.push (slObj k u) } := by
  have N1 := News.push F N (slObj k u)
  have F1 := F.push (slObj k u)
  have hT : Shared.TypeIs { s with heap := s.heap.push (slObj k u) } (.ref a) "bytearray" := baT (s := { s with heap := s.heap.push (slObj k u) }) (N1 _ (.tail _ hb)).1
  refine tail_any hT Mine.F.ba_slot_get.lookup (getTo_K (s := { s with heap := s.heap.push (slObj k u) }) F1 N1 (.tail _ hb) (.head _) h0 hz fun d h' F' N' l => ?_) hs
  exact h d h' F' (News.perm1 N' fun q hq => by
    rcases List.mem_cons.mp hq with rfl | hq
    · exact .head _
    · exact .tail _ (.tail _ hq)) fun p hp => l p (.tail _ hp)
theorem delTo_P {k : Int} {u : Tok} {Q : Unit → Shared → Prop} (hg : A.guards = some []) (F : Fr h₀ L s.heap m) (N : News h₀ L s.heap news) (U : Upd a (baObj b) (baObj (b.toList.drop k.toNat).toArray) news news') (h0 : 0 ≤ k) (hz : b.size ≤ sizeLine)
    (h : ∀ h', Fr h₀ L h' m → News h₀ L h' news' → Q () { s with heap := h' }) : wpG (model prog w) A (delItem (.ref a) (.ref s.heap.objs.size)) Q E { s with heap := s.heap.push (slObj k u) } := by
  have N1 := News.push F N (slObj k u)
  have F1 := F.push (slObj k u)
  have ha : s.heap.objs.size ≠ a := by
    obtain ⟨pre, post, rfl, _, _, _⟩ := U.split
    exact Nat.ne_of_gt (Heap.lt_size (N (a, baObj b) (by simp)).1)
  exact delTo_K (s := { s with heap := s.heap.push (slObj k u) }) hg F1 N1 (.tail ha U) (.head _) h0 hz fun h' F' N' => h h' F' (News.perm1 N' fun q hq => .tail _ hq)
end
end Mine

-- B10
namespace Mine
open PySem PySem.W PySem.Calls PyProof.Rows PySem.Builtin PySem.Builtin.Bytes
open PySem.Sem (wp)
section
variable {prog : Program} {w : World} {A : Around} {E : Value → Shared → Prop} {s : Shared} {h₀ : Heap} {L a : Addr} {m : Str → Option Value} {news news' : List (Addr × Obj)} {b more : Array UInt8}
theorem unpackH_K {t u : Tok} {Q : Value → Shared → Prop} (F : Fr h₀ L s.heap m) (N : News h₀ L s.heap news) (hb : b.size = 2)
    (h : ∀ d h' n tk, n = Struct.natOf true b → Fr h₀ L h' m → News h₀ L h' ((d, sqObj "tuple" [.int ((n : Nat) : Int) s.toks] 0) :: news) → (∀ p ∈ news, p.1 < d) → Q (.ref d) { s with heap := h', toks := tk }) :
    wpAny (model prog w) A (call (.builtin "_struct.unpack") [.str (Str.ofString ">H") t, .bytes b u]) Q E s :=
  unpack_H hb fun n hn => h _ _ n _ hn (F.push _) (News.push F N _) fun p hp => Heap.lt_size (N p hp).1
theorem unpackL_K {t u : Tok} {Q : Value → Shared → Prop} (F : Fr h₀ L s.heap m) (N : News h₀ L s.heap news) (hb : b.size = 4)
    (h : ∀ d h' n tk, n = Struct.natOf true b → Fr h₀ L h' m → News h₀ L h' ((d, sqObj "tuple" [.int ((n : Nat) : Int) s.toks] 0) :: news) → (∀ p ∈ news, p.1 < d) → Q (.ref d) { s with heap := h', toks := tk }) :
    wpAny (model prog w) A (call (.builtin "_struct.unpack") [.str (Str.ofString ">L") t, .bytes b u]) Q E s :=
  unpack_L hb fun n hn => h _ _ n _ hn (F.push _) (News.push F N _) fun p hp => Heap.lt_size (N p hp).1
end
end Mine

-- B11
namespace Mine
open PySem PySem.W PySem.Calls PyProof.Rows PySem.Builtin PySem.Builtin.Bytes
open PySem.Sem (wp)
namespace F
theorem ba_ga : Slot "bytearray" "__getattribute__" "bytearray.__getattribute__" :=
  .of (owner := "bytearray") (n := "__getattribute__") (by rw [typeLookup_type, builtinLookup_eq_fast]; kernel_rfl) (by decide +kernel) (by decide +kernel) (by decide +kernel)
    (by first | exact .inl (by decide +kernel) | exact .inr (by decide +kernel)) (by rw [isSubtype_type]; kernel_rfl)
theorem ba_args_ga (a b : Value) : argsOk "bytearray.__getattribute__" ⟨[a, b], []⟩ := by unfold argsOk; kernel_rfl
theorem ba_entry_ga : entryFor table "bytearray.__getattribute__" = some Builtin.«object.__getattribute__» :=
  entryFor_alias (id' := "object.__getattribute__") (by kernel_rfl) (by first | rfl | decide +kernel) (by decide +kernel) (by kernel_rfl)
theorem ba_lk_class : typeLookup (.type "bytearray") "__class__" = pure (some (.builtin "object.__class__")) := by rw [typeLookup_type, builtinLookup_eq_fast]; kernel_rfl
theorem ba_sub_owner : isSubtype (.type "bytearray") (.type (".".intercalate ("object.__class__".cutAt '.').dropLast)) = pure true := by
  rw [PySem.F.owner_object_class, isSubtype_type]; kernel_rfl
theorem ba_not_bytes : isSubtype (.type "bytearray") (.type "bytes") = pure false := by rw [isSubtype_type]; kernel_rfl
theorem ba_not_list : isSubtype (.type "bytearray") (.type "list") = pure false := by rw [isSubtype_type]; kernel_rfl
theorem ty_bytes : typeOf (.type "bytes") = pure (.type "type") := by first | rfl | kernel_rfl
theorem ty_ba : typeOf (.type "bytearray") = pure (.type "type") := by first | rfl | kernel_rfl
end F
section
variable {prog : Program} {w : World} {A : Around} {E : Value → Shared → Prop} {h : Heap} {g : Array GenState} {d : Drawn} {t : Nat} {os : OsState} {a : Addr} {o : Obj}
theorem baC_get {R : Result → Shared → Prop} (hx : h.get? a = some o) (hc : o.cls = .type "bytearray") (hq : R (.ok (.ret (.type "bytearray"))) ⟨h, g, d, t, os⟩) :
    codeAny (model prog w) A (.call (.builtin "getset_descriptor.__get__") ⟨[.builtin "object.__class__", .ref a, .type "bytearray"], []⟩) R ⟨h, g, d, t, os⟩ := by
  have hT : (⟨h, g, d, t, os⟩ : Shared).TypeIs (.ref a) "bytearray" := ⟨_, hx, hc⟩
  have hT5 : (⟨h, g, d, t, os⟩ : Shared).TypeIs (.builtin "object.__class__") "getset_descriptor" := PySem.F.typeOf_object_class
  have f8 := F.ba_sub_owner
  refine codeAny_call_builtin PySem.F.slot_gs_get.plain PySem.F.entry_gs_get (PySem.F.slot_gs_get.check _ _ _ _ _ _ _ _ hT5 (PySem.F.args_gs_get _ _ _) ?_)
  repeat (any_goals (first | assumption | wp_step))
  refine ⟨Code.quiet_builtin _ (by decide +kernel), codeAny_builtin PySem.F.entry_object_class ?_⟩
  repeat (any_goals (first | assumption | wp_step))
theorem baC_call {tk : Tok} {R : Result → Shared → Prop} (hx : h.get? a = some o) (hc : o.cls = .type "bytearray") (hq : R (.ok (.ret (.type "bytearray"))) ⟨h, g, d, t, os⟩) :
    codeAny (model prog w) A (.call (.builtin "bytearray.__getattribute__") ⟨[.ref a, .str "__class__" tk], []⟩) R ⟨h, g, d, t, os⟩ := by
  have hT : (⟨h, g, d, t, os⟩ : Shared).TypeIs (.ref a) "bytearray" := ⟨_, hx, hc⟩
  refine codeAny_call_builtin F.ba_ga.plain F.ba_entry_ga (F.ba_ga.check _ _ _ _ _ _ _ _ hT (F.ba_args_ga _ _) ?_)
  have hT5 : (⟨h, g, d, t, os⟩ : Shared).TypeIs (.builtin "object.__class__") "getset_descriptor" := PySem.F.typeOf_object_class
  have f4 := F.ba_lk_class
  have f5 := PySem.F.typeOf_object_class
  have f6 := PySem.F.slot_gs_get.lookup
  have f7 := PySem.F.slot_gs_set.lookup
  repeat (any_goals (first | assumption | wp_step))
  refine baC_get hx hc ?_
  repeat (any_goals (first | assumption | wp_step))
theorem baC_by {tk : Tok} {Q : Value → Shared → Prop} (hx : h.get? a = some o) (hc : o.cls = .type "bytearray") (hq : Q (.type "bytearray") ⟨h, g, d, t, os⟩) : wpAny (model prog w) A (getAttrBy (.ref a) (.str "__class__" tk) false) Q E ⟨h, g, d, t, os⟩ := by
  have hT : (⟨h, g, d, t, os⟩ : Shared).TypeIs (.ref a) "bytearray" := ⟨_, hx, hc⟩
  have f2 := F.ba_ga.lookup
  have f3 := F.ba_ga.bind (.ref a)
  repeat (any_goals (first | assumption | wp_step))
  refine baC_call hx hc ?_
  repeat (any_goals (first | assumption | wp_step))
theorem baC_attr {Q : Option Value → Shared → Prop} (hx : h.get? a = some o) (hc : o.cls = .type "bytearray") (hq : Q (some (.type "bytearray")) ⟨h, g, d, t + 1, os⟩) : wpAny (model prog w) A (getAttr? (.ref a) "__class__") Q E ⟨h, g, d, t, os⟩ := by
  unfold getAttr? getAttrBy?
  repeat (any_goals (first | assumption | with_reducible apply baC_by hx hc | wp_step))
theorem baC_false {T : String} {dep : Int} {tk : Tok} {Q : Fin → Shared → Prop} (hx : h.get? a = some o) (hc : o.cls = .type "bytearray") (hne : (Value.type "bytearray" == Value.type T) = false) (hty : typeOf (.type T) = pure (.type "type"))
    (hsub : isSubtype (.type "bytearray") (.type T) = pure false) (hq : Q (.done (.ret (.bool false))) ⟨h, g, d, t + 1, os⟩) :
    wpAny (model prog w) A (Builtin.«isinstance.nested» ⟨[.ref a, .type T, .int dep tk], []⟩) Q E ⟨h, g, d, t, os⟩ := by
  have hT : (⟨h, g, d, t, os⟩ : Shared).TypeIs (.ref a) "bytearray" := ⟨_, hx, hc⟩
  repeat (any_goals (first | assumption | with_reducible apply baC_attr hx hc | wp_step))
end
section
variable {prog : Program} {w : World} {A : Around} {E : Value → Shared → Prop} {s : Shared} {h₀ : Heap} {L a : Addr} {m : Str → Option Value} {news news' : List (Addr × Obj)} {b more : Array UInt8}
theorem isiBa_t {Q : Value → Shared → Prop} (N : News h₀ L s.heap news) (ha : (a, baObj b) ∈ news) (h : Q (.bool true) s) : wpAny (model prog w) A (call (.builtin "isinstance") [.ref a, .type "bytearray"]) Q E s :=
  call_isinstance (S := fun _ R s' => s' = s ∧ R (.ok (.ret (.bool true))) s') (fun _ _ _ _ s' hs => isinstance_outer (isinstance_nested_true rfl (by rw [hs.1]; exact baT (N _ ha).1) F.ty_ba F.ba_sub hs.2) (by intro e; cases e)) ⟨rfl, h⟩
theorem isiBa_f {T : String} {Q : Value → Shared → Prop} (N : News h₀ L s.heap news) (ha : (a, baObj b) ∈ news) (hT : T = "bytes" ∨ T = "list") (h : Q (.bool false) { s with toks := s.toks + 1 }) : wpAny (model prog w) A (call (.builtin "isinstance") [.ref a, .type T]) Q E s :=
  call_isinstance (S := fun _ R s' => s' = s ∧ R (.ok (.ret (.bool false))) { s' with toks := s'.toks + 1 }) (fun _ _ _ _ s' hs => isinstance_outer (by
    obtain ⟨e, hs⟩ := hs
    obtain ⟨hh, gg, dd, tt, oo⟩ := s'
    subst e
    rcases hT with rfl | rfl
    · exact baC_false (N _ ha).1 rfl (by decide) F.ty_bytes F.ba_not_bytes hs
    · exact baC_false (N _ ha).1 rfl (by decide) rfl F.ba_not_list hs) (by intro e; cases e)) ⟨rfl, h⟩
theorem bytesLi_K {c n : Nat} {vs : List Value} {ns : List Int} {Q : Value → Shared → Prop} (F : Fr h₀ L s.heap m) (N : News h₀ L s.heap news) (hc : (c, sqObj "list" vs n) ∈ news) (hi : IntsAre vs ns) (hr : ∀ n ∈ ns, 0 ≤ n ∧ n < 256) (hz : ns.length ≤ sizeLine) (hh : A.handled = none)
    (h : ∀ h' t k, Fr h₀ L h' m → News h₀ L h' news → Q (.bytes (byteArr ns) t) { s with heap := h', toks := k }) : wpAny (model prog w) A (call (.type "bytes") [.ref c]) Q E s :=
  bytes_K F N ⟨_, (N _ hc).1, rfl, n, rfl⟩ hi hr (by rw [hi.length]; exact hz) hh fun h' t k F' N' _ => h h' t k F' N'
theorem bytesBad_K {c n : Nat} {vs : List Value} {ns : List Int} {p : Nat} {bad : Int} {Q : Value → Shared → Prop} (N : News h₀ L s.heap news) (hc : (c, sqObj "list" vs n) ∈ news) (hi : IntsAre vs ns) (hr : ∀ j n, j < p → ns[j]? = some n → 0 ≤ n ∧ n < 256) (hb : ns[p]? = some bad) (hbad : bad < 0 ∨ 256 ≤ bad) (hz : ns.length ≤ sizeLine) (hh : A.handled = none)
    (hE : ∀ h' tk e, Heap.NewExc s.heap h' e "ValueError" → E (.ref e) { s with heap := h', toks := tk }) : wpAny (model prog w) A (call (.type "bytes") [.ref c]) Q E s :=
  call_bytes_bad ⟨_, (N _ hc).1, rfl, n, rfl⟩ hi hr hb hbad hz hh hE
end
end Mine

-- B12
namespace Mine
open PySem PySem.W PySem.Calls PyProof.Rows PySem.Builtin PySem.Builtin.Bytes
theorem bitNot_eq' (x : Int) : Builtin.bitNot x = -x - 1 := by first | rfl | (unfold Builtin.bitNot; omega)
theorem mask16 (y : Int) : Builtin.bitAnd y 65535 = y % 65536 := by
  by_cases h : 0 ≤ y
  · rw [bitAnd_pp h (by decide)]
    have : y.toNat &&& (65535 : Int).toNat = y.toNat % 65536 := Nat.and_two_pow_sub_one_eq_mod y.toNat 16
    rw [this]; omega
  · rw [bitAnd_np h (by decide), bitNot_eq', Nat.and_comm]
    have : (-y - 1).toNat &&& (65535 : Int).toNat = (-y - 1).toNat % 65536 := Nat.and_two_pow_sub_one_eq_mod _ 16
    rw [this]; omega
theorem mask32 (y : Int) : Builtin.bitAnd y 4294967295 = y % 4294967296 := by
  by_cases h : 0 ≤ y
  · rw [bitAnd_pp h (by decide)]
    have : y.toNat &&& (4294967295 : Int).toNat = y.toNat % 4294967296 := Nat.and_two_pow_sub_one_eq_mod y.toNat 32
    rw [this]; omega
  · rw [bitAnd_np h (by decide), bitNot_eq', Nat.and_comm]
    have : (-y - 1).toNat &&& (4294967295 : Int).toNat = (-y - 1).toNat % 4294967296 := Nat.and_two_pow_sub_one_eq_mod _ 32
    rw [this]; omega
section
variable {prog : Program} {w : World} {A : Around} {E : Value → Shared → Prop} {s : Shared} {Q : Value → Shared → Prop}
theorem packH_M {y : Int} {t u : Tok} (hq : ∀ t' k, Q (.bytes #[(y / 256 % 256).toNat.toUInt8, (y % 256).toNat.toUInt8] t') { s with toks := k }) :
    wpAny (model prog w) A (call (.builtin "_struct.pack") [.str (Str.ofString ">H") t, .int (Builtin.bitAnd y 65535) u]) Q E s := by
  rw [mask16]
  refine pack_H (by omega) (by omega) ?_
  rw [show y % 65536 / 256 = y / 256 % 256 from by omega, show y % 65536 % 256 = y % 256 from by omega]
  exact hq _ _
theorem packL_M {y : Int} {t u : Tok} (hq : ∀ t' k, Q (.bytes #[(y / 16777216 % 256).toNat.toUInt8, (y / 65536 % 256).toNat.toUInt8, (y / 256 % 256).toNat.toUInt8, (y % 256).toNat.toUInt8] t') { s with toks := k }) :
    wpAny (model prog w) A (call (.builtin "_struct.pack") [.str (Str.ofString ">L") t, .int (Builtin.bitAnd y 4294967295) u]) Q E s := by
  rw [mask32]
  refine pack_L (by omega) (by omega) ?_
  rw [show y % 4294967296 / 16777216 = y / 16777216 % 256 from by omega, show y % 4294967296 / 65536 % 256 = y / 65536 % 256 from by omega, show y % 4294967296 / 256 % 256 = y / 256 % 256 from by omega, show y % 4294967296 % 256 = y % 256 from by omega]
  exact hq _ _
end
end Mine

-- B13
namespace Mine
open PySem PySem.W PySem.Calls PyProof.Rows PySem.Builtin PySem.Builtin.Bytes
theorem Answers_ba {a : Addr} {T : String} (hne : (Value.type "bytearray" == Value.type T) = false) (hty : typeOf (.type T) = pure (.type "type")) (hsub : isSubtype (.type "bytearray") (.type T) = pure false) :
    Answers (fun s => s.TypeIs (.ref a) "bytearray") (.ref a) (.type T) false :=
  fun _ _ _ _ _ _ s hs => by
    obtain ⟨h, g, d, t, os⟩ := s
    obtain ⟨⟨o, hx, hc⟩, hq⟩ := hs
    exact baC_false hx hc hne hty hsub (hq (t + 1))
section
variable {prog : Program} {w : World} {A : Around} {E : Value → Shared → Prop} {s : Shared} {h₀ : Heap} {L a : Addr} {m : Str → Option Value} {news : List (Addr × Obj)} {b : Array UInt8}
theorem isiBa_tup {tp : Addr} {Q : Value → Shared → Prop} (N : News h₀ L s.heap news) (ha : (a, baObj b) ∈ news) (ht : (tp, sqObj "tuple" [.type "bytes", .type "bytearray"] 0) ∈ news) (h : ∀ tk, Q (.bool true) { s with toks := tk }) :
    wpAny (model prog w) A (call (.builtin "isinstance") [.ref a, .ref tp]) Q E s :=
  call_isinstance (isinstance_tuple (Tx := "bytearray") (vs := [false, true]) (.cons (Answers_ba (by decide) F.ty_bytes F.ba_not_bytes) (.cons (Answers.of_true F.ty_ba F.ba_sub) .nil))) ⟨baT (N _ ha).1, (N _ ht).1, h⟩
end
end Mine

-- B14
namespace Mine
open PySem PySem.W PySem.Calls PyProof.Rows PyProof.V PySem.Spec
section
variable {M : Model} {A : Around} {E : Value → Shared → Prop} {s' : Shared} {base g g₂ h : Heap} {outer : List Env} {L a e t : Addr} {m : Str → Option Value} {name : Str} {scope : Scope} {cd : Value} {cl : List (Str × Addr)} {Q : Unit → Shared → Prop} {news : List (Addr × Obj)}
theorem leave_newX {cls : String} (K : Below A base outer g) (hx : Heap.NewExc h s'.heap e cls) (F : Fr g L h m) (N : News g L h news)
    (hQ : ∀ h', RaisedN base outer e (.type cls) news h' → g.UpToSlots h' → Q () { s' with heap := h' }) (hk : scope.kind = .function := by rfl) :
    wpAny M (A.deeper (envX name scope L a cd cl)) (leaving (envX name scope L a cd cl) (.ref e)) Q E s' := by
  have K' := pushX (env := envX name scope L a cd cl) K F rfl hk
  have hin : ∀ env ∈ (envX name scope L a cd cl :: outer), ∀ b, env.frame = some b → b ∈ (envX name scope L a cd cl :: outer).filterMap (·.frame) := fun env he b hb => List.mem_filterMap.mpr ⟨env, he, hb⟩
  have st : base.StaysIn (hideAll h ((envX name scope L a cd cl :: outer).filterMap (·.frame))) := fun b o q => hideAll_get _ (K'.stays b o q) fun hm => by
    rw [(K'.frames.mem hm).1] at q; cases q
  have hl : ∀ q ∈ news, (hideAll h ((envX name scope L a cd cl :: outer).filterMap (·.frame))).get? q.1 = some q.2 ∧ base.get? q.1 = none := fun q hq => by
    refine ⟨hideAll_get _ (N q hq).1 fun hm => ?_, fresh_of_stays K.stays (N q hq).2.2⟩
    obtain ⟨env, he, hf⟩ := List.mem_filterMap.mp hm
    rcases List.mem_cons.mp he with rfl | he
    · exact (N q hq).2.1 (Option.some.inj hf).symm
    · obtain ⟨o, ho, _⟩ := (K.frames.mem (List.mem_filterMap.mpr ⟨env, he, hf⟩)).2
      rw [(N q hq).2.2] at ho; cases ho
  obtain ⟨ob, tp, he, hcls, hd⟩ := hx.there
  have hen : (hideAll h ((envX name scope L a cd cl :: outer).filterMap (·.frame))).get? e = none := by
    cases q : (hideAll h ((envX name scope L a cd cl :: outer).filterMap (·.frame))).get? e with
    | none => rfl
    | some o => have := of_hideAll _ q; rw [hx.new] at this; cases this
  refine wpAny_leaving_firstW (a0 := tp) K'.stack ((funFrames_hide K'.frames hin).of_keeps fun b o hb _ => ⟨o, hx.keeps b o hb, rfl⟩) rfl he (fun b o hb => hx.keeps b o (of_hideAll _ hb)) hen hd rfl rfl fun h' hL => ?_
  obtain ⟨k1, ⟨_, _, k2⟩, k3, k4⟩ := hL
  exact hQ h' ⟨_, tp, st, hl, k1, hen, k2, by rw [← hcls]; exact k3⟩ (((Heap.UpToSlots.of_keeps F.keep).trans (Heap.UpToSlots.of_keeps hx.keeps)).trans k4)
theorem leave_onNX {cls : Value} (K : Below A base outer g) (F : Fr g L g₂ m) (R : RaisedN base (envX name scope L a cd cl :: outer) e cls news s'.heap) (hsm : g₂.UpToSlots s'.heap)
    (hQ : ∀ h', RaisedN base outer e cls news h' → g.UpToSlots h' → Q () { s' with heap := h' }) :
    wpAny M (A.deeper (envX name scope L a cd cl)) (leaving (envX name scope L a cd cl) (.ref e)) Q E s' := by
  obtain ⟨B, a0, hB, hl, hfl⟩ := R
  exact wpAny_leaves_onW (Around.frames_deeper K.stack) rfl hfl fun h' x1 x2 => hQ h' ⟨B, a0, hB, hl, x1⟩ ((Heap.UpToSlots.of_keeps F.keep).trans (hsm.trans x2))
end
end Mine

-- B15
namespace Mine
open PySem PySem.W PySem.Calls PyProof.Rows PyProof.V PySem.Spec
theorem allLt_ne {d : Addr} : ∀ {l : List (Addr × Obj)}, AllLt d l → ∀ p ∈ l, p.1 ≠ d
  | [], _, _, h => nomatch h
  | q :: r, x, p, h => by
    rcases List.mem_cons.mp h with rfl | h
    · exact Nat.ne_of_lt x.1
    · exact allLt_ne x.2 p h
theorem unrEnd_one {h₀ : Heap} {L i : Addr} {o : Obj} {rest : (Str → Option Value) → List (Addr × Obj) → Prop} {s₁ : Shared} {h' : Heap} {tk : Nat} {m' : Str → Option Value} {news' : List (Addr × Obj)} (F : Fr h₀ L h' m') (N : News h₀ L h' ((i, o) :: news'))
    (off : ∀ p ∈ news', p.1 ≠ i) (r : rest m' news') : UnrEndW h₀ L s₁ [(i, o)] rest { s₁ with heap := h', toks := tk } :=
  ⟨h', tk, m', news', rfl, F, N, fun p hp q hq => by rw [List.mem_singleton.mp hq]; exact off p hp, r⟩
end Mine

-- B16
namespace Mine
open PySem PySem.W PySem.Calls PyProof.Rows PyProof.V PySem.Spec
/-- what a dict of written names holds -/
structure Flds (es : List DictEntry) (k : Nat) (f : Str → Option Value) : Prop where
  len : es.length ≤ k
  get : ∀ x, getL x es = some (f x)
theorem Flds.at {es : List DictEntry} {k : Nat} {f : Str → Option Value} {x : Str} {r : Option Value} (h : Flds es k f) (e : f x = r) : getL x es = some r := by rw [h.get, e]
theorem isStr_str {x y : Str} {t : Tok} : (Value.str x t).isStr y = (x == y) := rfl
theorem putL_len {x : Str} {h : Int} {k v : Value} : ∀ es : List DictEntry, (putL x h k v es).length ≤ es.length + 1
  | [] => Nat.le_refl _
  | d :: r => by
    unfold putL
    split
    · simp
    · simp only [List.length_cons]; have := putL_len (x := x) (h := h) (k := k) (v := v) r; omega
theorem getL_put_same {x : Str} {hs : Int} {t : Tok} {v : Value} : ∀ es : List DictEntry, getL x (putL x hs (.str x t) v es) = some (some v)
  | [] => by
    unfold putL getL
    simp [List.find?_cons, Value.isStr]
  | d :: r => by
    unfold putL
    split
    · rename_i h
      unfold getL
      simp [List.find?_cons, h]
    · rename_i h
      have ih := getL_put_same (x := x) (hs := hs) (t := t) (v := v) r
      unfold getL at ih ⊢
      simp only [List.find?_cons, h]
      split at ih
      · rename_i e he
        rw [he]
        exact ih
      · split at ih <;> cases ih
theorem find_put_other {x y : Str} (hxy : x ≠ y) {hs : Int} {t : Tok} {v : Value} : ∀ es : List DictEntry, ((putL x hs (.str x t) v es).find? (·.key.isStr y)).map (·.val) = (es.find? (·.key.isStr y)).map (·.val)
  | [] => by
    unfold putL
    have : (x == y) = false := by simpa using hxy
    simp [List.find?_cons, Value.isStr, this]
  | d :: r => by
    unfold putL
    split
    · rename_i h
      have hy : d.key.isStr y = false := by
        cases hk : d.key with
        | str s u =>
          rw [hk] at h
          have : s = x := by simpa [Value.isStr] using h
          subst this
          simpa [Value.isStr] using hxy
        | _ => rfl
      simp [List.find?_cons, hy]
    · by_cases hy : d.key.isStr y = true
      · simp [List.find?_cons, hy]
      · simp only [List.find?_cons, hy]
        exact find_put_other hxy r
theorem any_put {x : Str} {hs : Int} {t : Tok} {v : Value} : ∀ es : List DictEntry, (putL x hs (.str x t) v es).any (·.refKey) = es.any (·.refKey)
  | [] => rfl
  | d :: r => by
    unfold putL
    split
    · rfl
    · simp only [List.any_cons]; rw [any_put (x := x) (hs := hs) (t := t) (v := v) r]
theorem getL_put_other {x y : Str} (hxy : x ≠ y) {hs : Int} {t : Tok} {v : Value} {es : List DictEntry} : getL y (putL x hs (.str x t) v es) = getL y es := by
  have h1 := find_put_other hxy (hs := hs) (t := t) (v := v) es
  have h2 := any_put (x := x) (hs := hs) (t := t) (v := v) es
  unfold getL
  rw [h2]
  cases q : (putL x hs (.str x t) v es).find? (·.key.isStr y) with
  | some e =>
    rw [q] at h1
    cases q2 : es.find? (·.key.isStr y) with
    | some e2 => rw [q2] at h1; simp at h1; simp [h1]
    | none => rw [q2] at h1; simp at h1
  | none =>
    rw [q] at h1
    cases q2 : es.find? (·.key.isStr y) with
    | some e2 => rw [q2] at h1; simp at h1
    | none => rfl
theorem Flds.put {es : List DictEntry} {k : Nat} {f : Str → Option Value} {x : Str} {hs : Int} {t : Tok} {v : Value} (h : Flds es k f) : Flds (putL x hs (.str x t) v es) (k + 1) (fun y => if y = x then some v else f y) := by
  refine ⟨Nat.le_trans (putL_len es) (Nat.add_le_add_right h.len 1), fun y => ?_⟩
  by_cases e : y = x
  · subst e; rw [getL_put_same, if_pos rfl]
  · rw [getL_put_other (fun q => e q.symm), if_neg e]; exact h.get y
theorem Flds.le {es : List DictEntry} {k k' : Nat} {f : Str → Option Value} (h : Flds es k f) (hk : k ≤ k') : Flds es k' f := ⟨Nat.le_trans h.len hk, h.get⟩
theorem Flds.nil : Flds [] 0 (fun _ => none) := ⟨Nat.le_refl _, fun _ => rfl⟩
theorem Flds.one {hs : Int} {x : Str} {t : Tok} {v : Value} : Flds [⟨hs, .str x t, v⟩] 1 (fun y => if y = x then some v else none) := Flds.put (es := []) Flds.nil
theorem UpdF.upd {d : Addr} {o o' : Obj} : ∀ {l : List (Addr × Obj)} {g : Obj → List (Addr × Obj)}, UpdF d o l g → Upd d o o' l (g o')
  | _, _, .head h => .head h
  | _, _, .tail h r => .tail h (UpdF.upd r)
section
variable {prog : Program} {w : World} {A : Around} {E : Value → Shared → Prop} {s : Shared} {K : Frag} {h₀ : Heap} {L x C dx : Addr} {ox : Obj} {m : Str → Option Value} {news : List (Addr × Obj)} {g : Obj → List (Addr × Obj)} {es : List DictEntry} {n k : Nat} {f : Str → Option Value} {name : Str} {v : Value}
theorem set_flds {Q : Unit → Shared → Prop} (F : Fr h₀ L s.heap m) (X₀ : K.In h₀) (N : News h₀ L s.heap news) (I : InstAt s.heap x ox C (some (dictOf es n))) (hd : ox.dict = some dx)
    (hs : findIn K (.ref C) "__setattr__" = some (some (.builtin "object.__setattr__"))) (hp : plainOver K C = true) (ht : takerIn K C name = some none) (hh : hasDictIn K C = true) (fl : Flds es k f) (U : UpdF dx (dictOf es n) news g) (hz : k + 1 ≤ 1000)
    (h : ∀ h' es' n', Fr h₀ L h' m → News h₀ L h' (g (dictOf es' n')) → Flds es' (k + 1) (fun y => if y = name then some v else f y) → Q () { s with heap := h', toks := s.toks + 2 }) :
    wpAny (model prog w) A (setAttr (.ref x) name v) Q E s :=
  set_dict F X₀ N I hd hs hp ht hh (by rw [fl.get]; rfl) rfl (UpdF.upd U) (Nat.le_trans (putL_len es) (Nat.le_trans (Nat.add_le_add_right fl.len 1) hz)) fun h' F' N' => h h' _ _ F' N' fl.put
end
end Mine

-- D0
namespace Mine
open PySem PySem.W PySem.Calls PyProof.Rows
def restOf (a dx : Addr) (all : List (Addr × Obj)) : List (Addr × Obj) := all.filter fun q => q.1 != a && q.1 != dx
theorem restOf_mem {a dx : Addr} {all : List (Addr × Obj)} {q : Addr × Obj} : q ∈ restOf a dx all ↔ q ∈ all ∧ q.1 ≠ a ∧ q.1 ≠ dx := by
  unfold restOf
  rw [List.mem_filter]
  simp
theorem led_in {h₀ h : Heap} {L one a dx : Addr} {o1 o2 b : Obj} {all : List (Addr × Obj)} {g : Obj → List (Addr × Obj)} (N : News h₀ L h all) (h1 : (one, o1) ∈ all) (h2 : (dx, o2) ∈ all) (U : UpdF a b all g) :
    News h₀ L h ((one, o1) :: (dx, o2) :: (a, b) :: restOf a dx all) := by
  obtain ⟨pre, post, e, _, _, _⟩ := U.split
  have ha : (a, b) ∈ all := by rw [e]; simp
  intro q hq
  rcases List.mem_cons.mp hq with rfl | hq
  · exact N _ h1
  rcases List.mem_cons.mp hq with rfl | hq
  · exact N _ h2
  rcases List.mem_cons.mp hq with rfl | hq
  · exact N _ ha
  · exact N _ (restOf_mem.mp hq).1
theorem led_out {h₀ h h' : Heap} {L one a dx : Addr} {o1 o2 b b' : Obj} {all more : List (Addr × Obj)} {g : Obj → List (Addr × Obj)} (N : News h₀ L h all) (h2 : (dx, o2) ∈ all) (U : UpdF a b all g)
    (N' : News h₀ L h' (more ++ (one, o1) :: (dx, o2) :: (a, b') :: restOf a dx all)) : News h₀ L h' (more ++ g b') := by
  obtain ⟨pre, post, e, hg, n1, n2⟩ := U.split
  intro q hq
  refine N' q ?_
  rcases List.mem_append.mp hq with hq | hq
  · exact List.mem_append_left _ hq
  refine List.mem_append_right _ ?_
  rw [hg] at hq
  have key : q = (a, b') ∨ (q ∈ all ∧ q.1 ≠ a) := by
    rcases List.mem_append.mp hq with hq | hq
    · exact .inr ⟨by rw [e]; exact List.mem_append_left _ hq, n1 q hq⟩
    rcases List.mem_cons.mp hq with rfl | hq
    · exact .inl rfl
    · exact .inr ⟨by rw [e]; exact List.mem_append_right _ (.tail _ hq), n2 q hq⟩
  rcases key with rfl | ⟨hq, hqa⟩
  · exact .tail _ (.tail _ (.head _))
  · by_cases hd : q.1 = dx
    · have x1 := (N q hq).1
      have x2 := (N _ h2).1
      rw [hd] at x1
      have : q = (dx, o2) := by
        obtain ⟨q1, q2⟩ := q
        dsimp only at hd x1 x2
        subst hd
        rw [x1] at x2
        cases x2
        rfl
      rw [this]
      exact .tail _ (.head _)
    · exact .tail _ (.tail _ (.tail _ (restOf_mem.mpr ⟨hq, hqa, hd⟩)))
theorem led_in4 {h₀ h : Heap} {L one a dx c : Addr} {o1 o2 b x : Obj} {all : List (Addr × Obj)} {g : Obj → List (Addr × Obj)} (N : News h₀ L h all) (h1 : (one, o1) ∈ all) (h2 : (dx, o2) ∈ all) (h4 : (c, x) ∈ all) (U : UpdF a b all g) :
    News h₀ L h ((one, o1) :: (dx, o2) :: (a, b) :: (c, x) :: restOf a dx all) := by
  have Z := led_in N h1 h2 U
  intro q hq
  rcases List.mem_cons.mp hq with rfl | hq
  · exact Z _ (.head _)
  rcases List.mem_cons.mp hq with rfl | hq
  · exact Z _ (.tail _ (.head _))
  rcases List.mem_cons.mp hq with rfl | hq
  · exact Z _ (.tail _ (.tail _ (.head _)))
  rcases List.mem_cons.mp hq with rfl | hq
  · exact N _ h4
  · exact Z _ (.tail _ (.tail _ (.tail _ hq)))
theorem led_drop4 {h₀ h : Heap} {L : Addr} {p1 p2 p3 p4 : Addr × Obj} {r : List (Addr × Obj)} (N : News h₀ L h (p1 :: p2 :: p3 :: p4 :: r)) : News h₀ L h (p1 :: p2 :: p3 :: r) := by
  intro q hq
  rcases List.mem_cons.mp hq with rfl | hq
  · exact N _ (.head _)
  rcases List.mem_cons.mp hq with rfl | hq
  · exact N _ (.tail _ (.head _))
  rcases List.mem_cons.mp hq with rfl | hq
  · exact N _ (.tail _ (.tail _ (.head _)))
  · exact N _ (.tail _ (.tail _ (.tail _ (.tail _ hq))))
theorem led_same {h₀ h : Heap} {L one a dx : Addr} {o1 o2 b : Obj} {all : List (Addr × Obj)} (N : News h₀ L h all) (h2 : (dx, o2) ∈ all) (h3 : (a, b) ∈ all) : ∀ q ∈ all, q ∈ (one, o1) :: (dx, o2) :: (a, b) :: restOf a dx all := by
  have same : ∀ {x : Addr} {o : Obj} {q : Addr × Obj}, (x, o) ∈ all → q ∈ all → q.1 = x → q = (x, o) := fun {x o q} hx hq e => by
    have x1 := (N q hq).1
    have x2 := (N _ hx).1
    obtain ⟨q1, q2⟩ := q
    dsimp only at e x1 x2
    subst e
    rw [x1] at x2
    cases x2
    rfl
  intro q hq
  by_cases ha : q.1 = a
  · rw [same h3 hq ha]; exact .tail _ (.tail _ (.head _))
  · by_cases hd : q.1 = dx
    · rw [same h2 hq hd]; exact .tail _ (.head _)
    · exact .tail _ (.tail _ (.tail _ (restOf_mem.mpr ⟨hq, ha, hd⟩)))
theorem RaisedK.sub {base h : Heap} {l : List Env} {e t : Addr} {cls : Value} {vs : List Value} {n1 n2 : List (Addr × Obj)} (R : RaisedK base l e cls t vs n1 h) (hs : ∀ q ∈ n2, q ∈ n1) : RaisedK base l e cls t vs n2 h := by
  obtain ⟨⟨B, x1, x2, x3⟩, y⟩ := R
  exact ⟨⟨B, x1, fun q hq => x2 q (hs q hq), x3⟩, y⟩
theorem RaisedN.sub {base h : Heap} {l : List Env} {e : Addr} {cls : Value} {n1 n2 : List (Addr × Obj)} (R : RaisedN base l e cls n1 h) (hs : ∀ q ∈ n2, q ∈ n1) : RaisedN base l e cls n2 h := by
  obtain ⟨B, a0, x1, x2, x3⟩ := R
  exact ⟨B, a0, x1, fun q hq => x2 q (hs q hq), x3⟩
end Mine

-- C00
open PySem PySem.W PyProof.Rows
namespace Mine
theorem getL_cons {x : Str} {d : DictEntry} {r : List DictEntry} {v : Value} (q : d.key.isStr x = false) (e : getL x (d :: r) = some (some v)) : getL x r = some (some v) := by
  unfold getL at e ⊢
  rw [List.find?_cons_of_neg (by simp [q])] at e
  split at e
  · exact e
  · split at e <;> cases e
theorem put_same {x : Str} {h : Int} {k v : Value} : ∀ {es : List DictEntry}, getL x es = some (some v) → putL x h k v es = es
  | [], e => by cases e
  | d :: r, e => by
    unfold putL
    cases q : d.key.isStr x with
    | true =>
      unfold getL at e
      rw [List.find?_cons_of_pos (by simp [q])] at e
      obtain rfl : d.val = v := Option.some.inj (Option.some.inj e)
      rfl
    | false =>
      simp only [Bool.false_eq_true, if_false]
      rw [put_same (getL_cons q e)]
theorem put_sameN {x : Str} {v : Value} {n : Nat} {es : List DictEntry} (e : getL x es = some (some v)) : putN x es n = n := by
  unfold putN
  have : (es.any fun y => y.key.isStr x) = true := by
    unfold getL at e
    split at e
    · rename_i d z
      exact List.any_eq_true.mpr ⟨d, List.mem_of_find?_eq_some z, by simpa using List.find?_some z⟩
    · split at e <;> cases e
  rw [if_pos this]
theorem some_of_eq {α : Type} {o : Option α} {x : α} (e : o = some x) : o.isSome = true := by rw [e]; rfl
theorem put_pair {x : Str} {h : Int} {k v : Value} {n : Nat} {es : List DictEntry} (e : getL x es = some (some v)) : (putL x h k v es, putN x es n) = (es, n) := by rw [put_same e, put_sameN e]
abbrev PR : Program := PySem.Challenge.rw_bd5008_01.row.toRowW.prog
abbrev arnd (dd uu : Nat) (envs : List Env) : Around := { handled := none, depth := dd, frames := some envs, guards := some [], units := uu }
end Mine

-- R2
namespace Mine
open PySem PySem.W PySem.Spec PySem.Calls PyProof.Rows PyProof.V
section
variable {prog : Program} {w : World} {A A₀ : Around} {s : Shared} {K : Frag} {L : Addr} {h₀ base : Heap} {m mg mb : Str → Option Value} {news : List (Addr × Obj)} {p : Program} {loose : List Str} {mean : ExcName → Option Value}
theorem enter_both {env : Env} {outer : List Env} {R : Result → Shared → Prop} {name qual : Str} {params : Arguments} {body : List Stmt} {scope : Scope} {cl : List (Str × Addr)} {dV kV doc pm cdv ct oc : Value} {an od : Option Addr} {osl : Array (Option Value)} {f : Addr} {args : Args} {vs : List Value} {nm nr : Str} {ex front : List (Str × Value)} {g₁ : Addr → Sem (List (Str × Value))} {g₂ : Addr → Addr → Sem (List (Str × Value))}
    (B : Below A₀ base outer h₀) (F : Fr h₀ L s.heap m) (X₀ : K.In h₀) (N : News h₀ L s.heap news) (T : Top p loose mean mg mb h₀) (hA : A.frames = some (env :: outer)) (hf : env.frame = some L) (hke : env.scope.kind = .function)
    (ho : K.lookup f = some ⟨oc, od, .func (fnX name qual params body scope cl dV kV doc pm an cdv ct), osl⟩) (hcd : codeIn K cdv qual = true) (hroom : A.depth < recursionLimit)
    (hv : args.pos.drop (params.posonlyargs.length + params.args.length) = vs) (hx : args.kw.filter (fun x => !ownKw params x.1) = ex) (hnr : params.vararg.map (·.arg) = some nr) (hnm : params.kwarg.map (·.arg) = some nm) (hn : kwDistinct ex = true)
    (hfr : peek K ⟨prog, w.params⟩ (bindArgs (fnCut (fnX name qual params body scope cl dV kV doc pm an cdv ct)) (argsCut params args)) = some front)
    (hp : peekA K ⟨prog, w.params⟩ (bindArgs (fnX name qual params body scope cl dV kV doc pm an cdv ct) args) = some (({ cls := .type "tuple", data := .seq vs.toArray } : Obj), g₁))
    (hp₂ : ∀ D, peekA K ⟨prog, w.params⟩ (g₁ D) = some (dictOf [] 0, g₂ D))
    (hk₂ : ∀ C D, g₂ C D = (forIn ex PUnit.unit (fun x _ => (nsSet D x.1 x.2 >>= fun _ => pure (ForInStep.yield PUnit.unit))) >>= fun _ => pure (front ++ [(nr, Value.ref C)] ++ [(nm, Value.ref D)])))
    (hloc : ∀ C D, ∀ y ∈ front ++ [(nr, Value.ref C)] ++ [(nm, Value.ref D)], scope.names.lookup y.1 = some .local)
    (h : ∀ C D g L' h₁, (∀ p ∈ news, p.1 < C) → C < D → (D == sysModules) = false → Fr h₀ L g m → Fr g L' h₁ (fun y => (front ++ [(nr, Value.ref C)] ++ [(nm, Value.ref D)]).reverse.lookup y) →
      News g L' h₁ ((D, dictOf (kwEs w.params s.toks ex) ex.length) :: (C, ({ cls := .type "tuple", data := .seq vs.toArray } : Obj)) :: news) → Below A base (env :: outer) g → K.In g → Top p loose mean mg mb g →
      wpAny (model prog w) (A.deeper (envX qual scope L' f cdv cl)) (execs body (envX qual scope L' f cdv cl))
        (fun fl s' => LeaveK h₀ L m g R (match fl with | .ret v => v | _ => .none) s')
        (fun e s' => wpAny (model prog w) (A.deeper (envX qual scope L' f cdv cl)) (leaving (envX qual scope L' f cdv cl) e) (fun _ s'' => R (.error e) s'') (fun e' s'' => R (.error e') s'') s')
        { s with heap := h₁, toks := s.toks + ex.length + (front ++ [(nr, Value.ref C)] ++ [(nm, Value.ref D)]).length })
    (hco : scope.isCoroutine = false) (hgen : scope.isGenerator = false) (hk : scope.kind = .function)
    (hcell : ∀ x ∈ scope.names, x.2 ≠ .cell) : codeAny (model prog w) A (.call (.ref f) args) R s := by
  have hn' := kwDistinct_nodup hn
  have _ := hv
  have _ := hx
  have _ := hnr
  have _ := hnm
  have _ := hfr
  refine codeAny_call_function (fd := fnX name qual params body scope cl dV kV doc pm an cdv ct) (body := body) hroom ((X₀.keeps F.keep) _ _ ho) rfl hco hgen rfl (codeRec_of (X₀.keeps F.keep) hcd) ?_
  refine wp_of_peekA (o := ({ cls := .type "tuple", data := .seq vs.toArray } : Obj)) F N (X₀.keeps F.keep) rfl _ g₁ hp fun h1 F1 N1 l1 => ?_
  refine wp_of_peekA (s := { s with heap := h1 }) (o := dictOf [] 0) F1 N1 (X₀.keeps F1.keep) rfl _ (g₂ s.heap.objs.size) (hp₂ _) fun h2 F2 N2 l2 => ?_
  rw [hk₂]
  refine wpAny_bind (kp_fill ex { s with heap := h2 } [] 0 F2 N2 (fun p hp => Nat.ne_of_lt (l2 p hp)) (fun _ he => nomatch he) (fun _ he => nomatch he) hn' fun h₃ F₃ N₃ => wpAny_pure ?_)
  rw [Nat.zero_add, List.nil_append] at N₃
  exact kp_frame (cl := cl) (s := { s with heap := h₃, toks := s.toks + ex.length }) B F₃ N₃ T.nolimit hA hf hke (hloc _ _)
    (fun g L' h₁ FG FL NG BG st => h _ _ g L' h₁ l1 (l2 _ (.head _)) (F1.notModules (modules_low T.nolimit)) FG FL NG BG (X₀.keeps st) (T.keeps st)) hcell hk
end
end Mine

-- R3
namespace Mine
open PySem PySem.W PySem.Spec PySem.Calls PyProof.Rows PyProof.V
def mbody (d a : Addr) (epoch : Nat) (i : Nat) (_ : PUnit) : Sem (ForInStep PUnit) := do
  let __do_lift ← dictEntries a
  match __do_lift[i]? with
  | some e => do
    holding [e.key, e.val]
      (have __do_jp := fun (_ : PUnit) => dictPut d e.hash e.key e.val;
      if true = true then do
        let __do_lift ← dictFind d e.key e.hash
        if __do_lift.isSome = true then do
            rule "dict.merge.duplicate-key"
            let __do_lift ← newExc (Value.type "KeyError") [e.key]
            let __r ← raiseNew __do_lift
            __do_jp __r
          else __do_jp ()
      else __do_jp ())
    let __do_lift ← dictEpoch a
    if (__do_lift != epoch) = true then do
        unsupported "dict.changed-during-merge"
        pure (ForInStep.yield PUnit.unit)
      else pure (ForInStep.yield PUnit.unit)
  | _ => do
    unsupported "dict.changed-during-merge"
    pure (ForInStep.yield PUnit.unit)
section
variable {M : Model} {A : Around} {E : Value → Shared → Prop} {h₀ : Heap} {L d a : Addr} {m : Str → Option Value} {news : List (Addr × Obj)}
def KeyStr (es : List DictEntry) : Prop := ∀ e ∈ es, ∃ x t, e.key = .str x t
def NoTwice : List DictEntry → Bool
  | [] => true
  | e :: r => r.all (fun x => match x.key with | .str s _ => !e.key.isStr s | _ => true) && NoTwice r
theorem find_none {s : Shared} {es : List DictEntry} {n : Nat} {x : Str} {t : Tok} {h : Int} {Q : Option Nat → Shared → Prop} (hd : s.heap.get? d = some (dictOf es n)) (hk : KeyStr es) (hn : ∀ e ∈ es, e.key.isStr x = false) (hq : Q none s) :
    wpAny M A (dictFind d (.str x t) h) Q E s := by
  unfold dictFind
  refine wpAny_holding (wpAny_bind (wpAny_dictEntries hd rfl ?_))
  have e1 : (es.toArray.all fun e => isExactStrKey e.key) = true := by
    rw [← Array.all_toList]
    exact List.all_eq_true.mpr fun e he => by obtain ⟨y, u, q⟩ := hk e he; rw [q]; rfl
  have e2 : es.toArray.findIdx? (fun e => e.key.isStr x) = none := by
    rw [List.findIdx?_toArray, List.findIdx?_eq_none_iff]
    exact hn
  simp only [e1, if_true]
  unfold foundByValue
  simp only [e2]
  exact wpAny_pure hq
theorem put_new {s : Shared} {es : List DictEntry} {n : Nat} {x : Str} {t : Tok} {hs : Int} {v : Value} {Q : Unit → Shared → Prop} (F : Fr h₀ L s.heap m) (N : News h₀ L s.heap ((d, dictOf es n) :: news)) (h2 : ∀ p ∈ news, p.1 ≠ d)
    (hk : KeyStr es) (hn : ∀ e ∈ es, e.key.isStr x = false) (hz : es.length < sizeLine)
    (hq : ∀ h', Fr h₀ L h' m → News h₀ L h' ((d, dictOf (es ++ [⟨hs, .str x t, v⟩]) (n + 1)) :: news) → Q () { s with heap := h' }) :
    wpAny M A (dictPut d hs (.str x t) v) Q E s := by
  have hd := (N _ (.head _)).1
  unfold dictPut
  refine wpAny_bind (find_none hd hk hn ?_)
  dsimp only
  have e : Obj.mapDictKeys (fun a => a.push ⟨hs, .str x t, v⟩) (dictOf es n) = dictOf (es ++ [⟨hs, .str x t, v⟩]) (n + 1) := by
    show ({ cls := .type "dict", data := .dict (es.toArray.push ⟨hs, .str x t, v⟩) (n + 1) } : Obj) = _
    simp [dictOf]
  have U := news_upd (pre := []) (f := Obj.mapDictKeys (fun a => a.push ⟨hs, .str x t, v⟩)) F N (fun _ hp => nomatch hp) h2 e rfl
  exact wpAny_updateDictKeysTo hd rfl (hq _ U.1 U.2) (by simp; omega)

theorem merge_loop {epoch : Nat} {es : List DictEntry} {Q : PUnit → Shared → Prop} (hk : KeyStr es) (hz : es.length ≤ sizeLine) (ha : (a, dictOf es epoch) ∈ news) (h2 : ∀ p ∈ news, p.1 ≠ d) :
    ∀ (rest done : List DictEntry) (s : Shared), es = done ++ rest → NoTwice es = true → Fr h₀ L s.heap m → News h₀ L s.heap ((d, dictOf done done.length) :: news) →
      (∀ h', Fr h₀ L h' m → News h₀ L h' ((d, dictOf es es.length) :: news) → Q () { s with heap := h' }) → wpAny M A (forIn (List.range' done.length rest.length) PUnit.unit (mbody d a epoch)) Q E s
  | [], done, s, he, _, F, N, h => by
    rw [List.append_nil] at he
    subst he
    exact wpAny_pure (h s.heap F N)
  | e :: rest, done, s, he, hn, F, N, h => by
    obtain ⟨x, t, hx⟩ := hk e (by rw [he]; simp)
    have hdone : ∀ y ∈ done, y.key.isStr x = false := by
      intro y hy
      have : ∀ l : List DictEntry, ∀ r, NoTwice (l ++ e :: r) = true → ∀ y ∈ l, y.key.isStr x = false := by
        intro l
        induction l with
        | nil => intro r _ y hy; cases hy
        | cons z l ih =>
          intro r hr y hy
          obtain ⟨p1, p2⟩ := Bool.and_eq_true_iff.mp (show ((l ++ e :: r).all (fun x => match x.key with | .str s _ => !z.key.isStr s | _ => true) && NoTwice (l ++ e :: r)) = true from hr)
          rcases List.mem_cons.mp hy with rfl | hy
          · have := List.all_eq_true.mp p1 e (by simp)
            rw [hx] at this
            simpa using this
          · exact ih r p2 y hy
      exact this done rest (by rw [← he]; exact hn) y hy
    have hkd : KeyStr done := fun y hy => hk y (by rw [he]; exact List.mem_append_left _ hy)
    have hA := (N _ (.tail _ ha)).1
    have hD := (N _ (.head _)).1
    have hi : es.toArray[done.length]? = some e := by rw [he]; simp
    have hlt : done.length < sizeLine := by have := congrArg List.length he; simp at this; omega
    rw [List.length_cons, List.range'_succ, List.forIn_cons]
    refine wpAny_bind ?_
    unfold mbody
    refine wpAny_bind (wpAny_dictEntries hA rfl ?_)
    simp only [hi]
    refine wpAny_bind (wpAny_holding ?_)
    simp only [if_true, hx]
    refine wpAny_bind (find_none hD hkd hdone ?_)
    simp only [Option.isSome_none, Bool.false_eq_true, if_false]
    refine put_new F N h2 hkd hdone hlt fun h' F' N' => ?_
    have hA' := (N' _ (.tail _ ha)).1
    refine wpAny_bind (wpAny_dictEpoch (s := { s with heap := h' }) hA' rfl ?_)
    simp only [bne_self_eq_false, Bool.false_eq_true, if_false]
    refine wpAny_pure ?_
    have hh : e.hash = e.hash := rfl
    have z := merge_loop hk hz ha h2 rest (done ++ [⟨e.hash, .str x t, e.val⟩]) { s with heap := h' } (by rw [he, ← hx]; simp) hn F' (by rw [List.length_append]; exact N') h
    rw [List.length_append] at z
    exact z

theorem key_loop {es : List DictEntry} {Q : PUnit → Shared → Prop} {s : Shared} {f : DictEntry → PUnit → Sem (ForInStep PUnit)} (hf : ∀ e ∈ es, f e PUnit.unit = pure (ForInStep.yield PUnit.unit)) (h : Q PUnit.unit s) : wpAny M A (forIn es PUnit.unit f) Q E s := by
  induction es with
  | nil => exact wpAny_pure h
  | cons e r ih =>
    rw [List.forIn_cons, hf e (.head _)]
    exact wpAny_bind (wpAny_pure (ih fun x hx => hf x (.tail _ hx)))
theorem isDict_facts : isSubtype (.type "dict") (.type "dict") = pure true := by rw [isSubtype_type]; kernel_rfl
end
section
variable {prog : Program} {w : World} {A : Around} {E : Value → Shared → Prop} {s : Shared} {h₀ : Heap} {L d a : Addr} {m : Str → Option Value} {news : List (Addr × Obj)}
theorem merge_made {epoch : Nat} {es : List DictEntry} {Q : Unit → Shared → Prop} (F : Fr h₀ L s.heap m) (N : News h₀ L s.heap ((d, dictOf [] 0) :: news)) (h2 : ∀ p ∈ news, p.1 ≠ d) (ha : (a, dictOf es epoch) ∈ news)
    (hk : KeyStr es) (hn : NoTwice es = true) (hz : es.length ≤ sizeLine) (lo : (a == sysModules) = false)
    (h : ∀ h', Fr h₀ L h' m → News h₀ L h' ((d, dictOf es es.length) :: news) → Q () { s with heap := h' }) : wpAny (model prog w) A (mergeMapping d (.ref a) true) Q E s := by
  have hA := (N _ (.tail _ ha)).1
  have hD := (N _ (.head _)).1
  have hT : s.TypeIs (.ref a) "dict" := ⟨_, hA, rfl⟩
  unfold mergeMapping
  refine wpAny_bind (wpAny_isInstance hT isDict_facts ?_)
  rw [if_pos rfl]
  refine wpAny_bind (wpAny_specialOf hT PySem.F.slot_dict_iter.lookup ?_)
  refine wpAny_bind (wpAny_pure ?_)
  show wpAny _ _ (if (a == sysModules) = true then _ else _) _ _ _
  rw [if_neg (by rw [lo]; exact Bool.false_ne_true)]
  refine wpAny_bind (wpAny_dictEntries hD rfl ?_)
  show wpAny _ _ (if (#[] : Array DictEntry).isEmpty = true then _ else _) _ _ _
  refine bm_if_true rfl ?_
  refine wpAny_bind (wpAny_dictEntries hA rfl ?_)
  rw [List.forIn_toArray]
  refine wpAny_bind (key_loop (fun e he => ?_) ?_)
  · obtain ⟨x, t, q⟩ := hk e he
    rw [q]
  refine wpAny_bind (wpAny_dictEntries hA rfl ?_)
  refine wpAny_bind (wpAny_dictEpoch hA rfl ?_)
  refine wpAny_bind ?_
  show wpAny _ _ (forIn (List.range es.toArray.size) PUnit.unit (mbody d a epoch)) _ _ _
  rw [List.size_toArray, List.range_eq_range']
  exact merge_loop hk hz ha h2 es [] s rfl hn F N (fun h' F' N' => wpAny_pure (h h' F' N'))
theorem mergedKw {f : Value} {x : Sem Value} {epoch : Nat} {es : List DictEntry} {Q : Addr → Shared → Prop} (F : Fr h₀ L s.heap m) (N : News h₀ L s.heap news)
    (hx : ∀ d h', Fr h₀ L h' m → News h₀ L h' ((d, dictOf [] 0) :: news) → (∀ p ∈ news, p.1 < d) → wpAny (model prog w) A x (fun v s₁ => ∃ h'', v = .ref a ∧ s₁ = { s with heap := h'' } ∧ Fr h₀ L h'' m ∧ News h₀ L h'' ((d, dictOf [] 0) :: news)) E { s with heap := h' })
    (ha : (a, dictOf es epoch) ∈ news)
    (hk : KeyStr es) (hn : NoTwice es = true) (hz : es.length ≤ sizeLine) (lo : (a == sysModules) = false)
    (h : ∀ d h', Fr h₀ L h' m → News h₀ L h' ((d, dictOf es es.length) :: news) → (∀ p ∈ news, p.1 < d) → Q d { s with heap := h' }) : wpAny (model prog w) A (mergedKeywords f [(none, x)]) Q E s := by
  unfold mergedKeywords
  have lt : ∀ p ∈ news, p.1 < s.heap.objs.size := fun p hp => Heap.lt_size (N p hp).1
  refine wpAny_bind (wpAny_alloc (wpAny_bind (wpAny_holding ?_)))
  have F1 := F.push ({ cls := .type "dict", data := .dict #[] } : Obj)
  have N1 := N.push F ({ cls := .type "dict", data := .dict #[] } : Obj)
  refine wpAny_bind ?_
  rw [List.forIn_cons]
  refine wpAny_bind (wpAny_bind ?_)
  refine bm_if_true rfl (wpAny_pure ?_)
  refine wpAny_bind (wpAny_mono (hx _ _ F1 N1 lt) (fun v s₁ hv => ?_) fun _ _ z => z)
  obtain ⟨h2, rfl, rfl, F2, N2⟩ := hv
  refine wpAny_bind (wpAny_onRaise (wpAny_holding (wpAny_tryCatch (wpAny_onRaise (merge_made F2 N2 (fun p hp => Nat.ne_of_lt (lt p hp)) ha hk hn hz lo fun h3 F3 N3 => ?_)))))
  refine wpAny_pure ?_
  show wpAny _ _ (forIn ([] : List (Option Str × Sem Value)) _ _) _ _ _
  rw [List.forIn_nil]
  refine wpAny_pure (bm_if_true rfl (wpAny_pure (wpAny_pure ?_)))
  exact h _ h3 F3 N3 lt
def kwOf (es : List DictEntry) : List (Str × Value) := es.filterMap fun e => match e.key with | .str s _ => some (s, e.val) | _ => none
theorem keywords_loop {f : Value} {es : List DictEntry} {Q : List (Str × Value) → Shared → Prop} {s : Shared} {M : Model} (hk : KeyStr es) {body : DictEntry → List (Str × Value) → Sem (ForInStep (List (Str × Value)))}
    (hb : ∀ e ∈ es, ∀ x t, e.key = .str x t → ∀ kw, body e kw = pure (ForInStep.yield (kw ++ [(x, e.val)]))) (acc : List (Str × Value)) (h : Q (acc ++ kwOf es) s) : wpAny M A (forIn es acc body) Q E s := by
  induction es generalizing acc with
  | nil => rw [List.forIn_nil]; exact wpAny_pure (by simpa [kwOf] using h)
  | cons e r ih =>
    obtain ⟨x, t, q⟩ := hk e (.head _)
    rw [List.forIn_cons, hb e (.head _) x t q]
    refine wpAny_bind (wpAny_pure ?_)
    refine ih (fun y hy => hk y (.tail _ hy)) (fun y hy => hb y (.tail _ hy)) _ ?_
    have : kwOf (e :: r) = (x, e.val) :: kwOf r := by simp [kwOf, q]
    rw [this] at h
    simpa using h
theorem keywordsIn_made {f : Value} {es : List DictEntry} {n : Nat} {Q : List (Str × Value) → Shared → Prop} {M : Model} (hd : s.heap.get? d = some (dictOf es n)) (hk : KeyStr es) (h : Q (kwOf es) s) : wpAny M A (keywordsIn f d) Q E s := by
  unfold keywordsIn
  refine wpAny_bind (wpAny_dictEntries hd rfl ?_)
  rw [List.forIn_toArray]
  refine wpAny_bind (keywords_loop (f := f) hk (fun e he x t q kw => ?_) [] ?_)
  · simp only [q]
  · exact wpAny_pure h

theorem evalArgs_SS {f : Value} {x y : Sem Value} {pos : Pos} {ta : Addr} {vs : List Value} {epoch : Nat} {es : List DictEntry} {Q : Args → Shared → Prop} (F : Fr h₀ L s.heap m) (N : News h₀ L s.heap news)
    (hx : wpAny (model prog w) A x (fun v s₁ => v = .ref ta ∧ s₁ = s) E s)
    (hy : ∀ d h', Fr h₀ L h' m → News h₀ L h' ((d, dictOf [] 0) :: news) → wpAny (model prog w) A y (fun v s₁ => v = .ref a ∧ s₁ = { s with heap := h' }) E { s with heap := h' })
    (ht : (ta, ({ cls := .type "tuple", data := .seq vs.toArray } : Obj)) ∈ news) (hvz : vs.length ≤ sizeLine) (ha : (a, dictOf es epoch) ∈ news)
    (hk : KeyStr es) (hn : NoTwice es = true) (hz : es.length ≤ sizeLine) (lo : (a == sysModules) = false)
    (h : ∀ d h', Fr h₀ L h' m → News h₀ L h' ((d, dictOf es es.length) :: news) → (∀ p ∈ news, p.1 < d) → Q ⟨vs, kwOf es⟩ { s with heap := h' }) :
    wpAny (model prog w) A (evalArgs f true [(true, (do let v ← x; standAt pos; pure v))] [(none, (do let v ← y; standAt pos; pure v))]) Q E s := by
  unfold evalArgs
  refine wpAny_bind (wpAny_bind (wpAny_mono hx (fun v s₁ hv => ?_) fun _ _ z => z))
  obtain ⟨rfl, rfl⟩ := hv
  refine wpAny_bind (wpAny_standAt (wpAny_pure (wpAny_bind (wpAny_pure ?_))))
  refine wpAny_holding ?_
  refine bm_if_false rfl ?_
  refine wpAny_bind (mergedKw F N (fun d h' F' N' l => ?_) ha hk hn hz lo fun d h' F' N' l => ?_)
  · refine wpAny_bind (wpAny_mono (hy d h' F' N') (fun v s₁ hv => ?_) fun _ _ z => z)
    obtain ⟨rfl, rfl⟩ := hv
    exact wpAny_bind (wpAny_standAt (wpAny_pure ⟨h', rfl, rfl, F', N'⟩))
  · have st := star_seq (prog := prog) (w := w) (A := A) (E := E) (s := { s₁ with heap := h' }) (T := "tuple") (its := vs.toArray) (n := 0) (ws := vs) (Q := fun vs s₂ => wpAny (model prog w) A (holding (.ref d :: vs) (keywordsIn f d)) (fun kw s₃ => Q ⟨vs, kw⟩ s₃) E s₂)
      F' N' (.tail _ ht) rfl rfl (.inr rfl) (by simp) (by simpa using hvz) (fun h2 F2 N2 => wpAny_holding (keywordsIn_made (f := f) (N2 _ (.head _)).1 hk (h d h2 F2 N2 l)))
    unfold StarOf at st
    refine wpAny_bind (wpAny_bind (wpAny_mono st (fun b s2 hb => ?_) fun _ _ z => z))
    obtain ⟨rfl, hb⟩ := hb
    exact bm_if_false rfl (wpAny_holding (wpAny_mono hb (fun vs' s3 h3 => wpAny_bind (wpAny_mono h3 (fun kw s4 h4 => wpAny_pure h4) fun _ _ z => z)) fun _ _ z => z))
theorem callWith_SS {env : Env} {f : Value} {first : List Value} {e1 e2 : Expr} {p1 p2 pos : Pos} {ta : Addr} {vs : List Value} {epoch : Nat} {es : List DictEntry} {Q : Value → Shared → Prop} (F : Fr h₀ L s.heap m) (N : News h₀ L s.heap news)
    (hx : wpAny (model prog w) A (eval e1 env) (fun v s₁ => v = .ref ta ∧ s₁ = s) E s)
    (hy : ∀ d h', Fr h₀ L h' m → News h₀ L h' ((d, dictOf [] 0) :: news) → wpAny (model prog w) A (eval e2 env) (fun v s₁ => v = .ref a ∧ s₁ = { s with heap := h' }) E { s with heap := h' })
    (ht : (ta, ({ cls := .type "tuple", data := .seq vs.toArray } : Obj)) ∈ news) (hvz : vs.length ≤ sizeLine) (ha : (a, dictOf es epoch) ∈ news)
    (hk : KeyStr es) (hn : NoTwice es = true) (hz : es.length ≤ sizeLine) (lo : (a == sysModules) = false)
    (hkp : ∀ d h', Fr h₀ L h' m → News h₀ L h' ((d, dictOf es es.length) :: news) → ∃ k, Looks (model prog w) h' (keeperOf f) k)
    (h : ∀ d h', Fr h₀ L h' m → News h₀ L h' ((d, dictOf es es.length) :: news) → (∀ p ∈ news, p.1 < d) → wpAny (model prog w) A (call f (first ++ vs) (kwOf es)) Q E { s with heap := h' })
    (he1 : starEach [.Starred e1 p1] env = [(true, eval e1 env)] := by rfl) :
    wpAny (model prog w) A (callWith pos f first (backTo pos (starEach [.Starred e1 p1] env)) (backToKw pos (keywordEach [⟨none, e2, p2⟩] env))) Q E s := by
  rw [he1]
  unfold callWith
  refine wpAny_bind (wpAny_holding (evalArgs_SS F N hx hy ht hvz ha hk hn hz lo fun d h' F' N' l => wpAny_bind (wpAny_standAt ?_)))
  obtain ⟨k, K⟩ := hkp d h' F' N'
  refine wpAny_bind (K.here ?_)
  have tail : ∀ {t : Sem Value}, wpAny (model prog w) A t Q E { s with heap := h' } → wpAny (model prog w) A (t >>= fun r => holding [r] point >>= fun _ => pure r) Q E { s with heap := h' } :=
    fun ht => wpAny_bind (wpAny_mono ht (fun r s₂ hr => wpAny_bind (wpAny_holding (wpAny_point (wpAny_pure hr)))) fun _ _ x => x)
  have z := h d h' F' N' l
  have marked (mk : Value) : wpAny (model prog w) A (callMarked mk f (first ++ vs) (kwOf es)) Q E { s with heap := h' } := by unfold callMarked; exact Calls.wpAny_keep z
  cases k
  · exact tail (marked _)
  · exact tail (wpAny_operating z)
  · exact tail (wpAny_operating z)
  · exact tail (wpAny_operating z)
end
end Mine

-- R4
namespace Mine
open PySem PySem.W PySem.Spec PySem.Calls PyProof.Rows PyProof.V
namespace F
theorem slot_wd_get : Slot "wrapper_descriptor" "__get__" "wrapper_descriptor.__get__" := .of (owner := "wrapper_descriptor") (n := "__get__") (by rw [typeLookup_type, builtinLookup_eq_fast]; kernel_rfl) (by decide +kernel) (by decide +kernel) (by decide +kernel)
  (by first | exact .inl (by decide +kernel) | exact .inr (by decide +kernel)) (by rw [isSubtype_type]; kernel_rfl)
theorem entry_wd_get : entryFor table "wrapper_descriptor.__get__" = some Builtin.«wrapper_descriptor.__get__» := entryFor_of_tree (by kernel_rfl)
theorem args_wd_get (a b c : Value) : argsOk "wrapper_descriptor.__get__" ⟨[a, b, c], []⟩ := by unfold argsOk; kernel_rfl
theorem type_oi : typeOf (.builtin "object.__init__") = pure (.type "wrapper_descriptor") := by show builtinType _ = _; rw [builtinType_eq_fast]; kernel_rfl
theorem oi_owner : (".".intercalate ("object.__init__".cutAt '.').dropLast) = "object" := by decide +kernel
theorem bound_oi (a : Value) : checkBoundCall "object.__init__" ⟨[a], []⟩ = pure () := by kernel_rfl
end F
section
variable {prog : Program} {w : World} {A : Around} {E : Value → Shared → Prop} {h : Heap} {g : Array GenState} {d : Drawn} {t : Nat} {os : OsState}
abbrev wrapObj (x : Addr) : Obj := { cls := .type "method-wrapper", data := .fields #[.builtin "object.__init__", .ref x] }
set_option maxHeartbeats 2000000 in
theorem ga_oi {so D x C : Addr} {l₀ l : List Value} {K : Frag} {tk : Tok} {Q : Fin → Shared → Prop}
    (hso : h.get? so = some (ks_superObj D x C)) (hno : Looks (model prog w) h (opaqueClassAbove (.ref C)) none)
    (hC : Looks (model prog w) h (mroOf (.ref C)) l₀) (hl : (l₀.dropWhile (· != .ref D)).drop 1 = l) (X : K.In h)
    (hf : alongIn K "__init__" l = some (some (.builtin "object.__init__"))) (hxC : x ≠ C) {dx : Addr} (hx : h.get? x = some (instObj C dx)) (hio : Looks (model prog w) h (isSubtype (.ref C) (.type "object")) true)
    (hq : Q (.done (.ret (.ref h.objs.size))) ⟨h.push (wrapObj x), g, d, t, os⟩) :
    wpAny (model prog w) A (Builtin.«super.__getattribute__» ⟨[.ref so, .str "__init__" tk], []⟩) Q E ⟨h, g, d, t, os⟩ := by
  have hlk := F.slot_wd_get.lookup
  have hne : (Value.ref x == Value.ref C) = false := by simp [hxC]
  have hTf : (⟨h, g, d, t, os⟩ : Shared).TypeIs (.builtin "object.__init__") "wrapper_descriptor" := F.type_oi
  have hdt : (ks_superObj D x C).data = .fields #[.ref D, .ref x, .ref C] := rfl
  have f0 : (#[.ref D, .ref x, .ref C] : Array Value)[0]? = some (.ref D) := rfl
  have f1 : (#[.ref D, .ref x, .ref C] : Array Value)[1]? = some (.ref x) := rfl
  have f2 : (#[.ref D, .ref x, .ref C] : Array Value)[2]? = some (.ref C) := rfl
  unfold Builtin.«super.__getattribute__»
  repeat (first
    | (with_reducible refine wpAny_field hso hdt f0 ?_) | (with_reducible refine wpAny_field hso hdt f1 ?_) | (with_reducible refine wpAny_field hso hdt f2 ?_)
    | (with_reducible refine ks_wpAny_notOpaque hno ?_)
    | (with_reducible refine Looks.at hC ?_; rw [hl])
    | (rw [F.oi_owner]; with_reducible refine Looks.at hio ?_)
    | (refine ks_forIn_along X (fun _ _ => rfl) rfl ?_ hf)
    | (with_reducible refine wpAny_typeOf hTf ?_)
    | (with_reducible refine wpAny_call_entry F.slot_wd_get hTf F.entry_wd_get ?_ (F.args_wd_get _ _ _))
    | (with_reducible refine ⟨_, rfl, ?_⟩)
    | (simp only [hne, Bool.or_false, Bool.false_eq_true, if_false])
    | wp_step
    | dsimp only)
  all_goals exact hq
theorem attr_super {so D x C r : Addr} {ro : Obj} {name : Str} {Q : Value → Shared → Prop}
    (hso : h.get? so = some (ks_superObj D x C))
    (hga : ∀ tk, wpAny (model prog w) A.in1 (Builtin.«super.__getattribute__» ⟨[.ref so, .str name tk], []⟩) (fun fin s' => fin = .done (.ret (.ref r)) ∧ s' = ⟨h.push ro, g, d, t + 1, os⟩) (fun _ _ => False) ⟨h, g, d, t + 1, os⟩)
    (hr : r = h.objs.size) (hh : ro.isFreed = false)
    (hq : Q (.ref h.objs.size) ⟨h.push ro, g, d, t + 1, os⟩) :
    wpAny (model prog w) A (getAttr (.ref so) name true) Q E ⟨h, g, d, t, os⟩ := by
  have hlk := PySem.F.ks_slot_super_ga.lookup
  have hT : ∀ t', (⟨h, g, d, t', os⟩ : Shared).TypeIs (.ref so) "super" := fun _ => ⟨_, hso, rfl⟩
  unfold getAttr getAttrBy
  refine wpAny_bind (wpAny_mkText (wpAny_holding (wpAny_bind (wpAny_typeOf (hT _) (wpAny_bind (wpAny_of_eq hlk ?_))))))
  show wpAny _ _ (getAttrByItsOwn (.ref so) (.str name t) (.type "super") (.builtin "super.__getattribute__") true true) _ _ _
  unfold getAttrByItsOwn hookBefore callGetattribute boundAndCalled
  refine wpAny_bind (wpAny_of_eq (show (if onTheHeap (.type "super") then typeLookup (.type "super") "__getattr__" else pure none) = pure none from rfl) ?_)
  refine wpAny_bind (wpAny_attempt (wpAny_holding ?_))
  show wpAny _ _ (bindSpecial (.builtin "super.__getattribute__") (.ref so) >>= _) _ _ _
  refine wpAny_bind (wpAny_of_eq (PySem.F.ks_slot_super_ga.bind _) ?_)
  refine wpAny_mono (Q := fun v s' => v = .ref r ∧ s' = ⟨h.push ro, g, d, t + 1, os⟩) (E := fun _ _ => False)
    (wpAny_call_entry PySem.F.ks_slot_super_ga (hT _) PySem.F.ks_entry_super_ga (wpAny_mono (hga _) (fun fin s' hv => by obtain ⟨rfl, rfl⟩ := hv; exact ⟨_, rfl, rfl, rfl⟩) fun _ _ z => z) (PySem.F.ks_gaArgs_super _ _)) (fun v s' hv => ?_) fun _ _ z => z.elim
  obtain ⟨rfl, rfl⟩ := hv
  subst hr
  exact wpAny_pure hq
end
section
variable {prog : Program} {w : World} {A : Around} {E : Value → Shared → Prop} {s : Shared} {h₀ : Heap} {L : Addr} {m mg mb : Str → Option Value} {news : List (Addr × Obj)} {K : Frag} {x C D f2 so : Addr} {ox : Obj} {odx : Option Obj}
theorem superAttr_fn {name : Str} {Q : Value → Shared → Prop} (F : Fr h₀ L s.heap m) (X₀ : K.In h₀) (N : News h₀ L s.heap news) (hso : (so, ks_superObj D x C) ∈ news) (I : InstAt s.heap x ox C odx) (ho : nsIn K cStatics "thirdparty.any" = some none)
    (hm : ks_superIn K C D name = some (some (.ref f2))) (ht : typeIn K (.ref f2) = some (.type "function")) (hn : (name == ("__class__" : Str)) = false)
    (h : ∀ q h', Fr h₀ L h' m → News h₀ L h' ((q, methodObj (.ref f2) (.ref x)) :: news) → (∀ p ∈ news, p.1 < q) → Q (.ref q) { s with heap := h', toks := s.toks + 1 }) : wpAny (model prog w) A (getAttr (.ref so) name true) Q E s := by
  have X : K.In s.heap := X₀.keeps F.keep
  obtain ⟨hh, g, d, t, os⟩ := s
  cases hc : clsIn K C with
  | none => unfold ks_superIn at hm; rw [hc] at hm; cases hm
  | some cd =>
    unfold ks_superIn at hm
    rw [hc] at hm
    obtain ⟨of, hof, hofc⟩ : ∃ of, hh.get? f2 = some of ∧ of.cls = .type "function" := by
      have ht' : (K.lookup f2).map (·.cls) = some (.type "function") := ht
      cases z : K.lookup f2 with
      | none => rw [z] at ht'; cases ht'
      | some of => rw [z] at ht'; exact ⟨of, X _ _ z, Option.some.inj ht'⟩
    refine attr_super (D := D) (x := x) (C := C) (r := hh.objs.size) (ro := methodObj (.ref f2) (.ref x)) (N _ hso).1 (fun tk => ks_wpAny_super_ga (N _ hso).1 (looks_opaque X ho) (l₀ := cd.mro) ?_ rfl X hm hof hofc (ks_ne X I hc) hn ⟨rfl, rfl⟩) rfl rfl ?_
    · exact fun A Q E s k q => wpAny_bind ((looks_clsIn X hc) A _ E s k (wpAny_pure q))
    · obtain ⟨F', N', l'⟩ := ks_newsPush (s := ⟨hh, g, d, t, os⟩) (o := methodObj (.ref f2) (.ref x)) F N rfl (Heap.get?_push_at rfl rfl) (fun b o e => Heap.get?_push_of_some _ e)
      exact h _ _ F' N' l'
theorem superAttr_oi {dx : Addr} {Q : Value → Shared → Prop} (F : Fr h₀ L s.heap m) (X₀ : K.In h₀) (N : News h₀ L s.heap news) (hso : (so, ks_superObj D x C) ∈ news) (hx : (x, instObj C dx) ∈ news) (ho : nsIn K cStatics "thirdparty.any" = some none)
    (hm : ks_superIn K C D "__init__" = some (some (.builtin "object.__init__"))) (hsub : mroIn K C (.type "object") = some true)
    (h : ∀ q h', Fr h₀ L h' m → News h₀ L h' ((q, wrapObj x) :: news) → (∀ p ∈ news, p.1 < q) → Q (.ref q) { s with heap := h', toks := s.toks + 1 }) : wpAny (model prog w) A (getAttr (.ref so) "__init__" true) Q E s := by
  have X : K.In s.heap := X₀.keeps F.keep
  have hx' := (N _ hx).1
  obtain ⟨hh, g, d, t, os⟩ := s
  cases hc : clsIn K C with
  | none => unfold ks_superIn at hm; rw [hc] at hm; cases hm
  | some cd =>
    unfold ks_superIn at hm
    rw [hc] at hm
    have hne : x ≠ C := by
      rintro rfl
      unfold clsIn at hc
      split at hc
      · rename_i c d cd' sl hl
        have e := X _ _ hl
        rw [hx'] at e
        cases e
      · cases hc
    refine attr_super (D := D) (x := x) (C := C) (r := hh.objs.size) (ro := wrapObj x) (N _ hso).1 (fun tk => ga_oi (N _ hso).1 (looks_opaque X ho) (l₀ := cd.mro) ?_ rfl X hm hne hx' (looks_mroIn X hsub) ⟨rfl, rfl⟩) rfl rfl ?_
    · exact fun A Q E s k q => wpAny_bind ((looks_clsIn X hc) A _ E s k (wpAny_pure q))
    · obtain ⟨F', N', l'⟩ := ks_newsPush (s := ⟨hh, g, d, t, os⟩) (o := wrapObj x) F N rfl (Heap.get?_push_at rfl rfl) (fun b o e => Heap.get?_push_of_some _ e)
      exact h _ _ F' N' l'
theorem call_super2 {cdD : ClassData} {Q : Value → Shared → Prop} (F : Fr h₀ L s.heap m) (X₀ : K.In h₀) (N : News h₀ L s.heap news) (I : InstAt s.heap x ox C odx) (hD : clsIn K D = some cdD) (hsub : mroIn K C (.ref D) = some true)
    (h : ∀ so h', Fr h₀ L h' m → News h₀ L h' ((so, ks_superObj D x C) :: news) → (∀ p ∈ news, p.1 < so) → Q (.ref so) { s with heap := h' }) : wpAny (model prog w) A (call (.type "super") [.ref D, .ref x]) Q E s := by
  have X : K.In s.heap := X₀.keeps F.keep
  obtain ⟨hh, g, d, t, os⟩ := s
  obtain ⟨oD, hD1, hD2⟩ : ∃ oD, hh.get? D = some oD ∧ oD.data = .cls cdD := by
    unfold clsIn at hD
    split at hD
    · rename_i c d cd' sl ho
      cases hD
      exact ⟨_, X _ _ ho, rfl⟩
    · cases hD
  refine ks_wpAny_call_super hD1 hD2 I.at_ I.cls (fun c e => ?_) (looks_mroIn X hsub) (fun h' e k => ?_)
  · have := I.no
    unfold notCls at this
    rw [e] at this
    exact Bool.noConfusion this
  · obtain ⟨F', N', l'⟩ := ks_newsPush (s := ⟨hh, g, d, t, os⟩) F N rfl e k
    exact h _ _ F' N' l'
theorem call_wrap {q : Addr} {Q : Value → Shared → Prop} (N : News h₀ L s.heap news) (hq : (q, wrapObj x) ∈ news) (h : Q .none s) : wpAny (model prog w) A (call (.ref q) [] []) Q E s := by
  have hx := (N _ hq).1
  refine wpAny_call (codeAny_of_tree ?_)
  show wpAny _ _ (callAny (.ref q) ⟨[], []⟩) _ _ _
  unfold callAny
  refine wpAny_bind (wpAny_load hx ?_)
  show wpAny _ _ (checkBoundCall "object.__init__" ⟨[.ref x], []⟩ >>= fun _ => again (.builtin "object.__init__" ⟨[.ref x], []⟩)) _ _ _
  refine wpAny_bind (wpAny_of_eq (F.bound_oi _) (wpAny_pure ⟨plainId_quiet oi_plain _, codeAny_builtin entry_oi ?_⟩))
  rw [oi_run]
  exact wpAny_pure h
theorem eval_superSS {env : Env} {o : Expr} {name : Str} {apos pos p1 p2 : Pos} {e1 e2 : Expr} {M : Model} {Q : Value → Shared → Prop}
    (h : wpAny M A (eval o env) (fun ov s₁ => wpAny M A (getAttr ov name true) (fun f s₂ => wpAny M A (callWith pos f [] (backTo pos (starEach [.Starred e1 p1] env)) (backToKw pos (keywordEach [⟨none, e2, p2⟩] env))) Q E s₂) E s₁) E s)
    (he : eval (.Call (.Attribute o name apos) [.Starred e1 p1] [⟨none, e2, p2⟩] pos) env = (do
      let ov ← eval o env
      standAt apos.atName
      methodCall o name apos pos env ov 2 (backTo pos (starEach [.Starred e1 p1] env)) (backToKw pos (keywordEach [⟨none, e2, p2⟩] env))) := by rfl)
    (hs : methodCallForm 2 (backTo pos (starEach [.Starred e1 p1] env)) (backToKw pos (keywordEach [⟨none, e2, p2⟩] env)) = false := by rfl) :
    wpAny M A (eval (.Call (.Attribute o name apos) [.Starred e1 p1] [⟨none, e2, p2⟩] pos) env) Q E s := by
  rw [he]
  refine wpAny_bind (wpAny_mono h (fun ov s₁ h₁ => wpAny_bind (wpAny_standAt ?_)) fun _ _ x => x)
  unfold methodCall
  rw [hs]
  refine wpAny_bind (wpAny_holding (wpAny_bind (wpAny_mono h₁ (fun f s₂ h₂ => wpAny_pure ?_) fun _ _ x => x)))
  exact wpAny_bind (wpAny_pure h₂)
end
end Mine

-- R5
namespace Mine
open PySem PySem.W PySem.Spec PySem.Calls PyProof.Rows PyProof.V
theorem boot_super : bootBuiltins (Str.ofString "super") = some (.type "super") := by kernel_rfl
section
variable {M : Model} {K : Frag} {h₀ h : Heap} {L : Addr} {news : List (Addr × Obj)}
theorem keeper_wrap {q x : Addr} (N : News h₀ L h news) (hq : (q, wrapObj x) ∈ news) : ∃ k, Looks M h (keeperOf (.ref q)) k := by
  refine ⟨.machine, (Looks.ld (part := none) (N _ hq).1).andThen ?_⟩
  exact .now
theorem keeper_meth {q f : Addr} {self : Value} (N : News h₀ L h news) (hq : (q, methodObj (.ref f) self) ∈ news) (X : K.In h) (hf : fnIn K f = true) : ∃ k, Looks M h (keeperOf (.ref q)) k :=
  let ⟨k, _, l⟩ := keeps_M (M := M) hf h (methP N hq X)
  ⟨k, l⟩
theorem keyStr_nil : KeyStr [] := fun _ h => nomatch h
theorem keyStr_cons {hs : Int} {x : Str} {t : Tok} {v : Value} {r : List DictEntry} (h : KeyStr r) : KeyStr (⟨hs, .str x t, v⟩ :: r) := fun e he => by
  rcases List.mem_cons.mp he with rfl | he
  · exact ⟨x, t, rfl⟩
  · exact h e he
theorem kwOf_nil : kwOf [] = [] := rfl
theorem kwOf_cons {hs : Int} {x : Str} {t : Tok} {v : Value} {r : List DictEntry} : kwOf (⟨hs, .str x t, v⟩ :: r) = (x, v) :: kwOf r := by simp [kwOf]
end
end Mine

-- R6
namespace Mine
open PySem PySem.W PySem.Spec PySem.Calls PyProof.Rows PyProof.V
section
variable {prog : Program} {w : World} {A : Around} {E : Value → Shared → Prop} {s : Shared} {h₀ : Heap} {L d a : Addr} {m : Str → Option Value} {news news' : List (Addr × Obj)} {es es' : List DictEntry} {n n' : Nat}
theorem getL_find {x : Str} {r : Option Value} (e : getL x es = some r) : findBy Value.isStrOf es.toArray x = r := by
  have q : (fun d : DictEntry => Value.isStrOf x d.key) = fun d => d.key.isStr x := funext fun d => (isStr_of x d.key).symm
  unfold findBy
  rw [List.find?_toArray, q]
  unfold getL at e
  split at e
  · rename_i e' h'; rw [h']; exact Option.some.inj e
  · rename_i h'
    rw [h']
    split at e
    · cases e
    · exact Option.some.inj e
theorem mapOf_X {h : Heap} (hd : h.get? a = some (dictOf es n)) (hk : KeysLit w.params es) : h.MapOf (strKind prog w) a (fun k => findBy Value.isStrOf es.toArray k) :=
  ⟨_, es.toArray, n, hd, ⟨rfl, rfl, rfl⟩, rfl, fun e he => by
    obtain ⟨x, t, e1, e2⟩ := hk.all e (by simpa using he)
    exact ⟨x, by rw [e1]; exact strKind_is prog w x t, e2⟩, fun _ => rfl⟩
theorem in_X {x : Str} {t : Tok} {r : Option Value} {Q : Value → Shared → Prop} (N : News h₀ L s.heap news) (ha : (a, dictOf es n) ∈ news) (hk : KeysLit w.params es) (lo : (a == sysModules) = false) (e : getL x es = some r)
    (h : Q (.bool r.isSome) { s with toks := s.toks + 1 }) : wpAny (model prog w) A (compareOp .In (.str x t) (.ref a)) Q E s :=
  wpAny_in_of (strKind_is prog w x t) lo (mapOf_X (N _ ha).1 hk) (by rw [getL_find e]; exact h)
theorem notin_X {x : Str} {t : Tok} {r : Option Value} {Q : Value → Shared → Prop} (N : News h₀ L s.heap news) (ha : (a, dictOf es n) ∈ news) (hk : KeysLit w.params es) (lo : (a == sysModules) = false) (e : getL x es = some r)
    (h : Q (.bool (!r.isSome)) { s with toks := s.toks + 1 }) : wpAny (model prog w) A (compareOp .NotIn (.str x t) (.ref a)) Q E s :=
  wpAny_notIn_of (strKind_is prog w x t) lo (mapOf_X (N _ ha).1 hk) (by rw [getL_find e]; exact h)
theorem item_X {value slice : Expr} {x : Str} {t : Tok} {v : Value} {Q : Value → Shared → Prop} (N : News h₀ L s.heap news) (ha : (a, dictOf es n) ∈ news) (hk : KeysLit w.params es) (e : getL x es = some (some v))
    (h : Q v { s with toks := s.toks + 1 })
    (hs : subscripted slice false (.ref a) (.str x t) = operate [.ref a, .str x t] (getItem (.ref a) (.str x t)) := by with_unfolding_all rfl) :
    wpAny (model prog w) A (subscriptTail value slice (.ref a) (.str x t)) Q E s :=
  have hm := mapOf_X (prog := prog) (N _ ha).1 hk
  tail_any hm.typeIs PySem.F.slot_dict_getitem.lookup (wpAny_getItem_of (strKind_is prog w x t) hm (getL_find e) h) hs
theorem new_X {env : Env} {pos : Pos} {Q : Value → Shared → Prop} (F : Fr h₀ L s.heap m) (N : News h₀ L s.heap news) (hbig : h₀.NoLimit)
    (h : ∀ d h', Fr h₀ L h' m → News h₀ L h' ((d, dictOf [] 0) :: news) → (∀ p ∈ news, p.1 < d) → (d == sysModules) = false → Q (.ref d) { s with heap := h' }) : wpAny (model prog w) A (eval (.Dict [] [] pos) env) Q E s :=
  wpAny_Dict_empty (h _ _ (F.push _) (News.push F N _) (fun p hp => Heap.lt_size (N p hp).1) (F.notModules (modules_low hbig)))
theorem dictSet_X {x : Str} {t : Tok} {v : Value} {Q : Unit → Shared → Prop} (ho : s.heap.get? d = some (dictOf es n)) (hk : KeysLit w.params es) (hz : es.length < sizeLine)
    (h : ∀ f : Obj → Obj, f (dictOf es n) = dictOf (putL x (PyData.keyHash w.params x) (.str x t) v es) (putN x es n) → Q () { s with heap := s.heap.update d f, toks := s.toks + 1 }) : wpAny (model prog w) A (dictSet d (.str x t) v) Q E s := by
  have hm := mapOf_X (prog := prog) ho hk
  obtain ⟨o, es₂, ep, ho₂, hc, hd, hk₂, hf⟩ := hm
  rw [ho] at ho₂
  cases ho₂
  cases hd
  have hkey := strKind_is prog w x t
  have p1 := putL_find x (PyData.keyHash w.params x) (.str x t) v es
  have p2 := any_of_findIdx x es
  have hq : es.toArray.findIdx? (fun e => (strKind prog w).is x e.key) = es.findIdx? (fun e => e.key.isStr x) := by
    rw [List.findIdx?_toArray]
    congr 1
    funext e
    exact (isStr_of x e.key).symm
  unfold dictSet
  try with_reducible refine wpAny_holding ?_
  refine wpAny_bind ((strKind prog w).pyHash hkey ?_)
  unfold dictSetHashed
  try with_reducible refine wpAny_holding ?_
  refine wpAny_bind (wpAny_dictFind_of (s := { s with toks := s.toks + 1 }) hkey ho rfl hk₂ ?_)
  rw [hq]
  cases hi : es.findIdx? fun e => e.key.isStr x with
  | some i =>
    rw [hi] at p1 p2
    refine wpAny_bind (wpAny_rule (wpAny_bind (wpAny_updateDict (s := { s with toks := s.toks + 1 }) ho rfl (wpAny_point (h _ ?_)))))
    have z : putN x es n = n := by show (if es.any (·.key.isStr x) then n else n + 1) = n; rw [← p2]; rfl
    show ({ cls := .type "dict", data := .dict (es.toArray.modify i _) n } : Obj) = _
    rw [z, ← p1]
    simp
  | none =>
    rw [hi] at p1 p2
    have z : putN x es n = n + 1 := by show (if es.any (·.key.isStr x) then n else n + 1) = n + 1; rw [← p2]; rfl
    refine wpAny_bind (wpAny_rule (wpAny_updateDictKeysTo (s := { s with toks := s.toks + 1 }) ho rfl (h _ ?_) (by simp; omega)))
    show ({ cls := .type "dict", data := .dict (es.toArray.push _) (n + 1) } : Obj) = _
    rw [z, ← p1]
    simp
    rfl
theorem set_X {x : Str} {t : Tok} {v : Value} {Q : Unit → Shared → Prop} (F : Fr h₀ L s.heap m) (N : News h₀ L s.heap news) (U : Upd d (dictOf es n) (dictOf es' n') news news') (hk : KeysLit w.params es)
    (e : (putL x (PyData.keyHash w.params x) (.str x t) v es, putN x es n) = (es', n')) (hz : es.length < sizeLine)
    (h : ∀ h', Fr h₀ L h' m → News h₀ L h' news' → Q () { s with heap := h', toks := s.toks + 1 }) : wpAny (model prog w) A (setItem (.ref d) (.str x t) v) Q E s := by
  obtain ⟨pre, post, rfl, rfl, h1, h2⟩ := U.split
  have hd := (N (d, dictOf es n) (by simp)).1
  have hT : s.TypeIs (.ref d) "dict" := ⟨_, hd, rfl⟩
  injection e with e1 e2
  unfold setItem
  try with_reducible refine wpAny_holding ?_
  refine wpAny_bind (wpAny_sequenceKey hT (by decide) ?_)
  refine wpAny_bind (wpAny_callSpecial?_slot (name := Str.ofString "__setitem__") hT PySem.slot_dict_setitem
    (wpAny_call_entry PySem.slot_dict_setitem hT PySem.entry_dict_setitem ?_ (PySem.args_dict_setitem _ _ _)))
  show wpAny _ _ (Builtin.Dict.notOrdered "__setitem__" ⟨[.ref d, .str x t, v], []⟩ >>= _) _ _ s
  refine wpAny_bind (wpAny_notOrdered_dict hT ?_)
  show wpAny _ _ (dictSet d (.str x t) v >>= _) _ _ s
  refine wpAny_bind (dictSet_X hd hk hz fun f hf => wpAny_pure ⟨.none, rfl, wpAny_pure ?_⟩)
  have U := news_upd (f := f) F N h1 h2 (hf.trans (by rw [e1, e2])) rfl
  exact h _ U.1 U.2
theorem get_X {x : Str} {t : Tok} {r : Option Value} {dflt : Value} {Q : Value → Shared → Prop} (N : News h₀ L s.heap news) (ha : (a, dictOf es n) ∈ news) (hk : KeysLit w.params es) (lo : (a == sysModules) = false) (e : getL x es = some r)
    (h : Q (r.getD dflt) { s with toks := s.toks + 1 }) : wpAny (model prog w) A (call (.builtin "dict.get") [.ref a, .str x t, dflt]) Q E s := by
  have hm := mapOf_X (prog := prog) (N _ ha).1 hk
  exact call_meetsIn PySem.F.slot_dict_get hm.typeIs PySem.F.entry_dict_get (PySem.F.args_dict_get_3 _ _ _) (meets_dict_get_default (strKind prog w) a (strKind_is prog w x t) lo dflt) ⟨_, hm, by rw [getL_find e]; exact h⟩
theorem meth_get_X {pl : Sem Bool} {Q : Value × List Value → Shared → Prop} (N : News h₀ L s.heap news) (ha : (a, dictOf es n) ∈ news) (h : Q (.builtin "dict.get", [.ref a]) s) : wpAny (model prog w) A (getMethod (.ref a) "get" pl) Q E s := by
  have hd := (N _ ha).1
  exact getMethod_builtin ⟨_, hd, rfl⟩ PySem.F.plainAttrs_dict PySem.F.slot_dict_get PySem.F.type_dict_get (fun b hb => by cases hb; exact ⟨_, hd, rfl⟩) h
theorem isDict_X (hk : KeysLit w.params es) (hn : ((kwOf es).map (·.1)).Nodup) : (dictOf es n).IsDictOf (strKind prog w) (kwOf es) := by
  refine ⟨es.toArray, n, ⟨rfl, rfl, rfl⟩, rfl, fun e he => ?_, ?_, hn⟩
  · obtain ⟨x, t, e1, e2⟩ := hk.all e (by simpa using he)
    exact ⟨x, by rw [e1]; exact strKind_is prog w x t, e2⟩
  · rw [List.toList_toArray]
    clear hn
    induction es with
    | nil => exact Pairs.nil
    | cons e r ih =>
      obtain ⟨⟨x, t, e1, e2⟩, hk⟩ := hk
      obtain ⟨hs, k, v⟩ := e
      dsimp only at e1
      subst e1
      rw [kwOf_cons]
      exact Pairs.cons (strKind_is prog w x t) rfl (ih hk)
end
section
variable {prog : Program} {w : World} {A : Around} {E : Value → Shared → Prop} {s : Shared} {env : Env} {h₀ : Heap} {target : Expr} {body : List Stmt} {Q : Flow → Shared → Prop} {d : Addr} {es : List DictEntry} {n : Nat}
theorem iter_X {m₀ : Str → Option Value} {news : List (Addr × Obj)} {xs : List Itm}
    (hh : A.handled = none) (F : Fr h₀ env.locals s.heap m₀) (N : News h₀ env.locals s.heap news) (hm : (d, dictOf es n) ∈ news) (lo : (d == sysModules) = false)
    (hk : KeysLit w.params es) (hn : ((kwOf es).map (·.1)).Nodup) (hx : (kwOf es).map (fun p => Itm.tok (fun t => .str p.1 t)) = xs)
    (rest₀ : ∀ I : Addr, (∀ p ∈ news, p.1 < I) → ItemsRest prog w A E h₀ env target body Q s [(I, "dict_keyiterator")] [(d, dictOf es n)] xs m₀ news) :
    wpAny (model prog w) A (pyIter (.ref d)) (fun it s₂ => TurnsAt prog w A h₀ env target body Q E it s₂) E s := by
  subst hx
  have hax := N _ hm
  have hdo : s.heap.DictOf (strKind prog w) d (kwOf es) := Heap.dictOf_iff.mpr ⟨_, hax.1, isDict_X hk hn⟩
  obtain ⟨ep, hat⟩ := hdo.dictAt
  have hne : d ≠ s.heap.objs.size := Nat.ne_of_lt hat.lt_size
  refine wpAny_pyIter_dict lo hat ?_
  refine ktu_core (tk0 := s.toks) (keep := [(d, dictOf es n)]) (KTurns.ofWalks (Walks.dictKeys (knd := strKind prog w) hh s.heap.objs.size d hne (kwOf es) ep) fun i v s Q E st q => letGo_keyiter st.1 q) (by rw [List.length_map]) ?_ ?_ ?_ ?_ ?_ ?_ ?_ ?_ (F.push _) (fun p hp => ⟨Heap.get?_push_of_some _ (N p hp).1, (N p hp).2⟩) (And.intro hm trivial) (rest₀ _ fun p hp => Heap.lt_size (N p hp).1)
  · rintro i v h ⟨k, x, hx, hk⟩
    refine ⟨.tok (fun t => .str k t), by rw [List.getElem?_map, hx]; rfl, ?_⟩
    cases v with
    | str y t =>
      have hk' : Value.isStrOf k (.str y t) = true := hk
      refine ⟨t, ?_⟩
      simp [Value.isStrOf] at hk'
      rw [hk']
    | _ => exact Bool.noConfusion (show false = true from hk)
  · rintro i h ⟨⟨oi, g, c, _⟩, _⟩
    exact ⟨[(s.heap.objs.size, oi)], ⟨⟨rfl, c⟩, trivial⟩, fun p hp => by rw [List.mem_singleton.mp hp]; exact g⟩
  · intro b hb
    have hb' : b = s.heap.objs.size := by simpa using hb
    rw [hb']
    exact ⟨List.mem_cons_self .., next_is_new F⟩
  · intro b hb
    simpa using hb
  · intro b hb
    have hb' : b = s.heap.objs.size ∨ b = d := by simpa using hb
    rcases hb' with e | e
    · exact .inl (by simp [e])
    · exact .inr ⟨dictOf es n, by subst e; exact List.mem_singleton.mpr rfl⟩
  · intro hI
    have hb' : env.locals = s.heap.objs.size ∨ env.locals = d := by simpa using hI
    rcases hb' with e | e
    · exact absurd F.ns.lt (e ▸ Nat.lt_irrefl _)
    · exact hax.2.1 e.symm
  · intro p hp hI
    exact absurd (Heap.lt_size (N p hp).1) ((List.mem_singleton.mp hI) ▸ Nat.lt_irrefl _)
  · exact ⟨⟨_, Heap.get?_push_size _ rfl, rfl, rfl⟩, hat.push _⟩
end
end Mine

-- Hd2
open PySem PySem.W PyProof.Rows
namespace MineH
set_option maxHeartbeats 8000000
open_top hd for PySem.Challenge.rw_bd5008_01
end MineH

-- G4
namespace Mine
open PySem PySem.W PySem.Calls PyProof.Rows
open PySem.Sem (wp)
section
variable {M : Model} {A : Around} {E : Value → Shared → Prop} {s : Shared} {env : Env}
theorem wpG_spliced_nil {Q : List Value → Shared → Prop} (h : Q [] s) : wpG M A (spliced []) Q E s := wpG_pure h
theorem wpG_spliced_cons {x : Sem Value} {rest : List (Bool × Sem Value)} {Q : List Value → Shared → Prop}
    (h : wpG M A x (fun v s₁ => wpG M A (spliced rest) (fun vs s₂ => Q (v :: vs) s₂) E s₁) E s) : wpG M A (spliced ((false, x) :: rest)) Q E s := by
  unfold spliced
  refine wpG_bind (wpG_mono h (fun v s₁ h₁ => ?_) fun _ _ z => z)
  refine wpG_bind (wpG_pure ?_)
  exact wpG_bind (wpG_holding (wpG_mono h₁ (fun vs s₂ h₂ => wpG_pure h₂) fun _ _ z => z))
theorem wpG_evalArgs {f : Value} {x : Sem Value} {rest : List (Bool × Sem Value)} {Q : Args → Shared → Prop}
    (h : wpG M A (spliced ((false, x) :: rest)) (fun vs s' => Q ⟨vs, []⟩ s') E s) : wpG M A (evalArgs f true ((false, x) :: rest) []) Q E s := by
  unfold evalArgs
  show wpG M A (spliced ((false, x) :: rest) >>= _) Q E s
  refine wpG_bind (wpG_mono h (fun vs s' h' => ?_) fun _ _ x => x)
  refine wpG_holding ?_
  exact wpG_bind (wpG_pure (wpG_bind (wpG_pure (wpG_pure h'))))
theorem callGG_of {P : Heap → Prop} {pos : Pos} {f : Value} {first : List Value} {Q : Value → Shared → Prop} {args : List (Bool × Sem Value)} {keywords : List (Option Str × Sem Value)} (hplain : (args.any (·.1) || keywords.any (·.1.isNone)) = false)
    (hk : ∀ h, P h → ∃ k, (k = Keeper.frame ∨ k = Keeper.machine ∨ k = Keeper.boundFrame) ∧ Looks M h (keeperOf f) k)
    (h : wpG M A (evalArgs f true args keywords) (fun a s₁ => P s₁.heap ∧ wpG M A (call f (first ++ a.pos) a.kw) Q E s₁) E s) : wpG M A (callWith pos f first args keywords) Q E s := by
  unfold callWith
  refine wpG_bind (wpG_holding (wpG_mono h (fun a s₁ h₁ => wpG_bind (wpG_standAt ?_)) fun _ _ x => x))
  obtain ⟨k, hk', L⟩ := hk _ h₁.1
  simp only [hplain]
  refine wpG_bind (wpG_of (L.here ?_))
  have tail : ∀ {t : Sem Value}, wpG M A t Q E s₁ → wpG M A (t >>= fun r => holding [r] point >>= fun _ => pure r) Q E s₁ :=
    fun ht => wpG_bind (wpG_mono ht (fun r s₂ hr => wpG_bind (wpG_holding (wpG_point (wpG_pure hr)))) fun _ _ x => x)
  have marked (mk : Value) : wpG M A (callMarked mk f (first ++ a.pos) a.kw) Q E s₁ := by unfold callMarked; exact wpG_keep h₁.2
  rcases hk' with rfl | rfl | rfl <;> dsimp only <;> first | exact tail h₁.2 | (split <;> first | exact tail h₁.2 | exact tail (marked _))
variable {pos : Pos} {first : List Value} {Q : Value → Shared → Prop}
theorem callGG_B {id : String} {e : Expr} {rest : List Expr} (h : wpG M A (spliced (backTo pos (starEach (e :: rest) env))) (fun vs s₁ => wpG M A (call (.builtin id) (first ++ vs)) Q E s₁) E s)
    (he : starEach (e :: rest) env = (false, eval e env) :: starEach rest env := by rfl) (hplain : (backTo pos (starEach rest env)).any (·.1) = false := by rfl) :
    wpG M A (callWith pos (.builtin id) first (backTo pos (starEach (e :: rest) env)) []) Q E s := by
  rw [he] at h ⊢
  exact callGG_of (P := fun _ => True) (by show ((false || (backTo pos (starEach rest env)).any (·.1)) || false) = false; rw [hplain]; rfl) (fun h _ => ⟨.machine, .inr (.inl rfl), Looks.of_pure rfl⟩) (wpG_evalArgs (wpG_mono h (fun _ _ z => ⟨trivial, z⟩) fun _ _ z => z))
theorem callGG_T {id : String} {e : Expr} {rest : List Expr} (h : wpG M A (spliced (backTo pos (starEach (e :: rest) env))) (fun vs s₁ => wpG M A (call (.type id) (first ++ vs)) Q E s₁) E s)
    (he : starEach (e :: rest) env = (false, eval e env) :: starEach rest env := by rfl) (hplain : (backTo pos (starEach rest env)).any (·.1) = false := by rfl) :
    wpG M A (callWith pos (.type id) first (backTo pos (starEach (e :: rest) env)) []) Q E s := by
  rw [he] at h ⊢
  exact callGG_of (P := fun _ => True) (by show ((false || (backTo pos (starEach rest env)).any (·.1)) || false) = false; rw [hplain]; rfl) (fun h _ => ⟨.machine, .inr (.inl rfl), Looks.of_pure rfl⟩) (wpG_evalArgs (wpG_mono h (fun _ _ z => ⟨trivial, z⟩) fun _ _ z => z))
theorem callG_T0 {id : String} (h : wpG M A (call (.type id) (first ++ [])) Q E s) : wpG M A (callWith pos (.type id) first (backTo pos (starEach [] env)) []) Q E s :=
  callGG_of (P := fun _ => True) rfl (fun h _ => ⟨.machine, .inr (.inl rfl), Looks.of_pure rfl⟩) (wpG_of (evalArgs_nil3 ⟨trivial, h⟩))
theorem callGG_K {K : Frag} {f : Value} {h₀ : Heap} {e : Expr} {rest : List Expr} (_X : K.In h₀) (hk : keepIn K f = true) (h : wpG M A (spliced (backTo pos (starEach (e :: rest) env))) (fun vs s₁ => K.In s₁.heap ∧ wpG M A (call f (first ++ vs)) Q E s₁) E s)
    (he : starEach (e :: rest) env = (false, eval e env) :: starEach rest env := by rfl) (hplain : (backTo pos (starEach rest env)).any (·.1) = false := by rfl) :
    wpG M A (callWith pos f first (backTo pos (starEach (e :: rest) env)) []) Q E s := by
  rw [he] at h ⊢
  exact callGG_of (by show ((false || (backTo pos (starEach rest env)).any (·.1)) || false) = false; rw [hplain]; rfl) (keeps_K hk) (wpG_evalArgs h)
theorem wpG_spl_nil {Q : List Value → Shared → Prop} (h : Q [] s) : wpG M A (spliced (backTo pos (starEach [] env))) Q E s := wpG_pure h
theorem wpG_spl_cons {e : Expr} {rest : List Expr} {Q : List Value → Shared → Prop}
    (h : wpG M A (eval e env) (fun v s₁ => wpG M A (spliced (backTo pos (starEach rest env))) (fun vs s₂ => Q (v :: vs) s₂) E s₁) E s)
    (he : starEach (e :: rest) env = (false, eval e env) :: starEach rest env := by rfl) : wpG M A (spliced (backTo pos (starEach (e :: rest) env))) Q E s := by
  rw [he]
  exact wpG_spliced_cons h
theorem wpG_Subscript {value slice pos} {Q : Value → Shared → Prop}
    (h : wpG M A (eval value env) (fun o s₁ => wpAny M A (eval slice env) (fun i s₂ => wpAny M A (subscriptTail value slice o i) Q E s₂) E s₁) E s) :
    wpG M A (eval (.Subscript value slice pos) env) Q E s := by
  rw [arm_eval_Subscript]
  exact wpG_bind (wpG_mono h (fun o s₁ h₁ => wpG_bind (wpG_holding (wpG_mono (wpG_of h₁) (fun i s₂ h₂ => wpG_bind (wpG_standAt (wpG_of h₂))) fun _ _ x => x))) fun _ _ x => x)
theorem wpG_Assign_Attribute {o value : Expr} {attr : Str} {pos' pos : Pos} {Q : Flow → Shared → Prop}
    (h : wpG M A (eval value env) (fun v s₁ => wpAny M A (eval o env) (fun ov s₂ => wpAny M A (setAttr ov attr v) (fun _ => Q .next) E s₂) E s₁) E s)
    (hs : swapsWith value (some (.Attribute o attr pos')) pos.line env = pure false := by rfl) :
    wpG M A (exec (.Assign [.Attribute o attr pos'] value pos) env) Q E s := by
  rw [plainObj_exec_Assign_Attribute o attr pos' value pos hs]
  refine wpG_bind (wpG_standAt (wpG_bind (wpG_mono h (fun v s₁ h₁ => ?_) fun _ _ z => z)))
  refine wpG_of (fun Γ p hΓ => ?_)
  simp only [assign_Attribute, Sem.wp_bind', Sem.wp_holding, Sem.wp_cmd_standAt, Sem.wp_release, Sem.wp_pure']
  exact Sem.wp_mono M Γ _ (fun ov _ s₂ h₂ => h₂ Γ _ hΓ) (fun _ _ _ h' => h') _ _ (h₁ Γ _ hΓ)
end
end Mine

-- G5
namespace Mine
open PySem PySem.W PySem.Spec PySem.Calls PyProof.Rows PyProof.V
section
variable {prog : Program} {w : World} {A : Around} {R : Result → Shared → Prop} {s : Shared}
theorem codeG_call_builtin_at {id : String} {args : Args} {b : Builtin} (hd : Builtin.Bytes.decodersThatHold.contains id = false) (hq : (Code.builtin id args).quiet = true) (hb : entryFor table id = some b)
    (h : wpAny (model prog w) A.in1 (checkBuiltinCall id args) (fun _ s₁ => wpG (model prog w) (A.under (.builtin id args)) (b args)
      (fun fin s' => match fin with | .done f => R (.ok f) s' | .again c' => c'.quiet = true ∧ codeG (model prog w) A c' R s') (fun e s' => R (.error e) s') s₁)
      (fun e s' => R (.error e) s') s) : codeG (model prog w) A (.call (.builtin id) args) R s := by
  refine codeG_of_tree rfl ?_
  show wpG _ A.in1 (do checkBuiltinCall id args; again (.builtin id args)) _ _ s
  exact wpG_bind (wpG_mono (wpG_of h) (fun _ s₁ h₁ => wpG_pure (And.intro hq (codeG_builtin hd hb h₁))) fun _ _ h' => h')
end
section
variable {prog : Program} {w : World} {A : Around} {K : Frag} {C : Addr} {R : Result → Shared → Prop} {h : Heap} {g : Array GenState} {d : Drawn} {t : Nat} {os : OsState}
theorem make_coreG {rest : List Value} {kw : List (Str × Value)} {init : Value} (Y : Makes (model prog w) h C) (hi : Looks (model prog w) h (typeLookup (.ref C) "__init__") (some init))
    (hb : ∀ self, Looks (model prog w) h (bindSpecial init self) (init, [self])) (hne : (some init != some (Value.builtin "object.__init__")) = true ∨ (rest = [] ∧ kw = []))
    (hq : codeG (model prog w) (A.under (.builtin "type.__call__" ⟨.ref C :: rest, kw⟩)) (.call init ⟨.ref (h.objs.size + 1) :: rest, kw⟩) (InitBack (h.objs.size + 1) R) ⟨(h.push emptyDict).push (instObj C h.objs.size), g, d, t, os⟩) :
    codeG (model prog w) A (.call (.ref C) ⟨rest, kw⟩) R ⟨h, g, d, t, os⟩ := by
  have Y' := Y
  obtain ⟨⟨oc, od, cd, sl, hC, e1, e2, e4⟩, made, base, self, top, call, typ⟩ := Y
  refine codeG_of_tree rfl (wpG_of ?_)
  show wpAny _ _ (callAny (.ref C) _) _ _ _
  refine nd_load hC ?_
  show wpAny _ _ (callAny.viaDunder (.ref C) _) _ _ _
  unfold callAny.viaDunder
  refine wpAny_bind (call.at ?_)
  dsimp only
  rw [tc_bind]
  refine wpAny_bind (wpAny_pure (wpAny_bind (wpAny_pure ?_)))
  refine wpAny_pure (a := Fin.again (.call (.builtin "type.__call__") ⟨.ref C :: rest, kw⟩)) (And.intro rfl ?_)
  refine codeG_call_builtin_at (by decide +kernel) (Code.quiet_builtin _ (by decide +kernel)) entry_typeCall (check_slot tc_kind tc_split typ (tc_args _ _ _) ?_)
  unfold Builtin.«type.__call__»
  have hm : Looks (model prog w) h (mroOf (.ref C)) cd.mro := ((Looks.ld (part := none) hC).andThen .now).andThen .now
  dsimp only
  refine wpG_if_false (by rfl) ?_
  refine wpG_bind (wpG_of (hm.at ?_))
  refine wpG_if_false e4 ?_
  refine wpG_bind (wpG_of (made.at ?_))
  refine wpG_bind (wpG_pure ?_)
  refine wpG_bind (wpG_holding (wpG_of (wpAny_call ?_)))
  refine new_K Y' hi hne ?_
  have k : ∀ b o, h.get? b = some o → ((h.push emptyDict).push (instObj C h.objs.size)).get? b = some o := fun b o e => Heap.get?_push_of_some _ (Heap.get?_push_of_some _ e)
  have hx : ((h.push emptyDict).push (instObj C h.objs.size)).get? (h.objs.size + 1) = some (instObj C h.objs.size) := by heap_get
  have t1 : Looks (model prog w) ((h.push emptyDict).push (instObj C h.objs.size)) (typeOf (.ref (h.objs.size + 1))) (.ref C) := (Looks.ld hx).andThen .now
  have s1 := self.keeps k
  have i1 := hi.keeps k
  have b1 := (hb (.ref (h.objs.size + 1))).keeps k
  have is1 : Looks (model prog w) ((h.push emptyDict).push (instObj C h.objs.size)) (isInstance (.ref (h.objs.size + 1)) (.ref C)) true := t1.andThen s1
  refine wpG_bind (wpG_of (is1.at ?_))
  refine wpG_if_false rfl ?_
  refine wpG_bind (wpG_holding ?_)
  unfold callSpecial?
  have sp1 : Looks (model prog w) ((h.push emptyDict).push (instObj C h.objs.size)) (specialOf (.ref (h.objs.size + 1)) (Str.ofString "__init__")) (some init) := t1.andThen i1
  refine wpG_bind (wpG_of (sp1.at ?_))
  refine wpG_holding ?_
  refine wpG_bind (wpG_of (b1.at ?_))
  refine wpG_bind (wpG_call ?_)
  refine codeG_mono hq fun r s' z => ?_
  rcases r with e | (v | _ | _ | _) <;> first | exact z | exact z.elim | skip
  obtain ⟨rfl, z⟩ := z
  exact wpG_pure (wpG_if_false rfl (wpG_pure z))
end
section
variable {prog : Program} {w : World} {A A₀ : Around} {E : Value → Shared → Prop} {K : Frag} {C x : Addr} {s : Shared} {h₀ : Heap} {L : Addr} {m : Str → Option Value} {news : List (Addr × Obj)} {R : Result → Shared → Prop}
theorem make_KG {rest : List Value} {kw : List (Str × Value)} {fI : Addr} (F : Fr h₀ L s.heap m) (N : News h₀ L s.heap news) (X : K.In s.heap) (hm : makesIn K C = true)
    (hi : findIn K (.ref C) "__init__" = some (some (.ref fI))) (hf : typeIn K (.ref fI) = some (.type "function"))
    (h : ∀ x dx h', Fr h₀ L h' m → News h₀ L h' ((x, instObj C dx) :: (dx, dictOf [] 0) :: news) → (∀ p ∈ news, p.1 < dx) → dx < x →
      codeG (model prog w) (A.under (.builtin "type.__call__" ⟨.ref C :: rest, kw⟩)) (.call (.ref fI) ⟨.ref x :: rest, kw⟩) (InitBack x R) { s with heap := h' }) :
    codeG (model prog w) A (.call (.ref C) ⟨rest, kw⟩) R s := by
  obtain ⟨hh, g, d, t, os⟩ := s
  refine make_coreG (makes_of X hm) (looks_findIn X hi) (fun self => bind_fn X self hf) (.inl rfl) (h _ hh.objs.size _ ((F.push _).push _) ?_ (fun p hp => Heap.lt_size (N p hp).1) (Nat.lt_succ_self _))
  have := (N.push F emptyDict).push (F.push _) (instObj C hh.objs.size)
  rwa [Heap.size_push] at this
end
section
variable {prog : Program} {w : World} {A A₀ : Around} {s : Shared} {K : Frag} {L : Addr} {h₀ base : Heap} {m mg mb : Str → Option Value} {news : List (Addr × Obj)} {p : Program} {loose : List Str} {mean : ExcName → Option Value}
theorem frameG {env : Env} {outer : List Env} {R : Result → Shared → Prop} {E : Value → Shared → Prop} {qual : Str} {body : List Stmt} {scope : Scope} {cl : List (Str × Addr)} {cdv : Value} {f : Addr} {binds : List (Str × Value)} (B : Below A₀ base outer h₀) (F : Fr h₀ L s.heap m) (N : News h₀ L s.heap news) (hlim : h₀.NoLimit) (hA : A.frames = some (env :: outer)) (hf : env.frame = some L) (hke : env.scope.kind = .function)
    (hloc : ∀ y ∈ binds, scope.names.lookup y.1 = some .local)
    (h : ∀ g L' h₁, Fr h₀ L g m → Fr g L' h₁ (fun y => binds.reverse.lookup y) → News g L' h₁ news → Below A base (env :: outer) g → h₀.StaysIn g →
      wpG (model prog w) (A.deeper (envX qual scope L' f cdv cl)) (execs body (envX qual scope L' f cdv cl))
        (fun fl s' => LeaveK h₀ L m g R (match fl with | .ret v => v | _ => .none) s')
        (fun e s' => wpAny (model prog w) (A.deeper (envX qual scope L' f cdv cl)) (leaving (envX qual scope L' f cdv cl) e) (fun _ s'' => R (.error e) s'') (fun e' s'' => R (.error e') s'') s')
        { s with heap := h₁, toks := s.toks + binds.length })
    (hcell : ∀ x ∈ scope.names, x.2 ≠ .cell) (hk : scope.kind = .function) :
    wpAny (model prog w) A.in1 (newFunctionEnv scope mainGlobals cl binds (qual ++ ".<locals>.") (some f) cdv none builtinsNs) (fun env' s₂ => s₂.heap.NoLimit ∧ codeG (model prog w) A (.func body env') R s₂) E s := by
  obtain ⟨FG, BG, st, lv⟩ := groundX (R := R) B F N hA hf hke
  refine wpAny_newFunctionEnv hcell hloc (fun h₁ hns hsb => ⟨(hlim.keeps F.keep).fresh _ hsb, codeG_func ?_⟩) hk
  have hk₁ : ∀ b o, s.heap.get? b = some o → h₁.get? b = some o := fun b o e => hsb.extBut b o (Nat.ne_of_lt (Heap.lt_size e)) (Heap.get?_push_of_some _ e)
  show wpG (model prog w) (A.deeper (envX qual scope s.heap.objs.size f cdv cl)) (execs body (envX qual scope s.heap.objs.size f cdv cl)) _ _ _
  exact wpG_mono (h _ s.heap.objs.size h₁ FG ⟨hns, fun b o e => hk₁ b o (of_hideAll _ e), Nat.le_of_eq (hideAll_size _ _)⟩
    (fun p hp => ⟨hk₁ _ _ (N p hp).1, Nat.ne_of_lt (Heap.lt_size (N p hp).1), hideAll_none _ (List.mem_map_of_mem hp)⟩) BG st) (fun fl s' hl => lv _ _ hl) fun _ _ y => y
theorem enter_bothG {env : Env} {outer : List Env} {R : Result → Shared → Prop} {name qual : Str} {params : Arguments} {body : List Stmt} {scope : Scope} {cl : List (Str × Addr)} {dV kV doc pm cdv ct oc : Value} {an od : Option Addr} {osl : Array (Option Value)} {f : Addr} {args : Args} {vs : List Value} {nm nr : Str} {ex front : List (Str × Value)} {g₁ : Addr → Sem (List (Str × Value))} {g₂ : Addr → Addr → Sem (List (Str × Value))}
    (B : Below A₀ base outer h₀) (F : Fr h₀ L s.heap m) (X₀ : K.In h₀) (N : News h₀ L s.heap news) (T : Top p loose mean mg mb h₀) (hA : A.frames = some (env :: outer)) (hf : env.frame = some L) (hke : env.scope.kind = .function)
    (ho : K.lookup f = some ⟨oc, od, .func (fnX name qual params body scope cl dV kV doc pm an cdv ct), osl⟩) (hcd : codeIn K cdv qual = true) (hroom : A.depth < recursionLimit)
    (_hv : args.pos.drop (params.posonlyargs.length + params.args.length) = vs) (_hx : args.kw.filter (fun x => !ownKw params x.1) = ex) (_hnr : params.vararg.map (·.arg) = some nr) (_hnm : params.kwarg.map (·.arg) = some nm) (hn : kwDistinct ex = true)
    (_hfr : peek K ⟨prog, w.params⟩ (bindArgs (fnCut (fnX name qual params body scope cl dV kV doc pm an cdv ct)) (argsCut params args)) = some front)
    (hp : peekA K ⟨prog, w.params⟩ (bindArgs (fnX name qual params body scope cl dV kV doc pm an cdv ct) args) = some (({ cls := .type "tuple", data := .seq vs.toArray } : Obj), g₁))
    (hp₂ : ∀ D, peekA K ⟨prog, w.params⟩ (g₁ D) = some (dictOf [] 0, g₂ D))
    (hk₂ : ∀ C D, g₂ C D = (forIn ex PUnit.unit (fun x _ => (nsSet D x.1 x.2 >>= fun _ => pure (ForInStep.yield PUnit.unit))) >>= fun _ => pure (front ++ [(nr, Value.ref C)] ++ [(nm, Value.ref D)])))
    (hloc : ∀ C D, ∀ y ∈ front ++ [(nr, Value.ref C)] ++ [(nm, Value.ref D)], scope.names.lookup y.1 = some .local)
    (h : ∀ C D g L' h₁ tk tk1, (∀ p ∈ news, p.1 < C) → C < D → (D == sysModules) = false → Fr h₀ L g m → Fr g L' h₁ (fun y => (front ++ [(nr, Value.ref C)] ++ [(nm, Value.ref D)]).reverse.lookup y) →
      News g L' h₁ ((D, dictOf (kwEs w.params tk1 ex) ex.length) :: (C, ({ cls := .type "tuple", data := .seq vs.toArray } : Obj)) :: news) → Below A base (env :: outer) g → K.In g → Top p loose mean mg mb g →
      wpG (model prog w) (A.deeper (envX qual scope L' f cdv cl)) (execs body (envX qual scope L' f cdv cl))
        (fun fl s' => LeaveK h₀ L m g R (match fl with | .ret v => v | _ => .none) s')
        (fun e s' => wpAny (model prog w) (A.deeper (envX qual scope L' f cdv cl)) (leaving (envX qual scope L' f cdv cl) e) (fun _ s'' => R (.error e) s'') (fun e' s'' => R (.error e') s'') s')
        { s with heap := h₁, toks := tk })
    (hco : scope.isCoroutine = false) (hgen : scope.isGenerator = false) (hk : scope.kind = .function)
    (hcell : ∀ x ∈ scope.names, x.2 ≠ .cell) : codeG (model prog w) A (.call (.ref f) args) R s := by
  have hn' := kwDistinct_nodup hn
  refine codeG_call_function (fd := fnX name qual params body scope cl dV kV doc pm an cdv ct) (body := body) hroom ((X₀.keeps F.keep) _ _ ho) rfl hco hgen rfl (codeRec_of (X₀.keeps F.keep) hcd) ?_
  refine wp_of_peekA (o := ({ cls := .type "tuple", data := .seq vs.toArray } : Obj)) F N (X₀.keeps F.keep) rfl _ g₁ hp fun h1 F1 N1 l1 => ?_
  refine wp_of_peekA (s := { s with heap := h1 }) (o := dictOf [] 0) F1 N1 (X₀.keeps F1.keep) rfl _ (g₂ s.heap.objs.size) (hp₂ _) fun h2 F2 N2 l2 => ?_
  rw [hk₂]
  refine wpAny_bind (kp_fill ex { s with heap := h2 } [] 0 F2 N2 (fun p hp => Nat.ne_of_lt (l2 p hp)) (fun _ he => nomatch he) (fun _ he => nomatch he) hn' fun h₃ F₃ N₃ => wpAny_pure ?_)
  rw [Nat.zero_add, List.nil_append] at N₃
  exact frameG (cl := cl) (s := { s with heap := h₃, toks := s.toks + ex.length }) B F₃ N₃ T.nolimit hA hf hke (hloc _ _)
    (fun g L' h₁ FG FL NG BG st => h _ _ g L' h₁ _ _ l1 (l2 _ (.head _)) (F1.notModules (modules_low T.nolimit)) FG FL NG BG (X₀.keeps st) (T.keeps st)) hcell hk
end
section
variable {prog : Program} {w : World} {A : Around} {E : Value → Shared → Prop} {s : Shared} {h₀ : Heap} {L a : Addr} {m : Str → Option Value} {news : List (Addr × Obj)}
theorem callGSS {env : Env} {f : Value} {first : List Value} {e1 e2 : Expr} {p1 p2 pos : Pos} {ta : Addr} {vs : List Value} {epoch : Nat} {es : List DictEntry} {Q : Value → Shared → Prop} (F : Fr h₀ L s.heap m) (N : News h₀ L s.heap news)
    (hx : wpAny (model prog w) A (eval e1 env) (fun v s₁ => v = .ref ta ∧ s₁ = s) E s)
    (hy : ∀ d h', Fr h₀ L h' m → News h₀ L h' ((d, dictOf [] 0) :: news) → wpAny (model prog w) A (eval e2 env) (fun v s₁ => v = .ref a ∧ s₁ = { s with heap := h' }) E { s with heap := h' })
    (ht : (ta, ({ cls := .type "tuple", data := .seq vs.toArray } : Obj)) ∈ news) (hvz : vs.length ≤ sizeLine) (ha : (a, dictOf es epoch) ∈ news)
    (hk : KeyStr es) (hn : NoTwice es = true) (hz : es.length ≤ sizeLine) (lo : (a == sysModules) = false)
    (hkp : ∀ d h', Fr h₀ L h' m → News h₀ L h' ((d, dictOf es es.length) :: news) → ∃ k, Looks (model prog w) h' (keeperOf f) k)
    (h : ∀ d h', Fr h₀ L h' m → News h₀ L h' ((d, dictOf es es.length) :: news) → (∀ p ∈ news, p.1 < d) → wpG (model prog w) A (call f (first ++ vs) (kwOf es)) Q E { s with heap := h' })
    (he1 : starEach [.Starred e1 p1] env = [(true, eval e1 env)] := by rfl) :
    wpG (model prog w) A (callWith pos f first (backTo pos (starEach [.Starred e1 p1] env)) (backToKw pos (keywordEach [⟨none, e2, p2⟩] env))) Q E s := by
  rw [he1]
  unfold callWith
  refine wpG_bind (wpG_holding (wpG_of (evalArgs_SS F N hx hy ht hvz ha hk hn hz lo fun d h' F' N' l => wpG_bind (wpG_standAt ?_))))
  obtain ⟨k, K⟩ := hkp d h' F' N'
  refine wpG_bind (wpG_of (K.here ?_))
  have tail : ∀ {t : Sem Value}, wpG (model prog w) A t Q E { s with heap := h' } → wpG (model prog w) A (t >>= fun r => holding [r] point >>= fun _ => pure r) Q E { s with heap := h' } :=
    fun ht => wpG_bind (wpG_mono ht (fun r s₂ hr => wpG_bind (wpG_holding (wpG_point (wpG_pure hr)))) fun _ _ x => x)
  have z := h d h' F' N' l
  have marked (mk : Value) : wpG (model prog w) A (callMarked mk f (first ++ vs) (kwOf es)) Q E { s with heap := h' } := by unfold callMarked; exact wpG_keep z
  cases k
  · exact tail (marked _)
  · exact tail (wpG_operating z)
  · exact tail (wpG_operating z)
  · exact tail (wpG_operating z)
theorem callG_meth {q : Addr} {f self : Value} {pos : List Value} {kw : List (Str × Value)} {Q : Value → Shared → Prop} (N : News h₀ L s.heap news) (hq : (q, methodObj f self) ∈ news)
    (h : codeG (model prog w) A (.call f ⟨self :: pos, kw⟩) (fun r s' => match r with | .ok (.ret v) => Q v s' | .ok _ => False | .error e => E e s') s) : wpG (model prog w) A (call (.ref q) pos kw) Q E s := by
  have ho := (N _ hq).1
  obtain ⟨hh, g, dr, t, os⟩ := s
  refine wpG_call (codeG_of_tree rfl (wpG_of ?_))
  show wpAny _ _ (callAny (.ref q) _) _ _ _
  dsimp only at ho
  refine nd_load ho ?_
  cases f <;> exact wpAny_pure ⟨rfl, h⟩
theorem evalG_superSS {env : Env} {o : Expr} {name : Str} {apos pos p1 p2 : Pos} {e1 e2 : Expr} {M : Model} {Q : Value → Shared → Prop}
    (h : wpAny M A (eval o env) (fun ov s₁ => wpAny M A (getAttr ov name true) (fun f s₂ => wpG M A (callWith pos f [] (backTo pos (starEach [.Starred e1 p1] env)) (backToKw pos (keywordEach [⟨none, e2, p2⟩] env))) Q E s₂) E s₁) E s)
    (he : eval (.Call (.Attribute o name apos) [.Starred e1 p1] [⟨none, e2, p2⟩] pos) env = (do
      let ov ← eval o env
      standAt apos.atName
      methodCall o name apos pos env ov 2 (backTo pos (starEach [.Starred e1 p1] env)) (backToKw pos (keywordEach [⟨none, e2, p2⟩] env))) := by rfl)
    (hs : methodCallForm 2 (backTo pos (starEach [.Starred e1 p1] env)) (backToKw pos (keywordEach [⟨none, e2, p2⟩] env)) = false := by rfl) :
    wpG M A (eval (.Call (.Attribute o name apos) [.Starred e1 p1] [⟨none, e2, p2⟩] pos) env) Q E s := by
  rw [he]
  refine wpG_bind (wpG_mono (wpG_of h) (fun ov s₁ h₁ => wpG_bind (wpG_standAt ?_)) fun _ _ x => x)
  unfold methodCall
  rw [hs]
  refine wpG_bind (wpG_holding (wpG_bind (wpG_mono (wpG_of h₁) (fun f s₂ h₂ => wpG_pure ?_) fun _ _ x => x)))
  exact wpG_bind (wpG_pure h₂)
end
end Mine

-- G6
namespace Mine
open PySem PySem.W PySem.Spec PySem.Calls PyProof.Rows PyProof.V
abbrev noE : Value → Shared → Prop := fun _ _ => False
section
variable {M : Model} {A : Around} {s : Shared}
theorem codeG_loop' {c : Code} {R : Result → Shared → Prop} (hd : isDec c = false) (hq : c.quiet = true) (I : Nat → Shared → Prop)
    (turn : ∀ n s, I n s → wpG M (A.under c) (M.den c)
      (fun fin s' => match fin with
        | .done f => R (.ok f) s'
        | .again c' => (c' = c ∧ ∃ m, m < n ∧ I m s') ∨ (c'.quiet = true ∧ codeG M A c' R s')) (fun e s' => R (.error e) s') s)
    (n : Nat) (h : I n s) : codeG M A c R s := by
  induction n using Nat.strongRecOn generalizing s with
  | ind n ih =>
    refine codeG_of_tree hd (wpG_mono (turn n s h) (fun fin s' hf => ?_) fun _ _ h' => h')
    cases fin with
    | done f => exact hf
    | again c' =>
      rcases hf with ⟨rfl, m, hm, hI⟩ | hf
      · exact ⟨hq, ih m hm hI⟩
      · exact hf
theorem wpG_falseE {α : Type} {t : Sem α} {Q : α → Shared → Prop} {E : Value → Shared → Prop} (h : wpG M A t Q noE s) : wpG M A t Q E s := wpG_mono h (fun _ _ x => x) fun _ _ x => x.elim
end
section
variable {prog : Program} {w : World} {A : Around} {s : Shared}
theorem codeG_forLoop {R : Flow → Shared → Prop} {target it body env} (I : Nat → Shared → Prop)
    (turn : ∀ n s, I n s → wpG (model prog w) A (pyNext it) (fun r s₁ => match r with
      | none => R .next s₁
      | some v => wpG (model prog w) A (assign target env v) (fun _ s₂ => wpG (model prog w) A (execs body env) (fun f s₃ => match f with
          | .next | .cont => ∃ m, m < n ∧ I m s₃
          | .brk => R .next s₃
          | .ret v => R (.ret v) s₃) noE s₂) noE s₁) noE s)
    (n : Nat) (h : I n s) (ht : ∀ v, letOwnedTupleGo target it v = pure () := by intro _; rfl) :
    codeG (model prog w) A (.forLoop target it body [] env) (fun r s' => match r with | .ok f => R f s' | .error _ => False) s := by
  refine codeG_loop' rfl rfl I (fun n s hI => ?_) n h
  show wpG _ _ ((forTurn target it body [] env).onRaise (fun x => do noteFrame x env; theTreesLotGoes x)) _ _ s
  refine wpG_onRaise (wpG_falseE ?_)
  simp only [forTurn]
  refine wpG_bind (wpG_standAt (wpG_bind (wpG_onRaise (wpG_mono (turn n s hI) (fun r s₁ h₁ => ?_) fun _ _ h' => h'.elim))))
  cases r with
  | none =>
    refine wpG_pure (.inr ⟨rfl, codeG_of_tree rfl ?_⟩)
    show wpG _ _ (do return Fin.done (← (execs [] env).onRaise (fun x => do noteFrame x env; theTreesLotGoes x))) _ _ s₁
    exact wpG_bind (wpG_onRaise (wpG_execs_nil (wpG_pure h₁)))
  | some v =>
    refine wpG_bind (wpG_of_eq (ht v) ?_)
    refine wpG_bind (wpG_mono h₁ (fun _ s₂ h₂ => wpG_bind (wpG_mono h₂ (fun f s₃ h₃ => ?_) fun _ _ h' => h')) fun _ _ h' => h')
    cases f with
    | next => exact wpG_pure (.inl ⟨rfl, h₃⟩)
    | cont => exact wpG_pure (.inl ⟨rfl, h₃⟩)
    | brk => exact wpG_pure h₃
    | ret v => exact wpG_pure h₃
theorem wpG_For {env : Env} {target iter body pos} {Q : Flow → Shared → Prop}
    (h : wpAny (model prog w) A (eval iter env) (fun x s₁ => wpAny (model prog w) A (pyIter x) (fun it s₂ =>
      codeG (model prog w) A (.forLoop target it body [] env) (fun r s' => match r with | .ok f => Q f s' | .error _ => False) s₂) noE s₁) noE s)
    (hs : ∀ x, foldedSetIterable iter env x = pure x := by intro _; rfl) :
    wpG (model prog w) A (exec (.For target iter body [] pos) env) Q noE s := by
  rw [exec_For]
  refine wpG_bind (wpG_standAt (wpG_bind (wpG_mono (wpG_of h) (fun x s₁ h₁ => wpG_bind (wpG_of_eq (hs x) (wpG_bind (wpG_standAt (wpG_bind (wpG_holding
    (wpG_mono (wpG_of h₁) (fun it s₂ h₂ => ?_) fun _ _ h' => h'))))))) fun _ _ h' => h')))
  unfold runOwn
  refine wpG_onRaise (wpG_falseE (wpG_run (codeG_mono h₂ fun r s' hr => ?_) (by intro x; cases x)))
  cases r <;> exact hr
def LoopEnd (h₀ : Heap) (L : Addr) (s : Shared) (l I : Addr) (o : Obj) (h₁ : Heap) (J : (Str → Option Value) → List (Addr × Obj) → Prop) (s₃ : Shared) : Prop :=
  ∃ h₂ tk₂ m₂ news₂, s₃ = { s with heap := h₂, toks := tk₂ } ∧ Fr h₀ L h₂ m₂ ∧ News h₀ L h₂ ((I, o) :: news₂) ∧ (∀ p ∈ news₂, p.1 ≠ I) ∧ (∀ o, h₁.get? l = some o → h₂.get? l = some o) ∧ J m₂ news₂
theorem LoopEnd.intro {h₀ : Heap} {L : Addr} {s : Shared} {l I : Addr} {o ol : Obj} {h₁ h₂ : Heap} {tk₂ : Nat} {m₂ : Str → Option Value} {news₁ news₂ : List (Addr × Obj)} {J : (Str → Option Value) → List (Addr × Obj) → Prop}
    (F : Fr h₀ L h₂ m₂) (N₁ : News h₀ L h₁ news₁) (N : News h₀ L h₂ news₂) (h1 : (l, ol) ∈ news₁) (h2 : (l, ol) ∈ news₂) {news₃ : List (Addr × Obj)} (sub : ∀ q ∈ news₃, q ∈ news₂) (ne : ∀ q ∈ news₃, q.1 ≠ I) (hI : (I, o) ∈ news₂) (hj : J m₂ news₃) :
    LoopEnd h₀ L s l I o h₁ J { s with heap := h₂, toks := tk₂ } :=
  ⟨h₂, tk₂, m₂, news₃, rfl, F, fun q hq => (List.mem_cons.mp hq).elim (fun h => N q (by rw [h]; exact hI)) fun h => N q (sub q h), ne,
    fun o' e => by have := (N₁ _ h1).1; rw [e] at this; rw [Option.some.inj this]; exact (N _ h2).1, hj⟩
theorem ne_iter {h₀ h : Heap} {L I : Addr} {o : Obj} {news : List (Addr × Obj)} (N : News h₀ L h news) (hI : h.get? I = some o) (hc : o.cls = .type "list_iterator") (hn : ∀ p ∈ news, p.2.cls ≠ .type "list_iterator") : ∀ p ∈ news, p.1 ≠ I := fun p hp e => hn p hp (by
  have z := (N p hp).1
  rw [e, hI] at z
  rw [← Option.some.inj z]
  exact hc)
/-- a loop over a list that stands still: the invariant is by the number of items taken -/
theorem forG_list {h₀ : Heap} {env : Env} {x : Str} {body : List Stmt} {Q : Flow → Shared → Prop} {l : Addr} {vs : List Value} {m : Str → Option Value} {news : List (Addr × Obj)} {pos : Pos}
    (hh : A.handled = none) (F : Fr h₀ env.locals s.heap m) (N : News h₀ env.locals s.heap news) (hl : s.heap.IsList l vs.toArray)
    (J : Nat → (Str → Option Value) → List (Addr × Obj) → Prop) (h0 : J 0 m news)
    (step : ∀ i v m₁ news₁ h₁ tk I o, vs[i]? = some v → J i m₁ news₁ → o.cls = .type "list_iterator" → (∀ p ∈ news₁, p.1 ≠ I) → Fr h₀ env.locals h₁ m₁ → News h₀ env.locals h₁ ((I, o) :: news₁) →
      wpAny (model prog w) A (storeName env x v) (fun _ s₂ => wpG (model prog w) A (execs body env) (fun f s₃ => match f with
          | .next | .cont => LoopEnd h₀ env.locals s l I o h₁ (J (i + 1)) s₃
          | .brk => Q .next s₃
          | .ret v => Q (.ret v) s₃) noE s₂) noE { s with heap := h₁, toks := tk })
    (done : ∀ m₁ news₁ h₁ tk, J vs.length m₁ news₁ → Fr h₀ env.locals h₁ m₁ → News h₀ env.locals h₁ news₁ → Q .next { s with heap := h₁, toks := tk }) :
    wpAny (model prog w) A (pyIter (.ref l)) (fun it s₂ => codeG (model prog w) A (.forLoop (.Name x pos) it body [] env) (fun r s' => match r with | .ok f => Q f s' | .error _ => False) s₂) noE s := by
  refine wpAny_pyIter_list hl ?_
  obtain ⟨ol, hol, _⟩ := id hl
  have hlz : l < s.heap.objs.size := Heap.lt_size hol
  have hls' : ∀ h' : Heap, (∀ o, s.heap.get? l = some o → h'.get? l = some o) → h'.IsList l vs.toArray := fun h' k => hl.at fun o e => k o e
  have W := Walks.list (prog := prog) (w := w) hh s.heap.objs.size l (Nat.ne_of_lt hlz) vs.toArray
  refine codeG_forLoop
    (fun k s' => ∃ h' tk m' news' i oi, s' = { s with heap := h', toks := tk } ∧ h'.get? s.heap.objs.size = some oi ∧ h'.IsListIter s.heap.objs.size l i ∧ (∀ o, s.heap.get? l = some o → h'.get? l = some o) ∧ Fr h₀ env.locals h' m' ∧ News h₀ env.locals h' news' ∧ (∀ p ∈ news', p.1 ≠ s.heap.objs.size) ∧ J i m' news' ∧ i ≤ vs.length ∧ k = vs.length + 1 - i) ?_ (vs.length + 1)
    ⟨_, s.toks, m, news, 0, _, rfl, Heap.get?_push_size _ rfl, ⟨_, Heap.get?_push_size _ rfl, rfl, rfl⟩, fun o e => Heap.get?_push_of_some _ e, F.push _, (fun p hp => ⟨Heap.get?_push_of_some _ (N p hp).1, (N p hp).2⟩), fun p hp => Nat.ne_of_lt (Heap.lt_size (N p hp).1), h0, Nat.zero_le _, rfl⟩
  rintro k s' ⟨h', tk, m', news', i, oi, rfl, hoi, hst, hkl, F', N', hne, hJ, hi, rfl⟩
  have hI0 : h₀.get? s.heap.objs.size = none := by
    cases q : h₀.get? s.heap.objs.size with
    | none => rfl
    | some o => exact absurd (Heap.lt_size q) (Nat.not_lt.mpr (Nat.le_trans F.above (Nat.le_of_lt F.ns.lt)))
  have hIL : s.heap.objs.size ≠ env.locals := fun e => absurd F.ns.lt (e ▸ Nat.lt_irrefl _)
  have next : ∀ h₁ : Heap, (∀ b o, b ∉ [s.heap.objs.size] → h'.get? b = some o → h₁.get? b = some o) → Fr h₀ env.locals h₁ m' ∧ News h₀ env.locals h₁ news' := fun h₁ hk₁ =>
    ⟨⟨F'.ns.at' fun o e => hk₁ _ o (by simpa using Ne.symm hIL) e, fun b o e => hk₁ b o (by simp; rintro rfl; rw [hI0] at e; cases e) (F'.keep b o e), F'.above⟩, fun p hp => ⟨hk₁ _ _ (by simpa using hne p hp) (N' p hp).1, (N' p hp).2⟩⟩
  by_cases hlt : i < vs.length
  · refine wpG_of (W.item i _ _ _ (by simpa using hlt) ⟨hst, hls' h' hkl⟩ fun v h₁ tk₁ hP hst₁ hk₁ => ?_)
    obtain ⟨F₁, N₁⟩ := next h₁ hk₁
    obtain ⟨o₁, ho₁, hc₁, _⟩ := id hst₁.1
    have hx : vs[i]? = some v := by simpa using hP
    have kl : ∀ o, s.heap.get? l = some o → h₁.get? l = some o := fun o e => hk₁ l o (by simp; exact Nat.ne_of_lt hlz) (hkl o e)
    have Nown : News h₀ env.locals h₁ [(s.heap.objs.size, o₁)] := fun p hp => by rw [List.mem_singleton.mp hp]; exact ⟨ho₁, hIL, hI0⟩
    have Z := step i v m' news' h₁ tk₁ s.heap.objs.size o₁ hx hJ hc₁ hne F₁ (fun p hp => (List.mem_cons.mp hp).elim (fun e => by rw [e]; exact Nown _ (.head _)) (N₁ p))
    refine wpG_of (wpAny_assign_Name (wpAny_mono Z (fun _ s₂ h₂ => wpG_mono h₂ (fun f s₃ h₃ => ?_) fun _ _ e => e) fun _ _ e => e))
    have fin : (∃ h₂ tk₂ m₂ news₂, s₃ = { s with heap := h₂, toks := tk₂ } ∧ Fr h₀ env.locals h₂ m₂ ∧ News h₀ env.locals h₂ ((s.heap.objs.size, o₁) :: news₂) ∧ (∀ p ∈ news₂, p.1 ≠ s.heap.objs.size) ∧ (∀ o, h₁.get? l = some o → h₂.get? l = some o) ∧ J (i + 1) m₂ news₂) →
        ∃ mm, mm < vs.length + 1 - i ∧ ∃ h' tk m' news' i oi, s₃ = { s with heap := h', toks := tk } ∧ h'.get? s.heap.objs.size = some oi ∧ h'.IsListIter s.heap.objs.size l i ∧ (∀ o, s.heap.get? l = some o → h'.get? l = some o) ∧ Fr h₀ env.locals h' m' ∧ News h₀ env.locals h' news' ∧ (∀ p ∈ news', p.1 ≠ s.heap.objs.size) ∧ J i m' news' ∧ i ≤ vs.length ∧ mm = vs.length + 1 - i := by
      rintro ⟨h₂, tk₂, m₂, news₂, rfl, F₂, N₂, ne₂, kl₂, hJ₂⟩
      have e₂ := (N₂ (s.heap.objs.size, o₁) (by simp)).1
      refine ⟨vs.length + 1 - (i + 1), by omega, h₂, tk₂, m₂, news₂, i + 1, o₁, rfl, e₂, ?_, fun o e => kl₂ o (kl o e), F₂, fun p hp => N₂ p (.tail _ hp), ne₂, hJ₂, hlt, rfl⟩
      obtain ⟨o', ho', hr⟩ := hst₁.1
      rw [ho₁] at ho'
      cases ho'
      exact ⟨_, e₂, hr⟩
    cases f with
    | ret v => exact h₃
    | brk => exact h₃
    | cont => exact fin h₃
    | next => exact fin h₃
  · have hin : i = vs.length := by omega
    subst hin
    refine wpG_of (W.done _ _ _ (by simpa using And.intro hst (hls' h' hkl)) fun h₁ tk₁ hk₁ => ?_)
    obtain ⟨F₁, N₁⟩ := next h₁ hk₁
    exact done m' news' h₁ tk₁ hJ F₁ N₁
end
end Mine

-- G7
namespace Mine
open PySem PySem.W PySem.Calls PyProof.Rows PyProof.V PySem.Spec
section
variable {prog : Program} {w : World} {A A₀ : Around} {s : Shared} {K : Frag} {L : Addr} {h₀ base : Heap} {m mg mb : Str → Option Value} {news : List (Addr × Obj)} {p : Program} {loose : List Str} {mean : ExcName → Option Value}
/-- entering a def whose end is said of the caller's frame itself -/
theorem code_endG {env : Env} {outer : List Env} {R : Result → Shared → Prop} {name qual : Str} {params : Arguments} {body : List Stmt} {scope : Scope} {cl : List (Str × Addr)} {dV kV doc pm cdv ct oc : Value} {an od : Option Addr} {osl : Array (Option Value)} {f : Addr} {args : Args} {binds : List (Str × Value)}
    (B : Below A₀ base outer h₀) (F : Fr h₀ L s.heap m) (X₀ : K.In h₀) (N : News h₀ L s.heap news) (T : Top p loose mean mg mb h₀) (hA : A.frames = some (env :: outer)) (hf : env.frame = some L) (hke : env.scope.kind = .function)
    (ho : K.lookup f = some ⟨oc, od, .func (fnX name qual params body scope cl dV kV doc pm an cdv ct), osl⟩) (hcd : codeIn K cdv qual = true) (hroom : A.depth < recursionLimit)
    (hbind : BindsTo s (fnX name qual params body scope cl dV kV doc pm an cdv ct) args binds) (hloc : ∀ y ∈ binds, scope.names.lookup y.1 = some .local)
    (h : ∀ g L' h₁, Fr h₀ L g m → Fr g L' h₁ (fun y => binds.reverse.lookup y) → News g L' h₁ news → Below A base (env :: outer) g → K.In g → Top p loose mean mg mb g → (∀ p ∈ news, p.1 < L') →
      wpG (model prog w) (A.deeper (envX qual scope L' f cdv cl)) (execs body (envX qual scope L' f cdv cl))
        (fun fl s' => R (.ok (.ret (match fl with | .ret v => v | _ => .none))) s')
        (fun e s' => wpAny (model prog w) (A.deeper (envX qual scope L' f cdv cl)) (leaving (envX qual scope L' f cdv cl) e) (fun _ s'' => R (.error e) s'') (fun e' s'' => R (.error e') s'') s')
        { s with heap := h₁, toks := s.toks + binds.length })
    (hcell : ∀ x ∈ scope.names, x.2 ≠ .cell) (hco : scope.isCoroutine = false := by rfl) (hgen : scope.isGenerator = false := by rfl) (hk : scope.kind = .function := by rfl) :
    codeG (model prog w) A (.call (.ref f) args) R s := by
  obtain ⟨FG, BG, st, _⟩ := groundX (R := R) B F N hA hf hke
  refine codeG_call_def (fd := fnX name qual params body scope cl dV kV doc pm an cdv ct) (body := body) (binds := binds) hroom ((X₀.keeps F.keep) _ _ ho) rfl (T.nolimit.keeps F.keep) (codeRec_of (X₀.keeps F.keep) hcd) rfl hbind hcell hloc (fun h₁ hns hk₁ => ?_) hco hgen hk
  exact h _ s.heap.objs.size h₁ FG ⟨hns, fun b o e => hk₁ b o (of_hideAll _ e), Nat.le_of_eq (hideAll_size _ _)⟩
    (fun p hp => ⟨hk₁ _ _ (N p hp).1, Nat.ne_of_lt (Heap.lt_size (N p hp).1), hideAll_none _ (List.mem_map_of_mem hp)⟩) BG (X₀.keeps st) (T.keeps st) (fun p hp => Heap.lt_size (N p hp).1)
end
section
variable {prog : Program} {w : World} {A₀ : Around} {E : Value → Shared → Prop} {s' : Shared} {h₀ h : Heap} {outer : List Env} {L a e : Addr} {m : Str → Option Value} {name : Str} {scope : Scope} {cd : Value}
  {b₀ : Stmt} {suite : List Stmt} {pos np : Pos} {rest : List ExceptHandler} {Q : Flow → Shared → Prop} {news : List (Addr × Obj)}
  {p : Program} {loose : List Str} {mean : ExcName → Option Value} {mg mb : Str → Option Value} {x : Str} {X T' : String} {KF : Frag}
/-- an exception of a built-in class is caught in a frame of which only the ground under the whole is known -/
theorem caught_G (hst : A₀.frames = some outer) (F : Fr h₀ L h m) (hsm : h.UpToSlots s'.heap) (R : RaisedN h₀ (envOf name scope L a cd :: outer) e (.type X) news s'.heap)
    (X₀ : KF.In h₀) (T : Top p loose mean mg mb h₀) (he : nsIn KF mainGlobals x = some none) (hv : bootBuiltins x = some (.type T'))
    (hexc : isSubtype (.type T') (.type "BaseException") = pure true) (hnt : isSubtype (.type ((Manifest.find? T').elim "type" fun y => y.metatype)) (.type "tuple") = pure false) (hsub : isSubtype (.type X) (.type T') = pure true)
    (k : ∀ h', s'.heap.UpToSlots h' → Fr h₀ L h' m → News h₀ L h' news →
      wpAny (model prog w) ((A₀.deeper (envOf name scope L a cd)).mark (some (.ref e))) (execs (b₀ :: suite) (envOf name scope L a cd)) Q E { s' with heap := h' })
    (hn : x ≠ "__name__" := by decide +kernel)
    (hk : scope.kind = .function := by rfl) (hx : (envOf name scope L a cd).kindOf x = some .globalImplicit := by rfl) (hd : (x == ("__debug__" : Str)) = false := by decide)
    (hE : PassesOwnAt (model prog w) ((A₀.deeper (envOf name scope L a cd)).mark (some (.ref e))) (A₀.deeper (envOf name scope L a cd)) (envOf name scope L a cd) E := by passes_own) :
    wpAny (model prog w) (A₀.deeper (envOf name scope L a cd)) (noteFrame (.ref e) (envOf name scope L a cd))
      (fun _ s₂ => wpAny (model prog w) (A₀.deeper (envOf name scope L a cd)) (setFlight (.ref e) none) (fun _ s₃ =>
        wpAny (model prog w) (A₀.deeper (envOf name scope L a cd)) (handleBy (.ref e) (envOf name scope L a cd) (.ExceptHandler (some (.Name x np)) none (b₀ :: suite) pos :: rest)) Q E s₃) E s₂) E s' := by
  obtain ⟨Bh, _, stB, inB, fly⟩ := R
  have frNone : Bh.get? L = none := by
    obtain ⟨_, ⟨Lf, _, ef, nf, _⟩, _⟩ := fly.2.2.1
    cases (Option.some.inj ef : L = Lf)
    exact nf
  refine wpAny_looks_onW (Around.frames_deeper hst) rfl fly fun hA heldA upA => wpAny_landsW heldA fun hB heldB upB => ?_
  have below := flyingW_base stB heldB
  have FB := F.of_stays below.1 (hsm.trans (upA.trans upB))
  obtain ⟨oe, ho, hc⟩ := below.there
  refine wpAny_handleBy_builtin (X := X) (T := T') (b := true) hexc hnt hsub (ld_builtin_at FB T.g (mg_none_of X₀ T.g he) T.b ((T.builtins x hn).trans hv) ⟨rfl, ⟨oe, ho, hc⟩, ?_⟩ hk hx hd)
  refine lands_againW heldB fun hC flyC upC => ?_
  have up := (upA.trans upB).trans upC
  refine wpAny_passesOwnAt hE (k hC up (F.of_stays (flyingW_base stB flyC).1 (hsm.trans up)) fun q hq => ?_)
  have got := (inB q hq).1
  exact ⟨flyC.1 _ _ got, (fun (z : q.1 = L) => by rw [z, frNone] at got; cases got), (inB q hq).2⟩
end
theorem Fr.down {base h₀ h : Heap} {L : Addr} {m : Str → Option Value} (F : Fr h₀ L h m) (st : base.StaysIn h₀) (hz : base.objs.size ≤ h₀.objs.size) : Fr base L h m := ⟨F.ns, fun b o e => F.keep b o (st b o e), Nat.le_trans hz F.above⟩
end Mine

-- G8
namespace Mine
open PySem PySem.W PySem.Calls PyProof.Rows PyProof.V PySem.Spec
section
variable {prog : Program} {w : World} {A₀ : Around} {s' : Shared} {h₀ h : Heap} {outer : List Env} {L a e : Addr} {m : Str → Option Value} {name : Str} {scope : Scope} {cd : Value}
  {n : Str} {b₀ : Stmt} {suite : List Stmt} {pos np : Pos} {rest : List ExceptHandler} {Q : Flow → Shared → Prop} {E : Value → Shared → Prop} {news : List (Addr × Obj)}
  {p : Program} {loose : List Str} {mean : ExcName → Option Value} {mg mb : Str → Option Value} {x : Str} {X T' : String} {KF : Frag}
/-- the same, with the exception under a name: it stands in the ledger too -/
theorem caught_GB (hst : A₀.frames = some outer) (F : Fr h₀ L h m) (hsm : h.UpToSlots s'.heap) (R : RaisedN h₀ (envOf name scope L a cd :: outer) e (.type X) news s'.heap)
    (X₀ : KF.In h₀) (T : Top p loose mean mg mb h₀) (he : nsIn KF mainGlobals x = some none) (hv : bootBuiltins x = some (.type T'))
    (hexc : isSubtype (.type T') (.type "BaseException") = pure true) (hnt : isSubtype (.type ((Manifest.find? T').elim "type" fun y => y.metatype)) (.type "tuple") = pure false) (hsub : isSubtype (.type X) (.type T') = pure true)
    (k : ∀ h' tk oe, oe.cls = .type X → Fr h₀ L h' (fun y => if y = n then some (.ref e) else m y) → News h₀ L h' ((e, oe) :: news) →
      wpAny (model prog w) ((A₀.deeper (envOf name scope L a cd)).mark (some (.ref e))) (execs (b₀ :: suite) (envOf name scope L a cd))
        (fun f s₄ => wpAny (model prog w) (A₀.deeper (envOf name scope L a cd)) (do bindName (envOf name scope L a cd) n .none; unbindBehindTheSuite (envOf name scope L a cd) n pos) (fun _ s₅ => Q f s₅) E s₄)
        (AsSuiteRaised (model prog w) ((A₀.deeper (envOf name scope L a cd)).mark (some (.ref e))) (envOf name scope L a cd) n pos (notedBy (model prog w) ((A₀.deeper (envOf name scope L a cd)).mark (some (.ref e))) (envOf name scope L a cd) (cameBackBy (model prog w) (A₀.deeper (envOf name scope L a cd)) (envOf name scope L a cd) E)))
        { s' with heap := h', toks := tk })
    (hn : x ≠ "__name__" := by decide +kernel)
    (hk : scope.kind = .function := by rfl) (hlo : (envOf name scope L a cd).kindOf n = some .local := by rfl) (hx : (envOf name scope L a cd).kindOf x = some .globalImplicit := by rfl) (hd : (x == ("__debug__" : Str)) = false := by decide) :
    wpAny (model prog w) (A₀.deeper (envOf name scope L a cd)) (noteFrame (.ref e) (envOf name scope L a cd))
      (fun _ s₂ => wpAny (model prog w) (A₀.deeper (envOf name scope L a cd)) (setFlight (.ref e) none) (fun _ s₃ =>
        wpAny (model prog w) (A₀.deeper (envOf name scope L a cd)) (handleBy (.ref e) (envOf name scope L a cd) (.ExceptHandler (some (.Name x np)) (some n) (b₀ :: suite) pos :: rest)) Q E s₃) E s₂) E s' := by
  obtain ⟨Bh, _, stB, inB, fly⟩ := R
  have frNone : Bh.get? L = none := by
    obtain ⟨_, ⟨Lf, _, ef, nf, _⟩, _⟩ := fly.2.2.1
    cases (Option.some.inj ef : L = Lf)
    exact nf
  refine wpAny_looks_onW (Around.frames_deeper hst) rfl fly fun hA heldA upA => wpAny_landsW heldA fun hB heldB upB => ?_
  have below := flyingW_base stB heldB
  have FB := F.of_stays below.1 (hsm.trans (upA.trans upB))
  obtain ⟨ob, ho, hc⟩ := below.there
  refine wpAny_handleBy_builtin_as (X := X) (T := T') (b := true) hexc hnt hsub (ld_builtin_at FB T.g (mg_none_of X₀ T.g he) T.b ((T.builtins x hn).trans hv) ⟨rfl, ⟨ob, ho, hc⟩, ?_⟩ hk hx hd)
  refine lands_againW heldB fun hC flyC upC => ?_
  have flyC' := flyingW_base stB flyC
  have FC := F.of_stays flyC'.1 (hsm.trans ((upA.trans upB).trans upC))
  obtain ⟨oe, ws, hoe, hoec, hoed, _⟩ := flyC'.first
  have NE : News h₀ L hC [(e, oe)] := News.more FC News.nil hoe (fun es n q => by rw [hoed] at q; cases q) flyC'.2.1
  have NC : News h₀ L hC ((e, oe) :: news) := fun q hq => by
    rcases List.mem_cons.mp hq with rfl | hq
    · exact NE _ (.head _)
    · have got := (inB q hq).1
      exact ⟨flyC.1 _ _ got, (fun (z : q.1 = L) => by rw [z, frNone] at got; cases got), (inB q hq).2⟩
  exact storeX_L (s := { s' with heap := hC }) FC NC (fun h7 F7 N7 => k h7 _ oe hoec F7 N7) hk hlo
end
end Mine

-- G9
namespace Mine
open PySem PySem.W PySem.Calls PyProof.Rows PySem.Builtin
open PySem.Sem (wp)
theorem ve_lk_class : typeLookup (.type "ValueError") "__class__" = pure (some (.builtin "object.__class__")) := by rw [typeLookup_type, builtinLookup_eq_fast]; kernel_rfl
theorem ve_sub_owner : isSubtype (.type "ValueError") (.type (".".intercalate ("object.__class__".cutAt '.').dropLast)) = pure true := by
  rw [PySem.F.owner_object_class, isSubtype_type]; kernel_rfl
section
variable {prog : Program} {w : World} {A : Around} {E : Value → Shared → Prop} {h : Heap} {g : Array GenState} {d : Drawn} {t : Nat} {os : OsState} {a : Addr} {o : Obj}
theorem ve_get {R : Result → Shared → Prop} (hx : h.get? a = some o) (hc : o.cls = .type "ValueError") (hq : R (.ok (.ret (.type "ValueError"))) ⟨h, g, d, t, os⟩) :
    codeAny (model prog w) A (.call (.builtin "getset_descriptor.__get__") ⟨[.builtin "object.__class__", .ref a, .type "ValueError"], []⟩) R ⟨h, g, d, t, os⟩ := by
  have hT : (⟨h, g, d, t, os⟩ : Shared).TypeIs (.ref a) "ValueError" := ⟨_, hx, hc⟩
  have hT5 : (⟨h, g, d, t, os⟩ : Shared).TypeIs (.builtin "object.__class__") "getset_descriptor" := PySem.F.typeOf_object_class
  have f8 := ve_sub_owner
  refine codeAny_call_builtin PySem.F.slot_gs_get.plain PySem.F.entry_gs_get (PySem.F.slot_gs_get.check _ _ _ _ _ _ _ _ hT5 (PySem.F.args_gs_get _ _ _) ?_)
  repeat (any_goals (first | assumption | wp_step))
  refine ⟨Code.quiet_builtin _ (by decide +kernel), codeAny_builtin PySem.F.entry_object_class ?_⟩
  repeat (any_goals (first | assumption | wp_step))
theorem ve_call {tk : Tok} {R : Result → Shared → Prop} (hx : h.get? a = some o) (hc : o.cls = .type "ValueError") (hq : R (.ok (.ret (.type "ValueError"))) ⟨h, g, d, t, os⟩) :
    codeAny (model prog w) A (.call (.builtin "BaseException.__getattribute__") ⟨[.ref a, .str "__class__" tk], []⟩) R ⟨h, g, d, t, os⟩ := by
  have hT : (⟨h, g, d, t, os⟩ : Shared).TypeIs (.ref a) "ValueError" := ⟨_, hx, hc⟩
  refine codeAny_call_builtin PySem.F.excAttr_ValueError.ga.plain PySem.F.entry_bexc_ga (PySem.F.excAttr_ValueError.ga.check _ _ _ _ _ _ _ _ hT (PySem.F.args_bexc_ga _ _) ?_)
  have hT5 : (⟨h, g, d, t, os⟩ : Shared).TypeIs (.builtin "object.__class__") "getset_descriptor" := PySem.F.typeOf_object_class
  have f4 := ve_lk_class
  have f5 := PySem.F.typeOf_object_class
  have f6 := PySem.F.slot_gs_get.lookup
  have f7 := PySem.F.slot_gs_set.lookup
  repeat (any_goals (first | assumption | wp_step))
  refine ve_get hx hc ?_
  repeat (any_goals (first | assumption | wp_step))
theorem ve_by {tk : Tok} {Q : Value → Shared → Prop} (hx : h.get? a = some o) (hc : o.cls = .type "ValueError") (hq : Q (.type "ValueError") ⟨h, g, d, t, os⟩) : wpAny (model prog w) A (getAttrBy (.ref a) (.str "__class__" tk) false) Q E ⟨h, g, d, t, os⟩ := by
  have hT : (⟨h, g, d, t, os⟩ : Shared).TypeIs (.ref a) "ValueError" := ⟨_, hx, hc⟩
  have f2 := PySem.F.excAttr_ValueError.ga.lookup
  have f3 := PySem.F.excAttr_ValueError.ga.bind (.ref a)
  repeat (any_goals (first | assumption | wp_step))
  refine ve_call hx hc ?_
  repeat (any_goals (first | assumption | wp_step))
theorem ve_attr {Q : Option Value → Shared → Prop} (hx : h.get? a = some o) (hc : o.cls = .type "ValueError") (hq : Q (some (.type "ValueError")) ⟨h, g, d, t + 1, os⟩) : wpAny (model prog w) A (getAttr? (.ref a) "__class__") Q E ⟨h, g, d, t, os⟩ := by
  unfold getAttr? getAttrBy?
  repeat (any_goals (first | assumption | with_reducible apply ve_by hx hc | wp_step))
end
theorem ve_cls {a : Addr} {prog : Program} {w : World} {A : Around} {E : Value → Shared → Prop} {Q : Option Value → Shared → Prop} {s : Shared} (p : ∃ o, s.heap.get? a = some o ∧ o.cls = .type "ValueError") (h : Q (some (.type "ValueError")) { s with toks := s.toks + 1 }) :
    wpAny (model prog w) A (getAttr? (.ref a) "__class__") Q E s := let ⟨_, h1, h2⟩ := p; by
  obtain ⟨hh, g, d, t, os⟩ := s
  exact ve_attr h1 h2 h
theorem exc_not {prog : Program} {w : World} {A : Around} {E : Value → Shared → Prop} {s : Shared} {h₀ : Heap} {L e C : Addr} {news : List (Addr × Obj)} {oe : Obj} {KF : Frag} {Q : Value → Shared → Prop} (N : News h₀ L s.heap news) (he : (e, oe) ∈ news) (hc : oe.cls = .type "ValueError") (X₀ : KF.In s.heap)
    (hi : isNotIn KF "ValueError" C = true) (h : Q (.bool false) { s with toks := s.toks + 1 }) : wpAny (model prog w) A (call (.builtin "isinstance") [.ref e, .ref C]) Q E s :=
  isn_call (P := fun h => ∃ o, h.get? e = some o ∧ o.cls = .type "ValueError") X₀ (fun M => (hc ▸ (Looks.ld (N _ he).1).andThen .now)) hi (by intro e; cases e) ⟨oe, (N _ he).1, hc⟩ ve_cls h
end Mine

-- G10
namespace Mine
open PySem PySem.W PySem.Calls PyProof.Rows
section
variable {M : Model} {A : Around} {E : Value → Shared → Prop} {s : Shared} {env : Env}
theorem wpG_IfG {test body orelse pos} {Q : Flow → Shared → Prop}
    (h : wpG M A (isTrue test env (eval test env)) (fun b s₂ => if b then wpG M A (execs body env) Q E s₂ else wpG M A (execs orelse env) Q E s₂) E s) :
    wpG M A (exec (.If test body orelse pos) env) Q E s := by
  rw [exec_If]
  refine wpG_bind (wpG_standAt (wpG_bind (wpG_mono h (fun b s₂ h₂ => ?_) fun _ _ z => z)))
  cases b <;> exact h₂
theorem trueG_not {x : Expr} {pos : Pos} {whole : Sem Value} {Q : Bool → Shared → Prop} (h : wpG M A (isTrue x env (eval x env)) (fun c s' => Q (!c) s') E s) : wpG M A (isTrue (.UnaryOp .Not x pos) env whole) Q E s := by
  show wpG M A (do return !(← isTrue x env (eval x env))) Q E s
  exact wpG_bind (wpG_mono h (fun c s' h' => wpG_pure h') fun _ _ x => x)
theorem trueG_and_nil {pos : Pos} {whole : Sem Value} {Q : Bool → Shared → Prop} (h : Q true s) : wpG M A (isTrue (.BoolOp .And [] pos) env whole) Q E s := wpG_pure (a := true) h
theorem trueG_or_nil {pos : Pos} {whole : Sem Value} {Q : Bool → Shared → Prop} (h : Q false s) : wpG M A (isTrue (.BoolOp .Or [] pos) env whole) Q E s := wpG_pure (a := false) h
theorem trueG_and {x : Expr} {rest : List Expr} {pos : Pos} {whole : Sem Value} {Q : Bool → Shared → Prop}
    (h : wpG M A (isTrue x env (eval x env)) (fun c s' => if c then wpG M A (isTrue (.BoolOp .And rest pos) env whole) Q E s' else Q false s') E s) :
    wpG M A (isTrue (.BoolOp .And (x :: rest) pos) env whole) Q E s := by
  show wpG M A (do
    match BoolOp.And, ← isTrue x env (eval x env) with
    | .And, false => pure false
    | .Or, true => pure true
    | _, _ => allTrue .And rest env) Q E s
  refine wpG_bind (wpG_mono h (fun c s' h' => ?_) fun _ _ x => x)
  cases c with
  | false => exact wpG_pure h'
  | true => exact h'
theorem trueG_or {x : Expr} {rest : List Expr} {pos : Pos} {whole : Sem Value} {Q : Bool → Shared → Prop}
    (h : wpG M A (isTrue x env (eval x env)) (fun c s' => if c then Q true s' else wpG M A (isTrue (.BoolOp .Or rest pos) env whole) Q E s') E s) :
    wpG M A (isTrue (.BoolOp .Or (x :: rest) pos) env whole) Q E s := by
  show wpG M A (do
    match BoolOp.Or, ← isTrue x env (eval x env) with
    | .And, false => pure false
    | .Or, true => pure true
    | _, _ => allTrue .Or rest env) Q E s
  refine wpG_bind (wpG_mono h (fun c s' h' => ?_) fun _ _ x => x)
  cases c with
  | false => exact h'
  | true => exact wpG_pure h'
theorem trueG_plain {e : Expr} {whole : Sem Value} {Q : Bool → Shared → Prop} (h : wpG M A whole (fun v s₁ => wpAny M A (truthy v) Q E s₁) E s)
    (he : isTrue e env whole = (do let v ← whole; standAt e.pos; holding [v] (truthy v)) := by rfl) : wpG M A (isTrue e env whole) Q E s := by
  rw [he]
  exact wpG_bind (wpG_mono h (fun v s₁ h₁ => wpG_bind (wpG_standAt (wpG_holding (wpG_of h₁)))) fun _ _ x => x)
theorem trueG_Compare {l r : Expr} {op : CmpOp} {pos : Pos} {whole : Sem Value} {Q : Bool → Shared → Prop}
    (h : wpG M A (eval l env) (fun a s₁ => wpG M A (eval r env) (fun b s₂ => wpAny M A (compareOp op a b)
      (fun c s₃ => wpAny M A (truthy c) Q E s₃) E s₂) E s₁) E s)
    (hm : behindInMarks op r = false := by with_unfolding_all rfl) : wpG M A (isTrue (.Compare l [op] [r] pos) env whole) Q E s := fun Γ p hΓ hC => by
  simp only [isTrue_Compare1, markedBehindIn_of_false hm, Sem.wp_bind', Sem.wp_holding, Sem.wp_cmd_standAt, Sem.wp_operate]
  exact Sem.wp_mono M Γ _ (fun a p₁ s₁ h₁ => Sem.wp_mono M Γ _ (fun b _ s₂ h₂ => Sem.wp_mono M Γ _ (fun c p₃ s₃ h₃ => h₃ Γ p₃ hΓ)
    (fun _ _ _ h' => h') _ _ (h₂ Γ _ hΓ)) (fun _ _ _ h' => h') _ _ (h₁ Γ p₁ hΓ hC)) (fun _ _ _ h' => h') _ _ (h Γ p hΓ hC)
end
end Mine

-- G11
namespace Mine
open PySem PySem.W PySem.Spec PySem.Calls PyProof.Rows PyProof.V
def KeepEnd (h₀ : Heap) (L : Addr) (s : Shared) (all : List (Addr × Obj)) (P : (Str → Option Value) → Prop) (s₃ : Shared) : Prop :=
  ∃ h₂ tk₂ m₂, s₃ = { s with heap := h₂, toks := tk₂ } ∧ Fr h₀ L h₂ m₂ ∧ News h₀ L h₂ all ∧ P m₂
theorem KeepEnd.intro {h₀ h₂ : Heap} {L : Addr} {s : Shared} {tk₂ : Nat} {m₂ : Str → Option Value} {all n2 : List (Addr × Obj)} {P : (Str → Option Value) → Prop} (F : Fr h₀ L h₂ m₂) (N : News h₀ L h₂ n2) (sub : ∀ q ∈ all, q ∈ n2) (hp : P m₂) :
    KeepEnd h₀ L s all P { s with heap := h₂, toks := tk₂ } := ⟨h₂, tk₂, m₂, rfl, F, fun q hq => N q (sub q hq), hp⟩
/-- a loop over a list, that leaves the ledger as it is -/
theorem forG_keep {prog : Program} {w : World} {A : Around} {s : Shared} {h₀ : Heap} {env : Env} {x : Str} {body : List Stmt} {Q : Flow → Shared → Prop} {l : Addr} {cn : Nat} {vs : List Value} {m : Str → Option Value} {news : List (Addr × Obj)} {pos : Pos}
    (hh : A.handled = none) (F : Fr h₀ env.locals s.heap m) (N : News h₀ env.locals s.heap news) (hl : (l, ({ cls := .type "list", data := .seq vs.toArray cn } : Obj)) ∈ news)
    (P : Nat → (Str → Option Value) → Prop) (h0 : P 0 m)
    (step : ∀ i v m₁ h₁ tk I o, vs[i]? = some v → P i m₁ → Fr h₀ env.locals h₁ m₁ → News h₀ env.locals h₁ ((I, o) :: news) →
      wpAny (model prog w) A (storeName env x v) (fun _ s₂ => wpG (model prog w) A (execs body env) (fun f s₃ => match f with
          | .next | .cont => KeepEnd h₀ env.locals s ((I, o) :: news) (P (i + 1)) s₃
          | .brk => Q .next s₃
          | .ret v => Q (.ret v) s₃) noE s₂) noE { s with heap := h₁, toks := tk })
    (done : ∀ m₁ h₁ tk, P vs.length m₁ → Fr h₀ env.locals h₁ m₁ → News h₀ env.locals h₁ news → Q .next { s with heap := h₁, toks := tk }) :
    wpAny (model prog w) A (pyIter (.ref l)) (fun it s₂ => codeG (model prog w) A (.forLoop (.Name x pos) it body [] env) (fun r s' => match r with | .ok f => Q f s' | .error _ => False) s₂) noE s := by
  refine forG_list (vs := vs) (news := news) hh F N ⟨_, (N _ hl).1, rfl, cn, rfl⟩ (fun i m' n' => n' = news ∧ P i m') ⟨rfl, h0⟩ ?_ ?_
  · rintro i v m₁ news₁ h₁ tk I o hv ⟨rfl, hp⟩ _ hne F₁ N₁
    refine wpAny_mono (step i v m₁ h₁ tk I o hv hp F₁ N₁) (fun _ s₂ h₂ => wpG_mono h₂ (fun f s₃ h₃ => ?_) fun _ _ e => e) fun _ _ e => e
    have fin : KeepEnd h₀ env.locals s ((I, o) :: news₁) (P (i + 1)) s₃ → LoopEnd h₀ env.locals s l I o h₁ (fun m' n' => n' = news₁ ∧ P (i + 1) m') s₃ := by
      rintro ⟨h₂, tk₂, m₂, rfl, F₂, N₂, hp₂⟩
      exact LoopEnd.intro F₂ N₁ N₂ (.tail _ hl) (.tail _ hl) (fun q hq => .tail _ hq) hne (.head _) ⟨rfl, hp₂⟩
    cases f with
    | next => exact fin h₃
    | cont => exact fin h₃
    | brk => exact h₃
    | ret v => exact h₃
  · rintro m₁ news₁ h₁ tk ⟨rfl, hp⟩ F₁ N₁
    exact done m₁ h₁ tk hp F₁ N₁
end Mine
namespace Mine
open PySem PySem.W PySem.Calls PyProof.Rows
theorem wpG_List {M : Model} {A : Around} {E : Value → Shared → Prop} {s : Shared} {env : Env} {elts : List Expr} {pos : Pos} {Q : Value → Shared → Prop}
    (h : wpG M A (spliced (backTo pos (starEach elts env))) (fun vs s₁ => wpAny M A (newList vs) Q E s₁) E s) : wpG M A (eval (.List elts pos) env) Q E s := by
  rw [arm_eval_List]
  exact wpG_bind (wpG_standAt (wpG_bind (wpG_mono h (fun vs s₁ h₁ => wpG_of h₁) fun _ _ x => x)))
end Mine

-- G12
namespace Mine
open PySem PySem.W PySem.Calls PyProof.Rows
theorem compEnd_new {h₀ : Heap} {L I C D d : Addr} {m : Str → Option Value} {s₁ : Shared} {oI oC oD od : Obj} {S : List (Addr × Obj) → Prop} {rest : Value → List (Addr × Obj) → Prop} {y : Value} {h' : Heap} {tk : Nat} {news : List (Addr × Obj)}
    (F : Fr h₀ L h' m) (N : News h₀ L h' ((d, od) :: (I, oI) :: (C, oC) :: (D, oD) :: news)) (o1 : ∀ p ∈ (I, oI) :: (C, oC) :: (D, oD) :: news, p.1 < d) (off : LCg.Off3 I C D news) (hS : S ((d, od) :: news)) (r : rest y ((d, od) :: news)) :
    LCg.CompEnd h₀ L m s₁ I oI C oC D oD S rest y { s₁ with heap := h', toks := tk } :=
  LCg.CompEnd.intro F N ((d, od) :: news) (fun p hp => by
    rcases List.mem_cons.mp hp with rfl | hp
    · exact .tail _ (.head _)
    rcases List.mem_cons.mp hp with rfl | hp
    · exact .tail _ (.tail _ (.head _))
    rcases List.mem_cons.mp hp with rfl | hp
    · exact .tail _ (.tail _ (.tail _ (.head _)))
    rcases List.mem_cons.mp hp with rfl | hp
    · exact .head _
    · exact .tail _ (.tail _ (.tail _ (.tail _ hp)))) ⟨⟨Nat.ne_of_gt (o1 _ (.head _)), Nat.ne_of_gt (o1 _ (.tail _ (.head _))), Nat.ne_of_gt (o1 _ (.tail _ (.tail _ (.head _))))⟩, off⟩ hS r
end Mine

-- NL
namespace Mine
open PySem PySem.W PySem.Spec PySem.Calls PyProof.Rows PySem.SeqAt
theorem reads_intsL {h : Heap} : ∀ {vs : List Value} {ns : List Int}, IntsAre vs ns → ReadsAll h vs (ns.map PyData.int) []
  | _, _, .nil => .nil
  | _, _, .cons n t r => ReadsAll.cons (.int n t) (reads_intsL r)
theorem reads_il {h₀ h : Heap} {L l : Addr} {news : List (Addr × Obj)} {vs : List Value} {c : Nat} {ns : List Int} (N : News h₀ L h news) (m : (l, sqObj "list" vs c) ∈ news) (i : IntsAre vs ns) : Reads h (.ref l) (.list (ns.map .int)) [l] :=
  reads_list_at (N _ m).1 rfl rfl (by simpa using reads_intsL i)
theorem nel4 {prog : Program} {w : World} {A : Around} {E : Value → Shared → Prop} {s : Shared} {h₀ : Heap} {L : Addr} {news : List (Addr × Obj)} {D X l1 l2 l3 l4 k1 k2 k3 k4 : Addr} {u1 u2 u3 u4 v1 v2 v3 v4 : List Value} {nD nX c1 c2 c3 c4 e1 e2 e3 e4 : Nat} {x y x' y' : Int} {Q : Value → Shared → Prop}
    (N : News h₀ L s.heap news) (mD : (D, sqObj "list" [.ref l1, .ref l2, .ref l3, .ref l4] nD) ∈ news) (mX : (X, sqObj "list" [.ref k1, .ref k2, .ref k3, .ref k4] nX) ∈ news)
    (m1 : (l1, sqObj "list" u1 c1) ∈ news) (m2 : (l2, sqObj "list" u2 c2) ∈ news) (m3 : (l3, sqObj "list" u3 c3) ∈ news) (m4 : (l4, sqObj "list" u4 c4) ∈ news)
    (p1 : (k1, sqObj "list" v1 e1) ∈ news) (p2 : (k2, sqObj "list" v2 e2) ∈ news) (p3 : (k3, sqObj "list" v3 e3) ∈ news) (p4 : (k4, sqObj "list" v4 e4) ∈ news)
    (i1 : IntsAre u1 [x, y]) (i2 : IntsAre u2 [x', y']) (i3 : IntsAre u3 []) (i4 : IntsAre u4 []) (j1 : IntsAre v1 [x, y]) (j2 : IntsAre v2 [x', y']) (j3 : IntsAre v3 []) (j4 : IntsAre v4 [])
    (hu : A.units + 64 < cLine) (h : Q (.bool false) s) : wpAny (model prog w) A (compareOp .NotEq (.ref D) (.ref X)) Q E s := by
  have sh : shaped (.list [.list [.int x, .int y], .list [.int x', .int y'], .list [], .list []]) = true := rfl
  have ra : Reads s.heap (.ref D) (.list [.list [.int x, .int y], .list [.int x', .int y'], .list [], .list []]) (D :: ([l1] ++ ([l2] ++ ([l3] ++ ([l4] ++ []))))) := reads_list_at (N _ mD).1 rfl rfl (ReadsAll.cons (reads_il N m1 i1) (ReadsAll.cons (reads_il N m2 i2) (ReadsAll.cons (reads_il N m3 i3) (ReadsAll.cons (reads_il N m4 i4) .nil))))
  have rb : Reads s.heap (.ref X) (.list [.list [.int x, .int y], .list [.int x', .int y'], .list [], .list []]) (X :: ([k1] ++ ([k2] ++ ([k3] ++ ([k4] ++ []))))) := reads_list_at (N _ mX).1 rfl rfl (ReadsAll.cons (reads_il N p1 j1) (ReadsAll.cons (reads_il N p2 j2) (ReadsAll.cons (reads_il N p3 j3) (ReadsAll.cons (reads_il N p4 j4) .nil))))
  refine ne_dataH ra rb sh sh hu ?_
  rw [eqv_refl _ (canLay_of_shaped sh)]
  exact h
end Mine

section
namespace Mine
open PySem PySem.W PyProof.Rows
set_option maxHeartbeats 8000000
local macro_rules | `(tactic| size_fits) => `(tactic| exact Nat.le_of_ble_eq_true rfl)
local macro_rules | `(tactic| walk_at "eval Name") => `(tactic| (k_here; k_dflt (refine' nameX_B ?F ?X ?T ?e ?v ?n ?_ ?a ?b; (case a => kernel_rfl!); (case b => kernel_rfl!); (case F => k_asm); (case X => k_asm); (case T => k_asm); (case e => k_is); (case v => first | boot_by_name | kernel_rfl); (case n => decide); k_whole)))
local macro_rules | `(tactic| walk_at "eval Name") => `(tactic| (k_here; k_dflt (refine' nameX_L ?F ?v ?_ ?a ?b; (case a => kernel_rfl!); (case b => kernel_rfl!); (case F => k_asm); (case v => rfl); k_whole)))
local macro_rules | `(tactic| walk_at "call builtin:_struct.pack") => `(tactic| (k_here; (with_reducible show wpAny _ _ (call _ [Value.str _ _, Value.int _ _]) _ _ _); first | refine pack_B (by decide) (by decide) ?_ | refine pack_H (by omega) (by omega) ?_ | refine pack_L (by omega) (by omega) ?_))
local macro_rules | `(tactic| k_enter) => `(tactic| (kp_kind "both"; (refine' enter_both ?k1 ?k2 ?k3 ?k4 ?k5 ?kA ?kF ?kK ?k6 ?k7 ?k8 ?kV ?kX ?kQ ?kM ?kN ?kR ?kP ?kS ?kT ?kB ?_ ?c2 ?c3 ?c4 ?c5; (case kA => exact rfl); (case kF => exact rfl); (case kK => exact rfl); (case k1 => k_asm); (case k2 => k_asm); (case k3 => k_asm); (case k4 => k_asm); (case k5 => k_asm); (case k6 => k_is); (case k7 => k_is); (case k8 => k_room); (case kV => kp_lit); (case kX => kp_lit); (case kQ => exact rfl); (case kM => exact rfl); (case kN => exact rfl); (case kR => exact rfl); (case kP => exact rfl); (case kS => exact fun _ => rfl); (case kT => exact fun _ _ => rfl); (case kB => exact fun _ _ => locs rfl); (case c5 => decide); (case c2 => exact rfl); (case c3 => exact rfl); (case c4 => exact rfl); k_whole; intro C' D' g' L' h' l1 l2 lo' FG' F' N' B' X' T'; (try k_lt l1); (try k_lt2 l2); (simp only [kwEs, List.length_cons, List.length_nil, Nat.zero_add, Nat.reduceAdd] at N'); (try dsimp only); (try k_lift B'); (try k_fold))))
local macro_rules | `(tactic| walk_at "eval Call") => `(tactic| (k_here; (with_reducible show wpAny _ _ (eval (Expr.Call (Expr.Attribute _ _ _) [Expr.Starred _ _] [Keyword.mk none _ _] _) _) _ _ _); refine eval_superSS ?_))
local macro_rules | `(tactic| walk_at "eval Call Attribute") => `(tactic| (k_here; (with_reducible show wpAny _ _ (eval (Expr.Call (Expr.Attribute _ _ _) [Expr.Starred _ _] [Keyword.mk none _ _] _) _) _ _ _); refine eval_superSS ?_))
local macro_rules | `(tactic| walk_at "call type:super") => `(tactic| (k_here; (with_reducible show wpAny _ _ (call (Value.type "super") [Value.ref _, Value.ref _]) _ _ _); k_dflt (refine' call_super2 ?k1 ?k2 ?k3 ?k5 ?k6 ?k7 ?_; (case k1 => k_asm); (case k2 => k_asm); (case k3 => k_asm); (case k5 => k_inst); (case k6 => k_is); (case k7 => k_is); k_whole; intro so' h' F' N' l1; (try k_lt l1))))
local macro_rules | `(tactic| walk_at "getAttr ref") => `(tactic| (k_here; (with_reducible show wpAny _ _ (getAttr (Value.ref _) (Str.ofString "__init__") _) _ _ _); k_dflt (first
  | (refine' superAttr_fn ?k1 ?k2 ?k3 ?k4 ?k5 ?k6 ?k7 ?k8 ?k9 ?_; (case k1 => k_asm); (case k2 => k_asm); (case k3 => k_asm); (case k4 => k_mem); (case k5 => k_inst); (case k6 => k_is); (case k7 => ks_is); (case k8 => k_is); (case k9 => decide); k_whole; intro q' h' F' N' l1; (try k_lt l1))
  | (refine' superAttr_oi ?k1 ?k2 ?k3 ?k4 ?k5 ?k6 ?k7 ?k8 ?_; (case k1 => k_asm); (case k2 => k_asm); (case k3 => k_asm); (case k4 => k_mem); (case k5 => k_mem); (case k6 => k_is); (case k7 => ks_is); (case k8 => k_is); k_whole; intro q' h' F' N' l1; (try k_lt l1)))))
local macro_rules | `(tactic| walk_at "callWith ref") => `(tactic| (k_here; (with_reducible show wpAny _ _ (callWith _ (Value.ref _) _ (backTo _ (starEach [Expr.Starred _ _] _)) (backToKw _ (keywordEach [Keyword.mk none _ _] _))) _ _ _); k_dflt (refine' callWith_SS ?k1 ?k2 ?k3 ?k4 ?k5 ?k6 ?k7 ?k8 ?k9 ?ka ?kb ?kc ?_; (case k1 => k_asm); (case k2 => k_asm); (case k3 => exact nameX_L (by k_asm) rfl ⟨rfl, rfl⟩); (case k4 => exact fun _ _ F _ => nameX_L F rfl ⟨rfl, rfl⟩); (case k5 => k_mem); (case k6 => (simp only [List.length_cons, List.length_nil, sizeLine_eq]; omega)); (case k7 => k_mem); (case k8 => first | exact keyStr_nil | (repeat (first | exact keyStr_nil | refine keyStr_cons ?_))); (case k9 => first | rfl | decide +kernel); (case ka => (simp only [List.length_cons, List.length_nil, sizeLine_eq]; omega)); (case kb => assumption); (case kc => first | exact fun _ _ F N => keeper_meth N (List.Mem.tail _ (by k_mem)) (Frag.In.keeps (by k_asm) (Fr.keep F)) (by k_is) | exact fun _ _ F N => keeper_wrap N (List.Mem.tail _ (by k_mem))); k_whole; intro d' h' F' N' l1; (try k_lt l1); (simp only [kwOf_cons, kwOf_nil, List.nil_append, List.length_cons, List.length_nil] at N' ⊢))))
local macro_rules | `(tactic| walk_at "call ref") => `(tactic| (k_here; (with_reducible show wpAny _ _ (call (Value.ref _) [] []) _ _ _); k_dflt (refine' call_wrap ?k1 ?k2 ?_; (case k1 => k_asm); (case k2 => k_mem))))
local macro_rules | `(tactic| walk_at "eval Name") => `(tactic| (k_here; (with_reducible show wpAny _ _ (eval (Expr.Name (Str.ofString "super") _) _) _ _ _); k_dflt (refine' nameX_B ?F ?X ?T ?e ?v ?n ?_ ?a ?b; (case F => k_asm); (case X => k_asm); (case T => k_asm); (case a => rfl); (case b => rfl); (case e => k_is); (case v => exact boot_super); (case n => decide); k_whole)))
local macro_rules | `(tactic| walk_at "eval Dict nil nil") => `(tactic| (k_here; k_dflt (refine' new_X ?F ?N (TopRead.nolimit (by k_asm)) ?_; (case F => k_asm); (case N => k_asm); k_whole); intro d' h' F' N' l1 lo'; (try k_lt l1); (try k_sweep)))
local macro_rules | `(tactic| walk_at "compareOp In str ref") => `(tactic| (k_here; (with_reducible show wpAny _ _ (compareOp CmpOp.In (Value.str _ _) (Value.ref _)) _ _ _); k_dflt (refine' in_X ?N ?a ?k ?l ?e ?_; (case N => k_asm); (case a => k_mem); (case k => k_keys); (case l => assumption); (case e => k_get); k_whole); (try dsimp only [Option.isSome])))
local macro_rules | `(tactic| walk_at "compareOp NotIn str ref") => `(tactic| (k_here; (with_reducible show wpAny _ _ (compareOp CmpOp.NotIn (Value.str _ _) (Value.ref _)) _ _ _); k_dflt (refine' notin_X ?N ?a ?k ?l ?e ?_; (case N => k_asm); (case a => k_mem); (case k => k_keys); (case l => assumption); (case e => k_get); k_whole); (try dsimp only [Option.isSome, Bool.not])))
local macro_rules | `(tactic| walk_at "subscriptTail") => `(tactic| (k_here; (with_reducible show wpAny _ _ (subscriptTail _ _ (Value.ref _) (Value.str _ _)) _ _ _); k_dflt (refine' item_X ?N ?a ?k ?e ?_; (case N => k_asm); (case a => k_mem); (case k => k_keys); (case e => k_get); k_whole)))
local macro_rules | `(tactic| walk_at "setItem ref str") => `(tactic| (k_here; (with_reducible show wpAny _ _ (setItem (Value.ref _) (Value.str _ _) _) _ _ _); k_dflt (refine' set_X ?F ?N ?U ?k ?e ?z ?_; (case F => k_asm); (case N => k_asm); (case U => k_upd); (case k => k_keys); (case e => k_put); (case z => (simp only [List.length_cons, List.length_nil, sizeLine_eq]; omega)); k_whole); intro h' F' N'; (try k_sweep)))
local macro_rules | `(tactic| walk_at "getMethod ref") => `(tactic| (k_here; (with_reducible show wpAny _ _ (getMethod (Value.ref _) (Str.ofString "get") _) _ _ _); k_dflt (refine' meth_get_X ?N ?a ?_; (case N => k_asm); (case a => k_mem); k_whole)))
local macro_rules | `(tactic| walk_at "call builtin:dict.get") => `(tactic| (k_here; (with_reducible show wpAny _ _ (call _ [Value.ref _, Value.str _ _, _]) _ _ _); k_dflt (refine' get_X ?N ?a ?k ?l ?e ?_; (case N => k_asm); (case a => k_mem); (case k => k_keys); (case l => assumption); (case e => k_get); k_whole); (try dsimp only [Option.getD])))
local macro_rules | `(tactic| walk_at "exec For Name Name cons nil") => `(tactic| (k_here; (with_reducible show wpAny _ _ (exec (Stmt.For (Expr.Name (Str.ofString "kw") _) (Expr.Name (Str.ofString "kwargs") _) _ _ _) _) _ _ _); (rename Fr _ _ _ _ => lF'); (rename News _ _ _ _ => lN'); (with_unfolding_all refine' For_turns lF' ?_); k_whole; k_dflt (refine' nameX_L lF' ?v ?_ ?a ?b; (case a => rfl); (case b => rfl); (case v => rfl)); (with_unfolding_all refine iter_X (by rfl) lF' lN' (by k_mem) (by assumption) (by k_keys) (by decide) rfl ?_); clear lF' lN'; intro i' l1; (try k_lt l1); simp only [kwOf_cons, kwOf_nil, List.map_cons, List.map_nil]))
local macro_rules | `(tactic| k_get) => `(tactic| assumption)
local macro_rules | `(tactic| walk_at "setAttr ref") => `(tactic| (k_here; (with_reducible show wpAny _ _ (setAttr (Value.ref _) (Str.ofString "pduData") _) _ _ _); k_dflt (refine' set_dict ?k1 ?k2 ?k3 ?k4 ?k5 ?k6 ?k7 ?k8 ?k9 ?k10 ?k11 ?k12 ?k13 ?_; (case k1 => k_asm); (case k2 => k_asm); (case k3 => k_asm); (case k4 => k_inst); (case k5 => exact rfl); (case k6 => k_is); (case k7 => k_is); (case k8 => k_is); (case k9 => k_is); (case k10 => exact some_of_eq (by assumption)); (case k11 => exact put_pair (by assumption)); (case k12 => k_upd); (case k13 => assumption); k_whole; intro h' F' N')))
local macro_rules | `(tactic| k_room) => `(tactic| (show _ < _; (try simp only [depth_deeper, depth_in1]); (try dsimp only); omega))
local macro_rules | `(tactic| k_all) => `(tactic| assumption)
local macro_rules | `(tactic| k_ne) => `(tactic| assumption)

section
theorem w_off39 : True := by
  w_top off
  trivial
-- C1

theorem put_c {w : World} {A₀ : Around} {base h₀ : Heap} {outer : List Env} {env : Env} {L : Addr} {m mg mb : Str → Option Value} {s : Shared} {news : List (Addr × Obj)} {p : Program} {loose : List Str} {mean : ExcName → Option Value} {R : Result → Shared → Prop} {dd uu : Nat}
    {one dx a C n : Nat} {es : List DictEntry} {b : Array UInt8} {y : Int} {t : Tok}
    (hC : C = 375 ∨ C = 453 ∨ C = 205) (B : Below A₀ base outer h₀) (F : Fr h₀ L s.heap m) (X : (MineH.hd.heap_39 w.params).In h₀) (T : Top p loose mean mg mb h₀)
    (N : News h₀ L s.heap ((one, instObj C dx) :: (dx, dictOf es n) :: (a, baObj b) :: news)) (hf : env.frame = some L) (hke : env.scope.kind = .function) (hdd : dd + 20 < recursionLimit) (huu : uu + 100 < cLine)
    (g1 : one ≠ dx) (g2 : one ≠ a) (g3 : dx ≠ a) (g4 : ∀ q ∈ news, q.1 ≠ a) (g5 : ∀ q ∈ news, q.1 ≠ dx) (g6 : a ≠ dx) (hes : es.length ≤ 1000)
    (e1 : getL (Str.ofString "pduData") es = some (some (.ref a))) (hz : b.size + 1 ≤ 100000) (y0 : 0 ≤ y) (y1 : y < 256)
    (h : ∀ h' tk, Fr h₀ L h' m → News h₀ L h' ((one, instObj C dx) :: (dx, dictOf es n) :: (a, baObj (b ++ #[y.toNat.toUInt8])) :: news) → R (.ok (.ret .none)) { s with heap := h', toks := tk }) :
    codeG (model PySem.Challenge.rw_bd5008_01.row.toRowW.prog w) (arnd dd uu (env :: outer)) (.call (.ref 181) ⟨[.ref one, .int y t], []⟩) R s := by
  revert X
  k_fill
  intro X
  rcases hC with rfl | rfl | rfl
  all_goals
    (refine' code_defG (cl := []) ?k1 ?k2 ?k3 ?k4 ?k5 ?kA ?kF ?kK ?k6 ?k7 ?k8 ?k9 ?kB ?_ ?c5 ?c2 ?c3 ?c4; (case kA => exact rfl); (case kF => exact hf); (case kK => exact hke); (case k1 => k_asm); (case k2 => k_asm); (case k3 => k_asm); (case k4 => k_asm); (case k5 => k_asm); (case k6 => k_is); (case k7 => k_is); (case k8 => show dd < _; omega); (case k9 => first | exact BindsTo.of_eq rfl | exact binds_K (by k_in) rfl (by k_is) rfl rfl rfl); (case c5 => decide); (case kB => exact locs rfl); (case c2 => exact rfl); (case c3 => exact rfl); (case c4 => exact rfl); k_whole; intro g' L' h' FG' F' N' B' X' T' l1'; (try dsimp only); (try k_lift B'); (try k_fold))
    generalize s.toks + _ = tk0
    refine wpG_execs_cons (wpG_AugAssign_AttributeAny ?_)
    repeat (first | (k_unfold; (try dsimp only)) | walk1 | (dsimp only; walk1))
    (refine' iaddBy_K ?g ?F ?N ?U ?v ?z ?_; (case g => exact rfl); (case F => k_asm); (case N => k_asm); (case v => exact .inl ⟨_, rfl⟩); (case U => k_upd); (case z => (rw [sizeLine_eq]; simp; omega)))
    intro h2 F2 N2
    repeat (first | (k_unfold; (try dsimp only)) | walk1 | (dsimp only; walk1))
    refine wpG_execs_nil ?_
    refine leaveK_ (by k_asm) (by k_asm) fun kF kN => h _ _ kF fun q hq => kN q (.tail _ hq)
end

section
theorem w_off40 : True := by
  w_top off
  trivial
local macro_rules | `(tactic| walk_at "call builtin:len") => `(tactic| (k_here; (with_reducible show wpAny _ _ (call (Value.builtin "len") [Value.ref _]) _ _ _); k_dflt (refine' len_K' ?N ?m ?z ?_; (case N => k_asm); (case m => k_mem); (case z => assumption); k_whole; intro _ _)))
local macro_rules | `(tactic| walk_at "subscriptTail") => `(tactic| (k_here; (with_reducible show wpAny _ _ (subscriptTail _ _ (Value.ref _) (Value.int _ _)) _ _ _); k_dflt (refine' tail0_K ?N ?m ?_ ?s; (case N => k_asm); (case m => k_mem); (case s => with_unfolding_all rfl); k_whole)))
local macro_rules | `(tactic| walk_at "subscriptTail") => `(tactic| (k_here; (with_reducible show wpAny _ _ (subscriptTail _ (Expr.Slice _ _ _ _) (Value.ref _) (Value.ref _)) _ _ _); k_dflt (refine' tailTo_K ?F ?N ?m ?z ?y ?_ ?s; (case F => k_asm); (case N => k_asm); (case m => k_mem); (case s => with_unfolding_all rfl); (case z => assumption); (case y => assumption); k_whole; intro d' h' F' N' l1; (try k_lt l1))))
local macro_rules | `(tactic| walk_at "wpG") => `(tactic| first | (with_reducible refine wpG_execs_nil ?_) | (with_reducible refine wpG_execs_cons ?_) | (with_reducible refine wpG_If ?_) | (with_reducible refine wpG_Delete1 ?_) | (with_reducible refine wpG_AugAssign_AttributeAny ?_))
local macro_rules | `(tactic| walk_at "ite") => `(tactic| first | (rw [if_neg (by first | assumption | (simp; done) | (simp; omega))]) | (rw [if_pos (by first | assumption | (simp; done) | (simp; omega))]))
-- C2

theorem get_ok {w : World} {A₀ : Around} {base h₀ : Heap} {outer : List Env} {env : Env} {L : Addr} {m mg mb : Str → Option Value} {s : Shared} {news : List (Addr × Obj)} {p : Program} {loose : List Str} {mean : ExcName → Option Value} {R : Result → Shared → Prop} {dd uu : Nat}
    {one dx a C n : Nat} {es : List DictEntry} {c : UInt8} {l : List UInt8}
    (hC : C = 375 ∨ C = 453) (B : Below A₀ base outer h₀) (F : Fr h₀ L s.heap m) (X : (MineH.hd.heap_39 w.params).In h₀) (T : Top p loose mean mg mb h₀)
    (hf : env.frame = some L) (hke : env.scope.kind = .function) (hdd : dd + 20 < recursionLimit) (huu : uu + 100 < cLine)
    (N : News h₀ L s.heap ((one, instObj C dx) :: (dx, dictOf es n) :: (a, baObj (c :: l).toArray) :: news))
    (g1 : one ≠ dx) (g2 : one ≠ a) (g3 : dx ≠ a) (g4 : ∀ q ∈ news, q.1 ≠ a) (g5 : ∀ q ∈ news, q.1 ≠ dx) (g6 : a ≠ dx) (hes : es.length ≤ 1000)
    (e1 : getL (Str.ofString "pduData") es = some (some (.ref a))) (hz : (c :: l).toArray.size ≤ sizeLine)
    (h : ∀ h' t tk, Fr h₀ L h' m → News h₀ L h' ((one, instObj C dx) :: (dx, dictOf es n) :: (a, baObj l.toArray) :: news) → R (.ok (.ret (.int c.toNat t))) { s with heap := h', toks := tk }) :
    codeG (model PySem.Challenge.rw_bd5008_01.row.toRowW.prog w) (arnd dd uu (env :: outer)) (.call (.ref 153) ⟨[.ref one], []⟩) R s := by
  revert X
  k_fill
  intro X
  rcases hC with rfl | rfl
  all_goals
    (refine' code_defG (cl := []) ?k1 ?k2 ?k3 ?k4 ?k5 ?kA ?kF ?kK ?k6 ?k7 ?k8 ?k9 ?kB ?_ ?c5 ?c2 ?c3 ?c4; (case kA => exact rfl); (case kF => exact hf); (case kK => exact hke); (case k1 => k_asm); (case k2 => k_asm); (case k3 => k_asm); (case k4 => k_asm); (case k5 => k_asm); (case k6 => k_is); (case k7 => k_is); (case k8 => show dd < _; omega); (case k9 => first | exact BindsTo.of_eq rfl | exact binds_K (by k_in) rfl (by k_is) rfl rfl rfl); (case c5 => decide); (case kB => exact locs rfl); (case c2 => exact rfl); (case c3 => exact rfl); (case c4 => exact rfl); k_whole; intro g' L' h' FG' F' N' B' X' T' l1'; (try dsimp only); (try k_lift B'); (try k_fold))
    generalize s.toks + _ = tk0
    repeat (first | (k_unfold; (try dsimp only)) | walk1 | (dsimp only; walk1))
    refine wpG_of ?_
    repeat (first | (k_unfold; (try dsimp only)) | walk1 | (dsimp only; walk1))
    (refine' del0_K ?g ?F ?N ?U ?z ?_; (case g => exact rfl); (case F => k_asm); (case N => k_asm); (case U => k_upd); (case z => (simpa using hz)))
    intro h2 F2 N2
    dsimp only
    repeat (first | (k_unfold; (try dsimp only)) | walk1 | (dsimp only; walk1))
    refine wpG_of ?_
    repeat (first | (k_unfold; (try dsimp only)) | walk1 | (dsimp only; walk1))
    refine h _ _ _ ?_ ?_ <;> assumption
theorem get_bad {w : World} {A₀ : Around} {base h₀ : Heap} {outer : List Env} {env : Env} {L : Addr} {m mg mb : Str → Option Value} {s : Shared} {news : List (Addr × Obj)} {p : Program} {loose : List Str} {mean : ExcName → Option Value} {R : Result → Shared → Prop} {dd uu : Nat}
    {one dx a C n : Nat} {es : List DictEntry}
    (hC : C = 375 ∨ C = 453) (B : Below A₀ base outer h₀) (F : Fr h₀ L s.heap m) (X : (MineH.hd.heap_39 w.params).In h₀) (T : Top p loose mean mg mb h₀)
    (hf : env.frame = some L) (hke : env.scope.kind = .function) (hdd : dd + 20 < recursionLimit) (huu : uu + 100 < cLine)
    (N : News h₀ L s.heap ((one, instObj C dx) :: (dx, dictOf es n) :: (a, baObj #[]) :: news))
    (g1 : one ≠ dx) (g2 : one ≠ a) (g3 : dx ≠ a) (g4 : ∀ q ∈ news, q.1 ≠ a) (g5 : ∀ q ∈ news, q.1 ≠ dx) (g6 : a ≠ dx) (hes : es.length ≤ 1000)
    (e1 : getL (Str.ofString "pduData") es = some (some (.ref a))) (hz : (#[] : Array UInt8).size ≤ sizeLine)
    (h : ∀ g h' e t vs tk, Fr h₀ L g m → g.UpToSlots h' → RaisedK base (env :: outer) e (.ref 69) t vs ((one, instObj C dx) :: (dx, dictOf es n) :: (a, baObj #[]) :: news) h' → R (.error (.ref e)) { s with heap := h', toks := tk }) :
    codeG (model PySem.Challenge.rw_bd5008_01.row.toRowW.prog w) (arnd dd uu (env :: outer)) (.call (.ref 153) ⟨[.ref one], []⟩) R s := by
  revert X
  k_fill
  intro X
  rcases hC with rfl | rfl
  all_goals
    (refine' code_defG (cl := []) ?k1 ?k2 ?k3 ?k4 ?k5 ?kA ?kF ?kK ?k6 ?k7 ?k8 ?k9 ?kB ?_ ?c5 ?c2 ?c3 ?c4; (case kA => exact rfl); (case kF => exact hf); (case kK => exact hke); (case k1 => k_asm); (case k2 => k_asm); (case k3 => k_asm); (case k4 => k_asm); (case k5 => k_asm); (case k6 => k_is); (case k7 => k_is); (case k8 => show dd < _; omega); (case k9 => first | exact BindsTo.of_eq rfl | exact binds_K (by k_in) rfl (by k_is) rfl rfl rfl); (case c5 => decide); (case kB => exact locs rfl); (case c2 => exact rfl); (case c3 => exact rfl); (case c4 => exact rfl); k_whole; intro g' L' h' FG' F' N' B' X' T' l1'; (try dsimp only); (try k_lift B'); (try k_fold))
    generalize s.toks + _ = tk0
    repeat (first | (k_unfold; (try dsimp only)) | walk1 | (dsimp only; walk1))
    refine wpG_of ?_
    repeat (first | (k_unfold; (try dsimp only)) | walk1 | (dsimp only; walk1))
    exact h _ _ _ _ _ _ FG' (by assumption) (by assumption)
theorem get_data_ok {w : World} {A₀ : Around} {base h₀ : Heap} {outer : List Env} {env : Env} {L : Addr} {m mg mb : Str → Option Value} {s : Shared} {news : List (Addr × Obj)} {p : Program} {loose : List Str} {mean : ExcName → Option Value} {R : Result → Shared → Prop} {dd uu : Nat}
    {one dx a C n : Nat} {es : List DictEntry} {b : Array UInt8} {k : Int} {tk0 : Tok}
    (hC : C = 375 ∨ C = 453) (B : Below A₀ base outer h₀) (F : Fr h₀ L s.heap m) (X : (MineH.hd.heap_39 w.params).In h₀) (T : Top p loose mean mg mb h₀)
    (hf : env.frame = some L) (hke : env.scope.kind = .function) (hdd : dd + 20 < recursionLimit) (huu : uu + 100 < cLine)
    (N : News h₀ L s.heap ((one, instObj C dx) :: (dx, dictOf es n) :: (a, baObj b) :: news))
    (g1 : one ≠ dx) (g2 : one ≠ a) (g3 : dx ≠ a) (g4 : ∀ q ∈ news, q.1 ≠ a) (g5 : ∀ q ∈ news, q.1 ≠ dx) (g6 : a ≠ dx) (hes : es.length ≤ 1000)
    (e1 : getL (Str.ofString "pduData") es = some (some (.ref a))) (hz : b.size ≤ sizeLine) (hk0 : 0 ≤ k) (hk : k ≤ b.size)
    (h : ∀ d h' tk, Fr h₀ L h' m → News h₀ L h' ((d, baObj (b.toList.take k.toNat).toArray) :: (one, instObj C dx) :: (dx, dictOf es n) :: (a, baObj (b.toList.drop k.toNat).toArray) :: news) → one < d ∧ dx < d ∧ a < d ∧ AllLt d news → R (.ok (.ret (.ref d))) { s with heap := h', toks := tk }) :
    codeG (model PySem.Challenge.rw_bd5008_01.row.toRowW.prog w) (arnd dd uu (env :: outer)) (.call (.ref 160) ⟨[.ref one, .int k tk0], []⟩) R s := by
  revert X
  k_fill
  intro X
  rcases hC with rfl | rfl
  all_goals
    (refine' code_defG (cl := []) ?k1 ?k2 ?k3 ?k4 ?k5 ?kA ?kF ?kK ?k6 ?k7 ?k8 ?k9 ?kB ?_ ?c5 ?c2 ?c3 ?c4; (case kA => exact rfl); (case kF => exact hf); (case kK => exact hke); (case k1 => k_asm); (case k2 => k_asm); (case k3 => k_asm); (case k4 => k_asm); (case k5 => k_asm); (case k6 => k_is); (case k7 => k_is); (case k8 => show dd < _; omega); (case k9 => first | exact BindsTo.of_eq rfl | exact binds_K (by k_in) rfl (by k_is) rfl rfl rfl); (case c5 => decide); (case kB => exact locs rfl); (case c2 => exact rfl); (case c3 => exact rfl); (case c4 => exact rfl); k_whole; intro g' L' h' FG' F' N' B' X' T' l1'; (try dsimp only); (try k_lift B'); (try k_fold))
    generalize s.toks + _ = tk0
    repeat (first | (k_unfold; (try dsimp only)) | walk1 | (dsimp only; walk1))
    refine wpG_of ?_
    repeat (first | (k_unfold; (try dsimp only)) | walk1 | (dsimp only; walk1))
    (refine' delTo_P ?g ?F ?N ?U ?z ?y ?_; (case g => exact rfl); (case F => k_asm); (case N => k_asm); (case U => k_upd); (case z => assumption); (case y => assumption))
    intro h2 F2 N2
    dsimp only
    repeat (first | (k_unfold; (try dsimp only)) | walk1 | (dsimp only; walk1))
    refine wpG_of ?_
    repeat (first | (k_unfold; (try dsimp only)) | walk1 | (dsimp only; walk1))
    exact h _ _ _ (by assumption) (by assumption) (by assumption)
theorem get_data_bad {w : World} {A₀ : Around} {base h₀ : Heap} {outer : List Env} {env : Env} {L : Addr} {m mg mb : Str → Option Value} {s : Shared} {news : List (Addr × Obj)} {p : Program} {loose : List Str} {mean : ExcName → Option Value} {R : Result → Shared → Prop} {dd uu : Nat}
    {one dx a C n : Nat} {es : List DictEntry} {b : Array UInt8} {k : Int} {tk0 : Tok}
    (hC : C = 375 ∨ C = 453) (B : Below A₀ base outer h₀) (F : Fr h₀ L s.heap m) (X : (MineH.hd.heap_39 w.params).In h₀) (T : Top p loose mean mg mb h₀)
    (hf : env.frame = some L) (hke : env.scope.kind = .function) (hdd : dd + 20 < recursionLimit) (huu : uu + 100 < cLine)
    (N : News h₀ L s.heap ((one, instObj C dx) :: (dx, dictOf es n) :: (a, baObj b) :: news))
    (g1 : one ≠ dx) (g2 : one ≠ a) (g3 : dx ≠ a) (g4 : ∀ q ∈ news, q.1 ≠ a) (g5 : ∀ q ∈ news, q.1 ≠ dx) (g6 : a ≠ dx) (hes : es.length ≤ 1000)
    (e1 : getL (Str.ofString "pduData") es = some (some (.ref a))) (hz : b.size ≤ sizeLine) (hk : b.size < k)
    (h : ∀ g h' e t vs tk, Fr h₀ L g m → g.UpToSlots h' → RaisedK base (env :: outer) e (.ref 69) t vs ((one, instObj C dx) :: (dx, dictOf es n) :: (a, baObj b) :: news) h' → R (.error (.ref e)) { s with heap := h', toks := tk }) :
    codeG (model PySem.Challenge.rw_bd5008_01.row.toRowW.prog w) (arnd dd uu (env :: outer)) (.call (.ref 160) ⟨[.ref one, .int k tk0], []⟩) R s := by
  revert X
  k_fill
  intro X
  rcases hC with rfl | rfl
  all_goals
    (refine' code_defG (cl := []) ?k1 ?k2 ?k3 ?k4 ?k5 ?kA ?kF ?kK ?k6 ?k7 ?k8 ?k9 ?kB ?_ ?c5 ?c2 ?c3 ?c4; (case kA => exact rfl); (case kF => exact hf); (case kK => exact hke); (case k1 => k_asm); (case k2 => k_asm); (case k3 => k_asm); (case k4 => k_asm); (case k5 => k_asm); (case k6 => k_is); (case k7 => k_is); (case k8 => show dd < _; omega); (case k9 => first | exact BindsTo.of_eq rfl | exact binds_K (by k_in) rfl (by k_is) rfl rfl rfl); (case c5 => decide); (case kB => exact locs rfl); (case c2 => exact rfl); (case c3 => exact rfl); (case c4 => exact rfl); k_whole; intro g' L' h' FG' F' N' B' X' T' l1'; (try dsimp only); (try k_lift B'); (try k_fold))
    generalize s.toks + _ = tk0
    repeat (first | (k_unfold; (try dsimp only)) | walk1 | (dsimp only; walk1))
    refine wpG_of ?_
    repeat (first | (k_unfold; (try dsimp only)) | walk1 | (dsimp only; walk1))
    exact h _ _ _ _ _ _ FG' (by assumption) (by assumption)
end

section
theorem w_off41 : True := by
  w_top off
  trivial
local macro_rules | `(tactic| walk_at "call builtin:len") => `(tactic| (k_here; (with_reducible show wpAny _ _ (call (Value.builtin "len") [Value.ref _]) _ _ _); k_dflt (refine' len_K' ?N ?m ?z ?_; (case N => k_asm); (case m => k_mem); (case z => assumption); k_whole; intro _ _)))
local macro_rules | `(tactic| walk_at "subscriptTail") => `(tactic| (k_here; (with_reducible show wpAny _ _ (subscriptTail _ _ (Value.ref _) (Value.int _ _)) _ _ _); k_dflt (refine' tail0_K ?N ?m ?_ ?s; (case N => k_asm); (case m => k_mem); (case s => with_unfolding_all rfl); k_whole)))
local macro_rules | `(tactic| walk_at "subscriptTail") => `(tactic| (k_here; (with_reducible show wpAny _ _ (subscriptTail _ (Expr.Slice _ _ _ _) (Value.ref _) (Value.ref _)) _ _ _); k_dflt (refine' tailTo_K ?F ?N ?m ?z ?y ?_ ?s; (case F => k_asm); (case N => k_asm); (case m => k_mem); (case s => with_unfolding_all rfl); (case z => assumption); (case y => assumption); k_whole; intro d' h' F' N' l1; (try k_lt l1))))
local macro_rules | `(tactic| walk_at "wpG") => `(tactic| first | (with_reducible refine wpG_execs_nil ?_) | (with_reducible refine wpG_execs_cons ?_) | (with_reducible refine wpG_If ?_) | (with_reducible refine wpG_Delete1 ?_) | (with_reducible refine wpG_AugAssign_AttributeAny ?_))
local macro_rules | `(tactic| walk_at "ite") => `(tactic| first | (rw [if_neg (by first | assumption | (simp; done) | (simp; omega))]) | (rw [if_pos (by first | assumption | (simp; done) | (simp; omega))]))
local macro_rules | `(tactic| walk_at "wpG") => `(tactic| first | (with_reducible refine wpG_spl_nil ?_))
local macro_rules | `(tactic| walk_at "call type:bytes") => `(tactic| (k_here; (with_reducible show wpAny _ _ (call (Value.type "bytes") [Value.ref _]) _ _ _); k_dflt (refine' bytesOf_K ?N ?m ?z ?_; (case N => k_asm); (case m => k_mem); (case z => (simp; omega)); k_whole)))
local macro_rules | `(tactic| walk_at "call builtin:_struct.unpack") => `(tactic| (k_here; k_dflt (first | (refine' unpackH_K ?F ?N ?z ?_; (case F => k_asm); (case N => k_asm); (case z => (simp; omega)); k_whole; intro d' h' n' tk' hn' F' N' l1; (try k_lt l1)) | (refine' unpackL_K ?F ?N ?z ?_; (case F => k_asm); (case N => k_asm); (case z => (simp; omega)); k_whole; intro d' h' n' tk' hn' F' N' l1; (try k_lt l1)))))
local macro_rules | `(tactic| walk_at "wpG") => `(tactic| (k_here; first | (with_reducible show wpG _ _ (call (Value.type "bytes") [Value.ref _]) _ _ _) | (with_reducible show wpG _ _ (call (Value.builtin "_struct.unpack") _) _ _ _); refine wpG_of ?_))
-- C3

theorem get_short_ok {w : World} {A₀ : Around} {base h₀ : Heap} {outer : List Env} {env : Env} {L : Addr} {m mg mb : Str → Option Value} {s : Shared} {news : List (Addr × Obj)} {p : Program} {loose : List Str} {mean : ExcName → Option Value} {R : Result → Shared → Prop} {dd uu : Nat}
    {one dx a C n : Nat} {es : List DictEntry} {b : Array UInt8}
    (hC : C = 375 ∨ C = 453) (B : Below A₀ base outer h₀) (F : Fr h₀ L s.heap m) (X : (MineH.hd.heap_39 w.params).In h₀) (T : Top p loose mean mg mb h₀)
    (hf : env.frame = some L) (hke : env.scope.kind = .function) (hdd : dd + 40 < recursionLimit) (huu : uu + 200 < cLine)
    (N : News h₀ L s.heap ((one, instObj C dx) :: (dx, dictOf es n) :: (a, baObj b) :: news))
    (g1 : one ≠ dx) (g2 : one ≠ a) (g3 : dx ≠ a) (g4 : ∀ q ∈ news, q.1 ≠ a) (g5 : ∀ q ∈ news, q.1 ≠ dx) (g6 : a ≠ dx) (hes : es.length ≤ 1000)
    (e1 : getL (Str.ofString "pduData") es = some (some (.ref a))) (e2 : getL (Str.ofString "get_data") es = some none) (hz : b.size ≤ sizeLine) (hk : 2 ≤ b.size)
    (h : ∀ h' v t tk, v = Builtin.Struct.natOf true (b.toList.take 2).toArray → Fr h₀ L h' m → News h₀ L h' ((one, instObj C dx) :: (dx, dictOf es n) :: (a, baObj (b.toList.drop 2).toArray) :: news) → R (.ok (.ret (.int v t))) { s with heap := h', toks := tk }) :
    codeG (model PySem.Challenge.rw_bd5008_01.row.toRowW.prog w) (arnd dd uu (env :: outer)) (.call (.ref 167) ⟨[.ref one], []⟩) R s := by
  revert X
  k_fill
  intro X
  rcases hC with rfl | rfl
  all_goals
    (refine' code_defG (cl := []) ?k1 ?k2 ?k3 ?k4 ?k5 ?kA ?kF ?kK ?k6 ?k7 ?k8 ?k9 ?kB ?_ ?c5 ?c2 ?c3 ?c4; (case kA => exact rfl); (case kF => exact hf); (case kK => exact hke); (case k1 => k_asm); (case k2 => k_asm); (case k3 => k_asm); (case k4 => k_asm); (case k5 => k_asm); (case k6 => k_is); (case k7 => k_is); (case k8 => show dd < _; omega); (case k9 => first | exact BindsTo.of_eq rfl | exact binds_K (by k_in) rfl (by k_is) rfl rfl rfl); (case c5 => decide); (case kB => exact locs rfl); (case c2 => exact rfl); (case c3 => exact rfl); (case c4 => exact rfl); k_whole; intro g' L' h' FG' F' N' B' X' T' l1'; (try dsimp only); (try k_lift B'); (try k_fold))
    generalize s.toks + _ = tk0
    refine wpG_execs_cons (wpG_Return_some (wpG_Subscript (wpG_Call_Name ?_)))
    repeat (first | (k_unfold; (try dsimp only)) | walk1 | (dsimp only; walk1))
    refine callGG_B (wpG_spl_cons (wpG_of ?_))
    repeat (first | (k_unfold; (try dsimp only)) | walk1 | (dsimp only; walk1))
    refine wpG_spl_cons (wpG_Call_Name ?_)
    repeat (first | (k_unfold; (try dsimp only)) | walk1 | (dsimp only; walk1))
    refine callGG_T (wpG_spl_cons (wpG_Call_Attr ?_))
    repeat (first | (k_unfold; (try dsimp only)) | walk1 | (dsimp only; walk1))
    (refine' callG_K ?X ?k ?_; (case X => k_asm); (case k => k_is); k_whole)
    repeat (first | (k_unfold; (try dsimp only)) | walk1 | (dsimp only; walk1))
    (refine' wpG_call (get_data_ok ?c ?B ?F ?X ?T ?f ?ke ?dd ?uu ?N g1 g2 g3 g4 g5 g6 hes e1 hz ?z ?k ?_); (case B => k_asm); (case F => k_asm); (case X => k_asm); (case T => k_asm); (case f => exact rfl); (case ke => exact rfl); (case dd => show dd + 1 + _ < _; omega); (case uu => show uu + 3 + _ < _; omega); (case N => k_asm); (case c => first | exact .inl rfl | exact .inr rfl); (case z => decide); (case k => omega))
    intro d2 h2 tk2 F2 N2 l2
    dsimp only
    refine wpG_spl_nil ?_
    refine wpG_of ?_
    repeat (first | (k_unfold; (try dsimp only)) | walk1 | (dsimp only; walk1))
    (rename News h₀ L _ _ => kN)
    exact h _ _ _ _ (by assumption) (by assumption) (by first | exact kN | exact fun q hq => kN q (.tail _ hq) | exact fun q hq => kN q (.tail _ (.tail _ hq)))

theorem get_short_bad {w : World} {A₀ : Around} {base h₀ : Heap} {outer : List Env} {env : Env} {L : Addr} {m mg mb : Str → Option Value} {s : Shared} {news : List (Addr × Obj)} {p : Program} {loose : List Str} {mean : ExcName → Option Value} {R : Result → Shared → Prop} {dd uu : Nat}
    {one dx a C n : Nat} {es : List DictEntry} {b : Array UInt8}
    (hC : C = 375 ∨ C = 453) (B : Below A₀ base outer h₀) (F : Fr h₀ L s.heap m) (X : (MineH.hd.heap_39 w.params).In h₀) (T : Top p loose mean mg mb h₀)
    (hf : env.frame = some L) (hke : env.scope.kind = .function) (hdd : dd + 40 < recursionLimit) (huu : uu + 200 < cLine)
    (N : News h₀ L s.heap ((one, instObj C dx) :: (dx, dictOf es n) :: (a, baObj b) :: news))
    (g1 : one ≠ dx) (g2 : one ≠ a) (g3 : dx ≠ a) (g4 : ∀ q ∈ news, q.1 ≠ a) (g5 : ∀ q ∈ news, q.1 ≠ dx) (g6 : a ≠ dx) (hes : es.length ≤ 1000)
    (e1 : getL (Str.ofString "pduData") es = some (some (.ref a))) (e2 : getL (Str.ofString "get_data") es = some none) (hz : b.size ≤ sizeLine) (hk : b.size < 2)
    (h : ∀ g h' e t vs tk, Fr h₀ L g m → g.UpToSlots h' → RaisedK base (env :: outer) e (.ref 69) t vs ((one, instObj C dx) :: (dx, dictOf es n) :: (a, baObj b) :: news) h' → R (.error (.ref e)) { s with heap := h', toks := tk }) :
    codeG (model PySem.Challenge.rw_bd5008_01.row.toRowW.prog w) (arnd dd uu (env :: outer)) (.call (.ref 167) ⟨[.ref one], []⟩) R s := by
  revert X
  k_fill
  intro X
  rcases hC with rfl | rfl
  all_goals
    (refine' code_defG (cl := []) ?k1 ?k2 ?k3 ?k4 ?k5 ?kA ?kF ?kK ?k6 ?k7 ?k8 ?k9 ?kB ?_ ?c5 ?c2 ?c3 ?c4; (case kA => exact rfl); (case kF => exact hf); (case kK => exact hke); (case k1 => k_asm); (case k2 => k_asm); (case k3 => k_asm); (case k4 => k_asm); (case k5 => k_asm); (case k6 => k_is); (case k7 => k_is); (case k8 => show dd < _; omega); (case k9 => first | exact BindsTo.of_eq rfl | exact binds_K (by k_in) rfl (by k_is) rfl rfl rfl); (case c5 => decide); (case kB => exact locs rfl); (case c2 => exact rfl); (case c3 => exact rfl); (case c4 => exact rfl); k_whole; intro g' L' h' FG' F' N' B' X' T' l1'; (try dsimp only); (try k_lift B'); (try k_fold))
    generalize s.toks + _ = tk0
    refine wpG_execs_cons (wpG_Return_some (wpG_Subscript (wpG_Call_Name ?_)))
    repeat (first | (k_unfold; (try dsimp only)) | walk1 | (dsimp only; walk1))
    refine callGG_B (wpG_spl_cons (wpG_of ?_))
    repeat (first | (k_unfold; (try dsimp only)) | walk1 | (dsimp only; walk1))
    refine wpG_spl_cons (wpG_Call_Name ?_)
    repeat (first | (k_unfold; (try dsimp only)) | walk1 | (dsimp only; walk1))
    refine callGG_T (wpG_spl_cons (wpG_Call_Attr ?_))
    repeat (first | (k_unfold; (try dsimp only)) | walk1 | (dsimp only; walk1))
    (refine' callG_K ?X ?k ?_; (case X => k_asm); (case k => k_is); k_whole)
    repeat (first | (k_unfold; (try dsimp only)) | walk1 | (dsimp only; walk1))
    (refine' wpG_call (get_data_bad (k := 2) ?c ?B ?F ?X ?T ?f ?ke ?dd ?uu ?N g1 g2 g3 g4 g5 g6 hes e1 hz ?k ?_); (case B => k_asm); (case F => k_asm); (case X => k_asm); (case T => k_asm); (case f => exact rfl); (case ke => exact rfl); (case dd => show dd + 1 + _ < _; omega); (case uu => show uu + 3 + _ < _; omega); (case N => k_asm); (case c => first | exact .inl rfl | exact .inr rfl); (case k => omega))
    intro g2 h2 e2 t2 vs2 tk2 FG2 U2 R2
    dsimp only
    (refine leave_onK (by k_asm) FG2 R2 U2 fun h3 R3 U3 => ?_)
    exact h _ _ _ _ _ _ FG' U3 R3

theorem get_long_ok {w : World} {A₀ : Around} {base h₀ : Heap} {outer : List Env} {env : Env} {L : Addr} {m mg mb : Str → Option Value} {s : Shared} {news : List (Addr × Obj)} {p : Program} {loose : List Str} {mean : ExcName → Option Value} {R : Result → Shared → Prop} {dd uu : Nat}
    {one dx a C n : Nat} {es : List DictEntry} {b : Array UInt8}
    (hC : C = 375 ∨ C = 453) (B : Below A₀ base outer h₀) (F : Fr h₀ L s.heap m) (X : (MineH.hd.heap_39 w.params).In h₀) (T : Top p loose mean mg mb h₀)
    (hf : env.frame = some L) (hke : env.scope.kind = .function) (hdd : dd + 40 < recursionLimit) (huu : uu + 200 < cLine)
    (N : News h₀ L s.heap ((one, instObj C dx) :: (dx, dictOf es n) :: (a, baObj b) :: news))
    (g1 : one ≠ dx) (g2 : one ≠ a) (g3 : dx ≠ a) (g4 : ∀ q ∈ news, q.1 ≠ a) (g5 : ∀ q ∈ news, q.1 ≠ dx) (g6 : a ≠ dx) (hes : es.length ≤ 1000)
    (e1 : getL (Str.ofString "pduData") es = some (some (.ref a))) (e2 : getL (Str.ofString "get_data") es = some none) (hz : b.size ≤ sizeLine) (hk : 4 ≤ b.size)
    (h : ∀ h' v t tk, v = Builtin.Struct.natOf true (b.toList.take 4).toArray → Fr h₀ L h' m → News h₀ L h' ((one, instObj C dx) :: (dx, dictOf es n) :: (a, baObj (b.toList.drop 4).toArray) :: news) → R (.ok (.ret (.int v t))) { s with heap := h', toks := tk }) :
    codeG (model PySem.Challenge.rw_bd5008_01.row.toRowW.prog w) (arnd dd uu (env :: outer)) (.call (.ref 174) ⟨[.ref one], []⟩) R s := by
  revert X
  k_fill
  intro X
  rcases hC with rfl | rfl
  all_goals
    (refine' code_defG (cl := []) ?k1 ?k2 ?k3 ?k4 ?k5 ?kA ?kF ?kK ?k6 ?k7 ?k8 ?k9 ?kB ?_ ?c5 ?c2 ?c3 ?c4; (case kA => exact rfl); (case kF => exact hf); (case kK => exact hke); (case k1 => k_asm); (case k2 => k_asm); (case k3 => k_asm); (case k4 => k_asm); (case k5 => k_asm); (case k6 => k_is); (case k7 => k_is); (case k8 => show dd < _; omega); (case k9 => first | exact BindsTo.of_eq rfl | exact binds_K (by k_in) rfl (by k_is) rfl rfl rfl); (case c5 => decide); (case kB => exact locs rfl); (case c2 => exact rfl); (case c3 => exact rfl); (case c4 => exact rfl); k_whole; intro g' L' h' FG' F' N' B' X' T' l1'; (try dsimp only); (try k_lift B'); (try k_fold))
    generalize s.toks + _ = tk0
    refine wpG_execs_cons (wpG_Return_some (wpG_Subscript (wpG_Call_Name ?_)))
    repeat (first | (k_unfold; (try dsimp only)) | walk1 | (dsimp only; walk1))
    refine callGG_B (wpG_spl_cons (wpG_of ?_))
    repeat (first | (k_unfold; (try dsimp only)) | walk1 | (dsimp only; walk1))
    refine wpG_spl_cons (wpG_Call_Name ?_)
    repeat (first | (k_unfold; (try dsimp only)) | walk1 | (dsimp only; walk1))
    refine callGG_T (wpG_spl_cons (wpG_Call_Attr ?_))
    repeat (first | (k_unfold; (try dsimp only)) | walk1 | (dsimp only; walk1))
    (refine' callG_K ?X ?k ?_; (case X => k_asm); (case k => k_is); k_whole)
    repeat (first | (k_unfold; (try dsimp only)) | walk1 | (dsimp only; walk1))
    (refine' wpG_call (get_data_ok ?c ?B ?F ?X ?T ?f ?ke ?dd ?uu ?N g1 g2 g3 g4 g5 g6 hes e1 hz ?z ?k ?_); (case B => k_asm); (case F => k_asm); (case X => k_asm); (case T => k_asm); (case f => exact rfl); (case ke => exact rfl); (case dd => show dd + 1 + _ < _; omega); (case uu => show uu + 3 + _ < _; omega); (case N => k_asm); (case c => first | exact .inl rfl | exact .inr rfl); (case z => decide); (case k => omega))
    intro d2 h2 tk2 F2 N2 l2
    dsimp only
    refine wpG_spl_nil ?_
    refine wpG_of ?_
    repeat (first | (k_unfold; (try dsimp only)) | walk1 | (dsimp only; walk1))
    (rename News h₀ L _ _ => kN)
    exact h _ _ _ _ (by assumption) (by assumption) (by first | exact kN | exact fun q hq => kN q (.tail _ hq) | exact fun q hq => kN q (.tail _ (.tail _ hq)))

theorem get_long_bad {w : World} {A₀ : Around} {base h₀ : Heap} {outer : List Env} {env : Env} {L : Addr} {m mg mb : Str → Option Value} {s : Shared} {news : List (Addr × Obj)} {p : Program} {loose : List Str} {mean : ExcName → Option Value} {R : Result → Shared → Prop} {dd uu : Nat}
    {one dx a C n : Nat} {es : List DictEntry} {b : Array UInt8}
    (hC : C = 375 ∨ C = 453) (B : Below A₀ base outer h₀) (F : Fr h₀ L s.heap m) (X : (MineH.hd.heap_39 w.params).In h₀) (T : Top p loose mean mg mb h₀)
    (hf : env.frame = some L) (hke : env.scope.kind = .function) (hdd : dd + 40 < recursionLimit) (huu : uu + 200 < cLine)
    (N : News h₀ L s.heap ((one, instObj C dx) :: (dx, dictOf es n) :: (a, baObj b) :: news))
    (g1 : one ≠ dx) (g2 : one ≠ a) (g3 : dx ≠ a) (g4 : ∀ q ∈ news, q.1 ≠ a) (g5 : ∀ q ∈ news, q.1 ≠ dx) (g6 : a ≠ dx) (hes : es.length ≤ 1000)
    (e1 : getL (Str.ofString "pduData") es = some (some (.ref a))) (e2 : getL (Str.ofString "get_data") es = some none) (hz : b.size ≤ sizeLine) (hk : b.size < 4)
    (h : ∀ g h' e t vs tk, Fr h₀ L g m → g.UpToSlots h' → RaisedK base (env :: outer) e (.ref 69) t vs ((one, instObj C dx) :: (dx, dictOf es n) :: (a, baObj b) :: news) h' → R (.error (.ref e)) { s with heap := h', toks := tk }) :
    codeG (model PySem.Challenge.rw_bd5008_01.row.toRowW.prog w) (arnd dd uu (env :: outer)) (.call (.ref 174) ⟨[.ref one], []⟩) R s := by
  revert X
  k_fill
  intro X
  rcases hC with rfl | rfl
  all_goals
    (refine' code_defG (cl := []) ?k1 ?k2 ?k3 ?k4 ?k5 ?kA ?kF ?kK ?k6 ?k7 ?k8 ?k9 ?kB ?_ ?c5 ?c2 ?c3 ?c4; (case kA => exact rfl); (case kF => exact hf); (case kK => exact hke); (case k1 => k_asm); (case k2 => k_asm); (case k3 => k_asm); (case k4 => k_asm); (case k5 => k_asm); (case k6 => k_is); (case k7 => k_is); (case k8 => show dd < _; omega); (case k9 => first | exact BindsTo.of_eq rfl | exact binds_K (by k_in) rfl (by k_is) rfl rfl rfl); (case c5 => decide); (case kB => exact locs rfl); (case c2 => exact rfl); (case c3 => exact rfl); (case c4 => exact rfl); k_whole; intro g' L' h' FG' F' N' B' X' T' l1'; (try dsimp only); (try k_lift B'); (try k_fold))
    generalize s.toks + _ = tk0
    refine wpG_execs_cons (wpG_Return_some (wpG_Subscript (wpG_Call_Name ?_)))
    repeat (first | (k_unfold; (try dsimp only)) | walk1 | (dsimp only; walk1))
    refine callGG_B (wpG_spl_cons (wpG_of ?_))
    repeat (first | (k_unfold; (try dsimp only)) | walk1 | (dsimp only; walk1))
    refine wpG_spl_cons (wpG_Call_Name ?_)
    repeat (first | (k_unfold; (try dsimp only)) | walk1 | (dsimp only; walk1))
    refine callGG_T (wpG_spl_cons (wpG_Call_Attr ?_))
    repeat (first | (k_unfold; (try dsimp only)) | walk1 | (dsimp only; walk1))
    (refine' callG_K ?X ?k ?_; (case X => k_asm); (case k => k_is); k_whole)
    repeat (first | (k_unfold; (try dsimp only)) | walk1 | (dsimp only; walk1))
    (refine' wpG_call (get_data_bad (k := 4) ?c ?B ?F ?X ?T ?f ?ke ?dd ?uu ?N g1 g2 g3 g4 g5 g6 hes e1 hz ?k ?_); (case B => k_asm); (case F => k_asm); (case X => k_asm); (case T => k_asm); (case f => exact rfl); (case ke => exact rfl); (case dd => show dd + 1 + _ < _; omega); (case uu => show uu + 3 + _ < _; omega); (case N => k_asm); (case c => first | exact .inl rfl | exact .inr rfl); (case k => omega))
    intro g2 h2 e2 t2 vs2 tk2 FG2 U2 R2
    dsimp only
    (refine leave_onK (by k_asm) FG2 R2 U2 fun h3 R3 U3 => ?_)
    exact h _ _ _ _ _ _ FG' U3 R3
end

section
theorem w_off42 : True := by
  w_top off
  trivial
local macro_rules | `(tactic| walk_at "call builtin:len") => `(tactic| (k_here; (with_reducible show wpAny _ _ (call (Value.builtin "len") [Value.ref _]) _ _ _); k_dflt (refine' len_K' ?N ?m ?z ?_; (case N => k_asm); (case m => k_mem); (case z => assumption); k_whole; intro _ _)))
local macro_rules | `(tactic| walk_at "subscriptTail") => `(tactic| (k_here; (with_reducible show wpAny _ _ (subscriptTail _ _ (Value.ref _) (Value.int _ _)) _ _ _); k_dflt (refine' tail0_K ?N ?m ?_ ?s; (case N => k_asm); (case m => k_mem); (case s => with_unfolding_all rfl); k_whole)))
local macro_rules | `(tactic| walk_at "subscriptTail") => `(tactic| (k_here; (with_reducible show wpAny _ _ (subscriptTail _ (Expr.Slice _ _ _ _) (Value.ref _) (Value.ref _)) _ _ _); k_dflt (refine' tailTo_K ?F ?N ?m ?z ?y ?_ ?s; (case F => k_asm); (case N => k_asm); (case m => k_mem); (case s => with_unfolding_all rfl); (case z => assumption); (case y => assumption); k_whole; intro d' h' F' N' l1; (try k_lt l1))))
local macro_rules | `(tactic| walk_at "wpG") => `(tactic| first | (with_reducible refine wpG_execs_nil ?_) | (with_reducible refine wpG_execs_cons ?_) | (with_reducible refine wpG_If ?_) | (with_reducible refine wpG_Delete1 ?_) | (with_reducible refine wpG_AugAssign_AttributeAny ?_))
local macro_rules | `(tactic| walk_at "ite") => `(tactic| first | (rw [if_neg (by first | assumption | (simp; done) | (simp; omega))]) | (rw [if_pos (by first | assumption | (simp; done) | (simp; omega))]))
local macro_rules | `(tactic| walk_at "wpG") => `(tactic| first | (with_reducible refine wpG_spl_nil ?_))
local macro_rules | `(tactic| walk_at "call type:bytes") => `(tactic| (k_here; (with_reducible show wpAny _ _ (call (Value.type "bytes") [Value.ref _]) _ _ _); k_dflt (refine' bytesOf_K ?N ?m ?z ?_; (case N => k_asm); (case m => k_mem); (case z => (simp; omega)); k_whole)))
local macro_rules | `(tactic| walk_at "call builtin:_struct.unpack") => `(tactic| (k_here; k_dflt (first | (refine' unpackH_K ?F ?N ?z ?_; (case F => k_asm); (case N => k_asm); (case z => (simp; omega)); k_whole; intro d' h' n' tk' hn' F' N' l1; (try k_lt l1)) | (refine' unpackL_K ?F ?N ?z ?_; (case F => k_asm); (case N => k_asm); (case z => (simp; omega)); k_whole; intro d' h' n' tk' hn' F' N' l1; (try k_lt l1)))))
local macro_rules | `(tactic| walk_at "wpG") => `(tactic| (k_here; first | (with_reducible show wpG _ _ (call (Value.type "bytes") [Value.ref _]) _ _ _) | (with_reducible show wpG _ _ (call (Value.builtin "_struct.unpack") _) _ _ _); refine wpG_of ?_))
local macro_rules | `(tactic| walk_at "call builtin:isinstance") => `(tactic| (k_here; (with_reducible show wpAny _ _ (call (Value.builtin "isinstance") [Value.ref _, Value.type _]) _ _ _); k_dflt (first | (refine' isiBa_t ?N ?m ?_; (case N => k_asm); (case m => k_mem); k_whole) | (refine' isiBa_f ?N ?m ?t ?_; (case N => k_asm); (case m => k_mem); (case t => first | exact .inl rfl | exact .inr rfl); k_whole))))
local macro_rules | `(tactic| walk_at "call builtin:_struct.pack") => `(tactic| (k_here; first | (with_reducible refine packH_M ?_) | (with_reducible refine packL_M ?_); intro _ _))
-- C5

theorem put_short_c {w : World} {A₀ : Around} {base h₀ : Heap} {outer : List Env} {env : Env} {L : Addr} {m mg mb : Str → Option Value} {s : Shared} {news : List (Addr × Obj)} {p : Program} {loose : List Str} {mean : ExcName → Option Value} {R : Result → Shared → Prop} {dd uu : Nat}
    {one dx a C n : Nat} {es : List DictEntry} {b : Array UInt8} {y : Int} {t : Tok}
    (hC : C = 375 ∨ C = 453) (B : Below A₀ base outer h₀) (F : Fr h₀ L s.heap m) (X : (MineH.hd.heap_39 w.params).In h₀) (T : Top p loose mean mg mb h₀)
    (hf : env.frame = some L) (hke : env.scope.kind = .function) (hdd : dd + 20 < recursionLimit) (huu : uu + 100 < cLine)
    (N : News h₀ L s.heap ((one, instObj C dx) :: (dx, dictOf es n) :: (a, baObj b) :: news))
    (g1 : one ≠ dx) (g2 : one ≠ a) (g3 : dx ≠ a) (g4 : ∀ q ∈ news, q.1 ≠ a) (g5 : ∀ q ∈ news, q.1 ≠ dx) (g6 : a ≠ dx) (hes : es.length ≤ 1000)
    (e1 : getL (Str.ofString "pduData") es = some (some (.ref a))) (hz : b.size + 4 ≤ sizeLine)
    (h : ∀ h' tk, Fr h₀ L h' m → News h₀ L h' ((one, instObj C dx) :: (dx, dictOf es n) :: (a, baObj (b ++ #[(y / 256 % 256).toNat.toUInt8, (y % 256).toNat.toUInt8])) :: news) → R (.ok (.ret .none)) { s with heap := h', toks := tk }) :
    codeG (model PySem.Challenge.rw_bd5008_01.row.toRowW.prog w) (arnd dd uu (env :: outer)) (.call (.ref 195) ⟨[.ref one, .int y t], []⟩) R s := by
  revert X
  k_fill
  intro X
  rcases hC with rfl | rfl
  all_goals
    (refine' code_defG (cl := []) ?k1 ?k2 ?k3 ?k4 ?k5 ?kA ?kF ?kK ?k6 ?k7 ?k8 ?k9 ?kB ?_ ?c5 ?c2 ?c3 ?c4; (case kA => exact rfl); (case kF => exact hf); (case kK => exact hke); (case k1 => k_asm); (case k2 => k_asm); (case k3 => k_asm); (case k4 => k_asm); (case k5 => k_asm); (case k6 => k_is); (case k7 => k_is); (case k8 => show dd < _; omega); (case k9 => first | exact BindsTo.of_eq rfl | exact binds_K (by k_in) rfl (by k_is) rfl rfl rfl); (case c5 => decide); (case kB => exact locs rfl); (case c2 => exact rfl); (case c3 => exact rfl); (case c4 => exact rfl); k_whole; intro g' L' h' FG' F' N' B' X' T' l1'; (try dsimp only); (try k_lift B'); (try k_fold))
    generalize s.toks + _ = tk0
    repeat (first | (k_unfold; (try dsimp only)) | walk1 | (dsimp only; walk1))
    (refine' iaddBy_K ?g ?F ?N ?U ?v ?z ?_; (case g => exact rfl); (case F => k_asm); (case N => k_asm); (case v => exact .inl ⟨_, rfl⟩); (case U => k_upd); (case z => (simp; omega)))
    intro h2 F2 N2
    dsimp only
    repeat (first | (k_unfold; (try dsimp only)) | walk1 | (dsimp only; walk1))
    exact h _ _ (by assumption) (by assumption)

theorem put_long_c {w : World} {A₀ : Around} {base h₀ : Heap} {outer : List Env} {env : Env} {L : Addr} {m mg mb : Str → Option Value} {s : Shared} {news : List (Addr × Obj)} {p : Program} {loose : List Str} {mean : ExcName → Option Value} {R : Result → Shared → Prop} {dd uu : Nat}
    {one dx a C n : Nat} {es : List DictEntry} {b : Array UInt8} {y : Int} {t : Tok}
    (hC : C = 375 ∨ C = 453) (B : Below A₀ base outer h₀) (F : Fr h₀ L s.heap m) (X : (MineH.hd.heap_39 w.params).In h₀) (T : Top p loose mean mg mb h₀)
    (hf : env.frame = some L) (hke : env.scope.kind = .function) (hdd : dd + 20 < recursionLimit) (huu : uu + 100 < cLine)
    (N : News h₀ L s.heap ((one, instObj C dx) :: (dx, dictOf es n) :: (a, baObj b) :: news))
    (g1 : one ≠ dx) (g2 : one ≠ a) (g3 : dx ≠ a) (g4 : ∀ q ∈ news, q.1 ≠ a) (g5 : ∀ q ∈ news, q.1 ≠ dx) (g6 : a ≠ dx) (hes : es.length ≤ 1000)
    (e1 : getL (Str.ofString "pduData") es = some (some (.ref a))) (hz : b.size + 4 ≤ sizeLine)
    (h : ∀ h' tk, Fr h₀ L h' m → News h₀ L h' ((one, instObj C dx) :: (dx, dictOf es n) :: (a, baObj (b ++ #[(y / 16777216 % 256).toNat.toUInt8, (y / 65536 % 256).toNat.toUInt8, (y / 256 % 256).toNat.toUInt8, (y % 256).toNat.toUInt8])) :: news) → R (.ok (.ret .none)) { s with heap := h', toks := tk }) :
    codeG (model PySem.Challenge.rw_bd5008_01.row.toRowW.prog w) (arnd dd uu (env :: outer)) (.call (.ref 202) ⟨[.ref one, .int y t], []⟩) R s := by
  revert X
  k_fill
  intro X
  rcases hC with rfl | rfl
  all_goals
    (refine' code_defG (cl := []) ?k1 ?k2 ?k3 ?k4 ?k5 ?kA ?kF ?kK ?k6 ?k7 ?k8 ?k9 ?kB ?_ ?c5 ?c2 ?c3 ?c4; (case kA => exact rfl); (case kF => exact hf); (case kK => exact hke); (case k1 => k_asm); (case k2 => k_asm); (case k3 => k_asm); (case k4 => k_asm); (case k5 => k_asm); (case k6 => k_is); (case k7 => k_is); (case k8 => show dd < _; omega); (case k9 => first | exact BindsTo.of_eq rfl | exact binds_K (by k_in) rfl (by k_is) rfl rfl rfl); (case c5 => decide); (case kB => exact locs rfl); (case c2 => exact rfl); (case c3 => exact rfl); (case c4 => exact rfl); k_whole; intro g' L' h' FG' F' N' B' X' T' l1'; (try dsimp only); (try k_lift B'); (try k_fold))
    generalize s.toks + _ = tk0
    repeat (first | (k_unfold; (try dsimp only)) | walk1 | (dsimp only; walk1))
    (refine' iaddBy_K ?g ?F ?N ?U ?v ?z ?_; (case g => exact rfl); (case F => k_asm); (case N => k_asm); (case v => exact .inl ⟨_, rfl⟩); (case U => k_upd); (case z => (simp; omega)))
    intro h2 F2 N2
    dsimp only
    repeat (first | (k_unfold; (try dsimp only)) | walk1 | (dsimp only; walk1))
    exact h _ _ (by assumption) (by assumption)
end

section
theorem w_off43 : True := by
  w_top off
  trivial
local macro_rules | `(tactic| walk_at "call builtin:len") => `(tactic| (k_here; (with_reducible show wpAny _ _ (call (Value.builtin "len") [Value.ref _]) _ _ _); k_dflt (refine' len_K' ?N ?m ?z ?_; (case N => k_asm); (case m => k_mem); (case z => assumption); k_whole; intro _ _)))
local macro_rules | `(tactic| walk_at "subscriptTail") => `(tactic| (k_here; (with_reducible show wpAny _ _ (subscriptTail _ _ (Value.ref _) (Value.int _ _)) _ _ _); k_dflt (refine' tail0_K ?N ?m ?_ ?s; (case N => k_asm); (case m => k_mem); (case s => with_unfolding_all rfl); k_whole)))
local macro_rules | `(tactic| walk_at "subscriptTail") => `(tactic| (k_here; (with_reducible show wpAny _ _ (subscriptTail _ (Expr.Slice _ _ _ _) (Value.ref _) (Value.ref _)) _ _ _); k_dflt (refine' tailTo_K ?F ?N ?m ?z ?y ?_ ?s; (case F => k_asm); (case N => k_asm); (case m => k_mem); (case s => with_unfolding_all rfl); (case z => assumption); (case y => assumption); k_whole; intro d' h' F' N' l1; (try k_lt l1))))
local macro_rules | `(tactic| walk_at "wpG") => `(tactic| first | (with_reducible refine wpG_execs_nil ?_) | (with_reducible refine wpG_execs_cons ?_) | (with_reducible refine wpG_If ?_) | (with_reducible refine wpG_Delete1 ?_) | (with_reducible refine wpG_AugAssign_AttributeAny ?_))
local macro_rules | `(tactic| walk_at "ite") => `(tactic| first | (rw [if_neg (by first | assumption | (simp; done) | (simp; omega))]) | (rw [if_pos (by first | assumption | (simp; done) | (simp; omega))]))
local macro_rules | `(tactic| walk_at "wpG") => `(tactic| first | (with_reducible refine wpG_spl_nil ?_))
local macro_rules | `(tactic| walk_at "call type:bytes") => `(tactic| (k_here; (with_reducible show wpAny _ _ (call (Value.type "bytes") [Value.ref _]) _ _ _); k_dflt (refine' bytesOf_K ?N ?m ?z ?_; (case N => k_asm); (case m => k_mem); (case z => (simp; omega)); k_whole)))
local macro_rules | `(tactic| walk_at "call builtin:_struct.unpack") => `(tactic| (k_here; k_dflt (first | (refine' unpackH_K ?F ?N ?z ?_; (case F => k_asm); (case N => k_asm); (case z => (simp; omega)); k_whole; intro d' h' n' tk' hn' F' N' l1; (try k_lt l1)) | (refine' unpackL_K ?F ?N ?z ?_; (case F => k_asm); (case N => k_asm); (case z => (simp; omega)); k_whole; intro d' h' n' tk' hn' F' N' l1; (try k_lt l1)))))
local macro_rules | `(tactic| walk_at "wpG") => `(tactic| (k_here; first | (with_reducible show wpG _ _ (call (Value.type "bytes") [Value.ref _]) _ _ _) | (with_reducible show wpG _ _ (call (Value.builtin "_struct.unpack") _) _ _ _); refine wpG_of ?_))
local macro_rules | `(tactic| walk_at "call builtin:isinstance") => `(tactic| (k_here; (with_reducible show wpAny _ _ (call (Value.builtin "isinstance") [Value.ref _, Value.type _]) _ _ _); k_dflt (first | (refine' isiBa_t ?N ?m ?_; (case N => k_asm); (case m => k_mem); k_whole) | (refine' isiBa_f ?N ?m ?t ?_; (case N => k_asm); (case m => k_mem); (case t => first | exact .inl rfl | exact .inr rfl); k_whole))))
local macro_rules | `(tactic| walk_at "wpG") => `(tactic| first | ((with_reducible show wpG _ _ (exec (Stmt.Pass _) _) _ _ _); refine wpG_of ?_) | ((with_reducible show wpG _ _ (exec (Stmt.Assign _ _ _) _) _ _ _); refine wpG_of ?_) | ((with_reducible show wpG _ _ (exec (Stmt.Raise _ _ _) _) _ _ _); refine wpG_of ?_))
local macro_rules | `(tactic| walk_at "none") => `(tactic| fail)
-- C4

theorem put_data_by {w : World} {A₀ : Around} {base h₀ : Heap} {outer : List Env} {env : Env} {L : Addr} {m mg mb : Str → Option Value} {s : Shared} {news : List (Addr × Obj)} {p : Program} {loose : List Str} {mean : ExcName → Option Value} {R : Result → Shared → Prop} {dd uu : Nat}
    {one dx a C n : Nat} {es : List DictEntry} {b x : Array UInt8} {t : Tok}
    (hC : C = 375 ∨ C = 453) (B : Below A₀ base outer h₀) (F : Fr h₀ L s.heap m) (X : (MineH.hd.heap_39 w.params).In h₀) (T : Top p loose mean mg mb h₀)
    (hf : env.frame = some L) (hke : env.scope.kind = .function) (hdd : dd + 20 < recursionLimit) (huu : uu + 100 < cLine)
    (N : News h₀ L s.heap ((one, instObj C dx) :: (dx, dictOf es n) :: (a, baObj b) :: news))
    (g1 : one ≠ dx) (g2 : one ≠ a) (g3 : dx ≠ a) (g4 : ∀ q ∈ news, q.1 ≠ a) (g5 : ∀ q ∈ news, q.1 ≠ dx) (g6 : a ≠ dx) (hes : es.length ≤ 1000)
    (e1 : getL (Str.ofString "pduData") es = some (some (.ref a))) (hz : b.size + x.size ≤ sizeLine) 
    (h : ∀ h' tk, Fr h₀ L h' m → News h₀ L h' ((one, instObj C dx) :: (dx, dictOf es n) :: (a, baObj (b ++ x)) :: news) → R (.ok (.ret .none)) { s with heap := h', toks := tk }) :
    codeG (model PySem.Challenge.rw_bd5008_01.row.toRowW.prog w) (arnd dd uu (env :: outer)) (.call (.ref 188) ⟨[.ref one, .bytes x t], []⟩) R s := by
  revert X
  k_fill
  intro X
  rcases hC with rfl | rfl
  all_goals
    (refine' code_defG (cl := []) ?k1 ?k2 ?k3 ?k4 ?k5 ?kA ?kF ?kK ?k6 ?k7 ?k8 ?k9 ?kB ?_ ?c5 ?c2 ?c3 ?c4; (case kA => exact rfl); (case kF => exact hf); (case kK => exact hke); (case k1 => k_asm); (case k2 => k_asm); (case k3 => k_asm); (case k4 => k_asm); (case k5 => k_asm); (case k6 => k_is); (case k7 => k_is); (case k8 => show dd < _; omega); (case k9 => first | exact BindsTo.of_eq rfl | exact binds_K (by k_in) rfl (by k_is) rfl rfl rfl); (case c5 => decide); (case kB => exact locs rfl); (case c2 => exact rfl); (case c3 => exact rfl); (case c4 => exact rfl); k_whole; intro g' L' h' FG' F' N' B' X' T' l1'; (try dsimp only); (try k_lift B'); (try k_fold))
    generalize s.toks + _ = tk0
    repeat (first | (k_unfold; (try dsimp only)) | walk1 | (dsimp only; walk1))
    (refine' iaddBy_K ?g ?F ?N ?U ?v ?z ?_; (case g => exact rfl); (case F => k_asm); (case N => k_asm); (case v => first | exact .inl ⟨_, rfl⟩ | exact .inr ⟨_, rfl, g7, by k_mem⟩); (case U => k_upd); (case z => assumption))
    intro h2 F2 N2
    dsimp only
    repeat (first | (k_unfold; (try dsimp only)) | walk1 | (dsimp only; walk1))
    (rename News h₀ L _ _ => kN)
    exact h _ _ (by assumption) (by first | exact kN | exact fun q hq => kN q (.tail _ hq) | exact fun q hq => kN q (.tail _ (.tail _ hq)))

theorem put_data_ba {w : World} {A₀ : Around} {base h₀ : Heap} {outer : List Env} {env : Env} {L : Addr} {m mg mb : Str → Option Value} {s : Shared} {news : List (Addr × Obj)} {p : Program} {loose : List Str} {mean : ExcName → Option Value} {R : Result → Shared → Prop} {dd uu : Nat}
    {one dx a C n : Nat} {es : List DictEntry} {b x : Array UInt8} {c : Nat}
    (hC : C = 375 ∨ C = 453) (B : Below A₀ base outer h₀) (F : Fr h₀ L s.heap m) (X : (MineH.hd.heap_39 w.params).In h₀) (T : Top p loose mean mg mb h₀)
    (hf : env.frame = some L) (hke : env.scope.kind = .function) (hdd : dd + 20 < recursionLimit) (huu : uu + 100 < cLine)
    (N : News h₀ L s.heap ((one, instObj C dx) :: (dx, dictOf es n) :: (a, baObj b) :: (c, baObj x) :: news))
    (g1 : one ≠ dx) (g2 : one ≠ a) (g3 : dx ≠ a) (g4 : ∀ q ∈ news, q.1 ≠ a) (g5 : ∀ q ∈ news, q.1 ≠ dx) (g6 : a ≠ dx) (hes : es.length ≤ 1000)
    (e1 : getL (Str.ofString "pduData") es = some (some (.ref a))) (hz : b.size + x.size ≤ sizeLine) (g7 : c ≠ a) (g8 : one ≠ c) (g9 : dx ≠ c) (g10 : c ≠ dx)
    (h : ∀ h' tk, Fr h₀ L h' m → News h₀ L h' ((one, instObj C dx) :: (dx, dictOf es n) :: (a, baObj (b ++ x)) :: (c, baObj x) :: news) → R (.ok (.ret .none)) { s with heap := h', toks := tk }) :
    codeG (model PySem.Challenge.rw_bd5008_01.row.toRowW.prog w) (arnd dd uu (env :: outer)) (.call (.ref 188) ⟨[.ref one, .ref c], []⟩) R s := by
  revert X
  k_fill
  intro X
  rcases hC with rfl | rfl
  all_goals
    (refine' code_defG (cl := []) ?k1 ?k2 ?k3 ?k4 ?k5 ?kA ?kF ?kK ?k6 ?k7 ?k8 ?k9 ?kB ?_ ?c5 ?c2 ?c3 ?c4; (case kA => exact rfl); (case kF => exact hf); (case kK => exact hke); (case k1 => k_asm); (case k2 => k_asm); (case k3 => k_asm); (case k4 => k_asm); (case k5 => k_asm); (case k6 => k_is); (case k7 => k_is); (case k8 => show dd < _; omega); (case k9 => first | exact BindsTo.of_eq rfl | exact binds_K (by k_in) rfl (by k_is) rfl rfl rfl); (case c5 => decide); (case kB => exact locs rfl); (case c2 => exact rfl); (case c3 => exact rfl); (case c4 => exact rfl); k_whole; intro g' L' h' FG' F' N' B' X' T' l1'; (try dsimp only); (try k_lift B'); (try k_fold))
    generalize s.toks + _ = tk0
    repeat (first | (k_unfold; (try dsimp only)) | walk1 | (dsimp only; walk1))
    (refine' iaddBy_K ?g ?F ?N ?U ?v ?z ?_; (case g => exact rfl); (case F => k_asm); (case N => k_asm); (case v => first | exact .inl ⟨_, rfl⟩ | exact .inr ⟨_, rfl, g7, by k_mem⟩); (case U => k_upd); (case z => assumption))
    intro h2 F2 N2
    dsimp only
    repeat (first | (k_unfold; (try dsimp only)) | walk1 | (dsimp only; walk1))
    (rename News h₀ L _ _ => kN)
    exact h _ _ (by assumption) (by first | exact kN | exact fun q hq => kN q (.tail _ hq) | exact fun q hq => kN q (.tail _ (.tail _ hq)))

theorem put_data_li {w : World} {A₀ : Around} {base h₀ : Heap} {outer : List Env} {env : Env} {L : Addr} {m mg mb : Str → Option Value} {s : Shared} {news : List (Addr × Obj)} {p : Program} {loose : List Str} {mean : ExcName → Option Value} {R : Result → Shared → Prop} {dd uu : Nat}
    {one dx a C n : Nat} {es : List DictEntry} {b x : Array UInt8} {c cn : Nat} {vs : List Value} {ns : List Int}
    (hC : C = 375 ∨ C = 453) (B : Below A₀ base outer h₀) (F : Fr h₀ L s.heap m) (X : (MineH.hd.heap_39 w.params).In h₀) (T : Top p loose mean mg mb h₀)
    (hf : env.frame = some L) (hke : env.scope.kind = .function) (hdd : dd + 20 < recursionLimit) (huu : uu + 100 < cLine)
    (N : News h₀ L s.heap ((one, instObj C dx) :: (dx, dictOf es n) :: (a, baObj b) :: (c, sqObj "list" vs cn) :: news))
    (g1 : one ≠ dx) (g2 : one ≠ a) (g3 : dx ≠ a) (g4 : ∀ q ∈ news, q.1 ≠ a) (g5 : ∀ q ∈ news, q.1 ≠ dx) (g6 : a ≠ dx) (hes : es.length ≤ 1000)
    (e1 : getL (Str.ofString "pduData") es = some (some (.ref a))) (hz : b.size + x.size ≤ sizeLine) (g7 : c ≠ a) (g8 : one ≠ c) (g9 : dx ≠ c) (g10 : c ≠ dx) (hi : IntsAre vs ns) (hr : ∀ n ∈ ns, 0 ≤ n ∧ n < 256) (hx : x = byteArr ns)
    (h : ∀ h' tk, Fr h₀ L h' m → News h₀ L h' ((one, instObj C dx) :: (dx, dictOf es n) :: (a, baObj (b ++ x)) :: (c, sqObj "list" vs cn) :: news) → R (.ok (.ret .none)) { s with heap := h', toks := tk }) :
    codeG (model PySem.Challenge.rw_bd5008_01.row.toRowW.prog w) (arnd dd uu (env :: outer)) (.call (.ref 188) ⟨[.ref one, .ref c], []⟩) R s := by
  revert X
  k_fill
  intro X
  rcases hC with rfl | rfl
  all_goals
    (refine' code_defG (cl := []) ?k1 ?k2 ?k3 ?k4 ?k5 ?kA ?kF ?kK ?k6 ?k7 ?k8 ?k9 ?kB ?_ ?c5 ?c2 ?c3 ?c4; (case kA => exact rfl); (case kF => exact hf); (case kK => exact hke); (case k1 => k_asm); (case k2 => k_asm); (case k3 => k_asm); (case k4 => k_asm); (case k5 => k_asm); (case k6 => k_is); (case k7 => k_is); (case k8 => show dd < _; omega); (case k9 => first | exact BindsTo.of_eq rfl | exact binds_K (by k_in) rfl (by k_is) rfl rfl rfl); (case c5 => decide); (case kB => exact locs rfl); (case c2 => exact rfl); (case c3 => exact rfl); (case c4 => exact rfl); k_whole; intro g' L' h' FG' F' N' B' X' T' l1'; (try dsimp only); (try k_lift B'); (try k_fold))
    generalize s.toks + _ = tk0
    repeat (first | (k_unfold; (try dsimp only)) | walk1 | (dsimp only; walk1))
    subst hx
    (refine' bytesLi_K ?F ?N ?l hi hr ?z ?hh ?_; (case F => k_asm); (case N => k_asm); (case l => k_mem); (case z => (rw [byteArr_size] at hz; omega)); (case hh => exact rfl))
    intro h5 t5 k5 F5 N5
    dsimp only
    repeat (first | (k_unfold; (try dsimp only)) | walk1 | (dsimp only; walk1))
    (refine' iaddBy_K ?g ?F ?N ?U ?v ?z ?_; (case g => exact rfl); (case F => k_asm); (case N => k_asm); (case v => first | exact .inl ⟨_, rfl⟩ | exact .inr ⟨_, rfl, g7, by k_mem⟩); (case U => k_upd); (case z => assumption))
    intro h2 F2 N2
    dsimp only
    repeat (first | (k_unfold; (try dsimp only)) | walk1 | (dsimp only; walk1))
    (rename News h₀ L _ _ => kN)
    exact h _ _ (by assumption) (by first | exact kN | exact fun q hq => kN q (.tail _ hq) | exact fun q hq => kN q (.tail _ (.tail _ hq)))
end

section
theorem w_off44 : True := by
  w_top off
  trivial
local macro_rules | `(tactic| walk_at "call builtin:len") => `(tactic| (k_here; (with_reducible show wpAny _ _ (call (Value.builtin "len") [Value.ref _]) _ _ _); k_dflt (refine' len_K' ?N ?m ?z ?_; (case N => k_asm); (case m => k_mem); (case z => assumption); k_whole; intro _ _)))
local macro_rules | `(tactic| walk_at "subscriptTail") => `(tactic| (k_here; (with_reducible show wpAny _ _ (subscriptTail _ _ (Value.ref _) (Value.int _ _)) _ _ _); k_dflt (refine' tail0_K ?N ?m ?_ ?s; (case N => k_asm); (case m => k_mem); (case s => with_unfolding_all rfl); k_whole)))
local macro_rules | `(tactic| walk_at "subscriptTail") => `(tactic| (k_here; (with_reducible show wpAny _ _ (subscriptTail _ (Expr.Slice _ _ _ _) (Value.ref _) (Value.ref _)) _ _ _); k_dflt (refine' tailTo_K ?F ?N ?m ?z ?y ?_ ?s; (case F => k_asm); (case N => k_asm); (case m => k_mem); (case s => with_unfolding_all rfl); (case z => assumption); (case y => assumption); k_whole; intro d' h' F' N' l1; (try k_lt l1))))
local macro_rules | `(tactic| walk_at "wpG") => `(tactic| first | (with_reducible refine wpG_execs_nil ?_) | (with_reducible refine wpG_execs_cons ?_) | (with_reducible refine wpG_If ?_) | (with_reducible refine wpG_Delete1 ?_) | (with_reducible refine wpG_AugAssign_AttributeAny ?_))
local macro_rules | `(tactic| walk_at "ite") => `(tactic| first | (rw [if_neg (by first | assumption | (simp; done) | (simp; omega))]) | (rw [if_pos (by first | assumption | (simp; done) | (simp; omega))]))
local macro_rules | `(tactic| walk_at "wpG") => `(tactic| first | (with_reducible refine wpG_spl_nil ?_))
local macro_rules | `(tactic| walk_at "call type:bytes") => `(tactic| (k_here; (with_reducible show wpAny _ _ (call (Value.type "bytes") [Value.ref _]) _ _ _); k_dflt (refine' bytesOf_K ?N ?m ?z ?_; (case N => k_asm); (case m => k_mem); (case z => (simp; omega)); k_whole)))
local macro_rules | `(tactic| walk_at "call builtin:_struct.unpack") => `(tactic| (k_here; k_dflt (first | (refine' unpackH_K ?F ?N ?z ?_; (case F => k_asm); (case N => k_asm); (case z => (simp; omega)); k_whole; intro d' h' n' tk' hn' F' N' l1; (try k_lt l1)) | (refine' unpackL_K ?F ?N ?z ?_; (case F => k_asm); (case N => k_asm); (case z => (simp; omega)); k_whole; intro d' h' n' tk' hn' F' N' l1; (try k_lt l1)))))
local macro_rules | `(tactic| walk_at "wpG") => `(tactic| (k_here; first | (with_reducible show wpG _ _ (call (Value.type "bytes") [Value.ref _]) _ _ _) | (with_reducible show wpG _ _ (call (Value.builtin "_struct.unpack") _) _ _ _); refine wpG_of ?_))
local macro_rules | `(tactic| walk_at "call builtin:isinstance") => `(tactic| (k_here; (with_reducible show wpAny _ _ (call (Value.builtin "isinstance") [Value.ref _, Value.type _]) _ _ _); k_dflt (first | (refine' isiBa_t ?N ?m ?_; (case N => k_asm); (case m => k_mem); k_whole) | (refine' isiBa_f ?N ?m ?t ?_; (case N => k_asm); (case m => k_mem); (case t => first | exact .inl rfl | exact .inr rfl); k_whole))))
local macro_rules | `(tactic| walk_at "call builtin:_struct.pack") => `(tactic| (k_here; first | (with_reducible refine packH_M ?_) | (with_reducible refine packL_M ?_); intro _ _))
local macro_rules | `(tactic| walk_at "wpG") => `(tactic| first | ((with_reducible show wpG _ _ (exec (Stmt.Pass _) _) _ _ _); refine wpG_of ?_) | ((with_reducible show wpG _ _ (exec (Stmt.Assign _ _ _) _) _ _ _); refine wpG_of ?_) | ((with_reducible show wpG _ _ (exec (Stmt.Raise _ _ _) _) _ _ _); refine wpG_of ?_))
local macro_rules | `(tactic| walk_at "none") => `(tactic| fail)
-- C6

theorem put_bad {w : World} {A₀ : Around} {base h₀ : Heap} {outer : List Env} {env : Env} {L : Addr} {m mg mb : Str → Option Value} {s : Shared} {news : List (Addr × Obj)} {p : Program} {loose : List Str} {mean : ExcName → Option Value} {R : Result → Shared → Prop} {dd uu : Nat}
    {one dx a C n : Nat} {es : List DictEntry} {b : Array UInt8} {y : Int} {t : Tok}
    (hC : C = 375 ∨ C = 453) (B : Below A₀ base outer h₀) (F : Fr h₀ L s.heap m) (X : (MineH.hd.heap_39 w.params).In h₀) (T : Top p loose mean mg mb h₀)
    (hf : env.frame = some L) (hke : env.scope.kind = .function) (hdd : dd + 20 < recursionLimit) (huu : uu + 100 < cLine)
    (N : News h₀ L s.heap ((one, instObj C dx) :: (dx, dictOf es n) :: (a, baObj b) :: news))
    (g1 : one ≠ dx) (g2 : one ≠ a) (g3 : dx ≠ a) (g4 : ∀ q ∈ news, q.1 ≠ a) (g5 : ∀ q ∈ news, q.1 ≠ dx) (g6 : a ≠ dx) (hes : es.length ≤ 1000)
    (e1 : getL (Str.ofString "pduData") es = some (some (.ref a))) (hy : y < 0 ∨ 256 ≤ y)
    (h : ∀ g h' e tk, Fr h₀ L g m → g.UpToSlots h' → RaisedN base (env :: outer) e (.type "ValueError") ((one, instObj C dx) :: (dx, dictOf es n) :: (a, baObj b) :: news) h' → R (.error (.ref e)) { s with heap := h', toks := tk }) :
    codeG (model PySem.Challenge.rw_bd5008_01.row.toRowW.prog w) (arnd dd uu (env :: outer)) (.call (.ref 181) ⟨[.ref one, .int y t], []⟩) R s := by
  revert X
  k_fill
  intro X
  rcases hC with rfl | rfl
  all_goals
    (refine' code_defG (cl := []) ?k1 ?k2 ?k3 ?k4 ?k5 ?kA ?kF ?kK ?k6 ?k7 ?k8 ?k9 ?kB ?_ ?c5 ?c2 ?c3 ?c4; (case kA => exact rfl); (case kF => exact hf); (case kK => exact hke); (case k1 => k_asm); (case k2 => k_asm); (case k3 => k_asm); (case k4 => k_asm); (case k5 => k_asm); (case k6 => k_is); (case k7 => k_is); (case k8 => show dd < _; omega); (case k9 => first | exact BindsTo.of_eq rfl | exact binds_K (by k_in) rfl (by k_is) rfl rfl rfl); (case c5 => decide); (case kB => exact locs rfl); (case c2 => exact rfl); (case c3 => exact rfl); (case c4 => exact rfl); k_whole; intro g' L' h' FG' F' N' B' X' T' l1'; (try dsimp only); (try k_lift B'); (try k_fold))
    generalize s.toks + _ = tk0
    repeat (first | (k_unfold; (try dsimp only)) | walk1 | (dsimp only; walk1))
    (refine' bytesBad_K (p := 0) (ns := [y]) ?N ?m (.cons y _ .nil) ?r rfl hy ?z rfl ?_; (case N => k_asm); (case m => k_mem); (case r => (intro j n hj; omega)); (case z => (show 1 ≤ sizeLine; rw [sizeLine_eq]; omega)))
    intro h5 k5 e5 X5
    dsimp only
    (refine' leave_newK ?K X5 ?F ?N ?_; (case K => k_asm); (case F => k_asm); (case N => k_asm))
    intro h6 R6 U6
    exact h _ _ _ _ FG' U6 (by
      obtain ⟨B, a0, x1, x2, x3⟩ := R6
      exact ⟨B, a0, x1, fun q hq => x2 q (by first | exact hq | exact .tail _ hq), x3⟩)
theorem put_data_bad {w : World} {A₀ : Around} {base h₀ : Heap} {outer : List Env} {env : Env} {L : Addr} {m mg mb : Str → Option Value} {s : Shared} {news : List (Addr × Obj)} {p : Program} {loose : List Str} {mean : ExcName → Option Value} {R : Result → Shared → Prop} {dd uu : Nat}
    {one dx a C n c cn : Nat} {es : List DictEntry} {b : Array UInt8} {vs : List Value} {ns : List Int} {bp : Nat} {bad : Int}
    (hC : C = 375 ∨ C = 453) (B : Below A₀ base outer h₀) (F : Fr h₀ L s.heap m) (X : (MineH.hd.heap_39 w.params).In h₀) (T : Top p loose mean mg mb h₀)
    (hf : env.frame = some L) (hke : env.scope.kind = .function) (hdd : dd + 20 < recursionLimit) (huu : uu + 100 < cLine)
    (N : News h₀ L s.heap ((one, instObj C dx) :: (dx, dictOf es n) :: (a, baObj b) :: (c, sqObj "list" vs cn) :: news))
    (g1 : one ≠ dx) (g2 : one ≠ a) (g3 : dx ≠ a) (g4 : ∀ q ∈ news, q.1 ≠ a) (g5 : ∀ q ∈ news, q.1 ≠ dx) (g6 : a ≠ dx) (hes : es.length ≤ 1000)
    (e1 : getL (Str.ofString "pduData") es = some (some (.ref a))) (g7 : c ≠ a) (g8 : one ≠ c) (g9 : dx ≠ c) (g10 : c ≠ dx) (hi : IntsAre vs ns) (hr : ∀ j n, j < bp → ns[j]? = some n → 0 ≤ n ∧ n < 256) (hb : ns[bp]? = some bad) (hbad : bad < 0 ∨ 256 ≤ bad) (hz : ns.length ≤ sizeLine)
    (h : ∀ g h' e tk, Fr h₀ L g m → g.UpToSlots h' → RaisedN base (env :: outer) e (.type "ValueError") ((one, instObj C dx) :: (dx, dictOf es n) :: (a, baObj b) :: (c, sqObj "list" vs cn) :: news) h' → R (.error (.ref e)) { s with heap := h', toks := tk }) :
    codeG (model PySem.Challenge.rw_bd5008_01.row.toRowW.prog w) (arnd dd uu (env :: outer)) (.call (.ref 188) ⟨[.ref one, .ref c], []⟩) R s := by
  revert X
  k_fill
  intro X
  rcases hC with rfl | rfl
  all_goals
    (refine' code_defG (cl := []) ?k1 ?k2 ?k3 ?k4 ?k5 ?kA ?kF ?kK ?k6 ?k7 ?k8 ?k9 ?kB ?_ ?c5 ?c2 ?c3 ?c4; (case kA => exact rfl); (case kF => exact hf); (case kK => exact hke); (case k1 => k_asm); (case k2 => k_asm); (case k3 => k_asm); (case k4 => k_asm); (case k5 => k_asm); (case k6 => k_is); (case k7 => k_is); (case k8 => show dd < _; omega); (case k9 => first | exact BindsTo.of_eq rfl | exact binds_K (by k_in) rfl (by k_is) rfl rfl rfl); (case c5 => decide); (case kB => exact locs rfl); (case c2 => exact rfl); (case c3 => exact rfl); (case c4 => exact rfl); k_whole; intro g' L' h' FG' F' N' B' X' T' l1'; (try dsimp only); (try k_lift B'); (try k_fold))
    generalize s.toks + _ = tk0
    repeat (first | (k_unfold; (try dsimp only)) | walk1 | (dsimp only; walk1))
    (refine' bytesBad_K ?N ?m hi hr hb hbad ?z rfl ?_; (case N => k_asm); (case m => k_mem); (case z => assumption))
    intro h5 k5 e5 X5
    dsimp only
    (refine' leave_newK ?K X5 ?F ?N ?_; (case K => k_asm); (case F => k_asm); (case N => k_asm))
    intro h6 R6 U6
    exact h _ _ _ _ FG' U6 R6

theorem put_data_wt {w : World} {A₀ : Around} {base h₀ : Heap} {outer : List Env} {env : Env} {L : Addr} {m mg mb : Str → Option Value} {s : Shared} {news : List (Addr × Obj)} {p : Program} {loose : List Str} {mean : ExcName → Option Value} {R : Result → Shared → Prop} {dd uu : Nat}
    {one dx a C n : Nat} {es : List DictEntry} {b : Array UInt8} {c cn : Nat} {vs : List Value}
    (hC : C = 375 ∨ C = 453) (B : Below A₀ base outer h₀) (F : Fr h₀ L s.heap m) (X : (MineH.hd.heap_39 w.params).In h₀) (T : Top p loose mean mg mb h₀)
    (hf : env.frame = some L) (hke : env.scope.kind = .function) (hdd : dd + 20 < recursionLimit) (huu : uu + 100 < cLine)
    (N : News h₀ L s.heap ((one, instObj C dx) :: (dx, dictOf es n) :: (a, baObj b) :: (c, sqObj "tuple" vs cn) :: news))
    (g1 : one ≠ dx) (g2 : one ≠ a) (g3 : dx ≠ a) (g4 : ∀ q ∈ news, q.1 ≠ a) (g5 : ∀ q ∈ news, q.1 ≠ dx) (g6 : a ≠ dx) (hes : es.length ≤ 1000)
    (e1 : getL (Str.ofString "pduData") es = some (some (.ref a))) (g7 : c ≠ a) (g8 : one ≠ c) (g9 : dx ≠ c) (g10 : c ≠ dx)
    (h : ∀ g h' e tk, Fr h₀ L g m → g.UpToSlots h' → RaisedN base (env :: outer) e (.type "TypeError") ((one, instObj C dx) :: (dx, dictOf es n) :: (a, baObj b) :: (c, sqObj "tuple" vs cn) :: news) h' → R (.error (.ref e)) { s with heap := h', toks := tk }) :
    codeG (model PySem.Challenge.rw_bd5008_01.row.toRowW.prog w) (arnd dd uu (env :: outer)) (.call (.ref 188) ⟨[.ref one, .ref c], []⟩) R s := by
  revert X
  k_fill
  intro X
  rcases hC with rfl | rfl
  all_goals
    (refine' code_defG (cl := []) ?k1 ?k2 ?k3 ?k4 ?k5 ?kA ?kF ?kK ?k6 ?k7 ?k8 ?k9 ?kB ?_ ?c5 ?c2 ?c3 ?c4; (case kA => exact rfl); (case kF => exact hf); (case kK => exact hke); (case k1 => k_asm); (case k2 => k_asm); (case k3 => k_asm); (case k4 => k_asm); (case k5 => k_asm); (case k6 => k_is); (case k7 => k_is); (case k8 => show dd < _; omega); (case k9 => first | exact BindsTo.of_eq rfl | exact binds_K (by k_in) rfl (by k_is) rfl rfl rfl); (case c5 => decide); (case kB => exact locs rfl); (case c2 => exact rfl); (case c3 => exact rfl); (case c4 => exact rfl); k_whole; intro g' L' h' FG' F' N' B' X' T' l1'; (try dsimp only); (try k_lift B'); (try k_fold))
    generalize s.toks + _ = tk0
    repeat (first | (k_unfold; (try dsimp only)) | walk1 | (dsimp only; walk1))
    exact h _ _ _ _ FG' (by assumption) (by assumption)

theorem put_data_ws {w : World} {A₀ : Around} {base h₀ : Heap} {outer : List Env} {env : Env} {L : Addr} {m mg mb : Str → Option Value} {s : Shared} {news : List (Addr × Obj)} {p : Program} {loose : List Str} {mean : ExcName → Option Value} {R : Result → Shared → Prop} {dd uu : Nat}
    {one dx a C n : Nat} {es : List DictEntry} {b : Array UInt8} {x : Str} {t : Tok}
    (hC : C = 375 ∨ C = 453) (B : Below A₀ base outer h₀) (F : Fr h₀ L s.heap m) (X : (MineH.hd.heap_39 w.params).In h₀) (T : Top p loose mean mg mb h₀)
    (hf : env.frame = some L) (hke : env.scope.kind = .function) (hdd : dd + 20 < recursionLimit) (huu : uu + 100 < cLine)
    (N : News h₀ L s.heap ((one, instObj C dx) :: (dx, dictOf es n) :: (a, baObj b) :: news))
    (g1 : one ≠ dx) (g2 : one ≠ a) (g3 : dx ≠ a) (g4 : ∀ q ∈ news, q.1 ≠ a) (g5 : ∀ q ∈ news, q.1 ≠ dx) (g6 : a ≠ dx) (hes : es.length ≤ 1000)
    (e1 : getL (Str.ofString "pduData") es = some (some (.ref a))) 
    (h : ∀ g h' e tk, Fr h₀ L g m → g.UpToSlots h' → RaisedN base (env :: outer) e (.type "TypeError") ((one, instObj C dx) :: (dx, dictOf es n) :: (a, baObj b) :: news) h' → R (.error (.ref e)) { s with heap := h', toks := tk }) :
    codeG (model PySem.Challenge.rw_bd5008_01.row.toRowW.prog w) (arnd dd uu (env :: outer)) (.call (.ref 188) ⟨[.ref one, .str x t], []⟩) R s := by
  revert X
  k_fill
  intro X
  rcases hC with rfl | rfl
  all_goals
    (refine' code_defG (cl := []) ?k1 ?k2 ?k3 ?k4 ?k5 ?kA ?kF ?kK ?k6 ?k7 ?k8 ?k9 ?kB ?_ ?c5 ?c2 ?c3 ?c4; (case kA => exact rfl); (case kF => exact hf); (case kK => exact hke); (case k1 => k_asm); (case k2 => k_asm); (case k3 => k_asm); (case k4 => k_asm); (case k5 => k_asm); (case k6 => k_is); (case k7 => k_is); (case k8 => show dd < _; omega); (case k9 => first | exact BindsTo.of_eq rfl | exact binds_K (by k_in) rfl (by k_is) rfl rfl rfl); (case c5 => decide); (case kB => exact locs rfl); (case c2 => exact rfl); (case c3 => exact rfl); (case c4 => exact rfl); k_whole; intro g' L' h' FG' F' N' B' X' T' l1'; (try dsimp only); (try k_lift B'); (try k_fold))
    generalize s.toks + _ = tk0
    repeat (first | (k_unfold; (try dsimp only)) | walk1 | (dsimp only; walk1))
    exact h _ _ _ _ FG' (by assumption) (by assumption)

theorem put_data_wi {w : World} {A₀ : Around} {base h₀ : Heap} {outer : List Env} {env : Env} {L : Addr} {m mg mb : Str → Option Value} {s : Shared} {news : List (Addr × Obj)} {p : Program} {loose : List Str} {mean : ExcName → Option Value} {R : Result → Shared → Prop} {dd uu : Nat}
    {one dx a C n : Nat} {es : List DictEntry} {b : Array UInt8} {x : Int} {t : Tok}
    (hC : C = 375 ∨ C = 453) (B : Below A₀ base outer h₀) (F : Fr h₀ L s.heap m) (X : (MineH.hd.heap_39 w.params).In h₀) (T : Top p loose mean mg mb h₀)
    (hf : env.frame = some L) (hke : env.scope.kind = .function) (hdd : dd + 20 < recursionLimit) (huu : uu + 100 < cLine)
    (N : News h₀ L s.heap ((one, instObj C dx) :: (dx, dictOf es n) :: (a, baObj b) :: news))
    (g1 : one ≠ dx) (g2 : one ≠ a) (g3 : dx ≠ a) (g4 : ∀ q ∈ news, q.1 ≠ a) (g5 : ∀ q ∈ news, q.1 ≠ dx) (g6 : a ≠ dx) (hes : es.length ≤ 1000)
    (e1 : getL (Str.ofString "pduData") es = some (some (.ref a))) 
    (h : ∀ g h' e tk, Fr h₀ L g m → g.UpToSlots h' → RaisedN base (env :: outer) e (.type "TypeError") ((one, instObj C dx) :: (dx, dictOf es n) :: (a, baObj b) :: news) h' → R (.error (.ref e)) { s with heap := h', toks := tk }) :
    codeG (model PySem.Challenge.rw_bd5008_01.row.toRowW.prog w) (arnd dd uu (env :: outer)) (.call (.ref 188) ⟨[.ref one, .int x t], []⟩) R s := by
  revert X
  k_fill
  intro X
  rcases hC with rfl | rfl
  all_goals
    (refine' code_defG (cl := []) ?k1 ?k2 ?k3 ?k4 ?k5 ?kA ?kF ?kK ?k6 ?k7 ?k8 ?k9 ?kB ?_ ?c5 ?c2 ?c3 ?c4; (case kA => exact rfl); (case kF => exact hf); (case kK => exact hke); (case k1 => k_asm); (case k2 => k_asm); (case k3 => k_asm); (case k4 => k_asm); (case k5 => k_asm); (case k6 => k_is); (case k7 => k_is); (case k8 => show dd < _; omega); (case k9 => first | exact BindsTo.of_eq rfl | exact binds_K (by k_in) rfl (by k_is) rfl rfl rfl); (case c5 => decide); (case kB => exact locs rfl); (case c2 => exact rfl); (case c3 => exact rfl); (case c4 => exact rfl); k_whole; intro g' L' h' FG' F' N' B' X' T' l1'; (try dsimp only); (try k_lift B'); (try k_fold))
    generalize s.toks + _ = tk0
    repeat (first | (k_unfold; (try dsimp only)) | walk1 | (dsimp only; walk1))
    exact h _ _ _ _ FG' (by assumption) (by assumption)

theorem put_data_wn {w : World} {A₀ : Around} {base h₀ : Heap} {outer : List Env} {env : Env} {L : Addr} {m mg mb : Str → Option Value} {s : Shared} {news : List (Addr × Obj)} {p : Program} {loose : List Str} {mean : ExcName → Option Value} {R : Result → Shared → Prop} {dd uu : Nat}
    {one dx a C n : Nat} {es : List DictEntry} {b : Array UInt8} 
    (hC : C = 375 ∨ C = 453) (B : Below A₀ base outer h₀) (F : Fr h₀ L s.heap m) (X : (MineH.hd.heap_39 w.params).In h₀) (T : Top p loose mean mg mb h₀)
    (hf : env.frame = some L) (hke : env.scope.kind = .function) (hdd : dd + 20 < recursionLimit) (huu : uu + 100 < cLine)
    (N : News h₀ L s.heap ((one, instObj C dx) :: (dx, dictOf es n) :: (a, baObj b) :: news))
    (g1 : one ≠ dx) (g2 : one ≠ a) (g3 : dx ≠ a) (g4 : ∀ q ∈ news, q.1 ≠ a) (g5 : ∀ q ∈ news, q.1 ≠ dx) (g6 : a ≠ dx) (hes : es.length ≤ 1000)
    (e1 : getL (Str.ofString "pduData") es = some (some (.ref a))) 
    (h : ∀ g h' e tk, Fr h₀ L g m → g.UpToSlots h' → RaisedN base (env :: outer) e (.type "TypeError") ((one, instObj C dx) :: (dx, dictOf es n) :: (a, baObj b) :: news) h' → R (.error (.ref e)) { s with heap := h', toks := tk }) :
    codeG (model PySem.Challenge.rw_bd5008_01.row.toRowW.prog w) (arnd dd uu (env :: outer)) (.call (.ref 188) ⟨[.ref one, .none], []⟩) R s := by
  revert X
  k_fill
  intro X
  rcases hC with rfl | rfl
  all_goals
    (refine' code_defG (cl := []) ?k1 ?k2 ?k3 ?k4 ?k5 ?kA ?kF ?kK ?k6 ?k7 ?k8 ?k9 ?kB ?_ ?c5 ?c2 ?c3 ?c4; (case kA => exact rfl); (case kF => exact hf); (case kK => exact hke); (case k1 => k_asm); (case k2 => k_asm); (case k3 => k_asm); (case k4 => k_asm); (case k5 => k_asm); (case k6 => k_is); (case k7 => k_is); (case k8 => show dd < _; omega); (case k9 => first | exact BindsTo.of_eq rfl | exact binds_K (by k_in) rfl (by k_is) rfl rfl rfl); (case c5 => decide); (case kB => exact locs rfl); (case c2 => exact rfl); (case c3 => exact rfl); (case c4 => exact rfl); k_whole; intro g' L' h' FG' F' N' B' X' T' l1'; (try dsimp only); (try k_lift B'); (try k_fold))
    generalize s.toks + _ = tk0
    repeat (first | (k_unfold; (try dsimp only)) | walk1 | (dsimp only; walk1))
    exact h _ _ _ _ FG' (by assumption) (by assumption)
end

section
theorem w_off45 : True := by
  w_top off
  trivial
local macro_rules | `(tactic| walk_at "call builtin:len") => `(tactic| (k_here; (with_reducible show wpAny _ _ (call (Value.builtin "len") [Value.ref _]) _ _ _); k_dflt (refine' len_K' ?N ?m ?z ?_; (case N => k_asm); (case m => k_mem); (case z => assumption); k_whole; intro _ _)))
local macro_rules | `(tactic| walk_at "subscriptTail") => `(tactic| (k_here; (with_reducible show wpAny _ _ (subscriptTail _ _ (Value.ref _) (Value.int _ _)) _ _ _); k_dflt (refine' tail0_K ?N ?m ?_ ?s; (case N => k_asm); (case m => k_mem); (case s => with_unfolding_all rfl); k_whole)))
local macro_rules | `(tactic| walk_at "subscriptTail") => `(tactic| (k_here; (with_reducible show wpAny _ _ (subscriptTail _ (Expr.Slice _ _ _ _) (Value.ref _) (Value.ref _)) _ _ _); k_dflt (refine' tailTo_K ?F ?N ?m ?z ?y ?_ ?s; (case F => k_asm); (case N => k_asm); (case m => k_mem); (case s => with_unfolding_all rfl); (case z => assumption); (case y => assumption); k_whole; intro d' h' F' N' l1; (try k_lt l1))))
local macro_rules | `(tactic| walk_at "wpG") => `(tactic| first | (with_reducible refine wpG_execs_nil ?_) | (with_reducible refine wpG_execs_cons ?_) | (with_reducible refine wpG_If ?_) | (with_reducible refine wpG_Delete1 ?_) | (with_reducible refine wpG_AugAssign_AttributeAny ?_))
local macro_rules | `(tactic| walk_at "ite") => `(tactic| first | (rw [if_neg (by first | assumption | (simp; done) | (simp; omega))]) | (rw [if_pos (by first | assumption | (simp; done) | (simp; omega))]))
local macro_rules | `(tactic| walk_at "wpG") => `(tactic| first | (with_reducible refine wpG_spl_nil ?_))
local macro_rules | `(tactic| walk_at "call type:bytes") => `(tactic| (k_here; (with_reducible show wpAny _ _ (call (Value.type "bytes") [Value.ref _]) _ _ _); k_dflt (refine' bytesOf_K ?N ?m ?z ?_; (case N => k_asm); (case m => k_mem); (case z => (simp; omega)); k_whole)))
local macro_rules | `(tactic| walk_at "call builtin:_struct.unpack") => `(tactic| (k_here; k_dflt (first | (refine' unpackH_K ?F ?N ?z ?_; (case F => k_asm); (case N => k_asm); (case z => (simp; omega)); k_whole; intro d' h' n' tk' hn' F' N' l1; (try k_lt l1)) | (refine' unpackL_K ?F ?N ?z ?_; (case F => k_asm); (case N => k_asm); (case z => (simp; omega)); k_whole; intro d' h' n' tk' hn' F' N' l1; (try k_lt l1)))))
local macro_rules | `(tactic| walk_at "wpG") => `(tactic| (k_here; first | (with_reducible show wpG _ _ (call (Value.type "bytes") [Value.ref _]) _ _ _) | (with_reducible show wpG _ _ (call (Value.builtin "_struct.unpack") _) _ _ _); refine wpG_of ?_))
local macro_rules | `(tactic| walk_at "call builtin:isinstance") => `(tactic| (k_here; (with_reducible show wpAny _ _ (call (Value.builtin "isinstance") [Value.ref _, Value.type _]) _ _ _); k_dflt (first | (refine' isiBa_t ?N ?m ?_; (case N => k_asm); (case m => k_mem); k_whole) | (refine' isiBa_f ?N ?m ?t ?_; (case N => k_asm); (case m => k_mem); (case t => first | exact .inl rfl | exact .inr rfl); k_whole))))
local macro_rules | `(tactic| walk_at "call builtin:_struct.pack") => `(tactic| (k_here; first | (with_reducible refine packH_M ?_) | (with_reducible refine packL_M ?_); intro _ _))
local macro_rules | `(tactic| walk_at "call builtin:isinstance") => `(tactic| (k_here; (with_reducible show wpAny _ _ (call (Value.builtin "isinstance") [Value.ref _, Value.ref _]) _ _ _); k_dflt (refine' isiBa_tup ?N ?m ?t ?_; (case N => k_asm); (case m => k_mem); (case t => k_mem); k_whole; intro _)))
local macro_rules | `(tactic| walk_at "leaving ref") => `(tactic| (k_here; first
  | (refine' leave_newX ?k1 ?k0 ?k2 ?k3 ?_; (case k0 => assumption); (case k1 => assumption); (case k2 => assumption); (case k3 => k_asm); k_whole; intro h' R' U'; (try dsimp only at R' U' ⊢))
  | (refine' leave_onNX ?k1 ?k2 ?k3 ?k4 ?_; (case k3 => assumption); (case k1 => assumption); (case k4 => assumption); (case k2 => assumption); k_whole; intro h' R' U'; (try dsimp only at R' U' ⊢))))
local macro_rules | `(tactic| walk_at "pyIter ref") => `(tactic| (k_here; (with_reducible show wpAny _ _ (pyIter (Value.ref _)) (fun it s₂ => TurnsAt _ _ _ _ _ _ _ _ _ it s₂) _ _); (rename Fr _ _ _ _ => lF'); (rename News _ _ _ _ => lN'); (with_unfolding_all refine iter_tupTurns (by rfl) lF' lN' (by k_mem) (by rfl) (by rfl) ?_); clear lF' lN'; intro i' l1; (try k_lt l1)))
-- C7a

theorem init_none {w : World} {A₀ : Around} {base h₀ : Heap} {outer : List Env} {env : Env} {L : Addr} {m mg mb : Str → Option Value} {s : Shared} {news : List (Addr × Obj)} {p : Program} {loose : List Str} {mean : ExcName → Option Value} {R : Result → Shared → Prop} {dd uu : Nat}
    {one dx C : Nat} 
    (hC : C = 375 ∨ C = 453 ∨ C = 205) (B : Below A₀ base outer h₀) (F : Fr h₀ L s.heap m) (X : (MineH.hd.heap_39 w.params).In h₀) (T : Top p loose mean mg mb h₀)
    (hf : env.frame = some L) (hke : env.scope.kind = .function) (hdd : dd + 20 < recursionLimit) (huu : uu + 100 < cLine)
    (N : News h₀ L s.heap ((one, instObj C dx) :: (dx, dictOf [] 0) :: news)) (g1 : dx < one) (g5 : ∀ q ∈ news, q.1 ≠ dx) 
    (h : ∀ a h' t tk, (∀ q ∈ news, q.1 < a) → dx < a → Fr h₀ L h' m → News h₀ L h' ((one, instObj C dx) :: (dx, dictOf [⟨PyData.keyHash w.params (Str.ofString "pduData"), .str (Str.ofString "pduData") t, .ref a⟩] 1) :: (a, baObj #[]) :: news) → R (.ok (.ret .none)) { s with heap := h', toks := tk }) :
    codeG (model PySem.Challenge.rw_bd5008_01.row.toRowW.prog w) (arnd dd uu (env :: outer)) (.call (.ref 146) ⟨[.ref one], []⟩) R s := by
  revert X
  k_fill
  intro X
  rcases hC with rfl | rfl | rfl
  all_goals
    (refine' enter_bothG ?k1 ?k2 ?k3 ?k4 ?k5 ?kA ?kF ?kK ?k6 ?k7 ?k8 ?kV ?kX ?kQ ?kM ?kN ?kR ?kP ?kS ?kT ?kB ?_ ?c2 ?c3 ?c4 ?c5; (case kA => exact rfl); (case kF => exact hf); (case kK => exact hke); (case k1 => k_asm); (case k2 => k_asm); (case k3 => k_asm); (case k4 => k_asm); (case k5 => k_asm); (case k6 => k_is); (case k7 => k_is); (case k8 => show dd < _; omega); (case kV => kp_lit); (case kX => kp_lit); (case kQ => exact rfl); (case kM => exact rfl); (case kN => exact rfl); (case kR => exact rfl); (case kP => exact rfl); (case kS => exact fun _ => rfl); (case kT => exact fun _ _ => rfl); (case kB => exact fun _ _ => locs rfl); (case c5 => decide); (case c2 => exact rfl); (case c3 => exact rfl); (case c4 => exact rfl); k_whole; intro C' D' g' L' h' tk' tk1' l1 l2 lo' FG' F' N' B' X' T'; (try k_lt l1); (try k_lt2 l2); (simp only [kwEs, List.length_cons, List.length_nil, Nat.zero_add, Nat.reduceAdd] at N'); (try dsimp only); (try k_lift B'); (try k_fold))
    refine wpG_execs_cons (wpG_of ?_)
    repeat (first | (k_unfold; (try dsimp only)) | walk1 | (dsimp only; walk1))
    refine wpG_Assign_Attribute (wpG_Call_Name ?_)
    repeat (first | (k_unfold; (try dsimp only)) | walk1 | (dsimp only; walk1))
    refine callG_T0 ?_
    dsimp only [List.nil_append]
    (refine' ba_K ?g ?F ?N ?l ?s ?z ?_; (case g => exact rfl); (case F => k_asm); (case N => k_asm); (case l => simp); (case s => exact .inl ⟨rfl, rfl⟩); (case z => exact Nat.zero_le _))
    intro d5 h5 F5 N5 l5
    have m1 : ∀ q ∈ news, q.1 < d5 := fun q hq => l5 q (by repeat (first | exact hq | apply List.Mem.tail))
    have m2 : dx < d5 := l5 (dx, _) (by k_mem)
    (try k_lt l5)
    dsimp only
    repeat (first | (k_unfold; (try dsimp only)) | walk1 | (dsimp only; walk1))
    (rename News h₀ L _ _ => kN)
    exact h _ _ _ _ m1 m2 (by assumption) fun q hq => kN q (by
      rcases List.mem_cons.mp hq with rfl | hq
      · k_mem
      rcases List.mem_cons.mp hq with rfl | hq
      · k_mem
      rcases List.mem_cons.mp hq with rfl | hq
      · k_mem
      repeat (first | exact hq | apply List.Mem.tail))

theorem init_N {w : World} {A₀ : Around} {base h₀ : Heap} {outer : List Env} {env : Env} {L : Addr} {m mg mb : Str → Option Value} {s : Shared} {news : List (Addr × Obj)} {p : Program} {loose : List Str} {mean : ExcName → Option Value} {R : Result → Shared → Prop} {dd uu : Nat}
    {one dx C : Nat} 
    (hC : C = 205) (B : Below A₀ base outer h₀) (F : Fr h₀ L s.heap m) (X : (MineH.hd.heap_39 w.params).In h₀) (T : Top p loose mean mg mb h₀)
    (hf : env.frame = some L) (hke : env.scope.kind = .function) (hdd : dd + 20 < recursionLimit) (huu : uu + 100 < cLine)
    (N : News h₀ L s.heap ((one, instObj C dx) :: (dx, dictOf [] 0) :: news)) (g1 : dx < one) (g5 : ∀ q ∈ news, q.1 ≠ dx) 
    (h : ∀ a h' t tk, (∀ q ∈ news, q.1 < a) → dx < a → Fr h₀ L h' m → News h₀ L h' ((one, instObj C dx) :: (dx, dictOf [⟨PyData.keyHash w.params (Str.ofString "pduData"), .str (Str.ofString "pduData") t, .ref a⟩] 1) :: (a, baObj #[]) :: news) → R (.ok (.ret .none)) { s with heap := h', toks := tk }) :
    codeG (model PySem.Challenge.rw_bd5008_01.row.toRowW.prog w) (arnd dd uu (env :: outer)) (.call (.ref 146) ⟨[.ref one, .none], []⟩) R s := by
  revert X
  k_fill
  intro X
  subst hC
  all_goals
    (refine' enter_bothG ?k1 ?k2 ?k3 ?k4 ?k5 ?kA ?kF ?kK ?k6 ?k7 ?k8 ?kV ?kX ?kQ ?kM ?kN ?kR ?kP ?kS ?kT ?kB ?_ ?c2 ?c3 ?c4 ?c5; (case kA => exact rfl); (case kF => exact hf); (case kK => exact hke); (case k1 => k_asm); (case k2 => k_asm); (case k3 => k_asm); (case k4 => k_asm); (case k5 => k_asm); (case k6 => k_is); (case k7 => k_is); (case k8 => show dd < _; omega); (case kV => kp_lit); (case kX => kp_lit); (case kQ => exact rfl); (case kM => exact rfl); (case kN => exact rfl); (case kR => exact rfl); (case kP => exact rfl); (case kS => exact fun _ => rfl); (case kT => exact fun _ _ => rfl); (case kB => exact fun _ _ => locs rfl); (case c5 => decide); (case c2 => exact rfl); (case c3 => exact rfl); (case c4 => exact rfl); k_whole; intro C' D' g' L' h' tk' tk1' l1 l2 lo' FG' F' N' B' X' T'; (try k_lt l1); (try k_lt2 l2); (simp only [kwEs, List.length_cons, List.length_nil, Nat.zero_add, Nat.reduceAdd] at N'); (try dsimp only); (try k_lift B'); (try k_fold))
    refine wpG_execs_cons (wpG_of ?_)
    repeat (first | (k_unfold; (try dsimp only)) | walk1 | (dsimp only; walk1))
    refine wpG_Assign_Attribute (wpG_Call_Name ?_)
    repeat (first | (k_unfold; (try dsimp only)) | walk1 | (dsimp only; walk1))
    refine callG_T0 ?_
    dsimp only [List.nil_append]
    (refine' ba_K ?g ?F ?N ?l ?s ?z ?_; (case g => exact rfl); (case F => k_asm); (case N => k_asm); (case l => simp); (case s => exact .inl ⟨rfl, rfl⟩); (case z => exact Nat.zero_le _))
    intro d5 h5 F5 N5 l5
    have m1 : ∀ q ∈ news, q.1 < d5 := fun q hq => l5 q (by repeat (first | exact hq | apply List.Mem.tail))
    have m2 : dx < d5 := l5 (dx, _) (by k_mem)
    (try k_lt l5)
    dsimp only
    repeat (first | (k_unfold; (try dsimp only)) | walk1 | (dsimp only; walk1))
    (rename News h₀ L _ _ => kN)
    exact h _ _ _ _ m1 m2 (by assumption) fun q hq => kN q (by
      rcases List.mem_cons.mp hq with rfl | hq
      · k_mem
      rcases List.mem_cons.mp hq with rfl | hq
      · k_mem
      rcases List.mem_cons.mp hq with rfl | hq
      · k_mem
      repeat (first | exact hq | apply List.Mem.tail))
-- C7b

theorem init_by {w : World} {A₀ : Around} {base h₀ : Heap} {outer : List Env} {env : Env} {L : Addr} {m mg mb : Str → Option Value} {s : Shared} {news : List (Addr × Obj)} {p : Program} {loose : List Str} {mean : ExcName → Option Value} {R : Result → Shared → Prop} {dd uu : Nat}
    {one dx C : Nat} {x : Array UInt8} {t0 : Tok}
    (hC : C = 375 ∨ C = 453 ∨ C = 205) (B : Below A₀ base outer h₀) (F : Fr h₀ L s.heap m) (X : (MineH.hd.heap_39 w.params).In h₀) (T : Top p loose mean mg mb h₀)
    (hf : env.frame = some L) (hke : env.scope.kind = .function) (hdd : dd + 20 < recursionLimit) (huu : uu + 100 < cLine)
    (N : News h₀ L s.heap ((one, instObj C dx) :: (dx, dictOf [] 0) :: news)) (g1 : dx < one) (g5 : ∀ q ∈ news, q.1 ≠ dx) (hz : x.size ≤ sizeLine)
    (h : ∀ a h' t tk, (∀ q ∈ news, q.1 < a) → dx < a → Fr h₀ L h' m → News h₀ L h' ((one, instObj C dx) :: (dx, dictOf [⟨PyData.keyHash w.params (Str.ofString "pduData"), .str (Str.ofString "pduData") t, .ref a⟩] 1) :: (a, baObj x) :: news) → R (.ok (.ret .none)) { s with heap := h', toks := tk }) :
    codeG (model PySem.Challenge.rw_bd5008_01.row.toRowW.prog w) (arnd dd uu (env :: outer)) (.call (.ref 146) ⟨[.ref one, .bytes x t0], []⟩) R s := by
  revert X
  k_fill
  intro X
  rcases hC with rfl | rfl | rfl
  all_goals
    (refine' enter_bothG ?k1 ?k2 ?k3 ?k4 ?k5 ?kA ?kF ?kK ?k6 ?k7 ?k8 ?kV ?kX ?kQ ?kM ?kN ?kR ?kP ?kS ?kT ?kB ?_ ?c2 ?c3 ?c4 ?c5; (case kA => exact rfl); (case kF => exact hf); (case kK => exact hke); (case k1 => k_asm); (case k2 => k_asm); (case k3 => k_asm); (case k4 => k_asm); (case k5 => k_asm); (case k6 => k_is); (case k7 => k_is); (case k8 => show dd < _; omega); (case kV => kp_lit); (case kX => kp_lit); (case kQ => exact rfl); (case kM => exact rfl); (case kN => exact rfl); (case kR => exact rfl); (case kP => exact rfl); (case kS => exact fun _ => rfl); (case kT => exact fun _ _ => rfl); (case kB => exact fun _ _ => locs rfl); (case c5 => decide); (case c2 => exact rfl); (case c3 => exact rfl); (case c4 => exact rfl); k_whole; intro C' D' g' L' h' tk' tk1' l1 l2 lo' FG' F' N' B' X' T'; (try k_lt l1); (try k_lt2 l2); (simp only [kwEs, List.length_cons, List.length_nil, Nat.zero_add, Nat.reduceAdd] at N'); (try dsimp only); (try k_lift B'); (try k_fold))
    refine wpG_execs_cons (wpG_of ?_)
    repeat (first | (k_unfold; (try dsimp only)) | walk1 | (dsimp only; walk1))
    refine wpG_Assign_Attribute (wpG_Call_Name ?_)
    repeat (first | (k_unfold; (try dsimp only)) | walk1 | (dsimp only; walk1))
    refine callGG_T (wpG_spl_cons (wpG_of ?_))
    repeat (first | (k_unfold; (try dsimp only)) | walk1 | (dsimp only; walk1))
    dsimp only [List.nil_append]
    (refine' ba_K ?g ?F ?N ?l ?s ?z ?_; (case g => exact rfl); (case F => k_asm); (case N => k_asm); (case l => simp); (case s => exact .inr (.inl ⟨_, rfl⟩)); (case z => assumption))
    intro d5 h5 F5 N5 l5
    have m1 : ∀ q ∈ news, q.1 < d5 := fun q hq => l5 q (by repeat (first | exact hq | apply List.Mem.tail))
    have m2 : dx < d5 := l5 (dx, _) (by k_mem)
    (try k_lt l5)
    dsimp only
    repeat (first | (k_unfold; (try dsimp only)) | walk1 | (dsimp only; walk1))
    (rename News h₀ L _ _ => kN)
    exact h _ _ _ _ m1 m2 (by assumption) fun q hq => kN q (by
      rcases List.mem_cons.mp hq with rfl | hq
      · k_mem
      rcases List.mem_cons.mp hq with rfl | hq
      · k_mem
      rcases List.mem_cons.mp hq with rfl | hq
      · k_mem
      repeat (first | exact hq | apply List.Mem.tail))
-- C7c

theorem init_ba {w : World} {A₀ : Around} {base h₀ : Heap} {outer : List Env} {env : Env} {L : Addr} {m mg mb : Str → Option Value} {s : Shared} {news : List (Addr × Obj)} {p : Program} {loose : List Str} {mean : ExcName → Option Value} {R : Result → Shared → Prop} {dd uu : Nat}
    {one dx C : Nat} {x : Array UInt8} {c : Nat}
    (hC : C = 205) (B : Below A₀ base outer h₀) (F : Fr h₀ L s.heap m) (X : (MineH.hd.heap_39 w.params).In h₀) (T : Top p loose mean mg mb h₀)
    (hf : env.frame = some L) (hke : env.scope.kind = .function) (hdd : dd + 20 < recursionLimit) (huu : uu + 100 < cLine)
    (N : News h₀ L s.heap ((one, instObj C dx) :: (dx, dictOf [] 0) :: (c, baObj x) :: news)) (g1 : dx < one) (g5 : ∀ q ∈ news, q.1 ≠ dx) (hz : x.size ≤ sizeLine) (g7 : c ≠ dx)
    (h : ∀ a h' t tk, (∀ q ∈ news, q.1 < a) → dx < a → Fr h₀ L h' m → News h₀ L h' ((one, instObj C dx) :: (dx, dictOf [⟨PyData.keyHash w.params (Str.ofString "pduData"), .str (Str.ofString "pduData") t, .ref a⟩] 1) :: (a, baObj x) :: (c, baObj x) :: news) → R (.ok (.ret .none)) { s with heap := h', toks := tk }) :
    codeG (model PySem.Challenge.rw_bd5008_01.row.toRowW.prog w) (arnd dd uu (env :: outer)) (.call (.ref 146) ⟨[.ref one, .ref c], []⟩) R s := by
  revert X
  k_fill
  intro X
  subst hC
  all_goals
    (refine' enter_bothG ?k1 ?k2 ?k3 ?k4 ?k5 ?kA ?kF ?kK ?k6 ?k7 ?k8 ?kV ?kX ?kQ ?kM ?kN ?kR ?kP ?kS ?kT ?kB ?_ ?c2 ?c3 ?c4 ?c5; (case kA => exact rfl); (case kF => exact hf); (case kK => exact hke); (case k1 => k_asm); (case k2 => k_asm); (case k3 => k_asm); (case k4 => k_asm); (case k5 => k_asm); (case k6 => k_is); (case k7 => k_is); (case k8 => show dd < _; omega); (case kV => kp_lit); (case kX => kp_lit); (case kQ => exact rfl); (case kM => exact rfl); (case kN => exact rfl); (case kR => exact rfl); (case kP => exact rfl); (case kS => exact fun _ => rfl); (case kT => exact fun _ _ => rfl); (case kB => exact fun _ _ => locs rfl); (case c5 => decide); (case c2 => exact rfl); (case c3 => exact rfl); (case c4 => exact rfl); k_whole; intro C' D' g' L' h' tk' tk1' l1 l2 lo' FG' F' N' B' X' T'; (try k_lt l1); (try k_lt2 l2); (simp only [kwEs, List.length_cons, List.length_nil, Nat.zero_add, Nat.reduceAdd] at N'); (try dsimp only); (try k_lift B'); (try k_fold))
    refine wpG_execs_cons (wpG_of ?_)
    repeat (first | (k_unfold; (try dsimp only)) | walk1 | (dsimp only; walk1))
    refine wpG_Assign_Attribute (wpG_Call_Name ?_)
    repeat (first | (k_unfold; (try dsimp only)) | walk1 | (dsimp only; walk1))
    refine callGG_T (wpG_spl_cons (wpG_of ?_))
    repeat (first | (k_unfold; (try dsimp only)) | walk1 | (dsimp only; walk1))
    dsimp only [List.nil_append]
    (refine' ba_K ?g ?F ?N ?l ?s ?z ?_; (case g => exact rfl); (case F => k_asm); (case N => k_asm); (case l => simp); (case s => exact .inr (.inr (.inl ⟨_, rfl, by k_mem⟩))); (case z => assumption))
    intro d5 h5 F5 N5 l5
    have m1 : ∀ q ∈ news, q.1 < d5 := fun q hq => l5 q (by repeat (first | exact hq | apply List.Mem.tail))
    have m2 : dx < d5 := l5 (dx, _) (by k_mem)
    (try k_lt l5)
    dsimp only
    repeat (first | (k_unfold; (try dsimp only)) | walk1 | (dsimp only; walk1))
    (rename News h₀ L _ _ => kN)
    exact h _ _ _ _ m1 m2 (by assumption) fun q hq => kN q (by
      rcases List.mem_cons.mp hq with rfl | hq
      · k_mem
      rcases List.mem_cons.mp hq with rfl | hq
      · k_mem
      rcases List.mem_cons.mp hq with rfl | hq
      · k_mem
      repeat (first | exact hq | apply List.Mem.tail))
end

section
theorem w_off46 : True := by
  w_top off
  trivial
local macro_rules | `(tactic| walk_at "call builtin:len") => `(tactic| (k_here; (with_reducible show wpAny _ _ (call (Value.builtin "len") [Value.ref _]) _ _ _); k_dflt (refine' len_K' ?N ?m ?z ?_; (case N => k_asm); (case m => k_mem); (case z => assumption); k_whole; intro _ _)))
local macro_rules | `(tactic| walk_at "subscriptTail") => `(tactic| (k_here; (with_reducible show wpAny _ _ (subscriptTail _ _ (Value.ref _) (Value.int _ _)) _ _ _); k_dflt (refine' tail0_K ?N ?m ?_ ?s; (case N => k_asm); (case m => k_mem); (case s => with_unfolding_all rfl); k_whole)))
local macro_rules | `(tactic| walk_at "subscriptTail") => `(tactic| (k_here; (with_reducible show wpAny _ _ (subscriptTail _ (Expr.Slice _ _ _ _) (Value.ref _) (Value.ref _)) _ _ _); k_dflt (refine' tailTo_K ?F ?N ?m ?z ?y ?_ ?s; (case F => k_asm); (case N => k_asm); (case m => k_mem); (case s => with_unfolding_all rfl); (case z => assumption); (case y => assumption); k_whole; intro d' h' F' N' l1; (try k_lt l1))))
local macro_rules | `(tactic| walk_at "wpG") => `(tactic| first | (with_reducible refine wpG_execs_nil ?_) | (with_reducible refine wpG_execs_cons ?_) | (with_reducible refine wpG_If ?_) | (with_reducible refine wpG_Delete1 ?_) | (with_reducible refine wpG_AugAssign_AttributeAny ?_))
local macro_rules | `(tactic| walk_at "ite") => `(tactic| first | (rw [if_neg (by first | assumption | (simp; done) | (simp; omega))]) | (rw [if_pos (by first | assumption | (simp; done) | (simp; omega))]))
local macro_rules | `(tactic| walk_at "wpG") => `(tactic| first | (with_reducible refine wpG_spl_nil ?_))
local macro_rules | `(tactic| walk_at "call type:bytes") => `(tactic| (k_here; (with_reducible show wpAny _ _ (call (Value.type "bytes") [Value.ref _]) _ _ _); k_dflt (refine' bytesOf_K ?N ?m ?z ?_; (case N => k_asm); (case m => k_mem); (case z => (simp; omega)); k_whole)))
local macro_rules | `(tactic| walk_at "call builtin:_struct.unpack") => `(tactic| (k_here; k_dflt (first | (refine' unpackH_K ?F ?N ?z ?_; (case F => k_asm); (case N => k_asm); (case z => (simp; omega)); k_whole; intro d' h' n' tk' hn' F' N' l1; (try k_lt l1)) | (refine' unpackL_K ?F ?N ?z ?_; (case F => k_asm); (case N => k_asm); (case z => (simp; omega)); k_whole; intro d' h' n' tk' hn' F' N' l1; (try k_lt l1)))))
local macro_rules | `(tactic| walk_at "wpG") => `(tactic| (k_here; first | (with_reducible show wpG _ _ (call (Value.type "bytes") [Value.ref _]) _ _ _) | (with_reducible show wpG _ _ (call (Value.builtin "_struct.unpack") _) _ _ _); refine wpG_of ?_))
local macro_rules | `(tactic| walk_at "call builtin:isinstance") => `(tactic| (k_here; (with_reducible show wpAny _ _ (call (Value.builtin "isinstance") [Value.ref _, Value.type _]) _ _ _); k_dflt (first | (refine' isiBa_t ?N ?m ?_; (case N => k_asm); (case m => k_mem); k_whole) | (refine' isiBa_f ?N ?m ?t ?_; (case N => k_asm); (case m => k_mem); (case t => first | exact .inl rfl | exact .inr rfl); k_whole))))
local macro_rules | `(tactic| walk_at "call builtin:_struct.pack") => `(tactic| (k_here; first | (with_reducible refine packH_M ?_) | (with_reducible refine packL_M ?_); intro _ _))
local macro_rules | `(tactic| walk_at "call builtin:isinstance") => `(tactic| (k_here; (with_reducible show wpAny _ _ (call (Value.builtin "isinstance") [Value.ref _, Value.ref _]) _ _ _); k_dflt (refine' isiBa_tup ?N ?m ?t ?_; (case N => k_asm); (case m => k_mem); (case t => k_mem); k_whole; intro _)))
local macro_rules | `(tactic| walk_at "leaving ref") => `(tactic| (k_here; first
  | (refine' leave_newX ?k1 ?k0 ?k2 ?k3 ?_; (case k0 => assumption); (case k1 => assumption); (case k2 => assumption); (case k3 => k_asm); k_whole; intro h' R' U'; (try dsimp only at R' U' ⊢))
  | (refine' leave_onNX ?k1 ?k2 ?k3 ?k4 ?_; (case k3 => assumption); (case k1 => assumption); (case k4 => assumption); (case k2 => assumption); k_whole; intro h' R' U'; (try dsimp only at R' U' ⊢))))
local macro_rules | `(tactic| walk_at "exec Raise some none") => `(tactic| refine Raise_new rfl ?_)
local macro_rules | `(tactic| walk_at "none") => `(tactic| fail)
-- C7d

theorem init_wi {w : World} {A₀ : Around} {base h₀ : Heap} {outer : List Env} {env : Env} {L : Addr} {m mg mb : Str → Option Value} {s : Shared} {news : List (Addr × Obj)} {p : Program} {loose : List Str} {mean : ExcName → Option Value} {R : Result → Shared → Prop} {dd uu : Nat}
    {one dx C : Nat} {x : Int} {t : Tok}
    (hC : C = 205) (B : Below A₀ base outer h₀) (F : Fr h₀ L s.heap m) (X : (MineH.hd.heap_39 w.params).In h₀) (T : Top p loose mean mg mb h₀)
    (hf : env.frame = some L) (hke : env.scope.kind = .function) (hdd : dd + 20 < recursionLimit) (huu : uu + 100 < cLine)
    (N : News h₀ L s.heap ((one, instObj C dx) :: (dx, dictOf [] 0) :: news)) (g1 : dx < one) (g5 : ∀ q ∈ news, q.1 ≠ dx) 
    (h : ∀ g h' e tk, Fr h₀ L g m → g.UpToSlots h' → RaisedN base (env :: outer) e (.type "TypeError") (news) h' → R (.error (.ref e)) { s with heap := h', toks := tk }) :
    codeG (model PySem.Challenge.rw_bd5008_01.row.toRowW.prog w) (arnd dd uu (env :: outer)) (.call (.ref 146) ⟨[.ref one, .int x t], []⟩) R s := by
  revert X
  k_fill
  intro X
  subst hC
  all_goals
    (refine' enter_bothG ?k1 ?k2 ?k3 ?k4 ?k5 ?kA ?kF ?kK ?k6 ?k7 ?k8 ?kV ?kX ?kQ ?kM ?kN ?kR ?kP ?kS ?kT ?kB ?_ ?c2 ?c3 ?c4 ?c5; (case kA => exact rfl); (case kF => exact hf); (case kK => exact hke); (case k1 => k_asm); (case k2 => k_asm); (case k3 => k_asm); (case k4 => k_asm); (case k5 => k_asm); (case k6 => k_is); (case k7 => k_is); (case k8 => show dd < _; omega); (case kV => kp_lit); (case kX => kp_lit); (case kQ => exact rfl); (case kM => exact rfl); (case kN => exact rfl); (case kR => exact rfl); (case kP => exact rfl); (case kS => exact fun _ => rfl); (case kT => exact fun _ _ => rfl); (case kB => exact fun _ _ => locs rfl); (case c5 => decide); (case c2 => exact rfl); (case c3 => exact rfl); (case c4 => exact rfl); k_whole; intro C' D' g' L' h' tk' tk1' l1 l2 lo' FG' F' N' B' X' T'; (try k_lt l1); (try k_lt2 l2); (simp only [kwEs, List.length_cons, List.length_nil, Nat.zero_add, Nat.reduceAdd] at N'); (try dsimp only); (try k_lift B'); (try k_fold))
    refine wpG_execs_cons (wpG_of ?_)
    repeat (first | (k_unfold; (try dsimp only)) | walk1 | (dsimp only; walk1))
    refine wpG_of ?_
    repeat (first | (k_unfold; (try dsimp only)) | walk1 | (dsimp only; walk1))
    (rename RaisedN _ _ _ _ _ _ => rn)
    refine h _ _ _ _ FG' (by assumption) ?_
    obtain ⟨B, a0, x1, x2, x3⟩ := rn
    refine ⟨B, a0, x1, fun q hq => x2 q ?_, x3⟩
    repeat (first | exact hq | apply List.Mem.tail)

theorem init_ws {w : World} {A₀ : Around} {base h₀ : Heap} {outer : List Env} {env : Env} {L : Addr} {m mg mb : Str → Option Value} {s : Shared} {news : List (Addr × Obj)} {p : Program} {loose : List Str} {mean : ExcName → Option Value} {R : Result → Shared → Prop} {dd uu : Nat}
    {one dx C : Nat} {x : Str} {t : Tok}
    (hC : C = 205) (B : Below A₀ base outer h₀) (F : Fr h₀ L s.heap m) (X : (MineH.hd.heap_39 w.params).In h₀) (T : Top p loose mean mg mb h₀)
    (hf : env.frame = some L) (hke : env.scope.kind = .function) (hdd : dd + 20 < recursionLimit) (huu : uu + 100 < cLine)
    (N : News h₀ L s.heap ((one, instObj C dx) :: (dx, dictOf [] 0) :: news)) (g1 : dx < one) (g5 : ∀ q ∈ news, q.1 ≠ dx) 
    (h : ∀ g h' e tk, Fr h₀ L g m → g.UpToSlots h' → RaisedN base (env :: outer) e (.type "TypeError") (news) h' → R (.error (.ref e)) { s with heap := h', toks := tk }) :
    codeG (model PySem.Challenge.rw_bd5008_01.row.toRowW.prog w) (arnd dd uu (env :: outer)) (.call (.ref 146) ⟨[.ref one, .str x t], []⟩) R s := by
  revert X
  k_fill
  intro X
  subst hC
  all_goals
    (refine' enter_bothG ?k1 ?k2 ?k3 ?k4 ?k5 ?kA ?kF ?kK ?k6 ?k7 ?k8 ?kV ?kX ?kQ ?kM ?kN ?kR ?kP ?kS ?kT ?kB ?_ ?c2 ?c3 ?c4 ?c5; (case kA => exact rfl); (case kF => exact hf); (case kK => exact hke); (case k1 => k_asm); (case k2 => k_asm); (case k3 => k_asm); (case k4 => k_asm); (case k5 => k_asm); (case k6 => k_is); (case k7 => k_is); (case k8 => show dd < _; omega); (case kV => kp_lit); (case kX => kp_lit); (case kQ => exact rfl); (case kM => exact rfl); (case kN => exact rfl); (case kR => exact rfl); (case kP => exact rfl); (case kS => exact fun _ => rfl); (case kT => exact fun _ _ => rfl); (case kB => exact fun _ _ => locs rfl); (case c5 => decide); (case c2 => exact rfl); (case c3 => exact rfl); (case c4 => exact rfl); k_whole; intro C' D' g' L' h' tk' tk1' l1 l2 lo' FG' F' N' B' X' T'; (try k_lt l1); (try k_lt2 l2); (simp only [kwEs, List.length_cons, List.length_nil, Nat.zero_add, Nat.reduceAdd] at N'); (try dsimp only); (try k_lift B'); (try k_fold))
    refine wpG_execs_cons (wpG_of ?_)
    repeat (first | (k_unfold; (try dsimp only)) | walk1 | (dsimp only; walk1))
    refine wpG_of ?_
    repeat (first | (k_unfold; (try dsimp only)) | walk1 | (dsimp only; walk1))
    (rename RaisedN _ _ _ _ _ _ => rn)
    refine h _ _ _ _ FG' (by assumption) ?_
    obtain ⟨B, a0, x1, x2, x3⟩ := rn
    refine ⟨B, a0, x1, fun q hq => x2 q ?_, x3⟩
    repeat (first | exact hq | apply List.Mem.tail)

theorem init_wl {w : World} {A₀ : Around} {base h₀ : Heap} {outer : List Env} {env : Env} {L : Addr} {m mg mb : Str → Option Value} {s : Shared} {news : List (Addr × Obj)} {p : Program} {loose : List Str} {mean : ExcName → Option Value} {R : Result → Shared → Prop} {dd uu : Nat}
    {one dx C : Nat} {c cn : Nat} {vs : List Value}
    (hC : C = 205) (B : Below A₀ base outer h₀) (F : Fr h₀ L s.heap m) (X : (MineH.hd.heap_39 w.params).In h₀) (T : Top p loose mean mg mb h₀)
    (hf : env.frame = some L) (hke : env.scope.kind = .function) (hdd : dd + 20 < recursionLimit) (huu : uu + 100 < cLine)
    (N : News h₀ L s.heap ((one, instObj C dx) :: (dx, dictOf [] 0) :: (c, sqObj "list" vs cn) :: news)) (g1 : dx < one) (g5 : ∀ q ∈ news, q.1 ≠ dx) (g7 : c ≠ dx)
    (h : ∀ g h' e tk, Fr h₀ L g m → g.UpToSlots h' → RaisedN base (env :: outer) e (.type "TypeError") ((c, sqObj "list" vs cn) :: news) h' → R (.error (.ref e)) { s with heap := h', toks := tk }) :
    codeG (model PySem.Challenge.rw_bd5008_01.row.toRowW.prog w) (arnd dd uu (env :: outer)) (.call (.ref 146) ⟨[.ref one, .ref c], []⟩) R s := by
  revert X
  k_fill
  intro X
  subst hC
  all_goals
    (refine' enter_bothG ?k1 ?k2 ?k3 ?k4 ?k5 ?kA ?kF ?kK ?k6 ?k7 ?k8 ?kV ?kX ?kQ ?kM ?kN ?kR ?kP ?kS ?kT ?kB ?_ ?c2 ?c3 ?c4 ?c5; (case kA => exact rfl); (case kF => exact hf); (case kK => exact hke); (case k1 => k_asm); (case k2 => k_asm); (case k3 => k_asm); (case k4 => k_asm); (case k5 => k_asm); (case k6 => k_is); (case k7 => k_is); (case k8 => show dd < _; omega); (case kV => kp_lit); (case kX => kp_lit); (case kQ => exact rfl); (case kM => exact rfl); (case kN => exact rfl); (case kR => exact rfl); (case kP => exact rfl); (case kS => exact fun _ => rfl); (case kT => exact fun _ _ => rfl); (case kB => exact fun _ _ => locs rfl); (case c5 => decide); (case c2 => exact rfl); (case c3 => exact rfl); (case c4 => exact rfl); k_whole; intro C' D' g' L' h' tk' tk1' l1 l2 lo' FG' F' N' B' X' T'; (try k_lt l1); (try k_lt2 l2); (simp only [kwEs, List.length_cons, List.length_nil, Nat.zero_add, Nat.reduceAdd] at N'); (try dsimp only); (try k_lift B'); (try k_fold))
    refine wpG_execs_cons (wpG_of ?_)
    repeat (first | (k_unfold; (try dsimp only)) | walk1 | (dsimp only; walk1))
    refine wpG_of ?_
    repeat (first | (k_unfold; (try dsimp only)) | walk1 | (dsimp only; walk1))
    (rename RaisedN _ _ _ _ _ _ => rn)
    refine h _ _ _ _ FG' (by assumption) ?_
    obtain ⟨B, a0, x1, x2, x3⟩ := rn
    refine ⟨B, a0, x1, fun q hq => x2 q ?_, x3⟩
    repeat (first | exact hq | apply List.Mem.tail)

theorem init_wt {w : World} {A₀ : Around} {base h₀ : Heap} {outer : List Env} {env : Env} {L : Addr} {m mg mb : Str → Option Value} {s : Shared} {news : List (Addr × Obj)} {p : Program} {loose : List Str} {mean : ExcName → Option Value} {R : Result → Shared → Prop} {dd uu : Nat}
    {one dx C : Nat} {c cn : Nat} {vs : List Value}
    (hC : C = 205) (B : Below A₀ base outer h₀) (F : Fr h₀ L s.heap m) (X : (MineH.hd.heap_39 w.params).In h₀) (T : Top p loose mean mg mb h₀)
    (hf : env.frame = some L) (hke : env.scope.kind = .function) (hdd : dd + 20 < recursionLimit) (huu : uu + 100 < cLine)
    (N : News h₀ L s.heap ((one, instObj C dx) :: (dx, dictOf [] 0) :: (c, sqObj "tuple" vs cn) :: news)) (g1 : dx < one) (g5 : ∀ q ∈ news, q.1 ≠ dx) (g7 : c ≠ dx)
    (h : ∀ g h' e tk, Fr h₀ L g m → g.UpToSlots h' → RaisedN base (env :: outer) e (.type "TypeError") ((c, sqObj "tuple" vs cn) :: news) h' → R (.error (.ref e)) { s with heap := h', toks := tk }) :
    codeG (model PySem.Challenge.rw_bd5008_01.row.toRowW.prog w) (arnd dd uu (env :: outer)) (.call (.ref 146) ⟨[.ref one, .ref c], []⟩) R s := by
  revert X
  k_fill
  intro X
  subst hC
  all_goals
    (refine' enter_bothG ?k1 ?k2 ?k3 ?k4 ?k5 ?kA ?kF ?kK ?k6 ?k7 ?k8 ?kV ?kX ?kQ ?kM ?kN ?kR ?kP ?kS ?kT ?kB ?_ ?c2 ?c3 ?c4 ?c5; (case kA => exact rfl); (case kF => exact hf); (case kK => exact hke); (case k1 => k_asm); (case k2 => k_asm); (case k3 => k_asm); (case k4 => k_asm); (case k5 => k_asm); (case k6 => k_is); (case k7 => k_is); (case k8 => show dd < _; omega); (case kV => kp_lit); (case kX => kp_lit); (case kQ => exact rfl); (case kM => exact rfl); (case kN => exact rfl); (case kR => exact rfl); (case kP => exact rfl); (case kS => exact fun _ => rfl); (case kT => exact fun _ _ => rfl); (case kB => exact fun _ _ => locs rfl); (case c5 => decide); (case c2 => exact rfl); (case c3 => exact rfl); (case c4 => exact rfl); k_whole; intro C' D' g' L' h' tk' tk1' l1 l2 lo' FG' F' N' B' X' T'; (try k_lt l1); (try k_lt2 l2); (simp only [kwEs, List.length_cons, List.length_nil, Nat.zero_add, Nat.reduceAdd] at N'); (try dsimp only); (try k_lift B'); (try k_fold))
    refine wpG_execs_cons (wpG_of ?_)
    repeat (first | (k_unfold; (try dsimp only)) | walk1 | (dsimp only; walk1))
    refine wpG_of ?_
    repeat (first | (k_unfold; (try dsimp only)) | walk1 | (dsimp only; walk1))
    (rename RaisedN _ _ _ _ _ _ => rn)
    refine h _ _ _ _ FG' (by assumption) ?_
    obtain ⟨B, a0, x1, x2, x3⟩ := rn
    refine ⟨B, a0, x1, fun q hq => x2 q ?_, x3⟩
    repeat (first | exact hq | apply List.Mem.tail)
end

section
theorem w_off47 : True := by
  w_top off
  trivial
local macro_rules | `(tactic| walk_at "call builtin:len") => `(tactic| (k_here; (with_reducible show wpAny _ _ (call (Value.builtin "len") [Value.ref _]) _ _ _); k_dflt (refine' len_K' ?N ?m ?z ?_; (case N => k_asm); (case m => k_mem); (case z => assumption); k_whole; intro _ _)))
local macro_rules | `(tactic| walk_at "subscriptTail") => `(tactic| (k_here; (with_reducible show wpAny _ _ (subscriptTail _ _ (Value.ref _) (Value.int _ _)) _ _ _); k_dflt (refine' tail0_K ?N ?m ?_ ?s; (case N => k_asm); (case m => k_mem); (case s => with_unfolding_all rfl); k_whole)))
local macro_rules | `(tactic| walk_at "subscriptTail") => `(tactic| (k_here; (with_reducible show wpAny _ _ (subscriptTail _ (Expr.Slice _ _ _ _) (Value.ref _) (Value.ref _)) _ _ _); k_dflt (refine' tailTo_K ?F ?N ?m ?z ?y ?_ ?s; (case F => k_asm); (case N => k_asm); (case m => k_mem); (case s => with_unfolding_all rfl); (case z => assumption); (case y => assumption); k_whole; intro d' h' F' N' l1; (try k_lt l1))))
local macro_rules | `(tactic| walk_at "wpG") => `(tactic| first | (with_reducible refine wpG_execs_nil ?_) | (with_reducible refine wpG_execs_cons ?_) | (with_reducible refine wpG_If ?_) | (with_reducible refine wpG_Delete1 ?_) | (with_reducible refine wpG_AugAssign_AttributeAny ?_))
local macro_rules | `(tactic| walk_at "ite") => `(tactic| first | (rw [if_neg (by first | assumption | (simp; done) | (simp; omega))]) | (rw [if_pos (by first | assumption | (simp; done) | (simp; omega))]))
local macro_rules | `(tactic| walk_at "wpG") => `(tactic| first | (with_reducible refine wpG_spl_nil ?_))
local macro_rules | `(tactic| walk_at "call type:bytes") => `(tactic| (k_here; (with_reducible show wpAny _ _ (call (Value.type "bytes") [Value.ref _]) _ _ _); k_dflt (refine' bytesOf_K ?N ?m ?z ?_; (case N => k_asm); (case m => k_mem); (case z => (simp; omega)); k_whole)))
local macro_rules | `(tactic| walk_at "call builtin:_struct.unpack") => `(tactic| (k_here; k_dflt (first | (refine' unpackH_K ?F ?N ?z ?_; (case F => k_asm); (case N => k_asm); (case z => (simp; omega)); k_whole; intro d' h' n' tk' hn' F' N' l1; (try k_lt l1)) | (refine' unpackL_K ?F ?N ?z ?_; (case F => k_asm); (case N => k_asm); (case z => (simp; omega)); k_whole; intro d' h' n' tk' hn' F' N' l1; (try k_lt l1)))))
local macro_rules | `(tactic| walk_at "wpG") => `(tactic| (k_here; first | (with_reducible show wpG _ _ (call (Value.type "bytes") [Value.ref _]) _ _ _) | (with_reducible show wpG _ _ (call (Value.builtin "_struct.unpack") _) _ _ _); refine wpG_of ?_))
local macro_rules | `(tactic| walk_at "call builtin:isinstance") => `(tactic| (k_here; (with_reducible show wpAny _ _ (call (Value.builtin "isinstance") [Value.ref _, Value.type _]) _ _ _); k_dflt (first | (refine' isiBa_t ?N ?m ?_; (case N => k_asm); (case m => k_mem); k_whole) | (refine' isiBa_f ?N ?m ?t ?_; (case N => k_asm); (case m => k_mem); (case t => first | exact .inl rfl | exact .inr rfl); k_whole))))
local macro_rules | `(tactic| walk_at "call builtin:_struct.pack") => `(tactic| (k_here; first | (with_reducible refine packH_M ?_) | (with_reducible refine packL_M ?_); intro _ _))
local macro_rules | `(tactic| walk_at "call builtin:isinstance") => `(tactic| (k_here; (with_reducible show wpAny _ _ (call (Value.builtin "isinstance") [Value.ref _, Value.ref _]) _ _ _); k_dflt (refine' isiBa_tup ?N ?m ?t ?_; (case N => k_asm); (case m => k_mem); (case t => k_mem); k_whole; intro _)))
local macro_rules | `(tactic| walk_at "leaving ref") => `(tactic| (k_here; first
  | (refine' leave_newX ?k1 ?k0 ?k2 ?k3 ?_; (case k0 => assumption); (case k1 => assumption); (case k2 => assumption); (case k3 => k_asm); k_whole; intro h' R' U'; (try dsimp only at R' U' ⊢))
  | (refine' leave_onNX ?k1 ?k2 ?k3 ?k4 ?_; (case k3 => assumption); (case k1 => assumption); (case k4 => assumption); (case k2 => assumption); k_whole; intro h' R' U'; (try dsimp only at R' U' ⊢))))
local macro_rules | `(tactic| walk_at "pyIter ref") => `(tactic| (k_here; (with_reducible show wpAny _ _ (pyIter (Value.ref _)) (fun it s₂ => TurnsAt _ _ _ _ _ _ _ _ _ it s₂) _ _); (rename Fr _ _ _ _ => lF'); (rename News _ _ _ _ => lN'); (with_unfolding_all refine iter_tupTurns (by rfl) lF' lN' (by k_mem) (by rfl) (by rfl) ?_); clear lF' lN'; intro i' l1; (try k_lt l1)))
local macro_rules | `(tactic| walk_at "none") => `(tactic| fail)
local macro_rules | `(tactic| walk_at "none") => `(tactic| fail)
-- C7e

theorem init_inst {w : World} {A₀ : Around} {base h₀ : Heap} {outer : List Env} {env : Env} {L : Addr} {m mg mb : Str → Option Value} {s : Shared} {news : List (Addr × Obj)} {p : Program} {loose : List Str} {mean : ExcName → Option Value} {R : Result → Shared → Prop} {dd uu : Nat}
    {one dx C : Nat} {x : Array UInt8} {o2 d2 a2 C2 n2 : Nat} {es2 : List DictEntry}
    (hC : C = 205) (B : Below A₀ base outer h₀) (F : Fr h₀ L s.heap m) (X : (MineH.hd.heap_39 w.params).In h₀) (T : Top p loose mean mg mb h₀)
    (hf : env.frame = some L) (hke : env.scope.kind = .function) (hdd : dd + 20 < recursionLimit) (huu : uu + 100 < cLine)
    (N : News h₀ L s.heap ((one, instObj C dx) :: (dx, dictOf [] 0) :: (o2, instObj C2 d2) :: (d2, dictOf es2 n2) :: (a2, baObj x) :: news)) (g1 : dx < one) (g5 : ∀ q ∈ news, q.1 ≠ dx) (hC2 : C2 = 375 ∨ C2 = 453) (hz : x.size ≤ sizeLine) (g7 : o2 ≠ dx) (g8 : d2 ≠ dx) (g9 : a2 ≠ dx) (e1 : getL (Str.ofString "pduData") es2 = some (some (.ref a2)))
    (h : ∀ a h' t tk, (∀ q ∈ news, q.1 < a) → dx < a → Fr h₀ L h' m → News h₀ L h' ((one, instObj C dx) :: (dx, dictOf [⟨PyData.keyHash w.params (Str.ofString "pduData"), .str (Str.ofString "pduData") t, .ref a⟩] 1) :: (a, baObj x) :: (o2, instObj C2 d2) :: (d2, dictOf es2 n2) :: (a2, baObj x) :: news) → R (.ok (.ret .none)) { s with heap := h', toks := tk }) :
    codeG (model PySem.Challenge.rw_bd5008_01.row.toRowW.prog w) (arnd dd uu (env :: outer)) (.call (.ref 146) ⟨[.ref one, .ref o2], []⟩) R s := by
  revert X
  k_fill
  intro X
  subst hC
  rcases hC2 with rfl | rfl
  all_goals
    (refine' enter_bothG ?k1 ?k2 ?k3 ?k4 ?k5 ?kA ?kF ?kK ?k6 ?k7 ?k8 ?kV ?kX ?kQ ?kM ?kN ?kR ?kP ?kS ?kT ?kB ?_ ?c2 ?c3 ?c4 ?c5; (case kA => exact rfl); (case kF => exact hf); (case kK => exact hke); (case k1 => k_asm); (case k2 => k_asm); (case k3 => k_asm); (case k4 => k_asm); (case k5 => k_asm); (case k6 => k_is); (case k7 => k_is); (case k8 => show dd < _; omega); (case kV => kp_lit); (case kX => kp_lit); (case kQ => exact rfl); (case kM => exact rfl); (case kN => exact rfl); (case kR => exact rfl); (case kP => exact rfl); (case kS => exact fun _ => rfl); (case kT => exact fun _ _ => rfl); (case kB => exact fun _ _ => locs rfl); (case c5 => decide); (case c2 => exact rfl); (case c3 => exact rfl); (case c4 => exact rfl); k_whole; intro C' D' g' L' h' tk' tk1' l1 l2 lo' FG' F' N' B' X' T'; (try k_lt l1); (try k_lt2 l2); (simp only [kwEs, List.length_cons, List.length_nil, Nat.zero_add, Nat.reduceAdd] at N'); (try dsimp only); (try k_lift B'); (try k_fold))
    refine wpG_execs_cons (wpG_of ?_)
    repeat (first | (k_unfold; (try dsimp only)) | walk1 | (dsimp only; walk1))
    refine wpG_Assign_Attribute (wpG_Call_Name ?_)
    repeat (first | (k_unfold; (try dsimp only)) | walk1 | (dsimp only; walk1))
    refine callGG_T (wpG_spl_cons (wpG_of ?_))
    repeat (first | (k_unfold; (try dsimp only)) | walk1 | (dsimp only; walk1))
    dsimp only [List.nil_append]
    (refine' ba_K ?g ?F ?N ?l ?s ?z ?_; (case g => exact rfl); (case F => k_asm); (case N => k_asm); (case l => simp); (case s => exact .inr (.inr (.inl ⟨_, rfl, by k_mem⟩))); (case z => assumption))
    intro d5 h5 F5 N5 l5
    have m1 : ∀ q ∈ news, q.1 < d5 := fun q hq => l5 q (by repeat (first | exact hq | apply List.Mem.tail))
    have m2 : dx < d5 := l5 (dx, _) (by k_mem)
    (try k_lt l5)
    dsimp only
    repeat (first | (k_unfold; (try dsimp only)) | walk1 | (dsimp only; walk1))
    (rename News h₀ L _ _ => kN)
    exact h _ _ _ _ m1 m2 (by assumption) fun q hq => kN q (by
      rcases List.mem_cons.mp hq with rfl | hq
      · k_mem
      rcases List.mem_cons.mp hq with rfl | hq
      · k_mem
      rcases List.mem_cons.mp hq with rfl | hq
      · k_mem
      repeat (first | exact hq | apply List.Mem.tail))
end

end Mine
end

-- D1
namespace Mine
open PySem PySem.W PySem.Calls PyProof.Rows
theorem apart {h₀ h : Heap} {L one dx a C n : Nat} {es : List DictEntry} {b : Array UInt8} {all : List (Addr × Obj)} (N : News h₀ L h all) (h1 : (one, instObj C dx) ∈ all) (h2 : (dx, dictOf es n) ∈ all) (h3 : (a, baObj b) ∈ all) : one ≠ dx ∧ one ≠ a ∧ dx ≠ a ∧ a ≠ dx := by
  have x1 := (N _ h1).1
  have x2 := (N _ h2).1
  have x3 := (N _ h3).1
  dsimp only at x1 x2 x3
  refine ⟨fun e => ?_, fun e => ?_, fun e => ?_, fun e => ?_⟩ <;> subst e
  · rw [x1] at x2; exact absurd (congrArg Obj.cls (Option.some.inj x2)) (by simp)
  · rw [x1] at x3; exact absurd (congrArg Obj.cls (Option.some.inj x3)) (by simp)
  · rw [x2] at x3; exact absurd (congrArg Obj.cls (Option.some.inj x3)) (by simp)
  · rw [x2] at x3; exact absurd (congrArg Obj.cls (Option.some.inj x3)) (by simp)
theorem put_U {w : World} {A₀ : Around} {base h₀ : Heap} {outer : List Env} {env : Env} {L : Addr} {m mg mb : Str → Option Value} {s : Shared} {all : List (Addr × Obj)} {g : Obj → List (Addr × Obj)} {p : Program} {loose : List Str} {mean : ExcName → Option Value} {R : Result → Shared → Prop} {dd uu : Nat}
    {one dx a C n : Nat} {es : List DictEntry} {b : Array UInt8} {y : Int} {t : Tok}
    (hC : C = 375 ∨ C = 453 ∨ C = 205) (B : Below A₀ base outer h₀) (F : Fr h₀ L s.heap m) (X : (MineH.hd.heap_39 w.params).In h₀) (T : Top p loose mean mg mb h₀)
    (N : News h₀ L s.heap all) (h1 : (one, instObj C dx) ∈ all) (h2 : (dx, dictOf es n) ∈ all) (U : UpdF a (baObj b) all g) (hf : env.frame = some L) (hke : env.scope.kind = .function) (hdd : dd + 20 < recursionLimit) (huu : uu + 100 < cLine)
    (hes : es.length ≤ 1000) (e1 : getL (Str.ofString "pduData") es = some (some (.ref a))) (hz : b.size + 1 ≤ 100000) (y0 : 0 ≤ y) (y1 : y < 256)
    (h : ∀ h' tk, Fr h₀ L h' m → News h₀ L h' (g (baObj (b ++ #[y.toNat.toUInt8]))) → R (.ok (.ret .none)) { s with heap := h', toks := tk }) :
    codeG (model PySem.Challenge.rw_bd5008_01.row.toRowW.prog w) (arnd dd uu (env :: outer)) (.call (.ref 181) ⟨[.ref one, .int y t], []⟩) R s := by
  have h3 : (a, baObj b) ∈ all := by obtain ⟨pre, post, e, _⟩ := U.split; rw [e]; simp
  obtain ⟨n1, n2, n3, n4⟩ := apart N h1 h2 h3
  exact put_c hC B F X T (led_in N h1 h2 U) hf hke hdd huu n1 n2 n3 (fun q hq => (restOf_mem.mp hq).2.1) (fun q hq => (restOf_mem.mp hq).2.2) n4 hes e1 hz y0 y1 fun h' tk F' N' => h h' tk F' (led_out (more := []) N h2 U N')
end Mine

-- D2
namespace Mine
open PySem PySem.W PySem.Calls PyProof.Rows

theorem get_ok_U {w : World} {A₀ : Around} {base h₀ : Heap} {outer : List Env} {env : Env} {L : Addr} {m mg mb : Str → Option Value} {s : Shared} {all : List (Addr × Obj)} {g : Obj → List (Addr × Obj)} {p : Program} {loose : List Str} {mean : ExcName → Option Value} {R : Result → Shared → Prop} {dd uu : Nat}
    {one dx a C n : Nat} {es : List DictEntry} {c : UInt8} {l : List UInt8}
    (hC : C = 375 ∨ C = 453) (B : Below A₀ base outer h₀) (F : Fr h₀ L s.heap m) (X : (MineH.hd.heap_39 w.params).In h₀) (T : Top p loose mean mg mb h₀)
    (N : News h₀ L s.heap all) (h1 : (one, instObj C dx) ∈ all) (h2 : (dx, dictOf es n) ∈ all) (U : UpdF a (baObj (c :: l).toArray) all g) (hf : env.frame = some L) (hke : env.scope.kind = .function) (hdd : dd + 20 < recursionLimit) (huu : uu + 100 < cLine)
    (hes : es.length ≤ 1000) (e1 : getL (Str.ofString "pduData") es = some (some (.ref a))) (hz : (c :: l).toArray.size ≤ sizeLine)
    (h : ∀ h' t tk, Fr h₀ L h' m → News h₀ L h' (g (baObj l.toArray)) → R (.ok (.ret (.int c.toNat t))) { s with heap := h', toks := tk }) :
    codeG (model PySem.Challenge.rw_bd5008_01.row.toRowW.prog w) (arnd dd uu (env :: outer)) (.call (.ref 153) ⟨[.ref one], []⟩) R s := by
  have h3 : (a, baObj (c :: l).toArray) ∈ all := by obtain ⟨pre, post, e, _⟩ := U.split; rw [e]; simp
  obtain ⟨n1, n2, n3, n4⟩ := apart N h1 h2 h3
  exact get_ok hC B F X T hf hke hdd huu (led_in N h1 h2 U) n1 n2 n3 (fun q hq => (restOf_mem.mp hq).2.1) (fun q hq => (restOf_mem.mp hq).2.2) n4 hes e1 hz fun h' t tk F' N' => h h' t tk F' (led_out (more := []) N h2 U N')

theorem get_bad_U {w : World} {A₀ : Around} {base h₀ : Heap} {outer : List Env} {env : Env} {L : Addr} {m mg mb : Str → Option Value} {s : Shared} {all : List (Addr × Obj)} {g : Obj → List (Addr × Obj)} {p : Program} {loose : List Str} {mean : ExcName → Option Value} {R : Result → Shared → Prop} {dd uu : Nat}
    {one dx a C n : Nat} {es : List DictEntry} 
    (hC : C = 375 ∨ C = 453) (B : Below A₀ base outer h₀) (F : Fr h₀ L s.heap m) (X : (MineH.hd.heap_39 w.params).In h₀) (T : Top p loose mean mg mb h₀)
    (N : News h₀ L s.heap all) (h1 : (one, instObj C dx) ∈ all) (h2 : (dx, dictOf es n) ∈ all) (U : UpdF a (baObj #[]) all g) (hf : env.frame = some L) (hke : env.scope.kind = .function) (hdd : dd + 20 < recursionLimit) (huu : uu + 100 < cLine)
    (hes : es.length ≤ 1000) (e1 : getL (Str.ofString "pduData") es = some (some (.ref a))) 
    (h : ∀ g' h' e t vs tk, Fr h₀ L g' m → g'.UpToSlots h' → RaisedK base (env :: outer) e (.ref 69) t vs all h' → R (.error (.ref e)) { s with heap := h', toks := tk }) :
    codeG (model PySem.Challenge.rw_bd5008_01.row.toRowW.prog w) (arnd dd uu (env :: outer)) (.call (.ref 153) ⟨[.ref one], []⟩) R s := by
  have h3 : (a, baObj #[]) ∈ all := by obtain ⟨pre, post, e, _⟩ := U.split; rw [e]; simp
  obtain ⟨n1, n2, n3, n4⟩ := apart N h1 h2 h3
  exact get_bad hC B F X T hf hke hdd huu (led_in N h1 h2 U) n1 n2 n3 (fun q hq => (restOf_mem.mp hq).2.1) (fun q hq => (restOf_mem.mp hq).2.2) n4 hes e1 (Nat.zero_le _) fun g' h' e t vs tk FG U' R' => h g' h' e t vs tk FG U' (RaisedK.sub R' (led_same N h2 h3))

theorem get_data_ok_U {w : World} {A₀ : Around} {base h₀ : Heap} {outer : List Env} {env : Env} {L : Addr} {m mg mb : Str → Option Value} {s : Shared} {all : List (Addr × Obj)} {g : Obj → List (Addr × Obj)} {p : Program} {loose : List Str} {mean : ExcName → Option Value} {R : Result → Shared → Prop} {dd uu : Nat}
    {one dx a C n : Nat} {es : List DictEntry} {b : Array UInt8} {k : Int} {tk0 : Tok}
    (hC : C = 375 ∨ C = 453) (B : Below A₀ base outer h₀) (F : Fr h₀ L s.heap m) (X : (MineH.hd.heap_39 w.params).In h₀) (T : Top p loose mean mg mb h₀)
    (N : News h₀ L s.heap all) (h1 : (one, instObj C dx) ∈ all) (h2 : (dx, dictOf es n) ∈ all) (U : UpdF a (baObj b) all g) (hf : env.frame = some L) (hke : env.scope.kind = .function) (hdd : dd + 20 < recursionLimit) (huu : uu + 100 < cLine)
    (hes : es.length ≤ 1000) (e1 : getL (Str.ofString "pduData") es = some (some (.ref a))) (hz : b.size ≤ sizeLine) (hk0 : 0 ≤ k) (hk : k ≤ b.size)
    (h : ∀ d h' tk, Fr h₀ L h' m → News h₀ L h' ((d, baObj (b.toList.take k.toNat).toArray) :: g (baObj (b.toList.drop k.toNat).toArray)) → R (.ok (.ret (.ref d))) { s with heap := h', toks := tk }) :
    codeG (model PySem.Challenge.rw_bd5008_01.row.toRowW.prog w) (arnd dd uu (env :: outer)) (.call (.ref 160) ⟨[.ref one, .int k tk0], []⟩) R s := by
  have h3 : (a, baObj b) ∈ all := by obtain ⟨pre, post, e, _⟩ := U.split; rw [e]; simp
  obtain ⟨n1, n2, n3, n4⟩ := apart N h1 h2 h3
  exact get_data_ok hC B F X T hf hke hdd huu (led_in N h1 h2 U) n1 n2 n3 (fun q hq => (restOf_mem.mp hq).2.1) (fun q hq => (restOf_mem.mp hq).2.2) n4 hes e1 hz hk0 hk fun d h' tk F' N' _ => h d h' tk F' (led_out (more := [(d, baObj (b.toList.take k.toNat).toArray)]) N h2 U N')

theorem get_data_bad_U {w : World} {A₀ : Around} {base h₀ : Heap} {outer : List Env} {env : Env} {L : Addr} {m mg mb : Str → Option Value} {s : Shared} {all : List (Addr × Obj)} {g : Obj → List (Addr × Obj)} {p : Program} {loose : List Str} {mean : ExcName → Option Value} {R : Result → Shared → Prop} {dd uu : Nat}
    {one dx a C n : Nat} {es : List DictEntry} {b : Array UInt8} {k : Int} {tk0 : Tok}
    (hC : C = 375 ∨ C = 453) (B : Below A₀ base outer h₀) (F : Fr h₀ L s.heap m) (X : (MineH.hd.heap_39 w.params).In h₀) (T : Top p loose mean mg mb h₀)
    (N : News h₀ L s.heap all) (h1 : (one, instObj C dx) ∈ all) (h2 : (dx, dictOf es n) ∈ all) (U : UpdF a (baObj b) all g) (hf : env.frame = some L) (hke : env.scope.kind = .function) (hdd : dd + 20 < recursionLimit) (huu : uu + 100 < cLine)
    (hes : es.length ≤ 1000) (e1 : getL (Str.ofString "pduData") es = some (some (.ref a))) (hz : b.size ≤ sizeLine) (hk : b.size < k)
    (h : ∀ g' h' e t vs tk, Fr h₀ L g' m → g'.UpToSlots h' → RaisedK base (env :: outer) e (.ref 69) t vs all h' → R (.error (.ref e)) { s with heap := h', toks := tk }) :
    codeG (model PySem.Challenge.rw_bd5008_01.row.toRowW.prog w) (arnd dd uu (env :: outer)) (.call (.ref 160) ⟨[.ref one, .int k tk0], []⟩) R s := by
  have h3 : (a, baObj b) ∈ all := by obtain ⟨pre, post, e, _⟩ := U.split; rw [e]; simp
  obtain ⟨n1, n2, n3, n4⟩ := apart N h1 h2 h3
  exact get_data_bad hC B F X T hf hke hdd huu (led_in N h1 h2 U) n1 n2 n3 (fun q hq => (restOf_mem.mp hq).2.1) (fun q hq => (restOf_mem.mp hq).2.2) n4 hes e1 hz hk fun g' h' e t vs tk FG U' R' => h g' h' e t vs tk FG U' (RaisedK.sub R' (led_same N h2 h3))

theorem get_short_ok_U {w : World} {A₀ : Around} {base h₀ : Heap} {outer : List Env} {env : Env} {L : Addr} {m mg mb : Str → Option Value} {s : Shared} {all : List (Addr × Obj)} {g : Obj → List (Addr × Obj)} {p : Program} {loose : List Str} {mean : ExcName → Option Value} {R : Result → Shared → Prop} {dd uu : Nat}
    {one dx a C n : Nat} {es : List DictEntry} {b : Array UInt8}
    (hC : C = 375 ∨ C = 453) (B : Below A₀ base outer h₀) (F : Fr h₀ L s.heap m) (X : (MineH.hd.heap_39 w.params).In h₀) (T : Top p loose mean mg mb h₀)
    (N : News h₀ L s.heap all) (h1 : (one, instObj C dx) ∈ all) (h2 : (dx, dictOf es n) ∈ all) (U : UpdF a (baObj b) all g) (hf : env.frame = some L) (hke : env.scope.kind = .function) (hdd : dd + 40 < recursionLimit) (huu : uu + 200 < cLine)
    (hes : es.length ≤ 1000) (e1 : getL (Str.ofString "pduData") es = some (some (.ref a))) (e2 : getL (Str.ofString "get_data") es = some none) (hz : b.size ≤ sizeLine) (hk : 2 ≤ b.size)
    (h : ∀ h' v t tk, v = Builtin.Struct.natOf true (b.toList.take 2).toArray → Fr h₀ L h' m → News h₀ L h' (g (baObj (b.toList.drop 2).toArray)) → R (.ok (.ret (.int (v : Nat) t))) { s with heap := h', toks := tk }) :
    codeG (model PySem.Challenge.rw_bd5008_01.row.toRowW.prog w) (arnd dd uu (env :: outer)) (.call (.ref 167) ⟨[.ref one], []⟩) R s := by
  have h3 : (a, baObj b) ∈ all := by obtain ⟨pre, post, e, _⟩ := U.split; rw [e]; simp
  obtain ⟨n1, n2, n3, n4⟩ := apart N h1 h2 h3
  exact get_short_ok hC B F X T hf hke hdd huu (led_in N h1 h2 U) n1 n2 n3 (fun q hq => (restOf_mem.mp hq).2.1) (fun q hq => (restOf_mem.mp hq).2.2) n4 hes e1 e2 hz hk fun h' v t tk hv F' N' => h h' v t tk hv F' (led_out (more := []) N h2 U N')

theorem get_short_bad_U {w : World} {A₀ : Around} {base h₀ : Heap} {outer : List Env} {env : Env} {L : Addr} {m mg mb : Str → Option Value} {s : Shared} {all : List (Addr × Obj)} {g : Obj → List (Addr × Obj)} {p : Program} {loose : List Str} {mean : ExcName → Option Value} {R : Result → Shared → Prop} {dd uu : Nat}
    {one dx a C n : Nat} {es : List DictEntry} {b : Array UInt8}
    (hC : C = 375 ∨ C = 453) (B : Below A₀ base outer h₀) (F : Fr h₀ L s.heap m) (X : (MineH.hd.heap_39 w.params).In h₀) (T : Top p loose mean mg mb h₀)
    (N : News h₀ L s.heap all) (h1 : (one, instObj C dx) ∈ all) (h2 : (dx, dictOf es n) ∈ all) (U : UpdF a (baObj b) all g) (hf : env.frame = some L) (hke : env.scope.kind = .function) (hdd : dd + 40 < recursionLimit) (huu : uu + 200 < cLine)
    (hes : es.length ≤ 1000) (e1 : getL (Str.ofString "pduData") es = some (some (.ref a))) (e2 : getL (Str.ofString "get_data") es = some none) (hz : b.size ≤ sizeLine) (hk : b.size < 2)
    (h : ∀ g' h' e t vs tk, Fr h₀ L g' m → g'.UpToSlots h' → RaisedK base (env :: outer) e (.ref 69) t vs all h' → R (.error (.ref e)) { s with heap := h', toks := tk }) :
    codeG (model PySem.Challenge.rw_bd5008_01.row.toRowW.prog w) (arnd dd uu (env :: outer)) (.call (.ref 167) ⟨[.ref one], []⟩) R s := by
  have h3 : (a, baObj b) ∈ all := by obtain ⟨pre, post, e, _⟩ := U.split; rw [e]; simp
  obtain ⟨n1, n2, n3, n4⟩ := apart N h1 h2 h3
  exact get_short_bad hC B F X T hf hke hdd huu (led_in N h1 h2 U) n1 n2 n3 (fun q hq => (restOf_mem.mp hq).2.1) (fun q hq => (restOf_mem.mp hq).2.2) n4 hes e1 e2 hz hk fun g' h' e t vs tk FG U' R' => h g' h' e t vs tk FG U' (RaisedK.sub R' (led_same N h2 h3))

theorem get_long_ok_U {w : World} {A₀ : Around} {base h₀ : Heap} {outer : List Env} {env : Env} {L : Addr} {m mg mb : Str → Option Value} {s : Shared} {all : List (Addr × Obj)} {g : Obj → List (Addr × Obj)} {p : Program} {loose : List Str} {mean : ExcName → Option Value} {R : Result → Shared → Prop} {dd uu : Nat}
    {one dx a C n : Nat} {es : List DictEntry} {b : Array UInt8}
    (hC : C = 375 ∨ C = 453) (B : Below A₀ base outer h₀) (F : Fr h₀ L s.heap m) (X : (MineH.hd.heap_39 w.params).In h₀) (T : Top p loose mean mg mb h₀)
    (N : News h₀ L s.heap all) (h1 : (one, instObj C dx) ∈ all) (h2 : (dx, dictOf es n) ∈ all) (U : UpdF a (baObj b) all g) (hf : env.frame = some L) (hke : env.scope.kind = .function) (hdd : dd + 40 < recursionLimit) (huu : uu + 200 < cLine)
    (hes : es.length ≤ 1000) (e1 : getL (Str.ofString "pduData") es = some (some (.ref a))) (e2 : getL (Str.ofString "get_data") es = some none) (hz : b.size ≤ sizeLine) (hk : 4 ≤ b.size)
    (h : ∀ h' v t tk, v = Builtin.Struct.natOf true (b.toList.take 4).toArray → Fr h₀ L h' m → News h₀ L h' (g (baObj (b.toList.drop 4).toArray)) → R (.ok (.ret (.int (v : Nat) t))) { s with heap := h', toks := tk }) :
    codeG (model PySem.Challenge.rw_bd5008_01.row.toRowW.prog w) (arnd dd uu (env :: outer)) (.call (.ref 174) ⟨[.ref one], []⟩) R s := by
  have h3 : (a, baObj b) ∈ all := by obtain ⟨pre, post, e, _⟩ := U.split; rw [e]; simp
  obtain ⟨n1, n2, n3, n4⟩ := apart N h1 h2 h3
  exact get_long_ok hC B F X T hf hke hdd huu (led_in N h1 h2 U) n1 n2 n3 (fun q hq => (restOf_mem.mp hq).2.1) (fun q hq => (restOf_mem.mp hq).2.2) n4 hes e1 e2 hz hk fun h' v t tk hv F' N' => h h' v t tk hv F' (led_out (more := []) N h2 U N')

theorem get_long_bad_U {w : World} {A₀ : Around} {base h₀ : Heap} {outer : List Env} {env : Env} {L : Addr} {m mg mb : Str → Option Value} {s : Shared} {all : List (Addr × Obj)} {g : Obj → List (Addr × Obj)} {p : Program} {loose : List Str} {mean : ExcName → Option Value} {R : Result → Shared → Prop} {dd uu : Nat}
    {one dx a C n : Nat} {es : List DictEntry} {b : Array UInt8}
    (hC : C = 375 ∨ C = 453) (B : Below A₀ base outer h₀) (F : Fr h₀ L s.heap m) (X : (MineH.hd.heap_39 w.params).In h₀) (T : Top p loose mean mg mb h₀)
    (N : News h₀ L s.heap all) (h1 : (one, instObj C dx) ∈ all) (h2 : (dx, dictOf es n) ∈ all) (U : UpdF a (baObj b) all g) (hf : env.frame = some L) (hke : env.scope.kind = .function) (hdd : dd + 40 < recursionLimit) (huu : uu + 200 < cLine)
    (hes : es.length ≤ 1000) (e1 : getL (Str.ofString "pduData") es = some (some (.ref a))) (e2 : getL (Str.ofString "get_data") es = some none) (hz : b.size ≤ sizeLine) (hk : b.size < 4)
    (h : ∀ g' h' e t vs tk, Fr h₀ L g' m → g'.UpToSlots h' → RaisedK base (env :: outer) e (.ref 69) t vs all h' → R (.error (.ref e)) { s with heap := h', toks := tk }) :
    codeG (model PySem.Challenge.rw_bd5008_01.row.toRowW.prog w) (arnd dd uu (env :: outer)) (.call (.ref 174) ⟨[.ref one], []⟩) R s := by
  have h3 : (a, baObj b) ∈ all := by obtain ⟨pre, post, e, _⟩ := U.split; rw [e]; simp
  obtain ⟨n1, n2, n3, n4⟩ := apart N h1 h2 h3
  exact get_long_bad hC B F X T hf hke hdd huu (led_in N h1 h2 U) n1 n2 n3 (fun q hq => (restOf_mem.mp hq).2.1) (fun q hq => (restOf_mem.mp hq).2.2) n4 hes e1 e2 hz hk fun g' h' e t vs tk FG U' R' => h g' h' e t vs tk FG U' (RaisedK.sub R' (led_same N h2 h3))

theorem put_short_U {w : World} {A₀ : Around} {base h₀ : Heap} {outer : List Env} {env : Env} {L : Addr} {m mg mb : Str → Option Value} {s : Shared} {all : List (Addr × Obj)} {g : Obj → List (Addr × Obj)} {p : Program} {loose : List Str} {mean : ExcName → Option Value} {R : Result → Shared → Prop} {dd uu : Nat}
    {one dx a C n : Nat} {es : List DictEntry} {b : Array UInt8} {y : Int} {t : Tok}
    (hC : C = 375 ∨ C = 453) (B : Below A₀ base outer h₀) (F : Fr h₀ L s.heap m) (X : (MineH.hd.heap_39 w.params).In h₀) (T : Top p loose mean mg mb h₀)
    (N : News h₀ L s.heap all) (h1 : (one, instObj C dx) ∈ all) (h2 : (dx, dictOf es n) ∈ all) (U : UpdF a (baObj b) all g) (hf : env.frame = some L) (hke : env.scope.kind = .function) (hdd : dd + 20 < recursionLimit) (huu : uu + 100 < cLine)
    (hes : es.length ≤ 1000) (e1 : getL (Str.ofString "pduData") es = some (some (.ref a))) (hz : b.size + 4 ≤ sizeLine)
    (h : ∀ h' tk, Fr h₀ L h' m → News h₀ L h' (g (baObj (b ++ #[(y / 256 % 256).toNat.toUInt8, (y % 256).toNat.toUInt8]))) → R (.ok (.ret .none)) { s with heap := h', toks := tk }) :
    codeG (model PySem.Challenge.rw_bd5008_01.row.toRowW.prog w) (arnd dd uu (env :: outer)) (.call (.ref 195) ⟨[.ref one, .int y t], []⟩) R s := by
  have h3 : (a, baObj b) ∈ all := by obtain ⟨pre, post, e, _⟩ := U.split; rw [e]; simp
  obtain ⟨n1, n2, n3, n4⟩ := apart N h1 h2 h3
  exact put_short_c hC B F X T hf hke hdd huu (led_in N h1 h2 U) n1 n2 n3 (fun q hq => (restOf_mem.mp hq).2.1) (fun q hq => (restOf_mem.mp hq).2.2) n4 hes e1 hz fun h' tk F' N' => h h' tk F' (led_out (more := []) N h2 U N')

theorem put_long_U {w : World} {A₀ : Around} {base h₀ : Heap} {outer : List Env} {env : Env} {L : Addr} {m mg mb : Str → Option Value} {s : Shared} {all : List (Addr × Obj)} {g : Obj → List (Addr × Obj)} {p : Program} {loose : List Str} {mean : ExcName → Option Value} {R : Result → Shared → Prop} {dd uu : Nat}
    {one dx a C n : Nat} {es : List DictEntry} {b : Array UInt8} {y : Int} {t : Tok}
    (hC : C = 375 ∨ C = 453) (B : Below A₀ base outer h₀) (F : Fr h₀ L s.heap m) (X : (MineH.hd.heap_39 w.params).In h₀) (T : Top p loose mean mg mb h₀)
    (N : News h₀ L s.heap all) (h1 : (one, instObj C dx) ∈ all) (h2 : (dx, dictOf es n) ∈ all) (U : UpdF a (baObj b) all g) (hf : env.frame = some L) (hke : env.scope.kind = .function) (hdd : dd + 20 < recursionLimit) (huu : uu + 100 < cLine)
    (hes : es.length ≤ 1000) (e1 : getL (Str.ofString "pduData") es = some (some (.ref a))) (hz : b.size + 4 ≤ sizeLine)
    (h : ∀ h' tk, Fr h₀ L h' m → News h₀ L h' (g (baObj (b ++ #[(y / 16777216 % 256).toNat.toUInt8, (y / 65536 % 256).toNat.toUInt8, (y / 256 % 256).toNat.toUInt8, (y % 256).toNat.toUInt8]))) → R (.ok (.ret .none)) { s with heap := h', toks := tk }) :
    codeG (model PySem.Challenge.rw_bd5008_01.row.toRowW.prog w) (arnd dd uu (env :: outer)) (.call (.ref 202) ⟨[.ref one, .int y t], []⟩) R s := by
  have h3 : (a, baObj b) ∈ all := by obtain ⟨pre, post, e, _⟩ := U.split; rw [e]; simp
  obtain ⟨n1, n2, n3, n4⟩ := apart N h1 h2 h3
  exact put_long_c hC B F X T hf hke hdd huu (led_in N h1 h2 U) n1 n2 n3 (fun q hq => (restOf_mem.mp hq).2.1) (fun q hq => (restOf_mem.mp hq).2.2) n4 hes e1 hz fun h' tk F' N' => h h' tk F' (led_out (more := []) N h2 U N')
end Mine

-- D3
namespace Mine
open PySem PySem.W PySem.Calls PyProof.Rows
theorem led_ins4 {p1 p2 p3 p4 : Addr × Obj} {r : List (Addr × Obj)} {q : Addr × Obj} (h : q ∈ p1 :: p2 :: p3 :: r) : q ∈ p1 :: p2 :: p3 :: p4 :: r := by
  rcases List.mem_cons.mp h with rfl | h
  · exact .head _
  rcases List.mem_cons.mp h with rfl | h
  · exact .tail _ (.head _)
  rcases List.mem_cons.mp h with rfl | h
  · exact .tail _ (.tail _ (.head _))
  · exact .tail _ (.tail _ (.tail _ (.tail _ h)))
theorem ne_of_ne {h₀ h : Heap} {L x y : Addr} {o1 o2 : Obj} {all : List (Addr × Obj)} (N : News h₀ L h all) (h1 : (x, o1) ∈ all) (h2 : (y, o2) ∈ all) (ho : o1.cls ≠ o2.cls) : x ≠ y := fun e => by
  have x1 := (N _ h1).1
  have x2 := (N _ h2).1
  dsimp only at x1 x2
  subst e
  rw [x1] at x2
  exact ho (congrArg Obj.cls (Option.some.inj x2))

theorem put_data_by_U {w : World} {A₀ : Around} {base h₀ : Heap} {outer : List Env} {env : Env} {L : Addr} {m mg mb : Str → Option Value} {s : Shared} {all : List (Addr × Obj)} {g : Obj → List (Addr × Obj)} {p : Program} {loose : List Str} {mean : ExcName → Option Value} {R : Result → Shared → Prop} {dd uu : Nat}
    {one dx a C n : Nat} {es : List DictEntry} {b x : Array UInt8} {t : Tok}
    (hC : C = 375 ∨ C = 453) (B : Below A₀ base outer h₀) (F : Fr h₀ L s.heap m) (X : (MineH.hd.heap_39 w.params).In h₀) (T : Top p loose mean mg mb h₀)
    (N : News h₀ L s.heap all) (h1 : (one, instObj C dx) ∈ all) (h2 : (dx, dictOf es n) ∈ all) (U : UpdF a (baObj b) all g) (hf : env.frame = some L) (hke : env.scope.kind = .function) (hdd : dd + 20 < recursionLimit) (huu : uu + 100 < cLine)
    (hes : es.length ≤ 1000) (e1 : getL (Str.ofString "pduData") es = some (some (.ref a))) (hz : b.size + x.size ≤ sizeLine)
    (h : ∀ h' tk, Fr h₀ L h' m → News h₀ L h' (g (baObj (b ++ x))) → R (.ok (.ret .none)) { s with heap := h', toks := tk }) :
    codeG (model PySem.Challenge.rw_bd5008_01.row.toRowW.prog w) (arnd dd uu (env :: outer)) (.call (.ref 188) ⟨[.ref one, .bytes x t], []⟩) R s := by
  have h3 : (a, baObj b) ∈ all := by obtain ⟨pre, post, e, _⟩ := U.split; rw [e]; simp
  obtain ⟨n1, n2, n3, n4⟩ := apart N h1 h2 h3
  exact put_data_by hC B F X T hf hke hdd huu (led_in N h1 h2 U) n1 n2 n3 (fun q hq => (restOf_mem.mp hq).2.1) (fun q hq => (restOf_mem.mp hq).2.2) n4 hes e1 hz fun h' tk F' N' => h h' tk F' (led_out (more := []) N h2 U N')

theorem put_bad_U {w : World} {A₀ : Around} {base h₀ : Heap} {outer : List Env} {env : Env} {L : Addr} {m mg mb : Str → Option Value} {s : Shared} {all : List (Addr × Obj)} {g : Obj → List (Addr × Obj)} {p : Program} {loose : List Str} {mean : ExcName → Option Value} {R : Result → Shared → Prop} {dd uu : Nat}
    {one dx a C n : Nat} {es : List DictEntry} {b : Array UInt8} {y : Int} {t : Tok}
    (hC : C = 375 ∨ C = 453) (B : Below A₀ base outer h₀) (F : Fr h₀ L s.heap m) (X : (MineH.hd.heap_39 w.params).In h₀) (T : Top p loose mean mg mb h₀)
    (N : News h₀ L s.heap all) (h1 : (one, instObj C dx) ∈ all) (h2 : (dx, dictOf es n) ∈ all) (U : UpdF a (baObj b) all g) (hf : env.frame = some L) (hke : env.scope.kind = .function) (hdd : dd + 20 < recursionLimit) (huu : uu + 100 < cLine)
    (hes : es.length ≤ 1000) (e1 : getL (Str.ofString "pduData") es = some (some (.ref a))) (hy : y < 0 ∨ 256 ≤ y)
    (h : ∀ g' h' e tk, Fr h₀ L g' m → g'.UpToSlots h' → RaisedN base (env :: outer) e (.type "ValueError") all h' → R (.error (.ref e)) { s with heap := h', toks := tk }) :
    codeG (model PySem.Challenge.rw_bd5008_01.row.toRowW.prog w) (arnd dd uu (env :: outer)) (.call (.ref 181) ⟨[.ref one, .int y t], []⟩) R s := by
  have h3 : (a, baObj b) ∈ all := by obtain ⟨pre, post, e, _⟩ := U.split; rw [e]; simp
  obtain ⟨n1, n2, n3, n4⟩ := apart N h1 h2 h3
  exact put_bad hC B F X T hf hke hdd huu (led_in N h1 h2 U) n1 n2 n3 (fun q hq => (restOf_mem.mp hq).2.1) (fun q hq => (restOf_mem.mp hq).2.2) n4 hes e1 hy fun g' h' e tk FG U' R' => h g' h' e tk FG U' (RaisedN.sub R' (led_same N h2 h3))

theorem put_data_ws_U {w : World} {A₀ : Around} {base h₀ : Heap} {outer : List Env} {env : Env} {L : Addr} {m mg mb : Str → Option Value} {s : Shared} {all : List (Addr × Obj)} {g : Obj → List (Addr × Obj)} {p : Program} {loose : List Str} {mean : ExcName → Option Value} {R : Result → Shared → Prop} {dd uu : Nat}
    {one dx a C n : Nat} {es : List DictEntry} {b : Array UInt8} {x : Str} {t : Tok}
    (hC : C = 375 ∨ C = 453) (B : Below A₀ base outer h₀) (F : Fr h₀ L s.heap m) (X : (MineH.hd.heap_39 w.params).In h₀) (T : Top p loose mean mg mb h₀)
    (N : News h₀ L s.heap all) (h1 : (one, instObj C dx) ∈ all) (h2 : (dx, dictOf es n) ∈ all) (U : UpdF a (baObj b) all g) (hf : env.frame = some L) (hke : env.scope.kind = .function) (hdd : dd + 20 < recursionLimit) (huu : uu + 100 < cLine)
    (hes : es.length ≤ 1000) (e1 : getL (Str.ofString "pduData") es = some (some (.ref a))) 
    (h : ∀ g' h' e tk, Fr h₀ L g' m → g'.UpToSlots h' → RaisedN base (env :: outer) e (.type "TypeError") all h' → R (.error (.ref e)) { s with heap := h', toks := tk }) :
    codeG (model PySem.Challenge.rw_bd5008_01.row.toRowW.prog w) (arnd dd uu (env :: outer)) (.call (.ref 188) ⟨[.ref one, .str x t], []⟩) R s := by
  have h3 : (a, baObj b) ∈ all := by obtain ⟨pre, post, e, _⟩ := U.split; rw [e]; simp
  obtain ⟨n1, n2, n3, n4⟩ := apart N h1 h2 h3
  exact put_data_ws hC B F X T hf hke hdd huu (led_in N h1 h2 U) n1 n2 n3 (fun q hq => (restOf_mem.mp hq).2.1) (fun q hq => (restOf_mem.mp hq).2.2) n4 hes e1  fun g' h' e tk FG U' R' => h g' h' e tk FG U' (RaisedN.sub R' (led_same N h2 h3))

theorem put_data_wi_U {w : World} {A₀ : Around} {base h₀ : Heap} {outer : List Env} {env : Env} {L : Addr} {m mg mb : Str → Option Value} {s : Shared} {all : List (Addr × Obj)} {g : Obj → List (Addr × Obj)} {p : Program} {loose : List Str} {mean : ExcName → Option Value} {R : Result → Shared → Prop} {dd uu : Nat}
    {one dx a C n : Nat} {es : List DictEntry} {b : Array UInt8} {x : Int} {t : Tok}
    (hC : C = 375 ∨ C = 453) (B : Below A₀ base outer h₀) (F : Fr h₀ L s.heap m) (X : (MineH.hd.heap_39 w.params).In h₀) (T : Top p loose mean mg mb h₀)
    (N : News h₀ L s.heap all) (h1 : (one, instObj C dx) ∈ all) (h2 : (dx, dictOf es n) ∈ all) (U : UpdF a (baObj b) all g) (hf : env.frame = some L) (hke : env.scope.kind = .function) (hdd : dd + 20 < recursionLimit) (huu : uu + 100 < cLine)
    (hes : es.length ≤ 1000) (e1 : getL (Str.ofString "pduData") es = some (some (.ref a))) 
    (h : ∀ g' h' e tk, Fr h₀ L g' m → g'.UpToSlots h' → RaisedN base (env :: outer) e (.type "TypeError") all h' → R (.error (.ref e)) { s with heap := h', toks := tk }) :
    codeG (model PySem.Challenge.rw_bd5008_01.row.toRowW.prog w) (arnd dd uu (env :: outer)) (.call (.ref 188) ⟨[.ref one, .int x t], []⟩) R s := by
  have h3 : (a, baObj b) ∈ all := by obtain ⟨pre, post, e, _⟩ := U.split; rw [e]; simp
  obtain ⟨n1, n2, n3, n4⟩ := apart N h1 h2 h3
  exact put_data_wi hC B F X T hf hke hdd huu (led_in N h1 h2 U) n1 n2 n3 (fun q hq => (restOf_mem.mp hq).2.1) (fun q hq => (restOf_mem.mp hq).2.2) n4 hes e1  fun g' h' e tk FG U' R' => h g' h' e tk FG U' (RaisedN.sub R' (led_same N h2 h3))

theorem put_data_wn_U {w : World} {A₀ : Around} {base h₀ : Heap} {outer : List Env} {env : Env} {L : Addr} {m mg mb : Str → Option Value} {s : Shared} {all : List (Addr × Obj)} {g : Obj → List (Addr × Obj)} {p : Program} {loose : List Str} {mean : ExcName → Option Value} {R : Result → Shared → Prop} {dd uu : Nat}
    {one dx a C n : Nat} {es : List DictEntry} {b : Array UInt8} 
    (hC : C = 375 ∨ C = 453) (B : Below A₀ base outer h₀) (F : Fr h₀ L s.heap m) (X : (MineH.hd.heap_39 w.params).In h₀) (T : Top p loose mean mg mb h₀)
    (N : News h₀ L s.heap all) (h1 : (one, instObj C dx) ∈ all) (h2 : (dx, dictOf es n) ∈ all) (U : UpdF a (baObj b) all g) (hf : env.frame = some L) (hke : env.scope.kind = .function) (hdd : dd + 20 < recursionLimit) (huu : uu + 100 < cLine)
    (hes : es.length ≤ 1000) (e1 : getL (Str.ofString "pduData") es = some (some (.ref a))) 
    (h : ∀ g' h' e tk, Fr h₀ L g' m → g'.UpToSlots h' → RaisedN base (env :: outer) e (.type "TypeError") all h' → R (.error (.ref e)) { s with heap := h', toks := tk }) :
    codeG (model PySem.Challenge.rw_bd5008_01.row.toRowW.prog w) (arnd dd uu (env :: outer)) (.call (.ref 188) ⟨[.ref one, .none], []⟩) R s := by
  have h3 : (a, baObj b) ∈ all := by obtain ⟨pre, post, e, _⟩ := U.split; rw [e]; simp
  obtain ⟨n1, n2, n3, n4⟩ := apart N h1 h2 h3
  exact put_data_wn hC B F X T hf hke hdd huu (led_in N h1 h2 U) n1 n2 n3 (fun q hq => (restOf_mem.mp hq).2.1) (fun q hq => (restOf_mem.mp hq).2.2) n4 hes e1  fun g' h' e tk FG U' R' => h g' h' e tk FG U' (RaisedN.sub R' (led_same N h2 h3))

theorem put_data_ba_U {w : World} {A₀ : Around} {base h₀ : Heap} {outer : List Env} {env : Env} {L : Addr} {m mg mb : Str → Option Value} {s : Shared} {all : List (Addr × Obj)} {g : Obj → List (Addr × Obj)} {p : Program} {loose : List Str} {mean : ExcName → Option Value} {R : Result → Shared → Prop} {dd uu : Nat}
    {one dx a C n : Nat} {es : List DictEntry} {b x : Array UInt8} {c : Nat}
    (hC : C = 375 ∨ C = 453) (B : Below A₀ base outer h₀) (F : Fr h₀ L s.heap m) (X : (MineH.hd.heap_39 w.params).In h₀) (T : Top p loose mean mg mb h₀)
    (N : News h₀ L s.heap all) (h1 : (one, instObj C dx) ∈ all) (h2 : (dx, dictOf es n) ∈ all) (U : UpdF a (baObj b) all g) (hf : env.frame = some L) (hke : env.scope.kind = .function) (hdd : dd + 20 < recursionLimit) (huu : uu + 100 < cLine)
    (hes : es.length ≤ 1000) (e1 : getL (Str.ofString "pduData") es = some (some (.ref a))) (h4 : (c, baObj x) ∈ all) (hz : b.size + x.size ≤ sizeLine) (g7 : c ≠ a)
    (h : ∀ h' tk, Fr h₀ L h' m → News h₀ L h' (g (baObj (b ++ x))) → R (.ok (.ret .none)) { s with heap := h', toks := tk }) :
    codeG (model PySem.Challenge.rw_bd5008_01.row.toRowW.prog w) (arnd dd uu (env :: outer)) (.call (.ref 188) ⟨[.ref one, .ref c], []⟩) R s := by
  have h3 : (a, baObj b) ∈ all := by obtain ⟨pre, post, e, _⟩ := U.split; rw [e]; simp
  obtain ⟨n1, n2, n3, n4⟩ := apart N h1 h2 h3
  exact put_data_ba hC B F X T hf hke hdd huu (led_in4 N h1 h2 h4 U) n1 n2 n3 (fun q hq => (restOf_mem.mp hq).2.1) (fun q hq => (restOf_mem.mp hq).2.2) n4 hes e1 hz g7 (ne_of_ne N h1 h4 (by simp)) (ne_of_ne N h2 h4 (by simp)) (ne_of_ne N h4 h2 (by simp)) fun h' tk F' N' => h h' tk F' (led_out (more := []) N h2 U (led_drop4 N'))

theorem put_data_li_U {w : World} {A₀ : Around} {base h₀ : Heap} {outer : List Env} {env : Env} {L : Addr} {m mg mb : Str → Option Value} {s : Shared} {all : List (Addr × Obj)} {g : Obj → List (Addr × Obj)} {p : Program} {loose : List Str} {mean : ExcName → Option Value} {R : Result → Shared → Prop} {dd uu : Nat}
    {one dx a C n : Nat} {es : List DictEntry} {b x : Array UInt8} {cn : Nat} {vs : List Value} {ns : List Int} {c : Nat}
    (hC : C = 375 ∨ C = 453) (B : Below A₀ base outer h₀) (F : Fr h₀ L s.heap m) (X : (MineH.hd.heap_39 w.params).In h₀) (T : Top p loose mean mg mb h₀)
    (N : News h₀ L s.heap all) (h1 : (one, instObj C dx) ∈ all) (h2 : (dx, dictOf es n) ∈ all) (U : UpdF a (baObj b) all g) (hf : env.frame = some L) (hke : env.scope.kind = .function) (hdd : dd + 20 < recursionLimit) (huu : uu + 100 < cLine)
    (hes : es.length ≤ 1000) (e1 : getL (Str.ofString "pduData") es = some (some (.ref a))) (h4 : (c, sqObj "list" vs cn) ∈ all) (hz : b.size + x.size ≤ sizeLine) (hi : IntsAre vs ns) (hr : ∀ n ∈ ns, 0 ≤ n ∧ n < 256) (hx : x = byteArr ns)
    (h : ∀ h' tk, Fr h₀ L h' m → News h₀ L h' (g (baObj (b ++ x))) → R (.ok (.ret .none)) { s with heap := h', toks := tk }) :
    codeG (model PySem.Challenge.rw_bd5008_01.row.toRowW.prog w) (arnd dd uu (env :: outer)) (.call (.ref 188) ⟨[.ref one, .ref c], []⟩) R s := by
  have h3 : (a, baObj b) ∈ all := by obtain ⟨pre, post, e, _⟩ := U.split; rw [e]; simp
  obtain ⟨n1, n2, n3, n4⟩ := apart N h1 h2 h3
  exact put_data_li hC B F X T hf hke hdd huu (led_in4 N h1 h2 h4 U) n1 n2 n3 (fun q hq => (restOf_mem.mp hq).2.1) (fun q hq => (restOf_mem.mp hq).2.2) n4 hes e1 hz (ne_of_ne N h4 h3 (by simp)) (ne_of_ne N h1 h4 (by simp)) (ne_of_ne N h2 h4 (by simp)) (ne_of_ne N h4 h2 (by simp)) hi hr hx fun h' tk F' N' => h h' tk F' (led_out (more := []) N h2 U (led_drop4 N'))

theorem put_data_bad_U {w : World} {A₀ : Around} {base h₀ : Heap} {outer : List Env} {env : Env} {L : Addr} {m mg mb : Str → Option Value} {s : Shared} {all : List (Addr × Obj)} {g : Obj → List (Addr × Obj)} {p : Program} {loose : List Str} {mean : ExcName → Option Value} {R : Result → Shared → Prop} {dd uu : Nat}
    {one dx a C n : Nat} {es : List DictEntry} {b : Array UInt8} {cn : Nat} {vs : List Value} {ns : List Int} {bp : Nat} {bad : Int} {c : Nat}
    (hC : C = 375 ∨ C = 453) (B : Below A₀ base outer h₀) (F : Fr h₀ L s.heap m) (X : (MineH.hd.heap_39 w.params).In h₀) (T : Top p loose mean mg mb h₀)
    (N : News h₀ L s.heap all) (h1 : (one, instObj C dx) ∈ all) (h2 : (dx, dictOf es n) ∈ all) (U : UpdF a (baObj b) all g) (hf : env.frame = some L) (hke : env.scope.kind = .function) (hdd : dd + 20 < recursionLimit) (huu : uu + 100 < cLine)
    (hes : es.length ≤ 1000) (e1 : getL (Str.ofString "pduData") es = some (some (.ref a))) (h4 : (c, sqObj "list" vs cn) ∈ all) (hi : IntsAre vs ns) (hr : ∀ j n, j < bp → ns[j]? = some n → 0 ≤ n ∧ n < 256) (hb : ns[bp]? = some bad) (hbad : bad < 0 ∨ 256 ≤ bad) (hz : ns.length ≤ sizeLine)
    (h : ∀ g' h' e tk, Fr h₀ L g' m → g'.UpToSlots h' → RaisedN base (env :: outer) e (.type "ValueError") all h' → R (.error (.ref e)) { s with heap := h', toks := tk }) :
    codeG (model PySem.Challenge.rw_bd5008_01.row.toRowW.prog w) (arnd dd uu (env :: outer)) (.call (.ref 188) ⟨[.ref one, .ref c], []⟩) R s := by
  have h3 : (a, baObj b) ∈ all := by obtain ⟨pre, post, e, _⟩ := U.split; rw [e]; simp
  obtain ⟨n1, n2, n3, n4⟩ := apart N h1 h2 h3
  exact put_data_bad hC B F X T hf hke hdd huu (led_in4 N h1 h2 h4 U) n1 n2 n3 (fun q hq => (restOf_mem.mp hq).2.1) (fun q hq => (restOf_mem.mp hq).2.2) n4 hes e1 (ne_of_ne N h4 h3 (by simp)) (ne_of_ne N h1 h4 (by simp)) (ne_of_ne N h2 h4 (by simp)) (ne_of_ne N h4 h2 (by simp)) hi hr hb hbad hz fun g' h' e tk FG U' R' => h g' h' e tk FG U' (RaisedN.sub R' fun q hq => led_ins4 (led_same N h2 h3 q hq))

theorem put_data_wt_U {w : World} {A₀ : Around} {base h₀ : Heap} {outer : List Env} {env : Env} {L : Addr} {m mg mb : Str → Option Value} {s : Shared} {all : List (Addr × Obj)} {g : Obj → List (Addr × Obj)} {p : Program} {loose : List Str} {mean : ExcName → Option Value} {R : Result → Shared → Prop} {dd uu : Nat}
    {one dx a C n : Nat} {es : List DictEntry} {b : Array UInt8} {cn : Nat} {vs : List Value} {c : Nat}
    (hC : C = 375 ∨ C = 453) (B : Below A₀ base outer h₀) (F : Fr h₀ L s.heap m) (X : (MineH.hd.heap_39 w.params).In h₀) (T : Top p loose mean mg mb h₀)
    (N : News h₀ L s.heap all) (h1 : (one, instObj C dx) ∈ all) (h2 : (dx, dictOf es n) ∈ all) (U : UpdF a (baObj b) all g) (hf : env.frame = some L) (hke : env.scope.kind = .function) (hdd : dd + 20 < recursionLimit) (huu : uu + 100 < cLine)
    (hes : es.length ≤ 1000) (e1 : getL (Str.ofString "pduData") es = some (some (.ref a))) (h4 : (c, sqObj "tuple" vs cn) ∈ all) 
    (h : ∀ g' h' e tk, Fr h₀ L g' m → g'.UpToSlots h' → RaisedN base (env :: outer) e (.type "TypeError") all h' → R (.error (.ref e)) { s with heap := h', toks := tk }) :
    codeG (model PySem.Challenge.rw_bd5008_01.row.toRowW.prog w) (arnd dd uu (env :: outer)) (.call (.ref 188) ⟨[.ref one, .ref c], []⟩) R s := by
  have h3 : (a, baObj b) ∈ all := by obtain ⟨pre, post, e, _⟩ := U.split; rw [e]; simp
  obtain ⟨n1, n2, n3, n4⟩ := apart N h1 h2 h3
  exact put_data_wt hC B F X T hf hke hdd huu (led_in4 N h1 h2 h4 U) n1 n2 n3 (fun q hq => (restOf_mem.mp hq).2.1) (fun q hq => (restOf_mem.mp hq).2.2) n4 hes e1 (ne_of_ne N h4 h3 (by simp)) (ne_of_ne N h1 h4 (by simp)) (ne_of_ne N h2 h4 (by simp)) (ne_of_ne N h4 h2 (by simp)) fun g' h' e tk FG U' R' => h g' h' e tk FG U' (RaisedN.sub R' fun q hq => led_ins4 (led_same N h2 h3 q hq))
end Mine

-- D4
namespace Mine
open PySem PySem.W PySem.Calls PyProof.Rows
def restD (dx : Addr) (all : List (Addr × Obj)) : List (Addr × Obj) := all.filter fun q => q.1 != dx
theorem restD_mem {dx : Addr} {all : List (Addr × Obj)} {q : Addr × Obj} : q ∈ restD dx all ↔ q ∈ all ∧ q.1 ≠ dx := by
  unfold restD
  rw [List.mem_filter]
  simp
theorem news_app {h₀ h : Heap} {L : Addr} {l1 l2 : List (Addr × Obj)} (N1 : News h₀ L h l1) (N2 : News h₀ L h l2) : News h₀ L h (l1 ++ l2) := fun q hq => (List.mem_append.mp hq).elim (N1 q) (N2 q)
theorem upd_mem {a : Addr} {b : Obj} {all : List (Addr × Obj)} {g : Obj → List (Addr × Obj)} (U : UpdF a b all g) : (a, b) ∈ all := by obtain ⟨pre, post, e, _⟩ := U.split; rw [e]; simp
theorem ledI_in {h₀ h : Heap} {L one dx : Addr} {o1 b : Obj} {all ex : List (Addr × Obj)} {g : Obj → List (Addr × Obj)} (N : News h₀ L h all) (h1 : (one, o1) ∈ all) (U : UpdF dx b all g) (hx : ∀ q ∈ ex, q ∈ all) :
    News h₀ L h ((one, o1) :: (dx, b) :: (ex ++ restD dx all)) := by
  intro q hq
  rcases List.mem_cons.mp hq with rfl | hq
  · exact N _ h1
  rcases List.mem_cons.mp hq with rfl | hq
  · exact N _ (upd_mem U)
  rcases List.mem_append.mp hq with hq | hq
  · exact N _ (hx _ hq)
  · exact N _ (restD_mem.mp hq).1
theorem ledI_out {h₀ h' : Heap} {L dx : Addr} {p1 q1 : Addr × Obj} {b b' : Obj} {all ex : List (Addr × Obj)} {g : Obj → List (Addr × Obj)} (U : UpdF dx b all g)
    (N' : News h₀ L h' (p1 :: (dx, b') :: q1 :: (ex ++ restD dx all))) : News h₀ L h' (q1 :: g b') := by
  obtain ⟨pre, post, e, hg, n1, n2⟩ := U.split
  intro q hq
  rcases List.mem_cons.mp hq with rfl | hq
  · exact N' _ (.tail _ (.tail _ (.head _)))
  rw [hg] at hq
  rcases List.mem_append.mp hq with hq | hq
  · exact N' q (.tail _ (.tail _ (.tail _ (List.mem_append_right _ (restD_mem.mpr ⟨by rw [e]; exact List.mem_append_left _ hq, n1 q hq⟩)))))
  rcases List.mem_cons.mp hq with rfl | hq
  · exact N' _ (.tail _ (.head _))
  · exact N' q (.tail _ (.tail _ (.tail _ (List.mem_append_right _ (restD_mem.mpr ⟨by rw [e]; exact List.mem_append_right _ (.tail _ hq), n2 q hq⟩)))))
theorem lt_all {dx a : Addr} {all : List (Addr × Obj)} (h : ∀ q ∈ restD dx all, q.1 < a) (h2 : dx < a) : ∀ q ∈ all, q.1 < a := fun q hq => by
  by_cases e : q.1 = dx
  · rw [e]; exact h2
  · exact h q (restD_mem.mpr ⟨hq, e⟩)

theorem init_none_U {w : World} {A₀ : Around} {base h₀ : Heap} {outer : List Env} {env : Env} {L : Addr} {m mg mb : Str → Option Value} {s : Shared} {all : List (Addr × Obj)} {g : Obj → List (Addr × Obj)} {p : Program} {loose : List Str} {mean : ExcName → Option Value} {R : Result → Shared → Prop} {dd uu : Nat}
    {one dx C : Nat} 
    (hC : C = 375 ∨ C = 453 ∨ C = 205) (B : Below A₀ base outer h₀) (F : Fr h₀ L s.heap m) (X : (MineH.hd.heap_39 w.params).In h₀) (T : Top p loose mean mg mb h₀)
    (N : News h₀ L s.heap all) (h1 : (one, instObj C dx) ∈ all) (U : UpdF dx (dictOf [] 0) all g) (hf : env.frame = some L) (hke : env.scope.kind = .function) (hdd : dd + 20 < recursionLimit) (huu : uu + 100 < cLine) (g1 : dx < one) 
    (h : ∀ a h' es' n' tk, (∀ q ∈ all, q.1 < a) → Fr h₀ L h' m → News h₀ L h' ((a, baObj #[]) :: g (dictOf es' n')) → Flds es' 1 (fun y => if y = Str.ofString "pduData" then some (.ref a) else none) → R (.ok (.ret .none)) { s with heap := h', toks := tk }) :
    codeG (model PySem.Challenge.rw_bd5008_01.row.toRowW.prog w) (arnd dd uu (env :: outer)) (.call (.ref 146) ⟨[.ref one], []⟩) R s := by
  have NN := ledI_in (ex := []) N h1 U (by simp_all)
  exact init_none hC B F X T hf hke hdd huu NN g1 (fun q hq => (restD_mem.mp hq).2)  fun a h' t tk m1 m2 F' N' => h a h' _ _ tk (lt_all m1 m2) F' (ledI_out (ex := []) U N') Flds.one

theorem init_N_U {w : World} {A₀ : Around} {base h₀ : Heap} {outer : List Env} {env : Env} {L : Addr} {m mg mb : Str → Option Value} {s : Shared} {all : List (Addr × Obj)} {g : Obj → List (Addr × Obj)} {p : Program} {loose : List Str} {mean : ExcName → Option Value} {R : Result → Shared → Prop} {dd uu : Nat}
    {one dx C : Nat} 
    (hC : C = 205) (B : Below A₀ base outer h₀) (F : Fr h₀ L s.heap m) (X : (MineH.hd.heap_39 w.params).In h₀) (T : Top p loose mean mg mb h₀)
    (N : News h₀ L s.heap all) (h1 : (one, instObj C dx) ∈ all) (U : UpdF dx (dictOf [] 0) all g) (hf : env.frame = some L) (hke : env.scope.kind = .function) (hdd : dd + 20 < recursionLimit) (huu : uu + 100 < cLine) (g1 : dx < one) 
    (h : ∀ a h' es' n' tk, (∀ q ∈ all, q.1 < a) → Fr h₀ L h' m → News h₀ L h' ((a, baObj #[]) :: g (dictOf es' n')) → Flds es' 1 (fun y => if y = Str.ofString "pduData" then some (.ref a) else none) → R (.ok (.ret .none)) { s with heap := h', toks := tk }) :
    codeG (model PySem.Challenge.rw_bd5008_01.row.toRowW.prog w) (arnd dd uu (env :: outer)) (.call (.ref 146) ⟨[.ref one, .none], []⟩) R s := by
  have NN := ledI_in (ex := []) N h1 U (by simp_all)
  exact init_N hC B F X T hf hke hdd huu NN g1 (fun q hq => (restD_mem.mp hq).2)  fun a h' t tk m1 m2 F' N' => h a h' _ _ tk (lt_all m1 m2) F' (ledI_out (ex := []) U N') Flds.one

theorem init_by_U {w : World} {A₀ : Around} {base h₀ : Heap} {outer : List Env} {env : Env} {L : Addr} {m mg mb : Str → Option Value} {s : Shared} {all : List (Addr × Obj)} {g : Obj → List (Addr × Obj)} {p : Program} {loose : List Str} {mean : ExcName → Option Value} {R : Result → Shared → Prop} {dd uu : Nat}
    {one dx C : Nat} {x : Array UInt8} {t0 : Tok}
    (hC : C = 375 ∨ C = 453 ∨ C = 205) (B : Below A₀ base outer h₀) (F : Fr h₀ L s.heap m) (X : (MineH.hd.heap_39 w.params).In h₀) (T : Top p loose mean mg mb h₀)
    (N : News h₀ L s.heap all) (h1 : (one, instObj C dx) ∈ all) (U : UpdF dx (dictOf [] 0) all g) (hf : env.frame = some L) (hke : env.scope.kind = .function) (hdd : dd + 20 < recursionLimit) (huu : uu + 100 < cLine) (g1 : dx < one) (hz : x.size ≤ sizeLine)
    (h : ∀ a h' es' n' tk, (∀ q ∈ all, q.1 < a) → Fr h₀ L h' m → News h₀ L h' ((a, baObj x) :: g (dictOf es' n')) → Flds es' 1 (fun y => if y = Str.ofString "pduData" then some (.ref a) else none) → R (.ok (.ret .none)) { s with heap := h', toks := tk }) :
    codeG (model PySem.Challenge.rw_bd5008_01.row.toRowW.prog w) (arnd dd uu (env :: outer)) (.call (.ref 146) ⟨[.ref one, .bytes x t0], []⟩) R s := by
  have NN := ledI_in (ex := []) N h1 U (by simp_all)
  exact init_by hC B F X T hf hke hdd huu NN g1 (fun q hq => (restD_mem.mp hq).2) hz fun a h' t tk m1 m2 F' N' => h a h' _ _ tk (lt_all m1 m2) F' (ledI_out (ex := []) U N') Flds.one

theorem init_ba_U {w : World} {A₀ : Around} {base h₀ : Heap} {outer : List Env} {env : Env} {L : Addr} {m mg mb : Str → Option Value} {s : Shared} {all : List (Addr × Obj)} {g : Obj → List (Addr × Obj)} {p : Program} {loose : List Str} {mean : ExcName → Option Value} {R : Result → Shared → Prop} {dd uu : Nat}
    {one dx C : Nat} {x : Array UInt8} {c : Nat}
    (hC : C = 205) (B : Below A₀ base outer h₀) (F : Fr h₀ L s.heap m) (X : (MineH.hd.heap_39 w.params).In h₀) (T : Top p loose mean mg mb h₀)
    (N : News h₀ L s.heap all) (h1 : (one, instObj C dx) ∈ all) (U : UpdF dx (dictOf [] 0) all g) (hf : env.frame = some L) (hke : env.scope.kind = .function) (hdd : dd + 20 < recursionLimit) (huu : uu + 100 < cLine) (g1 : dx < one) (h2 : (c, baObj x) ∈ all) (hz : x.size ≤ sizeLine)
    (h : ∀ a h' es' n' tk, (∀ q ∈ all, q.1 < a) → Fr h₀ L h' m → News h₀ L h' ((a, baObj x) :: g (dictOf es' n')) → Flds es' 1 (fun y => if y = Str.ofString "pduData" then some (.ref a) else none) → R (.ok (.ret .none)) { s with heap := h', toks := tk }) :
    codeG (model PySem.Challenge.rw_bd5008_01.row.toRowW.prog w) (arnd dd uu (env :: outer)) (.call (.ref 146) ⟨[.ref one, .ref c], []⟩) R s := by
  have NN := ledI_in (ex := [(c, baObj x)]) N h1 U (by simp_all)
  exact init_ba hC B F X T hf hke hdd huu NN g1 (fun q hq => (restD_mem.mp hq).2) hz (ne_of_ne N h2 (upd_mem U) (by simp)) fun a h' t tk m1 m2 F' N' => h a h' _ _ tk (lt_all m1 m2) F' (ledI_out (ex := [(c, baObj x)]) U N') Flds.one

theorem init_inst_U {w : World} {A₀ : Around} {base h₀ : Heap} {outer : List Env} {env : Env} {L : Addr} {m mg mb : Str → Option Value} {s : Shared} {all : List (Addr × Obj)} {g : Obj → List (Addr × Obj)} {p : Program} {loose : List Str} {mean : ExcName → Option Value} {R : Result → Shared → Prop} {dd uu : Nat}
    {one dx C : Nat} {x : Array UInt8} {o2 d2 a2 C2 n2 : Nat} {es2 : List DictEntry}
    (hC : C = 205) (B : Below A₀ base outer h₀) (F : Fr h₀ L s.heap m) (X : (MineH.hd.heap_39 w.params).In h₀) (T : Top p loose mean mg mb h₀)
    (N : News h₀ L s.heap all) (h1 : (one, instObj C dx) ∈ all) (U : UpdF dx (dictOf [] 0) all g) (hf : env.frame = some L) (hke : env.scope.kind = .function) (hdd : dd + 20 < recursionLimit) (huu : uu + 100 < cLine) (g1 : dx < one) (h2 : (o2, instObj C2 d2) ∈ all) (h3 : (d2, dictOf es2 n2) ∈ all) (h4 : (a2, baObj x) ∈ all) (hC2 : C2 = 375 ∨ C2 = 453) (hz : x.size ≤ sizeLine) (g8 : d2 ≠ dx) (e1 : getL (Str.ofString "pduData") es2 = some (some (.ref a2)))
    (h : ∀ a h' es' n' tk, (∀ q ∈ all, q.1 < a) → Fr h₀ L h' m → News h₀ L h' ((a, baObj x) :: g (dictOf es' n')) → Flds es' 1 (fun y => if y = Str.ofString "pduData" then some (.ref a) else none) → R (.ok (.ret .none)) { s with heap := h', toks := tk }) :
    codeG (model PySem.Challenge.rw_bd5008_01.row.toRowW.prog w) (arnd dd uu (env :: outer)) (.call (.ref 146) ⟨[.ref one, .ref o2], []⟩) R s := by
  have NN := ledI_in (ex := [(o2, instObj C2 d2), (d2, dictOf es2 n2), (a2, baObj x)]) N h1 U (by simp_all)
  exact init_inst hC B F X T hf hke hdd huu NN g1 (fun q hq => (restD_mem.mp hq).2) hC2 hz (ne_of_ne N h2 (upd_mem U) (by simp)) g8 (ne_of_ne N h4 (upd_mem U) (by simp)) e1 fun a h' t tk m1 m2 F' N' => h a h' _ _ tk (lt_all m1 m2) F' (ledI_out (ex := [(o2, instObj C2 d2), (d2, dictOf es2 n2), (a2, baObj x)]) U N') Flds.one

theorem init_wi_U {w : World} {A₀ : Around} {base h₀ : Heap} {outer : List Env} {env : Env} {L : Addr} {m mg mb : Str → Option Value} {s : Shared} {all : List (Addr × Obj)} {g : Obj → List (Addr × Obj)} {p : Program} {loose : List Str} {mean : ExcName → Option Value} {R : Result → Shared → Prop} {dd uu : Nat}
    {one dx C : Nat} {x : Int} {t : Tok}
    (hC : C = 205) (B : Below A₀ base outer h₀) (F : Fr h₀ L s.heap m) (X : (MineH.hd.heap_39 w.params).In h₀) (T : Top p loose mean mg mb h₀)
    (N : News h₀ L s.heap all) (h1 : (one, instObj C dx) ∈ all) (U : UpdF dx (dictOf [] 0) all g) (hf : env.frame = some L) (hke : env.scope.kind = .function) (hdd : dd + 20 < recursionLimit) (huu : uu + 100 < cLine) (g1 : dx < one) 
    (h : ∀ g' h' e tk, Fr h₀ L g' m → g'.UpToSlots h' → RaisedN base (env :: outer) e (.type "TypeError") (restD dx all) h' → R (.error (.ref e)) { s with heap := h', toks := tk }) :
    codeG (model PySem.Challenge.rw_bd5008_01.row.toRowW.prog w) (arnd dd uu (env :: outer)) (.call (.ref 146) ⟨[.ref one, .int x t], []⟩) R s := by
  have NN := ledI_in (ex := []) N h1 U (by simp_all)
  exact init_wi hC B F X T hf hke hdd huu NN g1 (fun q hq => (restD_mem.mp hq).2)  fun g' h' e tk FG U' R' => h g' h' e tk FG U' (RaisedN.sub R' fun q hq => by first | exact hq | exact .tail _ hq)

theorem init_ws_U {w : World} {A₀ : Around} {base h₀ : Heap} {outer : List Env} {env : Env} {L : Addr} {m mg mb : Str → Option Value} {s : Shared} {all : List (Addr × Obj)} {g : Obj → List (Addr × Obj)} {p : Program} {loose : List Str} {mean : ExcName → Option Value} {R : Result → Shared → Prop} {dd uu : Nat}
    {one dx C : Nat} {x : Str} {t : Tok}
    (hC : C = 205) (B : Below A₀ base outer h₀) (F : Fr h₀ L s.heap m) (X : (MineH.hd.heap_39 w.params).In h₀) (T : Top p loose mean mg mb h₀)
    (N : News h₀ L s.heap all) (h1 : (one, instObj C dx) ∈ all) (U : UpdF dx (dictOf [] 0) all g) (hf : env.frame = some L) (hke : env.scope.kind = .function) (hdd : dd + 20 < recursionLimit) (huu : uu + 100 < cLine) (g1 : dx < one) 
    (h : ∀ g' h' e tk, Fr h₀ L g' m → g'.UpToSlots h' → RaisedN base (env :: outer) e (.type "TypeError") (restD dx all) h' → R (.error (.ref e)) { s with heap := h', toks := tk }) :
    codeG (model PySem.Challenge.rw_bd5008_01.row.toRowW.prog w) (arnd dd uu (env :: outer)) (.call (.ref 146) ⟨[.ref one, .str x t], []⟩) R s := by
  have NN := ledI_in (ex := []) N h1 U (by simp_all)
  exact init_ws hC B F X T hf hke hdd huu NN g1 (fun q hq => (restD_mem.mp hq).2)  fun g' h' e tk FG U' R' => h g' h' e tk FG U' (RaisedN.sub R' fun q hq => by first | exact hq | exact .tail _ hq)

theorem init_wl_U {w : World} {A₀ : Around} {base h₀ : Heap} {outer : List Env} {env : Env} {L : Addr} {m mg mb : Str → Option Value} {s : Shared} {all : List (Addr × Obj)} {g : Obj → List (Addr × Obj)} {p : Program} {loose : List Str} {mean : ExcName → Option Value} {R : Result → Shared → Prop} {dd uu : Nat}
    {one dx C : Nat} {c cn : Nat} {vs : List Value}
    (hC : C = 205) (B : Below A₀ base outer h₀) (F : Fr h₀ L s.heap m) (X : (MineH.hd.heap_39 w.params).In h₀) (T : Top p loose mean mg mb h₀)
    (N : News h₀ L s.heap all) (h1 : (one, instObj C dx) ∈ all) (U : UpdF dx (dictOf [] 0) all g) (hf : env.frame = some L) (hke : env.scope.kind = .function) (hdd : dd + 20 < recursionLimit) (huu : uu + 100 < cLine) (g1 : dx < one) (h2 : (c, sqObj "list" vs cn) ∈ all)
    (h : ∀ g' h' e tk, Fr h₀ L g' m → g'.UpToSlots h' → RaisedN base (env :: outer) e (.type "TypeError") (restD dx all) h' → R (.error (.ref e)) { s with heap := h', toks := tk }) :
    codeG (model PySem.Challenge.rw_bd5008_01.row.toRowW.prog w) (arnd dd uu (env :: outer)) (.call (.ref 146) ⟨[.ref one, .ref c], []⟩) R s := by
  have NN := ledI_in (ex := [(c, sqObj "list" vs cn)]) N h1 U (by simp_all)
  exact init_wl hC B F X T hf hke hdd huu NN g1 (fun q hq => (restD_mem.mp hq).2) (ne_of_ne N h2 (upd_mem U) (by simp)) fun g' h' e tk FG U' R' => h g' h' e tk FG U' (RaisedN.sub R' fun q hq => by first | exact hq | exact .tail _ hq)

theorem init_wt_U {w : World} {A₀ : Around} {base h₀ : Heap} {outer : List Env} {env : Env} {L : Addr} {m mg mb : Str → Option Value} {s : Shared} {all : List (Addr × Obj)} {g : Obj → List (Addr × Obj)} {p : Program} {loose : List Str} {mean : ExcName → Option Value} {R : Result → Shared → Prop} {dd uu : Nat}
    {one dx C : Nat} {c cn : Nat} {vs : List Value}
    (hC : C = 205) (B : Below A₀ base outer h₀) (F : Fr h₀ L s.heap m) (X : (MineH.hd.heap_39 w.params).In h₀) (T : Top p loose mean mg mb h₀)
    (N : News h₀ L s.heap all) (h1 : (one, instObj C dx) ∈ all) (U : UpdF dx (dictOf [] 0) all g) (hf : env.frame = some L) (hke : env.scope.kind = .function) (hdd : dd + 20 < recursionLimit) (huu : uu + 100 < cLine) (g1 : dx < one) (h2 : (c, sqObj "tuple" vs cn) ∈ all)
    (h : ∀ g' h' e tk, Fr h₀ L g' m → g'.UpToSlots h' → RaisedN base (env :: outer) e (.type "TypeError") (restD dx all) h' → R (.error (.ref e)) { s with heap := h', toks := tk }) :
    codeG (model PySem.Challenge.rw_bd5008_01.row.toRowW.prog w) (arnd dd uu (env :: outer)) (.call (.ref 146) ⟨[.ref one, .ref c], []⟩) R s := by
  have NN := ledI_in (ex := [(c, sqObj "tuple" vs cn)]) N h1 U (by simp_all)
  exact init_wt hC B F X T hf hke hdd huu NN g1 (fun q hq => (restD_mem.mp hq).2) (ne_of_ne N h2 (upd_mem U) (by simp)) fun g' h' e tk FG U' R' => h g' h' e tk FG U' (RaisedN.sub R' fun q hq => by first | exact hq | exact .tail _ hq)
end Mine

section
namespace Mine
open PySem PySem.W PyProof.Rows
set_option maxHeartbeats 8000000
local macro_rules | `(tactic| size_fits) => `(tactic| exact Nat.le_of_ble_eq_true rfl)
local macro_rules | `(tactic| walk_at "eval Name") => `(tactic| (k_here; k_dflt (refine' nameX_B ?F ?X ?T ?e ?v ?n ?_ ?a ?b; (case a => kernel_rfl!); (case b => kernel_rfl!); (case F => k_asm); (case X => k_asm); (case T => k_asm); (case e => k_is); (case v => first | boot_by_name | kernel_rfl); (case n => decide); k_whole)))
local macro_rules | `(tactic| walk_at "eval Name") => `(tactic| (k_here; k_dflt (refine' nameX_L ?F ?v ?_ ?a ?b; (case a => kernel_rfl!); (case b => kernel_rfl!); (case F => k_asm); (case v => rfl); k_whole)))
local macro_rules | `(tactic| walk_at "call builtin:_struct.pack") => `(tactic| (k_here; (with_reducible show wpAny _ _ (call _ [Value.str _ _, Value.int _ _]) _ _ _); first | refine pack_B (by decide) (by decide) ?_ | refine pack_H (by omega) (by omega) ?_ | refine pack_L (by omega) (by omega) ?_))
local macro_rules | `(tactic| k_enter) => `(tactic| (kp_kind "both"; (refine' enter_both ?k1 ?k2 ?k3 ?k4 ?k5 ?kA ?kF ?kK ?k6 ?k7 ?k8 ?kV ?kX ?kQ ?kM ?kN ?kR ?kP ?kS ?kT ?kB ?_ ?c2 ?c3 ?c4 ?c5; (case kA => exact rfl); (case kF => exact rfl); (case kK => exact rfl); (case k1 => k_asm); (case k2 => k_asm); (case k3 => k_asm); (case k4 => k_asm); (case k5 => k_asm); (case k6 => k_is); (case k7 => k_is); (case k8 => k_room); (case kV => kp_lit); (case kX => kp_lit); (case kQ => exact rfl); (case kM => exact rfl); (case kN => exact rfl); (case kR => exact rfl); (case kP => exact rfl); (case kS => exact fun _ => rfl); (case kT => exact fun _ _ => rfl); (case kB => exact fun _ _ => locs rfl); (case c5 => decide); (case c2 => exact rfl); (case c3 => exact rfl); (case c4 => exact rfl); k_whole; intro C' D' g' L' h' l1 l2 lo' FG' F' N' B' X' T'; (try k_lt l1); (try k_lt2 l2); (simp only [kwEs, List.length_cons, List.length_nil, Nat.zero_add, Nat.reduceAdd] at N'); (try dsimp only); (try k_lift B'); (try k_fold))))
local macro_rules | `(tactic| walk_at "eval Call") => `(tactic| (k_here; (with_reducible show wpAny _ _ (eval (Expr.Call (Expr.Attribute _ _ _) [Expr.Starred _ _] [Keyword.mk none _ _] _) _) _ _ _); refine eval_superSS ?_))
local macro_rules | `(tactic| walk_at "eval Call Attribute") => `(tactic| (k_here; (with_reducible show wpAny _ _ (eval (Expr.Call (Expr.Attribute _ _ _) [Expr.Starred _ _] [Keyword.mk none _ _] _) _) _ _ _); refine eval_superSS ?_))
local macro_rules | `(tactic| walk_at "call type:super") => `(tactic| (k_here; (with_reducible show wpAny _ _ (call (Value.type "super") [Value.ref _, Value.ref _]) _ _ _); k_dflt (refine' call_super2 ?k1 ?k2 ?k3 ?k5 ?k6 ?k7 ?_; (case k1 => k_asm); (case k2 => k_asm); (case k3 => k_asm); (case k5 => k_inst); (case k6 => k_is); (case k7 => k_is); k_whole; intro so' h' F' N' l1; (try k_lt l1))))
local macro_rules | `(tactic| walk_at "getAttr ref") => `(tactic| (k_here; (with_reducible show wpAny _ _ (getAttr (Value.ref _) (Str.ofString "__init__") _) _ _ _); k_dflt (first
  | (refine' superAttr_fn ?k1 ?k2 ?k3 ?k4 ?k5 ?k6 ?k7 ?k8 ?k9 ?_; (case k1 => k_asm); (case k2 => k_asm); (case k3 => k_asm); (case k4 => k_mem); (case k5 => k_inst); (case k6 => k_is); (case k7 => ks_is); (case k8 => k_is); (case k9 => decide); k_whole; intro q' h' F' N' l1; (try k_lt l1))
  | (refine' superAttr_oi ?k1 ?k2 ?k3 ?k4 ?k5 ?k6 ?k7 ?k8 ?_; (case k1 => k_asm); (case k2 => k_asm); (case k3 => k_asm); (case k4 => k_mem); (case k5 => k_mem); (case k6 => k_is); (case k7 => ks_is); (case k8 => k_is); k_whole; intro q' h' F' N' l1; (try k_lt l1)))))
local macro_rules | `(tactic| walk_at "callWith ref") => `(tactic| (k_here; (with_reducible show wpAny _ _ (callWith _ (Value.ref _) _ (backTo _ (starEach [Expr.Starred _ _] _)) (backToKw _ (keywordEach [Keyword.mk none _ _] _))) _ _ _); k_dflt (refine' callWith_SS ?k1 ?k2 ?k3 ?k4 ?k5 ?k6 ?k7 ?k8 ?k9 ?ka ?kb ?kc ?_; (case k1 => k_asm); (case k2 => k_asm); (case k3 => exact nameX_L (by k_asm) rfl ⟨rfl, rfl⟩); (case k4 => exact fun _ _ F _ => nameX_L F rfl ⟨rfl, rfl⟩); (case k5 => k_mem); (case k6 => (simp only [List.length_cons, List.length_nil, sizeLine_eq]; omega)); (case k7 => k_mem); (case k8 => first | exact keyStr_nil | (repeat (first | exact keyStr_nil | refine keyStr_cons ?_))); (case k9 => first | rfl | decide +kernel); (case ka => (simp only [List.length_cons, List.length_nil, sizeLine_eq]; omega)); (case kb => assumption); (case kc => first | exact fun _ _ F N => keeper_meth N (List.Mem.tail _ (by k_mem)) (Frag.In.keeps (by k_asm) (Fr.keep F)) (by k_is) | exact fun _ _ F N => keeper_wrap N (List.Mem.tail _ (by k_mem))); k_whole; intro d' h' F' N' l1; (try k_lt l1); (simp only [kwOf_cons, kwOf_nil, List.nil_append, List.length_cons, List.length_nil] at N' ⊢))))
local macro_rules | `(tactic| walk_at "call ref") => `(tactic| (k_here; (with_reducible show wpAny _ _ (call (Value.ref _) [] []) _ _ _); k_dflt (refine' call_wrap ?k1 ?k2 ?_; (case k1 => k_asm); (case k2 => k_mem))))
local macro_rules | `(tactic| walk_at "eval Name") => `(tactic| (k_here; (with_reducible show wpAny _ _ (eval (Expr.Name (Str.ofString "super") _) _) _ _ _); k_dflt (refine' nameX_B ?F ?X ?T ?e ?v ?n ?_ ?a ?b; (case F => k_asm); (case X => k_asm); (case T => k_asm); (case a => rfl); (case b => rfl); (case e => k_is); (case v => exact boot_super); (case n => decide); k_whole)))
local macro_rules | `(tactic| walk_at "eval Dict nil nil") => `(tactic| (k_here; k_dflt (refine' new_X ?F ?N (TopRead.nolimit (by k_asm)) ?_; (case F => k_asm); (case N => k_asm); k_whole); intro d' h' F' N' l1 lo'; (try k_lt l1); (try k_sweep)))
local macro_rules | `(tactic| walk_at "compareOp In str ref") => `(tactic| (k_here; (with_reducible show wpAny _ _ (compareOp CmpOp.In (Value.str _ _) (Value.ref _)) _ _ _); k_dflt (refine' in_X ?N ?a ?k ?l ?e ?_; (case N => k_asm); (case a => k_mem); (case k => k_keys); (case l => assumption); (case e => k_get); k_whole); (try dsimp only [Option.isSome])))
local macro_rules | `(tactic| walk_at "compareOp NotIn str ref") => `(tactic| (k_here; (with_reducible show wpAny _ _ (compareOp CmpOp.NotIn (Value.str _ _) (Value.ref _)) _ _ _); k_dflt (refine' notin_X ?N ?a ?k ?l ?e ?_; (case N => k_asm); (case a => k_mem); (case k => k_keys); (case l => assumption); (case e => k_get); k_whole); (try dsimp only [Option.isSome, Bool.not])))
local macro_rules | `(tactic| walk_at "subscriptTail") => `(tactic| (k_here; (with_reducible show wpAny _ _ (subscriptTail _ _ (Value.ref _) (Value.str _ _)) _ _ _); k_dflt (refine' item_X ?N ?a ?k ?e ?_; (case N => k_asm); (case a => k_mem); (case k => k_keys); (case e => k_get); k_whole)))
local macro_rules | `(tactic| walk_at "setItem ref str") => `(tactic| (k_here; (with_reducible show wpAny _ _ (setItem (Value.ref _) (Value.str _ _) _) _ _ _); k_dflt (refine' set_X ?F ?N ?U ?k ?e ?z ?_; (case F => k_asm); (case N => k_asm); (case U => k_upd); (case k => k_keys); (case e => k_put); (case z => (simp only [List.length_cons, List.length_nil, sizeLine_eq]; omega)); k_whole); intro h' F' N'; (try k_sweep)))
local macro_rules | `(tactic| walk_at "getMethod ref") => `(tactic| (k_here; (with_reducible show wpAny _ _ (getMethod (Value.ref _) (Str.ofString "get") _) _ _ _); k_dflt (refine' meth_get_X ?N ?a ?_; (case N => k_asm); (case a => k_mem); k_whole)))
local macro_rules | `(tactic| walk_at "call builtin:dict.get") => `(tactic| (k_here; (with_reducible show wpAny _ _ (call _ [Value.ref _, Value.str _ _, _]) _ _ _); k_dflt (refine' get_X ?N ?a ?k ?l ?e ?_; (case N => k_asm); (case a => k_mem); (case k => k_keys); (case l => assumption); (case e => k_get); k_whole); (try dsimp only [Option.getD])))
local macro_rules | `(tactic| walk_at "exec For Name Name cons nil") => `(tactic| (k_here; (with_reducible show wpAny _ _ (exec (Stmt.For (Expr.Name (Str.ofString "kw") _) (Expr.Name (Str.ofString "kwargs") _) _ _ _) _) _ _ _); (rename Fr _ _ _ _ => lF'); (rename News _ _ _ _ => lN'); (with_unfolding_all refine' For_turns lF' ?_); k_whole; k_dflt (refine' nameX_L lF' ?v ?_ ?a ?b; (case a => rfl); (case b => rfl); (case v => rfl)); (with_unfolding_all refine iter_X (by rfl) lF' lN' (by k_mem) (by assumption) (by k_keys) (by (simp only [kwOf_cons, kwOf_nil, List.map_cons, List.map_nil]; decide)) rfl ?_); clear lF' lN'; intro i' l1; (try k_lt l1); simp only [kwOf_cons, kwOf_nil, List.map_cons, List.map_nil]))
local macro_rules | `(tactic| k_get) => `(tactic| assumption)
local macro_rules | `(tactic| walk_at "setAttr ref") => `(tactic| (k_here; (with_reducible show wpAny _ _ (setAttr (Value.ref _) (Str.ofString "pduData") _) _ _ _); k_dflt (refine' set_dict ?k1 ?k2 ?k3 ?k4 ?k5 ?k6 ?k7 ?k8 ?k9 ?k10 ?k11 ?k12 ?k13 ?_; (case k1 => k_asm); (case k2 => k_asm); (case k3 => k_asm); (case k4 => k_inst); (case k5 => exact rfl); (case k6 => k_is); (case k7 => k_is); (case k8 => k_is); (case k9 => k_is); (case k10 => exact some_of_eq (by assumption)); (case k11 => exact put_pair (by assumption)); (case k12 => k_upd); (case k13 => assumption); k_whole; intro h' F' N')))
local macro_rules | `(tactic| k_room) => `(tactic| (show _ < _; (try simp only [depth_deeper, depth_in1]); (try dsimp only); omega))
local macro_rules | `(tactic| k_all) => `(tactic| assumption)
local macro_rules | `(tactic| k_ne) => `(tactic| assumption)
local macro_rules | `(tactic| walk_at "call builtin:len") => `(tactic| (k_here; (with_reducible show wpAny _ _ (call (Value.builtin "len") [Value.ref _]) _ _ _); k_dflt (refine' len_K' ?N ?m ?z ?_; (case N => k_asm); (case m => k_mem); (case z => assumption); k_whole; intro _ _)))
local macro_rules | `(tactic| walk_at "subscriptTail") => `(tactic| (k_here; (with_reducible show wpAny _ _ (subscriptTail _ _ (Value.ref _) (Value.int _ _)) _ _ _); k_dflt (refine' tail0_K ?N ?m ?_ ?s; (case N => k_asm); (case m => k_mem); (case s => with_unfolding_all rfl); k_whole)))
local macro_rules | `(tactic| walk_at "subscriptTail") => `(tactic| (k_here; (with_reducible show wpAny _ _ (subscriptTail _ (Expr.Slice _ _ _ _) (Value.ref _) (Value.ref _)) _ _ _); k_dflt (refine' tailTo_K ?F ?N ?m ?z ?y ?_ ?s; (case F => k_asm); (case N => k_asm); (case m => k_mem); (case s => with_unfolding_all rfl); (case z => assumption); (case y => assumption); k_whole; intro d' h' F' N' l1; (try k_lt l1))))
local macro_rules | `(tactic| walk_at "wpG") => `(tactic| first | (with_reducible refine wpG_execs_nil ?_) | (with_reducible refine wpG_execs_cons ?_) | (with_reducible refine wpG_If ?_) | (with_reducible refine wpG_Delete1 ?_) | (with_reducible refine wpG_AugAssign_AttributeAny ?_))
local macro_rules | `(tactic| walk_at "ite") => `(tactic| first | (rw [if_neg (by first | assumption | (simp; done) | (simp; omega))]) | (rw [if_pos (by first | assumption | (simp; done) | (simp; omega))]))
local macro_rules | `(tactic| walk_at "wpG") => `(tactic| first | (with_reducible refine wpG_spl_nil ?_))
local macro_rules | `(tactic| walk_at "call type:bytes") => `(tactic| (k_here; (with_reducible show wpAny _ _ (call (Value.type "bytes") [Value.ref _]) _ _ _); k_dflt (refine' bytesOf_K ?N ?m ?z ?_; (case N => k_asm); (case m => k_mem); (case z => (simp; omega)); k_whole)))
local macro_rules | `(tactic| walk_at "call builtin:_struct.unpack") => `(tactic| (k_here; k_dflt (first | (refine' unpackH_K ?F ?N ?z ?_; (case F => k_asm); (case N => k_asm); (case z => (simp; omega)); k_whole; intro d' h' n' tk' hn' F' N' l1; (try k_lt l1)) | (refine' unpackL_K ?F ?N ?z ?_; (case F => k_asm); (case N => k_asm); (case z => (simp; omega)); k_whole; intro d' h' n' tk' hn' F' N' l1; (try k_lt l1)))))
local macro_rules | `(tactic| walk_at "wpG") => `(tactic| (k_here; first | (with_reducible show wpG _ _ (call (Value.type "bytes") [Value.ref _]) _ _ _) | (with_reducible show wpG _ _ (call (Value.builtin "_struct.unpack") _) _ _ _); refine wpG_of ?_))
local macro_rules | `(tactic| walk_at "call builtin:isinstance") => `(tactic| (k_here; (with_reducible show wpAny _ _ (call (Value.builtin "isinstance") [Value.ref _, Value.type _]) _ _ _); k_dflt (first | (refine' isiBa_t ?N ?m ?_; (case N => k_asm); (case m => k_mem); k_whole) | (refine' isiBa_f ?N ?m ?t ?_; (case N => k_asm); (case m => k_mem); (case t => first | exact .inl rfl | exact .inr rfl); k_whole))))
local macro_rules | `(tactic| walk_at "call builtin:_struct.pack") => `(tactic| (k_here; first | (with_reducible refine packH_M ?_) | (with_reducible refine packL_M ?_); intro _ _))
local macro_rules | `(tactic| walk_at "call builtin:isinstance") => `(tactic| (k_here; (with_reducible show wpAny _ _ (call (Value.builtin "isinstance") [Value.ref _, Value.ref _]) _ _ _); k_dflt (refine' isiBa_tup ?N ?m ?t ?_; (case N => k_asm); (case m => k_mem); (case t => k_mem); k_whole; intro _)))
local macro_rules | `(tactic| walk_at "leaving ref") => `(tactic| (k_here; first
  | (refine' leave_newX ?k1 ?k0 ?k2 ?k3 ?_; (case k0 => assumption); (case k1 => assumption); (case k2 => assumption); (case k3 => k_asm); k_whole; intro h' R' U'; (try dsimp only at R' U' ⊢))
  | (refine' leave_onNX ?k1 ?k2 ?k3 ?k4 ?_; (case k3 => assumption); (case k1 => assumption); (case k4 => assumption); (case k2 => assumption); k_whole; intro h' R' U'; (try dsimp only at R' U' ⊢))))
local macro_rules | `(tactic| walk_at "pyIter ref") => `(tactic| (k_here; (with_reducible show wpAny _ _ (pyIter (Value.ref _)) (fun it s₂ => TurnsAt _ _ _ _ _ _ _ _ _ it s₂) _ _); (rename Fr _ _ _ _ => lF'); (rename News _ _ _ _ => lN'); (with_unfolding_all refine iter_tupTurns (by rfl) lF' lN' (by k_mem) (by rfl) (by rfl) ?_); clear lF' lN'; intro i' l1; (try k_lt l1)))
local macro_rules | `(tactic| k_lt $h:ident) => `(tactic| (replace $h := allLt_of $h; (simp only [AllLt, and_true] at $h:ident); (repeat (obtain ⟨_, $h⟩ := $h))))
local macro_rules | `(tactic| k_all) => `(tactic| first | assumption | exact List.forall_mem_nil _ | (refine' List.forall_mem_cons.mpr ⟨?a, ?b⟩; (case a => k_ne); (case b => k_all)) | exact allLt_ne (by assumption))
local macro_rules | `(tactic| walk_at "UnrEndW") => `(tactic| (k_here; k_dflt ((refine' unrEnd_one ?F ?N ?o ?_; (case F => k_asm); (case N => k_asm); (case o => k_all)); (try dsimp only); refine ⟨?sub, ?_⟩; (case sub => (repeat (first | exact True.intro | (refine And.intro ?x ?y; (case x => k_mem))))))))
local macro_rules | `(tactic| walk_at "wpG") => `(tactic| (k_here; (with_reducible show wpG _ _ (callWith _ (Value.ref _) _ (backTo _ (starEach [Expr.Starred _ _] _)) (backToKw _ (keywordEach [Keyword.mk none _ _] _))) _ _ _); k_dflt (refine' callGSS ?k1 ?k2 ?k3 ?k4 ?k5 ?k6 ?k7 ?k8 ?k9 ?ka ?kb ?kc ?_; (case k1 => k_asm); (case k2 => k_asm); (case k3 => exact nameX_L (by k_asm) rfl ⟨rfl, rfl⟩); (case k4 => exact fun _ _ F _ => nameX_L F rfl ⟨rfl, rfl⟩); (case k5 => k_mem); (case k6 => (simp only [List.length_cons, List.length_nil, sizeLine_eq]; omega)); (case k7 => k_mem); (case k8 => first | exact keyStr_nil | (repeat (first | exact keyStr_nil | refine keyStr_cons ?_))); (case k9 => first | rfl | decide +kernel); (case ka => (simp only [List.length_cons, List.length_nil, sizeLine_eq]; omega)); (case kb => assumption); (case kc => first | exact fun _ _ F N => keeper_meth N (List.Mem.tail _ (by k_mem)) (Frag.In.keeps (by k_asm) (Fr.keep F)) (by k_is) | exact fun _ _ F N => keeper_wrap N (List.Mem.tail _ (by k_mem))); k_whole; intro d' h' F' N' l1; (try k_lt l1); (simp only [kwOf_cons, kwOf_nil, List.nil_append, List.length_cons, List.length_nil] at N' ⊢))))
local macro_rules | `(tactic| k_get) => `(tactic| first | assumption | exact Flds.at (by assumption) rfl | fail "k_get")
local macro_rules | `(tactic| k_ne) => `(tactic| first | assumption | ((rename News _ _ _ _ => kN); refine' ne_of_ne kN ?m1 ?m2 ?cc; (case m1 => k_mem); (case m2 => k_mem); (case cc => (simp; done))) | fail "k_ne")
local macro_rules | `(tactic| walk_at "setAttr ref") => `(tactic| (k_here; k_dflt (refine' set_flds ?k1 ?k2 ?k3 ?k4 ?k5 ?k6 ?k7 ?k8 ?k9 ?k10 ?k12 ?k13 ?_; (case k1 => k_asm); (case k2 => k_asm); (case k3 => k_asm); (case k4 => k_inst); (case k5 => exact rfl); (case k10 => assumption); (case k6 => k_is); (case k7 => k_is); (case k8 => k_is); (case k9 => k_is); (case k12 => k_updF); (case k13 => exact Nat.le_of_ble_eq_true rfl); k_whole; intro h' es' n' F' N' fl'; (try dsimp only at N'))))

section
theorem w_off54 : True := by
  w_top off
  trivial
-- C8a

theorem pci0 {w : World} {A₀ : Around} {base h₀ : Heap} {outer : List Env} {env : Env} {L : Addr} {m mg mb : Str → Option Value} {s : Shared} {news : List (Addr × Obj)} {p : Program} {loose : List Str} {mean : ExcName → Option Value} {R : Result → Shared → Prop} {dd uu : Nat}
    {one dx C : Nat} 
    (hC : C = 375 ∨ C = 453) (B : Below A₀ base outer h₀) (F : Fr h₀ L s.heap m) (X : (MineH.hd.heap_39 w.params).In h₀) (T : Top p loose mean mg mb h₀)
    (hf : env.frame = some L) (hke : env.scope.kind = .function) (hdd : dd + 40 < recursionLimit) (huu : uu + 200 < cLine)
    (N : News h₀ L s.heap ((one, instObj C dx) :: (dx, dictOf [] 0) :: news)) (g1 : dx < one) (g5 : ∀ q ∈ news, q.1 ≠ dx) 
    (h : ∀ a h' es' n' tk, (∀ q ∈ news, q.1 < a) → dx < a → one < a → Fr h₀ L h' m → News h₀ L h' ((one, instObj C dx) :: (dx, dictOf es' n') :: (a, baObj #[]) :: news) → Flds es' 4 (fun y => if y = Str.ofString "pduDestination" then some (.none) else if y = Str.ofString "pduSource" then some (.none) else if y = Str.ofString "pduUserData" then some (.none) else if y = Str.ofString "pduData" then some (.ref a) else none) → R (.ok (.ret .none)) { s with heap := h', toks := tk }) :
    codeG (model PySem.Challenge.rw_bd5008_01.row.toRowW.prog w) (arnd dd uu (env :: outer)) (.call (.ref 117) ⟨[.ref one], []⟩) R s := by
  revert X
  k_fill
  intro X
  rcases hC with rfl | rfl
  all_goals
    (refine' enter_bothG ?k1 ?k2 ?k3 ?k4 ?k5 ?kA ?kF ?kK ?k6 ?k7 ?k8 ?kV ?kX ?kQ ?kM ?kN ?kR ?kP ?kS ?kT ?kB ?_ ?c2 ?c3 ?c4 ?c5; (case kA => exact rfl); (case kF => exact hf); (case kK => exact hke); (case k1 => k_asm); (case k2 => k_asm); (case k3 => k_asm); (case k4 => k_asm); (case k5 => k_asm); (case k6 => k_is); (case k7 => k_is); (case k8 => show dd < _; omega); (case kV => kp_lit); (case kX => kp_lit); (case kQ => exact rfl); (case kM => exact rfl); (case kN => exact rfl); (case kR => exact rfl); (case kP => exact rfl); (case kS => exact fun _ => rfl); (case kT => exact fun _ _ => rfl); (case kB => exact fun _ _ => locs rfl); (case c5 => decide); (case c2 => exact rfl); (case c3 => exact rfl); (case c4 => exact rfl); k_whole; intro C' D' g' L' h' tk' tk1' l1 l2 lo' FG' F' N' B' X' T'; (try k_lt l1); (try k_lt2 l2); (simp only [kwEs, List.length_cons, List.length_nil, Nat.zero_add, Nat.reduceAdd] at N'); (try dsimp only); (try k_lift B'); (try k_fold))
    repeat (first | (k_unfold; (try dsimp only)) | walk1 | (dsimp only; walk1) | ((with_reducible show wpG _ _ (exec (Stmt.Assign _ _ _) _) _ _ _); refine wpG_of ?_) | ((with_reducible show wpG _ _ (exec (Stmt.For _ _ _ _ _) _) _ _ _); refine wpG_of ?_))
    refine wpG_Expr (evalG_superSS ?_)
    repeat (first | (k_unfold; (try dsimp only)) | walk1 | (dsimp only; walk1) | ((with_reducible show wpG _ _ (exec (Stmt.Assign _ _ _) _) _ _ _); refine wpG_of ?_) | ((with_reducible show wpG _ _ (exec (Stmt.For _ _ _ _ _) _) _ _ _); refine wpG_of ?_))
    (refine' callG_meth ?N ?m ?_; (case N => k_asm); (case m => k_mem))
    (refine' init_none_U  ?c ?B ?F ?X ?T ?N ?h1 ?U ?f ?ke ?dd ?uu ?g1  ?_; (case B => k_asm); (case F => k_asm); (case X => k_asm); (case T => k_asm); (case N => k_asm); (case h1 => k_mem); (case U => first | k_updF | fail "U"); (case f => exact rfl); (case ke => exact rfl); (case dd => show dd + 1 + _ < _; omega); (case uu => show uu + 3 + _ < _; omega); (case c => first | exact rfl | exact .inl rfl | exact .inr rfl | exact .inr (.inl rfl) | exact .inr (.inr rfl)); (case g1 => assumption))
    intro a5 h5 es5 n5 tk5  l5 F5 N5 fl5
    have m1 : ∀ q ∈ news, q.1 < a5 := fun q hq => l5 q (by repeat (first | exact hq | apply List.Mem.tail))
    have m2 : dx < a5 := l5 (dx, _) (by k_mem)
    have m3 : one < a5 := l5 (one, _) (by k_mem)
    dsimp only
    repeat (first | (k_unfold; (try dsimp only)) | walk1 | (dsimp only; walk1) | ((with_reducible show wpG _ _ (exec (Stmt.Assign _ _ _) _) _ _ _); refine wpG_of ?_) | ((with_reducible show wpG _ _ (exec (Stmt.For _ _ _ _ _) _) _ _ _); refine wpG_of ?_))
    (rename News h₀ L _ _ => kN)
    exact h _ _ _ _ _ m1 m2 m3 (by assumption) (fun q hq => kN q (by
      rcases List.mem_cons.mp hq with rfl | hq
      · k_mem
      rcases List.mem_cons.mp hq with rfl | hq
      · k_mem
      rcases List.mem_cons.mp hq with rfl | hq
      · k_mem
      repeat (first | exact hq | apply List.Mem.tail))) (by assumption)

theorem pci0_U {w : World} {A₀ : Around} {base h₀ : Heap} {outer : List Env} {env : Env} {L : Addr} {m mg mb : Str → Option Value} {s : Shared} {all : List (Addr × Obj)} {g : Obj → List (Addr × Obj)} {p : Program} {loose : List Str} {mean : ExcName → Option Value} {R : Result → Shared → Prop} {dd uu : Nat}
    {one dx C : Nat} 
    (hC : C = 375 ∨ C = 453) (B : Below A₀ base outer h₀) (F : Fr h₀ L s.heap m) (X : (MineH.hd.heap_39 w.params).In h₀) (T : Top p loose mean mg mb h₀)
    (N : News h₀ L s.heap all) (h1 : (one, instObj C dx) ∈ all) (U : UpdF dx (dictOf [] 0) all g) (hf : env.frame = some L) (hke : env.scope.kind = .function) (hdd : dd + 40 < recursionLimit) (huu : uu + 200 < cLine) (g1 : dx < one) 
    (h : ∀ a h' es' n' tk, (∀ q ∈ all, q.1 < a) → Fr h₀ L h' m → News h₀ L h' ((a, baObj #[]) :: g (dictOf es' n')) → Flds es' 4 (fun y => if y = Str.ofString "pduDestination" then some (.none) else if y = Str.ofString "pduSource" then some (.none) else if y = Str.ofString "pduUserData" then some (.none) else if y = Str.ofString "pduData" then some (.ref a) else none) → R (.ok (.ret .none)) { s with heap := h', toks := tk }) :
    codeG (model PySem.Challenge.rw_bd5008_01.row.toRowW.prog w) (arnd dd uu (env :: outer)) (.call (.ref 117) ⟨[.ref one], []⟩) R s := by
  have NN := ledI_in (ex := []) N h1 U (fun _ h => nomatch h)
  exact pci0 hC B F X T hf hke hdd huu NN g1 (fun q hq => (restD_mem.mp hq).2)  fun a h' es' n' tk  m1 m2 m3 F' N' fl => h a h' _ _ tk  (lt_all m1 m2) F' (ledI_out (ex := []) U N') fl
-- C344_0

theorem C344_0 {w : World} {A₀ : Around} {base h₀ : Heap} {outer : List Env} {env : Env} {L : Addr} {m mg mb : Str → Option Value} {s : Shared} {news : List (Addr × Obj)} {p : Program} {loose : List Str} {mean : ExcName → Option Value} {R : Result → Shared → Prop} {dd uu : Nat}
    {one dx C : Nat} 
    (hC : C = 375 ∨ C = 453) (B : Below A₀ base outer h₀) (F : Fr h₀ L s.heap m) (X : (MineH.hd.heap_39 w.params).In h₀) (T : Top p loose mean mg mb h₀)
    (hf : env.frame = some L) (hke : env.scope.kind = .function) (hdd : dd + 60 < recursionLimit) (huu : uu + 300 < cLine)
    (N : News h₀ L s.heap ((one, instObj C dx) :: (dx, dictOf [] 0) :: news)) (g1 : dx < one) (g5 : ∀ q ∈ news, q.1 ≠ dx) 
    (h : ∀ a h' es' n' tk (u1 u2 : Tok), (∀ q ∈ news, q.1 < a) → dx < a → one < a → Fr h₀ L h' m → News h₀ L h' ((one, instObj C dx) :: (dx, dictOf es' n') :: (a, baObj #[]) :: news) → Flds es' 6 (fun y => if y = Str.ofString "pduNetworkPriority" then some (.int 0 u2) else if y = Str.ofString "pduExpectingReply" then some (.int 0 u1) else if y = Str.ofString "pduDestination" then some (.none) else if y = Str.ofString "pduSource" then some (.none) else if y = Str.ofString "pduUserData" then some (.none) else if y = Str.ofString "pduData" then some (.ref a) else none) → R (.ok (.ret .none)) { s with heap := h', toks := tk }) :
    codeG (model PySem.Challenge.rw_bd5008_01.row.toRowW.prog w) (arnd dd uu (env :: outer)) (.call (.ref 344) ⟨[.ref one], []⟩) R s := by
  revert X
  k_fill
  intro X
  rcases hC with rfl | rfl
  all_goals
    (refine' enter_bothG ?k1 ?k2 ?k3 ?k4 ?k5 ?kA ?kF ?kK ?k6 ?k7 ?k8 ?kV ?kX ?kQ ?kM ?kN ?kR ?kP ?kS ?kT ?kB ?_ ?c2 ?c3 ?c4 ?c5; (case kA => exact rfl); (case kF => exact hf); (case kK => exact hke); (case k1 => k_asm); (case k2 => k_asm); (case k3 => k_asm); (case k4 => k_asm); (case k5 => k_asm); (case k6 => k_is); (case k7 => k_is); (case k8 => show dd < _; omega); (case kV => kp_lit); (case kX => kp_lit); (case kQ => exact rfl); (case kM => exact rfl); (case kN => exact rfl); (case kR => exact rfl); (case kP => exact rfl); (case kS => exact fun _ => rfl); (case kT => exact fun _ _ => rfl); (case kB => exact fun _ _ => locs rfl); (case c5 => decide); (case c2 => exact rfl); (case c3 => exact rfl); (case c4 => exact rfl); k_whole; intro C' D' g' L' h' tk' tk1' l1 l2 lo' FG' F' N' B' X' T'; (try k_lt l1); (try k_lt2 l2); (simp only [kwEs, List.length_cons, List.length_nil, Nat.zero_add, Nat.reduceAdd] at N'); (try dsimp only); (try k_lift B'); (try k_fold))
    repeat (first | (k_unfold; (try dsimp only)) | walk1 | (dsimp only; walk1) | ((with_reducible show wpG _ _ (exec (Stmt.Assign _ _ _) _) _ _ _); refine wpG_of ?_) | ((with_reducible show wpG _ _ (exec (Stmt.For _ _ _ _ _) _) _ _ _); refine wpG_of ?_))
    refine wpG_Expr (evalG_superSS ?_)
    repeat (first | (k_unfold; (try dsimp only)) | walk1 | (dsimp only; walk1) | ((with_reducible show wpG _ _ (exec (Stmt.Assign _ _ _) _) _ _ _); refine wpG_of ?_) | ((with_reducible show wpG _ _ (exec (Stmt.For _ _ _ _ _) _) _ _ _); refine wpG_of ?_))
    (refine' callG_meth ?N ?m ?_; (case N => k_asm); (case m => k_mem))
    (refine' pci0_U  ?c ?B ?F ?X ?T ?N ?h1 ?U ?f ?ke ?dd ?uu ?g1  ?_; (case B => k_asm); (case F => k_asm); (case X => k_asm); (case T => k_asm); (case N => k_asm); (case h1 => k_mem); (case U => first | k_updF | fail "U"); (case f => exact rfl); (case ke => exact rfl); (case dd => show dd + 1 + _ < _; omega); (case uu => show uu + 3 + _ < _; omega); (case c => first | exact rfl | exact .inl rfl | exact .inr rfl | exact .inr (.inl rfl) | exact .inr (.inr rfl)); (case g1 => assumption))
    intro a5 h5 es5 n5 tk5  l5 F5 N5 fl5
    have m1 : ∀ q ∈ news, q.1 < a5 := fun q hq => l5 q (by repeat (first | exact hq | apply List.Mem.tail))
    have m2 : dx < a5 := l5 (dx, _) (by k_mem)
    have m3 : one < a5 := l5 (one, _) (by k_mem)
    dsimp only
    repeat (first | (k_unfold; (try dsimp only)) | walk1 | (dsimp only; walk1) | ((with_reducible show wpG _ _ (exec (Stmt.Assign _ _ _) _) _ _ _); refine wpG_of ?_) | ((with_reducible show wpG _ _ (exec (Stmt.For _ _ _ _ _) _) _ _ _); refine wpG_of ?_))
    (rename News h₀ L _ _ => kN)
    exact h _ _ _ _ _ _ _ m1 m2 m3 (by assumption) (fun q hq => kN q (by
      rcases List.mem_cons.mp hq with rfl | hq
      · k_mem
      rcases List.mem_cons.mp hq with rfl | hq
      · k_mem
      rcases List.mem_cons.mp hq with rfl | hq
      · k_mem
      repeat (first | exact hq | apply List.Mem.tail))) (by assumption)

theorem C344_0_U {w : World} {A₀ : Around} {base h₀ : Heap} {outer : List Env} {env : Env} {L : Addr} {m mg mb : Str → Option Value} {s : Shared} {all : List (Addr × Obj)} {g : Obj → List (Addr × Obj)} {p : Program} {loose : List Str} {mean : ExcName → Option Value} {R : Result → Shared → Prop} {dd uu : Nat}
    {one dx C : Nat} 
    (hC : C = 375 ∨ C = 453) (B : Below A₀ base outer h₀) (F : Fr h₀ L s.heap m) (X : (MineH.hd.heap_39 w.params).In h₀) (T : Top p loose mean mg mb h₀)
    (N : News h₀ L s.heap all) (h1 : (one, instObj C dx) ∈ all) (U : UpdF dx (dictOf [] 0) all g) (hf : env.frame = some L) (hke : env.scope.kind = .function) (hdd : dd + 60 < recursionLimit) (huu : uu + 300 < cLine) (g1 : dx < one) 
    (h : ∀ a h' es' n' tk (u1 u2 : Tok), (∀ q ∈ all, q.1 < a) → Fr h₀ L h' m → News h₀ L h' ((a, baObj #[]) :: g (dictOf es' n')) → Flds es' 6 (fun y => if y = Str.ofString "pduNetworkPriority" then some (.int 0 u2) else if y = Str.ofString "pduExpectingReply" then some (.int 0 u1) else if y = Str.ofString "pduDestination" then some (.none) else if y = Str.ofString "pduSource" then some (.none) else if y = Str.ofString "pduUserData" then some (.none) else if y = Str.ofString "pduData" then some (.ref a) else none) → R (.ok (.ret .none)) { s with heap := h', toks := tk }) :
    codeG (model PySem.Challenge.rw_bd5008_01.row.toRowW.prog w) (arnd dd uu (env :: outer)) (.call (.ref 344) ⟨[.ref one], []⟩) R s := by
  have NN := ledI_in (ex := []) N h1 U (fun _ h => nomatch h)
  exact C344_0 hC B F X T hf hke hdd huu NN g1 (fun q hq => (restD_mem.mp hq).2)  fun a h' es' n' tk u1 u2 m1 m2 m3 F' N' fl => h a h' _ _ tk u1 u2 (lt_all m1 m2) F' (ledI_out (ex := []) U N') fl
-- C8b

theorem pci3 {w : World} {A₀ : Around} {base h₀ : Heap} {outer : List Env} {env : Env} {L : Addr} {m mg mb : Str → Option Value} {s : Shared} {news : List (Addr × Obj)} {p : Program} {loose : List Str} {mean : ExcName → Option Value} {R : Result → Shared → Prop} {dd uu : Nat}
    {one dx C : Nat} {x : Array UInt8} {t0 t3 : Tok} {p1 p2 : Nat} {n3 : Int}
    (hC : C = 375 ∨ C = 453) (B : Below A₀ base outer h₀) (F : Fr h₀ L s.heap m) (X : (MineH.hd.heap_39 w.params).In h₀) (T : Top p loose mean mg mb h₀)
    (hf : env.frame = some L) (hke : env.scope.kind = .function) (hdd : dd + 40 < recursionLimit) (huu : uu + 200 < cLine)
    (N : News h₀ L s.heap ((one, instObj C dx) :: (dx, dictOf [] 0) :: news)) (g1 : dx < one) (g5 : ∀ q ∈ news, q.1 ≠ dx) (hz : x.size ≤ sizeLine)
    (h : ∀ a h' es' n' tk, (∀ q ∈ news, q.1 < a) → dx < a → one < a → Fr h₀ L h' m → News h₀ L h' ((one, instObj C dx) :: (dx, dictOf es' n') :: (a, baObj x) :: news) → Flds es' 4 (fun y => if y = Str.ofString "pduDestination" then some (.ref p2) else if y = Str.ofString "pduSource" then some (.ref p1) else if y = Str.ofString "pduUserData" then some (.int n3 t3) else if y = Str.ofString "pduData" then some (.ref a) else none) → R (.ok (.ret .none)) { s with heap := h', toks := tk }) :
    codeG (model PySem.Challenge.rw_bd5008_01.row.toRowW.prog w) (arnd dd uu (env :: outer)) (.call (.ref 117) ⟨[.ref one, .bytes x t0], [(Str.ofString "source", .ref p1), (Str.ofString "destination", .ref p2), (Str.ofString "user_data", .int n3 t3)]⟩) R s := by
  revert X
  k_fill
  intro X
  rcases hC with rfl | rfl
  all_goals
    (refine' enter_bothG ?k1 ?k2 ?k3 ?k4 ?k5 ?kA ?kF ?kK ?k6 ?k7 ?k8 ?kV ?kX ?kQ ?kM ?kN ?kR ?kP ?kS ?kT ?kB ?_ ?c2 ?c3 ?c4 ?c5; (case kA => exact rfl); (case kF => exact hf); (case kK => exact hke); (case k1 => k_asm); (case k2 => k_asm); (case k3 => k_asm); (case k4 => k_asm); (case k5 => k_asm); (case k6 => k_is); (case k7 => k_is); (case k8 => show dd < _; omega); (case kV => kp_lit); (case kX => kp_lit); (case kQ => exact rfl); (case kM => exact rfl); (case kN => exact rfl); (case kR => exact rfl); (case kP => exact rfl); (case kS => exact fun _ => rfl); (case kT => exact fun _ _ => rfl); (case kB => exact fun _ _ => locs rfl); (case c5 => decide); (case c2 => exact rfl); (case c3 => exact rfl); (case c4 => exact rfl); k_whole; intro C' D' g' L' h' tk' tk1' l1 l2 lo' FG' F' N' B' X' T'; (try k_lt l1); (try k_lt2 l2); (simp only [kwEs, List.length_cons, List.length_nil, Nat.zero_add, Nat.reduceAdd] at N'); (try dsimp only); (try k_lift B'); (try k_fold))
    repeat (first | (k_unfold; (try dsimp only)) | walk1 | (dsimp only; walk1) | ((with_reducible show wpG _ _ (exec (Stmt.Assign _ _ _) _) _ _ _); refine wpG_of ?_) | ((with_reducible show wpG _ _ (exec (Stmt.For _ _ _ _ _) _) _ _ _); refine wpG_of ?_))
    refine wpG_Expr (evalG_superSS ?_)
    repeat (first | (k_unfold; (try dsimp only)) | walk1 | (dsimp only; walk1) | ((with_reducible show wpG _ _ (exec (Stmt.Assign _ _ _) _) _ _ _); refine wpG_of ?_) | ((with_reducible show wpG _ _ (exec (Stmt.For _ _ _ _ _) _) _ _ _); refine wpG_of ?_))
    (refine' callG_meth ?N ?m ?_; (case N => k_asm); (case m => k_mem))
    (refine' init_by_U  ?c ?B ?F ?X ?T ?N ?h1 ?U ?f ?ke ?dd ?uu ?g1 hz ?_; (case B => k_asm); (case F => k_asm); (case X => k_asm); (case T => k_asm); (case N => k_asm); (case h1 => k_mem); (case U => first | k_updF | fail "U"); (case f => exact rfl); (case ke => exact rfl); (case dd => show dd + 1 + _ < _; omega); (case uu => show uu + 3 + _ < _; omega); (case c => first | exact rfl | exact .inl rfl | exact .inr rfl | exact .inr (.inl rfl) | exact .inr (.inr rfl)); (case g1 => assumption))
    intro a5 h5 es5 n5 tk5  l5 F5 N5 fl5
    have m1 : ∀ q ∈ news, q.1 < a5 := fun q hq => l5 q (by repeat (first | exact hq | apply List.Mem.tail))
    have m2 : dx < a5 := l5 (dx, _) (by k_mem)
    have m3 : one < a5 := l5 (one, _) (by k_mem)
    dsimp only
    repeat (first | (k_unfold; (try dsimp only)) | walk1 | (dsimp only; walk1) | ((with_reducible show wpG _ _ (exec (Stmt.Assign _ _ _) _) _ _ _); refine wpG_of ?_) | ((with_reducible show wpG _ _ (exec (Stmt.For _ _ _ _ _) _) _ _ _); refine wpG_of ?_))
    (rename News h₀ L _ _ => kN)
    exact h _ _ _ _ _ m1 m2 m3 (by assumption) (fun q hq => kN q (by
      rcases List.mem_cons.mp hq with rfl | hq
      · k_mem
      rcases List.mem_cons.mp hq with rfl | hq
      · k_mem
      rcases List.mem_cons.mp hq with rfl | hq
      · k_mem
      repeat (first | exact hq | apply List.Mem.tail))) (by assumption)

theorem pci3_U {w : World} {A₀ : Around} {base h₀ : Heap} {outer : List Env} {env : Env} {L : Addr} {m mg mb : Str → Option Value} {s : Shared} {all : List (Addr × Obj)} {g : Obj → List (Addr × Obj)} {p : Program} {loose : List Str} {mean : ExcName → Option Value} {R : Result → Shared → Prop} {dd uu : Nat}
    {one dx C : Nat} {x : Array UInt8} {t0 t3 : Tok} {p1 p2 : Nat} {n3 : Int}
    (hC : C = 375 ∨ C = 453) (B : Below A₀ base outer h₀) (F : Fr h₀ L s.heap m) (X : (MineH.hd.heap_39 w.params).In h₀) (T : Top p loose mean mg mb h₀)
    (N : News h₀ L s.heap all) (h1 : (one, instObj C dx) ∈ all) (U : UpdF dx (dictOf [] 0) all g) (hf : env.frame = some L) (hke : env.scope.kind = .function) (hdd : dd + 40 < recursionLimit) (huu : uu + 200 < cLine) (g1 : dx < one) (hz : x.size ≤ sizeLine)
    (h : ∀ a h' es' n' tk, (∀ q ∈ all, q.1 < a) → Fr h₀ L h' m → News h₀ L h' ((a, baObj x) :: g (dictOf es' n')) → Flds es' 4 (fun y => if y = Str.ofString "pduDestination" then some (.ref p2) else if y = Str.ofString "pduSource" then some (.ref p1) else if y = Str.ofString "pduUserData" then some (.int n3 t3) else if y = Str.ofString "pduData" then some (.ref a) else none) → R (.ok (.ret .none)) { s with heap := h', toks := tk }) :
    codeG (model PySem.Challenge.rw_bd5008_01.row.toRowW.prog w) (arnd dd uu (env :: outer)) (.call (.ref 117) ⟨[.ref one, .bytes x t0], [(Str.ofString "source", .ref p1), (Str.ofString "destination", .ref p2), (Str.ofString "user_data", .int n3 t3)]⟩) R s := by
  have NN := ledI_in (ex := []) N h1 U (fun _ h => nomatch h)
  exact pci3 hC B F X T hf hke hdd huu NN g1 (fun q hq => (restD_mem.mp hq).2) hz fun a h' es' n' tk  m1 m2 m3 F' N' fl => h a h' _ _ tk  (lt_all m1 m2) F' (ledI_out (ex := []) U N') fl
-- C344_5

theorem C344_5 {w : World} {A₀ : Around} {base h₀ : Heap} {outer : List Env} {env : Env} {L : Addr} {m mg mb : Str → Option Value} {s : Shared} {news : List (Addr × Obj)} {p : Program} {loose : List Str} {mean : ExcName → Option Value} {R : Result → Shared → Prop} {dd uu : Nat}
    {one dx C : Nat} {x : Array UInt8} {t0 t3 t4 t5 : Tok} {p1 p2 : Nat} {n3 n4 n5 : Int}
    (hC : C = 375 ∨ C = 453) (B : Below A₀ base outer h₀) (F : Fr h₀ L s.heap m) (X : (MineH.hd.heap_39 w.params).In h₀) (T : Top p loose mean mg mb h₀)
    (hf : env.frame = some L) (hke : env.scope.kind = .function) (hdd : dd + 60 < recursionLimit) (huu : uu + 300 < cLine)
    (N : News h₀ L s.heap ((one, instObj C dx) :: (dx, dictOf [] 0) :: news)) (g1 : dx < one) (g5 : ∀ q ∈ news, q.1 ≠ dx) (hz : x.size ≤ sizeLine)
    (h : ∀ a h' es' n' tk, (∀ q ∈ news, q.1 < a) → dx < a → one < a → Fr h₀ L h' m → News h₀ L h' ((one, instObj C dx) :: (dx, dictOf es' n') :: (a, baObj x) :: news) → Flds es' 6 (fun y => if y = Str.ofString "pduNetworkPriority" then some (.int n5 t5) else if y = Str.ofString "pduExpectingReply" then some (.int n4 t4) else if y = Str.ofString "pduDestination" then some (.ref p2) else if y = Str.ofString "pduSource" then some (.ref p1) else if y = Str.ofString "pduUserData" then some (.int n3 t3) else if y = Str.ofString "pduData" then some (.ref a) else none) → R (.ok (.ret .none)) { s with heap := h', toks := tk }) :
    codeG (model PySem.Challenge.rw_bd5008_01.row.toRowW.prog w) (arnd dd uu (env :: outer)) (.call (.ref 344) ⟨[.ref one, .bytes x t0], [(Str.ofString "source", .ref p1), (Str.ofString "destination", .ref p2), (Str.ofString "user_data", .int n3 t3), (Str.ofString "expectingReply", .int n4 t4), (Str.ofString "networkPriority", .int n5 t5)]⟩) R s := by
  revert X
  k_fill
  intro X
  rcases hC with rfl | rfl
  all_goals
    (refine' enter_bothG ?k1 ?k2 ?k3 ?k4 ?k5 ?kA ?kF ?kK ?k6 ?k7 ?k8 ?kV ?kX ?kQ ?kM ?kN ?kR ?kP ?kS ?kT ?kB ?_ ?c2 ?c3 ?c4 ?c5; (case kA => exact rfl); (case kF => exact hf); (case kK => exact hke); (case k1 => k_asm); (case k2 => k_asm); (case k3 => k_asm); (case k4 => k_asm); (case k5 => k_asm); (case k6 => k_is); (case k7 => k_is); (case k8 => show dd < _; omega); (case kV => kp_lit); (case kX => kp_lit); (case kQ => exact rfl); (case kM => exact rfl); (case kN => exact rfl); (case kR => exact rfl); (case kP => exact rfl); (case kS => exact fun _ => rfl); (case kT => exact fun _ _ => rfl); (case kB => exact fun _ _ => locs rfl); (case c5 => decide); (case c2 => exact rfl); (case c3 => exact rfl); (case c4 => exact rfl); k_whole; intro C' D' g' L' h' tk' tk1' l1 l2 lo' FG' F' N' B' X' T'; (try k_lt l1); (try k_lt2 l2); (simp only [kwEs, List.length_cons, List.length_nil, Nat.zero_add, Nat.reduceAdd] at N'); (try dsimp only); (try k_lift B'); (try k_fold))
    repeat (first | (k_unfold; (try dsimp only)) | walk1 | (dsimp only; walk1) | ((with_reducible show wpG _ _ (exec (Stmt.Assign _ _ _) _) _ _ _); refine wpG_of ?_) | ((with_reducible show wpG _ _ (exec (Stmt.For _ _ _ _ _) _) _ _ _); refine wpG_of ?_))
    refine wpG_Expr (evalG_superSS ?_)
    repeat (first | (k_unfold; (try dsimp only)) | walk1 | (dsimp only; walk1) | ((with_reducible show wpG _ _ (exec (Stmt.Assign _ _ _) _) _ _ _); refine wpG_of ?_) | ((with_reducible show wpG _ _ (exec (Stmt.For _ _ _ _ _) _) _ _ _); refine wpG_of ?_))
    (refine' callG_meth ?N ?m ?_; (case N => k_asm); (case m => k_mem))
    (refine' pci3_U  ?c ?B ?F ?X ?T ?N ?h1 ?U ?f ?ke ?dd ?uu ?g1 hz ?_; (case B => k_asm); (case F => k_asm); (case X => k_asm); (case T => k_asm); (case N => k_asm); (case h1 => k_mem); (case U => first | k_updF | fail "U"); (case f => exact rfl); (case ke => exact rfl); (case dd => show dd + 1 + _ < _; omega); (case uu => show uu + 3 + _ < _; omega); (case c => first | exact rfl | exact .inl rfl | exact .inr rfl | exact .inr (.inl rfl) | exact .inr (.inr rfl)); (case g1 => assumption))
    intro a5 h5 es5 n5 tk5  l5 F5 N5 fl5
    have m1 : ∀ q ∈ news, q.1 < a5 := fun q hq => l5 q (by repeat (first | exact hq | apply List.Mem.tail))
    have m2 : dx < a5 := l5 (dx, _) (by k_mem)
    have m3 : one < a5 := l5 (one, _) (by k_mem)
    dsimp only
    repeat (first | (k_unfold; (try dsimp only)) | walk1 | (dsimp only; walk1) | ((with_reducible show wpG _ _ (exec (Stmt.Assign _ _ _) _) _ _ _); refine wpG_of ?_) | ((with_reducible show wpG _ _ (exec (Stmt.For _ _ _ _ _) _) _ _ _); refine wpG_of ?_))
    (rename News h₀ L _ _ => kN)
    exact h _ _ _ _ _ m1 m2 m3 (by assumption) (fun q hq => kN q (by
      rcases List.mem_cons.mp hq with rfl | hq
      · k_mem
      rcases List.mem_cons.mp hq with rfl | hq
      · k_mem
      rcases List.mem_cons.mp hq with rfl | hq
      · k_mem
      repeat (first | exact hq | apply List.Mem.tail))) (by assumption)

theorem C344_5_U {w : World} {A₀ : Around} {base h₀ : Heap} {outer : List Env} {env : Env} {L : Addr} {m mg mb : Str → Option Value} {s : Shared} {all : List (Addr × Obj)} {g : Obj → List (Addr × Obj)} {p : Program} {loose : List Str} {mean : ExcName → Option Value} {R : Result → Shared → Prop} {dd uu : Nat}
    {one dx C : Nat} {x : Array UInt8} {t0 t3 t4 t5 : Tok} {p1 p2 : Nat} {n3 n4 n5 : Int}
    (hC : C = 375 ∨ C = 453) (B : Below A₀ base outer h₀) (F : Fr h₀ L s.heap m) (X : (MineH.hd.heap_39 w.params).In h₀) (T : Top p loose mean mg mb h₀)
    (N : News h₀ L s.heap all) (h1 : (one, instObj C dx) ∈ all) (U : UpdF dx (dictOf [] 0) all g) (hf : env.frame = some L) (hke : env.scope.kind = .function) (hdd : dd + 60 < recursionLimit) (huu : uu + 300 < cLine) (g1 : dx < one) (hz : x.size ≤ sizeLine)
    (h : ∀ a h' es' n' tk, (∀ q ∈ all, q.1 < a) → Fr h₀ L h' m → News h₀ L h' ((a, baObj x) :: g (dictOf es' n')) → Flds es' 6 (fun y => if y = Str.ofString "pduNetworkPriority" then some (.int n5 t5) else if y = Str.ofString "pduExpectingReply" then some (.int n4 t4) else if y = Str.ofString "pduDestination" then some (.ref p2) else if y = Str.ofString "pduSource" then some (.ref p1) else if y = Str.ofString "pduUserData" then some (.int n3 t3) else if y = Str.ofString "pduData" then some (.ref a) else none) → R (.ok (.ret .none)) { s with heap := h', toks := tk }) :
    codeG (model PySem.Challenge.rw_bd5008_01.row.toRowW.prog w) (arnd dd uu (env :: outer)) (.call (.ref 344) ⟨[.ref one, .bytes x t0], [(Str.ofString "source", .ref p1), (Str.ofString "destination", .ref p2), (Str.ofString "user_data", .int n3 t3), (Str.ofString "expectingReply", .int n4 t4), (Str.ofString "networkPriority", .int n5 t5)]⟩) R s := by
  have NN := ledI_in (ex := []) N h1 U (fun _ h => nomatch h)
  exact C344_5 hC B F X T hf hke hdd huu NN g1 (fun q hq => (restD_mem.mp hq).2) hz fun a h' es' n' tk  m1 m2 m3 F' N' fl => h a h' _ _ tk  (lt_all m1 m2) F' (ledI_out (ex := []) U N') fl
-- C394_0

theorem C394_0 {w : World} {A₀ : Around} {base h₀ : Heap} {outer : List Env} {env : Env} {L : Addr} {m mg mb : Str → Option Value} {s : Shared} {news : List (Addr × Obj)} {p : Program} {loose : List Str} {mean : ExcName → Option Value} {R : Result → Shared → Prop} {dd uu : Nat}
    {one dx C : Nat} 
    (hC : C = 453) (B : Below A₀ base outer h₀) (F : Fr h₀ L s.heap m) (X : (MineH.hd.heap_39 w.params).In h₀) (T : Top p loose mean mg mb h₀)
    (hf : env.frame = some L) (hke : env.scope.kind = .function) (hdd : dd + 80 < recursionLimit) (huu : uu + 400 < cLine)
    (N : News h₀ L s.heap ((one, instObj C dx) :: (dx, dictOf [] 0) :: news)) (g1 : dx < one) (g5 : ∀ q ∈ news, q.1 ≠ dx) 
    (h : ∀ a h' es' n' tk (u1 u2 u3 : Tok), (∀ q ∈ news, q.1 < a) → dx < a → one < a → Fr h₀ L h' m → News h₀ L h' ((one, instObj C dx) :: (dx, dictOf es' n') :: (a, baObj #[]) :: news) → Flds es' 13 (fun y => if y = Str.ofString "npduVendorID" then some (.none) else if y = Str.ofString "npduNetMessage" then some (.none) else if y = Str.ofString "npduHopCount" then some (.none) else if y = Str.ofString "npduSADR" then some (.none) else if y = Str.ofString "npduDADR" then some (.none) else if y = Str.ofString "npduControl" then some (.none) else if y = Str.ofString "npduVersion" then some (.int 1 u3) else if y = Str.ofString "pduNetworkPriority" then some (.int 0 u2) else if y = Str.ofString "pduExpectingReply" then some (.int 0 u1) else if y = Str.ofString "pduDestination" then some (.none) else if y = Str.ofString "pduSource" then some (.none) else if y = Str.ofString "pduUserData" then some (.none) else if y = Str.ofString "pduData" then some (.ref a) else none) → R (.ok (.ret .none)) { s with heap := h', toks := tk }) :
    codeG (model PySem.Challenge.rw_bd5008_01.row.toRowW.prog w) (arnd dd uu (env :: outer)) (.call (.ref 394) ⟨[.ref one], []⟩) R s := by
  revert X
  k_fill
  intro X
  subst hC
  all_goals
    (refine' enter_bothG ?k1 ?k2 ?k3 ?k4 ?k5 ?kA ?kF ?kK ?k6 ?k7 ?k8 ?kV ?kX ?kQ ?kM ?kN ?kR ?kP ?kS ?kT ?kB ?_ ?c2 ?c3 ?c4 ?c5; (case kA => exact rfl); (case kF => exact hf); (case kK => exact hke); (case k1 => k_asm); (case k2 => k_asm); (case k3 => k_asm); (case k4 => k_asm); (case k5 => k_asm); (case k6 => k_is); (case k7 => k_is); (case k8 => show dd < _; omega); (case kV => kp_lit); (case kX => kp_lit); (case kQ => exact rfl); (case kM => exact rfl); (case kN => exact rfl); (case kR => exact rfl); (case kP => exact rfl); (case kS => exact fun _ => rfl); (case kT => exact fun _ _ => rfl); (case kB => exact fun _ _ => locs rfl); (case c5 => decide); (case c2 => exact rfl); (case c3 => exact rfl); (case c4 => exact rfl); k_whole; intro C' D' g' L' h' tk' tk1' l1 l2 lo' FG' F' N' B' X' T'; (try k_lt l1); (try k_lt2 l2); (simp only [kwEs, List.length_cons, List.length_nil, Nat.zero_add, Nat.reduceAdd] at N'); (try dsimp only); (try k_lift B'); (try k_fold))
    repeat (first | (k_unfold; (try dsimp only)) | walk1 | (dsimp only; walk1) | ((with_reducible show wpG _ _ (exec (Stmt.Assign _ _ _) _) _ _ _); refine wpG_of ?_) | ((with_reducible show wpG _ _ (exec (Stmt.For _ _ _ _ _) _) _ _ _); refine wpG_of ?_))
    refine wpG_Expr (evalG_superSS ?_)
    repeat (first | (k_unfold; (try dsimp only)) | walk1 | (dsimp only; walk1) | ((with_reducible show wpG _ _ (exec (Stmt.Assign _ _ _) _) _ _ _); refine wpG_of ?_) | ((with_reducible show wpG _ _ (exec (Stmt.For _ _ _ _ _) _) _ _ _); refine wpG_of ?_))
    (refine' callG_meth ?N ?m ?_; (case N => k_asm); (case m => k_mem))
    (refine' C344_0_U  ?c ?B ?F ?X ?T ?N ?h1 ?U ?f ?ke ?dd ?uu ?g1  ?_; (case B => k_asm); (case F => k_asm); (case X => k_asm); (case T => k_asm); (case N => k_asm); (case h1 => k_mem); (case U => first | k_updF | fail "U"); (case f => exact rfl); (case ke => exact rfl); (case dd => show dd + 1 + _ < _; omega); (case uu => show uu + 3 + _ < _; omega); (case c => first | exact rfl | exact .inl rfl | exact .inr rfl | exact .inr (.inl rfl) | exact .inr (.inr rfl)); (case g1 => assumption))
    intro a5 h5 es5 n5 tk5 v1 v2 l5 F5 N5 fl5
    have m1 : ∀ q ∈ news, q.1 < a5 := fun q hq => l5 q (by repeat (first | exact hq | apply List.Mem.tail))
    have m2 : dx < a5 := l5 (dx, _) (by k_mem)
    have m3 : one < a5 := l5 (one, _) (by k_mem)
    dsimp only
    repeat (first | (k_unfold; (try dsimp only)) | walk1 | (dsimp only; walk1) | ((with_reducible show wpG _ _ (exec (Stmt.Assign _ _ _) _) _ _ _); refine wpG_of ?_) | ((with_reducible show wpG _ _ (exec (Stmt.For _ _ _ _ _) _) _ _ _); refine wpG_of ?_))
    (rename News h₀ L _ _ => kN)
    exact h _ _ _ _ _ _ _ _ m1 m2 m3 (by assumption) (fun q hq => kN q (by
      rcases List.mem_cons.mp hq with rfl | hq
      · k_mem
      rcases List.mem_cons.mp hq with rfl | hq
      · k_mem
      rcases List.mem_cons.mp hq with rfl | hq
      · k_mem
      repeat (first | exact hq | apply List.Mem.tail))) (by assumption)

theorem C394_0_U {w : World} {A₀ : Around} {base h₀ : Heap} {outer : List Env} {env : Env} {L : Addr} {m mg mb : Str → Option Value} {s : Shared} {all : List (Addr × Obj)} {g : Obj → List (Addr × Obj)} {p : Program} {loose : List Str} {mean : ExcName → Option Value} {R : Result → Shared → Prop} {dd uu : Nat}
    {one dx C : Nat} 
    (hC : C = 453) (B : Below A₀ base outer h₀) (F : Fr h₀ L s.heap m) (X : (MineH.hd.heap_39 w.params).In h₀) (T : Top p loose mean mg mb h₀)
    (N : News h₀ L s.heap all) (h1 : (one, instObj C dx) ∈ all) (U : UpdF dx (dictOf [] 0) all g) (hf : env.frame = some L) (hke : env.scope.kind = .function) (hdd : dd + 80 < recursionLimit) (huu : uu + 400 < cLine) (g1 : dx < one) 
    (h : ∀ a h' es' n' tk (u1 u2 u3 : Tok), (∀ q ∈ all, q.1 < a) → Fr h₀ L h' m → News h₀ L h' ((a, baObj #[]) :: g (dictOf es' n')) → Flds es' 13 (fun y => if y = Str.ofString "npduVendorID" then some (.none) else if y = Str.ofString "npduNetMessage" then some (.none) else if y = Str.ofString "npduHopCount" then some (.none) else if y = Str.ofString "npduSADR" then some (.none) else if y = Str.ofString "npduDADR" then some (.none) else if y = Str.ofString "npduControl" then some (.none) else if y = Str.ofString "npduVersion" then some (.int 1 u3) else if y = Str.ofString "pduNetworkPriority" then some (.int 0 u2) else if y = Str.ofString "pduExpectingReply" then some (.int 0 u1) else if y = Str.ofString "pduDestination" then some (.none) else if y = Str.ofString "pduSource" then some (.none) else if y = Str.ofString "pduUserData" then some (.none) else if y = Str.ofString "pduData" then some (.ref a) else none) → R (.ok (.ret .none)) { s with heap := h', toks := tk }) :
    codeG (model PySem.Challenge.rw_bd5008_01.row.toRowW.prog w) (arnd dd uu (env :: outer)) (.call (.ref 394) ⟨[.ref one], []⟩) R s := by
  have NN := ledI_in (ex := []) N h1 U (fun _ h => nomatch h)
  exact C394_0 hC B F X T hf hke hdd huu NN g1 (fun q hq => (restD_mem.mp hq).2)  fun a h' es' n' tk u1 u2 u3 m1 m2 m3 F' N' fl => h a h' _ _ tk u1 u2 u3 (lt_all m1 m2) F' (ledI_out (ex := []) U N') fl
-- C394_5

theorem C394_5 {w : World} {A₀ : Around} {base h₀ : Heap} {outer : List Env} {env : Env} {L : Addr} {m mg mb : Str → Option Value} {s : Shared} {news : List (Addr × Obj)} {p : Program} {loose : List Str} {mean : ExcName → Option Value} {R : Result → Shared → Prop} {dd uu : Nat}
    {one dx C : Nat} {x : Array UInt8} {t0 t3 t4 t5 : Tok} {p1 p2 : Nat} {n3 n4 n5 : Int}
    (hC : C = 453) (B : Below A₀ base outer h₀) (F : Fr h₀ L s.heap m) (X : (MineH.hd.heap_39 w.params).In h₀) (T : Top p loose mean mg mb h₀)
    (hf : env.frame = some L) (hke : env.scope.kind = .function) (hdd : dd + 80 < recursionLimit) (huu : uu + 400 < cLine)
    (N : News h₀ L s.heap ((one, instObj C dx) :: (dx, dictOf [] 0) :: news)) (g1 : dx < one) (g5 : ∀ q ∈ news, q.1 ≠ dx) (hz : x.size ≤ sizeLine)
    (h : ∀ a h' es' n' tk (u3 : Tok), (∀ q ∈ news, q.1 < a) → dx < a → one < a → Fr h₀ L h' m → News h₀ L h' ((one, instObj C dx) :: (dx, dictOf es' n') :: (a, baObj x) :: news) → Flds es' 13 (fun y => if y = Str.ofString "npduVendorID" then some (.none) else if y = Str.ofString "npduNetMessage" then some (.none) else if y = Str.ofString "npduHopCount" then some (.none) else if y = Str.ofString "npduSADR" then some (.none) else if y = Str.ofString "npduDADR" then some (.none) else if y = Str.ofString "npduControl" then some (.none) else if y = Str.ofString "npduVersion" then some (.int 1 u3) else if y = Str.ofString "pduNetworkPriority" then some (.int n5 t5) else if y = Str.ofString "pduExpectingReply" then some (.int n4 t4) else if y = Str.ofString "pduDestination" then some (.ref p2) else if y = Str.ofString "pduSource" then some (.ref p1) else if y = Str.ofString "pduUserData" then some (.int n3 t3) else if y = Str.ofString "pduData" then some (.ref a) else none) → R (.ok (.ret .none)) { s with heap := h', toks := tk }) :
    codeG (model PySem.Challenge.rw_bd5008_01.row.toRowW.prog w) (arnd dd uu (env :: outer)) (.call (.ref 394) ⟨[.ref one, .bytes x t0], [(Str.ofString "source", .ref p1), (Str.ofString "destination", .ref p2), (Str.ofString "user_data", .int n3 t3), (Str.ofString "expectingReply", .int n4 t4), (Str.ofString "networkPriority", .int n5 t5)]⟩) R s := by
  revert X
  k_fill
  intro X
  subst hC
  all_goals
    (refine' enter_bothG ?k1 ?k2 ?k3 ?k4 ?k5 ?kA ?kF ?kK ?k6 ?k7 ?k8 ?kV ?kX ?kQ ?kM ?kN ?kR ?kP ?kS ?kT ?kB ?_ ?c2 ?c3 ?c4 ?c5; (case kA => exact rfl); (case kF => exact hf); (case kK => exact hke); (case k1 => k_asm); (case k2 => k_asm); (case k3 => k_asm); (case k4 => k_asm); (case k5 => k_asm); (case k6 => k_is); (case k7 => k_is); (case k8 => show dd < _; omega); (case kV => kp_lit); (case kX => kp_lit); (case kQ => exact rfl); (case kM => exact rfl); (case kN => exact rfl); (case kR => exact rfl); (case kP => exact rfl); (case kS => exact fun _ => rfl); (case kT => exact fun _ _ => rfl); (case kB => exact fun _ _ => locs rfl); (case c5 => decide); (case c2 => exact rfl); (case c3 => exact rfl); (case c4 => exact rfl); k_whole; intro C' D' g' L' h' tk' tk1' l1 l2 lo' FG' F' N' B' X' T'; (try k_lt l1); (try k_lt2 l2); (simp only [kwEs, List.length_cons, List.length_nil, Nat.zero_add, Nat.reduceAdd] at N'); (try dsimp only); (try k_lift B'); (try k_fold))
    repeat (first | (k_unfold; (try dsimp only)) | walk1 | (dsimp only; walk1) | ((with_reducible show wpG _ _ (exec (Stmt.Assign _ _ _) _) _ _ _); refine wpG_of ?_) | ((with_reducible show wpG _ _ (exec (Stmt.For _ _ _ _ _) _) _ _ _); refine wpG_of ?_))
    refine wpG_Expr (evalG_superSS ?_)
    repeat (first | (k_unfold; (try dsimp only)) | walk1 | (dsimp only; walk1) | ((with_reducible show wpG _ _ (exec (Stmt.Assign _ _ _) _) _ _ _); refine wpG_of ?_) | ((with_reducible show wpG _ _ (exec (Stmt.For _ _ _ _ _) _) _ _ _); refine wpG_of ?_))
    (refine' callG_meth ?N ?m ?_; (case N => k_asm); (case m => k_mem))
    (refine' C344_5_U  ?c ?B ?F ?X ?T ?N ?h1 ?U ?f ?ke ?dd ?uu ?g1 hz ?_; (case B => k_asm); (case F => k_asm); (case X => k_asm); (case T => k_asm); (case N => k_asm); (case h1 => k_mem); (case U => first | k_updF | fail "U"); (case f => exact rfl); (case ke => exact rfl); (case dd => show dd + 1 + _ < _; omega); (case uu => show uu + 3 + _ < _; omega); (case c => first | exact rfl | exact .inl rfl | exact .inr rfl | exact .inr (.inl rfl) | exact .inr (.inr rfl)); (case g1 => assumption))
    intro a5 h5 es5 n5 tk5  l5 F5 N5 fl5
    have m1 : ∀ q ∈ news, q.1 < a5 := fun q hq => l5 q (by repeat (first | exact hq | apply List.Mem.tail))
    have m2 : dx < a5 := l5 (dx, _) (by k_mem)
    have m3 : one < a5 := l5 (one, _) (by k_mem)
    dsimp only
    repeat (first | (k_unfold; (try dsimp only)) | walk1 | (dsimp only; walk1) | ((with_reducible show wpG _ _ (exec (Stmt.Assign _ _ _) _) _ _ _); refine wpG_of ?_) | ((with_reducible show wpG _ _ (exec (Stmt.For _ _ _ _ _) _) _ _ _); refine wpG_of ?_))
    (rename News h₀ L _ _ => kN)
    exact h _ _ _ _ _ _ m1 m2 m3 (by assumption) (fun q hq => kN q (by
      rcases List.mem_cons.mp hq with rfl | hq
      · k_mem
      rcases List.mem_cons.mp hq with rfl | hq
      · k_mem
      rcases List.mem_cons.mp hq with rfl | hq
      · k_mem
      repeat (first | exact hq | apply List.Mem.tail))) (by assumption)

theorem C394_5_U {w : World} {A₀ : Around} {base h₀ : Heap} {outer : List Env} {env : Env} {L : Addr} {m mg mb : Str → Option Value} {s : Shared} {all : List (Addr × Obj)} {g : Obj → List (Addr × Obj)} {p : Program} {loose : List Str} {mean : ExcName → Option Value} {R : Result → Shared → Prop} {dd uu : Nat}
    {one dx C : Nat} {x : Array UInt8} {t0 t3 t4 t5 : Tok} {p1 p2 : Nat} {n3 n4 n5 : Int}
    (hC : C = 453) (B : Below A₀ base outer h₀) (F : Fr h₀ L s.heap m) (X : (MineH.hd.heap_39 w.params).In h₀) (T : Top p loose mean mg mb h₀)
    (N : News h₀ L s.heap all) (h1 : (one, instObj C dx) ∈ all) (U : UpdF dx (dictOf [] 0) all g) (hf : env.frame = some L) (hke : env.scope.kind = .function) (hdd : dd + 80 < recursionLimit) (huu : uu + 400 < cLine) (g1 : dx < one) (hz : x.size ≤ sizeLine)
    (h : ∀ a h' es' n' tk (u3 : Tok), (∀ q ∈ all, q.1 < a) → Fr h₀ L h' m → News h₀ L h' ((a, baObj x) :: g (dictOf es' n')) → Flds es' 13 (fun y => if y = Str.ofString "npduVendorID" then some (.none) else if y = Str.ofString "npduNetMessage" then some (.none) else if y = Str.ofString "npduHopCount" then some (.none) else if y = Str.ofString "npduSADR" then some (.none) else if y = Str.ofString "npduDADR" then some (.none) else if y = Str.ofString "npduControl" then some (.none) else if y = Str.ofString "npduVersion" then some (.int 1 u3) else if y = Str.ofString "pduNetworkPriority" then some (.int n5 t5) else if y = Str.ofString "pduExpectingReply" then some (.int n4 t4) else if y = Str.ofString "pduDestination" then some (.ref p2) else if y = Str.ofString "pduSource" then some (.ref p1) else if y = Str.ofString "pduUserData" then some (.int n3 t3) else if y = Str.ofString "pduData" then some (.ref a) else none) → R (.ok (.ret .none)) { s with heap := h', toks := tk }) :
    codeG (model PySem.Challenge.rw_bd5008_01.row.toRowW.prog w) (arnd dd uu (env :: outer)) (.call (.ref 394) ⟨[.ref one, .bytes x t0], [(Str.ofString "source", .ref p1), (Str.ofString "destination", .ref p2), (Str.ofString "user_data", .int n3 t3), (Str.ofString "expectingReply", .int n4 t4), (Str.ofString "networkPriority", .int n5 t5)]⟩) R s := by
  have NN := ledI_in (ex := []) N h1 U (fun _ h => nomatch h)
  exact C394_5 hC B F X T hf hke hdd huu NN g1 (fun q hq => (restD_mem.mp hq).2) hz fun a h' es' n' tk u3 m1 m2 m3 F' N' fl => h a h' _ _ tk u3 (lt_all m1 m2) F' (ledI_out (ex := []) U N') fl
-- C372_0

theorem C372_0 {w : World} {A₀ : Around} {base h₀ : Heap} {outer : List Env} {env : Env} {L : Addr} {m mg mb : Str → Option Value} {s : Shared} {news : List (Addr × Obj)} {p : Program} {loose : List Str} {mean : ExcName → Option Value} {R : Result → Shared → Prop} {dd uu : Nat}
    {one dx C : Nat} 
    (hC : C = 375) (B : Below A₀ base outer h₀) (F : Fr h₀ L s.heap m) (X : (MineH.hd.heap_39 w.params).In h₀) (T : Top p loose mean mg mb h₀)
    (hf : env.frame = some L) (hke : env.scope.kind = .function) (hdd : dd + 80 < recursionLimit) (huu : uu + 400 < cLine)
    (N : News h₀ L s.heap ((one, instObj C dx) :: (dx, dictOf [] 0) :: news)) (g1 : dx < one) (g5 : ∀ q ∈ news, q.1 ≠ dx) 
    (h : ∀ a h' es' n' tk (u1 u2 : Tok), (∀ q ∈ news, q.1 < a) → dx < a → one < a → Fr h₀ L h' m → News h₀ L h' ((one, instObj C dx) :: (dx, dictOf es' n') :: (a, baObj #[]) :: news) → Flds es' 6 (fun y => if y = Str.ofString "pduNetworkPriority" then some (.int 0 u2) else if y = Str.ofString "pduExpectingReply" then some (.int 0 u1) else if y = Str.ofString "pduDestination" then some (.none) else if y = Str.ofString "pduSource" then some (.none) else if y = Str.ofString "pduUserData" then some (.none) else if y = Str.ofString "pduData" then some (.ref a) else none) → R (.ok (.ret .none)) { s with heap := h', toks := tk }) :
    codeG (model PySem.Challenge.rw_bd5008_01.row.toRowW.prog w) (arnd dd uu (env :: outer)) (.call (.ref 372) ⟨[.ref one], []⟩) R s := by
  revert X
  k_fill
  intro X
  subst hC
  all_goals
    (refine' enter_bothG ?k1 ?k2 ?k3 ?k4 ?k5 ?kA ?kF ?kK ?k6 ?k7 ?k8 ?kV ?kX ?kQ ?kM ?kN ?kR ?kP ?kS ?kT ?kB ?_ ?c2 ?c3 ?c4 ?c5; (case kA => exact rfl); (case kF => exact hf); (case kK => exact hke); (case k1 => k_asm); (case k2 => k_asm); (case k3 => k_asm); (case k4 => k_asm); (case k5 => k_asm); (case k6 => k_is); (case k7 => k_is); (case k8 => show dd < _; omega); (case kV => kp_lit); (case kX => kp_lit); (case kQ => exact rfl); (case kM => exact rfl); (case kN => exact rfl); (case kR => exact rfl); (case kP => exact rfl); (case kS => exact fun _ => rfl); (case kT => exact fun _ _ => rfl); (case kB => exact fun _ _ => locs rfl); (case c5 => decide); (case c2 => exact rfl); (case c3 => exact rfl); (case c4 => exact rfl); k_whole; intro C' D' g' L' h' tk' tk1' l1 l2 lo' FG' F' N' B' X' T'; (try k_lt l1); (try k_lt2 l2); (simp only [kwEs, List.length_cons, List.length_nil, Nat.zero_add, Nat.reduceAdd] at N'); (try dsimp only); (try k_lift B'); (try k_fold))
    repeat (first | (k_unfold; (try dsimp only)) | walk1 | (dsimp only; walk1) | ((with_reducible show wpG _ _ (exec (Stmt.Assign _ _ _) _) _ _ _); refine wpG_of ?_) | ((with_reducible show wpG _ _ (exec (Stmt.For _ _ _ _ _) _) _ _ _); refine wpG_of ?_))
    refine wpG_Expr (evalG_superSS ?_)
    repeat (first | (k_unfold; (try dsimp only)) | walk1 | (dsimp only; walk1) | ((with_reducible show wpG _ _ (exec (Stmt.Assign _ _ _) _) _ _ _); refine wpG_of ?_) | ((with_reducible show wpG _ _ (exec (Stmt.For _ _ _ _ _) _) _ _ _); refine wpG_of ?_))
    (refine' callG_meth ?N ?m ?_; (case N => k_asm); (case m => k_mem))
    (refine' C344_0_U  ?c ?B ?F ?X ?T ?N ?h1 ?U ?f ?ke ?dd ?uu ?g1  ?_; (case B => k_asm); (case F => k_asm); (case X => k_asm); (case T => k_asm); (case N => k_asm); (case h1 => k_mem); (case U => first | k_updF | fail "U"); (case f => exact rfl); (case ke => exact rfl); (case dd => show dd + 1 + _ < _; omega); (case uu => show uu + 3 + _ < _; omega); (case c => first | exact rfl | exact .inl rfl | exact .inr rfl | exact .inr (.inl rfl) | exact .inr (.inr rfl)); (case g1 => assumption))
    intro a5 h5 es5 n5 tk5 v1 v2 l5 F5 N5 fl5
    have m1 : ∀ q ∈ news, q.1 < a5 := fun q hq => l5 q (by repeat (first | exact hq | apply List.Mem.tail))
    have m2 : dx < a5 := l5 (dx, _) (by k_mem)
    have m3 : one < a5 := l5 (one, _) (by k_mem)
    dsimp only
    repeat (first | (k_unfold; (try dsimp only)) | walk1 | (dsimp only; walk1) | ((with_reducible show wpG _ _ (exec (Stmt.Assign _ _ _) _) _ _ _); refine wpG_of ?_) | ((with_reducible show wpG _ _ (exec (Stmt.For _ _ _ _ _) _) _ _ _); refine wpG_of ?_))
    (rename News h₀ L _ _ => kN)
    exact h _ _ _ _ _ _ _ m1 m2 m3 (by assumption) (fun q hq => kN q (by
      rcases List.mem_cons.mp hq with rfl | hq
      · k_mem
      rcases List.mem_cons.mp hq with rfl | hq
      · k_mem
      rcases List.mem_cons.mp hq with rfl | hq
      · k_mem
      repeat (first | exact hq | apply List.Mem.tail))) (by assumption)

theorem C372_0_U {w : World} {A₀ : Around} {base h₀ : Heap} {outer : List Env} {env : Env} {L : Addr} {m mg mb : Str → Option Value} {s : Shared} {all : List (Addr × Obj)} {g : Obj → List (Addr × Obj)} {p : Program} {loose : List Str} {mean : ExcName → Option Value} {R : Result → Shared → Prop} {dd uu : Nat}
    {one dx C : Nat} 
    (hC : C = 375) (B : Below A₀ base outer h₀) (F : Fr h₀ L s.heap m) (X : (MineH.hd.heap_39 w.params).In h₀) (T : Top p loose mean mg mb h₀)
    (N : News h₀ L s.heap all) (h1 : (one, instObj C dx) ∈ all) (U : UpdF dx (dictOf [] 0) all g) (hf : env.frame = some L) (hke : env.scope.kind = .function) (hdd : dd + 80 < recursionLimit) (huu : uu + 400 < cLine) (g1 : dx < one) 
    (h : ∀ a h' es' n' tk (u1 u2 : Tok), (∀ q ∈ all, q.1 < a) → Fr h₀ L h' m → News h₀ L h' ((a, baObj #[]) :: g (dictOf es' n')) → Flds es' 6 (fun y => if y = Str.ofString "pduNetworkPriority" then some (.int 0 u2) else if y = Str.ofString "pduExpectingReply" then some (.int 0 u1) else if y = Str.ofString "pduDestination" then some (.none) else if y = Str.ofString "pduSource" then some (.none) else if y = Str.ofString "pduUserData" then some (.none) else if y = Str.ofString "pduData" then some (.ref a) else none) → R (.ok (.ret .none)) { s with heap := h', toks := tk }) :
    codeG (model PySem.Challenge.rw_bd5008_01.row.toRowW.prog w) (arnd dd uu (env :: outer)) (.call (.ref 372) ⟨[.ref one], []⟩) R s := by
  have NN := ledI_in (ex := []) N h1 U (fun _ h => nomatch h)
  exact C372_0 hC B F X T hf hke hdd huu NN g1 (fun q hq => (restD_mem.mp hq).2)  fun a h' es' n' tk u1 u2 m1 m2 m3 F' N' fl => h a h' _ _ tk u1 u2 (lt_all m1 m2) F' (ledI_out (ex := []) U N') fl
-- C372_5

theorem C372_5 {w : World} {A₀ : Around} {base h₀ : Heap} {outer : List Env} {env : Env} {L : Addr} {m mg mb : Str → Option Value} {s : Shared} {news : List (Addr × Obj)} {p : Program} {loose : List Str} {mean : ExcName → Option Value} {R : Result → Shared → Prop} {dd uu : Nat}
    {one dx C : Nat} {x : Array UInt8} {t0 t3 t4 t5 : Tok} {p1 p2 : Nat} {n3 n4 n5 : Int}
    (hC : C = 375) (B : Below A₀ base outer h₀) (F : Fr h₀ L s.heap m) (X : (MineH.hd.heap_39 w.params).In h₀) (T : Top p loose mean mg mb h₀)
    (hf : env.frame = some L) (hke : env.scope.kind = .function) (hdd : dd + 80 < recursionLimit) (huu : uu + 400 < cLine)
    (N : News h₀ L s.heap ((one, instObj C dx) :: (dx, dictOf [] 0) :: news)) (g1 : dx < one) (g5 : ∀ q ∈ news, q.1 ≠ dx) (hz : x.size ≤ sizeLine)
    (h : ∀ a h' es' n' tk, (∀ q ∈ news, q.1 < a) → dx < a → one < a → Fr h₀ L h' m → News h₀ L h' ((one, instObj C dx) :: (dx, dictOf es' n') :: (a, baObj x) :: news) → Flds es' 6 (fun y => if y = Str.ofString "pduNetworkPriority" then some (.int n5 t5) else if y = Str.ofString "pduExpectingReply" then some (.int n4 t4) else if y = Str.ofString "pduDestination" then some (.ref p2) else if y = Str.ofString "pduSource" then some (.ref p1) else if y = Str.ofString "pduUserData" then some (.int n3 t3) else if y = Str.ofString "pduData" then some (.ref a) else none) → R (.ok (.ret .none)) { s with heap := h', toks := tk }) :
    codeG (model PySem.Challenge.rw_bd5008_01.row.toRowW.prog w) (arnd dd uu (env :: outer)) (.call (.ref 372) ⟨[.ref one, .bytes x t0], [(Str.ofString "source", .ref p1), (Str.ofString "destination", .ref p2), (Str.ofString "user_data", .int n3 t3), (Str.ofString "expectingReply", .int n4 t4), (Str.ofString "networkPriority", .int n5 t5)]⟩) R s := by
  revert X
  k_fill
  intro X
  subst hC
  all_goals
    (refine' enter_bothG ?k1 ?k2 ?k3 ?k4 ?k5 ?kA ?kF ?kK ?k6 ?k7 ?k8 ?kV ?kX ?kQ ?kM ?kN ?kR ?kP ?kS ?kT ?kB ?_ ?c2 ?c3 ?c4 ?c5; (case kA => exact rfl); (case kF => exact hf); (case kK => exact hke); (case k1 => k_asm); (case k2 => k_asm); (case k3 => k_asm); (case k4 => k_asm); (case k5 => k_asm); (case k6 => k_is); (case k7 => k_is); (case k8 => show dd < _; omega); (case kV => kp_lit); (case kX => kp_lit); (case kQ => exact rfl); (case kM => exact rfl); (case kN => exact rfl); (case kR => exact rfl); (case kP => exact rfl); (case kS => exact fun _ => rfl); (case kT => exact fun _ _ => rfl); (case kB => exact fun _ _ => locs rfl); (case c5 => decide); (case c2 => exact rfl); (case c3 => exact rfl); (case c4 => exact rfl); k_whole; intro C' D' g' L' h' tk' tk1' l1 l2 lo' FG' F' N' B' X' T'; (try k_lt l1); (try k_lt2 l2); (simp only [kwEs, List.length_cons, List.length_nil, Nat.zero_add, Nat.reduceAdd] at N'); (try dsimp only); (try k_lift B'); (try k_fold))
    repeat (first | (k_unfold; (try dsimp only)) | walk1 | (dsimp only; walk1) | ((with_reducible show wpG _ _ (exec (Stmt.Assign _ _ _) _) _ _ _); refine wpG_of ?_) | ((with_reducible show wpG _ _ (exec (Stmt.For _ _ _ _ _) _) _ _ _); refine wpG_of ?_))
    refine wpG_Expr (evalG_superSS ?_)
    repeat (first | (k_unfold; (try dsimp only)) | walk1 | (dsimp only; walk1) | ((with_reducible show wpG _ _ (exec (Stmt.Assign _ _ _) _) _ _ _); refine wpG_of ?_) | ((with_reducible show wpG _ _ (exec (Stmt.For _ _ _ _ _) _) _ _ _); refine wpG_of ?_))
    (refine' callG_meth ?N ?m ?_; (case N => k_asm); (case m => k_mem))
    (refine' C344_5_U  ?c ?B ?F ?X ?T ?N ?h1 ?U ?f ?ke ?dd ?uu ?g1 hz ?_; (case B => k_asm); (case F => k_asm); (case X => k_asm); (case T => k_asm); (case N => k_asm); (case h1 => k_mem); (case U => first | k_updF | fail "U"); (case f => exact rfl); (case ke => exact rfl); (case dd => show dd + 1 + _ < _; omega); (case uu => show uu + 3 + _ < _; omega); (case c => first | exact rfl | exact .inl rfl | exact .inr rfl | exact .inr (.inl rfl) | exact .inr (.inr rfl)); (case g1 => assumption))
    intro a5 h5 es5 n5 tk5  l5 F5 N5 fl5
    have m1 : ∀ q ∈ news, q.1 < a5 := fun q hq => l5 q (by repeat (first | exact hq | apply List.Mem.tail))
    have m2 : dx < a5 := l5 (dx, _) (by k_mem)
    have m3 : one < a5 := l5 (one, _) (by k_mem)
    dsimp only
    repeat (first | (k_unfold; (try dsimp only)) | walk1 | (dsimp only; walk1) | ((with_reducible show wpG _ _ (exec (Stmt.Assign _ _ _) _) _ _ _); refine wpG_of ?_) | ((with_reducible show wpG _ _ (exec (Stmt.For _ _ _ _ _) _) _ _ _); refine wpG_of ?_))
    (rename News h₀ L _ _ => kN)
    exact h _ _ _ _ _ m1 m2 m3 (by assumption) (fun q hq => kN q (by
      rcases List.mem_cons.mp hq with rfl | hq
      · k_mem
      rcases List.mem_cons.mp hq with rfl | hq
      · k_mem
      rcases List.mem_cons.mp hq with rfl | hq
      · k_mem
      repeat (first | exact hq | apply List.Mem.tail))) (by assumption)

theorem C372_5_U {w : World} {A₀ : Around} {base h₀ : Heap} {outer : List Env} {env : Env} {L : Addr} {m mg mb : Str → Option Value} {s : Shared} {all : List (Addr × Obj)} {g : Obj → List (Addr × Obj)} {p : Program} {loose : List Str} {mean : ExcName → Option Value} {R : Result → Shared → Prop} {dd uu : Nat}
    {one dx C : Nat} {x : Array UInt8} {t0 t3 t4 t5 : Tok} {p1 p2 : Nat} {n3 n4 n5 : Int}
    (hC : C = 375) (B : Below A₀ base outer h₀) (F : Fr h₀ L s.heap m) (X : (MineH.hd.heap_39 w.params).In h₀) (T : Top p loose mean mg mb h₀)
    (N : News h₀ L s.heap all) (h1 : (one, instObj C dx) ∈ all) (U : UpdF dx (dictOf [] 0) all g) (hf : env.frame = some L) (hke : env.scope.kind = .function) (hdd : dd + 80 < recursionLimit) (huu : uu + 400 < cLine) (g1 : dx < one) (hz : x.size ≤ sizeLine)
    (h : ∀ a h' es' n' tk, (∀ q ∈ all, q.1 < a) → Fr h₀ L h' m → News h₀ L h' ((a, baObj x) :: g (dictOf es' n')) → Flds es' 6 (fun y => if y = Str.ofString "pduNetworkPriority" then some (.int n5 t5) else if y = Str.ofString "pduExpectingReply" then some (.int n4 t4) else if y = Str.ofString "pduDestination" then some (.ref p2) else if y = Str.ofString "pduSource" then some (.ref p1) else if y = Str.ofString "pduUserData" then some (.int n3 t3) else if y = Str.ofString "pduData" then some (.ref a) else none) → R (.ok (.ret .none)) { s with heap := h', toks := tk }) :
    codeG (model PySem.Challenge.rw_bd5008_01.row.toRowW.prog w) (arnd dd uu (env :: outer)) (.call (.ref 372) ⟨[.ref one, .bytes x t0], [(Str.ofString "source", .ref p1), (Str.ofString "destination", .ref p2), (Str.ofString "user_data", .int n3 t3), (Str.ofString "expectingReply", .int n4 t4), (Str.ofString "networkPriority", .int n5 t5)]⟩) R s := by
  have NN := ledI_in (ex := []) N h1 U (fun _ h => nomatch h)
  exact C372_5 hC B F X T hf hke hdd huu NN g1 (fun q hq => (restD_mem.mp hq).2) hz fun a h' es' n' tk  m1 m2 m3 F' N' fl => h a h' _ _ tk  (lt_all m1 m2) F' (ledI_out (ex := []) U N') fl
-- C436_0

theorem C436_0 {w : World} {A₀ : Around} {base h₀ : Heap} {outer : List Env} {env : Env} {L : Addr} {m mg mb : Str → Option Value} {s : Shared} {news : List (Addr × Obj)} {p : Program} {loose : List Str} {mean : ExcName → Option Value} {R : Result → Shared → Prop} {dd uu : Nat}
    {one dx C : Nat} 
    (hC : C = 453) (B : Below A₀ base outer h₀) (F : Fr h₀ L s.heap m) (X : (MineH.hd.heap_39 w.params).In h₀) (T : Top p loose mean mg mb h₀)
    (hf : env.frame = some L) (hke : env.scope.kind = .function) (hdd : dd + 100 < recursionLimit) (huu : uu + 500 < cLine)
    (N : News h₀ L s.heap ((one, instObj C dx) :: (dx, dictOf [] 0) :: news)) (g1 : dx < one) (g5 : ∀ q ∈ news, q.1 ≠ dx) 
    (h : ∀ a h' es' n' tk (u1 u2 u3 : Tok), (∀ q ∈ news, q.1 < a) → dx < a → one < a → Fr h₀ L h' m → News h₀ L h' ((one, instObj C dx) :: (dx, dictOf es' n') :: (a, baObj #[]) :: news) → Flds es' 13 (fun y => if y = Str.ofString "npduVendorID" then some (.none) else if y = Str.ofString "npduNetMessage" then some (.none) else if y = Str.ofString "npduHopCount" then some (.none) else if y = Str.ofString "npduSADR" then some (.none) else if y = Str.ofString "npduDADR" then some (.none) else if y = Str.ofString "npduControl" then some (.none) else if y = Str.ofString "npduVersion" then some (.int 1 u3) else if y = Str.ofString "pduNetworkPriority" then some (.int 0 u2) else if y = Str.ofString "pduExpectingReply" then some (.int 0 u1) else if y = Str.ofString "pduDestination" then some (.none) else if y = Str.ofString "pduSource" then some (.none) else if y = Str.ofString "pduUserData" then some (.none) else if y = Str.ofString "pduData" then some (.ref a) else none) → R (.ok (.ret .none)) { s with heap := h', toks := tk }) :
    codeG (model PySem.Challenge.rw_bd5008_01.row.toRowW.prog w) (arnd dd uu (env :: outer)) (.call (.ref 436) ⟨[.ref one], []⟩) R s := by
  revert X
  k_fill
  intro X
  subst hC
  all_goals
    (refine' enter_bothG ?k1 ?k2 ?k3 ?k4 ?k5 ?kA ?kF ?kK ?k6 ?k7 ?k8 ?kV ?kX ?kQ ?kM ?kN ?kR ?kP ?kS ?kT ?kB ?_ ?c2 ?c3 ?c4 ?c5; (case kA => exact rfl); (case kF => exact hf); (case kK => exact hke); (case k1 => k_asm); (case k2 => k_asm); (case k3 => k_asm); (case k4 => k_asm); (case k5 => k_asm); (case k6 => k_is); (case k7 => k_is); (case k8 => show dd < _; omega); (case kV => kp_lit); (case kX => kp_lit); (case kQ => exact rfl); (case kM => exact rfl); (case kN => exact rfl); (case kR => exact rfl); (case kP => exact rfl); (case kS => exact fun _ => rfl); (case kT => exact fun _ _ => rfl); (case kB => exact fun _ _ => locs rfl); (case c5 => decide); (case c2 => exact rfl); (case c3 => exact rfl); (case c4 => exact rfl); k_whole; intro C' D' g' L' h' tk' tk1' l1 l2 lo' FG' F' N' B' X' T'; (try k_lt l1); (try k_lt2 l2); (simp only [kwEs, List.length_cons, List.length_nil, Nat.zero_add, Nat.reduceAdd] at N'); (try dsimp only); (try k_lift B'); (try k_fold))
    repeat (first | (k_unfold; (try dsimp only)) | walk1 | (dsimp only; walk1) | ((with_reducible show wpG _ _ (exec (Stmt.Assign _ _ _) _) _ _ _); refine wpG_of ?_) | ((with_reducible show wpG _ _ (exec (Stmt.For _ _ _ _ _) _) _ _ _); refine wpG_of ?_))
    refine wpG_Expr (evalG_superSS ?_)
    repeat (first | (k_unfold; (try dsimp only)) | walk1 | (dsimp only; walk1) | ((with_reducible show wpG _ _ (exec (Stmt.Assign _ _ _) _) _ _ _); refine wpG_of ?_) | ((with_reducible show wpG _ _ (exec (Stmt.For _ _ _ _ _) _) _ _ _); refine wpG_of ?_))
    (refine' callG_meth ?N ?m ?_; (case N => k_asm); (case m => k_mem))
    (refine' C394_0_U  ?c ?B ?F ?X ?T ?N ?h1 ?U ?f ?ke ?dd ?uu ?g1  ?_; (case B => k_asm); (case F => k_asm); (case X => k_asm); (case T => k_asm); (case N => k_asm); (case h1 => k_mem); (case U => first | k_updF | fail "U"); (case f => exact rfl); (case ke => exact rfl); (case dd => show dd + 1 + _ < _; omega); (case uu => show uu + 3 + _ < _; omega); (case c => first | exact rfl | exact .inl rfl | exact .inr rfl | exact .inr (.inl rfl) | exact .inr (.inr rfl)); (case g1 => assumption))
    intro a5 h5 es5 n5 tk5 v1 v2 v3 l5 F5 N5 fl5
    have m1 : ∀ q ∈ news, q.1 < a5 := fun q hq => l5 q (by repeat (first | exact hq | apply List.Mem.tail))
    have m2 : dx < a5 := l5 (dx, _) (by k_mem)
    have m3 : one < a5 := l5 (one, _) (by k_mem)
    dsimp only
    repeat (first | (k_unfold; (try dsimp only)) | walk1 | (dsimp only; walk1) | ((with_reducible show wpG _ _ (exec (Stmt.Assign _ _ _) _) _ _ _); refine wpG_of ?_) | ((with_reducible show wpG _ _ (exec (Stmt.For _ _ _ _ _) _) _ _ _); refine wpG_of ?_))
    (rename News h₀ L _ _ => kN)
    exact h _ _ _ _ _ _ _ _ m1 m2 m3 (by assumption) (fun q hq => kN q (by
      rcases List.mem_cons.mp hq with rfl | hq
      · k_mem
      rcases List.mem_cons.mp hq with rfl | hq
      · k_mem
      rcases List.mem_cons.mp hq with rfl | hq
      · k_mem
      repeat (first | exact hq | apply List.Mem.tail))) (by assumption)

theorem C436_0_U {w : World} {A₀ : Around} {base h₀ : Heap} {outer : List Env} {env : Env} {L : Addr} {m mg mb : Str → Option Value} {s : Shared} {all : List (Addr × Obj)} {g : Obj → List (Addr × Obj)} {p : Program} {loose : List Str} {mean : ExcName → Option Value} {R : Result → Shared → Prop} {dd uu : Nat}
    {one dx C : Nat} 
    (hC : C = 453) (B : Below A₀ base outer h₀) (F : Fr h₀ L s.heap m) (X : (MineH.hd.heap_39 w.params).In h₀) (T : Top p loose mean mg mb h₀)
    (N : News h₀ L s.heap all) (h1 : (one, instObj C dx) ∈ all) (U : UpdF dx (dictOf [] 0) all g) (hf : env.frame = some L) (hke : env.scope.kind = .function) (hdd : dd + 100 < recursionLimit) (huu : uu + 500 < cLine) (g1 : dx < one) 
    (h : ∀ a h' es' n' tk (u1 u2 u3 : Tok), (∀ q ∈ all, q.1 < a) → Fr h₀ L h' m → News h₀ L h' ((a, baObj #[]) :: g (dictOf es' n')) → Flds es' 13 (fun y => if y = Str.ofString "npduVendorID" then some (.none) else if y = Str.ofString "npduNetMessage" then some (.none) else if y = Str.ofString "npduHopCount" then some (.none) else if y = Str.ofString "npduSADR" then some (.none) else if y = Str.ofString "npduDADR" then some (.none) else if y = Str.ofString "npduControl" then some (.none) else if y = Str.ofString "npduVersion" then some (.int 1 u3) else if y = Str.ofString "pduNetworkPriority" then some (.int 0 u2) else if y = Str.ofString "pduExpectingReply" then some (.int 0 u1) else if y = Str.ofString "pduDestination" then some (.none) else if y = Str.ofString "pduSource" then some (.none) else if y = Str.ofString "pduUserData" then some (.none) else if y = Str.ofString "pduData" then some (.ref a) else none) → R (.ok (.ret .none)) { s with heap := h', toks := tk }) :
    codeG (model PySem.Challenge.rw_bd5008_01.row.toRowW.prog w) (arnd dd uu (env :: outer)) (.call (.ref 436) ⟨[.ref one], []⟩) R s := by
  have NN := ledI_in (ex := []) N h1 U (fun _ h => nomatch h)
  exact C436_0 hC B F X T hf hke hdd huu NN g1 (fun q hq => (restD_mem.mp hq).2)  fun a h' es' n' tk u1 u2 u3 m1 m2 m3 F' N' fl => h a h' _ _ tk u1 u2 u3 (lt_all m1 m2) F' (ledI_out (ex := []) U N') fl
-- C436_5

theorem C436_5 {w : World} {A₀ : Around} {base h₀ : Heap} {outer : List Env} {env : Env} {L : Addr} {m mg mb : Str → Option Value} {s : Shared} {news : List (Addr × Obj)} {p : Program} {loose : List Str} {mean : ExcName → Option Value} {R : Result → Shared → Prop} {dd uu : Nat}
    {one dx C : Nat} {x : Array UInt8} {t0 t3 t4 t5 : Tok} {p1 p2 : Nat} {n3 n4 n5 : Int}
    (hC : C = 453) (B : Below A₀ base outer h₀) (F : Fr h₀ L s.heap m) (X : (MineH.hd.heap_39 w.params).In h₀) (T : Top p loose mean mg mb h₀)
    (hf : env.frame = some L) (hke : env.scope.kind = .function) (hdd : dd + 100 < recursionLimit) (huu : uu + 500 < cLine)
    (N : News h₀ L s.heap ((one, instObj C dx) :: (dx, dictOf [] 0) :: news)) (g1 : dx < one) (g5 : ∀ q ∈ news, q.1 ≠ dx) (hz : x.size ≤ sizeLine)
    (h : ∀ a h' es' n' tk (u3 : Tok), (∀ q ∈ news, q.1 < a) → dx < a → one < a → Fr h₀ L h' m → News h₀ L h' ((one, instObj C dx) :: (dx, dictOf es' n') :: (a, baObj x) :: news) → Flds es' 13 (fun y => if y = Str.ofString "npduVendorID" then some (.none) else if y = Str.ofString "npduNetMessage" then some (.none) else if y = Str.ofString "npduHopCount" then some (.none) else if y = Str.ofString "npduSADR" then some (.none) else if y = Str.ofString "npduDADR" then some (.none) else if y = Str.ofString "npduControl" then some (.none) else if y = Str.ofString "npduVersion" then some (.int 1 u3) else if y = Str.ofString "pduNetworkPriority" then some (.int n5 t5) else if y = Str.ofString "pduExpectingReply" then some (.int n4 t4) else if y = Str.ofString "pduDestination" then some (.ref p2) else if y = Str.ofString "pduSource" then some (.ref p1) else if y = Str.ofString "pduUserData" then some (.int n3 t3) else if y = Str.ofString "pduData" then some (.ref a) else none) → R (.ok (.ret .none)) { s with heap := h', toks := tk }) :
    codeG (model PySem.Challenge.rw_bd5008_01.row.toRowW.prog w) (arnd dd uu (env :: outer)) (.call (.ref 436) ⟨[.ref one, .bytes x t0], [(Str.ofString "source", .ref p1), (Str.ofString "destination", .ref p2), (Str.ofString "user_data", .int n3 t3), (Str.ofString "expectingReply", .int n4 t4), (Str.ofString "networkPriority", .int n5 t5)]⟩) R s := by
  revert X
  k_fill
  intro X
  subst hC
  all_goals
    (refine' enter_bothG ?k1 ?k2 ?k3 ?k4 ?k5 ?kA ?kF ?kK ?k6 ?k7 ?k8 ?kV ?kX ?kQ ?kM ?kN ?kR ?kP ?kS ?kT ?kB ?_ ?c2 ?c3 ?c4 ?c5; (case kA => exact rfl); (case kF => exact hf); (case kK => exact hke); (case k1 => k_asm); (case k2 => k_asm); (case k3 => k_asm); (case k4 => k_asm); (case k5 => k_asm); (case k6 => k_is); (case k7 => k_is); (case k8 => show dd < _; omega); (case kV => kp_lit); (case kX => kp_lit); (case kQ => exact rfl); (case kM => exact rfl); (case kN => exact rfl); (case kR => exact rfl); (case kP => exact rfl); (case kS => exact fun _ => rfl); (case kT => exact fun _ _ => rfl); (case kB => exact fun _ _ => locs rfl); (case c5 => decide); (case c2 => exact rfl); (case c3 => exact rfl); (case c4 => exact rfl); k_whole; intro C' D' g' L' h' tk' tk1' l1 l2 lo' FG' F' N' B' X' T'; (try k_lt l1); (try k_lt2 l2); (simp only [kwEs, List.length_cons, List.length_nil, Nat.zero_add, Nat.reduceAdd] at N'); (try dsimp only); (try k_lift B'); (try k_fold))
    repeat (first | (k_unfold; (try dsimp only)) | walk1 | (dsimp only; walk1) | ((with_reducible show wpG _ _ (exec (Stmt.Assign _ _ _) _) _ _ _); refine wpG_of ?_) | ((with_reducible show wpG _ _ (exec (Stmt.For _ _ _ _ _) _) _ _ _); refine wpG_of ?_))
    refine wpG_Expr (evalG_superSS ?_)
    repeat (first | (k_unfold; (try dsimp only)) | walk1 | (dsimp only; walk1) | ((with_reducible show wpG _ _ (exec (Stmt.Assign _ _ _) _) _ _ _); refine wpG_of ?_) | ((with_reducible show wpG _ _ (exec (Stmt.For _ _ _ _ _) _) _ _ _); refine wpG_of ?_))
    (refine' callG_meth ?N ?m ?_; (case N => k_asm); (case m => k_mem))
    (refine' C394_5_U  ?c ?B ?F ?X ?T ?N ?h1 ?U ?f ?ke ?dd ?uu ?g1 hz ?_; (case B => k_asm); (case F => k_asm); (case X => k_asm); (case T => k_asm); (case N => k_asm); (case h1 => k_mem); (case U => first | k_updF | fail "U"); (case f => exact rfl); (case ke => exact rfl); (case dd => show dd + 1 + _ < _; omega); (case uu => show uu + 3 + _ < _; omega); (case c => first | exact rfl | exact .inl rfl | exact .inr rfl | exact .inr (.inl rfl) | exact .inr (.inr rfl)); (case g1 => assumption))
    intro a5 h5 es5 n5 tk5 v3 l5 F5 N5 fl5
    have m1 : ∀ q ∈ news, q.1 < a5 := fun q hq => l5 q (by repeat (first | exact hq | apply List.Mem.tail))
    have m2 : dx < a5 := l5 (dx, _) (by k_mem)
    have m3 : one < a5 := l5 (one, _) (by k_mem)
    dsimp only
    repeat (first | (k_unfold; (try dsimp only)) | walk1 | (dsimp only; walk1) | ((with_reducible show wpG _ _ (exec (Stmt.Assign _ _ _) _) _ _ _); refine wpG_of ?_) | ((with_reducible show wpG _ _ (exec (Stmt.For _ _ _ _ _) _) _ _ _); refine wpG_of ?_))
    (rename News h₀ L _ _ => kN)
    exact h _ _ _ _ _ _ m1 m2 m3 (by assumption) (fun q hq => kN q (by
      rcases List.mem_cons.mp hq with rfl | hq
      · k_mem
      rcases List.mem_cons.mp hq with rfl | hq
      · k_mem
      rcases List.mem_cons.mp hq with rfl | hq
      · k_mem
      repeat (first | exact hq | apply List.Mem.tail))) (by assumption)

theorem C436_5_U {w : World} {A₀ : Around} {base h₀ : Heap} {outer : List Env} {env : Env} {L : Addr} {m mg mb : Str → Option Value} {s : Shared} {all : List (Addr × Obj)} {g : Obj → List (Addr × Obj)} {p : Program} {loose : List Str} {mean : ExcName → Option Value} {R : Result → Shared → Prop} {dd uu : Nat}
    {one dx C : Nat} {x : Array UInt8} {t0 t3 t4 t5 : Tok} {p1 p2 : Nat} {n3 n4 n5 : Int}
    (hC : C = 453) (B : Below A₀ base outer h₀) (F : Fr h₀ L s.heap m) (X : (MineH.hd.heap_39 w.params).In h₀) (T : Top p loose mean mg mb h₀)
    (N : News h₀ L s.heap all) (h1 : (one, instObj C dx) ∈ all) (U : UpdF dx (dictOf [] 0) all g) (hf : env.frame = some L) (hke : env.scope.kind = .function) (hdd : dd + 100 < recursionLimit) (huu : uu + 500 < cLine) (g1 : dx < one) (hz : x.size ≤ sizeLine)
    (h : ∀ a h' es' n' tk (u3 : Tok), (∀ q ∈ all, q.1 < a) → Fr h₀ L h' m → News h₀ L h' ((a, baObj x) :: g (dictOf es' n')) → Flds es' 13 (fun y => if y = Str.ofString "npduVendorID" then some (.none) else if y = Str.ofString "npduNetMessage" then some (.none) else if y = Str.ofString "npduHopCount" then some (.none) else if y = Str.ofString "npduSADR" then some (.none) else if y = Str.ofString "npduDADR" then some (.none) else if y = Str.ofString "npduControl" then some (.none) else if y = Str.ofString "npduVersion" then some (.int 1 u3) else if y = Str.ofString "pduNetworkPriority" then some (.int n5 t5) else if y = Str.ofString "pduExpectingReply" then some (.int n4 t4) else if y = Str.ofString "pduDestination" then some (.ref p2) else if y = Str.ofString "pduSource" then some (.ref p1) else if y = Str.ofString "pduUserData" then some (.int n3 t3) else if y = Str.ofString "pduData" then some (.ref a) else none) → R (.ok (.ret .none)) { s with heap := h', toks := tk }) :
    codeG (model PySem.Challenge.rw_bd5008_01.row.toRowW.prog w) (arnd dd uu (env :: outer)) (.call (.ref 436) ⟨[.ref one, .bytes x t0], [(Str.ofString "source", .ref p1), (Str.ofString "destination", .ref p2), (Str.ofString "user_data", .int n3 t3), (Str.ofString "expectingReply", .int n4 t4), (Str.ofString "networkPriority", .int n5 t5)]⟩) R s := by
  have NN := ledI_in (ex := []) N h1 U (fun _ h => nomatch h)
  exact C436_5 hC B F X T hf hke hdd huu NN g1 (fun q hq => (restD_mem.mp hq).2) hz fun a h' es' n' tk u3 m1 m2 m3 F' N' fl => h a h' _ _ tk u3 (lt_all m1 m2) F' (ledI_out (ex := []) U N') fl
end

end Mine
end

-- E1
set_option maxHeartbeats 8000000
namespace Mine
open PySem PySem.W PySem.Calls PyProof.Rows

theorem mkPDU0 {w : World} {A₀ : Around} {base h₀ : Heap} {outer : List Env} {env : Env} {L : Addr} {m mg mb : Str → Option Value} {s : Shared} {all : List (Addr × Obj)} {p : Program} {loose : List Str} {mean : ExcName → Option Value} {R : Result → Shared → Prop} {dd uu : Nat} 
    (B : Below A₀ base outer h₀) (F : Fr h₀ L s.heap m) (X : (MineH.hd.heap_39 w.params).In h₀) (T : Top p loose mean mg mb h₀)
    (N : News h₀ L s.heap all) (hf : env.frame = some L) (hke : env.scope.kind = .function) (hdd : dd + 120 < recursionLimit) (huu : uu + 500 < cLine) 
    (h : ∀ (x dx a : Nat) h' es' n' tk (u1 u2 : Tok), (∀ q ∈ all, q.1 < dx) → @LT.lt Nat _ dx x → @LT.lt Nat _ x a → Fr h₀ L h' m → News h₀ L h' ((a, baObj #[]) :: (x, instObj 375 dx) :: (dx, dictOf es' n') :: all) → Flds es' 6 (fun y => if y = Str.ofString "pduNetworkPriority" then some (.int 0 u2) else if y = Str.ofString "pduExpectingReply" then some (.int 0 u1) else if y = Str.ofString "pduDestination" then some (.none) else if y = Str.ofString "pduSource" then some (.none) else if y = Str.ofString "pduUserData" then some (.none) else if y = Str.ofString "pduData" then some (.ref a) else none) → R (.ok (.ret (.ref x))) { s with heap := h', toks := tk }) :
    codeG (model PySem.Challenge.rw_bd5008_01.row.toRowW.prog w) (arnd dd uu (env :: outer)) (.call (.ref 375) ⟨[], []⟩) R s := by
  revert X
  k_fill
  intro X
  refine make_KG (K := MineH.hd.heap_39 w.params) F N (X.keeps F.keep) (by k_is) (by k_is) (by k_is) fun x dx h1 F1 N1 l1 l2 => ?_
  have U : UpdF dx (dictOf [] 0) ((x, instObj 375 dx) :: (dx, dictOf [] 0) :: all) _ := UpdF.tail (Nat.ne_of_gt l2) (UpdF.head fun q hq => Nat.ne_of_lt (l1 q hq))
  refine C372_0_U rfl B F1 X T N1 (.head _) U hf hke (show dd + 1 + _ < _ by omega) (show uu + 1 + _ < _ by omega) l2  fun a h' es' n' tk u1 u2 m1 F' N' fl => ?_
  exact ⟨rfl, h x dx a h' es' n' tk u1 u2 l1 l2 (m1 _ (.head _)) F' N' fl⟩

theorem mkPDU5 {w : World} {A₀ : Around} {base h₀ : Heap} {outer : List Env} {env : Env} {L : Addr} {m mg mb : Str → Option Value} {s : Shared} {all : List (Addr × Obj)} {p : Program} {loose : List Str} {mean : ExcName → Option Value} {R : Result → Shared → Prop} {dd uu : Nat} {x0 : Array UInt8} {t0 t3 t4 t5 : Tok} {p1 p2 : Nat} {n3 n4 n5 : Int}
    (B : Below A₀ base outer h₀) (F : Fr h₀ L s.heap m) (X : (MineH.hd.heap_39 w.params).In h₀) (T : Top p loose mean mg mb h₀)
    (N : News h₀ L s.heap all) (hf : env.frame = some L) (hke : env.scope.kind = .function) (hdd : dd + 120 < recursionLimit) (huu : uu + 500 < cLine) (hz : x0.size ≤ sizeLine)
    (h : ∀ (x dx a : Nat) h' es' n' tk, (∀ q ∈ all, q.1 < dx) → @LT.lt Nat _ dx x → @LT.lt Nat _ x a → Fr h₀ L h' m → News h₀ L h' ((a, baObj x0) :: (x, instObj 375 dx) :: (dx, dictOf es' n') :: all) → Flds es' 6 (fun y => if y = Str.ofString "pduNetworkPriority" then some (.int n5 t5) else if y = Str.ofString "pduExpectingReply" then some (.int n4 t4) else if y = Str.ofString "pduDestination" then some (.ref p2) else if y = Str.ofString "pduSource" then some (.ref p1) else if y = Str.ofString "pduUserData" then some (.int n3 t3) else if y = Str.ofString "pduData" then some (.ref a) else none) → R (.ok (.ret (.ref x))) { s with heap := h', toks := tk }) :
    codeG (model PySem.Challenge.rw_bd5008_01.row.toRowW.prog w) (arnd dd uu (env :: outer)) (.call (.ref 375) ⟨[.bytes x0 t0], [(Str.ofString "source", .ref p1), (Str.ofString "destination", .ref p2), (Str.ofString "user_data", .int n3 t3), (Str.ofString "expectingReply", .int n4 t4), (Str.ofString "networkPriority", .int n5 t5)]⟩) R s := by
  revert X
  k_fill
  intro X
  refine make_KG (K := MineH.hd.heap_39 w.params) F N (X.keeps F.keep) (by k_is) (by k_is) (by k_is) fun x dx h1 F1 N1 l1 l2 => ?_
  have U : UpdF dx (dictOf [] 0) ((x, instObj 375 dx) :: (dx, dictOf [] 0) :: all) _ := UpdF.tail (Nat.ne_of_gt l2) (UpdF.head fun q hq => Nat.ne_of_lt (l1 q hq))
  refine C372_5_U rfl B F1 X T N1 (.head _) U hf hke (show dd + 1 + _ < _ by omega) (show uu + 1 + _ < _ by omega) l2 hz fun a h' es' n' tk  m1 F' N' fl => ?_
  exact ⟨rfl, h x dx a h' es' n' tk  l1 l2 (m1 _ (.head _)) F' N' fl⟩

theorem mkNPDU0 {w : World} {A₀ : Around} {base h₀ : Heap} {outer : List Env} {env : Env} {L : Addr} {m mg mb : Str → Option Value} {s : Shared} {all : List (Addr × Obj)} {p : Program} {loose : List Str} {mean : ExcName → Option Value} {R : Result → Shared → Prop} {dd uu : Nat} 
    (B : Below A₀ base outer h₀) (F : Fr h₀ L s.heap m) (X : (MineH.hd.heap_39 w.params).In h₀) (T : Top p loose mean mg mb h₀)
    (N : News h₀ L s.heap all) (hf : env.frame = some L) (hke : env.scope.kind = .function) (hdd : dd + 140 < recursionLimit) (huu : uu + 600 < cLine) 
    (h : ∀ (x dx a : Nat) h' es' n' tk (u1 u2 u3 : Tok), (∀ q ∈ all, q.1 < dx) → @LT.lt Nat _ dx x → @LT.lt Nat _ x a → Fr h₀ L h' m → News h₀ L h' ((a, baObj #[]) :: (x, instObj 453 dx) :: (dx, dictOf es' n') :: all) → Flds es' 13 (fun y => if y = Str.ofString "npduVendorID" then some (.none) else if y = Str.ofString "npduNetMessage" then some (.none) else if y = Str.ofString "npduHopCount" then some (.none) else if y = Str.ofString "npduSADR" then some (.none) else if y = Str.ofString "npduDADR" then some (.none) else if y = Str.ofString "npduControl" then some (.none) else if y = Str.ofString "npduVersion" then some (.int 1 u3) else if y = Str.ofString "pduNetworkPriority" then some (.int 0 u2) else if y = Str.ofString "pduExpectingReply" then some (.int 0 u1) else if y = Str.ofString "pduDestination" then some (.none) else if y = Str.ofString "pduSource" then some (.none) else if y = Str.ofString "pduUserData" then some (.none) else if y = Str.ofString "pduData" then some (.ref a) else none) → R (.ok (.ret (.ref x))) { s with heap := h', toks := tk }) :
    codeG (model PySem.Challenge.rw_bd5008_01.row.toRowW.prog w) (arnd dd uu (env :: outer)) (.call (.ref 453) ⟨[], []⟩) R s := by
  revert X
  k_fill
  intro X
  refine make_KG (K := MineH.hd.heap_39 w.params) F N (X.keeps F.keep) (by k_is) (by k_is) (by k_is) fun x dx h1 F1 N1 l1 l2 => ?_
  have U : UpdF dx (dictOf [] 0) ((x, instObj 453 dx) :: (dx, dictOf [] 0) :: all) _ := UpdF.tail (Nat.ne_of_gt l2) (UpdF.head fun q hq => Nat.ne_of_lt (l1 q hq))
  refine C436_0_U rfl B F1 X T N1 (.head _) U hf hke (show dd + 1 + _ < _ by omega) (show uu + 1 + _ < _ by omega) l2  fun a h' es' n' tk u1 u2 u3 m1 F' N' fl => ?_
  exact ⟨rfl, h x dx a h' es' n' tk u1 u2 u3 l1 l2 (m1 _ (.head _)) F' N' fl⟩

theorem mkNPDU5 {w : World} {A₀ : Around} {base h₀ : Heap} {outer : List Env} {env : Env} {L : Addr} {m mg mb : Str → Option Value} {s : Shared} {all : List (Addr × Obj)} {p : Program} {loose : List Str} {mean : ExcName → Option Value} {R : Result → Shared → Prop} {dd uu : Nat} {x0 : Array UInt8} {t0 t3 t4 t5 : Tok} {p1 p2 : Nat} {n3 n4 n5 : Int}
    (B : Below A₀ base outer h₀) (F : Fr h₀ L s.heap m) (X : (MineH.hd.heap_39 w.params).In h₀) (T : Top p loose mean mg mb h₀)
    (N : News h₀ L s.heap all) (hf : env.frame = some L) (hke : env.scope.kind = .function) (hdd : dd + 140 < recursionLimit) (huu : uu + 600 < cLine) (hz : x0.size ≤ sizeLine)
    (h : ∀ (x dx a : Nat) h' es' n' tk (u3 : Tok), (∀ q ∈ all, q.1 < dx) → @LT.lt Nat _ dx x → @LT.lt Nat _ x a → Fr h₀ L h' m → News h₀ L h' ((a, baObj x0) :: (x, instObj 453 dx) :: (dx, dictOf es' n') :: all) → Flds es' 13 (fun y => if y = Str.ofString "npduVendorID" then some (.none) else if y = Str.ofString "npduNetMessage" then some (.none) else if y = Str.ofString "npduHopCount" then some (.none) else if y = Str.ofString "npduSADR" then some (.none) else if y = Str.ofString "npduDADR" then some (.none) else if y = Str.ofString "npduControl" then some (.none) else if y = Str.ofString "npduVersion" then some (.int 1 u3) else if y = Str.ofString "pduNetworkPriority" then some (.int n5 t5) else if y = Str.ofString "pduExpectingReply" then some (.int n4 t4) else if y = Str.ofString "pduDestination" then some (.ref p2) else if y = Str.ofString "pduSource" then some (.ref p1) else if y = Str.ofString "pduUserData" then some (.int n3 t3) else if y = Str.ofString "pduData" then some (.ref a) else none) → R (.ok (.ret (.ref x))) { s with heap := h', toks := tk }) :
    codeG (model PySem.Challenge.rw_bd5008_01.row.toRowW.prog w) (arnd dd uu (env :: outer)) (.call (.ref 453) ⟨[.bytes x0 t0], [(Str.ofString "source", .ref p1), (Str.ofString "destination", .ref p2), (Str.ofString "user_data", .int n3 t3), (Str.ofString "expectingReply", .int n4 t4), (Str.ofString "networkPriority", .int n5 t5)]⟩) R s := by
  revert X
  k_fill
  intro X
  refine make_KG (K := MineH.hd.heap_39 w.params) F N (X.keeps F.keep) (by k_is) (by k_is) (by k_is) fun x dx h1 F1 N1 l1 l2 => ?_
  have U : UpdF dx (dictOf [] 0) ((x, instObj 453 dx) :: (dx, dictOf [] 0) :: all) _ := UpdF.tail (Nat.ne_of_gt l2) (UpdF.head fun q hq => Nat.ne_of_lt (l1 q hq))
  refine C436_5_U rfl B F1 X T N1 (.head _) U hf hke (show dd + 1 + _ < _ by omega) (show uu + 1 + _ < _ by omega) l2 hz fun a h' es' n' tk u3 m1 F' N' fl => ?_
  exact ⟨rfl, h x dx a h' es' n' tk u3 l1 l2 (m1 _ (.head _)) F' N' fl⟩

theorem mkD_none {w : World} {A₀ : Around} {base h₀ : Heap} {outer : List Env} {env : Env} {L : Addr} {m mg mb : Str → Option Value} {s : Shared} {all : List (Addr × Obj)} {p : Program} {loose : List Str} {mean : ExcName → Option Value} {R : Result → Shared → Prop} {dd uu : Nat} 
    (B : Below A₀ base outer h₀) (F : Fr h₀ L s.heap m) (X : (MineH.hd.heap_39 w.params).In h₀) (T : Top p loose mean mg mb h₀)
    (N : News h₀ L s.heap all) (hf : env.frame = some L) (hke : env.scope.kind = .function) (hdd : dd + 80 < recursionLimit) (huu : uu + 300 < cLine) 
    (h : ∀ (x dx a : Nat) h' es' n' tk, (∀ q ∈ all, q.1 < dx) → @LT.lt Nat _ dx x → @LT.lt Nat _ x a → Fr h₀ L h' m → News h₀ L h' ((a, baObj #[]) :: (x, instObj 205 dx) :: (dx, dictOf es' n') :: all) → Flds es' 1 (fun y => if y = Str.ofString "pduData" then some (.ref a) else none) → R (.ok (.ret (.ref x))) { s with heap := h', toks := tk }) :
    codeG (model PySem.Challenge.rw_bd5008_01.row.toRowW.prog w) (arnd dd uu (env :: outer)) (.call (.ref 205) ⟨[], []⟩) R s := by
  revert X
  k_fill
  intro X
  refine make_KG (K := MineH.hd.heap_39 w.params) F N (X.keeps F.keep) (by k_is) (by k_is) (by k_is) fun x dx h1 F1 N1 l1 l2 => ?_
  have U : UpdF dx (dictOf [] 0) ((x, instObj 205 dx) :: (dx, dictOf [] 0) :: all) _ := UpdF.tail (Nat.ne_of_gt l2) (UpdF.head fun q hq => Nat.ne_of_lt (l1 q hq))
  refine init_none_U (.inr (.inr rfl)) B F1 X T N1 (.head _) U hf hke (show dd + 1 + _ < _ by omega) (show uu + 1 + _ < _ by omega) l2  fun a h' es' n' tk  m1 F' N' fl => ?_
  exact ⟨rfl, h x dx a h' es' n' tk  l1 l2 (m1 _ (.head _)) F' N' fl⟩

theorem mkD_N {w : World} {A₀ : Around} {base h₀ : Heap} {outer : List Env} {env : Env} {L : Addr} {m mg mb : Str → Option Value} {s : Shared} {all : List (Addr × Obj)} {p : Program} {loose : List Str} {mean : ExcName → Option Value} {R : Result → Shared → Prop} {dd uu : Nat} 
    (B : Below A₀ base outer h₀) (F : Fr h₀ L s.heap m) (X : (MineH.hd.heap_39 w.params).In h₀) (T : Top p loose mean mg mb h₀)
    (N : News h₀ L s.heap all) (hf : env.frame = some L) (hke : env.scope.kind = .function) (hdd : dd + 80 < recursionLimit) (huu : uu + 300 < cLine) 
    (h : ∀ (x dx a : Nat) h' es' n' tk, (∀ q ∈ all, q.1 < dx) → @LT.lt Nat _ dx x → @LT.lt Nat _ x a → Fr h₀ L h' m → News h₀ L h' ((a, baObj #[]) :: (x, instObj 205 dx) :: (dx, dictOf es' n') :: all) → Flds es' 1 (fun y => if y = Str.ofString "pduData" then some (.ref a) else none) → R (.ok (.ret (.ref x))) { s with heap := h', toks := tk }) :
    codeG (model PySem.Challenge.rw_bd5008_01.row.toRowW.prog w) (arnd dd uu (env :: outer)) (.call (.ref 205) ⟨[.none], []⟩) R s := by
  revert X
  k_fill
  intro X
  refine make_KG (K := MineH.hd.heap_39 w.params) F N (X.keeps F.keep) (by k_is) (by k_is) (by k_is) fun x dx h1 F1 N1 l1 l2 => ?_
  have U : UpdF dx (dictOf [] 0) ((x, instObj 205 dx) :: (dx, dictOf [] 0) :: all) _ := UpdF.tail (Nat.ne_of_gt l2) (UpdF.head fun q hq => Nat.ne_of_lt (l1 q hq))
  refine init_N_U rfl B F1 X T N1 (.head _) U hf hke (show dd + 1 + _ < _ by omega) (show uu + 1 + _ < _ by omega) l2  fun a h' es' n' tk  m1 F' N' fl => ?_
  exact ⟨rfl, h x dx a h' es' n' tk  l1 l2 (m1 _ (.head _)) F' N' fl⟩

theorem mkD_by {w : World} {A₀ : Around} {base h₀ : Heap} {outer : List Env} {env : Env} {L : Addr} {m mg mb : Str → Option Value} {s : Shared} {all : List (Addr × Obj)} {p : Program} {loose : List Str} {mean : ExcName → Option Value} {R : Result → Shared → Prop} {dd uu : Nat} {x0 : Array UInt8} {t0 : Tok}
    (B : Below A₀ base outer h₀) (F : Fr h₀ L s.heap m) (X : (MineH.hd.heap_39 w.params).In h₀) (T : Top p loose mean mg mb h₀)
    (N : News h₀ L s.heap all) (hf : env.frame = some L) (hke : env.scope.kind = .function) (hdd : dd + 80 < recursionLimit) (huu : uu + 300 < cLine) (hz : x0.size ≤ sizeLine)
    (h : ∀ (x dx a : Nat) h' es' n' tk, (∀ q ∈ all, q.1 < dx) → @LT.lt Nat _ dx x → @LT.lt Nat _ x a → Fr h₀ L h' m → News h₀ L h' ((a, baObj x0) :: (x, instObj 205 dx) :: (dx, dictOf es' n') :: all) → Flds es' 1 (fun y => if y = Str.ofString "pduData" then some (.ref a) else none) → R (.ok (.ret (.ref x))) { s with heap := h', toks := tk }) :
    codeG (model PySem.Challenge.rw_bd5008_01.row.toRowW.prog w) (arnd dd uu (env :: outer)) (.call (.ref 205) ⟨[.bytes x0 t0], []⟩) R s := by
  revert X
  k_fill
  intro X
  refine make_KG (K := MineH.hd.heap_39 w.params) F N (X.keeps F.keep) (by k_is) (by k_is) (by k_is) fun x dx h1 F1 N1 l1 l2 => ?_
  have U : UpdF dx (dictOf [] 0) ((x, instObj 205 dx) :: (dx, dictOf [] 0) :: all) _ := UpdF.tail (Nat.ne_of_gt l2) (UpdF.head fun q hq => Nat.ne_of_lt (l1 q hq))
  refine init_by_U (.inr (.inr rfl)) B F1 X T N1 (.head _) U hf hke (show dd + 1 + _ < _ by omega) (show uu + 1 + _ < _ by omega) l2 hz fun a h' es' n' tk  m1 F' N' fl => ?_
  exact ⟨rfl, h x dx a h' es' n' tk  l1 l2 (m1 _ (.head _)) F' N' fl⟩

theorem mkD_ba {w : World} {A₀ : Around} {base h₀ : Heap} {outer : List Env} {env : Env} {L : Addr} {m mg mb : Str → Option Value} {s : Shared} {all : List (Addr × Obj)} {p : Program} {loose : List Str} {mean : ExcName → Option Value} {R : Result → Shared → Prop} {dd uu : Nat} {x0 : Array UInt8} {c : Nat}
    (B : Below A₀ base outer h₀) (F : Fr h₀ L s.heap m) (X : (MineH.hd.heap_39 w.params).In h₀) (T : Top p loose mean mg mb h₀)
    (N : News h₀ L s.heap all) (hf : env.frame = some L) (hke : env.scope.kind = .function) (hdd : dd + 80 < recursionLimit) (huu : uu + 300 < cLine) (h2 : (c, baObj x0) ∈ all) (hz : x0.size ≤ sizeLine)
    (h : ∀ (x dx a : Nat) h' es' n' tk, (∀ q ∈ all, q.1 < dx) → @LT.lt Nat _ dx x → @LT.lt Nat _ x a → Fr h₀ L h' m → News h₀ L h' ((a, baObj x0) :: (x, instObj 205 dx) :: (dx, dictOf es' n') :: all) → Flds es' 1 (fun y => if y = Str.ofString "pduData" then some (.ref a) else none) → R (.ok (.ret (.ref x))) { s with heap := h', toks := tk }) :
    codeG (model PySem.Challenge.rw_bd5008_01.row.toRowW.prog w) (arnd dd uu (env :: outer)) (.call (.ref 205) ⟨[.ref c], []⟩) R s := by
  revert X
  k_fill
  intro X
  refine make_KG (K := MineH.hd.heap_39 w.params) F N (X.keeps F.keep) (by k_is) (by k_is) (by k_is) fun x dx h1 F1 N1 l1 l2 => ?_
  have U : UpdF dx (dictOf [] 0) ((x, instObj 205 dx) :: (dx, dictOf [] 0) :: all) _ := UpdF.tail (Nat.ne_of_gt l2) (UpdF.head fun q hq => Nat.ne_of_lt (l1 q hq))
  refine init_ba_U rfl B F1 X T N1 (.head _) U hf hke (show dd + 1 + _ < _ by omega) (show uu + 1 + _ < _ by omega) l2 (.tail _ (.tail _ h2)) hz fun a h' es' n' tk  m1 F' N' fl => ?_
  exact ⟨rfl, h x dx a h' es' n' tk  l1 l2 (m1 _ (.head _)) F' N' fl⟩

theorem mkD_inst {w : World} {A₀ : Around} {base h₀ : Heap} {outer : List Env} {env : Env} {L : Addr} {m mg mb : Str → Option Value} {s : Shared} {all : List (Addr × Obj)} {p : Program} {loose : List Str} {mean : ExcName → Option Value} {R : Result → Shared → Prop} {dd uu : Nat} {x0 : Array UInt8} {o2 d2 a2 C2 n2 : Nat} {es2 : List DictEntry}
    (B : Below A₀ base outer h₀) (F : Fr h₀ L s.heap m) (X : (MineH.hd.heap_39 w.params).In h₀) (T : Top p loose mean mg mb h₀)
    (N : News h₀ L s.heap all) (hf : env.frame = some L) (hke : env.scope.kind = .function) (hdd : dd + 80 < recursionLimit) (huu : uu + 300 < cLine) (h2 : (o2, instObj C2 d2) ∈ all) (h3 : (d2, dictOf es2 n2) ∈ all) (h4 : (a2, baObj x0) ∈ all) (hC2 : C2 = 375 ∨ C2 = 453) (hz : x0.size ≤ sizeLine) (e1 : getL (Str.ofString "pduData") es2 = some (some (.ref a2)))
    (h : ∀ (x dx a : Nat) h' es' n' tk, (∀ q ∈ all, q.1 < dx) → @LT.lt Nat _ dx x → @LT.lt Nat _ x a → Fr h₀ L h' m → News h₀ L h' ((a, baObj x0) :: (x, instObj 205 dx) :: (dx, dictOf es' n') :: all) → Flds es' 1 (fun y => if y = Str.ofString "pduData" then some (.ref a) else none) → R (.ok (.ret (.ref x))) { s with heap := h', toks := tk }) :
    codeG (model PySem.Challenge.rw_bd5008_01.row.toRowW.prog w) (arnd dd uu (env :: outer)) (.call (.ref 205) ⟨[.ref o2], []⟩) R s := by
  revert X
  k_fill
  intro X
  refine make_KG (K := MineH.hd.heap_39 w.params) F N (X.keeps F.keep) (by k_is) (by k_is) (by k_is) fun x dx h1 F1 N1 l1 l2 => ?_
  have U : UpdF dx (dictOf [] 0) ((x, instObj 205 dx) :: (dx, dictOf [] 0) :: all) _ := UpdF.tail (Nat.ne_of_gt l2) (UpdF.head fun q hq => Nat.ne_of_lt (l1 q hq))
  refine init_inst_U rfl B F1 X T N1 (.head _) U hf hke (show dd + 1 + _ < _ by omega) (show uu + 1 + _ < _ by omega) l2 (.tail _ (.tail _ h2)) (.tail _ (.tail _ h3)) (.tail _ (.tail _ h4)) hC2 hz (Nat.ne_of_lt (l1 _ h3)) e1 fun a h' es' n' tk  m1 F' N' fl => ?_
  exact ⟨rfl, h x dx a h' es' n' tk  l1 l2 (m1 _ (.head _)) F' N' fl⟩

theorem mkD_wi {w : World} {A₀ : Around} {base h₀ : Heap} {outer : List Env} {env : Env} {L : Addr} {m mg mb : Str → Option Value} {s : Shared} {all : List (Addr × Obj)} {p : Program} {loose : List Str} {mean : ExcName → Option Value} {R : Result → Shared → Prop} {dd uu : Nat} {y : Int} {t : Tok}
    (B : Below A₀ base outer h₀) (F : Fr h₀ L s.heap m) (X : (MineH.hd.heap_39 w.params).In h₀) (T : Top p loose mean mg mb h₀)
    (N : News h₀ L s.heap all) (hf : env.frame = some L) (hke : env.scope.kind = .function) (hdd : dd + 80 < recursionLimit) (huu : uu + 300 < cLine) 
    (h : ∀ g' h' e tk, Fr h₀ L g' m → g'.UpToSlots h' → RaisedN base (env :: outer) e (.type "TypeError") all h' → R (.error (.ref e)) { s with heap := h', toks := tk }) :
    codeG (model PySem.Challenge.rw_bd5008_01.row.toRowW.prog w) (arnd dd uu (env :: outer)) (.call (.ref 205) ⟨[.int y t], []⟩) R s := by
  revert X
  k_fill
  intro X
  refine make_KG (K := MineH.hd.heap_39 w.params) F N (X.keeps F.keep) (by k_is) (by k_is) (by k_is) fun x dx h1 F1 N1 l1 l2 => ?_
  have U : UpdF dx (dictOf [] 0) ((x, instObj 205 dx) :: (dx, dictOf [] 0) :: all) _ := UpdF.tail (Nat.ne_of_gt l2) (UpdF.head fun q hq => Nat.ne_of_lt (l1 q hq))
  refine init_wi_U rfl B F1 X T N1 (.head _) U hf hke (show dd + 1 + _ < _ by omega) (show uu + 1 + _ < _ by omega) l2  fun g' h' e tk F' U' R' => ?_
  exact h g' h' e tk F' U' (RaisedN.sub R' fun q hq => restD_mem.mpr ⟨.tail _ (.tail _ hq), Nat.ne_of_lt (l1 q hq)⟩)

theorem mkD_ws {w : World} {A₀ : Around} {base h₀ : Heap} {outer : List Env} {env : Env} {L : Addr} {m mg mb : Str → Option Value} {s : Shared} {all : List (Addr × Obj)} {p : Program} {loose : List Str} {mean : ExcName → Option Value} {R : Result → Shared → Prop} {dd uu : Nat} {y : Str} {t : Tok}
    (B : Below A₀ base outer h₀) (F : Fr h₀ L s.heap m) (X : (MineH.hd.heap_39 w.params).In h₀) (T : Top p loose mean mg mb h₀)
    (N : News h₀ L s.heap all) (hf : env.frame = some L) (hke : env.scope.kind = .function) (hdd : dd + 80 < recursionLimit) (huu : uu + 300 < cLine) 
    (h : ∀ g' h' e tk, Fr h₀ L g' m → g'.UpToSlots h' → RaisedN base (env :: outer) e (.type "TypeError") all h' → R (.error (.ref e)) { s with heap := h', toks := tk }) :
    codeG (model PySem.Challenge.rw_bd5008_01.row.toRowW.prog w) (arnd dd uu (env :: outer)) (.call (.ref 205) ⟨[.str y t], []⟩) R s := by
  revert X
  k_fill
  intro X
  refine make_KG (K := MineH.hd.heap_39 w.params) F N (X.keeps F.keep) (by k_is) (by k_is) (by k_is) fun x dx h1 F1 N1 l1 l2 => ?_
  have U : UpdF dx (dictOf [] 0) ((x, instObj 205 dx) :: (dx, dictOf [] 0) :: all) _ := UpdF.tail (Nat.ne_of_gt l2) (UpdF.head fun q hq => Nat.ne_of_lt (l1 q hq))
  refine init_ws_U rfl B F1 X T N1 (.head _) U hf hke (show dd + 1 + _ < _ by omega) (show uu + 1 + _ < _ by omega) l2  fun g' h' e tk F' U' R' => ?_
  exact h g' h' e tk F' U' (RaisedN.sub R' fun q hq => restD_mem.mpr ⟨.tail _ (.tail _ hq), Nat.ne_of_lt (l1 q hq)⟩)

theorem mkD_wl {w : World} {A₀ : Around} {base h₀ : Heap} {outer : List Env} {env : Env} {L : Addr} {m mg mb : Str → Option Value} {s : Shared} {all : List (Addr × Obj)} {p : Program} {loose : List Str} {mean : ExcName → Option Value} {R : Result → Shared → Prop} {dd uu : Nat} {c cn : Nat} {vs : List Value}
    (B : Below A₀ base outer h₀) (F : Fr h₀ L s.heap m) (X : (MineH.hd.heap_39 w.params).In h₀) (T : Top p loose mean mg mb h₀)
    (N : News h₀ L s.heap all) (hf : env.frame = some L) (hke : env.scope.kind = .function) (hdd : dd + 80 < recursionLimit) (huu : uu + 300 < cLine) (h2 : (c, sqObj "list" vs cn) ∈ all)
    (h : ∀ g' h' e tk, Fr h₀ L g' m → g'.UpToSlots h' → RaisedN base (env :: outer) e (.type "TypeError") all h' → R (.error (.ref e)) { s with heap := h', toks := tk }) :
    codeG (model PySem.Challenge.rw_bd5008_01.row.toRowW.prog w) (arnd dd uu (env :: outer)) (.call (.ref 205) ⟨[.ref c], []⟩) R s := by
  revert X
  k_fill
  intro X
  refine make_KG (K := MineH.hd.heap_39 w.params) F N (X.keeps F.keep) (by k_is) (by k_is) (by k_is) fun x dx h1 F1 N1 l1 l2 => ?_
  have U : UpdF dx (dictOf [] 0) ((x, instObj 205 dx) :: (dx, dictOf [] 0) :: all) _ := UpdF.tail (Nat.ne_of_gt l2) (UpdF.head fun q hq => Nat.ne_of_lt (l1 q hq))
  refine init_wl_U rfl B F1 X T N1 (.head _) U hf hke (show dd + 1 + _ < _ by omega) (show uu + 1 + _ < _ by omega) l2 (.tail _ (.tail _ h2)) fun g' h' e tk F' U' R' => ?_
  exact h g' h' e tk F' U' (RaisedN.sub R' fun q hq => restD_mem.mpr ⟨.tail _ (.tail _ hq), Nat.ne_of_lt (l1 q hq)⟩)

theorem mkD_wt {w : World} {A₀ : Around} {base h₀ : Heap} {outer : List Env} {env : Env} {L : Addr} {m mg mb : Str → Option Value} {s : Shared} {all : List (Addr × Obj)} {p : Program} {loose : List Str} {mean : ExcName → Option Value} {R : Result → Shared → Prop} {dd uu : Nat} {c cn : Nat} {vs : List Value}
    (B : Below A₀ base outer h₀) (F : Fr h₀ L s.heap m) (X : (MineH.hd.heap_39 w.params).In h₀) (T : Top p loose mean mg mb h₀)
    (N : News h₀ L s.heap all) (hf : env.frame = some L) (hke : env.scope.kind = .function) (hdd : dd + 80 < recursionLimit) (huu : uu + 300 < cLine) (h2 : (c, sqObj "tuple" vs cn) ∈ all)
    (h : ∀ g' h' e tk, Fr h₀ L g' m → g'.UpToSlots h' → RaisedN base (env :: outer) e (.type "TypeError") all h' → R (.error (.ref e)) { s with heap := h', toks := tk }) :
    codeG (model PySem.Challenge.rw_bd5008_01.row.toRowW.prog w) (arnd dd uu (env :: outer)) (.call (.ref 205) ⟨[.ref c], []⟩) R s := by
  revert X
  k_fill
  intro X
  refine make_KG (K := MineH.hd.heap_39 w.params) F N (X.keeps F.keep) (by k_is) (by k_is) (by k_is) fun x dx h1 F1 N1 l1 l2 => ?_
  have U : UpdF dx (dictOf [] 0) ((x, instObj 205 dx) :: (dx, dictOf [] 0) :: all) _ := UpdF.tail (Nat.ne_of_gt l2) (UpdF.head fun q hq => Nat.ne_of_lt (l1 q hq))
  refine init_wt_U rfl B F1 X T N1 (.head _) U hf hke (show dd + 1 + _ < _ by omega) (show uu + 1 + _ < _ by omega) l2 (.tail _ (.tail _ h2)) fun g' h' e tk F' U' R' => ?_
  exact h g' h' e tk F' U' (RaisedN.sub R' fun q hq => restD_mem.mpr ⟨.tail _ (.tail _ hq), Nat.ne_of_lt (l1 q hq)⟩)
end Mine

-- F0
namespace Mine
open PySem PySem.W PySem.Calls PyProof.Rows
theorem Flds.congr {es : List DictEntry} {k : Nat} {f f' : Str → Option Value} (h : Flds es k f) (e : ∀ x, f x = f' x) : Flds es k f' := ⟨h.len, fun x => by rw [h.get, e]⟩
/-- the fields of a PDU -/
abbrev pduF (a : Addr) (u e n : Value) (p1 p2 : Nat) : Str → Option Value := fun y =>
  if y = Str.ofString "pduData" then some (.ref a) else if y = Str.ofString "pduSource" then some (.ref p1) else if y = Str.ofString "pduDestination" then some (.ref p2) else
  if y = Str.ofString "pduUserData" then some u else if y = Str.ofString "pduExpectingReply" then some e else if y = Str.ofString "pduNetworkPriority" then some n else none
/-- and of an NPDU -/
abbrev npduF (a : Addr) (u e n : Value) (p1 p2 : Nat) (v c h m d : Value) : Str → Option Value := fun y =>
  if y = Str.ofString "pduData" then some (.ref a) else if y = Str.ofString "pduSource" then some (.ref p1) else if y = Str.ofString "pduDestination" then some (.ref p2) else
  if y = Str.ofString "pduUserData" then some u else if y = Str.ofString "pduExpectingReply" then some e else if y = Str.ofString "pduNetworkPriority" then some n else
  if y = Str.ofString "npduVersion" then some v else if y = Str.ofString "npduControl" then some c else if y = Str.ofString "npduDADR" then some .none else if y = Str.ofString "npduSADR" then some .none else
  if y = Str.ofString "npduHopCount" then some h else if y = Str.ofString "npduNetMessage" then some m else if y = Str.ofString "npduVendorID" then some d else none
end Mine

-- F5
namespace Mine
open PySem PySem.W PySem.Calls PyProof.Rows
theorem Fr.know {h₀ h : Heap} {L : Addr} {m : Str → Option Value} {x : Str} {v : Value} (F : Fr h₀ L h m) (e : m x = some v) : Fr h₀ L h (fun y => if y = x then some v else m y) := by
  have : (fun y => if y = x then some v else m y) = m := by
    funext y
    by_cases q : y = x
    · rw [if_pos q, q, e]
    · rw [if_neg q]
  rw [this]; exact F
end Mine

-- L0
open PySem PySem.W PyProof.Rows
namespace Mine
set_option maxHeartbeats 8000000
/-- the law's text, as the heap holds it -/
def LawAt (ps : Params) (x : List Stmt × Scope) : Prop :=
  PySem.Challenge.rw_bd5008_01 = PySem.Challenge.rw_bd5008_01 ∧ ∃ oc od params dV kV doc pm an ct osl, (MineH.hd.heap_39 ps).lookup 502 = some ⟨oc, od, .func (fnX (Str.ofString "law") (Str.ofString "law") params x.1 x.2 [] dV kV doc pm an (.ref 501) ct), osl⟩
def lawText : { x : List Stmt × Scope // ∀ ps, LawAt ps x } := ⟨(_, _), fun ps => by unfold LawAt; k_fill; exact ⟨rfl, _, _, _, _, _, _, _, _, _, _, by k_is⟩⟩
abbrev lawBody : List Stmt := lawText.1.1
abbrev lawScope : Scope := lawText.1.2

def loopText : { x : Expr × Expr × List Stmt × Pos // lawBody[9]? = some (.For x.1 x.2.1 x.2.2.1 [] x.2.2.2) } := ⟨(_, _, _, _), rfl⟩
def loopBody : List Stmt := loopText.1.2.2.1
abbrev lawE (L : Addr) : Env := envX (Str.ofString "law") lawScope L 502 (.ref 501) []
abbrev lawA (L : Addr) : Around := callerA.deeper (lawE L)
theorem lawA_arnd (L : Addr) : lawA L = arnd (2 + claimMargin) 7 [lawE L] := rfl
def blk0 : { s : Stmt // loopBody[0]? = some s } := ⟨_, rfl⟩
def blk1 : { s : Stmt // loopBody[1]? = some s } := ⟨_, rfl⟩
def blk2 : { s : Stmt // loopBody[2]? = some s } := ⟨_, rfl⟩
def blk3 : { s : Stmt // loopBody[3]? = some s } := ⟨_, rfl⟩
def blk4 : { s : Stmt // loopBody[4]? = some s } := ⟨_, rfl⟩
def blk5 : { s : Stmt // loopBody[5]? = some s } := ⟨_, rfl⟩
def blk6 : { s : Stmt // loopBody[6]? = some s } := ⟨_, rfl⟩
def blk7 : { s : Stmt // loopBody[7]? = some s } := ⟨_, rfl⟩
def blk8 : { s : Stmt // loopBody[8]? = some s } := ⟨_, rfl⟩
def blk9 : { s : Stmt // loopBody[9]? = some s } := ⟨_, rfl⟩
def blk10 : { s : Stmt // loopBody[10]? = some s } := ⟨_, rfl⟩
def blk11 : { s : Stmt // loopBody[11]? = some s } := ⟨_, rfl⟩
def blk12 : { s : Stmt // loopBody[12]? = some s } := ⟨_, rfl⟩
def blk13 : { s : Stmt // loopBody[13]? = some s } := ⟨_, rfl⟩
def blk14 : { s : Stmt // loopBody[14]? = some s } := ⟨_, rfl⟩
def blk15 : { s : Stmt // loopBody[15]? = some s } := ⟨_, rfl⟩
def blk16 : { s : Stmt // loopBody[16]? = some s } := ⟨_, rfl⟩
def blk17 : { s : Stmt // loopBody[17]? = some s } := ⟨_, rfl⟩
def blk18 : { s : Stmt // loopBody[18]? = some s } := ⟨_, rfl⟩
def blk19 : { s : Stmt // loopBody[19]? = some s } := ⟨_, rfl⟩
def blk20 : { s : Stmt // loopBody[20]? = some s } := ⟨_, rfl⟩

theorem loop_is : loopBody = [blk0.1, blk1.1, blk2.1, blk3.1, blk4.1, blk5.1, blk6.1, blk7.1, blk8.1, blk9.1, blk10.1, blk11.1, blk12.1, blk13.1, blk14.1, blk15.1, blk16.1, blk17.1, blk18.1, blk19.1, blk20.1] := rfl
end Mine

-- L1
namespace Mine
open PySem PySem.W PySem.Calls PyProof.Rows
abbrev X2 (x : String) : Str := Str.ofString x
/-- what the law's frame holds between two of a turn's statements -/
structure FrS (m : Str → Option Value) (nn pick y : Int) (i one r rows ones fld : Nat) (c : Int) (tn tp ty ti : Tok) : Prop where
  e_n : m (Str.ofString "n") = some (.int nn tn)
  e_pick : m (Str.ofString "pick") = some (.int pick tp)
  e_y : m (Str.ofString "y") = some (.int y ty)
  e_i : m (Str.ofString "i") = some (.int i ti)
  e_one : m (Str.ofString "one") = some (.ref one)
  e_row : c ≤ pick → m (Str.ofString "row") = some (.ref r)
  e_rows : m (Str.ofString "rows") = some (.ref rows)
  e_ones : m (Str.ofString "ones") = some (.ref ones)
  e_fields : m (Str.ofString "fields") = some (.ref fld)
def rowsAt (i : Nat) (r ro : Nat) : List Value := if i = 0 then [.ref r, .ref ro] else [.ref ro, .ref r]
/-- what holds between two of a turn's statements: the first object is the one that the turn is about -/
def Inv (h₀ : Heap) (L : Addr) (s0 : Shared) (one dx a C n : Nat) (es : List DictEntry) (i ro rows ones fld : Nat) (rest : List (Addr × Obj)) (nn pick y : Int) (c : Int) (b : Nat) (s : Shared) : Prop :=
  ∃ (h : Heap) (tk : Nat) (m : Str → Option Value) (l : List Int) (vs : List Value) (cn r cm : Nat) (tn tp ty ti : Tok), s = { s0 with heap := h, toks := tk } ∧ Fr h₀ L h m ∧ FrS m nn pick y i one r rows ones fld c tn tp ty ti ∧
    News h₀ L h ((one, instObj C dx) :: (dx, dictOf es n) :: (a, baObj (byteArr l)) :: (rows, sqObj "list" (rowsAt i r ro) cm) :: (r, sqObj "list" vs cn) :: rest) ∧
    IntsAre vs l ∧ (∀ x ∈ l, 0 ≤ x ∧ x < 256) ∧ l.length ≤ b ∧ (∀ q ∈ rest, q.1 ≠ a) ∧ (∀ q ∈ rest, q.1 ≠ rows) ∧ r ≠ rows
/-- a map that is told at some names -/
theorem Fr.knows {h₀ h : Heap} {L : Addr} {m : Str → Option Value} (F : Fr h₀ L h m) {nn pick y : Int} {i one r rows ones fld : Nat} {c : Int} {tn tp ty ti : Tok} (S : FrS m nn pick y i one r rows ones fld c tn tp ty ti) :
    Fr h₀ L h (fun z => if z = Str.ofString "n" then some (.int nn tn) else if z = Str.ofString "pick" then some (.int pick tp) else if z = Str.ofString "y" then some (.int y ty) else if z = Str.ofString "i" then some (.int i ti) else
      if z = Str.ofString "one" then some (.ref one) else if z = Str.ofString "rows" then some (.ref rows) else if z = Str.ofString "ones" then some (.ref ones) else if z = Str.ofString "fields" then some (.ref fld) else m z) :=
  (Fr.know (Fr.know (Fr.know (Fr.know (Fr.know (Fr.know (Fr.know (Fr.know F S.e_fields) S.e_ones) S.e_rows) S.e_one) S.e_i) S.e_y) S.e_pick) S.e_n)
theorem Fr.knowsR {h₀ h : Heap} {L : Addr} {m : Str → Option Value} (F : Fr h₀ L h m) {nn pick y : Int} {i one r rows ones fld : Nat} {c : Int} {tn tp ty ti : Tok} (S : FrS m nn pick y i one r rows ones fld c tn tp ty ti) (hc : c ≤ pick) :
    Fr h₀ L h (fun z => if z = Str.ofString "n" then some (.int nn tn) else if z = Str.ofString "pick" then some (.int pick tp) else if z = Str.ofString "y" then some (.int y ty) else if z = Str.ofString "i" then some (.int i ti) else
      if z = Str.ofString "one" then some (.ref one) else if z = Str.ofString "row" then some (.ref r) else if z = Str.ofString "rows" then some (.ref rows) else if z = Str.ofString "ones" then some (.ref ones) else if z = Str.ofString "fields" then some (.ref fld) else m z) :=
  (Fr.know (Fr.know (Fr.know (Fr.know (Fr.know (Fr.know (Fr.know (Fr.know (Fr.know F S.e_fields) S.e_ones) S.e_rows) (S.e_row hc)) S.e_one) S.e_i) S.e_y) S.e_pick) S.e_n)
theorem byteArr_append (l l' : List Int) : byteArr (l ++ l') = byteArr l ++ byteArr l' := by simp [byteArr]
theorem IntsAre.append {vs vs' : List Value} {ns ns' : List Int} (h : IntsAre vs ns) (h' : IntsAre vs' ns') : IntsAre (vs ++ vs') (ns ++ ns') := by
  induction h with
  | nil => exact h'
  | cons n t _ ih => exact .cons n t ih
end Mine
namespace Mine
open PySem PySem.W PySem.Calls PyProof.Rows
def Out (P : Shared → Prop) (f : Flow) (s : Shared) : Prop := f = .next ∧ P s
theorem Inv.intro {h₀ : Heap} {L : Addr} {s0 : Shared} {one dx a C n : Nat} {es : List DictEntry} {i ro rows ones fld : Nat} {rest : List (Addr × Obj)} {nn pick y : Int} {c : Int} {b : Nat}
    {h : Heap} {tk : Nat} {m : Str → Option Value} {l : List Int} {vs : List Value} {cn r cm : Nat} {tn tp ty ti : Tok} (F : Fr h₀ L h m) (S : FrS m nn pick y i one r rows ones fld c tn tp ty ti)
    (N : News h₀ L h ((one, instObj C dx) :: (dx, dictOf es n) :: (a, baObj (byteArr l)) :: (rows, sqObj "list" (rowsAt i r ro) cm) :: (r, sqObj "list" vs cn) :: rest))
    (hi : IntsAre vs l) (hr : ∀ x ∈ l, 0 ≤ x ∧ x < 256) (hl : l.length ≤ b) (q1 : ∀ q ∈ rest, q.1 ≠ a) (q2 : ∀ q ∈ rest, q.1 ≠ rows) (q3 : r ≠ rows) :
    Inv h₀ L s0 one dx a C n es i ro rows ones fld rest nn pick y c b { s0 with heap := h, toks := tk } := ⟨h, tk, m, l, vs, cn, r, cm, tn, tp, ty, ti, rfl, F, S, N, hi, hr, hl, q1, q2, q3⟩
theorem fm256 (y : Int) : 0 ≤ y.fmod 256 ∧ y.fmod 256 < 256 := by
  rw [Int.fmod_eq_emod_of_nonneg _ (by decide)]
  exact ⟨Int.emod_nonneg _ (by decide), Int.emod_lt_of_pos _ (by decide)⟩
end Mine
namespace Mine
open PySem PySem.W PySem.Calls PyProof.Rows
theorem Inv.of {h₀ : Heap} {L : Addr} {s0 : Shared} {one dx a C n : Nat} {es : List DictEntry} {i ro rows ones fld : Nat} {rest all : List (Addr × Obj)} {nn pick y : Int} {c : Int} {b : Nat}
    {h : Heap} {tk : Nat} {m : Str → Option Value} {l : List Int} {vs rv : List Value} {cn r cm : Nat} {tn tp ty ti : Tok} {b' : Array UInt8} (F : Fr h₀ L h m)
    (N : News h₀ L h all) (m1 : (one, instObj C dx) ∈ all) (m2 : (dx, dictOf es n) ∈ all) (m3 : (a, baObj b') ∈ all) (m4 : (rows, sqObj "list" rv cm) ∈ all) (hrv : rv = rowsAt i r ro) (m5 : (r, sqObj "list" vs cn) ∈ all) (mr : ∀ q ∈ rest, q ∈ all)
    (S : FrS m nn pick y i one r rows ones fld c tn tp ty ti) 
    (hi : IntsAre vs l) (hb : b' = byteArr l) (hr : ∀ x ∈ l, 0 ≤ x ∧ x < 256) (hl : l.length ≤ b) (q1 : ∀ q ∈ rest, q.1 ≠ a) (q2 : ∀ q ∈ rest, q.1 ≠ rows) (q3 : r ≠ rows) :
    Out (fun s' => Inv h₀ L s0 one dx a C n es i ro rows ones fld rest nn pick y c b s') .next { s0 with heap := h, toks := tk } := by
  refine ⟨rfl, Inv.intro (cn := cn) (cm := cm) F S (fun q hq => N q ?_) hi hr hl q1 q2 q3⟩
  rw [← hb, ← hrv] at hq
  rcases List.mem_cons.mp hq with rfl | hq
  · exact m1
  rcases List.mem_cons.mp hq with rfl | hq
  · exact m2
  rcases List.mem_cons.mp hq with rfl | hq
  · exact m3
  rcases List.mem_cons.mp hq with rfl | hq
  · exact m4
  rcases List.mem_cons.mp hq with rfl | hq
  · exact m5
  · exact mr q hq
theorem range_append {l l' : List Int} (h : ∀ x ∈ l, 0 ≤ x ∧ x < 256) (h' : ∀ x ∈ l', 0 ≤ x ∧ x < 256) : ∀ x ∈ l ++ l', 0 ≤ x ∧ x < 256 := fun x hx => (List.mem_append.mp hx).elim (h x) (h' x)
end Mine
namespace Mine
theorem fdm (n k : Int) (m : Int) (hk : 0 < k) (hm : 0 < m) : (n.fdiv k).fmod m = n / k % m := by
  rw [Int.fmod_eq_emod_of_nonneg _ (Int.le_of_lt hm), Int.fdiv_eq_ediv_of_nonneg _ (Int.le_of_lt hk)]
theorem fm (n : Int) (m : Int) (hm : 0 < m) : n.fmod m = n % m := Int.fmod_eq_emod_of_nonneg _ (Int.le_of_lt hm)
theorem em256 (y : Int) : 0 ≤ y % 256 ∧ y % 256 < 256 := ⟨Int.emod_nonneg _ (by decide), Int.emod_lt_of_pos _ (by decide)⟩
end Mine
namespace Mine
theorem fm1000 (y : Int) : 0 ≤ y.fmod 1000 ∧ y.fmod 1000 < 1000 := by
  rw [Int.fmod_eq_emod_of_nonneg _ (by decide)]
  exact ⟨Int.emod_nonneg _ (by decide), Int.emod_lt_of_pos _ (by decide)⟩
end Mine
namespace Mine
open PySem PySem.W PySem.Calls PyProof.Rows
theorem ba_ints : ∀ {l : List Int}, (∀ x ∈ l, 0 ≤ x ∧ x < 256) → (byteArr l).toList.map (fun c : UInt8 => ((c.toNat : Nat) : Int)) = l
  | [], _ => rfl
  | x :: l, h => by
    have ih := ba_ints (l := l) fun y hy => h y (.tail _ hy)
    have hx := h x (.head _)
    have e : ((x.toNat.toUInt8.toNat : Nat) : Int) = x := by
      rw [show x.toNat.toUInt8.toNat = x.toNat % 256 from by simp [Nat.toUInt8, UInt8.ofNat, UInt8.toNat]]
      omega
    unfold byteArr at ih ⊢
    simp only [List.map_cons, List.map_map] at ih ⊢
    rw [e, ih]
theorem ba_snoc (l : List Int) (x : Int) : byteArr l ++ #[x.toNat.toUInt8] = byteArr (l ++ [x]) := by rw [byteArr_append]; rfl
theorem listOfI_K {prog : Program} {w : World} {A : Around} {E : Value → Shared → Prop} {s : Shared} {h₀ : Heap} {L a : Addr} {m : Str → Option Value} {news : List (Addr × Obj)} {l : List Int} {Q : Value → Shared → Prop} (hh : A.handled = none) (F : Fr h₀ L s.heap m) (N : News h₀ L s.heap news) (hb : (a, baObj (byteArr l)) ∈ news) (hr : ∀ x ∈ l, 0 ≤ x ∧ x < 256) (hz : l.length ≤ sizeLine)
    (h : ∀ d h' tk vs c, Fr h₀ L h' m → News h₀ L h' ((d, sqObj "list" vs c) :: news) → (∀ p ∈ news, p.1 < d) → IntsAre vs l → Q (.ref d) { s with heap := h', toks := tk }) : wpAny (model prog w) A (call (.type "list") [.ref a]) Q E s :=
  listOf_K hh F N hb (by rw [byteArr_size]; exact hz) fun d h' tk vs c F' N' l1 hi => h d h' tk vs c F' N' l1 (by rw [ba_ints hr] at hi; exact hi)
end Mine
namespace Mine
open PySem PySem.W PySem.Calls PyProof.Rows
theorem item_rest {prog : Program} {w : World} {A : Around} {E : Value → Shared → Prop} {s : Shared} {h₀ : Heap} {L l : Addr} {news : List (Addr × Obj)} {vs : List Value} {n k : Nat} {u : Tok} {v : Value} {value slice : Expr} {Q : Value → Shared → Prop}
    (N : News h₀ L s.heap news) (hm : (l, sqObj "list" vs n) ∈ news) (hx : vs[k]? = some v) (hk : (k : Int) < 2 ^ 63) (h : Q v s)
    (hs : subscripted slice false (.ref l) (.int (k : Int) u) = operate [.ref l, .int (k : Int) u] (getItem (.ref l) (.int (k : Int) u)) := by with_unfolding_all rfl) :
    wpAny (model prog w) A (subscriptTail value slice (.ref l) (.int (k : Int) u)) Q E s :=
  have hl : s.heap.IsList l vs.toArray := ⟨_, (N _ hm).1, rfl, n, rfl⟩
  tail_any hl.typeIs slot_list_getitem.lookup (wpAny_getItem_list hl (Int.natCast_nonneg k) hk (by simpa using hx) h) hs
end Mine
namespace Mine
open PySem PySem.W PySem.Calls PyProof.Rows
theorem ne_same {prog : Program} {w : World} {A : Around} {E : Value → Shared → Prop} {s : Shared} {h₀ : Heap} {L l b : Addr} {news : List (Addr × Obj)} {vs : Array Value} {n n2 : Nat} {Q : Value → Shared → Prop}
    (N : News h₀ L s.heap news) (hl : (l, ({ cls := .type "tuple", data := .seq vs n } : Obj)) ∈ news) (hb : (b, ({ cls := .type "tuple", data := .seq vs n2 } : Obj)) ∈ news) (hu : A.units < cLine) (h : Q (.bool false) s) :
    wpAny (model prog w) A (compareOp .NotEq (.ref l) (.ref b)) Q E s :=
  SeqAt.RcNeAt.tuples (e := fun _ => true) ⟨_, (N _ hl).1, rfl, n, rfl⟩ ⟨_, (N _ hb).1, rfl, n2, rfl⟩ hu (fun j h1 h2 => SeqAt.EqAt.same _) prog w E Q (by
    have e : ((List.range (min vs.size vs.size)).all fun _ => true) = true := List.all_eq_true.mpr fun _ _ => rfl
    rw [e]; simpa using h)
end Mine

-- G13
namespace Mine
open PySem PySem.W PySem.Calls PyProof.Rows
open PySem.Sem (wp)
theorem app_w {M : Model} {Γ : PySem.Ctx} {env : Env} {P : Shared → Prop} {Q : Flow → Shared → Prop} {l2 : List Stmt} (K : ∀ s' p', P s' → wp M Γ (execs l2 env) (fun f _ s' => Q f s') (fun _ _ _ => False) p' s') :
    ∀ (l1 : List Stmt) (p : Pos) (s : Shared), wp M Γ (execs l1 env) (fun f _ s' => Out P f s') (fun _ _ _ => False) p s → wp M Γ (execs (l1 ++ l2) env) (fun f _ s' => Q f s') (fun _ _ _ => False) p s
  | [], p, s, h => by
    have h' : Out P .next s := h
    exact K s p h'.2
  | st :: l1, p, s, h => by
    rw [List.cons_append, execs_cons, Sem.wp_bind']
    rw [execs_cons, Sem.wp_bind'] at h
    refine Sem.wp_mono M Γ _ (fun f p' s' h' => ?_) (fun _ _ _ h' => h') p s h
    cases f with
    | next => exact app_w K l1 p' s' h'
    | brk => exact absurd (show Out P .brk s' from h').1 (by intro z; cases z)
    | cont => exact absurd (show Out P .cont s' from h').1 (by intro z; cases z)
    | ret v => exact absurd (show Out P (.ret v) s' from h').1 (by intro z; cases z)
theorem app_c {M : Model} {A : Around} {env : Env} {P : Shared → Prop} {Q : Flow → Shared → Prop} {l1 l2 : List Stmt} {s : Shared} (h : wpG M A (execs l1 env) (Out P) noE s) (k : ∀ s', P s' → wpG M A (execs l2 env) Q noE s') :
    wpG M A (execs (l1 ++ l2) env) Q noE s := fun Γ p hΓ hC => app_w (fun s' p' hp => k s' hp Γ p' hΓ hC) l1 p s (h Γ p hΓ hC)
end Mine

-- LA
namespace Mine
open PySem PySem.W PySem.Calls PyProof.Rows
theorem allLt_all {d : Addr} {l : List (Addr × Obj)} (h : AllLt d l) : ∀ q ∈ l, q.1 < d := by
  induction l with
  | nil => intro q hq; cases hq
  | cons p l ih =>
    intro q hq
    rcases List.mem_cons.mp hq with e | hq
    · rw [e]; exact h.1
    · exact ih h.2 q hq
theorem mem_skip {α : Type} {a b q : α} {l : List α} (h : q ∈ a :: l) : q ∈ a :: b :: l := by
  rcases List.mem_cons.mp h with h | h <;> simp [h]
end Mine

-- ENT
set_option maxHeartbeats 4000000
namespace Mine
open PySem PySem.W PySem.Calls PyProof.Rows
abbrev noE0 : Value → Shared → Prop := fun _ _ => False
theorem code_topG {prog : Program} {w : World} {A : Around} {s : Shared} {K : Frag} {mg mb : Str → Option Value} {p : Program} {loose : List Str} {mean : ExcName → Option Value} {R : Result → Shared → Prop} {name qual : Str} {params : Arguments} {body : List Stmt} {scope : Scope} {cl : List (Str × Addr)} {dV kV doc pm cdv ct oc : Value} {an od : Option Addr} {osl : Array (Option Value)} {f : Addr} {args : Args} {binds : List (Str × Value)}
    (X₀ : K.In s.heap) (T : Top p loose mean mg mb s.heap)
    (ho : K.lookup f = some ⟨oc, od, .func (fnX name qual params body scope cl dV kV doc pm an cdv ct), osl⟩) (hcd : codeIn K cdv qual = true) (hroom : A.depth < recursionLimit)
    (hbind : BindsTo s (fnX name qual params body scope cl dV kV doc pm an cdv ct) args binds) (hloc : ∀ y ∈ binds, scope.names.lookup y.1 = some .local)
    (h : ∀ h₁, Fr s.heap s.heap.objs.size h₁ (fun y => binds.reverse.lookup y) →
      wpG (model prog w) (A.deeper (envX qual scope s.heap.objs.size f cdv cl)) (execs body (envX qual scope s.heap.objs.size f cdv cl))
        (fun fl s' => R (.ok (.ret (match fl with | .ret v => v | _ => .none))) s') noE0
        { s with heap := h₁, toks := s.toks + binds.length })
    (hcell : ∀ x ∈ scope.names, x.2 ≠ .cell) (hco : scope.isCoroutine = false := by rfl) (hgen : scope.isGenerator = false := by rfl) (hk : scope.kind = .function := by rfl) :
    codeG (model prog w) A (.call (.ref f) args) R s :=
  codeG_call_def (fd := fnX name qual params body scope cl dV kV doc pm an cdv ct) (body := body) (binds := binds) hroom (X₀ _ _ ho) rfl T.nolimit (codeRec_of X₀ hcd) rfl hbind hcell hloc (fun h₁ hns hk₁ =>
    wpG_mono (h h₁ ⟨hns, hk₁, Nat.le_refl _⟩) (fun _ _ x => x) fun _ _ y => y.elim) hco hgen hk
theorem ent (BODY : ∀ (w : World) (h₀ : Heap) (L : Addr) (mg mb : Str → Option Value) (p : Program) (loose : List Str) (mean : ExcName → Option Value) (m : Str → Option Value) (sc : Nat) (vs : List Value) (ns : List Int) (s : Shared) (Q : Flow → Shared → Prop),
    (MineH.hd.heap_39 w.params).In h₀ → Top p loose mean mg mb h₀ → Below callerA h₀ [] h₀ → Fr h₀ L s.heap m → m (Str.ofString "script") = some (.ref sc) → h₀.IsList sc vs.toArray → IntsAre vs ns → ns.length ≤ 63 →
    (∀ h' m' tk, Fr h₀ L h' m' → Q (.ret (.bool true)) { s with heap := h', toks := tk }) → wpG (model PySem.Challenge.rw_bd5008_01.row.toRowW.prog w) (lawA L) (execs lawBody (lawE L)) Q noE0 s) : PySem.Challenge.rw_bd5008_01.Holds := by
  refine MineH.hd ?_
  k_fill
  intro w s₀ s₁ mg mb G Y fa o pm cd doc dV kV ho hd hcd hD hmg hg args vals as hpre hlay hrd hwl hlo
  have KX := kIn_of Y
  refine Ground.open G ?_
  intro T B D TE TW
  have TA := at_of_top T
  wrow_args hpre hlay hrd hwl hlo
  rename Heap.IsList _ _ _ => hIL
  rename IntsAre _ _ => hI
  rename ¬ (_ < _) => hle
  have K0 := below_caller (Top.heap T)
  clear TA hD hcd hd ho
  have e : some (Value.ref fa) = some (Value.ref 502) := hmg.symm.trans (mg_of KX T.g (by kernel_rfl))
  obtain rfl : fa = 502 := by injection e with e; injection e
  refine wpG_mono (wpG_call ?_) (fun _ _ g => GoodW.toG g) (fun _ _ g => GoodW.toG g)
  (refine' code_topG (cl := []) (cdv := .ref 501) (body := lawBody) (scope := lawScope) KX T ?k6 ?k7 ?k8 ?k9 ?kB ?_ ?c5 ?c2 ?c3 ?c4; (case k6 => k_is); (case k7 => k_is); (case k8 => decide); (case k9 => exact BindsTo.of_eq rfl); (case c5 => decide); (case kB => exact locs rfl); (case c2 => exact rfl); (case c3 => exact rfl); (case c4 => exact rfl))
  intro h₁ F
  refine BODY w s₁.heap _ mg mb _ _ _ _ _ _ _ _ _ KX T K0 F rfl hIL hI (by omega) ?_
  intro h' m' tk F'
  dsimp only
  (show GoodW _ _ _ _ _ (.ok (.ret (.bool _))) _); refine goodW_bool (by assumption) (by assumption) (raisesW_false ?_) ?_; (· wrow_none_raised); (· wrow_post)
end Mine

section
namespace Mine
open PySem PySem.W PyProof.Rows
set_option maxHeartbeats 8000000
local macro_rules | `(tactic| size_fits) => `(tactic| exact Nat.le_of_ble_eq_true rfl)
local macro_rules | `(tactic| walk_at "eval Name") => `(tactic| (k_here; k_dflt (refine' nameX_B ?F ?X ?T ?e ?v ?n ?_ ?a ?b; (case a => kernel_rfl!); (case b => kernel_rfl!); (case F => k_asm); (case X => k_asm); (case T => k_asm); (case e => k_is); (case v => first | boot_by_name | kernel_rfl); (case n => decide); k_whole)))
local macro_rules | `(tactic| walk_at "eval Name") => `(tactic| (k_here; k_dflt (refine' nameX_L ?F ?v ?_ ?a ?b; (case a => kernel_rfl!); (case b => kernel_rfl!); (case F => k_asm); (case v => rfl); k_whole)))
local macro_rules | `(tactic| walk_at "call builtin:_struct.pack") => `(tactic| (k_here; (with_reducible show wpAny _ _ (call _ [Value.str _ _, Value.int _ _]) _ _ _); first | refine pack_B (by decide) (by decide) ?_ | refine pack_H (by omega) (by omega) ?_ | refine pack_L (by omega) (by omega) ?_))
local macro_rules | `(tactic| k_enter) => `(tactic| (kp_kind "both"; (refine' enter_both ?k1 ?k2 ?k3 ?k4 ?k5 ?kA ?kF ?kK ?k6 ?k7 ?k8 ?kV ?kX ?kQ ?kM ?kN ?kR ?kP ?kS ?kT ?kB ?_ ?c2 ?c3 ?c4 ?c5; (case kA => exact rfl); (case kF => exact rfl); (case kK => exact rfl); (case k1 => k_asm); (case k2 => k_asm); (case k3 => k_asm); (case k4 => k_asm); (case k5 => k_asm); (case k6 => k_is); (case k7 => k_is); (case k8 => k_room); (case kV => kp_lit); (case kX => kp_lit); (case kQ => exact rfl); (case kM => exact rfl); (case kN => exact rfl); (case kR => exact rfl); (case kP => exact rfl); (case kS => exact fun _ => rfl); (case kT => exact fun _ _ => rfl); (case kB => exact fun _ _ => locs rfl); (case c5 => decide); (case c2 => exact rfl); (case c3 => exact rfl); (case c4 => exact rfl); k_whole; intro C' D' g' L' h' l1 l2 lo' FG' F' N' B' X' T'; (try k_lt l1); (try k_lt2 l2); (simp only [kwEs, List.length_cons, List.length_nil, Nat.zero_add, Nat.reduceAdd] at N'); (try dsimp only); (try k_lift B'); (try k_fold))))
local macro_rules | `(tactic| walk_at "eval Call") => `(tactic| (k_here; (with_reducible show wpAny _ _ (eval (Expr.Call (Expr.Attribute _ _ _) [Expr.Starred _ _] [Keyword.mk none _ _] _) _) _ _ _); refine eval_superSS ?_))
local macro_rules | `(tactic| walk_at "eval Call Attribute") => `(tactic| (k_here; (with_reducible show wpAny _ _ (eval (Expr.Call (Expr.Attribute _ _ _) [Expr.Starred _ _] [Keyword.mk none _ _] _) _) _ _ _); refine eval_superSS ?_))
local macro_rules | `(tactic| walk_at "call type:super") => `(tactic| (k_here; (with_reducible show wpAny _ _ (call (Value.type "super") [Value.ref _, Value.ref _]) _ _ _); k_dflt (refine' call_super2 ?k1 ?k2 ?k3 ?k5 ?k6 ?k7 ?_; (case k1 => k_asm); (case k2 => k_asm); (case k3 => k_asm); (case k5 => k_inst); (case k6 => k_is); (case k7 => k_is); k_whole; intro so' h' F' N' l1; (try k_lt l1))))
local macro_rules | `(tactic| walk_at "getAttr ref") => `(tactic| (k_here; (with_reducible show wpAny _ _ (getAttr (Value.ref _) (Str.ofString "__init__") _) _ _ _); k_dflt (first
  | (refine' superAttr_fn ?k1 ?k2 ?k3 ?k4 ?k5 ?k6 ?k7 ?k8 ?k9 ?_; (case k1 => k_asm); (case k2 => k_asm); (case k3 => k_asm); (case k4 => k_mem); (case k5 => k_inst); (case k6 => k_is); (case k7 => ks_is); (case k8 => k_is); (case k9 => decide); k_whole; intro q' h' F' N' l1; (try k_lt l1))
  | (refine' superAttr_oi ?k1 ?k2 ?k3 ?k4 ?k5 ?k6 ?k7 ?k8 ?_; (case k1 => k_asm); (case k2 => k_asm); (case k3 => k_asm); (case k4 => k_mem); (case k5 => k_mem); (case k6 => k_is); (case k7 => ks_is); (case k8 => k_is); k_whole; intro q' h' F' N' l1; (try k_lt l1)))))
local macro_rules | `(tactic| walk_at "callWith ref") => `(tactic| (k_here; (with_reducible show wpAny _ _ (callWith _ (Value.ref _) _ (backTo _ (starEach [Expr.Starred _ _] _)) (backToKw _ (keywordEach [Keyword.mk none _ _] _))) _ _ _); k_dflt (refine' callWith_SS ?k1 ?k2 ?k3 ?k4 ?k5 ?k6 ?k7 ?k8 ?k9 ?ka ?kb ?kc ?_; (case k1 => k_asm); (case k2 => k_asm); (case k3 => exact nameX_L (by k_asm) rfl ⟨rfl, rfl⟩); (case k4 => exact fun _ _ F _ => nameX_L F rfl ⟨rfl, rfl⟩); (case k5 => k_mem); (case k6 => (simp only [List.length_cons, List.length_nil, sizeLine_eq]; omega)); (case k7 => k_mem); (case k8 => first | exact keyStr_nil | (repeat (first | exact keyStr_nil | refine keyStr_cons ?_))); (case k9 => first | rfl | decide +kernel); (case ka => (simp only [List.length_cons, List.length_nil, sizeLine_eq]; omega)); (case kb => assumption); (case kc => first | exact fun _ _ F N => keeper_meth N (List.Mem.tail _ (by k_mem)) (Frag.In.keeps (by k_asm) (Fr.keep F)) (by k_is) | exact fun _ _ F N => keeper_wrap N (List.Mem.tail _ (by k_mem))); k_whole; intro d' h' F' N' l1; (try k_lt l1); (simp only [kwOf_cons, kwOf_nil, List.nil_append, List.length_cons, List.length_nil] at N' ⊢))))
local macro_rules | `(tactic| walk_at "call ref") => `(tactic| (k_here; (with_reducible show wpAny _ _ (call (Value.ref _) [] []) _ _ _); k_dflt (refine' call_wrap ?k1 ?k2 ?_; (case k1 => k_asm); (case k2 => k_mem))))
local macro_rules | `(tactic| walk_at "eval Name") => `(tactic| (k_here; (with_reducible show wpAny _ _ (eval (Expr.Name (Str.ofString "super") _) _) _ _ _); k_dflt (refine' nameX_B ?F ?X ?T ?e ?v ?n ?_ ?a ?b; (case F => k_asm); (case X => k_asm); (case T => k_asm); (case a => rfl); (case b => rfl); (case e => k_is); (case v => exact boot_super); (case n => decide); k_whole)))
local macro_rules | `(tactic| walk_at "eval Dict nil nil") => `(tactic| (k_here; k_dflt (refine' new_X ?F ?N (TopRead.nolimit (by k_asm)) ?_; (case F => k_asm); (case N => k_asm); k_whole); intro d' h' F' N' l1 lo'; (try k_lt l1); (try k_sweep)))
local macro_rules | `(tactic| walk_at "compareOp In str ref") => `(tactic| (k_here; (with_reducible show wpAny _ _ (compareOp CmpOp.In (Value.str _ _) (Value.ref _)) _ _ _); k_dflt (refine' in_X ?N ?a ?k ?l ?e ?_; (case N => k_asm); (case a => k_mem); (case k => k_keys); (case l => assumption); (case e => k_get); k_whole); (try dsimp only [Option.isSome])))
local macro_rules | `(tactic| walk_at "compareOp NotIn str ref") => `(tactic| (k_here; (with_reducible show wpAny _ _ (compareOp CmpOp.NotIn (Value.str _ _) (Value.ref _)) _ _ _); k_dflt (refine' notin_X ?N ?a ?k ?l ?e ?_; (case N => k_asm); (case a => k_mem); (case k => k_keys); (case l => assumption); (case e => k_get); k_whole); (try dsimp only [Option.isSome, Bool.not])))
local macro_rules | `(tactic| walk_at "subscriptTail") => `(tactic| (k_here; (with_reducible show wpAny _ _ (subscriptTail _ _ (Value.ref _) (Value.str _ _)) _ _ _); k_dflt (refine' item_X ?N ?a ?k ?e ?_; (case N => k_asm); (case a => k_mem); (case k => k_keys); (case e => k_get); k_whole)))
local macro_rules | `(tactic| walk_at "setItem ref str") => `(tactic| (k_here; (with_reducible show wpAny _ _ (setItem (Value.ref _) (Value.str _ _) _) _ _ _); k_dflt (refine' set_X ?F ?N ?U ?k ?e ?z ?_; (case F => k_asm); (case N => k_asm); (case U => k_upd); (case k => k_keys); (case e => k_put); (case z => (simp only [List.length_cons, List.length_nil, sizeLine_eq]; omega)); k_whole); intro h' F' N'; (try k_sweep)))
local macro_rules | `(tactic| walk_at "getMethod ref") => `(tactic| (k_here; (with_reducible show wpAny _ _ (getMethod (Value.ref _) (Str.ofString "get") _) _ _ _); k_dflt (refine' meth_get_X ?N ?a ?_; (case N => k_asm); (case a => k_mem); k_whole)))
local macro_rules | `(tactic| walk_at "call builtin:dict.get") => `(tactic| (k_here; (with_reducible show wpAny _ _ (call _ [Value.ref _, Value.str _ _, _]) _ _ _); k_dflt (refine' get_X ?N ?a ?k ?l ?e ?_; (case N => k_asm); (case a => k_mem); (case k => k_keys); (case l => assumption); (case e => k_get); k_whole); (try dsimp only [Option.getD])))
local macro_rules | `(tactic| walk_at "exec For Name Name cons nil") => `(tactic| (k_here; (with_reducible show wpAny _ _ (exec (Stmt.For (Expr.Name (Str.ofString "kw") _) (Expr.Name (Str.ofString "kwargs") _) _ _ _) _) _ _ _); (rename Fr _ _ _ _ => lF'); (rename News _ _ _ _ => lN'); (with_unfolding_all refine' For_turns lF' ?_); k_whole; k_dflt (refine' nameX_L lF' ?v ?_ ?a ?b; (case a => rfl); (case b => rfl); (case v => rfl)); (with_unfolding_all refine iter_X (by rfl) lF' lN' (by k_mem) (by assumption) (by k_keys) (by (simp only [kwOf_cons, kwOf_nil, List.map_cons, List.map_nil]; decide)) rfl ?_); clear lF' lN'; intro i' l1; (try k_lt l1); simp only [kwOf_cons, kwOf_nil, List.map_cons, List.map_nil]))
local macro_rules | `(tactic| k_get) => `(tactic| assumption)
local macro_rules | `(tactic| walk_at "setAttr ref") => `(tactic| (k_here; (with_reducible show wpAny _ _ (setAttr (Value.ref _) (Str.ofString "pduData") _) _ _ _); k_dflt (refine' set_dict ?k1 ?k2 ?k3 ?k4 ?k5 ?k6 ?k7 ?k8 ?k9 ?k10 ?k11 ?k12 ?k13 ?_; (case k1 => k_asm); (case k2 => k_asm); (case k3 => k_asm); (case k4 => k_inst); (case k5 => exact rfl); (case k6 => k_is); (case k7 => k_is); (case k8 => k_is); (case k9 => k_is); (case k10 => exact some_of_eq (by assumption)); (case k11 => exact put_pair (by assumption)); (case k12 => k_upd); (case k13 => assumption); k_whole; intro h' F' N')))
local macro_rules | `(tactic| k_room) => `(tactic| (show _ < _; (try simp only [depth_deeper, depth_in1]); (try dsimp only); omega))
local macro_rules | `(tactic| k_all) => `(tactic| assumption)
local macro_rules | `(tactic| k_ne) => `(tactic| assumption)
local macro_rules | `(tactic| walk_at "call builtin:len") => `(tactic| (k_here; (with_reducible show wpAny _ _ (call (Value.builtin "len") [Value.ref _]) _ _ _); k_dflt (refine' len_K' ?N ?m ?z ?_; (case N => k_asm); (case m => k_mem); (case z => assumption); k_whole; intro _ _)))
local macro_rules | `(tactic| walk_at "subscriptTail") => `(tactic| (k_here; (with_reducible show wpAny _ _ (subscriptTail _ _ (Value.ref _) (Value.int _ _)) _ _ _); k_dflt (refine' tail0_K ?N ?m ?_ ?s; (case N => k_asm); (case m => k_mem); (case s => with_unfolding_all rfl); k_whole)))
local macro_rules | `(tactic| walk_at "subscriptTail") => `(tactic| (k_here; (with_reducible show wpAny _ _ (subscriptTail _ (Expr.Slice _ _ _ _) (Value.ref _) (Value.ref _)) _ _ _); k_dflt (refine' tailTo_K ?F ?N ?m ?z ?y ?_ ?s; (case F => k_asm); (case N => k_asm); (case m => k_mem); (case s => with_unfolding_all rfl); (case z => assumption); (case y => assumption); k_whole; intro d' h' F' N' l1; (try k_lt l1))))
local macro_rules | `(tactic| walk_at "wpG") => `(tactic| first | (with_reducible refine wpG_execs_nil ?_) | (with_reducible refine wpG_execs_cons ?_) | (with_reducible refine wpG_If ?_) | (with_reducible refine wpG_Delete1 ?_) | (with_reducible refine wpG_AugAssign_AttributeAny ?_))
local macro_rules | `(tactic| walk_at "ite") => `(tactic| first | (rw [if_neg (by first | assumption | (simp; done) | (simp; omega))]) | (rw [if_pos (by first | assumption | (simp; done) | (simp; omega))]))
local macro_rules | `(tactic| walk_at "wpG") => `(tactic| first | (with_reducible refine wpG_spl_nil ?_))
local macro_rules | `(tactic| walk_at "call type:bytes") => `(tactic| (k_here; (with_reducible show wpAny _ _ (call (Value.type "bytes") [Value.ref _]) _ _ _); k_dflt (refine' bytesOf_K ?N ?m ?z ?_; (case N => k_asm); (case m => k_mem); (case z => (simp; omega)); k_whole)))
local macro_rules | `(tactic| walk_at "call builtin:_struct.unpack") => `(tactic| (k_here; k_dflt (first | (refine' unpackH_K ?F ?N ?z ?_; (case F => k_asm); (case N => k_asm); (case z => (simp; omega)); k_whole; intro d' h' n' tk' hn' F' N' l1; (try k_lt l1)) | (refine' unpackL_K ?F ?N ?z ?_; (case F => k_asm); (case N => k_asm); (case z => (simp; omega)); k_whole; intro d' h' n' tk' hn' F' N' l1; (try k_lt l1)))))
local macro_rules | `(tactic| walk_at "wpG") => `(tactic| (k_here; first | (with_reducible show wpG _ _ (call (Value.type "bytes") [Value.ref _]) _ _ _) | (with_reducible show wpG _ _ (call (Value.builtin "_struct.unpack") _) _ _ _); refine wpG_of ?_))
local macro_rules | `(tactic| walk_at "call builtin:isinstance") => `(tactic| (k_here; (with_reducible show wpAny _ _ (call (Value.builtin "isinstance") [Value.ref _, Value.type _]) _ _ _); k_dflt (first | (refine' isiBa_t ?N ?m ?_; (case N => k_asm); (case m => k_mem); k_whole) | (refine' isiBa_f ?N ?m ?t ?_; (case N => k_asm); (case m => k_mem); (case t => first | exact .inl rfl | exact .inr rfl); k_whole))))
local macro_rules | `(tactic| walk_at "call builtin:_struct.pack") => `(tactic| (k_here; first | (with_reducible refine packH_M ?_) | (with_reducible refine packL_M ?_); intro _ _))
local macro_rules | `(tactic| walk_at "call builtin:isinstance") => `(tactic| (k_here; (with_reducible show wpAny _ _ (call (Value.builtin "isinstance") [Value.ref _, Value.ref _]) _ _ _); k_dflt (refine' isiBa_tup ?N ?m ?t ?_; (case N => k_asm); (case m => k_mem); (case t => k_mem); k_whole; intro _)))
local macro_rules | `(tactic| walk_at "leaving ref") => `(tactic| (k_here; first
  | (refine' leave_newX ?k1 ?k0 ?k2 ?k3 ?_; (case k0 => assumption); (case k1 => assumption); (case k2 => assumption); (case k3 => k_asm); k_whole; intro h' R' U'; (try dsimp only at R' U' ⊢))
  | (refine' leave_onNX ?k1 ?k2 ?k3 ?k4 ?_; (case k3 => assumption); (case k1 => assumption); (case k4 => assumption); (case k2 => assumption); k_whole; intro h' R' U'; (try dsimp only at R' U' ⊢))))
local macro_rules | `(tactic| walk_at "pyIter ref") => `(tactic| (k_here; (with_reducible show wpAny _ _ (pyIter (Value.ref _)) (fun it s₂ => TurnsAt _ _ _ _ _ _ _ _ _ it s₂) _ _); (rename Fr _ _ _ _ => lF'); (rename News _ _ _ _ => lN'); (with_unfolding_all refine iter_tupTurns (by rfl) lF' lN' (by k_mem) (by rfl) (by rfl) ?_); clear lF' lN'; intro i' l1; (try k_lt l1)))
local macro_rules | `(tactic| k_lt $h:ident) => `(tactic| (replace $h := allLt_of $h; (simp only [AllLt, and_true] at $h:ident); (repeat (obtain ⟨_, $h⟩ := $h))))
local macro_rules | `(tactic| k_all) => `(tactic| first | assumption | exact List.forall_mem_nil _ | (refine' List.forall_mem_cons.mpr ⟨?a, ?b⟩; (case a => k_ne); (case b => k_all)) | exact allLt_ne (by assumption))
local macro_rules | `(tactic| walk_at "UnrEndW") => `(tactic| (k_here; k_dflt ((refine' unrEnd_one ?F ?N ?o ?_; (case F => k_asm); (case N => k_asm); (case o => k_all)); (try dsimp only); refine ⟨?sub, ?_⟩; (case sub => (repeat (first | exact True.intro | (refine And.intro ?x ?y; (case x => k_mem))))))))
local macro_rules | `(tactic| walk_at "wpG") => `(tactic| (k_here; (with_reducible show wpG _ _ (callWith _ (Value.ref _) _ (backTo _ (starEach [Expr.Starred _ _] _)) (backToKw _ (keywordEach [Keyword.mk none _ _] _))) _ _ _); k_dflt (refine' callGSS ?k1 ?k2 ?k3 ?k4 ?k5 ?k6 ?k7 ?k8 ?k9 ?ka ?kb ?kc ?_; (case k1 => k_asm); (case k2 => k_asm); (case k3 => exact nameX_L (by k_asm) rfl ⟨rfl, rfl⟩); (case k4 => exact fun _ _ F _ => nameX_L F rfl ⟨rfl, rfl⟩); (case k5 => k_mem); (case k6 => (simp only [List.length_cons, List.length_nil, sizeLine_eq]; omega)); (case k7 => k_mem); (case k8 => first | exact keyStr_nil | (repeat (first | exact keyStr_nil | refine keyStr_cons ?_))); (case k9 => first | rfl | decide +kernel); (case ka => (simp only [List.length_cons, List.length_nil, sizeLine_eq]; omega)); (case kb => assumption); (case kc => first | exact fun _ _ F N => keeper_meth N (List.Mem.tail _ (by k_mem)) (Frag.In.keeps (by k_asm) (Fr.keep F)) (by k_is) | exact fun _ _ F N => keeper_wrap N (List.Mem.tail _ (by k_mem))); k_whole; intro d' h' F' N' l1; (try k_lt l1); (simp only [kwOf_cons, kwOf_nil, List.nil_append, List.length_cons, List.length_nil] at N' ⊢))))
local macro_rules | `(tactic| k_get) => `(tactic| first | assumption | exact Flds.at (by assumption) rfl | fail "k_get")
local macro_rules | `(tactic| k_ne) => `(tactic| first | assumption | ((rename News _ _ _ _ => kN); refine' ne_of_ne kN ?m1 ?m2 ?cc; (case m1 => k_mem); (case m2 => k_mem); (case cc => (simp; done))) | fail "k_ne")
local macro_rules | `(tactic| walk_at "setAttr ref") => `(tactic| (k_here; k_dflt (refine' set_flds ?k1 ?k2 ?k3 ?k4 ?k5 ?k6 ?k7 ?k8 ?k9 ?k10 ?k12 ?k13 ?_; (case k1 => k_asm); (case k2 => k_asm); (case k3 => k_asm); (case k4 => k_inst); (case k5 => exact rfl); (case k10 => assumption); (case k6 => k_is); (case k7 => k_is); (case k8 => k_is); (case k9 => k_is); (case k12 => k_updF); (case k13 => exact Nat.le_of_ble_eq_true rfl); k_whole; intro h' es' n' F' N' fl'; (try dsimp only at N'))))

section
theorem w_off65 : True := by
  w_top off
  trivial
local macro_rules | `(tactic| walk_at "none") => `(tactic| fail)
-- F1

theorem copied_P {w : World} {A₀ : Around} {base h₀ : Heap} {outer : List Env} {env : Env} {L : Addr} {m mg mb : Str → Option Value} {s : Shared} {news : List (Addr × Obj)} {p : Program} {loose : List Str} {mean : ExcName → Option Value} {R : Result → Shared → Prop} {dd uu : Nat} {one dx a n k p1 p2 : Nat} {es : List DictEntry} {b : Array UInt8} {i3 i4 i5 : Int} {t3 t4 t5 : Tok}
    (B : Below A₀ base outer h₀) (F : Fr h₀ L s.heap m) (X : (MineH.hd.heap_39 w.params).In h₀) (T : Top p loose mean mg mb h₀)
    (hf : env.frame = some L) (hke : env.scope.kind = .function) (hdd : dd + 200 < recursionLimit) (huu : uu + 1000 < cLine)
    (N : News h₀ L s.heap ((one, instObj 375 dx) :: (dx, dictOf es n) :: (a, baObj b) :: news)) (fl : Flds es k (pduF a (.int i3 t3) (.int i4 t4) (.int i5 t5) p1 p2)) (hz : b.size ≤ sizeLine)
    (h : ∀ (x dx2 a2 : Nat) h' es2 n2 tk, @LT.lt Nat _ dx2 x → @LT.lt Nat _ x a2 → one < dx2 → dx < dx2 → a < dx2 → (∀ q ∈ news, q.1 < dx2) → Fr h₀ L h' m → News h₀ L h' ((a2, baObj b) :: (x, instObj 375 dx2) :: (dx2, dictOf es2 n2) :: (one, instObj 375 dx) :: (dx, dictOf es n) :: (a, baObj b) :: news) → Flds es2 11 (pduF a2 (.int i3 t3) (.int i4 t4) (.int i5 t5) p1 p2) → R (.ok (.ret (.ref x))) { s with heap := h', toks := tk }) :
    codeG (model PySem.Challenge.rw_bd5008_01.row.toRowW.prog w) (arnd dd uu (env :: outer)) (.call (.ref 462) ⟨[.ref one], []⟩) R s := by
  revert X
  k_fill
  intro X
  (refine' code_defG (cl := []) ?k1 ?k2 ?k3 ?k4 ?k5 ?kA ?kF ?kK ?k6 ?k7 ?k8 ?k9 ?kB ?_ ?c5 ?c2 ?c3 ?c4; (case kA => exact rfl); (case kF => exact hf); (case kK => exact hke); (case k1 => k_asm); (case k2 => k_asm); (case k3 => k_asm); (case k4 => k_asm); (case k5 => k_asm); (case k6 => k_is); (case k7 => k_is); (case k8 => show dd < _; omega); (case k9 => first | exact BindsTo.of_eq rfl | exact binds_K (by k_in) rfl (by k_is) rfl rfl rfl); (case c5 => decide); (case kB => exact locs rfl); (case c2 => exact rfl); (case c3 => exact rfl); (case c4 => exact rfl); k_whole; intro g' L' h' FG' F' N' B' X' T' l1'; (try dsimp only); (try k_lift B'); (try k_fold))
  generalize s.toks + _ = tk0
  refine wpG_execs_cons (wpG_Assign_Name (wpG_IfExp ?_))
  repeat (first | (k_unfold; (try dsimp only)) | walk1 | (dsimp only; walk1))
  refine wpG_Call_Name ?_
  repeat (first | (k_unfold; (try dsimp only)) | walk1 | (dsimp only; walk1))
  (refine' callG_K0 (K := MineH.hd.heap_39 w.params) (Frag.In.keeps ?X (Fr.keep ?F)) ?k ?_; (case X => k_asm); (case F => k_asm); (case k => k_is))
  (refine' wpG_call (mkPDU0 ?B ?F ?X ?T ?N ?f ?ke ?dd ?uu ?_); (case B => k_asm); (case F => k_asm); (case X => k_asm); (case T => k_asm); (case N => k_asm); (case f => exact rfl); (case ke => exact rfl); (case dd => show dd + 1 + _ < _; omega); (case uu => show uu + 3 + _ < _; omega))
  intro x dx2 a2 h2 es2 n2 tk2 u1 u2 l1 l2 l3 F2 N2 fl2
  dsimp only
  have m0 := l1
  have m1 : ∀ q ∈ news, q.1 < dx2 := fun q hq => l1 q (by repeat (first | exact hq | apply List.Mem.tail))
  have m2 : one < dx2 := l1 (one, _) (by k_mem)
  have m3 : dx < dx2 := l1 (dx, _) (by k_mem)
  have m4 : a < dx2 := l1 (a, _) (by k_mem)
  have m5 : ∀ q ∈ news, q.1 ≠ dx2 := fun q hq => Nat.ne_of_lt (m1 q hq)
  have m6 : ∀ q ∈ news, q.1 ≠ a2 := fun q hq => Nat.ne_of_lt (Nat.lt_trans (Nat.lt_trans (m1 q hq) l2) l3)
  repeat (first | (k_unfold; (try dsimp only)) | walk1 | (dsimp only; walk1))
  refine wpG_of ?_
  repeat (first | (k_unfold; (try dsimp only)) | walk1 | (dsimp only; walk1))
  refine wpG_Expr (wpG_Call_Attr ?_)
  repeat (first | (k_unfold; (try dsimp only)) | walk1 | (dsimp only; walk1))
  (refine' callG_K ?X ?k ?_; (case X => k_asm); (case k => k_is); k_whole)
  repeat (first | (k_unfold; (try dsimp only)) | walk1 | (dsimp only; walk1))
  (refine' wpG_call (put_data_ba_U ?c ?B ?F ?X ?T ?N ?h1 ?h2 ?U ?f ?ke ?dd ?uu ?hes ?e1 ?h4 ?hz ?g7 ?_); (case B => k_asm); (case F => k_asm); (case X => k_asm); (case T => k_asm); (case N => k_asm); (case h1 => k_mem); (case h2 => k_mem); (case h4 => k_mem); (case e1 => exact Flds.at (by assumption) rfl); (case U => first | k_updF | fail "U"); (case f => exact rfl); (case ke => exact rfl); (case dd => show dd + 1 + _ < _; omega); (case uu => show uu + 3 + _ < _; omega); (case c => first | exact .inl rfl | exact .inr rfl); (case hes => exact Nat.le_trans (Flds.len (by assumption)) (by decide)); (case hz => simpa using hz); (case g7 => exact Nat.ne_of_lt (Nat.lt_trans m4 (Nat.lt_trans l2 l3))))
  intro h9 tk9 F9 N9
  rw [Array.empty_append] at N9
  dsimp only
  repeat (first | (k_unfold; (try dsimp only)) | walk1 | (dsimp only; walk1))
  refine wpG_Return_some (wpG_of ?_)
  repeat (first | (k_unfold; (try dsimp only)) | walk1 | (dsimp only; walk1))
  (rename News h₀ L _ _ => kN)
  (refine' h x dx2 a2 ?h' ?es ?n ?tk l2 l3 m2 m3 m4 m1 ?F ?N ?fl; (case F => k_asm); (case N => exact kN); (case fl => exact Flds.congr (by assumption) (fun x => by
      by_cases q0 : x = Str.ofString "pduData"
      · subst q0; rfl
      by_cases q1 : x = Str.ofString "pduSource"
      · subst q1; rfl
      by_cases q2 : x = Str.ofString "pduDestination"
      · subst q2; rfl
      by_cases q3 : x = Str.ofString "pduUserData"
      · subst q3; rfl
      by_cases q4 : x = Str.ofString "pduExpectingReply"
      · subst q4; rfl
      by_cases q5 : x = Str.ofString "pduNetworkPriority"
      · subst q5; rfl
      simp only [if_neg q0, if_neg q1, if_neg q2, if_neg q3, if_neg q4, if_neg q5])))

theorem copied_N {w : World} {A₀ : Around} {base h₀ : Heap} {outer : List Env} {env : Env} {L : Addr} {m mg mb : Str → Option Value} {s : Shared} {news : List (Addr × Obj)} {p : Program} {loose : List Str} {mean : ExcName → Option Value} {R : Result → Shared → Prop} {dd uu : Nat} {one dx a n k p1 p2 : Nat} {es : List DictEntry} {b : Array UInt8} {i3 i4 i5 : Int} {t3 t4 t5 : Tok} {j1 j2 j3 j4 j5 : Int} {s1 s2 s3 s4 s5 : Tok}
    (B : Below A₀ base outer h₀) (F : Fr h₀ L s.heap m) (X : (MineH.hd.heap_39 w.params).In h₀) (T : Top p loose mean mg mb h₀)
    (hf : env.frame = some L) (hke : env.scope.kind = .function) (hdd : dd + 200 < recursionLimit) (huu : uu + 1000 < cLine)
    (N : News h₀ L s.heap ((one, instObj 453 dx) :: (dx, dictOf es n) :: (a, baObj b) :: news)) (fl : Flds es k (npduF a (.int i3 t3) (.int i4 t4) (.int i5 t5) p1 p2 (.int j1 s1) (.int j2 s2) (.int j3 s3) (.int j4 s4) (.int j5 s5))) (hz : b.size ≤ sizeLine)
    (h : ∀ (x dx2 a2 : Nat) h' es2 n2 tk, @LT.lt Nat _ dx2 x → @LT.lt Nat _ x a2 → one < dx2 → dx < dx2 → a < dx2 → (∀ q ∈ news, q.1 < dx2) → Fr h₀ L h' m → News h₀ L h' ((a2, baObj b) :: (x, instObj 453 dx2) :: (dx2, dictOf es2 n2) :: (one, instObj 453 dx) :: (dx, dictOf es n) :: (a, baObj b) :: news) → Flds es2 25 (npduF a2 (.int i3 t3) (.int i4 t4) (.int i5 t5) p1 p2 (.int j1 s1) (.int j2 s2) (.int j3 s3) (.int j4 s4) (.int j5 s5)) → R (.ok (.ret (.ref x))) { s with heap := h', toks := tk }) :
    codeG (model PySem.Challenge.rw_bd5008_01.row.toRowW.prog w) (arnd dd uu (env :: outer)) (.call (.ref 462) ⟨[.ref one], []⟩) R s := by
  revert X
  k_fill
  intro X
  (refine' code_defG (cl := []) ?k1 ?k2 ?k3 ?k4 ?k5 ?kA ?kF ?kK ?k6 ?k7 ?k8 ?k9 ?kB ?_ ?c5 ?c2 ?c3 ?c4; (case kA => exact rfl); (case kF => exact hf); (case kK => exact hke); (case k1 => k_asm); (case k2 => k_asm); (case k3 => k_asm); (case k4 => k_asm); (case k5 => k_asm); (case k6 => k_is); (case k7 => k_is); (case k8 => show dd < _; omega); (case k9 => first | exact BindsTo.of_eq rfl | exact binds_K (by k_in) rfl (by k_is) rfl rfl rfl); (case c5 => decide); (case kB => exact locs rfl); (case c2 => exact rfl); (case c3 => exact rfl); (case c4 => exact rfl); k_whole; intro g' L' h' FG' F' N' B' X' T' l1'; (try dsimp only); (try k_lift B'); (try k_fold))
  generalize s.toks + _ = tk0
  refine wpG_execs_cons (wpG_Assign_Name (wpG_IfExp ?_))
  repeat (first | (k_unfold; (try dsimp only)) | walk1 | (dsimp only; walk1))
  refine wpG_Call_Name ?_
  repeat (first | (k_unfold; (try dsimp only)) | walk1 | (dsimp only; walk1))
  (refine' callG_K0 (K := MineH.hd.heap_39 w.params) (Frag.In.keeps ?X (Fr.keep ?F)) ?k ?_; (case X => k_asm); (case F => k_asm); (case k => k_is))
  (refine' wpG_call (mkNPDU0 ?B ?F ?X ?T ?N ?f ?ke ?dd ?uu ?_); (case B => k_asm); (case F => k_asm); (case X => k_asm); (case T => k_asm); (case N => k_asm); (case f => exact rfl); (case ke => exact rfl); (case dd => show dd + 1 + _ < _; omega); (case uu => show uu + 3 + _ < _; omega))
  intro x dx2 a2 h2 es2 n2 tk2 u1 u2 u3 l1 l2 l3 F2 N2 fl2
  dsimp only
  have m0 := l1
  have m1 : ∀ q ∈ news, q.1 < dx2 := fun q hq => l1 q (by repeat (first | exact hq | apply List.Mem.tail))
  have m2 : one < dx2 := l1 (one, _) (by k_mem)
  have m3 : dx < dx2 := l1 (dx, _) (by k_mem)
  have m4 : a < dx2 := l1 (a, _) (by k_mem)
  have m5 : ∀ q ∈ news, q.1 ≠ dx2 := fun q hq => Nat.ne_of_lt (m1 q hq)
  have m6 : ∀ q ∈ news, q.1 ≠ a2 := fun q hq => Nat.ne_of_lt (Nat.lt_trans (Nat.lt_trans (m1 q hq) l2) l3)
  repeat (first | (k_unfold; (try dsimp only)) | walk1 | (dsimp only; walk1))
  refine wpG_of ?_
  repeat (first | (k_unfold; (try dsimp only)) | walk1 | (dsimp only; walk1))
  refine wpG_Expr (wpG_Call_Attr ?_)
  repeat (first | (k_unfold; (try dsimp only)) | walk1 | (dsimp only; walk1))
  (refine' callG_K ?X ?k ?_; (case X => k_asm); (case k => k_is); k_whole)
  repeat (first | (k_unfold; (try dsimp only)) | walk1 | (dsimp only; walk1))
  (refine' wpG_call (put_data_ba_U ?c ?B ?F ?X ?T ?N ?h1 ?h2 ?U ?f ?ke ?dd ?uu ?hes ?e1 ?h4 ?hz ?g7 ?_); (case B => k_asm); (case F => k_asm); (case X => k_asm); (case T => k_asm); (case N => k_asm); (case h1 => k_mem); (case h2 => k_mem); (case h4 => k_mem); (case e1 => exact Flds.at (by assumption) rfl); (case U => first | k_updF | fail "U"); (case f => exact rfl); (case ke => exact rfl); (case dd => show dd + 1 + _ < _; omega); (case uu => show uu + 3 + _ < _; omega); (case c => first | exact .inl rfl | exact .inr rfl); (case hes => exact Nat.le_trans (Flds.len (by assumption)) (by decide)); (case hz => simpa using hz); (case g7 => exact Nat.ne_of_lt (Nat.lt_trans m4 (Nat.lt_trans l2 l3))))
  intro h9 tk9 F9 N9
  rw [Array.empty_append] at N9
  dsimp only
  repeat (first | (k_unfold; (try dsimp only)) | walk1 | (dsimp only; walk1))
  refine wpG_Return_some (wpG_of ?_)
  repeat (first | (k_unfold; (try dsimp only)) | walk1 | (dsimp only; walk1))
  (rename News h₀ L _ _ => kN)
  (refine' h x dx2 a2 ?h' ?es ?n ?tk l2 l3 m2 m3 m4 m1 ?F ?N ?fl; (case F => k_asm); (case N => exact kN); (case fl => exact Flds.congr (by assumption) (fun x => by
      by_cases q0 : x = Str.ofString "pduData"
      · subst q0; rfl
      by_cases q1 : x = Str.ofString "pduSource"
      · subst q1; rfl
      by_cases q2 : x = Str.ofString "pduDestination"
      · subst q2; rfl
      by_cases q3 : x = Str.ofString "pduUserData"
      · subst q3; rfl
      by_cases q4 : x = Str.ofString "pduExpectingReply"
      · subst q4; rfl
      by_cases q5 : x = Str.ofString "pduNetworkPriority"
      · subst q5; rfl
      by_cases q6 : x = Str.ofString "npduVersion"
      · subst q6; rfl
      by_cases q7 : x = Str.ofString "npduControl"
      · subst q7; rfl
      by_cases q8 : x = Str.ofString "npduDADR"
      · subst q8; rfl
      by_cases q9 : x = Str.ofString "npduSADR"
      · subst q9; rfl
      by_cases q10 : x = Str.ofString "npduHopCount"
      · subst q10; rfl
      by_cases q11 : x = Str.ofString "npduNetMessage"
      · subst q11; rfl
      by_cases q12 : x = Str.ofString "npduVendorID"
      · subst q12; rfl
      simp only [if_neg q0, if_neg q1, if_neg q2, if_neg q3, if_neg q4, if_neg q5, if_neg q6, if_neg q7, if_neg q8, if_neg q9, if_neg q10, if_neg q11, if_neg q12])))
end

section
theorem w_off66 : True := by
  w_top off
  trivial
local macro_rules | `(tactic| k_mem) => `(tactic| assumption)
local macro_rules | `(tactic| walk_at "none") => `(tactic| fail)
local macro_rules | `(tactic| walk_at "none") => `(tactic| fail)
-- F2

theorem take0_ok {w : World} {A₀ : Around} {base h₀ : Heap} {outer : List Env} {env : Env} {L : Addr} {m mg mb : Str → Option Value} {s : Shared} {all : List (Addr × Obj)} {g : Obj → List (Addr × Obj)} {p : Program} {loose : List Str} {mean : ExcName → Option Value} {R : Result → Shared → Prop} {dd uu : Nat}
    {one dx a C n : Nat} {es : List DictEntry} {c : UInt8} {l : List UInt8} {k : Int} {tp tk9 : Tok}
    (hC : C = 375 ∨ C = 453) (B : Below A₀ base outer h₀) (F : Fr h₀ L s.heap m) (X : (MineH.hd.heap_39 w.params).In h₀) (T : Top p loose mean mg mb h₀)
    (hf : env.frame = some L) (hke : env.scope.kind = .function) (hdd : dd + 100 < recursionLimit) (huu : uu + 500 < cLine)
    (N : News h₀ L s.heap all) (h1 : (one, instObj C dx) ∈ all) (h2 : (dx, dictOf es n) ∈ all) (U : UpdF a (baObj (c :: l).toArray) all g)
    (hes : es.length ≤ 1000) (e1 : getL (Str.ofString "pduData") es = some (some (.ref a)))
    (eg : getL (Str.ofString "get") es = some none) (hz : (c :: l).toArray.size ≤ sizeLine)
    (h : ∀ h' t tk, Fr h₀ L h' m → News h₀ L h' (g (baObj l.toArray)) → R (.ok (.ret (.int c.toNat t))) { s with heap := h', toks := tk }) :
    codeG (model PySem.Challenge.rw_bd5008_01.row.toRowW.prog w) (arnd dd uu (env :: outer)) (.call (.ref 469) ⟨[.ref one, .int 0 tp, .int k tk9], []⟩) R s := by
  revert X
  k_fill
  intro X
  rcases hC with rfl | rfl
  all_goals
    (refine' code_defG (cl := []) ?k1 ?k2 ?k3 ?k4 ?k5 ?kA ?kF ?kK ?k6 ?k7 ?k8 ?k9 ?kB ?_ ?c5 ?c2 ?c3 ?c4; (case kA => exact rfl); (case kF => exact hf); (case kK => exact hke); (case k1 => k_asm); (case k2 => k_asm); (case k3 => k_asm); (case k4 => k_asm); (case k5 => k_asm); (case k6 => k_is); (case k7 => k_is); (case k8 => show dd < _; omega); (case k9 => first | exact BindsTo.of_eq rfl | exact binds_K (by k_in) rfl (by k_is) rfl rfl rfl); (case c5 => decide); (case kB => exact locs rfl); (case c2 => exact rfl); (case c3 => exact rfl); (case c4 => exact rfl); k_whole; intro g' L' h' FG' F' N' B' X' T' l1'; (try dsimp only); (try k_lift B'); (try k_fold))
    generalize s.toks + _ = tk0
    repeat (first | (k_unfold; (try dsimp only)) | walk1 | (dsimp only; walk1))
    refine wpG_Return_some (wpG_Call_Attr ?_)
    repeat (first | (k_unfold; (try dsimp only)) | walk1 | (dsimp only; walk1))
    (refine' callG_K0 (K := MineH.hd.heap_39 w.params) (Frag.In.keeps ?X (Fr.keep ?F)) ?k ?_; (case X => k_asm); (case F => k_asm); (case k => k_is))
    (refine' wpG_call (get_ok_U ?c9 ?B9 ?F9 ?X9 ?T9 ?N9 h1 h2 U ?f9 ?ke9 ?dd9 ?uu9 hes e1 hz ?_); (case B9 => k_asm); (case F9 => k_asm); (case X9 => k_asm); (case T9 => k_asm); (case N9 => k_asm); (case f9 => exact rfl); (case ke9 => exact rfl); (case dd9 => show dd + 1 + _ < _; omega); (case uu9 => show uu + 3 + _ < _; omega); (case c9 => first | exact .inl rfl | exact .inr rfl))
    intro h2 t2 tk2 F2 N2
    dsimp only
    repeat (first | (k_unfold; (try dsimp only)) | walk1 | (dsimp only; walk1))
    exact h _ _ _ (by assumption) (by assumption)

theorem take0_bad {w : World} {A₀ : Around} {base h₀ : Heap} {outer : List Env} {env : Env} {L : Addr} {m mg mb : Str → Option Value} {s : Shared} {all : List (Addr × Obj)} {g : Obj → List (Addr × Obj)} {p : Program} {loose : List Str} {mean : ExcName → Option Value} {R : Result → Shared → Prop} {dd uu : Nat}
    {one dx a C n : Nat} {es : List DictEntry}  {k : Int} {tp tk9 : Tok}
    (hC : C = 375 ∨ C = 453) (B : Below A₀ base outer h₀) (F : Fr h₀ L s.heap m) (X : (MineH.hd.heap_39 w.params).In h₀) (T : Top p loose mean mg mb h₀)
    (hf : env.frame = some L) (hke : env.scope.kind = .function) (hdd : dd + 100 < recursionLimit) (huu : uu + 500 < cLine)
    (N : News h₀ L s.heap all) (h1 : (one, instObj C dx) ∈ all) (h2 : (dx, dictOf es n) ∈ all) (U : UpdF a (baObj #[]) all g)
    (hes : es.length ≤ 1000) (e1 : getL (Str.ofString "pduData") es = some (some (.ref a)))
    (eg : getL (Str.ofString "get") es = some none) 
    (h : ∀ g' h' e t vs tk, Fr h₀ L g' m → g'.UpToSlots h' → RaisedK base (env :: outer) e (.ref 69) t vs all h' → R (.error (.ref e)) { s with heap := h', toks := tk }) :
    codeG (model PySem.Challenge.rw_bd5008_01.row.toRowW.prog w) (arnd dd uu (env :: outer)) (.call (.ref 469) ⟨[.ref one, .int 0 tp, .int k tk9], []⟩) R s := by
  revert X
  k_fill
  intro X
  rcases hC with rfl | rfl
  all_goals
    (refine' code_defG (cl := []) ?k1 ?k2 ?k3 ?k4 ?k5 ?kA ?kF ?kK ?k6 ?k7 ?k8 ?k9 ?kB ?_ ?c5 ?c2 ?c3 ?c4; (case kA => exact rfl); (case kF => exact hf); (case kK => exact hke); (case k1 => k_asm); (case k2 => k_asm); (case k3 => k_asm); (case k4 => k_asm); (case k5 => k_asm); (case k6 => k_is); (case k7 => k_is); (case k8 => show dd < _; omega); (case k9 => first | exact BindsTo.of_eq rfl | exact binds_K (by k_in) rfl (by k_is) rfl rfl rfl); (case c5 => decide); (case kB => exact locs rfl); (case c2 => exact rfl); (case c3 => exact rfl); (case c4 => exact rfl); k_whole; intro g' L' h' FG' F' N' B' X' T' l1'; (try dsimp only); (try k_lift B'); (try k_fold))
    generalize s.toks + _ = tk0
    repeat (first | (k_unfold; (try dsimp only)) | walk1 | (dsimp only; walk1))
    refine wpG_Return_some (wpG_Call_Attr ?_)
    repeat (first | (k_unfold; (try dsimp only)) | walk1 | (dsimp only; walk1))
    (refine' callG_K0 (K := MineH.hd.heap_39 w.params) (Frag.In.keeps ?X (Fr.keep ?F)) ?k ?_; (case X => k_asm); (case F => k_asm); (case k => k_is))
    (refine' wpG_call (get_bad_U ?c9 ?B9 ?F9 ?X9 ?T9 ?N9 h1 h2 U ?f9 ?ke9 ?dd9 ?uu9 hes e1  ?_); (case B9 => k_asm); (case F9 => k_asm); (case X9 => k_asm); (case T9 => k_asm); (case N9 => k_asm); (case f9 => exact rfl); (case ke9 => exact rfl); (case dd9 => show dd + 1 + _ < _; omega); (case uu9 => show uu + 3 + _ < _; omega); (case c9 => first | exact .inl rfl | exact .inr rfl))
    intro g2 h2 e2 t2 vs2 tk2 FG2 U2 R2
    dsimp only
    (refine leave_onK (by k_asm) FG2 R2 U2 fun h3 R3 U3 => ?_)
    exact h _ _ _ _ _ _ FG' U3 R3

theorem take1_ok {w : World} {A₀ : Around} {base h₀ : Heap} {outer : List Env} {env : Env} {L : Addr} {m mg mb : Str → Option Value} {s : Shared} {all : List (Addr × Obj)} {g : Obj → List (Addr × Obj)} {p : Program} {loose : List Str} {mean : ExcName → Option Value} {R : Result → Shared → Prop} {dd uu : Nat}
    {one dx a C n : Nat} {es : List DictEntry} {b : Array UInt8} {k : Int} {tp tk9 : Tok}
    (hC : C = 375 ∨ C = 453) (B : Below A₀ base outer h₀) (F : Fr h₀ L s.heap m) (X : (MineH.hd.heap_39 w.params).In h₀) (T : Top p loose mean mg mb h₀)
    (hf : env.frame = some L) (hke : env.scope.kind = .function) (hdd : dd + 100 < recursionLimit) (huu : uu + 500 < cLine)
    (N : News h₀ L s.heap all) (h1 : (one, instObj C dx) ∈ all) (h2 : (dx, dictOf es n) ∈ all) (U : UpdF a (baObj b) all g)
    (hes : es.length ≤ 1000) (e1 : getL (Str.ofString "pduData") es = some (some (.ref a)))
    (eg : getL (Str.ofString "get_data") es = some none) (hz : b.size ≤ sizeLine) (hk0 : 0 ≤ k) (hk : k ≤ b.size)
    (h : ∀ d h' tk, Fr h₀ L h' m → News h₀ L h' ((d, baObj (b.toList.take k.toNat).toArray) :: g (baObj (b.toList.drop k.toNat).toArray)) → R (.ok (.ret (.ref d))) { s with heap := h', toks := tk }) :
    codeG (model PySem.Challenge.rw_bd5008_01.row.toRowW.prog w) (arnd dd uu (env :: outer)) (.call (.ref 469) ⟨[.ref one, .int 1 tp, .int k tk9], []⟩) R s := by
  revert X
  k_fill
  intro X
  rcases hC with rfl | rfl
  all_goals
    (refine' code_defG (cl := []) ?k1 ?k2 ?k3 ?k4 ?k5 ?kA ?kF ?kK ?k6 ?k7 ?k8 ?k9 ?kB ?_ ?c5 ?c2 ?c3 ?c4; (case kA => exact rfl); (case kF => exact hf); (case kK => exact hke); (case k1 => k_asm); (case k2 => k_asm); (case k3 => k_asm); (case k4 => k_asm); (case k5 => k_asm); (case k6 => k_is); (case k7 => k_is); (case k8 => show dd < _; omega); (case k9 => first | exact BindsTo.of_eq rfl | exact binds_K (by k_in) rfl (by k_is) rfl rfl rfl); (case c5 => decide); (case kB => exact locs rfl); (case c2 => exact rfl); (case c3 => exact rfl); (case c4 => exact rfl); k_whole; intro g' L' h' FG' F' N' B' X' T' l1'; (try dsimp only); (try k_lift B'); (try k_fold))
    generalize s.toks + _ = tk0
    repeat (first | (k_unfold; (try dsimp only)) | walk1 | (dsimp only; walk1))
    refine wpG_Return_some (wpG_Call_Attr ?_)
    repeat (first | (k_unfold; (try dsimp only)) | walk1 | (dsimp only; walk1))
    (refine' callG_K ?X ?k ?_; (case X => k_asm); (case k => k_is); k_whole)
    repeat (first | (k_unfold; (try dsimp only)) | walk1 | (dsimp only; walk1))
    (refine' wpG_call (get_data_ok_U ?c9 ?B9 ?F9 ?X9 ?T9 ?N9 h1 h2 U ?f9 ?ke9 ?dd9 ?uu9 hes e1 hz hk0 hk ?_); (case B9 => k_asm); (case F9 => k_asm); (case X9 => k_asm); (case T9 => k_asm); (case N9 => k_asm); (case f9 => exact rfl); (case ke9 => exact rfl); (case dd9 => show dd + 1 + _ < _; omega); (case uu9 => show uu + 3 + _ < _; omega); (case c9 => first | exact .inl rfl | exact .inr rfl))
    intro d2 h2 tk2 F2 N2
    dsimp only
    repeat (first | (k_unfold; (try dsimp only)) | walk1 | (dsimp only; walk1))
    exact h _ _ _ (by assumption) (by assumption)

theorem take1_bad {w : World} {A₀ : Around} {base h₀ : Heap} {outer : List Env} {env : Env} {L : Addr} {m mg mb : Str → Option Value} {s : Shared} {all : List (Addr × Obj)} {g : Obj → List (Addr × Obj)} {p : Program} {loose : List Str} {mean : ExcName → Option Value} {R : Result → Shared → Prop} {dd uu : Nat}
    {one dx a C n : Nat} {es : List DictEntry} {b : Array UInt8} {k : Int} {tp tk9 : Tok}
    (hC : C = 375 ∨ C = 453) (B : Below A₀ base outer h₀) (F : Fr h₀ L s.heap m) (X : (MineH.hd.heap_39 w.params).In h₀) (T : Top p loose mean mg mb h₀)
    (hf : env.frame = some L) (hke : env.scope.kind = .function) (hdd : dd + 100 < recursionLimit) (huu : uu + 500 < cLine)
    (N : News h₀ L s.heap all) (h1 : (one, instObj C dx) ∈ all) (h2 : (dx, dictOf es n) ∈ all) (U : UpdF a (baObj b) all g)
    (hes : es.length ≤ 1000) (e1 : getL (Str.ofString "pduData") es = some (some (.ref a)))
    (eg : getL (Str.ofString "get_data") es = some none) (hz : b.size ≤ sizeLine) (hk : b.size < k)
    (h : ∀ g' h' e t vs tk, Fr h₀ L g' m → g'.UpToSlots h' → RaisedK base (env :: outer) e (.ref 69) t vs all h' → R (.error (.ref e)) { s with heap := h', toks := tk }) :
    codeG (model PySem.Challenge.rw_bd5008_01.row.toRowW.prog w) (arnd dd uu (env :: outer)) (.call (.ref 469) ⟨[.ref one, .int 1 tp, .int k tk9], []⟩) R s := by
  revert X
  k_fill
  intro X
  rcases hC with rfl | rfl
  all_goals
    (refine' code_defG (cl := []) ?k1 ?k2 ?k3 ?k4 ?k5 ?kA ?kF ?kK ?k6 ?k7 ?k8 ?k9 ?kB ?_ ?c5 ?c2 ?c3 ?c4; (case kA => exact rfl); (case kF => exact hf); (case kK => exact hke); (case k1 => k_asm); (case k2 => k_asm); (case k3 => k_asm); (case k4 => k_asm); (case k5 => k_asm); (case k6 => k_is); (case k7 => k_is); (case k8 => show dd < _; omega); (case k9 => first | exact BindsTo.of_eq rfl | exact binds_K (by k_in) rfl (by k_is) rfl rfl rfl); (case c5 => decide); (case kB => exact locs rfl); (case c2 => exact rfl); (case c3 => exact rfl); (case c4 => exact rfl); k_whole; intro g' L' h' FG' F' N' B' X' T' l1'; (try dsimp only); (try k_lift B'); (try k_fold))
    generalize s.toks + _ = tk0
    repeat (first | (k_unfold; (try dsimp only)) | walk1 | (dsimp only; walk1))
    refine wpG_Return_some (wpG_Call_Attr ?_)
    repeat (first | (k_unfold; (try dsimp only)) | walk1 | (dsimp only; walk1))
    (refine' callG_K ?X ?k ?_; (case X => k_asm); (case k => k_is); k_whole)
    repeat (first | (k_unfold; (try dsimp only)) | walk1 | (dsimp only; walk1))
    (refine' wpG_call (get_data_bad_U ?c9 ?B9 ?F9 ?X9 ?T9 ?N9 h1 h2 U ?f9 ?ke9 ?dd9 ?uu9 hes e1 hz hk ?_); (case B9 => k_asm); (case F9 => k_asm); (case X9 => k_asm); (case T9 => k_asm); (case N9 => k_asm); (case f9 => exact rfl); (case ke9 => exact rfl); (case dd9 => show dd + 1 + _ < _; omega); (case uu9 => show uu + 3 + _ < _; omega); (case c9 => first | exact .inl rfl | exact .inr rfl))
    intro g2 h2 e2 t2 vs2 tk2 FG2 U2 R2
    dsimp only
    (refine leave_onK (by k_asm) FG2 R2 U2 fun h3 R3 U3 => ?_)
    exact h _ _ _ _ _ _ FG' U3 R3

theorem take2_ok {w : World} {A₀ : Around} {base h₀ : Heap} {outer : List Env} {env : Env} {L : Addr} {m mg mb : Str → Option Value} {s : Shared} {all : List (Addr × Obj)} {g : Obj → List (Addr × Obj)} {p : Program} {loose : List Str} {mean : ExcName → Option Value} {R : Result → Shared → Prop} {dd uu : Nat}
    {one dx a C n : Nat} {es : List DictEntry} {b : Array UInt8} {k : Int} {tp tk9 : Tok}
    (hC : C = 375 ∨ C = 453) (B : Below A₀ base outer h₀) (F : Fr h₀ L s.heap m) (X : (MineH.hd.heap_39 w.params).In h₀) (T : Top p loose mean mg mb h₀)
    (hf : env.frame = some L) (hke : env.scope.kind = .function) (hdd : dd + 100 < recursionLimit) (huu : uu + 500 < cLine)
    (N : News h₀ L s.heap all) (h1 : (one, instObj C dx) ∈ all) (h2 : (dx, dictOf es n) ∈ all) (U : UpdF a (baObj b) all g)
    (hes : es.length ≤ 1000) (e1 : getL (Str.ofString "pduData") es = some (some (.ref a)))
    (eg : getL (Str.ofString "get_short") es = some none) (e2 : getL (Str.ofString "get_data") es = some none) (hz : b.size ≤ sizeLine) (hk : 2 ≤ b.size)
    (h : ∀ h' v t tk, v = Builtin.Struct.natOf true (b.toList.take 2).toArray → Fr h₀ L h' m → News h₀ L h' (g (baObj (b.toList.drop 2).toArray)) → R (.ok (.ret (.int (v : Nat) t))) { s with heap := h', toks := tk }) :
    codeG (model PySem.Challenge.rw_bd5008_01.row.toRowW.prog w) (arnd dd uu (env :: outer)) (.call (.ref 469) ⟨[.ref one, .int 2 tp, .int k tk9], []⟩) R s := by
  revert X
  k_fill
  intro X
  rcases hC with rfl | rfl
  all_goals
    (refine' code_defG (cl := []) ?k1 ?k2 ?k3 ?k4 ?k5 ?kA ?kF ?kK ?k6 ?k7 ?k8 ?k9 ?kB ?_ ?c5 ?c2 ?c3 ?c4; (case kA => exact rfl); (case kF => exact hf); (case kK => exact hke); (case k1 => k_asm); (case k2 => k_asm); (case k3 => k_asm); (case k4 => k_asm); (case k5 => k_asm); (case k6 => k_is); (case k7 => k_is); (case k8 => show dd < _; omega); (case k9 => first | exact BindsTo.of_eq rfl | exact binds_K (by k_in) rfl (by k_is) rfl rfl rfl); (case c5 => decide); (case kB => exact locs rfl); (case c2 => exact rfl); (case c3 => exact rfl); (case c4 => exact rfl); k_whole; intro g' L' h' FG' F' N' B' X' T' l1'; (try dsimp only); (try k_lift B'); (try k_fold))
    generalize s.toks + _ = tk0
    repeat (first | (k_unfold; (try dsimp only)) | walk1 | (dsimp only; walk1))
    refine wpG_Return_some (wpG_Call_Attr ?_)
    repeat (first | (k_unfold; (try dsimp only)) | walk1 | (dsimp only; walk1))
    (refine' callG_K0 (K := MineH.hd.heap_39 w.params) (Frag.In.keeps ?X (Fr.keep ?F)) ?k ?_; (case X => k_asm); (case F => k_asm); (case k => k_is))
    (refine' wpG_call (get_short_ok_U ?c9 ?B9 ?F9 ?X9 ?T9 ?N9 h1 h2 U ?f9 ?ke9 ?dd9 ?uu9 hes e1 e2 hz hk ?_); (case B9 => k_asm); (case F9 => k_asm); (case X9 => k_asm); (case T9 => k_asm); (case N9 => k_asm); (case f9 => exact rfl); (case ke9 => exact rfl); (case dd9 => show dd + 1 + _ < _; omega); (case uu9 => show uu + 3 + _ < _; omega); (case c9 => first | exact .inl rfl | exact .inr rfl))
    intro h2 v2 t2 tk2 hv2 F2 N2
    dsimp only
    repeat (first | (k_unfold; (try dsimp only)) | walk1 | (dsimp only; walk1))
    exact h _ _ _ _ (by assumption) (by assumption) (by assumption)

theorem take2_bad {w : World} {A₀ : Around} {base h₀ : Heap} {outer : List Env} {env : Env} {L : Addr} {m mg mb : Str → Option Value} {s : Shared} {all : List (Addr × Obj)} {g : Obj → List (Addr × Obj)} {p : Program} {loose : List Str} {mean : ExcName → Option Value} {R : Result → Shared → Prop} {dd uu : Nat}
    {one dx a C n : Nat} {es : List DictEntry} {b : Array UInt8} {k : Int} {tp tk9 : Tok}
    (hC : C = 375 ∨ C = 453) (B : Below A₀ base outer h₀) (F : Fr h₀ L s.heap m) (X : (MineH.hd.heap_39 w.params).In h₀) (T : Top p loose mean mg mb h₀)
    (hf : env.frame = some L) (hke : env.scope.kind = .function) (hdd : dd + 100 < recursionLimit) (huu : uu + 500 < cLine)
    (N : News h₀ L s.heap all) (h1 : (one, instObj C dx) ∈ all) (h2 : (dx, dictOf es n) ∈ all) (U : UpdF a (baObj b) all g)
    (hes : es.length ≤ 1000) (e1 : getL (Str.ofString "pduData") es = some (some (.ref a)))
    (eg : getL (Str.ofString "get_short") es = some none) (e2 : getL (Str.ofString "get_data") es = some none) (hz : b.size ≤ sizeLine) (hk : b.size < 2)
    (h : ∀ g' h' e t vs tk, Fr h₀ L g' m → g'.UpToSlots h' → RaisedK base (env :: outer) e (.ref 69) t vs all h' → R (.error (.ref e)) { s with heap := h', toks := tk }) :
    codeG (model PySem.Challenge.rw_bd5008_01.row.toRowW.prog w) (arnd dd uu (env :: outer)) (.call (.ref 469) ⟨[.ref one, .int 2 tp, .int k tk9], []⟩) R s := by
  revert X
  k_fill
  intro X
  rcases hC with rfl | rfl
  all_goals
    (refine' code_defG (cl := []) ?k1 ?k2 ?k3 ?k4 ?k5 ?kA ?kF ?kK ?k6 ?k7 ?k8 ?k9 ?kB ?_ ?c5 ?c2 ?c3 ?c4; (case kA => exact rfl); (case kF => exact hf); (case kK => exact hke); (case k1 => k_asm); (case k2 => k_asm); (case k3 => k_asm); (case k4 => k_asm); (case k5 => k_asm); (case k6 => k_is); (case k7 => k_is); (case k8 => show dd < _; omega); (case k9 => first | exact BindsTo.of_eq rfl | exact binds_K (by k_in) rfl (by k_is) rfl rfl rfl); (case c5 => decide); (case kB => exact locs rfl); (case c2 => exact rfl); (case c3 => exact rfl); (case c4 => exact rfl); k_whole; intro g' L' h' FG' F' N' B' X' T' l1'; (try dsimp only); (try k_lift B'); (try k_fold))
    generalize s.toks + _ = tk0
    repeat (first | (k_unfold; (try dsimp only)) | walk1 | (dsimp only; walk1))
    refine wpG_Return_some (wpG_Call_Attr ?_)
    repeat (first | (k_unfold; (try dsimp only)) | walk1 | (dsimp only; walk1))
    (refine' callG_K0 (K := MineH.hd.heap_39 w.params) (Frag.In.keeps ?X (Fr.keep ?F)) ?k ?_; (case X => k_asm); (case F => k_asm); (case k => k_is))
    (refine' wpG_call (get_short_bad_U ?c9 ?B9 ?F9 ?X9 ?T9 ?N9 h1 h2 U ?f9 ?ke9 ?dd9 ?uu9 hes e1 e2 hz hk ?_); (case B9 => k_asm); (case F9 => k_asm); (case X9 => k_asm); (case T9 => k_asm); (case N9 => k_asm); (case f9 => exact rfl); (case ke9 => exact rfl); (case dd9 => show dd + 1 + _ < _; omega); (case uu9 => show uu + 3 + _ < _; omega); (case c9 => first | exact .inl rfl | exact .inr rfl))
    intro g2 h2 e2 t2 vs2 tk2 FG2 U2 R2
    dsimp only
    (refine leave_onK (by k_asm) FG2 R2 U2 fun h3 R3 U3 => ?_)
    exact h _ _ _ _ _ _ FG' U3 R3

theorem take3_ok {w : World} {A₀ : Around} {base h₀ : Heap} {outer : List Env} {env : Env} {L : Addr} {m mg mb : Str → Option Value} {s : Shared} {all : List (Addr × Obj)} {g : Obj → List (Addr × Obj)} {p : Program} {loose : List Str} {mean : ExcName → Option Value} {R : Result → Shared → Prop} {dd uu : Nat}
    {one dx a C n : Nat} {es : List DictEntry} {b : Array UInt8} {k : Int} {tp tk9 : Tok}
    (hC : C = 375 ∨ C = 453) (B : Below A₀ base outer h₀) (F : Fr h₀ L s.heap m) (X : (MineH.hd.heap_39 w.params).In h₀) (T : Top p loose mean mg mb h₀)
    (hf : env.frame = some L) (hke : env.scope.kind = .function) (hdd : dd + 100 < recursionLimit) (huu : uu + 500 < cLine)
    (N : News h₀ L s.heap all) (h1 : (one, instObj C dx) ∈ all) (h2 : (dx, dictOf es n) ∈ all) (U : UpdF a (baObj b) all g)
    (hes : es.length ≤ 1000) (e1 : getL (Str.ofString "pduData") es = some (some (.ref a)))
    (eg : getL (Str.ofString "get_long") es = some none) (e2 : getL (Str.ofString "get_data") es = some none) (hz : b.size ≤ sizeLine) (hk : 4 ≤ b.size)
    (h : ∀ h' v t tk, v = Builtin.Struct.natOf true (b.toList.take 4).toArray → Fr h₀ L h' m → News h₀ L h' (g (baObj (b.toList.drop 4).toArray)) → R (.ok (.ret (.int (v : Nat) t))) { s with heap := h', toks := tk }) :
    codeG (model PySem.Challenge.rw_bd5008_01.row.toRowW.prog w) (arnd dd uu (env :: outer)) (.call (.ref 469) ⟨[.ref one, .int 3 tp, .int k tk9], []⟩) R s := by
  revert X
  k_fill
  intro X
  rcases hC with rfl | rfl
  all_goals
    (refine' code_defG (cl := []) ?k1 ?k2 ?k3 ?k4 ?k5 ?kA ?kF ?kK ?k6 ?k7 ?k8 ?k9 ?kB ?_ ?c5 ?c2 ?c3 ?c4; (case kA => exact rfl); (case kF => exact hf); (case kK => exact hke); (case k1 => k_asm); (case k2 => k_asm); (case k3 => k_asm); (case k4 => k_asm); (case k5 => k_asm); (case k6 => k_is); (case k7 => k_is); (case k8 => show dd < _; omega); (case k9 => first | exact BindsTo.of_eq rfl | exact binds_K (by k_in) rfl (by k_is) rfl rfl rfl); (case c5 => decide); (case kB => exact locs rfl); (case c2 => exact rfl); (case c3 => exact rfl); (case c4 => exact rfl); k_whole; intro g' L' h' FG' F' N' B' X' T' l1'; (try dsimp only); (try k_lift B'); (try k_fold))
    generalize s.toks + _ = tk0
    repeat (first | (k_unfold; (try dsimp only)) | walk1 | (dsimp only; walk1))
    refine wpG_Return_some (wpG_Call_Attr ?_)
    repeat (first | (k_unfold; (try dsimp only)) | walk1 | (dsimp only; walk1))
    (refine' callG_K0 (K := MineH.hd.heap_39 w.params) (Frag.In.keeps ?X (Fr.keep ?F)) ?k ?_; (case X => k_asm); (case F => k_asm); (case k => k_is))
    (refine' wpG_call (get_long_ok_U ?c9 ?B9 ?F9 ?X9 ?T9 ?N9 h1 h2 U ?f9 ?ke9 ?dd9 ?uu9 hes e1 e2 hz hk ?_); (case B9 => k_asm); (case F9 => k_asm); (case X9 => k_asm); (case T9 => k_asm); (case N9 => k_asm); (case f9 => exact rfl); (case ke9 => exact rfl); (case dd9 => show dd + 1 + _ < _; omega); (case uu9 => show uu + 3 + _ < _; omega); (case c9 => first | exact .inl rfl | exact .inr rfl))
    intro h2 v2 t2 tk2 hv2 F2 N2
    dsimp only
    repeat (first | (k_unfold; (try dsimp only)) | walk1 | (dsimp only; walk1))
    exact h _ _ _ _ (by assumption) (by assumption) (by assumption)

theorem take3_bad {w : World} {A₀ : Around} {base h₀ : Heap} {outer : List Env} {env : Env} {L : Addr} {m mg mb : Str → Option Value} {s : Shared} {all : List (Addr × Obj)} {g : Obj → List (Addr × Obj)} {p : Program} {loose : List Str} {mean : ExcName → Option Value} {R : Result → Shared → Prop} {dd uu : Nat}
    {one dx a C n : Nat} {es : List DictEntry} {b : Array UInt8} {k : Int} {tp tk9 : Tok}
    (hC : C = 375 ∨ C = 453) (B : Below A₀ base outer h₀) (F : Fr h₀ L s.heap m) (X : (MineH.hd.heap_39 w.params).In h₀) (T : Top p loose mean mg mb h₀)
    (hf : env.frame = some L) (hke : env.scope.kind = .function) (hdd : dd + 100 < recursionLimit) (huu : uu + 500 < cLine)
    (N : News h₀ L s.heap all) (h1 : (one, instObj C dx) ∈ all) (h2 : (dx, dictOf es n) ∈ all) (U : UpdF a (baObj b) all g)
    (hes : es.length ≤ 1000) (e1 : getL (Str.ofString "pduData") es = some (some (.ref a)))
    (eg : getL (Str.ofString "get_long") es = some none) (e2 : getL (Str.ofString "get_data") es = some none) (hz : b.size ≤ sizeLine) (hk : b.size < 4)
    (h : ∀ g' h' e t vs tk, Fr h₀ L g' m → g'.UpToSlots h' → RaisedK base (env :: outer) e (.ref 69) t vs all h' → R (.error (.ref e)) { s with heap := h', toks := tk }) :
    codeG (model PySem.Challenge.rw_bd5008_01.row.toRowW.prog w) (arnd dd uu (env :: outer)) (.call (.ref 469) ⟨[.ref one, .int 3 tp, .int k tk9], []⟩) R s := by
  revert X
  k_fill
  intro X
  rcases hC with rfl | rfl
  all_goals
    (refine' code_defG (cl := []) ?k1 ?k2 ?k3 ?k4 ?k5 ?kA ?kF ?kK ?k6 ?k7 ?k8 ?k9 ?kB ?_ ?c5 ?c2 ?c3 ?c4; (case kA => exact rfl); (case kF => exact hf); (case kK => exact hke); (case k1 => k_asm); (case k2 => k_asm); (case k3 => k_asm); (case k4 => k_asm); (case k5 => k_asm); (case k6 => k_is); (case k7 => k_is); (case k8 => show dd < _; omega); (case k9 => first | exact BindsTo.of_eq rfl | exact binds_K (by k_in) rfl (by k_is) rfl rfl rfl); (case c5 => decide); (case kB => exact locs rfl); (case c2 => exact rfl); (case c3 => exact rfl); (case c4 => exact rfl); k_whole; intro g' L' h' FG' F' N' B' X' T' l1'; (try dsimp only); (try k_lift B'); (try k_fold))
    generalize s.toks + _ = tk0
    repeat (first | (k_unfold; (try dsimp only)) | walk1 | (dsimp only; walk1))
    refine wpG_Return_some (wpG_Call_Attr ?_)
    repeat (first | (k_unfold; (try dsimp only)) | walk1 | (dsimp only; walk1))
    (refine' callG_K0 (K := MineH.hd.heap_39 w.params) (Frag.In.keeps ?X (Fr.keep ?F)) ?k ?_; (case X => k_asm); (case F => k_asm); (case k => k_is))
    (refine' wpG_call (get_long_bad_U ?c9 ?B9 ?F9 ?X9 ?T9 ?N9 h1 h2 U ?f9 ?ke9 ?dd9 ?uu9 hes e1 e2 hz hk ?_); (case B9 => k_asm); (case F9 => k_asm); (case X9 => k_asm); (case T9 => k_asm); (case N9 => k_asm); (case f9 => exact rfl); (case ke9 => exact rfl); (case dd9 => show dd + 1 + _ < _; omega); (case uu9 => show uu + 3 + _ < _; omega); (case c9 => first | exact .inl rfl | exact .inr rfl))
    intro g2 h2 e2 t2 vs2 tk2 FG2 U2 R2
    dsimp only
    (refine leave_onK (by k_asm) FG2 R2 U2 fun h3 R3 U3 => ?_)
    exact h _ _ _ _ _ _ FG' U3 R3
-- F3

theorem wrong_s {w : World} {A₀ : Around} {h₀ : Heap} {outer : List Env} {env : Env} {L : Addr} {m mg mb : Str → Option Value} {s : Shared} {all : List (Addr × Obj)} {g : Obj → List (Addr × Obj)} {p : Program} {loose : List Str} {mean : ExcName → Option Value} {R : Result → Shared → Prop} {dd uu : Nat}
    {one dx a C n : Nat} {es : List DictEntry} {b : Array UInt8} {y : Str} {t : Tok}
    (hC : C = 375 ∨ C = 453) (B : Below A₀ h₀ outer h₀) (F : Fr h₀ L s.heap m) (X : (MineH.hd.heap_39 w.params).In h₀) (T : Top p loose mean mg mb h₀)
    (hf : env.frame = some L) (hke : env.scope.kind = .function) (hdd : dd + 100 < recursionLimit) (huu : uu + 500 < cLine)
    (N : News h₀ L s.heap all) (h1 : (one, instObj C dx) ∈ all) (h2 : (dx, dictOf es n) ∈ all) (U : UpdF a (baObj b) all g)
    (hes : es.length ≤ 1000) (e1 : getL (Str.ofString "pduData") es = some (some (.ref a)))
    (eg : getL (Str.ofString "put_data") es = some none) 
    (h : ∀ h' tk, Fr h₀ L h' m → News h₀ L h' all → R (.ok (.ret (.bool true))) { s with heap := h', toks := tk }) :
    codeG (model PySem.Challenge.rw_bd5008_01.row.toRowW.prog w) (arnd dd uu (env :: outer)) (.call (.ref 497) ⟨[.ref one, .str y t], []⟩) R s := by
  revert X
  k_fill
  intro X
  rcases hC with rfl | rfl
  all_goals
    (refine' code_endG (cl := []) ?k1 ?k2 ?k3 ?k4 ?k5 ?kA ?kF ?kK ?k6 ?k7 ?k8 ?k9 ?kB ?_ ?c5 ?c2 ?c3 ?c4; (case kA => exact rfl); (case kF => exact hf); (case kK => exact hke); (case k1 => k_asm); (case k2 => k_asm); (case k3 => k_asm); (case k4 => k_asm); (case k5 => k_asm); (case k6 => k_is); (case k7 => k_is); (case k8 => show dd < _; omega); (case k9 => first | exact BindsTo.of_eq rfl | exact binds_K (by k_in) rfl (by k_is) rfl rfl rfl); (case c5 => decide); (case kB => exact locs rfl); (case c2 => exact rfl); (case c3 => exact rfl); (case c4 => exact rfl); k_whole; intro g' L' h' FG' F' N' B' X' T' l1'; (try dsimp only); (try k_lift B'); (try k_fold))
    generalize s.toks + _ = tk0
    repeat (first | (k_unfold; (try dsimp only)) | walk1 | (dsimp only; walk1))
    refine wpG_Try_except ?_
    repeat (first | (k_unfold; (try dsimp only)) | walk1 | (dsimp only; walk1))
    refine wpG_Expr (wpG_Call_Attr ?_)
    repeat (first | (k_unfold; (try dsimp only)) | walk1 | (dsimp only; walk1))
    (refine' callG_K ?X ?k ?_; (case X => k_asm); (case k => k_is); k_whole)
    repeat (first | (k_unfold; (try dsimp only)) | walk1 | (dsimp only; walk1))
    (refine' wpG_call (put_data_ws_U ?c9 ?B9 ?F9 ?X9 ?T9 ?N9 h1 h2 U ?f9 ?ke9 ?dd9 ?uu9 hes e1  ?_); (case B9 => k_asm); (case F9 => k_asm); (case X9 => k_asm); (case T9 => k_asm); (case N9 => k_asm); (case f9 => exact rfl); (case ke9 => exact rfl); (case dd9 => show dd + 1 + _ < _; omega); (case uu9 => show uu + 3 + _ < _; omega); (case c9 => first | exact .inl rfl | exact .inr rfl))
    intro g2 hh2 e2 tk2 FG2 U2 R2
    dsimp only
    have FD := Fr.down (h₀ := g') FG2 FG'.keep (Nat.le_trans FG'.above (Nat.le_of_lt FG'.ns.lt))
    refine caught_G (T' := "TypeError") rfl FD U2 R2 X T (by k_is) PyProof.Rows.Boot.«TypeError» PySem.F.isExc_TypeError PySem.F.notTuple_TypeError (by rw [isSubtype_type]; kernel_rfl) fun h4 U4 F4 N4 => ?_
    repeat (first | (k_unfold; (try dsimp only)) | walk1 | (dsimp only; walk1))
    have UU := ((Heap.UpToSlots.of_keeps FG2.keep).trans U2).trans U4
    exact h _ _ (Fr.of_stays FG' F4.keep UU) (fun q hq => ⟨(N4 q hq).1, (N q hq).2⟩)

theorem wrong_i {w : World} {A₀ : Around} {h₀ : Heap} {outer : List Env} {env : Env} {L : Addr} {m mg mb : Str → Option Value} {s : Shared} {all : List (Addr × Obj)} {g : Obj → List (Addr × Obj)} {p : Program} {loose : List Str} {mean : ExcName → Option Value} {R : Result → Shared → Prop} {dd uu : Nat}
    {one dx a C n : Nat} {es : List DictEntry} {b : Array UInt8} {y : Int} {t : Tok}
    (hC : C = 375 ∨ C = 453) (B : Below A₀ h₀ outer h₀) (F : Fr h₀ L s.heap m) (X : (MineH.hd.heap_39 w.params).In h₀) (T : Top p loose mean mg mb h₀)
    (hf : env.frame = some L) (hke : env.scope.kind = .function) (hdd : dd + 100 < recursionLimit) (huu : uu + 500 < cLine)
    (N : News h₀ L s.heap all) (h1 : (one, instObj C dx) ∈ all) (h2 : (dx, dictOf es n) ∈ all) (U : UpdF a (baObj b) all g)
    (hes : es.length ≤ 1000) (e1 : getL (Str.ofString "pduData") es = some (some (.ref a)))
    (eg : getL (Str.ofString "put_data") es = some none) 
    (h : ∀ h' tk, Fr h₀ L h' m → News h₀ L h' all → R (.ok (.ret (.bool true))) { s with heap := h', toks := tk }) :
    codeG (model PySem.Challenge.rw_bd5008_01.row.toRowW.prog w) (arnd dd uu (env :: outer)) (.call (.ref 497) ⟨[.ref one, .int y t], []⟩) R s := by
  revert X
  k_fill
  intro X
  rcases hC with rfl | rfl
  all_goals
    (refine' code_endG (cl := []) ?k1 ?k2 ?k3 ?k4 ?k5 ?kA ?kF ?kK ?k6 ?k7 ?k8 ?k9 ?kB ?_ ?c5 ?c2 ?c3 ?c4; (case kA => exact rfl); (case kF => exact hf); (case kK => exact hke); (case k1 => k_asm); (case k2 => k_asm); (case k3 => k_asm); (case k4 => k_asm); (case k5 => k_asm); (case k6 => k_is); (case k7 => k_is); (case k8 => show dd < _; omega); (case k9 => first | exact BindsTo.of_eq rfl | exact binds_K (by k_in) rfl (by k_is) rfl rfl rfl); (case c5 => decide); (case kB => exact locs rfl); (case c2 => exact rfl); (case c3 => exact rfl); (case c4 => exact rfl); k_whole; intro g' L' h' FG' F' N' B' X' T' l1'; (try dsimp only); (try k_lift B'); (try k_fold))
    generalize s.toks + _ = tk0
    repeat (first | (k_unfold; (try dsimp only)) | walk1 | (dsimp only; walk1))
    refine wpG_Try_except ?_
    repeat (first | (k_unfold; (try dsimp only)) | walk1 | (dsimp only; walk1))
    refine wpG_Expr (wpG_Call_Attr ?_)
    repeat (first | (k_unfold; (try dsimp only)) | walk1 | (dsimp only; walk1))
    (refine' callG_K ?X ?k ?_; (case X => k_asm); (case k => k_is); k_whole)
    repeat (first | (k_unfold; (try dsimp only)) | walk1 | (dsimp only; walk1))
    (refine' wpG_call (put_data_wi_U ?c9 ?B9 ?F9 ?X9 ?T9 ?N9 h1 h2 U ?f9 ?ke9 ?dd9 ?uu9 hes e1  ?_); (case B9 => k_asm); (case F9 => k_asm); (case X9 => k_asm); (case T9 => k_asm); (case N9 => k_asm); (case f9 => exact rfl); (case ke9 => exact rfl); (case dd9 => show dd + 1 + _ < _; omega); (case uu9 => show uu + 3 + _ < _; omega); (case c9 => first | exact .inl rfl | exact .inr rfl))
    intro g2 hh2 e2 tk2 FG2 U2 R2
    dsimp only
    have FD := Fr.down (h₀ := g') FG2 FG'.keep (Nat.le_trans FG'.above (Nat.le_of_lt FG'.ns.lt))
    refine caught_G (T' := "TypeError") rfl FD U2 R2 X T (by k_is) PyProof.Rows.Boot.«TypeError» PySem.F.isExc_TypeError PySem.F.notTuple_TypeError (by rw [isSubtype_type]; kernel_rfl) fun h4 U4 F4 N4 => ?_
    repeat (first | (k_unfold; (try dsimp only)) | walk1 | (dsimp only; walk1))
    have UU := ((Heap.UpToSlots.of_keeps FG2.keep).trans U2).trans U4
    exact h _ _ (Fr.of_stays FG' F4.keep UU) (fun q hq => ⟨(N4 q hq).1, (N q hq).2⟩)

theorem wrong_n {w : World} {A₀ : Around} {h₀ : Heap} {outer : List Env} {env : Env} {L : Addr} {m mg mb : Str → Option Value} {s : Shared} {all : List (Addr × Obj)} {g : Obj → List (Addr × Obj)} {p : Program} {loose : List Str} {mean : ExcName → Option Value} {R : Result → Shared → Prop} {dd uu : Nat}
    {one dx a C n : Nat} {es : List DictEntry} {b : Array UInt8} 
    (hC : C = 375 ∨ C = 453) (B : Below A₀ h₀ outer h₀) (F : Fr h₀ L s.heap m) (X : (MineH.hd.heap_39 w.params).In h₀) (T : Top p loose mean mg mb h₀)
    (hf : env.frame = some L) (hke : env.scope.kind = .function) (hdd : dd + 100 < recursionLimit) (huu : uu + 500 < cLine)
    (N : News h₀ L s.heap all) (h1 : (one, instObj C dx) ∈ all) (h2 : (dx, dictOf es n) ∈ all) (U : UpdF a (baObj b) all g)
    (hes : es.length ≤ 1000) (e1 : getL (Str.ofString "pduData") es = some (some (.ref a)))
    (eg : getL (Str.ofString "put_data") es = some none) 
    (h : ∀ h' tk, Fr h₀ L h' m → News h₀ L h' all → R (.ok (.ret (.bool true))) { s with heap := h', toks := tk }) :
    codeG (model PySem.Challenge.rw_bd5008_01.row.toRowW.prog w) (arnd dd uu (env :: outer)) (.call (.ref 497) ⟨[.ref one, .none], []⟩) R s := by
  revert X
  k_fill
  intro X
  rcases hC with rfl | rfl
  all_goals
    (refine' code_endG (cl := []) ?k1 ?k2 ?k3 ?k4 ?k5 ?kA ?kF ?kK ?k6 ?k7 ?k8 ?k9 ?kB ?_ ?c5 ?c2 ?c3 ?c4; (case kA => exact rfl); (case kF => exact hf); (case kK => exact hke); (case k1 => k_asm); (case k2 => k_asm); (case k3 => k_asm); (case k4 => k_asm); (case k5 => k_asm); (case k6 => k_is); (case k7 => k_is); (case k8 => show dd < _; omega); (case k9 => first | exact BindsTo.of_eq rfl | exact binds_K (by k_in) rfl (by k_is) rfl rfl rfl); (case c5 => decide); (case kB => exact locs rfl); (case c2 => exact rfl); (case c3 => exact rfl); (case c4 => exact rfl); k_whole; intro g' L' h' FG' F' N' B' X' T' l1'; (try dsimp only); (try k_lift B'); (try k_fold))
    generalize s.toks + _ = tk0
    repeat (first | (k_unfold; (try dsimp only)) | walk1 | (dsimp only; walk1))
    refine wpG_Try_except ?_
    repeat (first | (k_unfold; (try dsimp only)) | walk1 | (dsimp only; walk1))
    refine wpG_Expr (wpG_Call_Attr ?_)
    repeat (first | (k_unfold; (try dsimp only)) | walk1 | (dsimp only; walk1))
    (refine' callG_K ?X ?k ?_; (case X => k_asm); (case k => k_is); k_whole)
    repeat (first | (k_unfold; (try dsimp only)) | walk1 | (dsimp only; walk1))
    (refine' wpG_call (put_data_wn_U ?c9 ?B9 ?F9 ?X9 ?T9 ?N9 h1 h2 U ?f9 ?ke9 ?dd9 ?uu9 hes e1  ?_); (case B9 => k_asm); (case F9 => k_asm); (case X9 => k_asm); (case T9 => k_asm); (case N9 => k_asm); (case f9 => exact rfl); (case ke9 => exact rfl); (case dd9 => show dd + 1 + _ < _; omega); (case uu9 => show uu + 3 + _ < _; omega); (case c9 => first | exact .inl rfl | exact .inr rfl))
    intro g2 hh2 e2 tk2 FG2 U2 R2
    dsimp only
    have FD := Fr.down (h₀ := g') FG2 FG'.keep (Nat.le_trans FG'.above (Nat.le_of_lt FG'.ns.lt))
    refine caught_G (T' := "TypeError") rfl FD U2 R2 X T (by k_is) PyProof.Rows.Boot.«TypeError» PySem.F.isExc_TypeError PySem.F.notTuple_TypeError (by rw [isSubtype_type]; kernel_rfl) fun h4 U4 F4 N4 => ?_
    repeat (first | (k_unfold; (try dsimp only)) | walk1 | (dsimp only; walk1))
    have UU := ((Heap.UpToSlots.of_keeps FG2.keep).trans U2).trans U4
    exact h _ _ (Fr.of_stays FG' F4.keep UU) (fun q hq => ⟨(N4 q hq).1, (N q hq).2⟩)

theorem wrong_t {w : World} {A₀ : Around} {h₀ : Heap} {outer : List Env} {env : Env} {L : Addr} {m mg mb : Str → Option Value} {s : Shared} {all : List (Addr × Obj)} {g : Obj → List (Addr × Obj)} {p : Program} {loose : List Str} {mean : ExcName → Option Value} {R : Result → Shared → Prop} {dd uu : Nat}
    {one dx a C n : Nat} {es : List DictEntry} {b : Array UInt8} {c cn : Nat} {vs : List Value}
    (hC : C = 375 ∨ C = 453) (B : Below A₀ h₀ outer h₀) (F : Fr h₀ L s.heap m) (X : (MineH.hd.heap_39 w.params).In h₀) (T : Top p loose mean mg mb h₀)
    (hf : env.frame = some L) (hke : env.scope.kind = .function) (hdd : dd + 100 < recursionLimit) (huu : uu + 500 < cLine)
    (N : News h₀ L s.heap all) (h1 : (one, instObj C dx) ∈ all) (h2 : (dx, dictOf es n) ∈ all) (U : UpdF a (baObj b) all g)
    (hes : es.length ≤ 1000) (e1 : getL (Str.ofString "pduData") es = some (some (.ref a)))
    (eg : getL (Str.ofString "put_data") es = some none) (h4 : (c, sqObj "tuple" vs cn) ∈ all)
    (h : ∀ h' tk, Fr h₀ L h' m → News h₀ L h' all → R (.ok (.ret (.bool true))) { s with heap := h', toks := tk }) :
    codeG (model PySem.Challenge.rw_bd5008_01.row.toRowW.prog w) (arnd dd uu (env :: outer)) (.call (.ref 497) ⟨[.ref one, .ref c], []⟩) R s := by
  revert X
  k_fill
  intro X
  rcases hC with rfl | rfl
  all_goals
    (refine' code_endG (cl := []) ?k1 ?k2 ?k3 ?k4 ?k5 ?kA ?kF ?kK ?k6 ?k7 ?k8 ?k9 ?kB ?_ ?c5 ?c2 ?c3 ?c4; (case kA => exact rfl); (case kF => exact hf); (case kK => exact hke); (case k1 => k_asm); (case k2 => k_asm); (case k3 => k_asm); (case k4 => k_asm); (case k5 => k_asm); (case k6 => k_is); (case k7 => k_is); (case k8 => show dd < _; omega); (case k9 => first | exact BindsTo.of_eq rfl | exact binds_K (by k_in) rfl (by k_is) rfl rfl rfl); (case c5 => decide); (case kB => exact locs rfl); (case c2 => exact rfl); (case c3 => exact rfl); (case c4 => exact rfl); k_whole; intro g' L' h' FG' F' N' B' X' T' l1'; (try dsimp only); (try k_lift B'); (try k_fold))
    generalize s.toks + _ = tk0
    repeat (first | (k_unfold; (try dsimp only)) | walk1 | (dsimp only; walk1))
    refine wpG_Try_except ?_
    repeat (first | (k_unfold; (try dsimp only)) | walk1 | (dsimp only; walk1))
    refine wpG_Expr (wpG_Call_Attr ?_)
    repeat (first | (k_unfold; (try dsimp only)) | walk1 | (dsimp only; walk1))
    (refine' callG_K ?X ?k ?_; (case X => k_asm); (case k => k_is); k_whole)
    repeat (first | (k_unfold; (try dsimp only)) | walk1 | (dsimp only; walk1))
    (refine' wpG_call (put_data_wt_U ?c9 ?B9 ?F9 ?X9 ?T9 ?N9 h1 h2 U ?f9 ?ke9 ?dd9 ?uu9 hes e1 h4 ?_); (case B9 => k_asm); (case F9 => k_asm); (case X9 => k_asm); (case T9 => k_asm); (case N9 => k_asm); (case f9 => exact rfl); (case ke9 => exact rfl); (case dd9 => show dd + 1 + _ < _; omega); (case uu9 => show uu + 3 + _ < _; omega); (case c9 => first | exact .inl rfl | exact .inr rfl))
    intro g2 hh2 e2 tk2 FG2 U2 R2
    dsimp only
    have FD := Fr.down (h₀ := g') FG2 FG'.keep (Nat.le_trans FG'.above (Nat.le_of_lt FG'.ns.lt))
    refine caught_G (T' := "TypeError") rfl FD U2 R2 X T (by k_is) PyProof.Rows.Boot.«TypeError» PySem.F.isExc_TypeError PySem.F.notTuple_TypeError (by rw [isSubtype_type]; kernel_rfl) fun h4 U4 F4 N4 => ?_
    repeat (first | (k_unfold; (try dsimp only)) | walk1 | (dsimp only; walk1))
    have UU := ((Heap.UpToSlots.of_keeps FG2.keep).trans U2).trans U4
    exact h _ _ (Fr.of_stays FG' F4.keep UU) (fun q hq => ⟨(N4 q hq).1, (N q hq).2⟩)
end

section
theorem w_off67 : True := by
  w_top off
  trivial
local macro_rules | `(tactic| walk_at "none") => `(tactic| fail)
local macro_rules | `(tactic| walk_at "none") => `(tactic| fail)
local macro_rules | `(tactic| walk_at "none") => `(tactic| fail)
-- L1p

theorem pick_yes {w : World} {h₀ : Heap} {L : Addr} {mg mb : Str → Option Value} {s : Shared} {p : Program} {loose : List Str} {mean : ExcName → Option Value} {m : Str → Option Value} {tp : Tok} {body : List Stmt} {kd : Nat} {p1 p2 p3 pos : Pos} {Q : Flow → Shared → Prop} {c pick : Int} (X : (MineH.hd.heap_39 w.params).In h₀) (F : Fr h₀ L s.heap m) (T : Top p loose mean mg mb h₀) (hp : m (Str.ofString "pick") = some (.int pick tp)) (hc : pick = c)
    (h : ∀ tk, wpG (model PySem.Challenge.rw_bd5008_01.row.toRowW.prog w) (lawA L) (execs body (lawE L)) Q noE { s with toks := tk }) :
    wpG (model PySem.Challenge.rw_bd5008_01.row.toRowW.prog w) (lawA L) (exec (.If (.Compare (.Name (Str.ofString "pick") p1) [.Eq] [.Constant (.int c) kd p2] p3) body [] pos) (lawE L)) Q noE s := by
  revert X
  k_fill
  intro X
  have F' := Fr.know F hp
  refine wpG_If ?_
  repeat (first | (k_unfold; (try dsimp only)) | walk1 | (dsimp only; walk1))
  exact h _

theorem pick_no {w : World} {h₀ : Heap} {L : Addr} {mg mb : Str → Option Value} {s : Shared} {p : Program} {loose : List Str} {mean : ExcName → Option Value} {m : Str → Option Value} {tp : Tok} {body : List Stmt} {kd : Nat} {p1 p2 p3 pos : Pos} {Q : Flow → Shared → Prop} {c pick : Int} (X : (MineH.hd.heap_39 w.params).In h₀) (F : Fr h₀ L s.heap m) (T : Top p loose mean mg mb h₀) (hp : m (Str.ofString "pick") = some (.int pick tp)) (hc : ¬ pick = c)
    (h : ∀ tk, Q .next { s with toks := tk }) :
    wpG (model PySem.Challenge.rw_bd5008_01.row.toRowW.prog w) (lawA L) (exec (.If (.Compare (.Name (Str.ofString "pick") p1) [.Eq] [.Constant (.int c) kd p2] p3) body [] pos) (lawE L)) Q noE s := by
  revert X
  k_fill
  intro X
  have F' := Fr.know F hp
  refine wpG_If ?_
  repeat (first | (k_unfold; (try dsimp only)) | walk1 | (dsimp only; walk1))
  exact h _
end

section
theorem w_off68 : True := by
  w_top off
  trivial
local macro_rules | `(tactic| walk_at "call type:list") => `(tactic| (k_here; (with_reducible show wpAny _ _ (call (Value.type "list") [Value.ref _]) _ _ _); k_dflt (refine' listOfI_K (l := []) ?g ?F ?N ?m ?r ?z ?_; (case g => exact rfl); (case F => k_asm); (case N => k_asm); (case m => k_mem); (case r => assumption); (case z => (rw [sizeLine_eq]; (try simp only [List.length_append, List.length_cons, List.length_nil]); omega)); k_whole; intro d' h' tk' vs' c' F' N' l1 iL; have lAll := l1; (try k_lt l1))))
local macro_rules | `(tactic| walk_at "call type:list") => `(tactic| (k_here; (with_reducible show wpAny _ _ (call (Value.type "list") [Value.ref _]) _ _ _); k_dflt (refine' listOfI_K ?g ?F ?N ?m ?r ?z ?_; (case g => exact rfl); (case F => k_asm); (case N => k_asm); (case m => k_mem); (case r => assumption); (case z => (rw [sizeLine_eq]; (try simp only [List.length_append, List.length_cons, List.length_nil]); omega)); k_whole; intro d' h' tk' vs' c' F' N' l1 iL; have lAll := l1; (try k_lt l1))))
local macro_rules | `(tactic| walk_at "call type:bytes") => `(tactic| (k_here; (with_reducible show wpAny _ _ (call (Value.type "bytes") [Value.ref _]) _ _ _); k_dflt (refine' bytesOf_K ?N ?m ?z ?_; (case N => k_asm); (case m => k_mem); (case z => (rw [byteArr_size, sizeLine_eq]; simp)); k_whole)))
local macro_rules | `(tactic| walk_at "CompEnd") => `(tactic| (refine' compEnd_new ?F ?N ?o ?f ?S ?_; (case F => k_asm); (case N => k_asm); (case o => assumption); (case f => ((try simp only [LCg.Off3, and_true]); assumption)); (case S => lcg_src)))
-- L10

theorem blk17_c {w : World} {h₀ : Heap} {L : Addr} {mg mb : Str → Option Value} {s0 s : Shared} {p : Program} {loose : List Str} {mean : ExcName → Option Value}
    {one dx a C n i ro rows ones fld b : Nat} {es : List DictEntry} {rest : List (Addr × Obj)} {nn pick y : Int} (hCi : (C = 375 ∧ i = 0) ∨ (C = 453 ∧ i = 1)) (X : (MineH.hd.heap_39 w.params).In h₀) (T : Top p loose mean mg mb h₀) (B : Below callerA h₀ [] h₀)
    (hes : es.length ≤ 1000) (e1 : getL (Str.ofString "pduData") es = some (some (.ref a))) (hb : b ≤ 3000)
    (I : Inv h₀ L s0 one dx a C n es i ro rows ones fld rest nn pick y 14 (b) s) :
    wpG (model PySem.Challenge.rw_bd5008_01.row.toRowW.prog w) (lawA L) (exec blk17.1 (lawE L)) (Out (fun s' => Inv h₀ L s0 one dx a C n es i ro rows ones fld rest nn pick y 15 (b + 4) s')) noE s := by
  revert X
  k_fill
  intro X
  obtain ⟨h, tk, m, l, vs, cn, r, cm, tn, tp, ty, ti, rfl, F, S, N, hi, hr, hl, q1, q2, q3⟩ := I
  by_cases hp : pick = 14
  · subst hp
    have F' := Fr.knowsR F S (by omega)
    ·
      refine pick_yes X F' T rfl rfl fun tk => ?_
      have hy := fm256 y
      refine wpG_execs_cons (wpG_Assign_Name (wpG_Call_Name ?_))
      repeat (first | (k_unfold; (try dsimp only)) | walk1 | (dsimp only; walk1))
      refine callGG_T (wpG_spl_cons (wpG_of ?_))
      repeat (first | (k_unfold; (try dsimp only)) | walk1 | (dsimp only; walk1))
      (refine' ba_K (b := byteArr [y.fmod 256, 1]) ?g9 ?F9 ?N9 ?l9 ?s9 ?z9 ?_; (case g9 => exact rfl); (case F9 => k_asm); (case N9 => k_asm); (case l9 => simp); (case s9 => exact .inr (.inr (.inr ⟨_, _, [y.fmod 256, 1], _, rfl, by k_mem, IntsAre.cons _ _ (.cons _ _ .nil), by (intro x hx; simp only [List.mem_cons, List.mem_nil_iff, or_false] at hx; rcases hx with rfl | rfl; exact hy; decide), rfl⟩))); (case z9 => (rw [byteArr_size, sizeLine_eq]; simp)))
      intro c5 h5 F5 N5 l5
      have n6 : ∀ q ∈ rest, q.1 ≠ c5 := fun q hq => Nat.ne_of_lt (l5 q (by repeat (first | exact hq | apply List.Mem.tail)))
      (try k_lt l5)
      dsimp only
      repeat (first | (k_unfold; (try dsimp only)) | walk1 | (dsimp only; walk1))
      refine wpG_Assign_Name (wpG_List (wpG_spl_cons (wpG_Call_Name ?_)))
      repeat (first | (k_unfold; (try dsimp only)) | walk1 | (dsimp only; walk1))
      (refine' callG_K ?X9 ?k9 ?_; (case X9 => k_asm); (case k9 => k_is); k_whole)
      repeat (first | (k_unfold; (try dsimp only)) | walk1 | (dsimp only; walk1))
      (refine' wpG_call (mkD_ba ?B9 ?F9 ?X9 ?T9 ?N9 ?f9 ?ke9 ?dd9 ?uu9 ?h29 ?z9 ?_); (case B9 => exact B); (case F9 => k_asm); (case X9 => exact X); (case T9 => exact T); (case N9 => k_asm); (case h29 => k_mem); (case z9 => (rw [byteArr_size, sizeLine_eq]; simp)); (case f9 => exact rfl); (case ke9 => exact rfl); (case dd9 => decide); (case uu9 => decide))
      intro x1 dx1 a1 h1 es1 n1 tk1 l1 l21 l31 F2 N2 fl1
      (try k_lt l1)
      dsimp only
      refine wpG_spl_cons (wpG_Call_Name ?_)
      repeat (first | (k_unfold; (try dsimp only)) | walk1 | (dsimp only; walk1))
      (refine' callG_K ?X9 ?k9 ?_; (case X9 => k_asm); (case k9 => k_is); k_whole)
      repeat (first | (k_unfold; (try dsimp only)) | walk1 | (dsimp only; walk1))
      (refine' wpG_call (mkD_by ?B9 ?F9 ?X9 ?T9 ?N9 ?f9 ?ke9 ?dd9 ?uu9 ?z9 ?_); (case B9 => exact B); (case F9 => k_asm); (case X9 => exact X); (case T9 => exact T); (case N9 => k_asm); (case z9 => (rw [byteArr_size, sizeLine_eq]; simp)); (case f9 => exact rfl); (case ke9 => exact rfl); (case dd9 => decide); (case uu9 => decide))
      intro x2 dx2 a2 h2 es2 n2 tk2 l1 l22 l32 F2 N2 fl2
      (try k_lt l1)
      dsimp only
      refine wpG_spl_cons (wpG_Call_Name ?_)
      repeat (first | (k_unfold; (try dsimp only)) | walk1 | (dsimp only; walk1))
      (refine' callG_K0 (K := MineH.hd.heap_39 w.params) (Frag.In.keeps ?X9 (Fr.keep ?F9)) ?k9 ?_; (case X9 => k_asm); (case F9 => k_asm); (case k9 => k_is))
      (refine' wpG_call (mkD_none ?B9 ?F9 ?X9 ?T9 ?N9 ?f9 ?ke9 ?dd9 ?uu9  ?_); (case B9 => exact B); (case F9 => k_asm); (case X9 => exact X); (case T9 => exact T); (case N9 => k_asm); (case f9 => exact rfl); (case ke9 => exact rfl); (case dd9 => decide); (case uu9 => decide))
      intro x3 dx3 a3 h3 es3 n3 tk3 l1 l23 l33 F2 N2 fl3
      (try k_lt l1)
      dsimp only
      refine wpG_spl_cons (wpG_Call_Name ?_)
      repeat (first | (k_unfold; (try dsimp only)) | walk1 | (dsimp only; walk1))
      (refine' callG_K ?X9 ?k9 ?_; (case X9 => k_asm); (case k9 => k_is); k_whole)
      repeat (first | (k_unfold; (try dsimp only)) | walk1 | (dsimp only; walk1))
      (refine' wpG_call (mkD_N ?B9 ?F9 ?X9 ?T9 ?N9 ?f9 ?ke9 ?dd9 ?uu9  ?_); (case B9 => exact B); (case F9 => k_asm); (case X9 => exact X); (case T9 => exact T); (case N9 => k_asm); (case f9 => exact rfl); (case ke9 => exact rfl); (case dd9 => decide); (case uu9 => decide))
      intro x4 dx4 a4 h4 es4 n4 tk4 l1 l24 l34 F2 N2 fl4
      (try k_lt l1)
      dsimp only
      refine wpG_spl_nil ?_
      repeat (first | (k_unfold; (try dsimp only)) | walk1 | (dsimp only; walk1))
      refine wpG_of ?_
      repeat ((fail_if_success (with_reducible show wpAny _ _ (setItem (Value.ref _) (Value.int _ _) _) _ _ _)); first | (k_unfold; (try dsimp only)) | walk1 | (dsimp only; walk1))
      have hy1 := fm256 (y + 1)
      (refine' set0_K ?F9 ?N9 ?U9 hy1.1 hy1.2 ?z9 ?_; (case F9 => k_asm); (case N9 => k_asm); (case U9 => first | k_upd | fail "U"); (case z9 => (rw [sizeLine_eq]; simp)))
      intro h6 F6 N6
      have hr9 : ∀ x ∈ [y.fmod 256, 1], 0 ≤ x ∧ x < 256 := by (intro x hx; simp only [List.mem_cons, List.mem_nil_iff, or_false] at hx; rcases hx with rfl | rfl; exact hy; decide)
      have hr0 : ∀ x ∈ ([] : List Int), 0 ≤ x ∧ x < 256 := fun _ h => nomatch h
      repeat ((fail_if_success (with_reducible show wpAny _ _ (compareOp CmpOp.NotEq (Value.ref _) (Value.ref _)) _ _ _)); first | ((with_reducible show wpAny _ _ (newList _) _ _ _); k_dflt (refine' newList_K ?k1 ?k2 ?_; (case k1 => k_asm); (case k2 => k_asm); k_whole); intro l' h' F' N' l1; clear l1) | (k_unfold; (try dsimp only)) | walk1 | (dsimp only; walk1))
      (refine' nel4 ?N5 ?mD5 ?mX5 ?m15 ?m25 ?m35 ?m45 ?p15 ?p25 ?p35 ?p45 ?i15 ?i25 ?i35 ?i45 ?j15 ?j25 ?j35 ?j45 ?hu5 ?_; (case N5 => k_asm); (case mD5 => k_dflt k_mem); (case mX5 => k_dflt k_mem); (case m15 => k_dflt k_mem); (case m25 => k_dflt k_mem); (case m35 => k_dflt k_mem); (case m45 => k_dflt k_mem); (case p15 => k_dflt k_mem); (case p25 => k_dflt k_mem); (case p35 => k_dflt k_mem); (case p45 => k_dflt k_mem); (case i15 => assumption); (case i25 => assumption); (case i35 => assumption); (case i45 => assumption); (case j15 => exact .cons _ _ (.cons _ _ .nil)); (case j25 => exact .cons _ _ (.cons _ _ .nil)); (case j35 => exact .nil); (case j45 => exact .nil); (case hu5 => (show 7 + 64 < cLine; decide)))
      repeat (first | (k_unfold; (try dsimp only)) | walk1 | (dsimp only; walk1))
      (rename News h₀ L _ _ => kN)
      (refine' Inv.of (l := l) ?F9 kN ?m1 ?m2 ?m3 ?m4 ?m5 ?m6 ?m7 ?S9 ?hi ?hb ?hr ?hl q1 q2 ?q3; (case F9 => k_asm); (case m1 => k_mem); (case m2 => k_mem); (case m3 => k_mem); (case m4 => k_mem); (case m5 => rfl); (case m6 => k_mem); (case m7 => (intro q hq; repeat (first | exact hq | apply List.Mem.tail))); (case S9 => exact ⟨rfl, rfl, rfl, rfl, rfl, fun hq => by omega, rfl, rfl, rfl⟩); (case hi => exact hi); (case hb => (rfl)); (case hr => (exact hr)); (case hl => (omega)); (case q3 => exact q3))
  · have F' := Fr.knows F S
    refine pick_no X F' T rfl hp fun tk => ?_
    exact ⟨rfl, Inv.intro F' ⟨rfl, rfl, rfl, rfl, rfl, fun hq => S.e_row (by omega), rfl, rfl, rfl⟩ N hi hr (by omega) q1 q2 q3⟩
end

section
theorem w_off69 : True := by
  w_top off
  trivial
local macro_rules | `(tactic| walk_at "none") => `(tactic| fail)
local macro_rules | `(tactic| walk_at "none") => `(tactic| fail)
local macro_rules | `(tactic| walk_at "none") => `(tactic| fail)
local macro_rules | `(tactic| walk_at "none") => `(tactic| fail)
local macro_rules | `(tactic| walk_at "none") => `(tactic| fail)
-- L2

theorem blk7_c {w : World} {h₀ : Heap} {L : Addr} {mg mb : Str → Option Value} {s0 s : Shared} {p : Program} {loose : List Str} {mean : ExcName → Option Value}
    {one dx a C n i ro rows ones fld b : Nat} {es : List DictEntry} {rest : List (Addr × Obj)} {nn pick y : Int} (hCi : (C = 375 ∧ i = 0) ∨ (C = 453 ∧ i = 1)) (X : (MineH.hd.heap_39 w.params).In h₀) (T : Top p loose mean mg mb h₀) (B : Below callerA h₀ [] h₀)
    (hes : es.length ≤ 1000) (e1 : getL (Str.ofString "pduData") es = some (some (.ref a))) (hb : b ≤ 3000) (eg : getL (Str.ofString "put") es = some none)
    (I : Inv h₀ L s0 one dx a C n es i ro rows ones fld rest nn pick y 4 (b) s) :
    wpG (model PySem.Challenge.rw_bd5008_01.row.toRowW.prog w) (lawA L) (exec blk7.1 (lawE L)) (Out (fun s' => Inv h₀ L s0 one dx a C n es i ro rows ones fld rest nn pick y 5 (b + 4) s')) noE s := by
  revert X
  k_fill
  intro X
  obtain ⟨h, tk, m, l, vs, cn, r, cm, tn, tp, ty, ti, rfl, F, S, N, hi, hr, hl, q1, q2, q3⟩ := I
  by_cases hp : pick = 4
  · subst hp
    have F' := Fr.knowsR F S (by omega)
    rcases hCi with ⟨rfl, rfl⟩ | ⟨rfl, rfl⟩
    all_goals
      simp only [rowsAt, if_true, if_false, Nat.one_ne_zero] at N
      refine pick_yes X F' T rfl rfl fun tk => ?_
      repeat (first | (k_unfold; (try dsimp only)) | walk1 | (dsimp only; walk1))
      refine wpG_Expr (wpG_Call_Attr ?_)
      repeat (first | (k_unfold; (try dsimp only)) | walk1 | (dsimp only; walk1))
      (refine' callG_K ?X9 ?k9 ?_; (case X9 => k_asm); (case k9 => k_is); k_whole)
      repeat (first | (k_unfold; (try dsimp only)) | walk1 | (dsimp only; walk1))
      have hy := fm256 y
      (refine' wpG_call (put_U ?c9 ?B9 ?F9 ?X9 ?T9 ?N9 ?h19 ?h29 ?U9 ?f9 ?ke9 ?dd9 ?uu9 hes e1 ?z9 hy.1 hy.2 ?_); (case B9 => exact B); (case F9 => k_asm); (case X9 => exact X); (case T9 => exact T); (case N9 => k_asm); (case h19 => k_mem); (case h29 => k_mem); (case U9 => first | k_updF | fail "U"); (case z9 => rw [byteArr_size]; omega); (case f9 => exact rfl); (case ke9 => exact rfl); (case dd9 => decide); (case uu9 => decide); (case c9 => first | exact rfl | exact .inl rfl | exact .inr rfl | exact .inr (.inl rfl)))
      intro h2 tk2 F2 N2
      dsimp only at N2 ⊢
      repeat (first | (k_unfold; (try dsimp only)) | walk1 | (dsimp only; walk1))
      refine wpG_of ?_
      repeat (first | (k_unfold; (try dsimp only)) | walk1 | (dsimp only; walk1))
      (rename News h₀ L _ _ => kN)
      (refine' Inv.of (l := l ++ [y.fmod 256]) ?F9 kN ?m1 ?m2 ?m3 ?m4 ?m5 ?m6 ?m7 ?S9 ?hi ?hb ?hr ?hl q1 q2 ?q3; (case F9 => k_asm); (case m1 => k_mem); (case m2 => k_mem); (case m3 => k_mem); (case m4 => k_mem); (case m5 => rfl); (case m6 => k_mem); (case m7 => (intro q hq; repeat (first | exact hq | apply List.Mem.tail))); (case S9 => exact ⟨rfl, rfl, rfl, rfl, rfl, fun hq => by omega, rfl, rfl, rfl⟩); (case hi => assumption); (case hb => (rw [byteArr_append]; try rfl)); (case hr => (exact range_append hr (by intro x hx; rw [List.mem_singleton.mp hx]; exact hy))); (case hl => (simp only [List.length_append, List.length_cons, List.length_nil]; omega)); (case q3 => (intro hq; omega)))

  · have F' := Fr.knows F S
    refine pick_no X F' T rfl hp fun tk => ?_
    exact ⟨rfl, Inv.intro F' ⟨rfl, rfl, rfl, rfl, rfl, fun hq => S.e_row (by omega), rfl, rfl, rfl⟩ N hi hr (by omega) q1 q2 q3⟩
-- L3

theorem blk13_c {w : World} {h₀ : Heap} {L : Addr} {mg mb : Str → Option Value} {s0 s : Shared} {p : Program} {loose : List Str} {mean : ExcName → Option Value}
    {one dx a C n i ro rows ones fld b : Nat} {es : List DictEntry} {rest : List (Addr × Obj)} {nn pick y : Int} (hCi : (C = 375 ∧ i = 0) ∨ (C = 453 ∧ i = 1)) (X : (MineH.hd.heap_39 w.params).In h₀) (T : Top p loose mean mg mb h₀) (B : Below callerA h₀ [] h₀)
    (hes : es.length ≤ 1000) (e1 : getL (Str.ofString "pduData") es = some (some (.ref a))) (hb : b ≤ 3000) (eg : getL (Str.ofString "put_short") es = some none)
    (I : Inv h₀ L s0 one dx a C n es i ro rows ones fld rest nn pick y 10 (b) s) :
    wpG (model PySem.Challenge.rw_bd5008_01.row.toRowW.prog w) (lawA L) (exec blk13.1 (lawE L)) (Out (fun s' => Inv h₀ L s0 one dx a C n es i ro rows ones fld rest nn pick y 11 (b + 4) s')) noE s := by
  revert X
  k_fill
  intro X
  obtain ⟨h, tk, m, l, vs, cn, r, cm, tn, tp, ty, ti, rfl, F, S, N, hi, hr, hl, q1, q2, q3⟩ := I
  by_cases hp : pick = 10
  · subst hp
    have F' := Fr.knowsR F S (by omega)
    rcases hCi with ⟨rfl, rfl⟩ | ⟨rfl, rfl⟩
    all_goals
      simp only [rowsAt, if_true, if_false, Nat.one_ne_zero] at N
      refine pick_yes X F' T rfl rfl fun tk => ?_
      repeat (first | (k_unfold; (try dsimp only)) | walk1 | (dsimp only; walk1))
      refine wpG_Expr (wpG_Call_Attr ?_)
      repeat (first | (k_unfold; (try dsimp only)) | walk1 | (dsimp only; walk1))
      (refine' callG_K ?X9 ?k9 ?_; (case X9 => k_asm); (case k9 => k_is); k_whole)
      repeat (first | (k_unfold; (try dsimp only)) | walk1 | (dsimp only; walk1))
      (refine' wpG_call (put_short_U ?c9 ?B9 ?F9 ?X9 ?T9 ?N9 ?h19 ?h29 ?U9 ?f9 ?ke9 ?dd9 ?uu9 hes e1 ?z9 ?_); (case B9 => exact B); (case F9 => k_asm); (case X9 => exact X); (case T9 => exact T); (case N9 => k_asm); (case h19 => k_mem); (case h29 => k_mem); (case U9 => first | k_updF | fail "U"); (case z9 => rw [byteArr_size, sizeLine_eq]; omega); (case f9 => exact rfl); (case ke9 => exact rfl); (case dd9 => decide); (case uu9 => decide); (case c9 => first | exact rfl | exact .inl rfl | exact .inr rfl | exact .inr (.inl rfl)))
      intro h2 tk2 F2 N2
      dsimp only at N2 ⊢
      repeat (first | (k_unfold; (try dsimp only)) | walk1 | (dsimp only; walk1))
      refine wpG_of ?_
      repeat (first | (k_unfold; (try dsimp only)) | walk1 | (dsimp only; walk1))
      (rename News h₀ L _ _ => kN)
      (refine' Inv.of (l := l ++ [nn / 256 % 256, nn % 256]) ?F9 kN ?m1 ?m2 ?m3 ?m4 ?m5 ?m6 ?m7 ?S9 ?hi ?hb ?hr ?hl q1 q2 ?q3; (case F9 => k_asm); (case m1 => k_mem); (case m2 => k_mem); (case m3 => k_mem); (case m4 => k_mem); (case m5 => rfl); (case m6 => k_mem); (case m7 => (intro q hq; repeat (first | exact hq | apply List.Mem.tail))); (case S9 => exact ⟨rfl, rfl, rfl, rfl, rfl, fun hq => by omega, rfl, rfl, rfl⟩); (case hi => (first | assumption | (simp only [fdm _ _ _ (show (0:Int) < 256 by decide) (show (0:Int) < 256 by decide), fdm _ _ _ (show (0:Int) < 65536 by decide) (show (0:Int) < 256 by decide), fdm _ _ _ (show (0:Int) < 16777216 by decide) (show (0:Int) < 256 by decide), fm _ _ (show (0:Int) < 256 by decide)] at *; assumption))); (case hb => (rw [byteArr_append]; try rfl)); (case hr => (exact range_append hr (by intro x hx; simp only [List.mem_cons, List.mem_nil_iff, or_false] at hx; rcases hx with rfl | rfl; all_goals first | exact em256 _ | decide))); (case hl => (simp only [List.length_append, List.length_cons, List.length_nil]; omega)); (case q3 => (intro hq; omega)))
  · have F' := Fr.knows F S
    refine pick_no X F' T rfl hp fun tk => ?_
    exact ⟨rfl, Inv.intro F' ⟨rfl, rfl, rfl, rfl, rfl, fun hq => S.e_row (by omega), rfl, rfl, rfl⟩ N hi hr (by omega) q1 q2 q3⟩

theorem blk14_c {w : World} {h₀ : Heap} {L : Addr} {mg mb : Str → Option Value} {s0 s : Shared} {p : Program} {loose : List Str} {mean : ExcName → Option Value}
    {one dx a C n i ro rows ones fld b : Nat} {es : List DictEntry} {rest : List (Addr × Obj)} {nn pick y : Int} (hCi : (C = 375 ∧ i = 0) ∨ (C = 453 ∧ i = 1)) (X : (MineH.hd.heap_39 w.params).In h₀) (T : Top p loose mean mg mb h₀) (B : Below callerA h₀ [] h₀)
    (hes : es.length ≤ 1000) (e1 : getL (Str.ofString "pduData") es = some (some (.ref a))) (hb : b ≤ 3000) (eg : getL (Str.ofString "put_long") es = some none)
    (I : Inv h₀ L s0 one dx a C n es i ro rows ones fld rest nn pick y 11 (b) s) :
    wpG (model PySem.Challenge.rw_bd5008_01.row.toRowW.prog w) (lawA L) (exec blk14.1 (lawE L)) (Out (fun s' => Inv h₀ L s0 one dx a C n es i ro rows ones fld rest nn pick y 12 (b + 4) s')) noE s := by
  revert X
  k_fill
  intro X
  obtain ⟨h, tk, m, l, vs, cn, r, cm, tn, tp, ty, ti, rfl, F, S, N, hi, hr, hl, q1, q2, q3⟩ := I
  by_cases hp : pick = 11
  · subst hp
    have F' := Fr.knowsR F S (by omega)
    rcases hCi with ⟨rfl, rfl⟩ | ⟨rfl, rfl⟩
    all_goals
      simp only [rowsAt, if_true, if_false, Nat.one_ne_zero] at N
      refine pick_yes X F' T rfl rfl fun tk => ?_
      repeat (first | (k_unfold; (try dsimp only)) | walk1 | (dsimp only; walk1))
      refine wpG_Expr (wpG_Call_Attr ?_)
      repeat (first | (k_unfold; (try dsimp only)) | walk1 | (dsimp only; walk1))
      (refine' callG_K ?X9 ?k9 ?_; (case X9 => k_asm); (case k9 => k_is); k_whole)
      repeat (first | (k_unfold; (try dsimp only)) | walk1 | (dsimp only; walk1))
      (refine' wpG_call (put_long_U ?c9 ?B9 ?F9 ?X9 ?T9 ?N9 ?h19 ?h29 ?U9 ?f9 ?ke9 ?dd9 ?uu9 hes e1 ?z9 ?_); (case B9 => exact B); (case F9 => k_asm); (case X9 => exact X); (case T9 => exact T); (case N9 => k_asm); (case h19 => k_mem); (case h29 => k_mem); (case U9 => first | k_updF | fail "U"); (case z9 => rw [byteArr_size, sizeLine_eq]; omega); (case f9 => exact rfl); (case ke9 => exact rfl); (case dd9 => decide); (case uu9 => decide); (case c9 => first | exact rfl | exact .inl rfl | exact .inr rfl | exact .inr (.inl rfl)))
      intro h2 tk2 F2 N2
      dsimp only at N2 ⊢
      repeat (first | (k_unfold; (try dsimp only)) | walk1 | (dsimp only; walk1))
      refine wpG_of ?_
      repeat (first | (k_unfold; (try dsimp only)) | walk1 | (dsimp only; walk1))
      (rename News h₀ L _ _ => kN)
      (refine' Inv.of (l := l ++ [nn / 16777216 % 256, nn / 65536 % 256, nn / 256 % 256, nn % 256]) ?F9 kN ?m1 ?m2 ?m3 ?m4 ?m5 ?m6 ?m7 ?S9 ?hi ?hb ?hr ?hl q1 q2 ?q3; (case F9 => k_asm); (case m1 => k_mem); (case m2 => k_mem); (case m3 => k_mem); (case m4 => k_mem); (case m5 => rfl); (case m6 => k_mem); (case m7 => (intro q hq; repeat (first | exact hq | apply List.Mem.tail))); (case S9 => exact ⟨rfl, rfl, rfl, rfl, rfl, fun hq => by omega, rfl, rfl, rfl⟩); (case hi => (first | assumption | (simp only [fdm _ _ _ (show (0:Int) < 256 by decide) (show (0:Int) < 256 by decide), fdm _ _ _ (show (0:Int) < 65536 by decide) (show (0:Int) < 256 by decide), fdm _ _ _ (show (0:Int) < 16777216 by decide) (show (0:Int) < 256 by decide), fm _ _ (show (0:Int) < 256 by decide)] at *; assumption))); (case hb => (rw [byteArr_append]; try rfl)); (case hr => (exact range_append hr (by intro x hx; simp only [List.mem_cons, List.mem_nil_iff, or_false] at hx; rcases hx with rfl | rfl | rfl | rfl; all_goals first | exact em256 _ | decide))); (case hl => (simp only [List.length_append, List.length_cons, List.length_nil]; omega)); (case q3 => (intro hq; omega)))
  · have F' := Fr.knows F S
    refine pick_no X F' T rfl hp fun tk => ?_
    exact ⟨rfl, Inv.intro F' ⟨rfl, rfl, rfl, rfl, rfl, fun hq => S.e_row (by omega), rfl, rfl, rfl⟩ N hi hr (by omega) q1 q2 q3⟩
end

section
theorem w_off70 : True := by
  w_top off
  trivial
local macro_rules | `(tactic| walk_at "call type:list") => `(tactic| (k_here; (with_reducible show wpAny _ _ (call (Value.type "list") [Value.ref _]) _ _ _); k_dflt (refine' listOf_K ?g ?F ?N ?m ?z ?_; (case g => exact rfl); (case F => k_asm); (case N => k_asm); (case m => k_mem); (case z => ((try rw [byteArr_size]); rw [sizeLine_eq]; (first | omega | (simp; omega)))); k_whole; intro d' h' tk' vs' c' F' N' l1 iL; (try k_lt l1))))
local macro_rules | `(tactic| walk_at "call type:bytes") => `(tactic| (k_here; (with_reducible show wpAny _ _ (call (Value.type "bytes") [Value.ref _]) _ _ _); k_dflt (refine' bytesLi_K ?F ?N ?m ?i ?r ?z ?g ?_; (case F => k_asm); (case N => k_asm); (case m => k_mem); (case i => first | assumption | (repeat (first | exact IntsAre.nil | refine IntsAre.cons _ _ ?_))); (case r => (intro x hx; simp only [List.mem_cons, List.mem_nil_iff, or_false] at hx; rcases hx with rfl | rfl | rfl <;> first | exact fm256 _ | decide)); (case z => (rw [sizeLine_eq]; simp)); (case g => exact rfl); k_whole; intro h' t' k' F' N')))
local macro_rules | `(tactic| walk_at "none") => `(tactic| fail)
local macro_rules | `(tactic| walk_at "none") => `(tactic| fail)
local macro_rules | `(tactic| walk_at "none") => `(tactic| fail)
local macro_rules | `(tactic| walk_at "none") => `(tactic| fail)
-- L4

theorem blk9_c {w : World} {h₀ : Heap} {L : Addr} {mg mb : Str → Option Value} {s0 s : Shared} {p : Program} {loose : List Str} {mean : ExcName → Option Value}
    {one dx a C n i ro rows ones fld b : Nat} {es : List DictEntry} {rest : List (Addr × Obj)} {nn pick y : Int} (hCi : (C = 375 ∧ i = 0) ∨ (C = 453 ∧ i = 1)) (X : (MineH.hd.heap_39 w.params).In h₀) (T : Top p loose mean mg mb h₀) (B : Below callerA h₀ [] h₀)
    (hes : es.length ≤ 1000) (e1 : getL (Str.ofString "pduData") es = some (some (.ref a))) (hb : b ≤ 3000) (eg : getL (Str.ofString "put_data") es = some none)
    (I : Inv h₀ L s0 one dx a C n es i ro rows ones fld rest nn pick y 6 (b) s) :
    wpG (model PySem.Challenge.rw_bd5008_01.row.toRowW.prog w) (lawA L) (exec blk9.1 (lawE L)) (Out (fun s' => Inv h₀ L s0 one dx a C n es i ro rows ones fld rest nn pick y 7 (b + 4) s')) noE s := by
  revert X
  k_fill
  intro X
  obtain ⟨h, tk, m, l, vs, cn, r, cm, tn, tp, ty, ti, rfl, F, S, N, hi, hr, hl, q1, q2, q3⟩ := I
  by_cases hp : pick = 6
  · subst hp
    have F' := Fr.knowsR F S (by omega)
    rcases hCi with ⟨rfl, rfl⟩ | ⟨rfl, rfl⟩
    all_goals
      simp only [rowsAt, if_true, if_false, Nat.one_ne_zero] at N
      refine pick_yes X F' T rfl rfl fun tk => ?_
      repeat (first | (k_unfold; (try dsimp only)) | walk1 | (dsimp only; walk1))
      refine wpG_Expr (wpG_Call_Attr ?_)
      repeat (first | (k_unfold; (try dsimp only)) | walk1 | (dsimp only; walk1))
      (refine' callG_K ?X9 ?k9 ?_; (case X9 => k_asm); (case k9 => k_is); k_whole)
      repeat (first | (k_unfold; (try dsimp only)) | walk1 | (dsimp only; walk1))
      (refine' wpG_call (put_data_by_U ?c9 ?B9 ?F9 ?X9 ?T9 ?N9 ?h19 ?h29 ?U9 ?f9 ?ke9 ?dd9 ?uu9 hes e1 ?z9 ?_); (case B9 => exact B); (case F9 => k_asm); (case X9 => exact X); (case T9 => exact T); (case N9 => k_asm); (case h19 => k_mem); (case h29 => k_mem); (case U9 => first | k_updF | fail "U"); (case z9 => (rw [sizeLine_eq]; simp [byteArr_size]; omega)); (case f9 => exact rfl); (case ke9 => exact rfl); (case dd9 => decide); (case uu9 => decide); (case c9 => first | exact rfl | exact .inl rfl | exact .inr rfl | exact .inr (.inl rfl)))
      intro h2 tk2 F2 N2
      dsimp only at N2 ⊢
      repeat (first | (k_unfold; (try dsimp only)) | walk1 | (dsimp only; walk1))
      refine wpG_of ?_
      repeat (first | (k_unfold; (try dsimp only)) | walk1 | (dsimp only; walk1))
      (rename News h₀ L _ _ => kN)
      (refine' Inv.of (l := l ++ [y.fmod 256, 9]) ?F9 kN ?m1 ?m2 ?m3 ?m4 ?m5 ?m6 ?m7 ?S9 ?hi ?hb ?hr ?hl q1 q2 ?q3; (case F9 => k_asm); (case m1 => k_mem); (case m2 => k_mem); (case m3 => k_mem); (case m4 => k_mem); (case m5 => rfl); (case m6 => k_mem); (case m7 => (intro q hq; repeat (first | exact hq | apply List.Mem.tail))); (case S9 => exact ⟨rfl, rfl, rfl, rfl, rfl, fun hq => by omega, rfl, rfl, rfl⟩); (case hi => assumption); (case hb => (rw [byteArr_append]; try rfl)); (case hr => (exact range_append hr (by intro x hx; simp only [List.mem_cons, List.mem_nil_iff, or_false] at hx; rcases hx with rfl | rfl; all_goals first | exact fm256 _ | exact em256 _ | decide))); (case hl => (simp only [List.length_append, List.length_cons, List.length_nil]; omega)); (case q3 => (intro hq; omega)))
  · have F' := Fr.knows F S
    refine pick_no X F' T rfl hp fun tk => ?_
    exact ⟨rfl, Inv.intro F' ⟨rfl, rfl, rfl, rfl, rfl, fun hq => S.e_row (by omega), rfl, rfl, rfl⟩ N hi hr (by omega) q1 q2 q3⟩

theorem blk10_c {w : World} {h₀ : Heap} {L : Addr} {mg mb : Str → Option Value} {s0 s : Shared} {p : Program} {loose : List Str} {mean : ExcName → Option Value}
    {one dx a C n i ro rows ones fld b : Nat} {es : List DictEntry} {rest : List (Addr × Obj)} {nn pick y : Int} (hCi : (C = 375 ∧ i = 0) ∨ (C = 453 ∧ i = 1)) (X : (MineH.hd.heap_39 w.params).In h₀) (T : Top p loose mean mg mb h₀) (B : Below callerA h₀ [] h₀)
    (hes : es.length ≤ 1000) (e1 : getL (Str.ofString "pduData") es = some (some (.ref a))) (hb : b ≤ 3000) (eg : getL (Str.ofString "put_data") es = some none)
    (I : Inv h₀ L s0 one dx a C n es i ro rows ones fld rest nn pick y 7 (b) s) :
    wpG (model PySem.Challenge.rw_bd5008_01.row.toRowW.prog w) (lawA L) (exec blk10.1 (lawE L)) (Out (fun s' => Inv h₀ L s0 one dx a C n es i ro rows ones fld rest nn pick y 8 (b + 4) s')) noE s := by
  revert X
  k_fill
  intro X
  obtain ⟨h, tk, m, l, vs, cn, r, cm, tn, tp, ty, ti, rfl, F, S, N, hi, hr, hl, q1, q2, q3⟩ := I
  by_cases hp : pick = 7
  · subst hp
    have F' := Fr.knowsR F S (by omega)
    rcases hCi with ⟨rfl, rfl⟩ | ⟨rfl, rfl⟩
    all_goals
      simp only [rowsAt, if_true, if_false, Nat.one_ne_zero] at N
      refine pick_yes X F' T rfl rfl fun tk => ?_
      have hy := fm256 y
      repeat (first | (k_unfold; (try dsimp only)) | walk1 | (dsimp only; walk1))
      refine wpG_Assign_Name (wpG_Call_Name ?_)
      repeat (first | (k_unfold; (try dsimp only)) | walk1 | (dsimp only; walk1))
      refine callGG_T (wpG_spl_cons (wpG_of ?_))
      repeat (first | (k_unfold; (try dsimp only)) | walk1 | (dsimp only; walk1))
      (refine' ba_K (b := ((y.fmod 256).toNat.toUInt8 :: []).toArray) ?g9 ?F9 ?N9 ?l9 ?s9 ?z9 ?_; (case g9 => exact rfl); (case F9 => k_asm); (case N9 => k_asm); (case l9 => simp); (case s9 => exact .inr (.inr (.inr ⟨_, _, [y.fmod 256], _, rfl, by k_mem, IntsAre.cons _ _ .nil, by (intro x hx; rw [List.mem_singleton.mp hx]; exact hy), rfl⟩))); (case z9 => (rw [sizeLine_eq]; simp)))
      intro c5 h5 F5 N5 l5
      have n5 : c5 ≠ a := Nat.ne_of_gt (l5 (a, _) (by k_mem))
      have n6 : ∀ q ∈ rest, q.1 ≠ c5 := fun q hq => Nat.ne_of_lt (l5 q (by repeat (first | exact hq | apply List.Mem.tail)))
      (try k_lt l5)
      dsimp only
      repeat (first | (k_unfold; (try dsimp only)) | walk1 | (dsimp only; walk1))
      refine wpG_Expr (wpG_Call_Attr ?_)
      repeat (first | (k_unfold; (try dsimp only)) | walk1 | (dsimp only; walk1))
      (refine' callG_K ?X9 ?k9 ?_; (case X9 => k_asm); (case k9 => k_is); k_whole)
      repeat (first | (k_unfold; (try dsimp only)) | walk1 | (dsimp only; walk1))
      (refine' wpG_call (put_data_ba_U ?c9 ?B9 ?F9 ?X9 ?T9 ?N9 ?h19 ?h29 ?U9 ?f9 ?ke9 ?dd9 ?uu9 hes e1 ?h49 ?z9 n5 ?_); (case B9 => exact B); (case F9 => k_asm); (case X9 => exact X); (case T9 => exact T); (case N9 => k_asm); (case h19 => k_mem); (case h29 => k_mem); (case U9 => first | k_updF | fail "U"); (case h49 => k_mem);(case z9 => (rw [sizeLine_eq]; simp [byteArr_size]; omega)); (case f9 => exact rfl); (case ke9 => exact rfl); (case dd9 => decide); (case uu9 => decide); (case c9 => first | exact rfl | exact .inl rfl | exact .inr rfl | exact .inr (.inl rfl)))
      intro h2 tk2 F2 N2
      dsimp only at N2 ⊢
      repeat (first | (k_unfold; (try dsimp only)) | walk1 | (dsimp only; walk1))
      refine wpG_of ?_
      repeat (first | (k_unfold; (try dsimp only)) | walk1 | (dsimp only; walk1))
      have hy1 := fm256 (y + 1)
      (refine' set0_K ?F9 ?N9 ?U9 hy1.1 hy1.2 ?z9 ?_; (case F9 => k_asm); (case N9 => k_asm); (case U9 => first | k_upd | fail "U"); (case z9 => (rw [sizeLine_eq]; simp)))
      intro h6 F6 N6
      repeat (first | (k_unfold; (try dsimp only)) | walk1 | (dsimp only; walk1))
      refine wpG_of ?_
      repeat (first | (k_unfold; (try dsimp only)) | walk1 | (dsimp only; walk1))
      (rename News h₀ L _ _ => kN)
      (refine' Inv.of (l := l ++ [y.fmod 256]) ?F9 kN ?m1 ?m2 ?m3 ?m4 ?m5 ?m6 ?m7 ?S9 ?hi ?hb ?hr ?hl q1 q2 ?q3; (case F9 => k_asm); (case m1 => k_mem); (case m2 => k_mem); (case m3 => k_mem); (case m4 => k_mem); (case m5 => rfl); (case m6 => k_mem); (case m7 => (intro q hq; repeat (first | exact hq | apply List.Mem.tail))); (case S9 => exact ⟨rfl, rfl, rfl, rfl, rfl, fun hq => by omega, rfl, rfl, rfl⟩); (case hi => assumption); (case hb => (rw [byteArr_append]; try rfl)); (case hr => (exact range_append hr (by intro x hx; rw [List.mem_singleton.mp hx]; exact hy))); (case hl => (simp only [List.length_append, List.length_cons, List.length_nil]; omega)); (case q3 => (intro hq; omega)))
  · have F' := Fr.knows F S
    refine pick_no X F' T rfl hp fun tk => ?_
    exact ⟨rfl, Inv.intro F' ⟨rfl, rfl, rfl, rfl, rfl, fun hq => S.e_row (by omega), rfl, rfl, rfl⟩ N hi hr (by omega) q1 q2 q3⟩

theorem blk11_c {w : World} {h₀ : Heap} {L : Addr} {mg mb : Str → Option Value} {s0 s : Shared} {p : Program} {loose : List Str} {mean : ExcName → Option Value}
    {one dx a C n i ro rows ones fld b : Nat} {es : List DictEntry} {rest : List (Addr × Obj)} {nn pick y : Int} (hCi : (C = 375 ∧ i = 0) ∨ (C = 453 ∧ i = 1)) (X : (MineH.hd.heap_39 w.params).In h₀) (T : Top p loose mean mg mb h₀) (B : Below callerA h₀ [] h₀)
    (hes : es.length ≤ 1000) (e1 : getL (Str.ofString "pduData") es = some (some (.ref a))) (hb : b ≤ 3000) (eg : getL (Str.ofString "put_data") es = some none)
    (I : Inv h₀ L s0 one dx a C n es i ro rows ones fld rest nn pick y 8 (b) s) :
    wpG (model PySem.Challenge.rw_bd5008_01.row.toRowW.prog w) (lawA L) (exec blk11.1 (lawE L)) (Out (fun s' => Inv h₀ L s0 one dx a C n es i ro rows ones fld rest nn pick y 9 (b + 4) s')) noE s := by
  revert X
  k_fill
  intro X
  obtain ⟨h, tk, m, l, vs, cn, r, cm, tn, tp, ty, ti, rfl, F, S, N, hi, hr, hl, q1, q2, q3⟩ := I
  by_cases hp : pick = 8
  · subst hp
    have F' := Fr.knowsR F S (by omega)
    rcases hCi with ⟨rfl, rfl⟩ | ⟨rfl, rfl⟩
    all_goals
      simp only [rowsAt, if_true, if_false, Nat.one_ne_zero] at N
      refine pick_yes X F' T rfl rfl fun tk => ?_
      repeat (first | (k_unfold; (try dsimp only)) | walk1 | (dsimp only; walk1))
      refine wpG_of ?_
      repeat (first | (k_unfold; (try dsimp only)) | walk1 | (dsimp only; walk1))
      refine wpG_Expr (wpG_Call_Attr ?_)
      repeat (first | (k_unfold; (try dsimp only)) | walk1 | (dsimp only; walk1))
      (refine' callG_K ?X9 ?k9 ?_; (case X9 => k_asm); (case k9 => k_is); k_whole)
      repeat (first | (k_unfold; (try dsimp only)) | walk1 | (dsimp only; walk1))
      (refine' wpG_call (put_data_li_U (ns := [y.fmod 256, 0, 255]) ?c9 ?B9 ?F9 ?X9 ?T9 ?N9 ?h19 ?h29 ?U9 ?f9 ?ke9 ?dd9 ?uu9 hes e1 ?h49 ?z9 ?i9 ?r9 ?x9 ?_); (case B9 => exact B); (case F9 => k_asm); (case X9 => exact X); (case T9 => exact T); (case N9 => k_asm); (case h19 => k_mem); (case h29 => k_mem); (case U9 => first | k_updF | fail "U"); (case h49 => k_mem); (case i9 => repeat (first | exact IntsAre.nil | refine IntsAre.cons _ _ ?_)); (case x9 => exact rfl); (case r9 => exact (by intro x hx; simp only [List.mem_cons, List.mem_nil_iff, or_false] at hx; rcases hx with rfl | rfl | rfl; all_goals first | exact fm256 _ | exact em256 _ | decide));(case z9 => (rw [sizeLine_eq]; simp [byteArr_size]; omega)); (case f9 => exact rfl); (case ke9 => exact rfl); (case dd9 => decide); (case uu9 => decide); (case c9 => first | exact rfl | exact .inl rfl | exact .inr rfl | exact .inr (.inl rfl)))
      intro h2 tk2 F2 N2
      dsimp only at N2 ⊢
      repeat (first | (k_unfold; (try dsimp only)) | walk1 | (dsimp only; walk1))
      refine wpG_of ?_
      repeat (first | (k_unfold; (try dsimp only)) | walk1 | (dsimp only; walk1))
      (rename News h₀ L _ _ => kN)
      (refine' Inv.of (l := l ++ [y.fmod 256, 0, 255]) ?F9 kN ?m1 ?m2 ?m3 ?m4 ?m5 ?m6 ?m7 ?S9 ?hi ?hb ?hr ?hl q1 q2 ?q3; (case F9 => k_asm); (case m1 => k_mem); (case m2 => k_mem); (case m3 => k_mem); (case m4 => k_mem); (case m5 => rfl); (case m6 => k_mem); (case m7 => (intro q hq; repeat (first | exact hq | apply List.Mem.tail))); (case S9 => exact ⟨rfl, rfl, rfl, rfl, rfl, fun hq => by omega, rfl, rfl, rfl⟩); (case hi => assumption); (case hb => (rw [byteArr_append]; try rfl)); (case hr => (exact range_append hr (by intro x hx; simp only [List.mem_cons, List.mem_nil_iff, or_false] at hx; rcases hx with rfl | rfl | rfl; all_goals first | exact fm256 _ | exact em256 _ | decide))); (case hl => (simp only [List.length_append, List.length_cons, List.length_nil]; omega)); (case q3 => (intro hq; omega)))
  · have F' := Fr.knows F S
    refine pick_no X F' T rfl hp fun tk => ?_
    exact ⟨rfl, Inv.intro F' ⟨rfl, rfl, rfl, rfl, rfl, fun hq => S.e_row (by omega), rfl, rfl, rfl⟩ N hi hr (by omega) q1 q2 q3⟩
end

section
theorem w_off71 : True := by
  w_top off
  trivial
local macro_rules | `(tactic| walk_at "call builtin:isinstance") => `(tactic| (k_here; (with_reducible show wpAny _ _ (call (Value.builtin "isinstance") [Value.ref _, Value.ref _]) _ _ _); k_dflt (refine' exc_not ?N ?m ?c ?X ?i ?_; (case N => k_asm); (case m => k_mem); (case c => assumption); (case X => k_in); (case i => k_not); k_whole)))
local macro_rules | `(tactic| walk_at "none") => `(tactic| fail)
local macro_rules | `(tactic| walk_at "none") => `(tactic| fail)
local macro_rules | `(tactic| walk_at "none") => `(tactic| fail)
local macro_rules | `(tactic| walk_at "none") => `(tactic| fail)
local macro_rules | `(tactic| walk_at "none") => `(tactic| fail)
local macro_rules | `(tactic| walk_at "none") => `(tactic| fail)
-- L5

theorem blk8_c {w : World} {h₀ : Heap} {L : Addr} {mg mb : Str → Option Value} {s0 s : Shared} {p : Program} {loose : List Str} {mean : ExcName → Option Value}
    {one dx a C n i ro rows ones fld b : Nat} {es : List DictEntry} {rest : List (Addr × Obj)} {nn pick y : Int} (hCi : (C = 375 ∧ i = 0) ∨ (C = 453 ∧ i = 1)) (X : (MineH.hd.heap_39 w.params).In h₀) (T : Top p loose mean mg mb h₀) (B : Below callerA h₀ [] h₀)
    (hes : es.length ≤ 1000) (e1 : getL (Str.ofString "pduData") es = some (some (.ref a))) (hb : b ≤ 3000) (eg : getL (Str.ofString "put") es = some none)
    (I : Inv h₀ L s0 one dx a C n es i ro rows ones fld rest nn pick y 5 (b) s) :
    wpG (model PySem.Challenge.rw_bd5008_01.row.toRowW.prog w) (lawA L) (exec blk8.1 (lawE L)) (Out (fun s' => Inv h₀ L s0 one dx a C n es i ro rows ones fld rest nn pick y 6 (b + 4) s')) noE s := by
  revert X
  k_fill
  intro X
  obtain ⟨h, tk, m, l, vs, cn, r, cm, tn, tp, ty, ti, rfl, F, S, N, hi, hr, hl, q1, q2, q3⟩ := I
  by_cases hp : pick = 5
  · subst hp
    have F' := Fr.knowsR F S (by omega)
    rcases hCi with ⟨rfl, rfl⟩ | ⟨rfl, rfl⟩
    all_goals
      simp only [rowsAt, if_true, if_false, Nat.one_ne_zero] at N
      refine pick_yes X F' T rfl rfl fun tk => ?_
      repeat (first | (k_unfold; (try dsimp only)) | walk1 | (dsimp only; walk1) | ((with_reducible show wpG _ _ (exec (Stmt.Assign _ _ _) _) _ _ _); refine wpG_of ?_))
      refine wpG_Try_except ?_
      repeat (first | (k_unfold; (try dsimp only)) | walk1 | (dsimp only; walk1))
      refine wpG_Expr (wpG_Call_Attr ?_)
      repeat (first | (k_unfold; (try dsimp only)) | walk1 | (dsimp only; walk1))
      (refine' callG_K ?X9 ?k9 ?_; (case X9 => k_asm); (case k9 => k_is); k_whole)
      repeat (first | (k_unfold; (try dsimp only)) | walk1 | (dsimp only; walk1))
      all_goals (repeat (first | (k_unfold; (try dsimp only)) | walk1 | (dsimp only; walk1)))
      all_goals
        have hz := fm1000 y
        (refine' wpG_call (put_bad_U ?c9 ?B9 ?F9 ?X9 ?T9 ?N9 ?h19 ?h29 ?U9 ?f9 ?ke9 ?dd9 ?uu9 hes e1 ?z9 ?_); (case B9 => exact B); (case F9 => k_asm); (case X9 => exact X); (case T9 => exact T); (case N9 => k_asm); (case h19 => k_mem); (case h29 => k_mem); (case U9 => first | k_updF | fail "U"); (case z9 => first | exact .inl (by omega) | exact .inr (by omega)); (case f9 => exact rfl); (case ke9 => exact rfl); (case dd9 => decide); (case uu9 => decide); (case c9 => first | exact rfl | exact .inl rfl | exact .inr rfl | exact .inr (.inl rfl)))
        intro g4 h4 x4 tk4 F4 U4 R4
        dsimp only
        refine caught_GB (n := Str.ofString "fault") (T' := "ValueError") rfl F4 U4 R4 X T (by k_is) PyProof.Rows.Boot.«ValueError» PySem.F.isExc_ValueError PySem.F.notTuple_ValueError (by rw [isSubtype_type]; kernel_rfl) fun h5 tk5 o5 c5 F5 N5 => ?_
        repeat (first | (k_unfold; (try dsimp only)) | walk1 | (dsimp only; walk1))
        (rename News h₀ L _ _ => kN)
        (refine' Inv.of (l := l) ?F9 kN ?m1 ?m2 ?m3 ?m4 ?m5 ?m6 ?m7 ?S9 ?hi ?hb ?hr ?hl q1 q2 ?q3; (case F9 => k_asm); (case m1 => k_mem); (case m2 => k_mem); (case m3 => k_mem); (case m4 => k_mem); (case m5 => rfl); (case m6 => k_mem); (case m7 => (intro q hq; repeat (first | exact hq | apply List.Mem.tail))); (case S9 => exact ⟨rfl, rfl, rfl, rfl, rfl, fun hq => by omega, rfl, rfl, rfl⟩); (case hi => exact hi); (case hb => (rfl)); (case hr => (exact hr)); (case hl => (omega)); (case q3 => exact q3))

  · have F' := Fr.knows F S
    refine pick_no X F' T rfl hp fun tk => ?_
    exact ⟨rfl, Inv.intro F' ⟨rfl, rfl, rfl, rfl, rfl, fun hq => S.e_row (by omega), rfl, rfl, rfl⟩ N hi hr (by omega) q1 q2 q3⟩
end

section
theorem w_off72 : True := by
  w_top off
  trivial
local macro_rules | `(tactic| walk_at "none") => `(tactic| fail)
local macro_rules | `(tactic| walk_at "none") => `(tactic| fail)
local macro_rules | `(tactic| walk_at "none") => `(tactic| fail)
local macro_rules | `(tactic| walk_at "none") => `(tactic| fail)
local macro_rules | `(tactic| walk_at "none") => `(tactic| fail)
local macro_rules | `(tactic| walk_at "none") => `(tactic| fail)
local macro_rules | `(tactic| walk_at "none") => `(tactic| fail)
local macro_rules | `(tactic| walk_at "none") => `(tactic| fail)
-- L6

theorem blk12_c {w : World} {h₀ : Heap} {L : Addr} {mg mb : Str → Option Value} {s0 s : Shared} {p : Program} {loose : List Str} {mean : ExcName → Option Value}
    {one dx a C n i ro rows ones fld b : Nat} {es : List DictEntry} {rest : List (Addr × Obj)} {nn pick y : Int} (hCi : (C = 375 ∧ i = 0) ∨ (C = 453 ∧ i = 1)) (X : (MineH.hd.heap_39 w.params).In h₀) (T : Top p loose mean mg mb h₀) (B : Below callerA h₀ [] h₀)
    (hes : es.length ≤ 1000) (e1 : getL (Str.ofString "pduData") es = some (some (.ref a))) (hb : b ≤ 3000) (eg : getL (Str.ofString "put_data") es = some none)
    (I : Inv h₀ L s0 one dx a C n es i ro rows ones fld rest nn pick y 9 (b) s) :
    wpG (model PySem.Challenge.rw_bd5008_01.row.toRowW.prog w) (lawA L) (exec blk12.1 (lawE L)) (Out (fun s' => Inv h₀ L s0 one dx a C n es i ro rows ones fld rest nn pick y 10 (b + 4) s')) noE s := by
  revert X
  k_fill
  intro X
  obtain ⟨h, tk, m, l, vs, cn, r, cm, tn, tp, ty, ti, rfl, F, S, N, hi, hr, hl, q1, q2, q3⟩ := I
  by_cases hp : pick = 9
  · subst hp
    have F' := Fr.knowsR F S (by omega)
    rcases hCi with ⟨rfl, rfl⟩ | ⟨rfl, rfl⟩
    all_goals
      simp only [rowsAt, if_true, if_false, Nat.one_ne_zero] at N
      refine pick_yes X F' T rfl rfl fun tk => ?_
      refine wpG_execs_cons (wpG_IfG (trueG_not (trueG_and (trueG_plain (wpG_Call_Name ?_)))))
      repeat (first | (k_unfold; (try dsimp only)) | walk1 | (dsimp only; walk1))
      (refine' callG_K ?X9 ?k9 ?_; (case X9 => k_asm); (case k9 => k_is); k_whole)
      repeat (first | (k_unfold; (try dsimp only)) | walk1 | (dsimp only; walk1))
      (refine' wpG_call (wrong_t ?c9 ?B9 ?F9 ?X9 ?T9 ?f9 ?ke9 ?dd9 ?uu9 ?N9 ?h19 ?h29 ?U9 hes e1 eg ?h49 ?_); (case B9 => exact B); (case F9 => k_asm); (case X9 => exact X); (case T9 => exact T); (case N9 => k_asm); (case h19 => k_mem); (case h29 => k_mem); (case U9 => first | k_updF | fail "U"); (case h49 => k_mem); (case f9 => exact rfl); (case ke9 => exact rfl); (case dd9 => decide); (case uu9 => decide); (case c9 => first | exact rfl | exact .inl rfl | exact .inr rfl | exact .inr (.inl rfl)))
      intro hh tt FF NN
      dsimp only
      repeat (first | (k_unfold; (try dsimp only)) | walk1 | (dsimp only; walk1))
      refine trueG_and (trueG_plain (wpG_Call_Name ?_))
      repeat (first | (k_unfold; (try dsimp only)) | walk1 | (dsimp only; walk1))
      (refine' callG_K ?X9 ?k9 ?_; (case X9 => k_asm); (case k9 => k_is); k_whole)
      repeat (first | (k_unfold; (try dsimp only)) | walk1 | (dsimp only; walk1))
      (refine' wpG_call (wrong_s ?c9 ?B9 ?F9 ?X9 ?T9 ?f9 ?ke9 ?dd9 ?uu9 ?N9 ?h19 ?h29 ?U9 hes e1 eg  ?_); (case B9 => exact B); (case F9 => k_asm); (case X9 => exact X); (case T9 => exact T); (case N9 => k_asm); (case h19 => k_mem); (case h29 => k_mem); (case U9 => first | k_updF | fail "U"); (case f9 => exact rfl); (case ke9 => exact rfl); (case dd9 => decide); (case uu9 => decide); (case c9 => first | exact rfl | exact .inl rfl | exact .inr rfl | exact .inr (.inl rfl)))
      intro hh tt FF NN
      dsimp only
      repeat (first | (k_unfold; (try dsimp only)) | walk1 | (dsimp only; walk1))
      refine trueG_and (trueG_plain (wpG_Call_Name ?_))
      repeat (first | (k_unfold; (try dsimp only)) | walk1 | (dsimp only; walk1))
      (refine' callG_K ?X9 ?k9 ?_; (case X9 => k_asm); (case k9 => k_is); k_whole)
      repeat (first | (k_unfold; (try dsimp only)) | walk1 | (dsimp only; walk1))
      (refine' wpG_call (wrong_i ?c9 ?B9 ?F9 ?X9 ?T9 ?f9 ?ke9 ?dd9 ?uu9 ?N9 ?h19 ?h29 ?U9 hes e1 eg  ?_); (case B9 => exact B); (case F9 => k_asm); (case X9 => exact X); (case T9 => exact T); (case N9 => k_asm); (case h19 => k_mem); (case h29 => k_mem); (case U9 => first | k_updF | fail "U"); (case f9 => exact rfl); (case ke9 => exact rfl); (case dd9 => decide); (case uu9 => decide); (case c9 => first | exact rfl | exact .inl rfl | exact .inr rfl | exact .inr (.inl rfl)))
      intro hh tt FF NN
      dsimp only
      repeat (first | (k_unfold; (try dsimp only)) | walk1 | (dsimp only; walk1))
      refine trueG_and (trueG_plain (wpG_Call_Name ?_))
      repeat (first | (k_unfold; (try dsimp only)) | walk1 | (dsimp only; walk1))
      (refine' callG_K ?X9 ?k9 ?_; (case X9 => k_asm); (case k9 => k_is); k_whole)
      repeat (first | (k_unfold; (try dsimp only)) | walk1 | (dsimp only; walk1))
      (refine' wpG_call (wrong_n ?c9 ?B9 ?F9 ?X9 ?T9 ?f9 ?ke9 ?dd9 ?uu9 ?N9 ?h19 ?h29 ?U9 hes e1 eg  ?_); (case B9 => exact B); (case F9 => k_asm); (case X9 => exact X); (case T9 => exact T); (case N9 => k_asm); (case h19 => k_mem); (case h29 => k_mem); (case U9 => first | k_updF | fail "U"); (case f9 => exact rfl); (case ke9 => exact rfl); (case dd9 => decide); (case uu9 => decide); (case c9 => first | exact rfl | exact .inl rfl | exact .inr rfl | exact .inr (.inl rfl)))
      intro hh tt FF NN
      dsimp only
      repeat (first | (k_unfold; (try dsimp only)) | walk1 | (dsimp only; walk1))
      refine trueG_and_nil ?_
      repeat (first | (k_unfold; (try dsimp only)) | walk1 | (dsimp only; walk1) | ((with_reducible show wpG _ _ (exec (Stmt.Assign _ _ _) _) _ _ _); refine wpG_of ?_))
      refine wpG_Try_except ?_
      repeat (first | (k_unfold; (try dsimp only)) | walk1 | (dsimp only; walk1))
      refine wpG_Expr (wpG_Call_Attr ?_)
      repeat (first | (k_unfold; (try dsimp only)) | walk1 | (dsimp only; walk1))
      (refine' callG_K ?X9 ?k9 ?_; (case X9 => k_asm); (case k9 => k_is); k_whole)
      repeat (first | (k_unfold; (try dsimp only)) | walk1 | (dsimp only; walk1))
      (refine' wpG_call (put_data_bad_U (ns := [1, 300]) (bp := 1) (bad := 300) ?c9 ?B9 ?F9 ?X9 ?T9 ?N9 ?h19 ?h29 ?U9 ?f9 ?ke9 ?dd9 ?uu9 hes e1 ?h49 ?i9 ?r9 rfl (.inr (by decide)) ?z9 ?_); (case B9 => exact B); (case F9 => k_asm); (case X9 => exact X); (case T9 => exact T); (case N9 => k_asm); (case h19 => k_mem); (case h29 => k_mem); (case U9 => first | k_updF | fail "U"); (case h49 => k_mem); (case i9 => repeat (first | exact IntsAre.nil | refine IntsAre.cons _ _ ?_)); (case r9 => (intro j x hj hx; obtain rfl : j = 0 := (by omega); cases hx; decide)); (case z9 => (rw [sizeLine_eq]; decide)); (case f9 => exact rfl); (case ke9 => exact rfl); (case dd9 => decide); (case uu9 => decide); (case c9 => first | exact rfl | exact .inl rfl | exact .inr rfl | exact .inr (.inl rfl)))
      intro g4 h4 x4 tk4 F4 U4 R4
      dsimp only
      refine caught_G (T' := "ValueError") rfl F4 U4 R4 X T (by k_is) PyProof.Rows.Boot.«ValueError» PySem.F.isExc_ValueError PySem.F.notTuple_ValueError (by rw [isSubtype_type]; kernel_rfl) fun h5 U5 F5 N5 => ?_
      repeat (first | (k_unfold; (try dsimp only)) | walk1 | (dsimp only; walk1))
      (rename News h₀ L _ _ => kN)
      (refine' Inv.of (l := l) ?F9 kN ?m1 ?m2 ?m3 ?m4 ?m5 ?m6 ?m7 ?S9 ?hi ?hb ?hr ?hl q1 q2 ?q3; (case F9 => k_asm); (case m1 => k_mem); (case m2 => k_mem); (case m3 => k_mem); (case m4 => k_mem); (case m5 => rfl); (case m6 => k_mem); (case m7 => (intro q hq; repeat (first | exact hq | apply List.Mem.tail))); (case S9 => exact ⟨rfl, rfl, rfl, rfl, rfl, fun hq => by omega, rfl, rfl, rfl⟩); (case hi => exact hi); (case hb => (rfl)); (case hr => (exact hr)); (case hl => (omega)); (case q3 => exact q3))

  · have F' := Fr.knows F S
    refine pick_no X F' T rfl hp fun tk => ?_
    exact ⟨rfl, Inv.intro F' ⟨rfl, rfl, rfl, rfl, rfl, fun hq => S.e_row (by omega), rfl, rfl, rfl⟩ N hi hr (by omega) q1 q2 q3⟩
end

section
theorem w_off73 : True := by
  w_top off
  trivial
local macro_rules | `(tactic| walk_at "call type:list") => `(tactic| (k_here; (with_reducible show wpAny _ _ (call (Value.type "list") [Value.ref _]) _ _ _); k_dflt (refine' listOfI_K ?g ?F ?N ?m ?r ?z ?_; (case g => exact rfl); (case F => k_asm); (case N => k_asm); (case m => k_mem); (case r => assumption); (case z => (rw [sizeLine_eq]; (try simp only [List.length_append, List.length_cons, List.length_nil]); omega)); k_whole; intro d' h' tk' vs' c' F' N' l1 iL; (try k_lt l1))))
local macro_rules | `(tactic| walk_at "none") => `(tactic| fail)
local macro_rules | `(tactic| walk_at "none") => `(tactic| fail)
local macro_rules | `(tactic| walk_at "none") => `(tactic| fail)
local macro_rules | `(tactic| walk_at "none") => `(tactic| fail)
local macro_rules | `(tactic| walk_at "none") => `(tactic| fail)
local macro_rules | `(tactic| walk_at "none") => `(tactic| fail)
local macro_rules | `(tactic| walk_at "none") => `(tactic| fail)
local macro_rules | `(tactic| walk_at "none") => `(tactic| fail)
-- L7

theorem blk16_c {w : World} {h₀ : Heap} {L : Addr} {mg mb : Str → Option Value} {s0 s : Shared} {p : Program} {loose : List Str} {mean : ExcName → Option Value}
    {one dx a C n i ro rows ones fld b : Nat} {es : List DictEntry} {rest : List (Addr × Obj)} {nn pick y : Int} (hCi : (C = 375 ∧ i = 0) ∨ (C = 453 ∧ i = 1)) (X : (MineH.hd.heap_39 w.params).In h₀) (T : Top p loose mean mg mb h₀) (B : Below callerA h₀ [] h₀)
    (hes : es.length ≤ 1000) (e1 : getL (Str.ofString "pduData") es = some (some (.ref a))) (hb : b ≤ 3000) (eg : getL (Str.ofString "put") es = some none)
    (I : Inv h₀ L s0 one dx a C n es i ro rows ones fld rest nn pick y 13 (b) s) :
    wpG (model PySem.Challenge.rw_bd5008_01.row.toRowW.prog w) (lawA L) (exec blk16.1 (lawE L)) (Out (fun s' => Inv h₀ L s0 one dx a C n es i ro rows ones fld rest nn pick y 14 (b + 4) s')) noE s := by
  revert X
  k_fill
  intro X
  obtain ⟨h, tk, m, l, vs, cn, r, cm, tn, tp, ty, ti, rfl, F, S, N, hi, hr, hl, q1, q2, q3⟩ := I
  by_cases hp : pick = 13
  · subst hp
    have F' := Fr.knowsR F S (by omega)
    rcases hCi with ⟨rfl, rfl⟩ | ⟨rfl, rfl⟩
    all_goals
      simp only [rowsAt, if_true, if_false, Nat.one_ne_zero] at N
      refine pick_yes X F' T rfl rfl fun tk => ?_
      have hr6 : ∀ x ∈ l ++ [6], 0 ≤ x ∧ x < 256 := range_append hr (by intro x hx; rw [List.mem_singleton.mp hx]; decide)
      refine wpG_execs_cons (wpG_Assign_Name (wpG_Call_Name ?_))
      repeat (first | (k_unfold; (try dsimp only)) | walk1 | (dsimp only; walk1))
      (refine' callG_K ?X9 ?k9 ?_; (case X9 => k_asm); (case k9 => k_is); k_whole)
      repeat (first | (k_unfold; (try dsimp only)) | walk1 | (dsimp only; walk1))
      (refine' wpG_call (mkD_inst ?B9 ?F9 ?X9 ?T9 ?N9 ?f9 ?ke9 ?dd9 ?uu9 ?h29 ?h39 ?h49 ?c29 ?z9 e1 ?_); (case B9 => exact B); (case F9 => k_asm); (case X9 => exact X); (case T9 => exact T); (case N9 => k_asm); (case h29 => k_mem); (case h39 => k_mem); (case h49 => k_mem); (case c29 => first | exact .inl rfl | exact .inr rfl); (case z9 => (rw [byteArr_size, sizeLine_eq]; omega)); (case f9 => exact rfl); (case ke9 => exact rfl); (case dd9 => decide); (case uu9 => decide))
      intro x2 dx2 a2 h2 es2 n2 tk2 l1 l2 l3 F2 N2 fl2
      dsimp only
      have a1 : a < dx2 := l1 (a, _) (by k_mem)
      have a2' : one < dx2 := l1 (one, _) (by k_mem)
      have a3 : dx < dx2 := l1 (dx, _) (by k_mem)
      have a4 : rows < dx2 := l1 (rows, _) (by k_mem)
      have a5 : r < dx2 := l1 (r, _) (by k_mem)
      have n5 : ∀ q ∈ rest, q.1 < dx2 := fun q hq => l1 q (by repeat (first | exact hq | apply List.Mem.tail))
      have n6 : ∀ q ∈ rest, q.1 ≠ dx2 := fun q hq => Nat.ne_of_lt (n5 q hq)
      have n7 : ∀ q ∈ rest, q.1 ≠ a2 := fun q hq => Nat.ne_of_lt (Nat.lt_trans (n5 q hq) (Nat.lt_trans l2 l3))
      have n8 : ∀ q ∈ rest, q.1 ≠ x2 := fun q hq => Nat.ne_of_lt (Nat.lt_trans (n5 q hq) l2)
      repeat (first | (k_unfold; (try dsimp only)) | walk1 | (dsimp only; walk1))
      refine wpG_Expr (wpG_Call_Attr ?_)
      repeat (first | (k_unfold; (try dsimp only)) | walk1 | (dsimp only; walk1))
      (refine' callG_K ?X9 ?k9 ?_; (case X9 => k_asm); (case k9 => k_is); k_whole)
      repeat (first | (k_unfold; (try dsimp only)) | walk1 | (dsimp only; walk1))
      (refine' wpG_call (put_U ?c9 ?B9 ?F9 ?X9 ?T9 ?N9 ?h19 ?h29 ?U9 ?f9 ?ke9 ?dd9 ?uu9 hes e1 ?z9 (by decide) (by decide) ?_); (case B9 => exact B); (case F9 => k_asm); (case X9 => exact X); (case T9 => exact T); (case N9 => k_asm); (case h19 => k_mem); (case h29 => k_mem); (case U9 => first | k_updF | fail "U"); (case z9 => rw [byteArr_size]; omega); (case f9 => exact rfl); (case ke9 => exact rfl); (case dd9 => decide); (case uu9 => decide); (case c9 => first | exact rfl | exact .inl rfl | exact .inr rfl | exact .inr (.inl rfl) | exact .inr (.inr rfl)))
      intro hh2 tt2 FF2 NN2
      dsimp only at NN2 ⊢
      rw [ba_snoc] at NN2
      repeat (first | (k_unfold; (try dsimp only)) | walk1 | (dsimp only; walk1))
      refine wpG_Expr (wpG_Call_Attr ?_)
      repeat (first | (k_unfold; (try dsimp only)) | walk1 | (dsimp only; walk1))
      (refine' callG_K ?X9 ?k9 ?_; (case X9 => k_asm); (case k9 => k_is); k_whole)
      repeat (first | (k_unfold; (try dsimp only)) | walk1 | (dsimp only; walk1))
      (refine' wpG_call (put_U ?c9 ?B9 ?F9 ?X9 ?T9 ?N9 ?h19 ?h29 ?U9 ?f9 ?ke9 ?dd9 ?uu9 (Nat.le_trans fl2.len (by decide)) (Flds.at fl2 rfl) ?z9 (by decide) (by decide) ?_); (case B9 => exact B); (case F9 => k_asm); (case X9 => exact X); (case T9 => exact T); (case N9 => k_asm); (case h19 => k_mem); (case h29 => k_mem); (case U9 => first | k_updF | fail "U"); (case z9 => rw [byteArr_size]; omega); (case f9 => exact rfl); (case ke9 => exact rfl); (case dd9 => decide); (case uu9 => decide); (case c9 => first | exact rfl | exact .inl rfl | exact .inr rfl | exact .inr (.inl rfl) | exact .inr (.inr rfl)))
      intro hh2 tt2 FF2 NN2
      dsimp only at NN2 ⊢
      rw [ba_snoc] at NN2
      repeat (first | (k_unfold; (try dsimp only)) | walk1 | (dsimp only; walk1))
      refine wpG_of ?_
      repeat (first | (k_unfold; (try dsimp only)) | walk1 | (dsimp only; walk1))
      (rename News h₀ L _ _ => kN)
      (refine' Inv.of (l := l ++ [5]) ?F9 kN ?m1 ?m2 ?m3 ?m4 ?m5 ?m6 ?m7 ?S9 ?hi ?hb ?hr ?hl q1 q2 ?q3; (case F9 => k_asm); (case m1 => k_mem); (case m2 => k_mem); (case m3 => k_mem); (case m4 => k_mem); (case m5 => rfl); (case m6 => k_mem); (case m7 => (intro q hq; repeat (first | exact hq | apply List.Mem.tail))); (case S9 => exact ⟨rfl, rfl, rfl, rfl, rfl, fun hq => by omega, rfl, rfl, rfl⟩); (case hi => assumption); (case hb => (rfl)); (case hr => (exact range_append hr (by intro x hx; rw [List.mem_singleton.mp hx]; decide))); (case hl => (simp only [List.length_append, List.length_cons, List.length_nil]; omega)); (case q3 => (intro hq; omega)))

  · have F' := Fr.knows F S
    refine pick_no X F' T rfl hp fun tk => ?_
    exact ⟨rfl, Inv.intro F' ⟨rfl, rfl, rfl, rfl, rfl, fun hq => S.e_row (by omega), rfl, rfl, rfl⟩ N hi hr (by omega) q1 q2 q3⟩
end

section
theorem w_off74 : True := by
  w_top off
  trivial
local macro_rules | `(tactic| walk_at "call type:list") => `(tactic| (k_here; (with_reducible show wpAny _ _ (call (Value.type "list") [Value.ref _]) _ _ _); k_dflt (refine' listOfI_K ?g ?F ?N ?m ?r ?z ?_; (case g => exact rfl); (case F => k_asm); (case N => k_asm); (case m => k_mem); (case r => assumption); (case z => (rw [sizeLine_eq]; (try simp only [List.length_append, List.length_cons, List.length_nil]); omega)); k_whole; intro d' h' tk' vs' c' F' N' l1 iL; (try k_lt l1))))
local macro_rules | `(tactic| k_mem) => `(tactic| assumption)
local macro_rules | `(tactic| walk_at "subscriptTail") => `(tactic| (k_here; (with_reducible show wpAny _ _ (subscriptTail _ _ (Value.ref _) (Value.int (Nat.cast _) _)) _ _ _); k_dflt (refine' item_rest ?N ?m ?x ?k ?_ ?s; (case N => k_asm); (case m => k_mem); (case x => rfl); (case k => decide); (case s => with_unfolding_all rfl); k_whole)))
local macro_rules | `(tactic| walk_at "compareOp NotEq ref ref") => `(tactic| (k_here; (with_reducible show wpAny _ _ (compareOp CmpOp.NotEq (Value.ref _) (Value.ref _)) _ _ _); k_dflt (refine' ne_same ?N ?m ?x ?u ?_; (case N => k_asm); (case m => k_mem); (case x => k_mem); (case u => exact Nat.le_of_ble_eq_true rfl); k_whole)))
local macro_rules | `(tactic| walk_at "none") => `(tactic| fail)
local macro_rules | `(tactic| walk_at "none") => `(tactic| fail)
local macro_rules | `(tactic| walk_at "none") => `(tactic| fail)
local macro_rules | `(tactic| walk_at "none") => `(tactic| fail)
local macro_rules | `(tactic| walk_at "none") => `(tactic| fail)
local macro_rules | `(tactic| walk_at "none") => `(tactic| fail)
local macro_rules | `(tactic| walk_at "none") => `(tactic| fail)
-- L8

theorem blk15_c {w : World} {h₀ : Heap} {L : Addr} {mg mb : Str → Option Value} {s0 s : Shared} {p : Program} {loose : List Str} {mean : ExcName → Option Value}
    {one dx a C n i ro rows ones fld b : Nat} {es : List DictEntry} {rest : List (Addr × Obj)} {nn pick y : Int} {k kf kt : Nat} {p1 p2 d1 d2 g1n g2n fs fo nf : Nat} {g1 g2 : List DictEntry} {b1 b2 : Array UInt8} {u1 u2 : Tok} {i3 i4 i5 : Int} {t3 t4 t5 : Tok} {j1 j2 j3 j4 j5 : Int} {s1 s2 s3 s4 s5 : Tok}
    (hCi : (C = 375 ∧ i = 0 ∧ Flds es k (pduF a (.int i3 t3) (.int i4 t4) (.int i5 t5) p1 p2)) ∨ (C = 453 ∧ i = 1 ∧ Flds es k (npduF a (.int i3 t3) (.int i4 t4) (.int i5 t5) p1 p2 (.int j1 s1) (.int j2 s2) (.int j3 s3) (.int j4 s4) (.int j5 s5))))
    (X : (MineH.hd.heap_39 w.params).In h₀) (T : Top p loose mean mg mb h₀) (B : Below callerA h₀ [] h₀) (hk : k ≤ 100) (hb : b ≤ 3000)
    (m1 : (p1, instObj 325 d1) ∈ rest) (m2 : (d1, dictOf g1 g1n) ∈ rest) (m3 : (p2, instObj 325 d2) ∈ rest) (m4 : (d2, dictOf g2 g2n) ∈ rest)
    (k1 : getL (Str.ofString "addrAddr") g1 = some (some (.bytes b1 u1))) (k2 : getL (Str.ofString "addrAddr") g2 = some (some (.bytes b2 u2)))
    (m5 : (fld, sqObj "list" (rowsAt i fs fo) nf) ∈ rest) (m6 : (fs, ({ cls := .type "tuple", data := .seq #[.bytes b1 u1, .bytes b2 u2, .int i3 t3, .int i4 t4, .int i5 t5] } : Obj)) ∈ rest)
    (I : Inv h₀ L s0 one dx a C n es i ro rows ones fld rest nn pick y 12 (b) s) :
    wpG (model PySem.Challenge.rw_bd5008_01.row.toRowW.prog w) (lawA L) (exec blk15.1 (lawE L)) (Out (fun s' => Inv h₀ L s0 one dx a C n es i ro rows ones fld rest nn pick y 13 (b + 4) s')) noE s := by
  revert X
  k_fill
  intro X
  obtain ⟨h, tk, m, l, vs, cn, r, cm, tn, tp, ty, ti, rfl, F, S, N, hi, hr, hl, q1, q2, q3⟩ := I
  by_cases hp : pick = 12
  · subst hp
    have F' := Fr.knowsR F S (by omega)
    rcases hCi with ⟨rfl, rfl, fl⟩ | ⟨rfl, rfl, fl⟩
    ·
      refine pick_yes X F' T rfl rfl fun tk => ?_
      simp only [rowsAt, if_true, if_false, Nat.one_ne_zero] at N m5
      have hr8 : ∀ x ∈ l ++ [78], 0 ≤ x ∧ x < 256 := range_append hr (by intro x hx; rw [List.mem_singleton.mp hx]; decide)
      have hes : es.length ≤ 1000 := Nat.le_trans fl.len (by omega)
      have e1 := fl.at (x := Str.ofString "pduData") rfl
      refine wpG_execs_cons (wpG_Assign_Name (wpG_Call_Name ?_))
      repeat (first | (k_unfold; (try dsimp only)) | walk1 | (dsimp only; walk1))
      (refine' callG_K ?X9 ?k9 ?_; (case X9 => k_asm); (case k9 => k_is); k_whole)
      repeat (first | (k_unfold; (try dsimp only)) | walk1 | (dsimp only; walk1))
      (refine' wpG_call (copied_P ?B9 ?F9 ?X9 ?T9 ?f9 ?ke9 ?dd9 ?uu9 ?N9 fl ?z9 ?_); (case B9 => exact B); (case F9 => k_asm); (case X9 => exact X); (case T9 => exact T); (case N9 => k_asm); (case z9 => (rw [byteArr_size, sizeLine_eq]; omega)); (case f9 => exact rfl); (case ke9 => exact rfl); (case dd9 => decide); (case uu9 => decide))
      intro x2 dx2 a2 h2 es2 n2 tk2 l2 l3 q5 q6 q7 l1 F2 N2 fl2
      dsimp only
      have n5 : ∀ q ∈ rest, q.1 < dx2 := fun q hq => l1 q (.tail _ (.tail _ hq))
      have a4 : rows < dx2 := l1 (rows, _) (.head _)
      have a5 : r < dx2 := l1 (r, _) (.tail _ (.head _))
      have n6 : ∀ q ∈ rest, q.1 ≠ dx2 := fun q hq => Nat.ne_of_lt (n5 q hq)
      have n7 : ∀ q ∈ rest, q.1 ≠ a2 := fun q hq => Nat.ne_of_lt (Nat.lt_trans (n5 q hq) (Nat.lt_trans l2 l3))
      have n8 : ∀ q ∈ rest, q.1 ≠ x2 := fun q hq => Nat.ne_of_lt (Nat.lt_trans (n5 q hq) l2)
      repeat (first | (k_unfold; (try dsimp only)) | walk1 | (dsimp only; walk1))
      refine wpG_Expr (wpG_Call_Attr ?_)
      repeat (first | (k_unfold; (try dsimp only)) | walk1 | (dsimp only; walk1))
      (refine' callG_K ?X9 ?k9 ?_; (case X9 => k_asm); (case k9 => k_is); k_whole)
      repeat (first | (k_unfold; (try dsimp only)) | walk1 | (dsimp only; walk1))
      (refine' wpG_call (put_U ?c9 ?B9 ?F9 ?X9 ?T9 ?N9 ?h19 ?h29 ?U9 ?f9 ?ke9 ?dd9 ?uu9 hes e1 ?z9 (by decide) (by decide) ?_); (case B9 => exact B); (case F9 => k_asm); (case X9 => exact X); (case T9 => exact T); (case N9 => k_asm); (case h19 => k_mem); (case h29 => k_mem); (case U9 => first | k_updF | fail "U"); (case z9 => rw [byteArr_size]; omega); (case f9 => exact rfl); (case ke9 => exact rfl); (case dd9 => decide); (case uu9 => decide); (case c9 => first | exact rfl | exact .inl rfl | exact .inr rfl | exact .inr (.inl rfl) | exact .inr (.inr rfl)))
      intro hh2 tt2 FF2 NN2
      dsimp only at NN2 ⊢
      rw [ba_snoc] at NN2
      repeat (first | (k_unfold; (try dsimp only)) | walk1 | (dsimp only; walk1))
      refine wpG_Expr (wpG_Call_Attr ?_)
      repeat (first | (k_unfold; (try dsimp only)) | walk1 | (dsimp only; walk1))
      (refine' callG_K ?X9 ?k9 ?_; (case X9 => k_asm); (case k9 => k_is); k_whole)
      repeat (first | (k_unfold; (try dsimp only)) | walk1 | (dsimp only; walk1))
      (refine' wpG_call (put_U ?c9 ?B9 ?F9 ?X9 ?T9 ?N9 ?h19 ?h29 ?U9 ?f9 ?ke9 ?dd9 ?uu9 (Nat.le_trans fl2.len (by decide)) (Flds.at fl2 rfl) ?z9 (by decide) (by decide) ?_); (case B9 => exact B); (case F9 => k_asm); (case X9 => exact X); (case T9 => exact T); (case N9 => k_asm); (case h19 => k_mem); (case h29 => k_mem); (case U9 => first | k_updF | fail "U"); (case z9 => rw [byteArr_size]; omega); (case f9 => exact rfl); (case ke9 => exact rfl); (case dd9 => decide); (case uu9 => decide); (case c9 => first | exact rfl | exact .inl rfl | exact .inr rfl | exact .inr (.inl rfl) | exact .inr (.inr rfl)))
      intro hh2 tt2 FF2 NN2
      dsimp only at NN2 ⊢
      rw [ba_snoc] at NN2
      repeat (first | (k_unfold; (try dsimp only)) | walk1 | (dsimp only; walk1))
      refine wpG_of ?_
      repeat (first | (k_unfold; (try dsimp only)) | walk1 | (dsimp only; walk1))
      (rename News h₀ L _ _ => kN)
      (refine' Inv.of (l := l ++ [77]) ?F9 kN ?m1 ?m2 ?m3 ?m4 ?m5 ?m6 ?m7 ?S9 ?hi ?hb ?hr ?hl q1 q2 ?q3; (case F9 => k_asm); (case m1 => k_mem); (case m2 => k_mem); (case m3 => k_mem); (case m4 => k_mem); (case m5 => rfl); (case m6 => k_mem); (case m7 => (intro q hq; repeat (first | exact hq | apply List.Mem.tail))); (case S9 => exact ⟨rfl, rfl, rfl, rfl, rfl, fun hq => by omega, rfl, rfl, rfl⟩); (case hi => assumption); (case hb => (rfl)); (case hr => (exact range_append hr (by intro x hx; rw [List.mem_singleton.mp hx]; decide))); (case hl => (simp only [List.length_append, List.length_cons, List.length_nil]; omega)); (case q3 => (intro hq; omega)))
    ·
      refine pick_yes X F' T rfl rfl fun tk => ?_
      simp only [rowsAt, if_true, if_false, Nat.one_ne_zero] at N m5
      have hr8 : ∀ x ∈ l ++ [78], 0 ≤ x ∧ x < 256 := range_append hr (by intro x hx; rw [List.mem_singleton.mp hx]; decide)
      have hes : es.length ≤ 1000 := Nat.le_trans fl.len (by omega)
      have e1 := fl.at (x := Str.ofString "pduData") rfl
      refine wpG_execs_cons (wpG_Assign_Name (wpG_Call_Name ?_))
      repeat (first | (k_unfold; (try dsimp only)) | walk1 | (dsimp only; walk1))
      (refine' callG_K ?X9 ?k9 ?_; (case X9 => k_asm); (case k9 => k_is); k_whole)
      repeat (first | (k_unfold; (try dsimp only)) | walk1 | (dsimp only; walk1))
      (refine' wpG_call (copied_N ?B9 ?F9 ?X9 ?T9 ?f9 ?ke9 ?dd9 ?uu9 ?N9 fl ?z9 ?_); (case B9 => exact B); (case F9 => k_asm); (case X9 => exact X); (case T9 => exact T); (case N9 => k_asm); (case z9 => (rw [byteArr_size, sizeLine_eq]; omega)); (case f9 => exact rfl); (case ke9 => exact rfl); (case dd9 => decide); (case uu9 => decide))
      intro x2 dx2 a2 h2 es2 n2 tk2 l2 l3 q5 q6 q7 l1 F2 N2 fl2
      dsimp only
      have n5 : ∀ q ∈ rest, q.1 < dx2 := fun q hq => l1 q (.tail _ (.tail _ hq))
      have a4 : rows < dx2 := l1 (rows, _) (.head _)
      have a5 : r < dx2 := l1 (r, _) (.tail _ (.head _))
      have n6 : ∀ q ∈ rest, q.1 ≠ dx2 := fun q hq => Nat.ne_of_lt (n5 q hq)
      have n7 : ∀ q ∈ rest, q.1 ≠ a2 := fun q hq => Nat.ne_of_lt (Nat.lt_trans (n5 q hq) (Nat.lt_trans l2 l3))
      have n8 : ∀ q ∈ rest, q.1 ≠ x2 := fun q hq => Nat.ne_of_lt (Nat.lt_trans (n5 q hq) l2)
      repeat (first | (k_unfold; (try dsimp only)) | walk1 | (dsimp only; walk1))
      refine wpG_Expr (wpG_Call_Attr ?_)
      repeat (first | (k_unfold; (try dsimp only)) | walk1 | (dsimp only; walk1))
      (refine' callG_K ?X9 ?k9 ?_; (case X9 => k_asm); (case k9 => k_is); k_whole)
      repeat (first | (k_unfold; (try dsimp only)) | walk1 | (dsimp only; walk1))
      (refine' wpG_call (put_U ?c9 ?B9 ?F9 ?X9 ?T9 ?N9 ?h19 ?h29 ?U9 ?f9 ?ke9 ?dd9 ?uu9 hes e1 ?z9 (by decide) (by decide) ?_); (case B9 => exact B); (case F9 => k_asm); (case X9 => exact X); (case T9 => exact T); (case N9 => k_asm); (case h19 => k_mem); (case h29 => k_mem); (case U9 => first | k_updF | fail "U"); (case z9 => rw [byteArr_size]; omega); (case f9 => exact rfl); (case ke9 => exact rfl); (case dd9 => decide); (case uu9 => decide); (case c9 => first | exact rfl | exact .inl rfl | exact .inr rfl | exact .inr (.inl rfl) | exact .inr (.inr rfl)))
      intro hh2 tt2 FF2 NN2
      dsimp only at NN2 ⊢
      rw [ba_snoc] at NN2
      repeat (first | (k_unfold; (try dsimp only)) | walk1 | (dsimp only; walk1))
      refine wpG_Expr (wpG_Call_Attr ?_)
      repeat (first | (k_unfold; (try dsimp only)) | walk1 | (dsimp only; walk1))
      (refine' callG_K ?X9 ?k9 ?_; (case X9 => k_asm); (case k9 => k_is); k_whole)
      repeat (first | (k_unfold; (try dsimp only)) | walk1 | (dsimp only; walk1))
      (refine' wpG_call (put_U ?c9 ?B9 ?F9 ?X9 ?T9 ?N9 ?h19 ?h29 ?U9 ?f9 ?ke9 ?dd9 ?uu9 (Nat.le_trans fl2.len (by decide)) (Flds.at fl2 rfl) ?z9 (by decide) (by decide) ?_); (case B9 => exact B); (case F9 => k_asm); (case X9 => exact X); (case T9 => exact T); (case N9 => k_asm); (case h19 => k_mem); (case h29 => k_mem); (case U9 => first | k_updF | fail "U"); (case z9 => rw [byteArr_size]; omega); (case f9 => exact rfl); (case ke9 => exact rfl); (case dd9 => decide); (case uu9 => decide); (case c9 => first | exact rfl | exact .inl rfl | exact .inr rfl | exact .inr (.inl rfl) | exact .inr (.inr rfl)))
      intro hh2 tt2 FF2 NN2
      dsimp only at NN2 ⊢
      rw [ba_snoc] at NN2
      repeat (first | (k_unfold; (try dsimp only)) | walk1 | (dsimp only; walk1))
      refine wpG_of ?_
      repeat (first | (k_unfold; (try dsimp only)) | walk1 | (dsimp only; walk1))
      (rename News h₀ L _ _ => kN)
      (refine' Inv.of (l := l ++ [77]) ?F9 kN ?m1 ?m2 ?m3 ?m4 ?m5 ?m6 ?m7 ?S9 ?hi ?hb ?hr ?hl q1 q2 ?q3; (case F9 => k_asm); (case m1 => k_mem); (case m2 => k_mem); (case m3 => k_mem); (case m4 => k_mem); (case m5 => rfl); (case m6 => k_mem); (case m7 => (intro q hq; repeat (first | exact hq | apply List.Mem.tail))); (case S9 => exact ⟨rfl, rfl, rfl, rfl, rfl, fun hq => by omega, rfl, rfl, rfl⟩); (case hi => assumption); (case hb => (rfl)); (case hr => (exact range_append hr (by intro x hx; rw [List.mem_singleton.mp hx]; decide))); (case hl => (simp only [List.length_append, List.length_cons, List.length_nil]; omega)); (case q3 => (intro hq; omega)))
  · have F' := Fr.knows F S
    refine pick_no X F' T rfl hp fun tk => ?_
    exact ⟨rfl, Inv.intro F' ⟨rfl, rfl, rfl, rfl, rfl, fun hq => S.e_row (by omega), rfl, rfl, rfl⟩ N hi hr (by omega) q1 q2 q3⟩
end

section
theorem w_off75 : True := by
  w_top off
  trivial
local macro_rules | `(tactic| walk_at "none") => `(tactic| fail)
local macro_rules | `(tactic| walk_at "none") => `(tactic| fail)
local macro_rules | `(tactic| walk_at "none") => `(tactic| fail)
local macro_rules | `(tactic| walk_at "none") => `(tactic| fail)
local macro_rules | `(tactic| walk_at "none") => `(tactic| fail)
local macro_rules | `(tactic| walk_at "none") => `(tactic| fail)
local macro_rules | `(tactic| walk_at "none") => `(tactic| fail)
local macro_rules | `(tactic| walk_at "none") => `(tactic| fail)
local macro_rules | `(tactic| walk_at "none") => `(tactic| fail)
local macro_rules | `(tactic| walk_at "none") => `(tactic| fail)
local macro_rules | `(tactic| walk_at "none") => `(tactic| fail)
-- L9

theorem blk18_c {w : World} {h₀ : Heap} {L : Addr} {mg mb : Str → Option Value} {s0 s : Shared} {p : Program} {loose : List Str} {mean : ExcName → Option Value}
    {one dx a C n i ro rows ones fld b : Nat} {es : List DictEntry} {rest : List (Addr × Obj)} {nn pick y : Int} (hCi : (C = 375 ∧ i = 0) ∨ (C = 453 ∧ i = 1)) (X : (MineH.hd.heap_39 w.params).In h₀) (T : Top p loose mean mg mb h₀) (B : Below callerA h₀ [] h₀)
    (hes : es.length ≤ 1000) (e1 : getL (Str.ofString "pduData") es = some (some (.ref a))) (hb : b ≤ 3000)
    (I : Inv h₀ L s0 one dx a C n es i ro rows ones fld rest nn pick y 15 (b) s) :
    wpG (model PySem.Challenge.rw_bd5008_01.row.toRowW.prog w) (lawA L) (exec blk18.1 (lawE L)) (Out (fun s' => Inv h₀ L s0 one dx a C n es i ro rows ones fld rest nn pick y 16 (b + 4) s')) noE s := by
  revert X
  k_fill
  intro X
  obtain ⟨h, tk, m, l, vs, cn, r, cm, tn, tp, ty, ti, rfl, F, S, N, hi, hr, hl, q1, q2, q3⟩ := I
  by_cases hp : pick = 15
  · subst hp
    have F' := Fr.knowsR F S (by omega)
    ·
      refine pick_yes X F' T rfl rfl fun tk => ?_
      refine wpG_execs_cons ?_
      repeat (first | (k_unfold; (try dsimp only)) | walk1 | (dsimp only; walk1) | ((with_reducible show wpG _ _ (exec (Stmt.Assign _ _ _) _) _ _ _); refine wpG_of ?_))
      refine wpG_For ?_
      repeat (first | (k_unfold; (try dsimp only)) | walk1 | (dsimp only; walk1))
      (rename Fr _ _ _ _ => lF)
      (rename News _ _ _ _ => lN)
      refine forG_keep rfl lF lN (.head _) (fun j m' => ∃ t, m' (Str.ofString "wrong") = some (.int (j : Int) t) ∧ FrS m' nn 15 y i one r rows ones fld 0 tn tp ty ti) ⟨_, rfl, ⟨rfl, rfl, rfl, rfl, rfl, fun _ => rfl, rfl, rfl, rfl⟩⟩ ?_ ?_
      · rintro j v m1 h1 tk1 I9 o9 hv ⟨tw, hw, S1⟩ F1 N1
        have F2 := Fr.know (Fr.knowsR F1 S1 (by omega)) (x := Str.ofString "wrong") hw
        clear lF lN
        rcases j with _ | _ | _ | _ | j
        · cases hv
          repeat (first | (k_unfold; (try dsimp only)) | walk1 | (dsimp only; walk1))
          refine wpG_Try_except ?_
          repeat (first | (k_unfold; (try dsimp only)) | walk1 | (dsimp only; walk1))
          refine wpG_Expr (wpG_Call_Name ?_)
          repeat (first | (k_unfold; (try dsimp only)) | walk1 | (dsimp only; walk1))
          (refine' callG_K ?X9 ?k9 ?_; (case X9 => k_asm); (case k9 => k_is); k_whole)
          repeat (first | (k_unfold; (try dsimp only)) | walk1 | (dsimp only; walk1))
          (refine' wpG_call (mkD_wi ?B9 ?F9 ?X9 ?T9 ?N9 ?f9 ?ke9 ?dd9 ?uu9 ?_); (case B9 => exact B); (case F9 => k_asm); (case X9 => exact X); (case T9 => exact T); (case N9 => k_asm); (case f9 => exact rfl); (case ke9 => exact rfl); (case dd9 => decide); (case uu9 => decide))
          intro g4 h4 x4 tk4 F4 U4 R4
          dsimp only
          refine caught_G (T' := "TypeError") rfl F4 U4 R4 X T (by k_is) PyProof.Rows.Boot.«TypeError» PySem.F.isExc_TypeError PySem.F.notTuple_TypeError (by rw [isSubtype_type]; kernel_rfl) fun h5 U5 F5 N5 => ?_
          repeat (first | (k_unfold; (try dsimp only)) | walk1 | (dsimp only; walk1))
          dsimp only
          (rename News h₀ L _ _ => kN)
          (refine' KeepEnd.intro ?F9 kN ?s9 ?p9; (case F9 => k_asm); (case s9 => exact fun q hq => hq); (case p9 => exact ⟨_, rfl, ⟨rfl, rfl, rfl, rfl, rfl, fun _ => rfl, rfl, rfl, rfl⟩⟩))
        · cases hv
          repeat (first | (k_unfold; (try dsimp only)) | walk1 | (dsimp only; walk1))
          refine wpG_Try_except ?_
          repeat (first | (k_unfold; (try dsimp only)) | walk1 | (dsimp only; walk1))
          refine wpG_Expr (wpG_Call_Name ?_)
          repeat (first | (k_unfold; (try dsimp only)) | walk1 | (dsimp only; walk1))
          (refine' callG_K ?X9 ?k9 ?_; (case X9 => k_asm); (case k9 => k_is); k_whole)
          repeat (first | (k_unfold; (try dsimp only)) | walk1 | (dsimp only; walk1))
          (refine' wpG_call (mkD_ws ?B9 ?F9 ?X9 ?T9 ?N9 ?f9 ?ke9 ?dd9 ?uu9 ?_); (case B9 => exact B); (case F9 => k_asm); (case X9 => exact X); (case T9 => exact T); (case N9 => k_asm); (case f9 => exact rfl); (case ke9 => exact rfl); (case dd9 => decide); (case uu9 => decide))
          intro g4 h4 x4 tk4 F4 U4 R4
          dsimp only
          refine caught_G (T' := "TypeError") rfl F4 U4 R4 X T (by k_is) PyProof.Rows.Boot.«TypeError» PySem.F.isExc_TypeError PySem.F.notTuple_TypeError (by rw [isSubtype_type]; kernel_rfl) fun h5 U5 F5 N5 => ?_
          repeat (first | (k_unfold; (try dsimp only)) | walk1 | (dsimp only; walk1))
          dsimp only
          (rename News h₀ L _ _ => kN)
          (refine' KeepEnd.intro ?F9 kN ?s9 ?p9; (case F9 => k_asm); (case s9 => exact fun q hq => hq); (case p9 => exact ⟨_, rfl, ⟨rfl, rfl, rfl, rfl, rfl, fun _ => rfl, rfl, rfl, rfl⟩⟩))
        · cases hv
          repeat (first | (k_unfold; (try dsimp only)) | walk1 | (dsimp only; walk1))
          refine wpG_Try_except ?_
          repeat (first | (k_unfold; (try dsimp only)) | walk1 | (dsimp only; walk1))
          refine wpG_Expr (wpG_Call_Name ?_)
          repeat (first | (k_unfold; (try dsimp only)) | walk1 | (dsimp only; walk1))
          (refine' callG_K ?X9 ?k9 ?_; (case X9 => k_asm); (case k9 => k_is); k_whole)
          repeat (first | (k_unfold; (try dsimp only)) | walk1 | (dsimp only; walk1))
          (refine' wpG_call (mkD_wl ?B9 ?F9 ?X9 ?T9 ?N9 ?f9 ?ke9 ?dd9 ?uu9 ?h29 ?_); (case B9 => exact B); (case F9 => k_asm); (case X9 => exact X); (case T9 => exact T); (case N9 => k_asm); (case h29 => k_mem); (case f9 => exact rfl); (case ke9 => exact rfl); (case dd9 => decide); (case uu9 => decide))
          intro g4 h4 x4 tk4 F4 U4 R4
          dsimp only
          refine caught_G (T' := "TypeError") rfl F4 U4 R4 X T (by k_is) PyProof.Rows.Boot.«TypeError» PySem.F.isExc_TypeError PySem.F.notTuple_TypeError (by rw [isSubtype_type]; kernel_rfl) fun h5 U5 F5 N5 => ?_
          repeat (first | (k_unfold; (try dsimp only)) | walk1 | (dsimp only; walk1))
          dsimp only
          (rename News h₀ L _ _ => kN)
          (refine' KeepEnd.intro ?F9 kN ?s9 ?p9; (case F9 => k_asm); (case s9 => exact fun q hq => hq); (case p9 => exact ⟨_, rfl, ⟨rfl, rfl, rfl, rfl, rfl, fun _ => rfl, rfl, rfl, rfl⟩⟩))
        · cases hv
          repeat (first | (k_unfold; (try dsimp only)) | walk1 | (dsimp only; walk1))
          refine wpG_Try_except ?_
          repeat (first | (k_unfold; (try dsimp only)) | walk1 | (dsimp only; walk1))
          refine wpG_Expr (wpG_Call_Name ?_)
          repeat (first | (k_unfold; (try dsimp only)) | walk1 | (dsimp only; walk1))
          (refine' callG_K ?X9 ?k9 ?_; (case X9 => k_asm); (case k9 => k_is); k_whole)
          repeat (first | (k_unfold; (try dsimp only)) | walk1 | (dsimp only; walk1))
          (refine' wpG_call (mkD_wt ?B9 ?F9 ?X9 ?T9 ?N9 ?f9 ?ke9 ?dd9 ?uu9 ?h29 ?_); (case B9 => exact B); (case F9 => k_asm); (case X9 => exact X); (case T9 => exact T); (case N9 => k_asm); (case h29 => k_mem); (case f9 => exact rfl); (case ke9 => exact rfl); (case dd9 => decide); (case uu9 => decide))
          intro g4 h4 x4 tk4 F4 U4 R4
          dsimp only
          refine caught_G (T' := "TypeError") rfl F4 U4 R4 X T (by k_is) PyProof.Rows.Boot.«TypeError» PySem.F.isExc_TypeError PySem.F.notTuple_TypeError (by rw [isSubtype_type]; kernel_rfl) fun h5 U5 F5 N5 => ?_
          repeat (first | (k_unfold; (try dsimp only)) | walk1 | (dsimp only; walk1))
          dsimp only
          (rename News h₀ L _ _ => kN)
          (refine' KeepEnd.intro ?F9 kN ?s9 ?p9; (case F9 => k_asm); (case s9 => exact fun q hq => hq); (case p9 => exact ⟨_, rfl, ⟨rfl, rfl, rfl, rfl, rfl, fun _ => rfl, rfl, rfl, rfl⟩⟩))
        · cases hv
      · rintro m1 h1 tk1 ⟨tw, hw, S1⟩ F1 N1
        have F2 := Fr.know (Fr.knowsR F1 S1 (by omega)) (x := Str.ofString "wrong") hw
        clear lF lN
        repeat (first | (k_unfold; (try dsimp only)) | walk1 | (dsimp only; walk1))
        (rename News h₀ L _ _ => kN)
        (refine' Inv.of (l := l) ?F9 kN ?m1 ?m2 ?m3 ?m4 ?m5 ?m6 ?m7 ?S9 ?hi ?hb ?hr ?hl q1 q2 ?q3; (case F9 => k_asm); (case m1 => k_mem); (case m2 => k_mem); (case m3 => k_mem); (case m4 => k_mem); (case m5 => rfl); (case m6 => k_mem); (case m7 => (intro q hq; repeat (first | exact hq | apply List.Mem.tail))); (case S9 => exact ⟨rfl, rfl, rfl, rfl, rfl, fun hq => by omega, rfl, rfl, rfl⟩); (case hi => exact hi); (case hb => (rfl)); (case hr => (exact hr)); (case hl => (omega)); (case q3 => exact q3))
  · have F' := Fr.knows F S
    refine pick_no X F' T rfl hp fun tk => ?_
    exact ⟨rfl, Inv.intro F' ⟨rfl, rfl, rfl, rfl, rfl, fun hq => S.e_row (by omega), rfl, rfl, rfl⟩ N hi hr (by omega) q1 q2 q3⟩
end

end Mine
end

-- L1q
namespace Mine
open PySem PySem.W PySem.Calls PyProof.Rows
theorem fm5 (y : Int) : 0 ≤ y.fmod 5 ∧ y.fmod 5 < 5 := by
  rw [Int.fmod_eq_emod_of_nonneg _ (by decide)]
  exact ⟨Int.emod_nonneg _ (by decide), Int.emod_lt_of_pos _ (by decide)⟩
theorem item_lit {prog : Program} {w : World} {A : Around} {E : Value → Shared → Prop} {s : Shared} {h₀ : Heap} {L l : Addr} {news : List (Addr × Obj)} {vs : List Value} {n : Nat} {i : Int} {u : Tok} {v : Value} {value slice : Expr} {Q : Value → Shared → Prop}
    (N : News h₀ L s.heap news) (hm : (l, sqObj "list" vs n) ∈ news) (h0 : 0 ≤ i) (hk : i < 2 ^ 63) (hx : vs[i.toNat]? = some v) (h : Q v s)
    (hs : subscripted slice false (.ref l) (.int i u) = operate [.ref l, .int i u] (getItem (.ref l) (.int i u)) := by with_unfolding_all rfl) :
    wpAny (model prog w) A (subscriptTail value slice (.ref l) (.int i u)) Q E s :=
  have hl : s.heap.IsList l vs.toArray := ⟨_, (N _ hm).1, rfl, n, rfl⟩
  tail_any hl.typeIs slot_list_getitem.lookup (wpAny_getItem_list hl h0 hk (by simpa using hx) h) hs
theorem slice_from {prog : Program} {w : World} {A : Around} {E : Value → Shared → Prop} {s : Shared} {h₀ : Heap} {L l : Addr} {m : Str → Option Value} {news : List (Addr × Obj)} {vs : List Value} {cn : Nat} {ns : List Int} {x : Int} {u : Tok} {value slice : Expr} {Q : Value → Shared → Prop}
    (F : Fr h₀ L s.heap m) (N : News h₀ L s.heap news) (hm : (l, sqObj "list" vs cn) ∈ news) (hi : IntsAre vs ns) (h0 : 0 ≤ x) (hz : ns.length ≤ sizeLine)
    (h : ∀ D ws h', Fr h₀ L h' m → News h₀ L h' ((D, listOf (List.toArray ws) 0) :: news) → (∀ p ∈ news, p.1 < D) → IntsAre ws (ns.drop x.toNat) → Q (.ref D) { s with heap := h' })
    (hs : subscripted slice false (.ref l) (.ref s.heap.objs.size) = operate [.ref s.heap.objs.size, .ref l] (getItem (.ref l) (.ref s.heap.objs.size))) (ht : ∀ r, letTemporaryGo value (.ref l) r = pure ()) :
    wpAny (model prog w) A (subscriptTail value slice (.ref l) (.ref s.heap.objs.size)) Q E { s with heap := s.heap.push { cls := .type "slice", data := .fields #[.int x u, .none, .none] } } :=
  kmk_slice_ints F N ⟨_, (N _ hm).1, rfl, cn, rfl⟩ (IsPart.int _ _) IsPart.none hi (kmk_from hi h0) rfl (fun D ws h' F' N' l1 i1 _ _ => h D ws h' F' N' l1 i1) hs ht (kmk_sz hi hz)
theorem u8 {x : Int} (h : 0 ≤ x ∧ x < 256) : ((x.toNat.toUInt8.toNat : Nat) : Int) = x := by
  rw [show x.toNat.toUInt8.toNat = x.toNat % 256 from by simp [Nat.toUInt8, UInt8.ofNat, UInt8.toNat]]
  omega
theorem nat2 {l : List Int} (hr : ∀ x ∈ l, 0 ≤ x ∧ x < 256) (h2 : 2 ≤ l.length) {v : Nat} (hv : v = Builtin.Struct.natOf true (byteArr (l.take 2))) :
    (v : Int) = (List.foldl (fun (σ : Int × Unit) (n : Int) => (σ.fst * 256 + n, ())) (0, ()) (l.take 2)).fst := by
  match l, h2 with
  | x :: y :: l', _ =>
    have hx := u8 (hr x (.head _))
    have hy := u8 (hr y (.tail _ (.head _)))
    have e : Builtin.Struct.natOf true (byteArr [x, y]) = x.toNat.toUInt8.toNat * 256 + y.toNat.toUInt8.toNat := natOf_2 _ _
    rw [hv]
    show ((Builtin.Struct.natOf true (byteArr [x, y]) : Nat) : Int) = (0 * 256 + x) * 256 + y
    rw [e]
    omega
theorem nat4 {l : List Int} (hr : ∀ x ∈ l, 0 ≤ x ∧ x < 256) (h2 : 4 ≤ l.length) {v : Nat} (hv : v = Builtin.Struct.natOf true (byteArr (l.take 4))) :
    (v : Int) = (List.foldl (fun (σ : Int × Unit) (n : Int) => (σ.fst * 256 + n, ())) (0, ()) (l.take 4)).fst := by
  match l, h2 with
  | x :: y :: z :: t :: l', _ =>
    have hx := u8 (hr x (.head _))
    have hy := u8 (hr y (.tail _ (.head _)))
    have hz := u8 (hr z (.tail _ (.tail _ (.head _))))
    have ht := u8 (hr t (.tail _ (.tail _ (.tail _ (.head _)))))
    have e : Builtin.Struct.natOf true (byteArr [x, y, z, t]) = ((x.toNat.toUInt8.toNat * 256 + y.toNat.toUInt8.toNat) * 256 + z.toNat.toUInt8.toNat) * 256 + t.toNat.toUInt8.toNat := by
      first | exact natOf_4 _ _ _ _ | (rw [show byteArr [x, y, z, t] = #[x.toNat.toUInt8, y.toNat.toUInt8, z.toNat.toUInt8, t.toNat.toUInt8] from rfl, natOf_4]; omega)
    rw [hv]
    show ((Builtin.Struct.natOf true (byteArr [x, y, z, t]) : Nat) : Int) = (((0 * 256 + x) * 256 + y) * 256 + z) * 256 + t
    rw [e]
    omega
theorem nat1 {x : Int} {l : List Int} (h : 0 ≤ x ∧ x < 256) : ((x.toNat.toUInt8.toNat : Nat) : Int) = (List.foldl (fun (σ : Int × Unit) (n : Int) => (σ.fst * 256 + n, ())) (0, ()) ((x :: l).take 1)).fst := by
  rw [u8 h]
  show x = 0 * 256 + x
  omega
theorem ba_map (l : List Int) : (List.map (fun n : Int => n.toNat.toUInt8) l).toArray = byteArr l := rfl
end Mine

section
namespace Mine
open PySem PySem.W PyProof.Rows
set_option maxHeartbeats 8000000
local macro_rules | `(tactic| size_fits) => `(tactic| exact Nat.le_of_ble_eq_true rfl)
local macro_rules | `(tactic| walk_at "eval Name") => `(tactic| (k_here; k_dflt (refine' nameX_B ?F ?X ?T ?e ?v ?n ?_ ?a ?b; (case a => kernel_rfl!); (case b => kernel_rfl!); (case F => k_asm); (case X => k_asm); (case T => k_asm); (case e => k_is); (case v => first | boot_by_name | kernel_rfl); (case n => decide); k_whole)))
local macro_rules | `(tactic| walk_at "eval Name") => `(tactic| (k_here; k_dflt (refine' nameX_L ?F ?v ?_ ?a ?b; (case a => kernel_rfl!); (case b => kernel_rfl!); (case F => k_asm); (case v => rfl); k_whole)))
local macro_rules | `(tactic| walk_at "call builtin:_struct.pack") => `(tactic| (k_here; (with_reducible show wpAny _ _ (call _ [Value.str _ _, Value.int _ _]) _ _ _); first | refine pack_B (by decide) (by decide) ?_ | refine pack_H (by omega) (by omega) ?_ | refine pack_L (by omega) (by omega) ?_))
local macro_rules | `(tactic| k_enter) => `(tactic| (kp_kind "both"; (refine' enter_both ?k1 ?k2 ?k3 ?k4 ?k5 ?kA ?kF ?kK ?k6 ?k7 ?k8 ?kV ?kX ?kQ ?kM ?kN ?kR ?kP ?kS ?kT ?kB ?_ ?c2 ?c3 ?c4 ?c5; (case kA => exact rfl); (case kF => exact rfl); (case kK => exact rfl); (case k1 => k_asm); (case k2 => k_asm); (case k3 => k_asm); (case k4 => k_asm); (case k5 => k_asm); (case k6 => k_is); (case k7 => k_is); (case k8 => k_room); (case kV => kp_lit); (case kX => kp_lit); (case kQ => exact rfl); (case kM => exact rfl); (case kN => exact rfl); (case kR => exact rfl); (case kP => exact rfl); (case kS => exact fun _ => rfl); (case kT => exact fun _ _ => rfl); (case kB => exact fun _ _ => locs rfl); (case c5 => decide); (case c2 => exact rfl); (case c3 => exact rfl); (case c4 => exact rfl); k_whole; intro C' D' g' L' h' l1 l2 lo' FG' F' N' B' X' T'; (try k_lt l1); (try k_lt2 l2); (simp only [kwEs, List.length_cons, List.length_nil, Nat.zero_add, Nat.reduceAdd] at N'); (try dsimp only); (try k_lift B'); (try k_fold))))
local macro_rules | `(tactic| walk_at "eval Call") => `(tactic| (k_here; (with_reducible show wpAny _ _ (eval (Expr.Call (Expr.Attribute _ _ _) [Expr.Starred _ _] [Keyword.mk none _ _] _) _) _ _ _); refine eval_superSS ?_))
local macro_rules | `(tactic| walk_at "eval Call Attribute") => `(tactic| (k_here; (with_reducible show wpAny _ _ (eval (Expr.Call (Expr.Attribute _ _ _) [Expr.Starred _ _] [Keyword.mk none _ _] _) _) _ _ _); refine eval_superSS ?_))
local macro_rules | `(tactic| walk_at "call type:super") => `(tactic| (k_here; (with_reducible show wpAny _ _ (call (Value.type "super") [Value.ref _, Value.ref _]) _ _ _); k_dflt (refine' call_super2 ?k1 ?k2 ?k3 ?k5 ?k6 ?k7 ?_; (case k1 => k_asm); (case k2 => k_asm); (case k3 => k_asm); (case k5 => k_inst); (case k6 => k_is); (case k7 => k_is); k_whole; intro so' h' F' N' l1; (try k_lt l1))))
local macro_rules | `(tactic| walk_at "getAttr ref") => `(tactic| (k_here; (with_reducible show wpAny _ _ (getAttr (Value.ref _) (Str.ofString "__init__") _) _ _ _); k_dflt (first
  | (refine' superAttr_fn ?k1 ?k2 ?k3 ?k4 ?k5 ?k6 ?k7 ?k8 ?k9 ?_; (case k1 => k_asm); (case k2 => k_asm); (case k3 => k_asm); (case k4 => k_mem); (case k5 => k_inst); (case k6 => k_is); (case k7 => ks_is); (case k8 => k_is); (case k9 => decide); k_whole; intro q' h' F' N' l1; (try k_lt l1))
  | (refine' superAttr_oi ?k1 ?k2 ?k3 ?k4 ?k5 ?k6 ?k7 ?k8 ?_; (case k1 => k_asm); (case k2 => k_asm); (case k3 => k_asm); (case k4 => k_mem); (case k5 => k_mem); (case k6 => k_is); (case k7 => ks_is); (case k8 => k_is); k_whole; intro q' h' F' N' l1; (try k_lt l1)))))
local macro_rules | `(tactic| walk_at "callWith ref") => `(tactic| (k_here; (with_reducible show wpAny _ _ (callWith _ (Value.ref _) _ (backTo _ (starEach [Expr.Starred _ _] _)) (backToKw _ (keywordEach [Keyword.mk none _ _] _))) _ _ _); k_dflt (refine' callWith_SS ?k1 ?k2 ?k3 ?k4 ?k5 ?k6 ?k7 ?k8 ?k9 ?ka ?kb ?kc ?_; (case k1 => k_asm); (case k2 => k_asm); (case k3 => exact nameX_L (by k_asm) rfl ⟨rfl, rfl⟩); (case k4 => exact fun _ _ F _ => nameX_L F rfl ⟨rfl, rfl⟩); (case k5 => k_mem); (case k6 => (simp only [List.length_cons, List.length_nil, sizeLine_eq]; omega)); (case k7 => k_mem); (case k8 => first | exact keyStr_nil | (repeat (first | exact keyStr_nil | refine keyStr_cons ?_))); (case k9 => first | rfl | decide +kernel); (case ka => (simp only [List.length_cons, List.length_nil, sizeLine_eq]; omega)); (case kb => assumption); (case kc => first | exact fun _ _ F N => keeper_meth N (List.Mem.tail _ (by k_mem)) (Frag.In.keeps (by k_asm) (Fr.keep F)) (by k_is) | exact fun _ _ F N => keeper_wrap N (List.Mem.tail _ (by k_mem))); k_whole; intro d' h' F' N' l1; (try k_lt l1); (simp only [kwOf_cons, kwOf_nil, List.nil_append, List.length_cons, List.length_nil] at N' ⊢))))
local macro_rules | `(tactic| walk_at "call ref") => `(tactic| (k_here; (with_reducible show wpAny _ _ (call (Value.ref _) [] []) _ _ _); k_dflt (refine' call_wrap ?k1 ?k2 ?_; (case k1 => k_asm); (case k2 => k_mem))))
local macro_rules | `(tactic| walk_at "eval Name") => `(tactic| (k_here; (with_reducible show wpAny _ _ (eval (Expr.Name (Str.ofString "super") _) _) _ _ _); k_dflt (refine' nameX_B ?F ?X ?T ?e ?v ?n ?_ ?a ?b; (case F => k_asm); (case X => k_asm); (case T => k_asm); (case a => rfl); (case b => rfl); (case e => k_is); (case v => exact boot_super); (case n => decide); k_whole)))
local macro_rules | `(tactic| walk_at "eval Dict nil nil") => `(tactic| (k_here; k_dflt (refine' new_X ?F ?N (TopRead.nolimit (by k_asm)) ?_; (case F => k_asm); (case N => k_asm); k_whole); intro d' h' F' N' l1 lo'; (try k_lt l1); (try k_sweep)))
local macro_rules | `(tactic| walk_at "compareOp In str ref") => `(tactic| (k_here; (with_reducible show wpAny _ _ (compareOp CmpOp.In (Value.str _ _) (Value.ref _)) _ _ _); k_dflt (refine' in_X ?N ?a ?k ?l ?e ?_; (case N => k_asm); (case a => k_mem); (case k => k_keys); (case l => assumption); (case e => k_get); k_whole); (try dsimp only [Option.isSome])))
local macro_rules | `(tactic| walk_at "compareOp NotIn str ref") => `(tactic| (k_here; (with_reducible show wpAny _ _ (compareOp CmpOp.NotIn (Value.str _ _) (Value.ref _)) _ _ _); k_dflt (refine' notin_X ?N ?a ?k ?l ?e ?_; (case N => k_asm); (case a => k_mem); (case k => k_keys); (case l => assumption); (case e => k_get); k_whole); (try dsimp only [Option.isSome, Bool.not])))
local macro_rules | `(tactic| walk_at "subscriptTail") => `(tactic| (k_here; (with_reducible show wpAny _ _ (subscriptTail _ _ (Value.ref _) (Value.str _ _)) _ _ _); k_dflt (refine' item_X ?N ?a ?k ?e ?_; (case N => k_asm); (case a => k_mem); (case k => k_keys); (case e => k_get); k_whole)))
local macro_rules | `(tactic| walk_at "setItem ref str") => `(tactic| (k_here; (with_reducible show wpAny _ _ (setItem (Value.ref _) (Value.str _ _) _) _ _ _); k_dflt (refine' set_X ?F ?N ?U ?k ?e ?z ?_; (case F => k_asm); (case N => k_asm); (case U => k_upd); (case k => k_keys); (case e => k_put); (case z => (simp only [List.length_cons, List.length_nil, sizeLine_eq]; omega)); k_whole); intro h' F' N'; (try k_sweep)))
local macro_rules | `(tactic| walk_at "getMethod ref") => `(tactic| (k_here; (with_reducible show wpAny _ _ (getMethod (Value.ref _) (Str.ofString "get") _) _ _ _); k_dflt (refine' meth_get_X ?N ?a ?_; (case N => k_asm); (case a => k_mem); k_whole)))
local macro_rules | `(tactic| walk_at "call builtin:dict.get") => `(tactic| (k_here; (with_reducible show wpAny _ _ (call _ [Value.ref _, Value.str _ _, _]) _ _ _); k_dflt (refine' get_X ?N ?a ?k ?l ?e ?_; (case N => k_asm); (case a => k_mem); (case k => k_keys); (case l => assumption); (case e => k_get); k_whole); (try dsimp only [Option.getD])))
local macro_rules | `(tactic| walk_at "exec For Name Name cons nil") => `(tactic| (k_here; (with_reducible show wpAny _ _ (exec (Stmt.For (Expr.Name (Str.ofString "kw") _) (Expr.Name (Str.ofString "kwargs") _) _ _ _) _) _ _ _); (rename Fr _ _ _ _ => lF'); (rename News _ _ _ _ => lN'); (with_unfolding_all refine' For_turns lF' ?_); k_whole; k_dflt (refine' nameX_L lF' ?v ?_ ?a ?b; (case a => rfl); (case b => rfl); (case v => rfl)); (with_unfolding_all refine iter_X (by rfl) lF' lN' (by k_mem) (by assumption) (by k_keys) (by (simp only [kwOf_cons, kwOf_nil, List.map_cons, List.map_nil]; decide)) rfl ?_); clear lF' lN'; intro i' l1; (try k_lt l1); simp only [kwOf_cons, kwOf_nil, List.map_cons, List.map_nil]))
local macro_rules | `(tactic| k_get) => `(tactic| assumption)
local macro_rules | `(tactic| walk_at "setAttr ref") => `(tactic| (k_here; (with_reducible show wpAny _ _ (setAttr (Value.ref _) (Str.ofString "pduData") _) _ _ _); k_dflt (refine' set_dict ?k1 ?k2 ?k3 ?k4 ?k5 ?k6 ?k7 ?k8 ?k9 ?k10 ?k11 ?k12 ?k13 ?_; (case k1 => k_asm); (case k2 => k_asm); (case k3 => k_asm); (case k4 => k_inst); (case k5 => exact rfl); (case k6 => k_is); (case k7 => k_is); (case k8 => k_is); (case k9 => k_is); (case k10 => exact some_of_eq (by assumption)); (case k11 => exact put_pair (by assumption)); (case k12 => k_upd); (case k13 => assumption); k_whole; intro h' F' N')))
local macro_rules | `(tactic| k_room) => `(tactic| (show _ < _; (try simp only [depth_deeper, depth_in1]); (try dsimp only); omega))
local macro_rules | `(tactic| k_all) => `(tactic| assumption)
local macro_rules | `(tactic| k_ne) => `(tactic| assumption)
local macro_rules | `(tactic| walk_at "call builtin:len") => `(tactic| (k_here; (with_reducible show wpAny _ _ (call (Value.builtin "len") [Value.ref _]) _ _ _); k_dflt (refine' len_K' ?N ?m ?z ?_; (case N => k_asm); (case m => k_mem); (case z => assumption); k_whole; intro _ _)))
local macro_rules | `(tactic| walk_at "subscriptTail") => `(tactic| (k_here; (with_reducible show wpAny _ _ (subscriptTail _ _ (Value.ref _) (Value.int _ _)) _ _ _); k_dflt (refine' tail0_K ?N ?m ?_ ?s; (case N => k_asm); (case m => k_mem); (case s => with_unfolding_all rfl); k_whole)))
local macro_rules | `(tactic| walk_at "subscriptTail") => `(tactic| (k_here; (with_reducible show wpAny _ _ (subscriptTail _ (Expr.Slice _ _ _ _) (Value.ref _) (Value.ref _)) _ _ _); k_dflt (refine' tailTo_K ?F ?N ?m ?z ?y ?_ ?s; (case F => k_asm); (case N => k_asm); (case m => k_mem); (case s => with_unfolding_all rfl); (case z => assumption); (case y => assumption); k_whole; intro d' h' F' N' l1; (try k_lt l1))))
local macro_rules | `(tactic| walk_at "wpG") => `(tactic| first | (with_reducible refine wpG_execs_nil ?_) | (with_reducible refine wpG_execs_cons ?_) | (with_reducible refine wpG_If ?_) | (with_reducible refine wpG_Delete1 ?_) | (with_reducible refine wpG_AugAssign_AttributeAny ?_))
local macro_rules | `(tactic| walk_at "ite") => `(tactic| first | (rw [if_neg (by first | assumption | (simp; done) | (simp; omega))]) | (rw [if_pos (by first | assumption | (simp; done) | (simp; omega))]))
local macro_rules | `(tactic| walk_at "wpG") => `(tactic| first | (with_reducible refine wpG_spl_nil ?_))
local macro_rules | `(tactic| walk_at "call type:bytes") => `(tactic| (k_here; (with_reducible show wpAny _ _ (call (Value.type "bytes") [Value.ref _]) _ _ _); k_dflt (refine' bytesOf_K ?N ?m ?z ?_; (case N => k_asm); (case m => k_mem); (case z => (simp; omega)); k_whole)))
local macro_rules | `(tactic| walk_at "call builtin:_struct.unpack") => `(tactic| (k_here; k_dflt (first | (refine' unpackH_K ?F ?N ?z ?_; (case F => k_asm); (case N => k_asm); (case z => (simp; omega)); k_whole; intro d' h' n' tk' hn' F' N' l1; (try k_lt l1)) | (refine' unpackL_K ?F ?N ?z ?_; (case F => k_asm); (case N => k_asm); (case z => (simp; omega)); k_whole; intro d' h' n' tk' hn' F' N' l1; (try k_lt l1)))))
local macro_rules | `(tactic| walk_at "wpG") => `(tactic| (k_here; first | (with_reducible show wpG _ _ (call (Value.type "bytes") [Value.ref _]) _ _ _) | (with_reducible show wpG _ _ (call (Value.builtin "_struct.unpack") _) _ _ _); refine wpG_of ?_))
local macro_rules | `(tactic| walk_at "call builtin:isinstance") => `(tactic| (k_here; (with_reducible show wpAny _ _ (call (Value.builtin "isinstance") [Value.ref _, Value.type _]) _ _ _); k_dflt (first | (refine' isiBa_t ?N ?m ?_; (case N => k_asm); (case m => k_mem); k_whole) | (refine' isiBa_f ?N ?m ?t ?_; (case N => k_asm); (case m => k_mem); (case t => first | exact .inl rfl | exact .inr rfl); k_whole))))
local macro_rules | `(tactic| walk_at "call builtin:_struct.pack") => `(tactic| (k_here; first | (with_reducible refine packH_M ?_) | (with_reducible refine packL_M ?_); intro _ _))
local macro_rules | `(tactic| walk_at "call builtin:isinstance") => `(tactic| (k_here; (with_reducible show wpAny _ _ (call (Value.builtin "isinstance") [Value.ref _, Value.ref _]) _ _ _); k_dflt (refine' isiBa_tup ?N ?m ?t ?_; (case N => k_asm); (case m => k_mem); (case t => k_mem); k_whole; intro _)))
local macro_rules | `(tactic| walk_at "leaving ref") => `(tactic| (k_here; first
  | (refine' leave_newX ?k1 ?k0 ?k2 ?k3 ?_; (case k0 => assumption); (case k1 => assumption); (case k2 => assumption); (case k3 => k_asm); k_whole; intro h' R' U'; (try dsimp only at R' U' ⊢))
  | (refine' leave_onNX ?k1 ?k2 ?k3 ?k4 ?_; (case k3 => assumption); (case k1 => assumption); (case k4 => assumption); (case k2 => assumption); k_whole; intro h' R' U'; (try dsimp only at R' U' ⊢))))
local macro_rules | `(tactic| walk_at "pyIter ref") => `(tactic| (k_here; (with_reducible show wpAny _ _ (pyIter (Value.ref _)) (fun it s₂ => TurnsAt _ _ _ _ _ _ _ _ _ it s₂) _ _); (rename Fr _ _ _ _ => lF'); (rename News _ _ _ _ => lN'); (with_unfolding_all refine iter_tupTurns (by rfl) lF' lN' (by k_mem) (by rfl) (by rfl) ?_); clear lF' lN'; intro i' l1; (try k_lt l1)))
local macro_rules | `(tactic| k_lt $h:ident) => `(tactic| (replace $h := allLt_of $h; (simp only [AllLt, and_true] at $h:ident); (repeat (obtain ⟨_, $h⟩ := $h))))
local macro_rules | `(tactic| k_all) => `(tactic| first | assumption | exact List.forall_mem_nil _ | (refine' List.forall_mem_cons.mpr ⟨?a, ?b⟩; (case a => k_ne); (case b => k_all)) | exact allLt_ne (by assumption))
local macro_rules | `(tactic| walk_at "UnrEndW") => `(tactic| (k_here; k_dflt ((refine' unrEnd_one ?F ?N ?o ?_; (case F => k_asm); (case N => k_asm); (case o => k_all)); (try dsimp only); refine ⟨?sub, ?_⟩; (case sub => (repeat (first | exact True.intro | (refine And.intro ?x ?y; (case x => k_mem))))))))
local macro_rules | `(tactic| walk_at "wpG") => `(tactic| (k_here; (with_reducible show wpG _ _ (callWith _ (Value.ref _) _ (backTo _ (starEach [Expr.Starred _ _] _)) (backToKw _ (keywordEach [Keyword.mk none _ _] _))) _ _ _); k_dflt (refine' callGSS ?k1 ?k2 ?k3 ?k4 ?k5 ?k6 ?k7 ?k8 ?k9 ?ka ?kb ?kc ?_; (case k1 => k_asm); (case k2 => k_asm); (case k3 => exact nameX_L (by k_asm) rfl ⟨rfl, rfl⟩); (case k4 => exact fun _ _ F _ => nameX_L F rfl ⟨rfl, rfl⟩); (case k5 => k_mem); (case k6 => (simp only [List.length_cons, List.length_nil, sizeLine_eq]; omega)); (case k7 => k_mem); (case k8 => first | exact keyStr_nil | (repeat (first | exact keyStr_nil | refine keyStr_cons ?_))); (case k9 => first | rfl | decide +kernel); (case ka => (simp only [List.length_cons, List.length_nil, sizeLine_eq]; omega)); (case kb => assumption); (case kc => first | exact fun _ _ F N => keeper_meth N (List.Mem.tail _ (by k_mem)) (Frag.In.keeps (by k_asm) (Fr.keep F)) (by k_is) | exact fun _ _ F N => keeper_wrap N (List.Mem.tail _ (by k_mem))); k_whole; intro d' h' F' N' l1; (try k_lt l1); (simp only [kwOf_cons, kwOf_nil, List.nil_append, List.length_cons, List.length_nil] at N' ⊢))))
local macro_rules | `(tactic| k_get) => `(tactic| first | assumption | exact Flds.at (by assumption) rfl | fail "k_get")
local macro_rules | `(tactic| k_ne) => `(tactic| first | assumption | ((rename News _ _ _ _ => kN); refine' ne_of_ne kN ?m1 ?m2 ?cc; (case m1 => k_mem); (case m2 => k_mem); (case cc => (simp; done))) | fail "k_ne")
local macro_rules | `(tactic| walk_at "setAttr ref") => `(tactic| (k_here; k_dflt (refine' set_flds ?k1 ?k2 ?k3 ?k4 ?k5 ?k6 ?k7 ?k8 ?k9 ?k10 ?k12 ?k13 ?_; (case k1 => k_asm); (case k2 => k_asm); (case k3 => k_asm); (case k4 => k_inst); (case k5 => exact rfl); (case k10 => assumption); (case k6 => k_is); (case k7 => k_is); (case k8 => k_is); (case k9 => k_is); (case k12 => k_updF); (case k13 => exact Nat.le_of_ble_eq_true rfl); k_whole; intro h' es' n' F' N' fl'; (try dsimp only at N'))))

section
theorem w_off79 : True := by
  w_top off
  trivial
local macro_rules | `(tactic| walk_at "call type:list") => `(tactic| (k_here; (with_reducible show wpAny _ _ (call (Value.type "list") [Value.ref _]) _ _ _); k_dflt (refine' listOfI_K ?g ?F ?N ?m ?r ?z ?_; (case g => exact rfl); (case F => k_asm); (case N => k_asm); (case m => k_mem); (case r => assumption); (case z => (rw [sizeLine_eq]; (try simp only [List.length_append, List.length_cons, List.length_nil, List.length_take, List.length_drop]); omega)); k_whole; intro d' h' tk' vs' c' F' N' l1 iL; (try k_lt l1))))
local macro_rules | `(tactic| walk_at "subscriptTail") => `(tactic| (k_here; (with_reducible show wpAny _ _ (subscriptTail _ _ (Value.ref _) (Value.int _ _)) _ _ _); k_dflt (refine' item_lit ?N ?m ?z ?k ?x ?_ ?s; (case N => k_asm); (case m => k_mem); (case z => decide); (case k => decide); (case x => rfl); (case s => with_unfolding_all rfl); k_whole)))
local macro_rules | `(tactic| walk_at "subscriptTail Name Slice ref ref") => `(tactic| (k_here; (with_reducible show wpAny _ _ (subscriptTail _ (PySem.Expr.Slice (some _) none none _) (Value.ref _) (Value.ref _)) _ _ _); k_dflt (refine' slice_from ?F ?N ?m ?i ?z ?y ?_ ?s ?t; (case F => k_asm); (case N => k_asm); (case m => k_mem); (case i => assumption); (case z => first | assumption | decide | omega); (case y => (rw [sizeLine_eq]; omega)); (case s => with_unfolding_all rfl); (case t => (intro _; with_unfolding_all rfl))); intro D' ws' h' F' N' l1 hI'; (try k_lt l1)))
local macro_rules | `(tactic| walk_at "none") => `(tactic| fail)
local macro_rules | `(tactic| walk_at "none") => `(tactic| fail)
local macro_rules | `(tactic| walk_at "none") => `(tactic| fail)
local macro_rules | `(tactic| walk_at "none") => `(tactic| fail)
local macro_rules | `(tactic| walk_at "none") => `(tactic| fail)
local macro_rules | `(tactic| walk_at "none") => `(tactic| fail)
local macro_rules | `(tactic| walk_at "none") => `(tactic| fail)
local macro_rules | `(tactic| walk_at "none") => `(tactic| fail)
local macro_rules | `(tactic| walk_at "none") => `(tactic| fail)
-- L11

theorem ba_take (l : List Int) (k : Nat) : ((byteArr l).toList.take k).toArray = byteArr (l.take k) := by simp [byteArr, List.map_take]
theorem ba_drop (l : List Int) (k : Nat) : ((byteArr l).toList.drop k).toArray = byteArr (l.drop k) := by simp [byteArr, List.map_drop]

theorem blk6_1 {w : World} {h₀ : Heap} {L : Addr} {mg mb : Str → Option Value} {s0 s : Shared} {p : Program} {loose : List Str} {mean : ExcName → Option Value}
    {one dx a C n i ro rows ones fld b : Nat} {es : List DictEntry} {rest : List (Addr × Obj)} {nn pick y : Int} (hCi : (C = 375 ∧ i = 0) ∨ (C = 453 ∧ i = 1)) (X : (MineH.hd.heap_39 w.params).In h₀) (T : Top p loose mean mg mb h₀) (B : Below callerA h₀ [] h₀)
    (hes : es.length ≤ 1000) (e1 : getL (Str.ofString "pduData") es = some (some (.ref a))) (hb : b ≤ 3000) (hd : getL (Str.ofString "get_data") es = some none)
    (hp : pick = 1) (I : Inv h₀ L s0 one dx a C n es i ro rows ones fld rest nn pick y 0 (b) s) : wpG (model PySem.Challenge.rw_bd5008_01.row.toRowW.prog w) (lawA L) (exec blk6.1 (lawE L)) (Out (fun s' => Inv h₀ L s0 one dx a C n es i ro rows ones fld rest nn pick y 4 (b + 4) s')) noE s := by
  revert X
  k_fill
  intro X
  obtain ⟨h, tk, m, l, vs, cn, r, cm, tn, tp, ty, ti, rfl, F, S, N, hi, hr, hl, q1, q2, q3⟩ := I
  subst hp
  have F' := Fr.knowsR F S (by omega)
  have hlen := hi.length
  have hC : C = 375 ∨ C = 453 := by rcases hCi with h | h <;> simp [h.1]
  have hy5 := fm5 y
  by_cases hkl : y.fmod 5 ≤ (l.length : Int)
  ·
    have hrt : ∀ x ∈ l.take (y.fmod 5).toNat, 0 ≤ x ∧ x < 256 := fun x hx => hr x (List.mem_of_mem_take hx)
    have hrd : ∀ x ∈ l.drop (y.fmod 5).toNat, 0 ≤ x ∧ x < 256 := fun x hx => hr x (List.mem_of_mem_drop hx)
    refine wpG_If ?_
    repeat (first | (k_unfold; (try dsimp only)) | walk1 | (dsimp only; walk1) | ((with_reducible show wpG _ _ (exec (Stmt.Assign _ _ _) _) _ _ _); refine wpG_of ?_))
    refine wpG_Try_except ?_
    repeat (first | (k_unfold; (try dsimp only)) | walk1 | (dsimp only; walk1))
    refine wpG_Assign_Name (wpG_Call_Name ?_)
    repeat (first | (k_unfold; (try dsimp only)) | walk1 | (dsimp only; walk1))
    (refine' callG_K ?X9 ?k9 ?_; (case X9 => k_asm); (case k9 => k_is); k_whole)
    repeat (first | (k_unfold; (try dsimp only)) | walk1 | (dsimp only; walk1))
    (refine' wpG_call (take1_ok ?c9 ?B9 ?F9 ?X9 ?T9 ?f9 ?ke9 ?dd9 ?uu9 ?N9 ?h19 ?h29 ?U9 hes e1 hd ?z9 ?k0 ?k1 ?_); (case B9 => exact B); (case F9 => k_asm); (case X9 => exact X); (case T9 => exact T); (case N9 => k_asm); (case h19 => k_mem); (case h29 => k_mem); (case U9 => first | k_updF | fail "U"); (case z9 => (rw [byteArr_size, sizeLine_eq]; omega)); (case k0 => omega); (case k1 => (rw [byteArr_size]; omega)); (case f9 => exact rfl); (case ke9 => exact rfl); (case dd9 => decide); (case uu9 => decide); (case c9 => first | exact hC | exact rfl | exact .inl rfl | exact .inr rfl | exact .inr (.inl rfl)))
    intro d2 h2 tk2 F2 N2
    dsimp only
    rw [ba_take, ba_drop] at N2
    repeat (first | (k_unfold; (try dsimp only)) | walk1 | (dsimp only; walk1))
    refine wpG_of ?_
    rcases hCi with ⟨rfl, rfl⟩ | ⟨rfl, rfl⟩
    all_goals
      (rename News _ _ _ _ => kM)
      simp only [rowsAt, if_true, if_false, Nat.one_ne_zero] at kM
      repeat (first | (k_unfold; (try dsimp only)) | walk1 | (dsimp only; walk1))
      (rename News h₀ L _ _ => kN)
      (refine' Inv.of (l := l.drop (y.fmod 5).toNat) ?F9 kN ?m1 ?m2 ?m3 ?m4 ?m5 ?m6 ?m7 ?S9 ?hi ?hb ?hr ?hl q1 q2 ?q3; (case F9 => k_asm); (case m1 => k_mem); (case m2 => k_mem); (case m3 => k_mem); (case m4 => k_mem); (case m5 => rfl); (case m6 => k_mem); (case m7 => (intro q hq; repeat (first | exact hq | apply List.Mem.tail))); (case S9 => exact ⟨rfl, rfl, rfl, rfl, rfl, fun hq => by omega, rfl, rfl, rfl⟩); (case hi => assumption); (case hb => (rfl)); (case hr => (exact hrd)); (case hl => ((try simp only [List.length_drop, List.length_cons] at *); omega)); (case q3 => (intro hq; omega)))
  ·
    refine wpG_If ?_
    repeat (first | (k_unfold; (try dsimp only)) | walk1 | (dsimp only; walk1) | ((with_reducible show wpG _ _ (exec (Stmt.Assign _ _ _) _) _ _ _); refine wpG_of ?_))
    refine wpG_Try_except ?_
    repeat (first | (k_unfold; (try dsimp only)) | walk1 | (dsimp only; walk1))
    refine wpG_Assign_Name (wpG_Call_Name ?_)
    repeat (first | (k_unfold; (try dsimp only)) | walk1 | (dsimp only; walk1))
    (refine' callG_K ?X9 ?k9 ?_; (case X9 => k_asm); (case k9 => k_is); k_whole)
    repeat (first | (k_unfold; (try dsimp only)) | walk1 | (dsimp only; walk1))
    (refine' wpG_call (take1_bad ?c9 ?B9 ?F9 ?X9 ?T9 ?f9 ?ke9 ?dd9 ?uu9 ?N9 ?h19 ?h29 ?U9 hes e1 hd ?z9 ?k1 ?_); (case B9 => exact B); (case F9 => k_asm); (case X9 => exact X); (case T9 => exact T); (case N9 => k_asm); (case h19 => k_mem); (case h29 => k_mem); (case U9 => first | k_updF | fail "U"); (case z9 => (rw [byteArr_size, sizeLine_eq]; omega)); (case k1 => (rw [byteArr_size]; omega)); (case f9 => exact rfl); (case ke9 => exact rfl); (case dd9 => decide); (case uu9 => decide); (case c9 => first | exact hC | exact rfl | exact .inl rfl | exact .inr rfl | exact .inr (.inl rfl)))
    intro g4 h4 x4 t4 vs4 tk4 F4 U4 R4
    dsimp only
    repeat (first | (k_unfold; (try dsimp only)) | walk1 | (dsimp only; walk1))
    (rename News h₀ L _ _ => kN)
    (refine' Inv.of (l := l) ?F9 kN ?m1 ?m2 ?m3 ?m4 ?m5 ?m6 ?m7 ?S9 ?hi ?hb ?hr ?hl q1 q2 ?q3; (case F9 => k_asm); (case m1 => k_mem); (case m2 => k_mem); (case m3 => k_mem); (case m4 => k_mem); (case m5 => rfl); (case m6 => k_mem); (case m7 => (intro q hq; repeat (first | exact hq | apply List.Mem.tail))); (case S9 => exact ⟨rfl, rfl, rfl, rfl, rfl, fun hq => by omega, rfl, rfl, rfl⟩); (case hi => exact hi); (case hb => (rfl)); (case hr => (exact hr)); (case hl => (omega)); (case q3 => exact q3))
-- L12

theorem ba_take' (l : List Int) (k : Nat) : ((byteArr l).toList.take k).toArray = byteArr (l.take k) := by simp [byteArr, List.map_take]
theorem ba_drop' (l : List Int) (k : Nat) : ((byteArr l).toList.drop k).toArray = byteArr (l.drop k) := by simp [byteArr, List.map_drop]


theorem blk6_2 {w : World} {h₀ : Heap} {L : Addr} {mg mb : Str → Option Value} {s0 s : Shared} {p : Program} {loose : List Str} {mean : ExcName → Option Value}
    {one dx a C n i ro rows ones fld b : Nat} {es : List DictEntry} {rest : List (Addr × Obj)} {nn pick y : Int} (hCi : (C = 375 ∧ i = 0) ∨ (C = 453 ∧ i = 1)) (X : (MineH.hd.heap_39 w.params).In h₀) (T : Top p loose mean mg mb h₀) (B : Below callerA h₀ [] h₀)
    (hes : es.length ≤ 1000) (e1 : getL (Str.ofString "pduData") es = some (some (.ref a))) (hb : b ≤ 3000) (hd : getL (Str.ofString "get_data") es = some none) (hm : getL (Str.ofString "get_short") es = some none)
    (hp : pick = 2) (I : Inv h₀ L s0 one dx a C n es i ro rows ones fld rest nn pick y 0 (b) s) : wpG (model PySem.Challenge.rw_bd5008_01.row.toRowW.prog w) (lawA L) (exec blk6.1 (lawE L)) (Out (fun s' => Inv h₀ L s0 one dx a C n es i ro rows ones fld rest nn pick y 4 (b + 4) s')) noE s := by
  revert X
  k_fill
  intro X
  obtain ⟨h, tk, m, l, vs, cn, r, cm, tn, tp, ty, ti, rfl, F, S, N, hi, hr, hl, q1, q2, q3⟩ := I
  subst hp
  have F' := Fr.knowsR F S (by omega)
  have hlen := hi.length
  have hC : C = 375 ∨ C = 453 := by rcases hCi with h | h <;> simp [h.1]
  have hy5 := fm5 y
  by_cases hkl : 2 ≤ l.length
  ·
    have hrt : ∀ x ∈ l.take 2, 0 ≤ x ∧ x < 256 := fun x hx => hr x (List.mem_of_mem_take hx)
    have hrd : ∀ x ∈ l.drop 2, 0 ≤ x ∧ x < 256 := fun x hx => hr x (List.mem_of_mem_drop hx)
    refine wpG_If ?_
    repeat (first | (k_unfold; (try dsimp only)) | walk1 | (dsimp only; walk1) | ((with_reducible show wpG _ _ (exec (Stmt.Assign _ _ _) _) _ _ _); refine wpG_of ?_))
    refine wpG_Try_except ?_
    repeat (first | (k_unfold; (try dsimp only)) | walk1 | (dsimp only; walk1))
    refine wpG_Assign_Name (wpG_Call_Name ?_)
    repeat (first | (k_unfold; (try dsimp only)) | walk1 | (dsimp only; walk1))
    (refine' callG_K ?X9 ?k9 ?_; (case X9 => k_asm); (case k9 => k_is); k_whole)
    repeat (first | (k_unfold; (try dsimp only)) | walk1 | (dsimp only; walk1))
    (refine' wpG_call (take2_ok ?c9 ?B9 ?F9 ?X9 ?T9 ?f9 ?ke9 ?dd9 ?uu9 ?N9 ?h19 ?h29 ?U9 hes e1 hm hd ?z9 ?k1 ?_); (case B9 => exact B); (case F9 => k_asm); (case X9 => exact X); (case T9 => exact T); (case N9 => k_asm); (case h19 => k_mem); (case h29 => k_mem); (case U9 => first | k_updF | fail "U"); (case z9 => (rw [byteArr_size, sizeLine_eq]; omega)); (case k1 => (rw [byteArr_size]; omega)); (case f9 => exact rfl); (case ke9 => exact rfl); (case dd9 => decide); (case uu9 => decide); (case c9 => first | exact hC | exact rfl | exact .inl rfl | exact .inr rfl | exact .inr (.inl rfl)))
    intro h2 v2 t2 tk2 hv2 F2 N2
    dsimp only
    rw [ba_take] at hv2; rw [ba_drop] at N2
    have hwk := nat2 hr hkl hv2
    repeat (first | (k_unfold; (try dsimp only)) | walk1 | (dsimp only; walk1))
    · exfalso
      first | exact absurd hwk (by assumption) | omega | simp_all
    repeat (first | (k_unfold; (try dsimp only)) | walk1 | (dsimp only; walk1))
    refine wpG_of ?_
    rcases hCi with ⟨rfl, rfl⟩ | ⟨rfl, rfl⟩
    all_goals
      (rename News _ _ _ _ => kM)
      simp only [rowsAt, if_true, if_false, Nat.one_ne_zero] at kM
      repeat (first | (k_unfold; (try dsimp only)) | walk1 | (dsimp only; walk1))
      (rename News h₀ L _ _ => kN)
      (refine' Inv.of (l := l.drop 2) ?F9 kN ?m1 ?m2 ?m3 ?m4 ?m5 ?m6 ?m7 ?S9 ?hi ?hb ?hr ?hl q1 q2 ?q3; (case F9 => k_asm); (case m1 => k_mem); (case m2 => k_mem); (case m3 => k_mem); (case m4 => k_mem); (case m5 => rfl); (case m6 => k_mem); (case m7 => (intro q hq; repeat (first | exact hq | apply List.Mem.tail))); (case S9 => exact ⟨rfl, rfl, rfl, rfl, rfl, fun hq => by omega, rfl, rfl, rfl⟩); (case hi => assumption); (case hb => (rfl)); (case hr => (exact hrd)); (case hl => ((try simp only [List.length_drop, List.length_cons] at *); omega)); (case q3 => (intro hq; omega)))
  ·
    refine wpG_If ?_
    repeat (first | (k_unfold; (try dsimp only)) | walk1 | (dsimp only; walk1) | ((with_reducible show wpG _ _ (exec (Stmt.Assign _ _ _) _) _ _ _); refine wpG_of ?_))
    refine wpG_Try_except ?_
    repeat (first | (k_unfold; (try dsimp only)) | walk1 | (dsimp only; walk1))
    refine wpG_Assign_Name (wpG_Call_Name ?_)
    repeat (first | (k_unfold; (try dsimp only)) | walk1 | (dsimp only; walk1))
    (refine' callG_K ?X9 ?k9 ?_; (case X9 => k_asm); (case k9 => k_is); k_whole)
    repeat (first | (k_unfold; (try dsimp only)) | walk1 | (dsimp only; walk1))
    (refine' wpG_call (take2_bad ?c9 ?B9 ?F9 ?X9 ?T9 ?f9 ?ke9 ?dd9 ?uu9 ?N9 ?h19 ?h29 ?U9 hes e1 hm hd ?z9 ?k1 ?_); (case B9 => exact B); (case F9 => k_asm); (case X9 => exact X); (case T9 => exact T); (case N9 => k_asm); (case h19 => k_mem); (case h29 => k_mem); (case U9 => first | k_updF | fail "U"); (case z9 => (rw [byteArr_size, sizeLine_eq]; omega)); (case k1 => (rw [byteArr_size]; omega)); (case f9 => exact rfl); (case ke9 => exact rfl); (case dd9 => decide); (case uu9 => decide); (case c9 => first | exact hC | exact rfl | exact .inl rfl | exact .inr rfl | exact .inr (.inl rfl)))
    intro g4 h4 x4 t4 vs4 tk4 F4 U4 R4
    dsimp only
    repeat (first | (k_unfold; (try dsimp only)) | walk1 | (dsimp only; walk1))
    (rename News h₀ L _ _ => kN)
    (refine' Inv.of (l := l) ?F9 kN ?m1 ?m2 ?m3 ?m4 ?m5 ?m6 ?m7 ?S9 ?hi ?hb ?hr ?hl q1 q2 ?q3; (case F9 => k_asm); (case m1 => k_mem); (case m2 => k_mem); (case m3 => k_mem); (case m4 => k_mem); (case m5 => rfl); (case m6 => k_mem); (case m7 => (intro q hq; repeat (first | exact hq | apply List.Mem.tail))); (case S9 => exact ⟨rfl, rfl, rfl, rfl, rfl, fun hq => by omega, rfl, rfl, rfl⟩); (case hi => exact hi); (case hb => (rfl)); (case hr => (exact hr)); (case hl => (omega)); (case q3 => exact q3))
-- L13

theorem blk6_3 {w : World} {h₀ : Heap} {L : Addr} {mg mb : Str → Option Value} {s0 s : Shared} {p : Program} {loose : List Str} {mean : ExcName → Option Value}
    {one dx a C n i ro rows ones fld b : Nat} {es : List DictEntry} {rest : List (Addr × Obj)} {nn pick y : Int} (hCi : (C = 375 ∧ i = 0) ∨ (C = 453 ∧ i = 1)) (X : (MineH.hd.heap_39 w.params).In h₀) (T : Top p loose mean mg mb h₀) (B : Below callerA h₀ [] h₀)
    (hes : es.length ≤ 1000) (e1 : getL (Str.ofString "pduData") es = some (some (.ref a))) (hb : b ≤ 3000) (hd : getL (Str.ofString "get_data") es = some none) (hm : getL (Str.ofString "get_long") es = some none)
    (hp : pick = 3) (I : Inv h₀ L s0 one dx a C n es i ro rows ones fld rest nn pick y 0 (b) s) : wpG (model PySem.Challenge.rw_bd5008_01.row.toRowW.prog w) (lawA L) (exec blk6.1 (lawE L)) (Out (fun s' => Inv h₀ L s0 one dx a C n es i ro rows ones fld rest nn pick y 4 (b + 4) s')) noE s := by
  revert X
  k_fill
  intro X
  obtain ⟨h, tk, m, l, vs, cn, r, cm, tn, tp, ty, ti, rfl, F, S, N, hi, hr, hl, q1, q2, q3⟩ := I
  subst hp
  have F' := Fr.knowsR F S (by omega)
  have hlen := hi.length
  have hC : C = 375 ∨ C = 453 := by rcases hCi with h | h <;> simp [h.1]
  have hy5 := fm5 y
  by_cases hkl : 4 ≤ l.length
  ·
    have hrt : ∀ x ∈ l.take 4, 0 ≤ x ∧ x < 256 := fun x hx => hr x (List.mem_of_mem_take hx)
    have hrd : ∀ x ∈ l.drop 4, 0 ≤ x ∧ x < 256 := fun x hx => hr x (List.mem_of_mem_drop hx)
    refine wpG_If ?_
    repeat (first | (k_unfold; (try dsimp only)) | walk1 | (dsimp only; walk1) | ((with_reducible show wpG _ _ (exec (Stmt.Assign _ _ _) _) _ _ _); refine wpG_of ?_))
    refine wpG_Try_except ?_
    repeat (first | (k_unfold; (try dsimp only)) | walk1 | (dsimp only; walk1))
    refine wpG_Assign_Name (wpG_Call_Name ?_)
    repeat (first | (k_unfold; (try dsimp only)) | walk1 | (dsimp only; walk1))
    (refine' callG_K ?X9 ?k9 ?_; (case X9 => k_asm); (case k9 => k_is); k_whole)
    repeat (first | (k_unfold; (try dsimp only)) | walk1 | (dsimp only; walk1))
    (refine' wpG_call (take3_ok ?c9 ?B9 ?F9 ?X9 ?T9 ?f9 ?ke9 ?dd9 ?uu9 ?N9 ?h19 ?h29 ?U9 hes e1 hm hd ?z9 ?k1 ?_); (case B9 => exact B); (case F9 => k_asm); (case X9 => exact X); (case T9 => exact T); (case N9 => k_asm); (case h19 => k_mem); (case h29 => k_mem); (case U9 => first | k_updF | fail "U"); (case z9 => (rw [byteArr_size, sizeLine_eq]; omega)); (case k1 => (rw [byteArr_size]; omega)); (case f9 => exact rfl); (case ke9 => exact rfl); (case dd9 => decide); (case uu9 => decide); (case c9 => first | exact hC | exact rfl | exact .inl rfl | exact .inr rfl | exact .inr (.inl rfl)))
    intro h2 v2 t2 tk2 hv2 F2 N2
    dsimp only
    rw [ba_take] at hv2; rw [ba_drop] at N2
    have hwk := nat4 hr hkl hv2
    repeat (first | (k_unfold; (try dsimp only)) | walk1 | (dsimp only; walk1))
    · exfalso
      first | exact absurd hwk (by assumption) | omega | simp_all
    repeat (first | (k_unfold; (try dsimp only)) | walk1 | (dsimp only; walk1))
    refine wpG_of ?_
    rcases hCi with ⟨rfl, rfl⟩ | ⟨rfl, rfl⟩
    all_goals
      (rename News _ _ _ _ => kM)
      simp only [rowsAt, if_true, if_false, Nat.one_ne_zero] at kM
      repeat (first | (k_unfold; (try dsimp only)) | walk1 | (dsimp only; walk1))
      (rename News h₀ L _ _ => kN)
      (refine' Inv.of (l := l.drop 4) ?F9 kN ?m1 ?m2 ?m3 ?m4 ?m5 ?m6 ?m7 ?S9 ?hi ?hb ?hr ?hl q1 q2 ?q3; (case F9 => k_asm); (case m1 => k_mem); (case m2 => k_mem); (case m3 => k_mem); (case m4 => k_mem); (case m5 => rfl); (case m6 => k_mem); (case m7 => (intro q hq; repeat (first | exact hq | apply List.Mem.tail))); (case S9 => exact ⟨rfl, rfl, rfl, rfl, rfl, fun hq => by omega, rfl, rfl, rfl⟩); (case hi => assumption); (case hb => (rfl)); (case hr => (exact hrd)); (case hl => ((try simp only [List.length_drop, List.length_cons] at *); omega)); (case q3 => (intro hq; omega)))
  ·
    refine wpG_If ?_
    repeat (first | (k_unfold; (try dsimp only)) | walk1 | (dsimp only; walk1) | ((with_reducible show wpG _ _ (exec (Stmt.Assign _ _ _) _) _ _ _); refine wpG_of ?_))
    refine wpG_Try_except ?_
    repeat (first | (k_unfold; (try dsimp only)) | walk1 | (dsimp only; walk1))
    refine wpG_Assign_Name (wpG_Call_Name ?_)
    repeat (first | (k_unfold; (try dsimp only)) | walk1 | (dsimp only; walk1))
    (refine' callG_K ?X9 ?k9 ?_; (case X9 => k_asm); (case k9 => k_is); k_whole)
    repeat (first | (k_unfold; (try dsimp only)) | walk1 | (dsimp only; walk1))
    (refine' wpG_call (take3_bad ?c9 ?B9 ?F9 ?X9 ?T9 ?f9 ?ke9 ?dd9 ?uu9 ?N9 ?h19 ?h29 ?U9 hes e1 hm hd ?z9 ?k1 ?_); (case B9 => exact B); (case F9 => k_asm); (case X9 => exact X); (case T9 => exact T); (case N9 => k_asm); (case h19 => k_mem); (case h29 => k_mem); (case U9 => first | k_updF | fail "U"); (case z9 => (rw [byteArr_size, sizeLine_eq]; omega)); (case k1 => (rw [byteArr_size]; omega)); (case f9 => exact rfl); (case ke9 => exact rfl); (case dd9 => decide); (case uu9 => decide); (case c9 => first | exact hC | exact rfl | exact .inl rfl | exact .inr rfl | exact .inr (.inl rfl)))
    intro g4 h4 x4 t4 vs4 tk4 F4 U4 R4
    dsimp only
    repeat (first | (k_unfold; (try dsimp only)) | walk1 | (dsimp only; walk1))
    (rename News h₀ L _ _ => kN)
    (refine' Inv.of (l := l) ?F9 kN ?m1 ?m2 ?m3 ?m4 ?m5 ?m6 ?m7 ?S9 ?hi ?hb ?hr ?hl q1 q2 ?q3; (case F9 => k_asm); (case m1 => k_mem); (case m2 => k_mem); (case m3 => k_mem); (case m4 => k_mem); (case m5 => rfl); (case m6 => k_mem); (case m7 => (intro q hq; repeat (first | exact hq | apply List.Mem.tail))); (case S9 => exact ⟨rfl, rfl, rfl, rfl, rfl, fun hq => by omega, rfl, rfl, rfl⟩); (case hi => exact hi); (case hb => (rfl)); (case hr => (exact hr)); (case hl => (omega)); (case q3 => exact q3))
-- L14

theorem blk6_0 {w : World} {h₀ : Heap} {L : Addr} {mg mb : Str → Option Value} {s0 s : Shared} {p : Program} {loose : List Str} {mean : ExcName → Option Value}
    {one dx a C n i ro rows ones fld b : Nat} {es : List DictEntry} {rest : List (Addr × Obj)} {nn pick y : Int} (hCi : (C = 375 ∧ i = 0) ∨ (C = 453 ∧ i = 1)) (X : (MineH.hd.heap_39 w.params).In h₀) (T : Top p loose mean mg mb h₀) (B : Below callerA h₀ [] h₀)
    (hes : es.length ≤ 1000) (e1 : getL (Str.ofString "pduData") es = some (some (.ref a))) (hb : b ≤ 3000) (hd0 : getL (Str.ofString "get") es = some none)
    (hp : pick = 0) (I : Inv h₀ L s0 one dx a C n es i ro rows ones fld rest nn pick y 0 (b) s) : wpG (model PySem.Challenge.rw_bd5008_01.row.toRowW.prog w) (lawA L) (exec blk6.1 (lawE L)) (Out (fun s' => Inv h₀ L s0 one dx a C n es i ro rows ones fld rest nn pick y 4 (b + 4) s')) noE s := by
  revert X
  k_fill
  intro X
  obtain ⟨h, tk, m, l, vs, cn, r, cm, tn, tp, ty, ti, rfl, F, S, N, hi, hr, hl, q1, q2, q3⟩ := I
  subst hp
  have F' := Fr.knowsR F S (by omega)
  have hlen := hi.length
  have hC : C = 375 ∨ C = 453 := by rcases hCi with h | h <;> simp [h.1]
  have hy5 := fm5 y
  by_cases hkl : 1 ≤ l.length
  ·
    obtain ⟨x, l', hl'⟩ : ∃ x l', l = x :: l' := by
      cases l with
      | nil => simp at hkl
      | cons x l' => exact ⟨x, l', rfl⟩
    have hx := hr x (by rw [hl']; exact .head _)
    have hrt : ∀ x ∈ l.take 1, 0 ≤ x ∧ x < 256 := fun x hx => hr x (List.mem_of_mem_take hx)
    have hrd : ∀ x ∈ l.drop 1, 0 ≤ x ∧ x < 256 := fun x hx => hr x (List.mem_of_mem_drop hx)
    have hbl : byteArr l = (x.toNat.toUInt8 :: List.map (fun n : Int => n.toNat.toUInt8) l').toArray := by rw [hl']; rfl
    have hwk : ((x.toNat.toUInt8.toNat : Nat) : Int) = (List.foldl (fun (σ : Int × Unit) (n : Int) => (σ.fst * 256 + n, ())) (0, ()) (l.take 1)).fst := by rw [hl']; exact nat1 hx
    have hdl : l' = l.drop 1 := by rw [hl']; rfl
    refine wpG_If ?_
    repeat (first | (k_unfold; (try dsimp only)) | walk1 | (dsimp only; walk1) | ((with_reducible show wpG _ _ (exec (Stmt.Assign _ _ _) _) _ _ _); refine wpG_of ?_))
    refine wpG_Try_except ?_
    repeat (first | (k_unfold; (try dsimp only)) | walk1 | (dsimp only; walk1))
    refine wpG_Assign_Name (wpG_Call_Name ?_)
    repeat (first | (k_unfold; (try dsimp only)) | walk1 | (dsimp only; walk1))
    (refine' callG_K ?X9 ?k9 ?_; (case X9 => k_asm); (case k9 => k_is); k_whole)
    repeat (first | (k_unfold; (try dsimp only)) | walk1 | (dsimp only; walk1))
    (rename News _ _ _ _ => kM)
    rw [hbl] at kM
    (refine' wpG_call (take0_ok ?c9 ?B9 ?F9 ?X9 ?T9 ?f9 ?ke9 ?dd9 ?uu9 ?N9 ?h19 ?h29 ?U9 hes e1 hd0 ?z9 ?_); (case B9 => exact B); (case F9 => k_asm); (case X9 => exact X); (case T9 => exact T); (case N9 => k_asm); (case h19 => k_mem); (case h29 => k_mem); (case U9 => first | k_updF | fail "U"); (case z9 => (rw [← hbl, byteArr_size, sizeLine_eq]; omega)); (case f9 => exact rfl); (case ke9 => exact rfl); (case dd9 => decide); (case uu9 => decide); (case c9 => first | exact hC | exact rfl | exact .inl rfl | exact .inr rfl | exact .inr (.inl rfl)))
    intro h2 t2 tk2 F2 N2
    dsimp only
    rw [ba_map, hdl] at N2
    repeat (first | (k_unfold; (try dsimp only)) | walk1 | (dsimp only; walk1))
    try (exfalso; exact absurd hwk (by assumption))
    repeat (first | (k_unfold; (try dsimp only)) | walk1 | (dsimp only; walk1))
    refine wpG_of ?_
    rcases hCi with ⟨rfl, rfl⟩ | ⟨rfl, rfl⟩
    all_goals
      (rename News _ _ _ _ => kM)
      simp only [rowsAt, if_true, if_false, Nat.one_ne_zero] at kM
      repeat (first | (k_unfold; (try dsimp only)) | walk1 | (dsimp only; walk1))
      (rename News h₀ L _ _ => kN)
      (refine' Inv.of (l := l.drop 1) ?F9 kN ?m1 ?m2 ?m3 ?m4 ?m5 ?m6 ?m7 ?S9 ?hi ?hb ?hr ?hl q1 q2 ?q3; (case F9 => k_asm); (case m1 => k_mem); (case m2 => k_mem); (case m3 => k_mem); (case m4 => k_mem); (case m5 => rfl); (case m6 => k_mem); (case m7 => (intro q hq; repeat (first | exact hq | apply List.Mem.tail))); (case S9 => exact ⟨rfl, rfl, rfl, rfl, rfl, fun hq => by omega, rfl, rfl, rfl⟩); (case hi => assumption); (case hb => (rfl)); (case hr => (exact hrd)); (case hl => ((try simp only [List.length_drop, List.length_cons] at *); omega)); (case q3 => (intro hq; omega)))
  ·
    have hbl : byteArr l = #[] := by
      cases l with
      | nil => rfl
      | cons x l' => simp at hkl
    refine wpG_If ?_
    repeat (first | (k_unfold; (try dsimp only)) | walk1 | (dsimp only; walk1) | ((with_reducible show wpG _ _ (exec (Stmt.Assign _ _ _) _) _ _ _); refine wpG_of ?_))
    refine wpG_Try_except ?_
    repeat (first | (k_unfold; (try dsimp only)) | walk1 | (dsimp only; walk1))
    refine wpG_Assign_Name (wpG_Call_Name ?_)
    repeat (first | (k_unfold; (try dsimp only)) | walk1 | (dsimp only; walk1))
    (refine' callG_K ?X9 ?k9 ?_; (case X9 => k_asm); (case k9 => k_is); k_whole)
    repeat (first | (k_unfold; (try dsimp only)) | walk1 | (dsimp only; walk1))
    (rename News _ _ _ _ => kM)
    rw [hbl] at kM
    (refine' wpG_call (take0_bad ?c9 ?B9 ?F9 ?X9 ?T9 ?f9 ?ke9 ?dd9 ?uu9 ?N9 ?h19 ?h29 ?U9 hes e1 hd0 ?_); (case B9 => exact B); (case F9 => k_asm); (case X9 => exact X); (case T9 => exact T); (case N9 => k_asm); (case h19 => k_mem); (case h29 => k_mem); (case U9 => first | k_updF | fail "U"); (case f9 => exact rfl); (case ke9 => exact rfl); (case dd9 => decide); (case uu9 => decide); (case c9 => first | exact hC | exact rfl | exact .inl rfl | exact .inr rfl | exact .inr (.inl rfl)))
    intro g4 h4 x4 t4 vs4 tk4 F4 U4 R4
    dsimp only
    repeat (first | (k_unfold; (try dsimp only)) | walk1 | (dsimp only; walk1))
    (rename News h₀ L _ _ => kN)
    (refine' Inv.of (l := l) ?F9 kN ?m1 ?m2 ?m3 ?m4 ?m5 ?m6 ?m7 ?S9 ?hi ?hb ?hr ?hl q1 q2 ?q3; (case F9 => k_asm); (case m1 => k_mem); (case m2 => k_mem); (case m3 => k_mem); (case m4 => k_mem); (case m5 => rfl); (case m6 => k_mem); (case m7 => (intro q hq; repeat (first | exact hq | apply List.Mem.tail))); (case S9 => exact ⟨rfl, rfl, rfl, rfl, rfl, fun hq => by omega, rfl, rfl, rfl⟩); (case hi => exact hi); (case hb => (exact hbl.symm)); (case hr => (exact hr)); (case hl => (omega)); (case q3 => exact q3))
end

section
theorem w_off80 : True := by
  w_top off
  trivial
local macro_rules | `(tactic| walk_at "none") => `(tactic| fail)
local macro_rules | `(tactic| walk_at "none") => `(tactic| fail)
local macro_rules | `(tactic| walk_at "none") => `(tactic| fail)
local macro_rules | `(tactic| walk_at "none") => `(tactic| fail)
local macro_rules | `(tactic| walk_at "none") => `(tactic| fail)
local macro_rules | `(tactic| walk_at "none") => `(tactic| fail)
local macro_rules | `(tactic| walk_at "none") => `(tactic| fail)
local macro_rules | `(tactic| walk_at "none") => `(tactic| fail)
local macro_rules | `(tactic| walk_at "none") => `(tactic| fail)
local macro_rules | `(tactic| walk_at "none") => `(tactic| fail)
local macro_rules | `(tactic| walk_at "none") => `(tactic| fail)
local macro_rules | `(tactic| walk_at "none") => `(tactic| fail)
local macro_rules | `(tactic| walk_at "none") => `(tactic| fail)
-- L15

theorem ne_ints9 {prog : Program} {w : World} {A : Around} {E : Value → Shared → Prop} {s : Shared} {h₀ : Heap} {L l b : Addr} {news : List (Addr × Obj)} {vs us : List Value} {ns : List Int} {n n2 : Nat} {Q : Value → Shared → Prop}
    (N : News h₀ L s.heap news) (hl : (l, sqObj "list" vs n) ∈ news) (hb : (b, sqObj "list" us n2) ∈ news) (hi : IntsAre vs ns) (hj : IntsAre us ns) (hu : A.units + 64 < cLine) (h : Q (.bool false) s) :
    wpAny (model prog w) A (compareOp .NotEq (.ref l) (.ref b)) Q E s :=
  ke_ne_ints ⟨_, (N _ hl).1, rfl, n, rfl⟩ ⟨_, (N _ hb).1, rfl, n2, rfl⟩ hi hj hu (by simpa using h)
local macro_rules | `(tactic| walk_at "call type:list") => `(tactic| (k_here; (with_reducible show wpAny _ _ (call (Value.type "list") [Value.ref _]) _ _ _); k_dflt (refine' listOfI_K ?g ?F ?N ?m ?r ?z ?_; (case g => exact rfl); (case F => k_asm); (case N => k_asm); (case m => k_mem); (case r => assumption); (case z => (rw [sizeLine_eq]; (try simp only [List.length_append, List.length_cons, List.length_nil]); omega)); k_whole; intro d' h' tk' vs' c' F' N' l1 iL; (try k_lt l1))))
local macro_rules | `(tactic| k_mem) => `(tactic| assumption)
local macro_rules | `(tactic| walk_at "subscriptTail") => `(tactic| (k_here; (with_reducible show wpAny _ _ (subscriptTail _ _ (Value.ref _) (Value.int _ _)) _ _ _); k_dflt (refine' item_lit ?N ?m ?z ?k ?x ?_ ?s; (case N => k_asm); (case m => k_mem); (case z => decide); (case k => decide); (case x => rfl); (case s => with_unfolding_all rfl); k_whole)))
local macro_rules | `(tactic| walk_at "compareOp NotEq ref ref") => `(tactic| (k_here; (with_reducible show wpAny _ _ (compareOp CmpOp.NotEq (Value.ref _) (Value.ref _)) _ _ _); k_dflt (refine' ne_same ?N ?m ?x ?u ?_; (case N => k_asm); (case m => k_mem); (case x => k_mem); (case u => exact Nat.le_of_ble_eq_true rfl); k_whole)))
local macro_rules | `(tactic| walk_at "compareOp NotEq ref ref") => `(tactic| (k_here; (with_reducible show wpAny _ _ (compareOp CmpOp.NotEq (Value.ref _) (Value.ref _)) _ _ _); k_dflt (refine' ne_ints9 ?N ?m ?x ?i ?j ?u ?_; (case N => k_asm); (case m => k_mem); (case x => k_mem); (case i => assumption); (case j => assumption); (case u => exact Nat.le_of_ble_eq_true rfl); k_whole)))

theorem blk19_c {w : World} {h₀ : Heap} {L : Addr} {mg mb : Str → Option Value} {s0 s : Shared} {p : Program} {loose : List Str} {mean : ExcName → Option Value}
    {one dx a C n i ro rows ones fld b : Nat} {es : List DictEntry} {rest : List (Addr × Obj)} {nn pick y : Int} {oth dx2 a2 Co n2 cO c2 : Nat} {es2 : List DictEntry} {l2 : List Int} {vs2 : List Value} (hCi : (C = 375 ∧ i = 0 ∧ Co = 453) ∨ (C = 453 ∧ i = 1 ∧ Co = 375)) (X : (MineH.hd.heap_39 w.params).In h₀) (T : Top p loose mean mg mb h₀) (B : Below callerA h₀ [] h₀)
    (hb : b ≤ 3000) (e1 : getL (Str.ofString "pduData") es = some (some (.ref a))) (e2 : getL (Str.ofString "pduData") es2 = some (some (.ref a2)))
    (w1 : (oth, instObj Co dx2) ∈ rest) (w2 : (dx2, dictOf es2 n2) ∈ rest) (w3 : (a2, baObj (byteArr l2)) ∈ rest) (w4 : (ro, sqObj "list" vs2 c2) ∈ rest) (hi2 : IntsAre vs2 l2) (hr2 : ∀ x ∈ l2, 0 ≤ x ∧ x < 256) (hl2 : l2.length ≤ 3000)
    (w5 : (ones, sqObj "list" (rowsAt i one oth) cO) ∈ rest)
    (I : Inv h₀ L s0 one dx a C n es i ro rows ones fld rest nn pick y 16 (b) s) :
    wpG (model PySem.Challenge.rw_bd5008_01.row.toRowW.prog w) (lawA L) (exec blk19.1 (lawE L)) (Out (fun s' => Inv h₀ L s0 one dx a C n es i ro rows ones fld rest nn pick y 16 (b + 4) s')) noE s := by
  revert X
  k_fill
  intro X
  obtain ⟨h, tk, m, l, vs, cn, r, cm, tn, tp, ty, ti, rfl, F, S, N, hi, hr, hl, q1, q2, q3⟩ := I
  have F' := Fr.knows F S
  rcases hCi with ⟨rfl, rfl, rfl⟩ | ⟨rfl, rfl, rfl⟩
  all_goals
      simp only [rowsAt, if_true, if_false, Nat.one_ne_zero] at N w5
      refine wpG_If ?_
      repeat (first | (k_unfold; (try dsimp only)) | walk1 | (dsimp only; walk1))
      (rename News h₀ L _ _ => kN)
      (refine' Inv.of (l := l) ?F9 kN ?m1 ?m2 ?m3 ?m4 ?m5 ?m6 ?m7 ?S9 ?hi ?hb ?hr ?hl q1 q2 ?q3; (case F9 => k_asm); (case m1 => k_mem); (case m2 => k_mem); (case m3 => k_mem); (case m4 => k_mem); (case m5 => rfl); (case m6 => k_mem); (case m7 => (intro q hq; repeat (first | exact hq | apply List.Mem.tail))); (case S9 => exact ⟨rfl, rfl, rfl, rfl, rfl, fun hq => S.e_row hq, rfl, rfl, rfl⟩); (case hi => exact hi); (case hb => (rfl)); (case hr => (exact hr)); (case hl => (omega)); (case q3 => exact q3))
-- L16

theorem ne_ints9b {prog : Program} {w : World} {A : Around} {E : Value → Shared → Prop} {s : Shared} {h₀ : Heap} {L l b : Addr} {news : List (Addr × Obj)} {vs us : List Value} {ns : List Int} {n n2 : Nat} {Q : Value → Shared → Prop}
    (N : News h₀ L s.heap news) (hl : (l, sqObj "list" vs n) ∈ news) (hb : (b, sqObj "list" us n2) ∈ news) (hi : IntsAre vs ns) (hj : IntsAre us ns) (hu : A.units + 64 < cLine) (h : Q (.bool false) s) :
    wpAny (model prog w) A (compareOp .NotEq (.ref l) (.ref b)) Q E s :=
  ke_ne_ints ⟨_, (N _ hl).1, rfl, n, rfl⟩ ⟨_, (N _ hb).1, rfl, n2, rfl⟩ hi hj hu (by simpa using h)
local macro_rules | `(tactic| walk_at "call type:list") => `(tactic| (k_here; (with_reducible show wpAny _ _ (call (Value.type "list") [Value.ref _]) _ _ _); k_dflt (refine' listOfI_K ?g ?F ?N ?m ?r ?z ?_; (case g => exact rfl); (case F => k_asm); (case N => k_asm); (case m => k_mem); (case r => assumption); (case z => (rw [sizeLine_eq]; (try simp only [List.length_append, List.length_cons, List.length_nil]); omega)); k_whole; intro d' h' tk' vs' c' F' N' l1 iL; (try k_lt l1))))
local macro_rules | `(tactic| k_mem) => `(tactic| assumption)
local macro_rules | `(tactic| walk_at "subscriptTail") => `(tactic| (k_here; (with_reducible show wpAny _ _ (subscriptTail _ _ (Value.ref _) (Value.int _ _)) _ _ _); k_dflt (refine' item_lit ?N ?m ?z ?k ?x ?_ ?s; (case N => k_asm); (case m => k_mem); (case z => decide); (case k => decide); (case x => rfl); (case s => with_unfolding_all rfl); k_whole)))
local macro_rules | `(tactic| walk_at "compareOp NotEq ref ref") => `(tactic| (k_here; (with_reducible show wpAny _ _ (compareOp CmpOp.NotEq (Value.ref _) (Value.ref _)) _ _ _); k_dflt (refine' ne_same ?N ?m ?x ?u ?_; (case N => k_asm); (case m => k_mem); (case x => k_mem); (case u => exact Nat.le_of_ble_eq_true rfl); k_whole)))
local macro_rules | `(tactic| walk_at "compareOp NotEq ref ref") => `(tactic| (k_here; (with_reducible show wpAny _ _ (compareOp CmpOp.NotEq (Value.ref _) (Value.ref _)) _ _ _); k_dflt (refine' ne_ints9b ?N ?m ?x ?i ?j ?u ?_; (case N => k_asm); (case m => k_mem); (case x => k_mem); (case i => assumption); (case j => assumption); (case u => exact Nat.le_of_ble_eq_true rfl); k_whole)))

theorem blk20_c {w : World} {h₀ : Heap} {L : Addr} {mg mb : Str → Option Value} {s0 s : Shared} {p : Program} {loose : List Str} {mean : ExcName → Option Value}
    {one dx a C n i ro rows ones fld b : Nat} {es : List DictEntry} {rest : List (Addr × Obj)} {nn pick y : Int} {oth dx2 a2 Co n2 cO c2 : Nat} {es2 : List DictEntry} {l2 : List Int} {vs2 : List Value} {p1 p2 d1 d2 g1n g2n p3 p4 d3 d4 g3n g4n fs fo nf : Nat} {g1 g2 g3 g4 : List DictEntry} {b1 b2 b3 b4 : Array UInt8} {u1 u2 u3 u4 : Tok} {i3 i4 i5 i6 i7 i8 : Int} {t3 t4 t5 t6 t7 t8 : Tok} (hCi : (C = 375 ∧ i = 0 ∧ Co = 453) ∨ (C = 453 ∧ i = 1 ∧ Co = 375)) (X : (MineH.hd.heap_39 w.params).In h₀) (T : Top p loose mean mg mb h₀) (B : Below callerA h₀ [] h₀)
    (hb : b ≤ 3000) (e1 : getL (Str.ofString "pduData") es = some (some (.ref a))) (e2 : getL (Str.ofString "pduData") es2 = some (some (.ref a2)))
    (w1 : (oth, instObj Co dx2) ∈ rest) (w2 : (dx2, dictOf es2 n2) ∈ rest) (w3 : (a2, baObj (byteArr l2)) ∈ rest) (w4 : (ro, sqObj "list" vs2 c2) ∈ rest) (hi2 : IntsAre vs2 l2) (hr2 : ∀ x ∈ l2, 0 ≤ x ∧ x < 256) (hl2 : l2.length ≤ 3000)
    (w5 : (ones, sqObj "list" (rowsAt i one oth) cO) ∈ rest)
    (fa0 : getL (Str.ofString "pduSource") es = some (some (.ref p1))) (fa1 : getL (Str.ofString "pduDestination") es = some (some (.ref p2))) (fa2 : getL (Str.ofString "pduUserData") es = some (some (.int i3 t3))) (fa3 : getL (Str.ofString "pduExpectingReply") es = some (some (.int i4 t4))) (fa4 : getL (Str.ofString "pduNetworkPriority") es = some (some (.int i5 t5))) (fb0 : getL (Str.ofString "pduSource") es2 = some (some (.ref p3))) (fb1 : getL (Str.ofString "pduDestination") es2 = some (some (.ref p4))) (fb2 : getL (Str.ofString "pduUserData") es2 = some (some (.int i6 t6))) (fb3 : getL (Str.ofString "pduExpectingReply") es2 = some (some (.int i7 t7))) (fb4 : getL (Str.ofString "pduNetworkPriority") es2 = some (some (.int i8 t8)))
    (m1 : (p1, instObj 325 d1) ∈ rest) (m2 : (d1, dictOf g1 g1n) ∈ rest) (m3 : (p2, instObj 325 d2) ∈ rest) (m4 : (d2, dictOf g2 g2n) ∈ rest)
    (m1' : (p3, instObj 325 d3) ∈ rest) (m2' : (d3, dictOf g3 g3n) ∈ rest) (m3' : (p4, instObj 325 d4) ∈ rest) (m4' : (d4, dictOf g4 g4n) ∈ rest)
    (k1 : getL (Str.ofString "addrAddr") g1 = some (some (.bytes b1 u1))) (k2 : getL (Str.ofString "addrAddr") g2 = some (some (.bytes b2 u2)))
    (k3 : getL (Str.ofString "addrAddr") g3 = some (some (.bytes b3 u3))) (k4 : getL (Str.ofString "addrAddr") g4 = some (some (.bytes b4 u4)))
    (m5 : (fld, sqObj "list" (rowsAt i fs fo) nf) ∈ rest) (m6 : (fs, ({ cls := .type "tuple", data := .seq #[.bytes b1 u1, .bytes b2 u2, .int i3 t3, .int i4 t4, .int i5 t5] } : Obj)) ∈ rest)
    (m7 : (fo, ({ cls := .type "tuple", data := .seq #[.bytes b3 u3, .bytes b4 u4, .int i6 t6, .int i7 t7, .int i8 t8] } : Obj)) ∈ rest)
    (I : Inv h₀ L s0 one dx a C n es i ro rows ones fld rest nn pick y 16 (b) s) :
    wpG (model PySem.Challenge.rw_bd5008_01.row.toRowW.prog w) (lawA L) (exec blk20.1 (lawE L)) (Out (fun s' => Inv h₀ L s0 one dx a C n es i ro rows ones fld rest nn pick y 16 (b + 4) s')) noE s := by
  revert X
  k_fill
  intro X
  obtain ⟨h, tk, m, l, vs, cn, r, cm, tn, tp, ty, ti, rfl, F, S, N, hi, hr, hl, q1, q2, q3⟩ := I
  have F' := Fr.knows F S
  rcases hCi with ⟨rfl, rfl, rfl⟩ | ⟨rfl, rfl, rfl⟩
  all_goals
      simp only [rowsAt, if_true, if_false, Nat.one_ne_zero] at N w5 m5
      refine wpG_If ?_
      repeat (first | (k_unfold; (try dsimp only)) | walk1 | (dsimp only; walk1))
      (rename News h₀ L _ _ => kN)
      (refine' Inv.of (l := l) ?F9 kN ?m1 ?m2 ?m3 ?m4 ?m5 ?m6 ?m7 ?S9 ?hi ?hb ?hr ?hl q1 q2 ?q3; (case F9 => k_asm); (case m1 => k_mem); (case m2 => k_mem); (case m3 => k_mem); (case m4 => k_mem); (case m5 => rfl); (case m6 => k_mem); (case m7 => (intro q hq; repeat (first | exact hq | apply List.Mem.tail))); (case S9 => exact ⟨rfl, rfl, rfl, rfl, rfl, fun hq => S.e_row hq, rfl, rfl, rfl⟩); (case hi => exact hi); (case hb => (rfl)); (case hr => (exact hr)); (case hl => (omega)); (case q3 => exact q3))
-- L17

theorem seq_c {M : Model} {A : Around} {s : Shared} {env : Env} {st : Stmt} {rest : List Stmt} {P : Shared → Prop} {Q : Flow → Shared → Prop} (h : wpG M A (exec st env) (Out P) noE s) (k : ∀ s', P s' → wpG M A (execs rest env) Q noE s') :
    wpG M A (execs (st :: rest) env) Q noE s := wpG_execs_cons (wpG_mono h (fun f s' hf => by obtain ⟨rfl, hp⟩ := hf; exact k s' hp) fun _ _ x => x)

theorem blk6_ge {w : World} {h₀ : Heap} {L : Addr} {mg mb : Str → Option Value} {s0 s : Shared} {p : Program} {loose : List Str} {mean : ExcName → Option Value}
    {one dx a C n i ro rows ones fld b : Nat} {es : List DictEntry} {rest : List (Addr × Obj)} {nn pick y : Int} (X : (MineH.hd.heap_39 w.params).In h₀) (T : Top p loose mean mg mb h₀) (hp : 4 ≤ pick) (I : Inv h₀ L s0 one dx a C n es i ro rows ones fld rest nn pick y 0 (b) s) :
    wpG (model PySem.Challenge.rw_bd5008_01.row.toRowW.prog w) (lawA L) (exec blk6.1 (lawE L)) (Out (fun s' => Inv h₀ L s0 one dx a C n es i ro rows ones fld rest nn pick y 4 (b + 4) s')) noE s := by
  revert X
  k_fill
  intro X
  obtain ⟨h, tk, m, l, vs, cn, r, cm, tn, tp, ty, ti, rfl, F, S, N, hi, hr, hl, q1, q2, q3⟩ := I
  have F' := Fr.knows F S
  refine wpG_If ?_
  repeat (first | (k_unfold; (try dsimp only)) | walk1 | (dsimp only; walk1))
  exact ⟨rfl, Inv.intro F' ⟨rfl, rfl, rfl, rfl, rfl, fun hq => S.e_row (by omega), rfl, rfl, rfl⟩ N hi hr (by omega) q1 q2 q3⟩

theorem tail_c {w : World} {h₀ : Heap} {L : Addr} {mg mb : Str → Option Value} {s0 s : Shared} {p : Program} {loose : List Str} {mean : ExcName → Option Value}
    {one dx a C n i ro rows ones fld b : Nat} {es : List DictEntry} {rest : List (Addr × Obj)} {nn pick y : Int} {oth dx2 a2 Co n2 cO c2 : Nat} {es2 : List DictEntry} {l2 : List Int} {vs2 : List Value} {p1 p2 d1 d2 g1n g2n p3 p4 d3 d4 g3n g4n fs fo nf : Nat} {g1 g2 g3 g4 : List DictEntry} {b1 b2 b3 b4 : Array UInt8} {u1 u2 u3 u4 : Tok} {i3 i4 i5 i6 i7 i8 : Int} {t3 t4 t5 t6 t7 t8 : Tok} {k : Nat} {j1 j2 j3 j4 j5 : Int} {s1 s2 s3 s4 s5 : Tok} (hCi : (C = 375 ∧ i = 0 ∧ Co = 453) ∨ (C = 453 ∧ i = 1 ∧ Co = 375)) (X : (MineH.hd.heap_39 w.params).In h₀) (T : Top p loose mean mg mb h₀) (B : Below callerA h₀ [] h₀)
    (hb : b + 100 ≤ 3000) (e1 : getL (Str.ofString "pduData") es = some (some (.ref a))) (e2 : getL (Str.ofString "pduData") es2 = some (some (.ref a2)))
    (w1 : (oth, instObj Co dx2) ∈ rest) (w2 : (dx2, dictOf es2 n2) ∈ rest) (w3 : (a2, baObj (byteArr l2)) ∈ rest) (w4 : (ro, sqObj "list" vs2 c2) ∈ rest) (hi2 : IntsAre vs2 l2) (hr2 : ∀ x ∈ l2, 0 ≤ x ∧ x < 256) (hl2 : l2.length ≤ 3000)
    (w5 : (ones, sqObj "list" (rowsAt i one oth) cO) ∈ rest)
     (fb0 : getL (Str.ofString "pduSource") es2 = some (some (.ref p3))) (fb1 : getL (Str.ofString "pduDestination") es2 = some (some (.ref p4))) (fb2 : getL (Str.ofString "pduUserData") es2 = some (some (.int i6 t6))) (fb3 : getL (Str.ofString "pduExpectingReply") es2 = some (some (.int i7 t7))) (fb4 : getL (Str.ofString "pduNetworkPriority") es2 = some (some (.int i8 t8)))
    (m1 : (p1, instObj 325 d1) ∈ rest) (m2 : (d1, dictOf g1 g1n) ∈ rest) (m3 : (p2, instObj 325 d2) ∈ rest) (m4 : (d2, dictOf g2 g2n) ∈ rest)
    (m1' : (p3, instObj 325 d3) ∈ rest) (m2' : (d3, dictOf g3 g3n) ∈ rest) (m3' : (p4, instObj 325 d4) ∈ rest) (m4' : (d4, dictOf g4 g4n) ∈ rest)
    (k1 : getL (Str.ofString "addrAddr") g1 = some (some (.bytes b1 u1))) (k2 : getL (Str.ofString "addrAddr") g2 = some (some (.bytes b2 u2)))
    (k3 : getL (Str.ofString "addrAddr") g3 = some (some (.bytes b3 u3))) (k4 : getL (Str.ofString "addrAddr") g4 = some (some (.bytes b4 u4)))
    (m5 : (fld, sqObj "list" (rowsAt i fs fo) nf) ∈ rest) (m6 : (fs, ({ cls := .type "tuple", data := .seq #[.bytes b1 u1, .bytes b2 u2, .int i3 t3, .int i4 t4, .int i5 t5] } : Obj)) ∈ rest)
    (m7 : (fo, ({ cls := .type "tuple", data := .seq #[.bytes b3 u3, .bytes b4 u4, .int i6 t6, .int i7 t7, .int i8 t8] } : Obj)) ∈ rest)
    (hfl : ((C = 375 ∧ i = 0 ∧ Flds es k (pduF a (.int i3 t3) (.int i4 t4) (.int i5 t5) p1 p2)) ∨ (C = 453 ∧ i = 1 ∧ Flds es k (npduF a (.int i3 t3) (.int i4 t4) (.int i5 t5) p1 p2 (.int j1 s1) (.int j2 s2) (.int j3 s3) (.int j4 s4) (.int j5 s5))))) (hk : k ≤ 100) (hp0 : 0 ≤ pick)
    (h17 : ∀ b s, b ≤ 3000 → Inv h₀ L s0 one dx a C n es i ro rows ones fld rest nn pick y 14 (b) s → wpG (model PySem.Challenge.rw_bd5008_01.row.toRowW.prog w) (lawA L) (exec blk17.1 (lawE L)) (Out (fun s' => Inv h₀ L s0 one dx a C n es i ro rows ones fld rest nn pick y 15 (b + 4) s')) noE s)
    (h6 : Inv h₀ L s0 one dx a C n es i ro rows ones fld rest nn pick y 0 (b) s) :
    wpG (model PySem.Challenge.rw_bd5008_01.row.toRowW.prog w) (lawA L) (execs [blk6.1, blk7.1, blk8.1, blk9.1, blk10.1, blk11.1, blk12.1, blk13.1, blk14.1, blk15.1, blk16.1, blk17.1, blk18.1, blk19.1, blk20.1] (lawE L)) (Out (fun s' => Inv h₀ L s0 one dx a C n es i ro rows ones fld rest nn pick y 16 (b + 60) s')) noE s := by
  have hCi2 : (C = 375 ∧ i = 0) ∨ (C = 453 ∧ i = 1) := by
    rcases hCi with h | h
    · exact .inl ⟨h.1, h.2.1⟩
    · exact .inr ⟨h.1, h.2.1⟩
  have none_of : ∀ x : Str, pduF a (.int i3 t3) (.int i4 t4) (.int i5 t5) p1 p2 x = none → npduF a (.int i3 t3) (.int i4 t4) (.int i5 t5) p1 p2 (.int j1 s1) (.int j2 s2) (.int j3 s3) (.int j4 s4) (.int j5 s5) x = none → getL x es = some none := fun x h h' => by
    rcases hfl with ⟨_, _, f⟩ | ⟨_, _, f⟩
    · exact f.at h
    · exact f.at h'
  have some_of : ∀ (x : Str) (v : Value), pduF a (.int i3 t3) (.int i4 t4) (.int i5 t5) p1 p2 x = some v → npduF a (.int i3 t3) (.int i4 t4) (.int i5 t5) p1 p2 (.int j1 s1) (.int j2 s2) (.int j3 s3) (.int j4 s4) (.int j5 s5) x = some v → getL x es = some (some v) := fun x v h h' => by
    rcases hfl with ⟨_, _, f⟩ | ⟨_, _, f⟩
    · exact f.at h
    · exact f.at h'
  have hes : es.length ≤ 1000 := by
    rcases hfl with ⟨_, _, f⟩ | ⟨_, _, f⟩ <;> exact Nat.le_trans f.len (by omega)
  refine seq_c (P := fun s' => Inv h₀ L s0 one dx a C n es i ro rows ones fld rest nn pick y 4 (b + 4) s') ?_ fun s1 h1 => ?_
  · by_cases q0 : pick = 0
    · exact blk6_0 hCi2 X T B hes e1 (by omega) (none_of (Str.ofString "get") rfl rfl) q0 h6
    by_cases q1 : pick = 1
    · exact blk6_1 hCi2 X T B hes e1 (by omega) (none_of (Str.ofString "get_data") rfl rfl) q1 h6
    by_cases q2 : pick = 2
    · exact blk6_2 hCi2 X T B hes e1 (by omega) (none_of (Str.ofString "get_data") rfl rfl) (none_of (Str.ofString "get_short") rfl rfl) q2 h6
    by_cases q3 : pick = 3
    · exact blk6_3 hCi2 X T B hes e1 (by omega) (none_of (Str.ofString "get_data") rfl rfl) (none_of (Str.ofString "get_long") rfl rfl) q3 h6
    exact blk6_ge X T (by omega) h6
  refine seq_c (blk7_c hCi2 X T B hes e1 (by omega) (none_of (Str.ofString "put") rfl rfl) h1) fun s2 h2 => ?_
  refine seq_c (blk8_c hCi2 X T B hes e1 (by omega) (none_of (Str.ofString "put") rfl rfl) h2) fun s3 h3 => ?_
  refine seq_c (blk9_c hCi2 X T B hes e1 (by omega) (none_of (Str.ofString "put_data") rfl rfl) h3) fun s4 h4 => ?_
  refine seq_c (blk10_c hCi2 X T B hes e1 (by omega) (none_of (Str.ofString "put_data") rfl rfl) h4) fun s5 h5 => ?_
  refine seq_c (blk11_c hCi2 X T B hes e1 (by omega) (none_of (Str.ofString "put_data") rfl rfl) h5) fun s6 h6 => ?_
  refine seq_c (blk12_c hCi2 X T B hes e1 (by omega) (none_of (Str.ofString "put_data") rfl rfl) h6) fun s7 h7 => ?_
  refine seq_c (blk13_c hCi2 X T B hes e1 (by omega) (none_of (Str.ofString "put_short") rfl rfl) h7) fun s8 h8 => ?_
  refine seq_c (blk14_c hCi2 X T B hes e1 (by omega) (none_of (Str.ofString "put_long") rfl rfl) h8) fun s9 h9 => ?_
  refine seq_c (blk15_c (kf := 0) (kt := 0) hfl X T B hk (by omega) m1 m2 m3 m4 k1 k2 m5 m6 h9) fun s10 h10 => ?_
  refine seq_c (blk16_c hCi2 X T B hes e1 (by omega) (none_of (Str.ofString "put") rfl rfl) h10) fun s11 h11 => ?_
  refine seq_c (h17 _ _ (by omega) h11) fun s12 h12 => ?_
  refine seq_c (blk18_c hCi2 X T B hes e1 (by omega) h12) fun s13 h13 => ?_
  refine seq_c (blk19_c hCi X T B (by omega) e1 e2 w1 w2 w3 w4 hi2 hr2 hl2 w5 h13) fun s14 h14 => ?_
  refine seq_c (blk20_c hCi X T B (by omega) e1 e2 w1 w2 w3 w4 hi2 hr2 hl2 w5 (some_of (Str.ofString "pduSource") _ rfl rfl) (some_of (Str.ofString "pduDestination") _ rfl rfl) (some_of (Str.ofString "pduUserData") _ rfl rfl) (some_of (Str.ofString "pduExpectingReply") _ rfl rfl) (some_of (Str.ofString "pduNetworkPriority") _ rfl rfl) fb0 fb1 fb2 fb3 fb4 m1 m2 m3 m4 m1' m2' m3' m4' k1 k2 k3 k4 m5 m6 m7 h14) fun s15 h15 => ?_
  exact wpG_execs_nil ⟨rfl, h15⟩
-- L18

theorem item_eq {prog : Program} {w : World} {A : Around} {E : Value → Shared → Prop} {s : Shared} {h₀ : Heap} {L l : Addr} {news : List (Addr × Obj)} {vs : List Value} {n k : Nat} {i : Int} {u : Tok} {v : Value} {value slice : Expr} {Q : Value → Shared → Prop}
    (N : News h₀ L s.heap news) (hm : (l, sqObj "list" vs n) ∈ news) (hik : i = (k : Int)) (hx : vs[k]? = some v) (hk : (k : Int) < 2 ^ 63) (h : Q v s)
    (hs : subscripted slice false (.ref l) (.int i u) = operate [.ref l, .int i u] (getItem (.ref l) (.int i u)) := by with_unfolding_all rfl) :
    wpAny (model prog w) A (subscriptTail value slice (.ref l) (.int i u)) Q E s := by
  subst hik
  exact item_rest N hm hx hk h hs
theorem fm2 (x : Int) : x.fmod 2 = ((0 : Nat) : Int) ∨ x.fmod 2 = ((1 : Nat) : Int) := by
  rw [Int.fmod_eq_emod_of_nonneg _ (by decide)]
  omega
theorem fm16 (x : Int) : 0 ≤ x.fmod 16 := by
  rw [Int.fmod_eq_emod_of_nonneg _ (by decide)]
  omega
local macro_rules | `(tactic| k_mem) => `(tactic| assumption)
local macro_rules | `(tactic| walk_at "subscriptTail") => `(tactic| (k_here; (with_reducible show wpAny _ _ (subscriptTail _ _ (Value.ref _) (Value.int _ _)) _ _ _); k_dflt (refine' item_eq ?N ?m ?z ?x ?k ?_ ?s; (case N => k_asm); (case m => k_mem); (case z => assumption); (case x => rfl); (case k => decide); (case s => with_unfolding_all rfl); k_whole)))

theorem head_0 {w : World} {h₀ : Heap} {L : Addr} {mg mb : Str → Option Value} {s : Shared} {p : Program} {loose : List Str} {mean : ExcName → Option Value} {m : Str → Option Value} {all : List (Addr × Obj)} {nn : Int} {tn : Tok} {o1 o2 r1 r2 rows ones fld cO cm : Nat}
    (X : (MineH.hd.heap_39 w.params).In h₀) (T : Top p loose mean mg mb h₀) (F : Fr h₀ L s.heap m) (N : News h₀ L s.heap all)
    (e1 : m (Str.ofString "n") = some (.int nn tn)) (e2 : m (Str.ofString "rows") = some (.ref rows)) (e3 : m (Str.ofString "ones") = some (.ref ones)) (e4 : m (Str.ofString "fields") = some (.ref fld))
    (mo : (ones, sqObj "list" [.ref o1, .ref o2] cO) ∈ all) (mr : (rows, sqObj "list" [.ref r1, .ref r2] cm) ∈ all) (hj : (nn.fdiv 16).fmod 2 = ((0 : Nat) : Int)) :
    wpG (model PySem.Challenge.rw_bd5008_01.row.toRowW.prog w) (lawA L) (execs [blk0.1, blk1.1, blk2.1, blk3.1, blk4.1, blk5.1] (lawE L)) (Out (fun s' => ∃ (h : Heap) (tk : Nat) (m : Str → Option Value) (tn tp ty ti : Tok), s' = { s with heap := h, toks := tk } ∧ Fr h₀ L h m ∧ News h₀ L h all ∧ FrS m nn (nn.fmod 16) ((nn.fdiv 16).fdiv 2) 0 o1 r1 rows ones fld 0 tn tp ty ti)) noE s := by
  revert X
  k_fill
  intro X
  have F' := Fr.know (x := Str.ofString "n") (v := .int nn tn) (Fr.know (x := Str.ofString "rows") (v := .ref rows) (Fr.know (x := Str.ofString "ones") (v := .ref ones) (Fr.know (x := Str.ofString "fields") F e4) e3) e2) e1
  refine wpG_execs_cons ?_
  refine wpG_of ?_
  (show wpAny _ _ (exec (Stmt.Assign _ _ _) _) _ _ _)
  repeat (first | (k_unfold; (try dsimp only)) | walk1 | (dsimp only; walk1))
  refine wpG_of ?_
  (show wpAny _ _ (exec (Stmt.Assign _ _ _) _) _ _ _)
  repeat (first | (k_unfold; (try dsimp only)) | walk1 | (dsimp only; walk1))
  refine wpG_of ?_
  (show wpAny _ _ (exec (Stmt.Assign _ _ _) _) _ _ _)
  repeat (first | (k_unfold; (try dsimp only)) | walk1 | (dsimp only; walk1))
  refine wpG_of ?_
  (show wpAny _ _ (exec (Stmt.Assign _ _ _) _) _ _ _)
  repeat (first | (k_unfold; (try dsimp only)) | walk1 | (dsimp only; walk1))
  refine wpG_of ?_
  (show wpAny _ _ (exec (Stmt.Assign _ _ _) _) _ _ _)
  repeat (first | (k_unfold; (try dsimp only)) | walk1 | (dsimp only; walk1))
  refine wpG_of ?_
  (show wpAny _ _ (exec (Stmt.Assign _ _ _) _) _ _ _)
  repeat (first | (k_unfold; (try dsimp only)) | walk1 | (dsimp only; walk1))
  (rename News h₀ L _ _ => kN)
  (rename Fr h₀ L _ _ => kF)
  exact ⟨rfl, _, _, _, _, _, _, _, rfl, kF, kN, ⟨rfl, rfl, rfl, by rw [← hj]; rfl, rfl, fun _ => rfl, rfl, rfl, rfl⟩⟩

theorem head_1 {w : World} {h₀ : Heap} {L : Addr} {mg mb : Str → Option Value} {s : Shared} {p : Program} {loose : List Str} {mean : ExcName → Option Value} {m : Str → Option Value} {all : List (Addr × Obj)} {nn : Int} {tn : Tok} {o1 o2 r1 r2 rows ones fld cO cm : Nat}
    (X : (MineH.hd.heap_39 w.params).In h₀) (T : Top p loose mean mg mb h₀) (F : Fr h₀ L s.heap m) (N : News h₀ L s.heap all)
    (e1 : m (Str.ofString "n") = some (.int nn tn)) (e2 : m (Str.ofString "rows") = some (.ref rows)) (e3 : m (Str.ofString "ones") = some (.ref ones)) (e4 : m (Str.ofString "fields") = some (.ref fld))
    (mo : (ones, sqObj "list" [.ref o1, .ref o2] cO) ∈ all) (mr : (rows, sqObj "list" [.ref r1, .ref r2] cm) ∈ all) (hj : (nn.fdiv 16).fmod 2 = ((1 : Nat) : Int)) :
    wpG (model PySem.Challenge.rw_bd5008_01.row.toRowW.prog w) (lawA L) (execs [blk0.1, blk1.1, blk2.1, blk3.1, blk4.1, blk5.1] (lawE L)) (Out (fun s' => ∃ (h : Heap) (tk : Nat) (m : Str → Option Value) (tn tp ty ti : Tok), s' = { s with heap := h, toks := tk } ∧ Fr h₀ L h m ∧ News h₀ L h all ∧ FrS m nn (nn.fmod 16) ((nn.fdiv 16).fdiv 2) 1 o2 r2 rows ones fld 0 tn tp ty ti)) noE s := by
  revert X
  k_fill
  intro X
  have F' := Fr.know (x := Str.ofString "n") (v := .int nn tn) (Fr.know (x := Str.ofString "rows") (v := .ref rows) (Fr.know (x := Str.ofString "ones") (v := .ref ones) (Fr.know (x := Str.ofString "fields") F e4) e3) e2) e1
  refine wpG_execs_cons ?_
  refine wpG_of ?_
  (show wpAny _ _ (exec (Stmt.Assign _ _ _) _) _ _ _)
  repeat (first | (k_unfold; (try dsimp only)) | walk1 | (dsimp only; walk1))
  refine wpG_of ?_
  (show wpAny _ _ (exec (Stmt.Assign _ _ _) _) _ _ _)
  repeat (first | (k_unfold; (try dsimp only)) | walk1 | (dsimp only; walk1))
  refine wpG_of ?_
  (show wpAny _ _ (exec (Stmt.Assign _ _ _) _) _ _ _)
  repeat (first | (k_unfold; (try dsimp only)) | walk1 | (dsimp only; walk1))
  refine wpG_of ?_
  (show wpAny _ _ (exec (Stmt.Assign _ _ _) _) _ _ _)
  repeat (first | (k_unfold; (try dsimp only)) | walk1 | (dsimp only; walk1))
  refine wpG_of ?_
  (show wpAny _ _ (exec (Stmt.Assign _ _ _) _) _ _ _)
  repeat (first | (k_unfold; (try dsimp only)) | walk1 | (dsimp only; walk1))
  refine wpG_of ?_
  (show wpAny _ _ (exec (Stmt.Assign _ _ _) _) _ _ _)
  repeat (first | (k_unfold; (try dsimp only)) | walk1 | (dsimp only; walk1))
  (rename News h₀ L _ _ => kN)
  (rename Fr h₀ L _ _ => kF)
  exact ⟨rfl, _, _, _, _, _, _, _, rfl, kF, kN, ⟨rfl, rfl, rfl, by rw [← hj]; rfl, rfl, fun _ => rfl, rfl, rfl, rfl⟩⟩
end

end Mine
end

-- L19
set_option maxHeartbeats 4000000
namespace Mine
open PySem PySem.W PySem.Calls PyProof.Rows

def LSt (o1 d1 a1 n1 : Nat) (es1 : List DictEntry) (o2 d2 a2 n2 : Nat) (es2 : List DictEntry) (rows ones fld : Nat) (fixed : List (Addr × Obj)) (b : Nat) (l1 l2 : List Int) (vs1 vs2 : List Value) (c1 c2 r1 r2 cm : Nat) : Prop :=
  IntsAre vs1 l1 ∧ IntsAre vs2 l2 ∧ (∀ x ∈ l1, 0 ≤ x ∧ x < 256) ∧ (∀ x ∈ l2, 0 ≤ x ∧ x < 256) ∧ l1.length ≤ b ∧ l2.length ≤ b ∧ a1 ≠ a2 ∧ r1 ≠ rows ∧ r2 ≠ rows ∧ (∀ q ∈ fixed, q.1 ≠ a1) ∧ (∀ q ∈ fixed, q.1 ≠ a2) ∧ (∀ q ∈ fixed, q.1 ≠ rows)
/-- what holds between two turns -/
def LInv (h₀ : Heap) (L : Addr) (s0 : Shared) (o1 d1 a1 n1 : Nat) (es1 : List DictEntry) (o2 d2 a2 n2 : Nat) (es2 : List DictEntry) (rows ones fld : Nat) (fixed : List (Addr × Obj)) (b : Nat) (s : Shared) : Prop :=
  ∃ (h : Heap) (tk : Nat) (m : Str → Option Value) (l1 l2 : List Int) (vs1 vs2 : List Value) (c1 c2 r1 r2 cm : Nat), s = { s0 with heap := h, toks := tk } ∧ Fr h₀ L h m ∧
    m (Str.ofString "rows") = some (.ref rows) ∧ m (Str.ofString "ones") = some (.ref ones) ∧ m (Str.ofString "fields") = some (.ref fld) ∧
    News h₀ L h ((rows, sqObj "list" [.ref r1, .ref r2] cm) :: (o1, instObj 375 d1) :: (d1, dictOf es1 n1) :: (a1, baObj (byteArr l1)) :: (r1, sqObj "list" vs1 c1) :: (o2, instObj 453 d2) :: (d2, dictOf es2 n2) :: (a2, baObj (byteArr l2)) :: (r2, sqObj "list" vs2 c2) :: fixed) ∧ LSt o1 d1 a1 n1 es1 o2 d2 a2 n2 es2 rows ones fld fixed b l1 l2 vs1 vs2 c1 c2 r1 r2 cm

theorem turn_c {w : World} {h₀ : Heap} {L : Addr} {mg mb : Str → Option Value} {s0 s : Shared} {p : Program} {loose : List Str} {mean : ExcName → Option Value} {m : Str → Option Value}
    {o1 d1 a1 n1 o2 d2 a2 n2 rows ones fld b cO nf f1 f2 : Nat} {es1 es2 : List DictEntry} {fixed : List (Addr × Obj)} {nn : Int} {tn : Tok} {l1 l2 : List Int} {vs1 vs2 : List Value} {c1 c2 r1 r2 cm : Nat}
    {k1 k2 p1 p2 p3 p4 x1 x2 x3 x4 g1n g2n g3n g4n : Nat} {g1 g2 g3 g4 : List DictEntry} {b1 b2 b3 b4 : Array UInt8} {u1 u2 u3 u4 : Tok} {i3 i4 i5 i6 i7 i8 : Int} {t3 t4 t5 t6 t7 t8 : Tok} {j1 j2 j3 j4 j5 : Int} {s1 s2 s3 s4 s5 : Tok} (X : (MineH.hd.heap_39 w.params).In h₀) (T : Top p loose mean mg mb h₀) (B : Below callerA h₀ [] h₀)
    (H17 : ∀ (one dx a C n i ro : Nat) (es : List DictEntry) (rest : List (Addr × Obj)) (pick y : Int) (b : Nat) (s : Shared), ((C = 375 ∧ i = 0) ∨ (C = 453 ∧ i = 1)) → es.length ≤ 1000 → getL (Str.ofString "pduData") es = some (some (.ref a)) → b ≤ 3000 →
      Inv h₀ L s0 one dx a C n es i ro rows ones fld rest nn pick y 14 b s → wpG (model PySem.Challenge.rw_bd5008_01.row.toRowW.prog w) (lawA L) (exec blk17.1 (lawE L)) (Out (fun s' => Inv h₀ L s0 one dx a C n es i ro rows ones fld rest nn pick y 15 (b + 4) s')) noE s)
    (f1s : Flds es1 k1 (pduF a1 (.int i3 t3) (.int i4 t4) (.int i5 t5) p1 p2)) (f2s : Flds es2 k2 (npduF a2 (.int i6 t6) (.int i7 t7) (.int i8 t8) p3 p4 (.int j1 s1) (.int j2 s2) (.int j3 s3) (.int j4 s4) (.int j5 s5))) (hk1 : k1 ≤ 100) (hk2 : k2 ≤ 100)
    (mo : (ones, sqObj "list" [.ref o1, .ref o2] cO) ∈ fixed) (mf : (fld, sqObj "list" [.ref f1, .ref f2] nf) ∈ fixed)
    (m6 : (f1, ({ cls := .type "tuple", data := .seq #[.bytes b1 u1, .bytes b2 u2, .int i3 t3, .int i4 t4, .int i5 t5] } : Obj)) ∈ fixed)
    (m7 : (f2, ({ cls := .type "tuple", data := .seq #[.bytes b3 u3, .bytes b4 u4, .int i6 t6, .int i7 t7, .int i8 t8] } : Obj)) ∈ fixed)
    (m1 : (p1, instObj 325 x1) ∈ fixed) (m2 : (x1, dictOf g1 g1n) ∈ fixed) (m3 : (p2, instObj 325 x2) ∈ fixed) (m4 : (x2, dictOf g2 g2n) ∈ fixed)
    (m1' : (p3, instObj 325 x3) ∈ fixed) (m2' : (x3, dictOf g3 g3n) ∈ fixed) (m3' : (p4, instObj 325 x4) ∈ fixed) (m4' : (x4, dictOf g4 g4n) ∈ fixed)
    (q1 : getL (Str.ofString "addrAddr") g1 = some (some (.bytes b1 u1))) (q2 : getL (Str.ofString "addrAddr") g2 = some (some (.bytes b2 u2)))
    (q3 : getL (Str.ofString "addrAddr") g3 = some (some (.bytes b3 u3))) (q4 : getL (Str.ofString "addrAddr") g4 = some (some (.bytes b4 u4)))
    (F : Fr h₀ L s.heap m) (N : News h₀ L s.heap ((rows, sqObj "list" [.ref r1, .ref r2] cm) :: (o1, instObj 375 d1) :: (d1, dictOf es1 n1) :: (a1, baObj (byteArr l1)) :: (r1, sqObj "list" vs1 c1) :: (o2, instObj 453 d2) :: (d2, dictOf es2 n2) :: (a2, baObj (byteArr l2)) :: (r2, sqObj "list" vs2 c2) :: fixed)) (e1 : m (Str.ofString "n") = some (.int nn tn)) (e2 : m (Str.ofString "rows") = some (.ref rows)) (e3 : m (Str.ofString "ones") = some (.ref ones)) (e4 : m (Str.ofString "fields") = some (.ref fld))
    (hs : s = { s0 with heap := s.heap, toks := s.toks }) (hb : b + 100 ≤ 3000) (St : LSt o1 d1 a1 n1 es1 o2 d2 a2 n2 es2 rows ones fld fixed b l1 l2 vs1 vs2 c1 c2 r1 r2 cm) :
    wpG (model PySem.Challenge.rw_bd5008_01.row.toRowW.prog w) (lawA L) (execs loopBody (lawE L)) (Out (fun s' => LInv h₀ L s0 o1 d1 a1 n1 es1 o2 d2 a2 n2 es2 rows ones fld fixed (b + 60) s')) noE s := by
  obtain ⟨hi1, hi2, hr1, hr2, hl1, hl2, z2, z3, z4, z5, z6, z7⟩ := St
  obtain ⟨hh, gg, dd, tt, oo⟩ := s
  dsimp only at hs F N
  obtain ⟨rfl, rfl, rfl⟩ : gg = s0.gens ∧ dd = s0.drawn ∧ oo = s0.os := by injection hs; refine ⟨?_, ?_, ?_⟩ <;> assumption
  rw [loop_is]
  show wpG (model PySem.Challenge.rw_bd5008_01.row.toRowW.prog w) (lawA L) (execs ([blk0.1, blk1.1, blk2.1, blk3.1, blk4.1, blk5.1] ++ [blk6.1, blk7.1, blk8.1, blk9.1, blk10.1, blk11.1, blk12.1, blk13.1, blk14.1, blk15.1, blk16.1, blk17.1, blk18.1, blk19.1, blk20.1]) (lawE L)) _ noE _
  rcases fm2 (nn.fdiv 16) with hj | hj
  · refine app_c (head_0 X T F N e1 e2 e3 e4 (.tail _ (.tail _ (.tail _ (.tail _ (.tail _ (.tail _ (.tail _ (.tail _ (.tail _ mo))))))))) (.head _) hj) ?_
    rintro s' ⟨h', tk', m', tn', tp', ty', ti', rfl, F', N', S'⟩
    have I0 : Inv h₀ L s0 o1 d1 a1 375 n1 es1 0 r2 rows ones fld ((o2, instObj 453 d2) :: (d2, dictOf es2 n2) :: (a2, baObj (byteArr l2)) :: (r2, sqObj "list" vs2 c2) :: fixed) nn (nn.fmod 16) ((nn.fdiv 16).fdiv 2) 0 b { s0 with heap := h', toks := tk' } := by
      refine Inv.intro (cn := c1) (cm := cm) F' S' (fun q hq => N' q ?_) hi1 hr1 hl1 ?_ ?_ z3
      · simp only [rowsAt, if_true, if_false, Nat.one_ne_zero, List.mem_cons] at hq ⊢
        rcases hq with h | h | h | h | h | h | h | h | h | h <;> simp [h]
      · refine List.forall_mem_cons.mpr ⟨ne_of_ne N' (o1 := instObj 453 d2) (o2 := baObj (byteArr l1)) (by simp) (by simp) (by simp), List.forall_mem_cons.mpr ⟨ne_of_ne N' (o1 := dictOf es2 n2) (o2 := baObj (byteArr l1)) (by simp) (by simp) (by simp), List.forall_mem_cons.mpr ⟨z2.symm, List.forall_mem_cons.mpr ⟨ne_of_ne N' (o1 := sqObj "list" vs2 c2) (o2 := baObj (byteArr l1)) (by simp) (by simp) (by simp), z5⟩⟩⟩⟩
      · refine List.forall_mem_cons.mpr ⟨ne_of_ne N' (o1 := instObj 453 d2) (o2 := sqObj "list" [.ref r1, .ref r2] cm) (by simp) (by simp) (by simp), List.forall_mem_cons.mpr ⟨ne_of_ne N' (o1 := dictOf es2 n2) (o2 := sqObj "list" [.ref r1, .ref r2] cm) (by simp) (by simp) (by simp), List.forall_mem_cons.mpr ⟨ne_of_ne N' (o1 := baObj (byteArr l2)) (o2 := sqObj "list" [.ref r1, .ref r2] cm) (by simp) (by simp) (by simp), List.forall_mem_cons.mpr ⟨z4, z7⟩⟩⟩⟩
    have Z := tail_c (j1 := j1) (s1 := s1) (j2 := j2) (s2 := s2) (j3 := j3) (s3 := s3) (j4 := j4) (s4 := s4) (j5 := j5) (s5 := s5) (Co := 453) (cO := cO) (nf := nf) (.inl ⟨rfl, rfl, rfl⟩) X T B hb (f1s.at rfl) (f2s.at rfl) (.head _) (.tail _ (.head _)) (.tail _ (.tail _ (.head _))) (.tail _ (.tail _ (.tail _ (.head _)))) hi2 hr2 (by omega) (.tail _ (.tail _ (.tail _ (.tail _ mo))))
      (f2s.at rfl) (f2s.at rfl) (f2s.at rfl) (f2s.at rfl) (f2s.at rfl) (.tail _ (.tail _ (.tail _ (.tail _ m1)))) (.tail _ (.tail _ (.tail _ (.tail _ m2)))) (.tail _ (.tail _ (.tail _ (.tail _ m3)))) (.tail _ (.tail _ (.tail _ (.tail _ m4)))) (.tail _ (.tail _ (.tail _ (.tail _ m1')))) (.tail _ (.tail _ (.tail _ (.tail _ m2')))) (.tail _ (.tail _ (.tail _ (.tail _ m3')))) (.tail _ (.tail _ (.tail _ (.tail _ m4')))) q1 q2 q3 q4 (.tail _ (.tail _ (.tail _ (.tail _ mf)))) (.tail _ (.tail _ (.tail _ (.tail _ m6)))) (.tail _ (.tail _ (.tail _ (.tail _ m7)))) (.inl ⟨rfl, rfl, f1s⟩) hk1 (fm16 nn)
      (fun b s hb I => H17 _ _ _ _ _ _ _ _ _ _ _ b s (.inl ⟨rfl, rfl⟩) (Nat.le_trans f1s.len (by omega)) (f1s.at rfl) hb I) I0
    refine wpG_mono Z (fun f s' hf => ?_) fun _ _ x => x
    obtain ⟨rfl, h9, tk9, m9, l9, vs9, cn9, r9, cm9, tn9, tp9, ty9, ti9, rfl, F9, S9, N9, hi9, hr9, hl9, _, _, n9⟩ := hf
    refine ⟨rfl, h9, tk9, m9, l9, l2, vs9, vs2, cn9, c2, r9, r2, cm9, rfl, F9, S9.e_rows, S9.e_ones, S9.e_fields, fun q hq => N9 q ?_, hi9, hi2, hr9, hr2, hl9, (by omega), z2, n9, z4, z5, z6, z7⟩
    simp only [rowsAt, if_true, if_false, Nat.one_ne_zero, List.mem_cons] at hq ⊢
    rcases hq with h | h | h | h | h | h | h | h | h | h <;> simp [h]
  · refine app_c (head_1 X T F N e1 e2 e3 e4 (.tail _ (.tail _ (.tail _ (.tail _ (.tail _ (.tail _ (.tail _ (.tail _ (.tail _ mo))))))))) (.head _) hj) ?_
    rintro s' ⟨h', tk', m', tn', tp', ty', ti', rfl, F', N', S'⟩
    have I0 : Inv h₀ L s0 o2 d2 a2 453 n2 es2 1 r1 rows ones fld ((o1, instObj 375 d1) :: (d1, dictOf es1 n1) :: (a1, baObj (byteArr l1)) :: (r1, sqObj "list" vs1 c1) :: fixed) nn (nn.fmod 16) ((nn.fdiv 16).fdiv 2) 0 b { s0 with heap := h', toks := tk' } := by
      refine Inv.intro (cn := c2) (cm := cm) F' S' (fun q hq => N' q ?_) hi2 hr2 hl2 ?_ ?_ z4
      · simp only [rowsAt, if_true, if_false, Nat.one_ne_zero, List.mem_cons] at hq ⊢
        rcases hq with h | h | h | h | h | h | h | h | h | h <;> simp [h]
      · refine List.forall_mem_cons.mpr ⟨ne_of_ne N' (o1 := instObj 375 d1) (o2 := baObj (byteArr l2)) (by simp) (by simp) (by simp), List.forall_mem_cons.mpr ⟨ne_of_ne N' (o1 := dictOf es1 n1) (o2 := baObj (byteArr l2)) (by simp) (by simp) (by simp), List.forall_mem_cons.mpr ⟨z2, List.forall_mem_cons.mpr ⟨ne_of_ne N' (o1 := sqObj "list" vs1 c1) (o2 := baObj (byteArr l2)) (by simp) (by simp) (by simp), z6⟩⟩⟩⟩
      · refine List.forall_mem_cons.mpr ⟨ne_of_ne N' (o1 := instObj 375 d1) (o2 := sqObj "list" [.ref r1, .ref r2] cm) (by simp) (by simp) (by simp), List.forall_mem_cons.mpr ⟨ne_of_ne N' (o1 := dictOf es1 n1) (o2 := sqObj "list" [.ref r1, .ref r2] cm) (by simp) (by simp) (by simp), List.forall_mem_cons.mpr ⟨ne_of_ne N' (o1 := baObj (byteArr l1)) (o2 := sqObj "list" [.ref r1, .ref r2] cm) (by simp) (by simp) (by simp), List.forall_mem_cons.mpr ⟨z3, z7⟩⟩⟩⟩
    have Z := tail_c (j1 := j1) (s1 := s1) (j2 := j2) (s2 := s2) (j3 := j3) (s3 := s3) (j4 := j4) (s4 := s4) (j5 := j5) (s5 := s5) (Co := 375) (cO := cO) (nf := nf) (.inr ⟨rfl, rfl, rfl⟩) X T B hb (f2s.at rfl) (f1s.at rfl) (.head _) (.tail _ (.head _)) (.tail _ (.tail _ (.head _))) (.tail _ (.tail _ (.tail _ (.head _)))) hi1 hr1 (by omega) (.tail _ (.tail _ (.tail _ (.tail _ mo))))
      (f1s.at rfl) (f1s.at rfl) (f1s.at rfl) (f1s.at rfl) (f1s.at rfl) (.tail _ (.tail _ (.tail _ (.tail _ m1')))) (.tail _ (.tail _ (.tail _ (.tail _ m2')))) (.tail _ (.tail _ (.tail _ (.tail _ m3')))) (.tail _ (.tail _ (.tail _ (.tail _ m4')))) (.tail _ (.tail _ (.tail _ (.tail _ m1)))) (.tail _ (.tail _ (.tail _ (.tail _ m2)))) (.tail _ (.tail _ (.tail _ (.tail _ m3)))) (.tail _ (.tail _ (.tail _ (.tail _ m4)))) q3 q4 q1 q2 (.tail _ (.tail _ (.tail _ (.tail _ mf)))) (.tail _ (.tail _ (.tail _ (.tail _ m7)))) (.tail _ (.tail _ (.tail _ (.tail _ m6)))) (.inr ⟨rfl, rfl, f2s⟩) hk2 (fm16 nn)
      (fun b s hb I => H17 _ _ _ _ _ _ _ _ _ _ _ b s (.inr ⟨rfl, rfl⟩) (Nat.le_trans f2s.len (by omega)) (f2s.at rfl) hb I) I0
    refine wpG_mono Z (fun f s' hf => ?_) fun _ _ x => x
    obtain ⟨rfl, h9, tk9, m9, l9, vs9, cn9, r9, cm9, tn9, tp9, ty9, ti9, rfl, F9, S9, N9, hi9, hr9, hl9, _, _, n9⟩ := hf
    refine ⟨rfl, h9, tk9, m9, l1, l9, vs1, vs9, c1, cn9, r1, r9, cm9, rfl, F9, S9.e_rows, S9.e_ones, S9.e_fields, fun q hq => N9 q ?_, hi1, hi9, hr1, hr9, (by omega), hl9, z2, z3, n9, z5, z6, z7⟩
    simp only [rowsAt, if_true, if_false, Nat.one_ne_zero, List.mem_cons] at hq ⊢
    rcases hq with h | h | h | h | h | h | h | h | h | h <;> simp [h]
end Mine

-- L20
set_option maxHeartbeats 4000000
namespace Mine
open PySem PySem.W PySem.Calls PyProof.Rows

theorem loop_c {w : World} {h₀ : Heap} {L : Addr} {mg mb : Str → Option Value} {s : Shared} {p : Program} {loose : List Str} {mean : ExcName → Option Value} {m : Str → Option Value}
    {o1 d1 a1 n1 o2 d2 a2 n2 rows ones fld cO nf f1 f2 : Nat} {es1 es2 : List DictEntry} {fixed : List (Addr × Obj)} {l1 l2 : List Int} {vs1 vs2 : List Value} {c1 c2 r1 r2 cm : Nat}
    {k1 k2 p1 p2 p3 p4 x1 x2 x3 x4 g1n g2n g3n g4n : Nat} {g1 g2 g3 g4 : List DictEntry} {b1 b2 b3 b4 : Array UInt8} {u1 u2 u3 u4 : Tok} {i3 i4 i5 i6 i7 i8 : Int} {t3 t4 t5 t6 t7 t8 : Tok} {j1 j2 j3 j4 j5 : Int} {s1 s2 s3 s4 s5 : Tok} {lst lc : Nat} {vs : List Value} {ns : List Int} {pos : Pos} {Q : Flow → Shared → Prop} (X : (MineH.hd.heap_39 w.params).In h₀) (T : Top p loose mean mg mb h₀) (B : Below callerA h₀ [] h₀)
    (H17 : ∀ (nn : Int) (one dx a C n i ro : Nat) (es : List DictEntry) (rest : List (Addr × Obj)) (pick y : Int) (b : Nat) (s' : Shared), ((C = 375 ∧ i = 0) ∨ (C = 453 ∧ i = 1)) → es.length ≤ 1000 → getL (Str.ofString "pduData") es = some (some (.ref a)) → b ≤ 3000 →
      Inv h₀ L s one dx a C n es i ro rows ones fld rest nn pick y 14 b s' → wpG (model PySem.Challenge.rw_bd5008_01.row.toRowW.prog w) (lawA L) (exec blk17.1 (lawE L)) (Out (fun s'' => Inv h₀ L s one dx a C n es i ro rows ones fld rest nn pick y 15 (b + 4) s'')) noE s')
    (f1s : Flds es1 k1 (pduF a1 (.int i3 t3) (.int i4 t4) (.int i5 t5) p1 p2)) (f2s : Flds es2 k2 (npduF a2 (.int i6 t6) (.int i7 t7) (.int i8 t8) p3 p4 (.int j1 s1) (.int j2 s2) (.int j3 s3) (.int j4 s4) (.int j5 s5))) (hk1 : k1 ≤ 100) (hk2 : k2 ≤ 100)
    (mo : (ones, sqObj "list" [.ref o1, .ref o2] cO) ∈ fixed) (mf : (fld, sqObj "list" [.ref f1, .ref f2] nf) ∈ fixed)
    (m6 : (f1, ({ cls := .type "tuple", data := .seq #[.bytes b1 u1, .bytes b2 u2, .int i3 t3, .int i4 t4, .int i5 t5] } : Obj)) ∈ fixed)
    (m7 : (f2, ({ cls := .type "tuple", data := .seq #[.bytes b3 u3, .bytes b4 u4, .int i6 t6, .int i7 t7, .int i8 t8] } : Obj)) ∈ fixed)
    (m1 : (p1, instObj 325 x1) ∈ fixed) (m2 : (x1, dictOf g1 g1n) ∈ fixed) (m3 : (p2, instObj 325 x2) ∈ fixed) (m4 : (x2, dictOf g2 g2n) ∈ fixed)
    (m1' : (p3, instObj 325 x3) ∈ fixed) (m2' : (x3, dictOf g3 g3n) ∈ fixed) (m3' : (p4, instObj 325 x4) ∈ fixed) (m4' : (x4, dictOf g4 g4n) ∈ fixed)
    (q1 : getL (Str.ofString "addrAddr") g1 = some (some (.bytes b1 u1))) (q2 : getL (Str.ofString "addrAddr") g2 = some (some (.bytes b2 u2)))
    (q3 : getL (Str.ofString "addrAddr") g3 = some (some (.bytes b3 u3))) (q4 : getL (Str.ofString "addrAddr") g4 = some (some (.bytes b4 u4)))
    (F : Fr h₀ L s.heap m) (N : News h₀ L s.heap ((rows, sqObj "list" [.ref r1, .ref r2] cm) :: (o1, instObj 375 d1) :: (d1, dictOf es1 n1) :: (a1, baObj (byteArr l1)) :: (r1, sqObj "list" vs1 c1) :: (o2, instObj 453 d2) :: (d2, dictOf es2 n2) :: (a2, baObj (byteArr l2)) :: (r2, sqObj "list" vs2 c2) :: fixed)) (e2 : m (Str.ofString "rows") = some (.ref rows)) (e3 : m (Str.ofString "ones") = some (.ref ones)) (e4 : m (Str.ofString "fields") = some (.ref fld))
    (St : LSt o1 d1 a1 n1 es1 o2 d2 a2 n2 es2 rows ones fld fixed 4 l1 l2 vs1 vs2 c1 c2 r1 r2 cm)
    (ml : (lst, sqObj "list" vs lc) ∈ fixed) (hi : IntsAre vs ns) (hn : ns.length ≤ 40) (hcl : ∀ q ∈ fixed, q.2.cls ≠ .type "list_iterator")
    (done : ∀ h' m' tk, Fr h₀ L h' m' → News h₀ L h' fixed → Q .next { s with heap := h', toks := tk }) :
    wpAny (model PySem.Challenge.rw_bd5008_01.row.toRowW.prog w) (lawA L) (pyIter (.ref lst)) (fun it s₂ => codeG (model PySem.Challenge.rw_bd5008_01.row.toRowW.prog w) (lawA L) (.forLoop (.Name (Str.ofString "n") pos) it loopBody [] (lawE L)) (fun r s' => match r with | .ok f => Q f s' | .error _ => False) s₂) noE s := by
  have mem : ∀ q ∈ fixed, q ∈ ((rows, sqObj "list" [.ref r1, .ref r2] cm) :: (o1, instObj 375 d1) :: (d1, dictOf es1 n1) :: (a1, baObj (byteArr l1)) :: (r1, sqObj "list" vs1 c1) :: (o2, instObj 453 d2) :: (d2, dictOf es2 n2) :: (a2, baObj (byteArr l2)) :: (r2, sqObj "list" vs2 c2) :: fixed) := fun q hq => .tail _ (.tail _ (.tail _ (.tail _ (.tail _ (.tail _ (.tail _ (.tail _ (.tail _ (hq)))))))))
  refine forG_list (vs := vs) (env := lawE L) (news := ((rows, sqObj "list" [.ref r1, .ref r2] cm) :: (o1, instObj 375 d1) :: (d1, dictOf es1 n1) :: (a1, baObj (byteArr l1)) :: (r1, sqObj "list" vs1 c1) :: (o2, instObj 453 d2) :: (d2, dictOf es2 n2) :: (a2, baObj (byteArr l2)) :: (r2, sqObj "list" vs2 c2) :: fixed)) rfl F N ⟨_, (N _ (mem _ ml)).1, rfl, lc, rfl⟩
    (fun j m' n' => ∃ (l1 l2 : List Int) (vs1 vs2 : List Value) (c1 c2 r1 r2 cm : Nat), n' = ((rows, sqObj "list" [.ref r1, .ref r2] cm) :: (o1, instObj 375 d1) :: (d1, dictOf es1 n1) :: (a1, baObj (byteArr l1)) :: (r1, sqObj "list" vs1 c1) :: (o2, instObj 453 d2) :: (d2, dictOf es2 n2) :: (a2, baObj (byteArr l2)) :: (r2, sqObj "list" vs2 c2) :: fixed) ∧ LSt o1 d1 a1 n1 es1 o2 d2 a2 n2 es2 rows ones fld fixed (4 + 60 * j) l1 l2 vs1 vs2 c1 c2 r1 r2 cm ∧ m' (Str.ofString "rows") = some (.ref rows) ∧ m' (Str.ofString "ones") = some (.ref ones) ∧ m' (Str.ofString "fields") = some (.ref fld))
    ⟨l1, l2, vs1, vs2, c1, c2, r1, r2, cm, rfl, St, e2, e3, e4⟩ ?_ ?_
  · rintro j v m₁ news₁ h₁ tk I o hv ⟨l1, l2, vs1, vs2, c1, c2, r1, r2, cm, rfl, St, e2, e3, e4⟩ ho hne F₁ N₁
    obtain ⟨nn, t, rfl, hx⟩ := hi.at j v hv
    have hj : j < 40 := by
      have := (List.getElem?_eq_some_iff.mp hx).1
      omega
    refine storeX_L F₁ N₁ (fun h2 F2 N2 => ?_)
    have N3 : News h₀ L h2 ((rows, sqObj "list" [.ref r1, .ref r2] cm) :: (o1, instObj 375 d1) :: (d1, dictOf es1 n1) :: (a1, baObj (byteArr l1)) :: (r1, sqObj "list" vs1 c1) :: (o2, instObj 453 d2) :: (d2, dictOf es2 n2) :: (a2, baObj (byteArr l2)) :: (r2, sqObj "list" vs2 c2) :: (I, o) :: fixed) := fun q hq => N2 q (by
      simp only [List.mem_cons] at hq ⊢
      rcases hq with h | h | h | h | h | h | h | h | h | h | h <;> simp [h])
    obtain ⟨hi1, hi2, hr1, hr2, hl1, hl2, z2, z3, z4, z5, z6, z7⟩ := St
    have up : ∀ q ∈ fixed, q ∈ (I, o) :: fixed := fun q hq => .tail _ hq
    have Z := turn_c (s0 := s) (s := { s with heap := h2, toks := tk + 1 }) (fixed := (I, o) :: fixed) (b := 4 + 60 * j) X T B (H17 nn) f1s f2s hk1 hk2 (up _ mo) (up _ mf) (up _ m6) (up _ m7) (up _ m1) (up _ m2) (up _ m3) (up _ m4) (up _ m1') (up _ m2') (up _ m3') (up _ m4') q1 q2 q3 q4
      F2 N3 (if_pos rfl) e2 e3 e4 rfl (by omega)
      ⟨hi1, hi2, hr1, hr2, hl1, hl2, z2, z3, z4, List.forall_mem_cons.mpr ⟨(hne (a1, baObj (byteArr l1)) (by simp)).symm, z5⟩, List.forall_mem_cons.mpr ⟨(hne (a2, baObj (byteArr l2)) (by simp)).symm, z6⟩, List.forall_mem_cons.mpr ⟨(hne (rows, sqObj "list" [.ref r1, .ref r2] cm) (by simp)).symm, z7⟩⟩
    refine wpG_mono Z (fun f s' hf => ?_) fun _ _ x => x
    obtain ⟨rfl, h9, tk9, m9, l1', l2', vs1', vs2', c1', c2', r1', r2', cm', rfl, F9, y2, y3, y4, N9, hi1, hi2, hr1, hr2, hl1, hl2, z2, z3, z4, _, _, _⟩ := hf
    have N8 : News h₀ L h9 ((rows, sqObj "list" [.ref r1', .ref r2'] cm') :: (o1, instObj 375 d1) :: (d1, dictOf es1 n1) :: (a1, baObj (byteArr l1')) :: (r1', sqObj "list" vs1' c1') :: (o2, instObj 453 d2) :: (d2, dictOf es2 n2) :: (a2, baObj (byteArr l2')) :: (r2', sqObj "list" vs2' c2') :: fixed) := fun q hq => N9 q (by
      simp only [List.mem_cons] at hq ⊢
      rcases hq with h | h | h | h | h | h | h | h | h | h <;> simp [h])
    have gI : h9.get? I = some o := (N9 (I, o) (by simp)).1
    dsimp only
    refine LoopEnd.intro (ol := sqObj "list" vs lc) F9 N₁ N9 (.tail _ (.tail _ (.tail _ (.tail _ (.tail _ (.tail _ (.tail _ (.tail _ (.tail _ (.tail _ (ml))))))))))) (by simp [ml]) (fun q hq => by
      simp only [List.mem_cons] at hq ⊢
      rcases hq with h | h | h | h | h | h | h | h | h | h <;> simp [h]) (ne_iter N8 gI ho ?_) (by simp) ⟨l1', l2', vs1', vs2', c1', c2', r1', r2', cm', rfl, ⟨hi1, hi2, hr1, hr2, by omega, by omega, z2, z3, z4, z5, z6, z7⟩, y2, y3, y4⟩
    intro q hq
    simp only [List.mem_cons] at hq
    rcases hq with h | h | h | h | h | h | h | h | h | h
    all_goals first | exact hcl q h | (rw [h]; simp)
  · rintro m₁ news₁ h₁ tk ⟨l1, l2, vs1, vs2, c1, c2, r1, r2, cm, rfl, St, e2, e3, e4⟩ F₁ N₁
    exact done h₁ m₁ tk F₁ fun q hq => N₁ q (.tail _ (.tail _ (.tail _ (.tail _ (.tail _ (.tail _ (.tail _ (.tail _ (.tail _ (hq))))))))))
end Mine

-- L22a
set_option maxHeartbeats 4000000
namespace Mine
open PySem PySem.W PySem.Calls PyProof.Rows
/-- what holds when the law comes to its loop -/
def AtLoop (h₀ : Heap) (L : Addr) (s0 : Shared) (sc : Nat) (s : Shared) : Prop :=
  ∀ P : Prop, (∀ (h : Heap) (tk : Nat) (m : Str → Option Value) (o1 d1 a1 n1 o2 d2 a2 n2 rows ones fld cO nf f1 f2 : Nat) (es1 es2 : List DictEntry) (fixed : List (Addr × Obj)) (l1 l2 : List Int) (vs1 vs2 : List Value) (c1 c2 r1 r2 cm : Nat) (k1 k2 p1 p2 p3 p4 x1 x2 x3 x4 g1n g2n g3n g4n : Nat) (g1 g2 g3 g4 : List DictEntry) (b1 b2 b3 b4 : Array UInt8) (u1 u2 u3 u4 : Tok) (i3 i4 i5 i6 i7 i8 : Int) (t3 t4 t5 t6 t7 t8 : Tok) (j1 j2 j3 j4 j5 : Int) (s1 s2 s3 s4 s5 : Tok),
    s = { s0 with heap := h, toks := tk } → Flds es1 k1 (pduF a1 (.int i3 t3) (.int i4 t4) (.int i5 t5) p1 p2) →
    Flds es2 k2 (npduF a2 (.int i6 t6) (.int i7 t7) (.int i8 t8) p3 p4 (.int j1 s1) (.int j2 s2) (.int j3 s3) (.int j4 s4) (.int j5 s5)) →
    k1 ≤ 100 →
    k2 ≤ 100 →
    (ones, sqObj "list" [.ref o1, .ref o2] cO) ∈ fixed →
    (fld, sqObj "list" [.ref f1, .ref f2] nf) ∈ fixed →
    (f1, ({ cls := .type "tuple", data := .seq #[.bytes b1 u1, .bytes b2 u2, .int i3 t3, .int i4 t4, .int i5 t5] } : Obj)) ∈ fixed →
    (f2, ({ cls := .type "tuple", data := .seq #[.bytes b3 u3, .bytes b4 u4, .int i6 t6, .int i7 t7, .int i8 t8] } : Obj)) ∈ fixed →
    (p1, instObj 325 x1) ∈ fixed →
    (x1, dictOf g1 g1n) ∈ fixed →
    (p2, instObj 325 x2) ∈ fixed →
    (x2, dictOf g2 g2n) ∈ fixed →
    (p3, instObj 325 x3) ∈ fixed →
    (x3, dictOf g3 g3n) ∈ fixed →
    (p4, instObj 325 x4) ∈ fixed →
    (x4, dictOf g4 g4n) ∈ fixed →
    getL (Str.ofString "addrAddr") g1 = some (some (.bytes b1 u1)) →
    getL (Str.ofString "addrAddr") g2 = some (some (.bytes b2 u2)) →
    getL (Str.ofString "addrAddr") g3 = some (some (.bytes b3 u3)) →
    getL (Str.ofString "addrAddr") g4 = some (some (.bytes b4 u4)) →
    Fr h₀ L h m → News h₀ L h ((rows, sqObj "list" [.ref r1, .ref r2] cm) :: (o1, instObj 375 d1) :: (d1, dictOf es1 n1) :: (a1, baObj (byteArr l1)) :: (r1, sqObj "list" vs1 c1) :: (o2, instObj 453 d2) :: (d2, dictOf es2 n2) :: (a2, baObj (byteArr l2)) :: (r2, sqObj "list" vs2 c2) :: fixed) → m (Str.ofString "script") = some (.ref sc) → (m (Str.ofString "rows") = some (.ref rows)) → (m (Str.ofString "ones") = some (.ref ones)) → (m (Str.ofString "fields") = some (.ref fld)) → (LSt o1 d1 a1 n1 es1 o2 d2 a2 n2 es2 rows ones fld fixed 4 l1 l2 vs1 vs2 c1 c2 r1 r2 cm) → (∀ q ∈ fixed, q.2.cls ≠ .type "list_iterator") → P) → P

def preText : { x : List Stmt // lawBody.take 9 = x } := ⟨[_, _, _, _, _, _, _, _, _], rfl⟩
def tailText : { x : Expr × Pos × Pos × Stmt // lawBody.drop 9 = [.For (.Name (Str.ofString "n") x.2.1) x.1 loopBody [] x.2.2.1, x.2.2.2] } := ⟨(_, _, _, _), rfl⟩
abbrev loopList : List Stmt := [.For (.Name (Str.ofString "n") tailText.1.2.1) tailText.1.1 loopBody [] tailText.1.2.2.1, tailText.1.2.2.2]
theorem law_is : lawBody = preText.1 ++ loopList := by
  have e := List.take_append_drop 9 lawBody
  rw [preText.2, tailText.2] at e
  exact e.symm
end Mine

-- L21b
set_option maxHeartbeats 4000000
namespace Mine
open PySem PySem.W PySem.Calls PyProof.Rows
abbrev tup5 (b b' : Array UInt8) (u u' : Tok) (i j k : Int) (t t' t'' : Tok) : Obj := { cls := .type "tuple", data := .seq #[.bytes b u, .bytes b' u', .int i t, .int j t', .int k t''] }
theorem up9 {α : Type} {a b c d e f g i j q : α} {l : List α} (h : q ∈ l) : q ∈ a :: b :: c :: d :: e :: f :: g :: i :: j :: l := .tail _ (.tail _ (.tail _ (.tail _ (.tail _ (.tail _ (.tail _ (.tail _ (.tail _ h))))))))
theorem ne_in {h₀ h : Heap} {L y : Addr} {o2 : Obj} {all : List (Addr × Obj)} {q : Addr × Obj} (N : News h₀ L h all) (h1 : q ∈ all) (h2 : (y, o2) ∈ all) (ho : q.2.cls ≠ o2.cls) : q.1 ≠ y := ne_of_ne (o1 := q.2) N h1 h2 ho
theorem pre_intro {h₀ h : Heap} {L : Addr} {s0 : Shared} {m : Str → Option Value} {all0 : List (Addr × Obj)} {sc tk o1 d1 a1 n1 o2 d2 a2 n2 rows ones fld f1 f2 r1 r2 k1 k2 p1 p2 p3 p4 x1 x2 x3 x4 g1n g2n g3n g4n ls1 ls2 : Nat} {es1 es2 g1 g2 g3 g4 : List DictEntry}
    {b1 b2 b3 b4 : Array UInt8} {u1 u2 u3 u4 : Tok} {i3 i4 i5 i6 i7 i8 j1 j2 j3 j4 j5 : Int} {t3 t4 t5 t6 t7 t8 s1 s2 s3 s4 s5 v1 v2 v3 v4 : Tok} {y1 y2 : List Value} {w1 w2 : Nat}
    (F : Fr h₀ L h m) (e1 : m (Str.ofString "script") = some (.ref sc)) (e2 : m (Str.ofString "rows") = some (.ref rows)) (e3 : m (Str.ofString "ones") = some (.ref ones)) (e4 : m (Str.ofString "fields") = some (.ref fld))
    (N : News h₀ L h ((fld, sqObj "list" [.ref f1, .ref f2] 0) :: (f2, tup5 b3 b4 u3 u4 i6 i7 i8 t6 t7 t8) :: (f1, tup5 b1 b2 u1 u2 i3 i4 i5 t3 t4 t5) :: (rows, sqObj "list" [.ref r1, .ref r2] 0) ::
      (r2, sqObj "list" [.int 2 v2, .int 3 v3, .int 4 v4] 0) :: (r1, sqObj "list" [.int 1 v1] 0) :: (ones, sqObj "list" [.ref o1, .ref o2] 0) :: (a2, baObj (byteArr [2, 3, 4])) :: (o2, instObj 453 d2) :: (d2, dictOf es2 n2) ::
      (p4, instObj 325 x4) :: (x4, dictOf g4 g4n) :: (p3, instObj 325 x3) :: (x3, dictOf g3 g3n) :: (ls2, sqObj "list" y2 w2) :: (a1, baObj (byteArr [1])) :: (o1, instObj 375 d1) :: (d1, dictOf es1 n1) ::
      (p2, instObj 325 x2) :: (x2, dictOf g2 g2n) :: (p1, instObj 325 x1) :: (x1, dictOf g1 g1n) :: (ls1, sqObj "list" y1 w1) :: all0))
    (fl1 : Flds es1 k1 (fun y => if y = Str.ofString "pduNetworkPriority" then some (.int i5 t5) else if y = Str.ofString "pduExpectingReply" then some (.int i4 t4) else if y = Str.ofString "pduDestination" then some (.ref p2) else if y = Str.ofString "pduSource" then some (.ref p1) else if y = Str.ofString "pduUserData" then some (.int i3 t3) else if y = Str.ofString "pduData" then some (.ref a1) else none))
    (fl2 : Flds es2 k2 (fun y => if y = Str.ofString "npduVendorID" then some (.int j5 s5) else if y = Str.ofString "npduNetMessage" then some (.int j4 s4) else if y = Str.ofString "npduHopCount" then some (.int j3 s3) else if y = Str.ofString "npduControl" then some (.int j2 s2) else
      if y = Str.ofString "npduVendorID" then some (.none) else if y = Str.ofString "npduNetMessage" then some (.none) else if y = Str.ofString "npduHopCount" then some (.none) else if y = Str.ofString "npduSADR" then some (.none) else if y = Str.ofString "npduDADR" then some (.none) else if y = Str.ofString "npduControl" then some (.none) else if y = Str.ofString "npduVersion" then some (.int j1 s1) else
      if y = Str.ofString "pduNetworkPriority" then some (.int i8 t8) else if y = Str.ofString "pduExpectingReply" then some (.int i7 t7) else if y = Str.ofString "pduDestination" then some (.ref p4) else if y = Str.ofString "pduSource" then some (.ref p3) else if y = Str.ofString "pduUserData" then some (.int i6 t6) else if y = Str.ofString "pduData" then some (.ref a2) else none))
    (hk1 : k1 ≤ 100) (hk2 : k2 ≤ 100) (q1 : getL (Str.ofString "addrAddr") g1 = some (some (.bytes b1 u1))) (q2 : getL (Str.ofString "addrAddr") g2 = some (some (.bytes b2 u2))) (q3 : getL (Str.ofString "addrAddr") g3 = some (some (.bytes b3 u3))) (q4 : getL (Str.ofString "addrAddr") g4 = some (some (.bytes b4 u4)))
    (z1 : @Ne Nat a1 a2) (z2 : @Ne Nat r1 rows) (z3 : @Ne Nat r2 rows) (z4 : @Ne Nat ones rows) (z5 : @Ne Nat fld rows) :
    AtLoop h₀ L s0 sc { s0 with heap := h, toks := tk } := by
  have N1 : News h₀ L h ((rows, sqObj "list" [.ref r1, .ref r2] 0) :: (o1, instObj 375 d1) :: (d1, dictOf es1 n1) :: (a1, baObj (byteArr [1])) :: (r1, sqObj "list" [.int 1 v1] 0) :: (o2, instObj 453 d2) :: (d2, dictOf es2 n2) :: (a2, baObj (byteArr [2, 3, 4])) :: (r2, sqObj "list" [.int 2 v2, .int 3 v3, .int 4 v4] 0) ::
      [(ones, sqObj "list" [.ref o1, .ref o2] 0), (fld, sqObj "list" [.ref f1, .ref f2] 0), (f1, tup5 b1 b2 u1 u2 i3 i4 i5 t3 t4 t5), (f2, tup5 b3 b4 u3 u4 i6 i7 i8 t6 t7 t8), (p1, instObj 325 x1), (x1, dictOf g1 g1n), (p2, instObj 325 x2), (x2, dictOf g2 g2n), (p3, instObj 325 x3), (x3, dictOf g3 g3n), (p4, instObj 325 x4), (x4, dictOf g4 g4n)]) := fun q hq => N q (by
    simp only [List.mem_cons, List.not_mem_nil, or_false] at hq ⊢
    rcases hq with h | h | h | h | h | h | h | h | h | h | h | h | h | h | h | h | h | h | h | h | h <;> simp [h])
  refine fun P kk => kk h tk m o1 d1 a1 n1 o2 d2 a2 n2 rows ones fld 0 0 f1 f2 es1 es2 _ [1] [2, 3, 4] _ _ 0 0 r1 r2 0 k1 k2 p1 p2 p3 p4 x1 x2 x3 x4 g1n g2n g3n g4n g1 g2 g3 g4 b1 b2 b3 b4 u1 u2 u3 u4 i3 i4 i5 i6 i7 i8 t3 t4 t5 t6 t7 t8 j1 j2 j3 j4 j5 s1 s2 s3 s4 s5 rfl
    ?f1s ?f2s hk1 hk2 ?mo ?mf ?m6 ?m7 ?m1 ?m2 ?m3 ?m4 ?m5 ?m8 ?m9 ?m10 q1 q2 q3 q4 F N1 e1 e2 e3 e4 ?St ?hcl
  case f1s => exact Flds.congr fl1 (fun x => by
      by_cases q0 : x = Str.ofString "pduData"
      · subst q0; rfl
      by_cases q1 : x = Str.ofString "pduSource"
      · subst q1; rfl
      by_cases q2 : x = Str.ofString "pduDestination"
      · subst q2; rfl
      by_cases q3 : x = Str.ofString "pduUserData"
      · subst q3; rfl
      by_cases q4 : x = Str.ofString "pduExpectingReply"
      · subst q4; rfl
      by_cases q5 : x = Str.ofString "pduNetworkPriority"
      · subst q5; rfl
      simp only [if_neg q0, if_neg q1, if_neg q2, if_neg q3, if_neg q4, if_neg q5])
  case f2s => exact Flds.congr fl2 (fun x => by
      by_cases q0 : x = Str.ofString "pduData"
      · subst q0; rfl
      by_cases q1 : x = Str.ofString "pduSource"
      · subst q1; rfl
      by_cases q2 : x = Str.ofString "pduDestination"
      · subst q2; rfl
      by_cases q3 : x = Str.ofString "pduUserData"
      · subst q3; rfl
      by_cases q4 : x = Str.ofString "pduExpectingReply"
      · subst q4; rfl
      by_cases q5 : x = Str.ofString "pduNetworkPriority"
      · subst q5; rfl
      by_cases q6 : x = Str.ofString "npduVersion"
      · subst q6; rfl
      by_cases q7 : x = Str.ofString "npduControl"
      · subst q7; rfl
      by_cases q8 : x = Str.ofString "npduDADR"
      · subst q8; rfl
      by_cases q9 : x = Str.ofString "npduSADR"
      · subst q9; rfl
      by_cases q10 : x = Str.ofString "npduHopCount"
      · subst q10; rfl
      by_cases q11 : x = Str.ofString "npduNetMessage"
      · subst q11; rfl
      by_cases q12 : x = Str.ofString "npduVendorID"
      · subst q12; rfl
      simp only [if_neg q0, if_neg q1, if_neg q2, if_neg q3, if_neg q4, if_neg q5, if_neg q6, if_neg q7, if_neg q8, if_neg q9, if_neg q10, if_neg q11, if_neg q12])
  case mo => simp
  case mf => simp
  case m6 => simp
  case m7 => simp
  case m1 => simp
  case m2 => simp
  case m3 => simp
  case m4 => simp
  case m5 => simp
  case m8 => simp
  case m9 => simp
  case m10 => simp
  case hcl =>
    intro q hq
    simp only [List.mem_cons, List.not_mem_nil, or_false] at hq
    rcases hq with h | h | h | h | h | h | h | h | h | h | h | h <;> (rw [h]; simp)
  case St =>
    refine ⟨.cons _ _ .nil, .cons _ _ (.cons _ _ (.cons _ _ .nil)), by decide, by decide, by decide, by decide, z1, z2, z3, ?_, ?_, ?_⟩
    · intro q hq
      refine ne_in N1 (q := q) (o2 := baObj (byteArr [1])) (up9 hq) (by simp) ?_
      simp only [List.mem_cons, List.not_mem_nil, or_false] at hq
      rcases hq with h | h | h | h | h | h | h | h | h | h | h | h <;> (rw [h]; simp)
    · intro q hq
      refine ne_in N1 (q := q) (o2 := baObj (byteArr [2, 3, 4])) (up9 hq) (by simp) ?_
      simp only [List.mem_cons, List.not_mem_nil, or_false] at hq
      rcases hq with h | h | h | h | h | h | h | h | h | h | h | h <;> (rw [h]; simp)
    · intro q hq
      have uq := hq
      simp only [List.mem_cons, List.not_mem_nil, or_false] at hq
      rcases hq with h | h | h | h | h | h | h | h | h | h | h | h
      · subst h; exact z4
      · subst h; exact z5
      all_goals (refine ne_in N1 (q := q) (o2 := sqObj "list" [.ref r1, .ref r2] 0) (up9 uq) (by simp) ?_; rw [h]; simp)
end Mine

section
namespace Mine
open PySem PySem.W PyProof.Rows
set_option maxHeartbeats 8000000
local macro_rules | `(tactic| size_fits) => `(tactic| exact Nat.le_of_ble_eq_true rfl)
local macro_rules | `(tactic| walk_at "eval Name") => `(tactic| (k_here; k_dflt (refine' nameX_B ?F ?X ?T ?e ?v ?n ?_ ?a ?b; (case a => kernel_rfl!); (case b => kernel_rfl!); (case F => k_asm); (case X => k_asm); (case T => k_asm); (case e => k_is); (case v => first | boot_by_name | kernel_rfl); (case n => decide); k_whole)))
local macro_rules | `(tactic| walk_at "eval Name") => `(tactic| (k_here; k_dflt (refine' nameX_L ?F ?v ?_ ?a ?b; (case a => kernel_rfl!); (case b => kernel_rfl!); (case F => k_asm); (case v => rfl); k_whole)))
local macro_rules | `(tactic| walk_at "call builtin:_struct.pack") => `(tactic| (k_here; (with_reducible show wpAny _ _ (call _ [Value.str _ _, Value.int _ _]) _ _ _); first | refine pack_B (by decide) (by decide) ?_ | refine pack_H (by omega) (by omega) ?_ | refine pack_L (by omega) (by omega) ?_))
local macro_rules | `(tactic| k_enter) => `(tactic| (kp_kind "both"; (refine' enter_both ?k1 ?k2 ?k3 ?k4 ?k5 ?kA ?kF ?kK ?k6 ?k7 ?k8 ?kV ?kX ?kQ ?kM ?kN ?kR ?kP ?kS ?kT ?kB ?_ ?c2 ?c3 ?c4 ?c5; (case kA => exact rfl); (case kF => exact rfl); (case kK => exact rfl); (case k1 => k_asm); (case k2 => k_asm); (case k3 => k_asm); (case k4 => k_asm); (case k5 => k_asm); (case k6 => k_is); (case k7 => k_is); (case k8 => k_room); (case kV => kp_lit); (case kX => kp_lit); (case kQ => exact rfl); (case kM => exact rfl); (case kN => exact rfl); (case kR => exact rfl); (case kP => exact rfl); (case kS => exact fun _ => rfl); (case kT => exact fun _ _ => rfl); (case kB => exact fun _ _ => locs rfl); (case c5 => decide); (case c2 => exact rfl); (case c3 => exact rfl); (case c4 => exact rfl); k_whole; intro C' D' g' L' h' l1 l2 lo' FG' F' N' B' X' T'; (try k_lt l1); (try k_lt2 l2); (simp only [kwEs, List.length_cons, List.length_nil, Nat.zero_add, Nat.reduceAdd] at N'); (try dsimp only); (try k_lift B'); (try k_fold))))
local macro_rules | `(tactic| walk_at "eval Call") => `(tactic| (k_here; (with_reducible show wpAny _ _ (eval (Expr.Call (Expr.Attribute _ _ _) [Expr.Starred _ _] [Keyword.mk none _ _] _) _) _ _ _); refine eval_superSS ?_))
local macro_rules | `(tactic| walk_at "eval Call Attribute") => `(tactic| (k_here; (with_reducible show wpAny _ _ (eval (Expr.Call (Expr.Attribute _ _ _) [Expr.Starred _ _] [Keyword.mk none _ _] _) _) _ _ _); refine eval_superSS ?_))
local macro_rules | `(tactic| walk_at "call type:super") => `(tactic| (k_here; (with_reducible show wpAny _ _ (call (Value.type "super") [Value.ref _, Value.ref _]) _ _ _); k_dflt (refine' call_super2 ?k1 ?k2 ?k3 ?k5 ?k6 ?k7 ?_; (case k1 => k_asm); (case k2 => k_asm); (case k3 => k_asm); (case k5 => k_inst); (case k6 => k_is); (case k7 => k_is); k_whole; intro so' h' F' N' l1; (try k_lt l1))))
local macro_rules | `(tactic| walk_at "getAttr ref") => `(tactic| (k_here; (with_reducible show wpAny _ _ (getAttr (Value.ref _) (Str.ofString "__init__") _) _ _ _); k_dflt (first
  | (refine' superAttr_fn ?k1 ?k2 ?k3 ?k4 ?k5 ?k6 ?k7 ?k8 ?k9 ?_; (case k1 => k_asm); (case k2 => k_asm); (case k3 => k_asm); (case k4 => k_mem); (case k5 => k_inst); (case k6 => k_is); (case k7 => ks_is); (case k8 => k_is); (case k9 => decide); k_whole; intro q' h' F' N' l1; (try k_lt l1))
  | (refine' superAttr_oi ?k1 ?k2 ?k3 ?k4 ?k5 ?k6 ?k7 ?k8 ?_; (case k1 => k_asm); (case k2 => k_asm); (case k3 => k_asm); (case k4 => k_mem); (case k5 => k_mem); (case k6 => k_is); (case k7 => ks_is); (case k8 => k_is); k_whole; intro q' h' F' N' l1; (try k_lt l1)))))
local macro_rules | `(tactic| walk_at "callWith ref") => `(tactic| (k_here; (with_reducible show wpAny _ _ (callWith _ (Value.ref _) _ (backTo _ (starEach [Expr.Starred _ _] _)) (backToKw _ (keywordEach [Keyword.mk none _ _] _))) _ _ _); k_dflt (refine' callWith_SS ?k1 ?k2 ?k3 ?k4 ?k5 ?k6 ?k7 ?k8 ?k9 ?ka ?kb ?kc ?_; (case k1 => k_asm); (case k2 => k_asm); (case k3 => exact nameX_L (by k_asm) rfl ⟨rfl, rfl⟩); (case k4 => exact fun _ _ F _ => nameX_L F rfl ⟨rfl, rfl⟩); (case k5 => k_mem); (case k6 => (simp only [List.length_cons, List.length_nil, sizeLine_eq]; omega)); (case k7 => k_mem); (case k8 => first | exact keyStr_nil | (repeat (first | exact keyStr_nil | refine keyStr_cons ?_))); (case k9 => first | rfl | decide +kernel); (case ka => (simp only [List.length_cons, List.length_nil, sizeLine_eq]; omega)); (case kb => assumption); (case kc => first | exact fun _ _ F N => keeper_meth N (List.Mem.tail _ (by k_mem)) (Frag.In.keeps (by k_asm) (Fr.keep F)) (by k_is) | exact fun _ _ F N => keeper_wrap N (List.Mem.tail _ (by k_mem))); k_whole; intro d' h' F' N' l1; (try k_lt l1); (simp only [kwOf_cons, kwOf_nil, List.nil_append, List.length_cons, List.length_nil] at N' ⊢))))
local macro_rules | `(tactic| walk_at "call ref") => `(tactic| (k_here; (with_reducible show wpAny _ _ (call (Value.ref _) [] []) _ _ _); k_dflt (refine' call_wrap ?k1 ?k2 ?_; (case k1 => k_asm); (case k2 => k_mem))))
local macro_rules | `(tactic| walk_at "eval Name") => `(tactic| (k_here; (with_reducible show wpAny _ _ (eval (Expr.Name (Str.ofString "super") _) _) _ _ _); k_dflt (refine' nameX_B ?F ?X ?T ?e ?v ?n ?_ ?a ?b; (case F => k_asm); (case X => k_asm); (case T => k_asm); (case a => rfl); (case b => rfl); (case e => k_is); (case v => exact boot_super); (case n => decide); k_whole)))
local macro_rules | `(tactic| walk_at "eval Dict nil nil") => `(tactic| (k_here; k_dflt (refine' new_X ?F ?N (TopRead.nolimit (by k_asm)) ?_; (case F => k_asm); (case N => k_asm); k_whole); intro d' h' F' N' l1 lo'; (try k_lt l1); (try k_sweep)))
local macro_rules | `(tactic| walk_at "compareOp In str ref") => `(tactic| (k_here; (with_reducible show wpAny _ _ (compareOp CmpOp.In (Value.str _ _) (Value.ref _)) _ _ _); k_dflt (refine' in_X ?N ?a ?k ?l ?e ?_; (case N => k_asm); (case a => k_mem); (case k => k_keys); (case l => assumption); (case e => k_get); k_whole); (try dsimp only [Option.isSome])))
local macro_rules | `(tactic| walk_at "compareOp NotIn str ref") => `(tactic| (k_here; (with_reducible show wpAny _ _ (compareOp CmpOp.NotIn (Value.str _ _) (Value.ref _)) _ _ _); k_dflt (refine' notin_X ?N ?a ?k ?l ?e ?_; (case N => k_asm); (case a => k_mem); (case k => k_keys); (case l => assumption); (case e => k_get); k_whole); (try dsimp only [Option.isSome, Bool.not])))
local macro_rules | `(tactic| walk_at "subscriptTail") => `(tactic| (k_here; (with_reducible show wpAny _ _ (subscriptTail _ _ (Value.ref _) (Value.str _ _)) _ _ _); k_dflt (refine' item_X ?N ?a ?k ?e ?_; (case N => k_asm); (case a => k_mem); (case k => k_keys); (case e => k_get); k_whole)))
local macro_rules | `(tactic| walk_at "setItem ref str") => `(tactic| (k_here; (with_reducible show wpAny _ _ (setItem (Value.ref _) (Value.str _ _) _) _ _ _); k_dflt (refine' set_X ?F ?N ?U ?k ?e ?z ?_; (case F => k_asm); (case N => k_asm); (case U => k_upd); (case k => k_keys); (case e => k_put); (case z => (simp only [List.length_cons, List.length_nil, sizeLine_eq]; omega)); k_whole); intro h' F' N'; (try k_sweep)))
local macro_rules | `(tactic| walk_at "getMethod ref") => `(tactic| (k_here; (with_reducible show wpAny _ _ (getMethod (Value.ref _) (Str.ofString "get") _) _ _ _); k_dflt (refine' meth_get_X ?N ?a ?_; (case N => k_asm); (case a => k_mem); k_whole)))
local macro_rules | `(tactic| walk_at "call builtin:dict.get") => `(tactic| (k_here; (with_reducible show wpAny _ _ (call _ [Value.ref _, Value.str _ _, _]) _ _ _); k_dflt (refine' get_X ?N ?a ?k ?l ?e ?_; (case N => k_asm); (case a => k_mem); (case k => k_keys); (case l => assumption); (case e => k_get); k_whole); (try dsimp only [Option.getD])))
local macro_rules | `(tactic| walk_at "exec For Name Name cons nil") => `(tactic| (k_here; (with_reducible show wpAny _ _ (exec (Stmt.For (Expr.Name (Str.ofString "kw") _) (Expr.Name (Str.ofString "kwargs") _) _ _ _) _) _ _ _); (rename Fr _ _ _ _ => lF'); (rename News _ _ _ _ => lN'); (with_unfolding_all refine' For_turns lF' ?_); k_whole; k_dflt (refine' nameX_L lF' ?v ?_ ?a ?b; (case a => rfl); (case b => rfl); (case v => rfl)); (with_unfolding_all refine iter_X (by rfl) lF' lN' (by k_mem) (by assumption) (by k_keys) (by (simp only [kwOf_cons, kwOf_nil, List.map_cons, List.map_nil]; decide)) rfl ?_); clear lF' lN'; intro i' l1; (try k_lt l1); simp only [kwOf_cons, kwOf_nil, List.map_cons, List.map_nil]))
local macro_rules | `(tactic| k_get) => `(tactic| assumption)
local macro_rules | `(tactic| walk_at "setAttr ref") => `(tactic| (k_here; (with_reducible show wpAny _ _ (setAttr (Value.ref _) (Str.ofString "pduData") _) _ _ _); k_dflt (refine' set_dict ?k1 ?k2 ?k3 ?k4 ?k5 ?k6 ?k7 ?k8 ?k9 ?k10 ?k11 ?k12 ?k13 ?_; (case k1 => k_asm); (case k2 => k_asm); (case k3 => k_asm); (case k4 => k_inst); (case k5 => exact rfl); (case k6 => k_is); (case k7 => k_is); (case k8 => k_is); (case k9 => k_is); (case k10 => exact some_of_eq (by assumption)); (case k11 => exact put_pair (by assumption)); (case k12 => k_upd); (case k13 => assumption); k_whole; intro h' F' N')))
local macro_rules | `(tactic| k_room) => `(tactic| (show _ < _; (try simp only [depth_deeper, depth_in1]); (try dsimp only); omega))
local macro_rules | `(tactic| k_all) => `(tactic| assumption)
local macro_rules | `(tactic| k_ne) => `(tactic| assumption)
local macro_rules | `(tactic| walk_at "call builtin:len") => `(tactic| (k_here; (with_reducible show wpAny _ _ (call (Value.builtin "len") [Value.ref _]) _ _ _); k_dflt (refine' len_K' ?N ?m ?z ?_; (case N => k_asm); (case m => k_mem); (case z => assumption); k_whole; intro _ _)))
local macro_rules | `(tactic| walk_at "subscriptTail") => `(tactic| (k_here; (with_reducible show wpAny _ _ (subscriptTail _ _ (Value.ref _) (Value.int _ _)) _ _ _); k_dflt (refine' tail0_K ?N ?m ?_ ?s; (case N => k_asm); (case m => k_mem); (case s => with_unfolding_all rfl); k_whole)))
local macro_rules | `(tactic| walk_at "subscriptTail") => `(tactic| (k_here; (with_reducible show wpAny _ _ (subscriptTail _ (Expr.Slice _ _ _ _) (Value.ref _) (Value.ref _)) _ _ _); k_dflt (refine' tailTo_K ?F ?N ?m ?z ?y ?_ ?s; (case F => k_asm); (case N => k_asm); (case m => k_mem); (case s => with_unfolding_all rfl); (case z => assumption); (case y => assumption); k_whole; intro d' h' F' N' l1; (try k_lt l1))))
local macro_rules | `(tactic| walk_at "wpG") => `(tactic| first | (with_reducible refine wpG_execs_nil ?_) | (with_reducible refine wpG_execs_cons ?_) | (with_reducible refine wpG_If ?_) | (with_reducible refine wpG_Delete1 ?_) | (with_reducible refine wpG_AugAssign_AttributeAny ?_))
local macro_rules | `(tactic| walk_at "ite") => `(tactic| first | (rw [if_neg (by first | assumption | (simp; done) | (simp; omega))]) | (rw [if_pos (by first | assumption | (simp; done) | (simp; omega))]))
local macro_rules | `(tactic| walk_at "wpG") => `(tactic| first | (with_reducible refine wpG_spl_nil ?_))
local macro_rules | `(tactic| walk_at "call type:bytes") => `(tactic| (k_here; (with_reducible show wpAny _ _ (call (Value.type "bytes") [Value.ref _]) _ _ _); k_dflt (refine' bytesOf_K ?N ?m ?z ?_; (case N => k_asm); (case m => k_mem); (case z => (simp; omega)); k_whole)))
local macro_rules | `(tactic| walk_at "call builtin:_struct.unpack") => `(tactic| (k_here; k_dflt (first | (refine' unpackH_K ?F ?N ?z ?_; (case F => k_asm); (case N => k_asm); (case z => (simp; omega)); k_whole; intro d' h' n' tk' hn' F' N' l1; (try k_lt l1)) | (refine' unpackL_K ?F ?N ?z ?_; (case F => k_asm); (case N => k_asm); (case z => (simp; omega)); k_whole; intro d' h' n' tk' hn' F' N' l1; (try k_lt l1)))))
local macro_rules | `(tactic| walk_at "wpG") => `(tactic| (k_here; first | (with_reducible show wpG _ _ (call (Value.type "bytes") [Value.ref _]) _ _ _) | (with_reducible show wpG _ _ (call (Value.builtin "_struct.unpack") _) _ _ _); refine wpG_of ?_))
local macro_rules | `(tactic| walk_at "call builtin:isinstance") => `(tactic| (k_here; (with_reducible show wpAny _ _ (call (Value.builtin "isinstance") [Value.ref _, Value.type _]) _ _ _); k_dflt (first | (refine' isiBa_t ?N ?m ?_; (case N => k_asm); (case m => k_mem); k_whole) | (refine' isiBa_f ?N ?m ?t ?_; (case N => k_asm); (case m => k_mem); (case t => first | exact .inl rfl | exact .inr rfl); k_whole))))
local macro_rules | `(tactic| walk_at "call builtin:_struct.pack") => `(tactic| (k_here; first | (with_reducible refine packH_M ?_) | (with_reducible refine packL_M ?_); intro _ _))
local macro_rules | `(tactic| walk_at "call builtin:isinstance") => `(tactic| (k_here; (with_reducible show wpAny _ _ (call (Value.builtin "isinstance") [Value.ref _, Value.ref _]) _ _ _); k_dflt (refine' isiBa_tup ?N ?m ?t ?_; (case N => k_asm); (case m => k_mem); (case t => k_mem); k_whole; intro _)))
local macro_rules | `(tactic| walk_at "leaving ref") => `(tactic| (k_here; first
  | (refine' leave_newX ?k1 ?k0 ?k2 ?k3 ?_; (case k0 => assumption); (case k1 => assumption); (case k2 => assumption); (case k3 => k_asm); k_whole; intro h' R' U'; (try dsimp only at R' U' ⊢))
  | (refine' leave_onNX ?k1 ?k2 ?k3 ?k4 ?_; (case k3 => assumption); (case k1 => assumption); (case k4 => assumption); (case k2 => assumption); k_whole; intro h' R' U'; (try dsimp only at R' U' ⊢))))
local macro_rules | `(tactic| walk_at "pyIter ref") => `(tactic| (k_here; (with_reducible show wpAny _ _ (pyIter (Value.ref _)) (fun it s₂ => TurnsAt _ _ _ _ _ _ _ _ _ it s₂) _ _); (rename Fr _ _ _ _ => lF'); (rename News _ _ _ _ => lN'); (with_unfolding_all refine iter_tupTurns (by rfl) lF' lN' (by k_mem) (by rfl) (by rfl) ?_); clear lF' lN'; intro i' l1; (try k_lt l1)))
local macro_rules | `(tactic| k_lt $h:ident) => `(tactic| (replace $h := allLt_of $h; (simp only [AllLt, and_true] at $h:ident); (repeat (obtain ⟨_, $h⟩ := $h))))
local macro_rules | `(tactic| k_all) => `(tactic| first | assumption | exact List.forall_mem_nil _ | (refine' List.forall_mem_cons.mpr ⟨?a, ?b⟩; (case a => k_ne); (case b => k_all)) | exact allLt_ne (by assumption))
local macro_rules | `(tactic| walk_at "UnrEndW") => `(tactic| (k_here; k_dflt ((refine' unrEnd_one ?F ?N ?o ?_; (case F => k_asm); (case N => k_asm); (case o => k_all)); (try dsimp only); refine ⟨?sub, ?_⟩; (case sub => (repeat (first | exact True.intro | (refine And.intro ?x ?y; (case x => k_mem))))))))
local macro_rules | `(tactic| walk_at "wpG") => `(tactic| (k_here; (with_reducible show wpG _ _ (callWith _ (Value.ref _) _ (backTo _ (starEach [Expr.Starred _ _] _)) (backToKw _ (keywordEach [Keyword.mk none _ _] _))) _ _ _); k_dflt (refine' callGSS ?k1 ?k2 ?k3 ?k4 ?k5 ?k6 ?k7 ?k8 ?k9 ?ka ?kb ?kc ?_; (case k1 => k_asm); (case k2 => k_asm); (case k3 => exact nameX_L (by k_asm) rfl ⟨rfl, rfl⟩); (case k4 => exact fun _ _ F _ => nameX_L F rfl ⟨rfl, rfl⟩); (case k5 => k_mem); (case k6 => (simp only [List.length_cons, List.length_nil, sizeLine_eq]; omega)); (case k7 => k_mem); (case k8 => first | exact keyStr_nil | (repeat (first | exact keyStr_nil | refine keyStr_cons ?_))); (case k9 => first | rfl | decide +kernel); (case ka => (simp only [List.length_cons, List.length_nil, sizeLine_eq]; omega)); (case kb => assumption); (case kc => first | exact fun _ _ F N => keeper_meth N (List.Mem.tail _ (by k_mem)) (Frag.In.keeps (by k_asm) (Fr.keep F)) (by k_is) | exact fun _ _ F N => keeper_wrap N (List.Mem.tail _ (by k_mem))); k_whole; intro d' h' F' N' l1; (try k_lt l1); (simp only [kwOf_cons, kwOf_nil, List.nil_append, List.length_cons, List.length_nil] at N' ⊢))))
local macro_rules | `(tactic| k_get) => `(tactic| first | assumption | exact Flds.at (by assumption) rfl | fail "k_get")
local macro_rules | `(tactic| k_ne) => `(tactic| first | assumption | ((rename News _ _ _ _ => kN); refine' ne_of_ne kN ?m1 ?m2 ?cc; (case m1 => k_mem); (case m2 => k_mem); (case cc => (simp; done))) | fail "k_ne")
local macro_rules | `(tactic| walk_at "setAttr ref") => `(tactic| (k_here; k_dflt (refine' set_flds ?k1 ?k2 ?k3 ?k4 ?k5 ?k6 ?k7 ?k8 ?k9 ?k10 ?k12 ?k13 ?_; (case k1 => k_asm); (case k2 => k_asm); (case k3 => k_asm); (case k4 => k_inst); (case k5 => exact rfl); (case k10 => assumption); (case k6 => k_is); (case k7 => k_is); (case k8 => k_is); (case k9 => k_is); (case k12 => k_updF); (case k13 => exact Nat.le_of_ble_eq_true rfl); k_whole; intro h' es' n' F' N' fl'; (try dsimp only at N'))))

section
theorem w_off87 : True := by
  w_top off
  trivial
local macro_rules | `(tactic| walk_at "none") => `(tactic| fail)
local macro_rules | `(tactic| walk_at "none") => `(tactic| fail)
local macro_rules | `(tactic| walk_at "none") => `(tactic| fail)
local macro_rules | `(tactic| walk_at "none") => `(tactic| fail)
local macro_rules | `(tactic| walk_at "none") => `(tactic| fail)
local macro_rules | `(tactic| walk_at "none") => `(tactic| fail)
local macro_rules | `(tactic| walk_at "none") => `(tactic| fail)
local macro_rules | `(tactic| walk_at "none") => `(tactic| fail)
local macro_rules | `(tactic| walk_at "none") => `(tactic| fail)
local macro_rules | `(tactic| walk_at "none") => `(tactic| fail)
local macro_rules | `(tactic| walk_at "none") => `(tactic| fail)
local macro_rules | `(tactic| walk_at "none") => `(tactic| fail)
local macro_rules | `(tactic| walk_at "none") => `(tactic| fail)
local macro_rules | `(tactic| walk_at "none") => `(tactic| fail)
-- L21

theorem pre_c {w : World} {h₀ : Heap} {L sc : Addr} {mg mb : Str → Option Value} {s : Shared} {p : Program} {loose : List Str} {mean : ExcName → Option Value} {m : Str → Option Value} 
    (X : (MineH.hd.heap_39 w.params).In h₀) (T : Top p loose mean mg mb h₀) (B : Below callerA h₀ [] h₀) (F : Fr h₀ L s.heap m) {all0 : List (Addr × Obj)} (N : News h₀ L s.heap all0) (e1 : m (Str.ofString "script") = some (.ref sc)) :
    wpG (model PySem.Challenge.rw_bd5008_01.row.toRowW.prog w) (lawA L) (execs preText.1 (lawE L)) (Out (AtLoop h₀ L s sc)) noE s := by
  revert X
  k_fill
  intro X
  have F' := Fr.know F e1
  refine wpG_execs_cons ?_
  refine wpG_Assign_Name (wpG_Call_Name ?_)
  repeat (first | (k_unfold; (try dsimp only)) | walk1 | (dsimp only; walk1))
  (refine' callG_KW ?X9 ?k9 ?a9 ?_; (case X9 => exact Frag.In.keeps X (Fr.keep (by k_asm))); (case k9 => k_is); (case a9 => rfl))
  repeat (first | (k_unfold; (try dsimp only)) | walk1 | (dsimp only; walk1))
  (refine' wpG_call (mkPDU5 ?B9 ?F9 ?X9 ?T9 ?N9 ?f9 ?ke9 ?dd9 ?uu9 ?z9 ?_); (case B9 => exact B); (case F9 => k_asm); (case X9 => exact X); (case T9 => exact T); (case N9 => k_asm); (case z9 => (rw [sizeLine_eq]; decide)); (case f9 => exact rfl); (case ke9 => exact rfl); (case dd9 => decide); (case uu9 => decide))
  intro o1 d1 a1 h1 es1 n1 tk1 l1 y1 y2 F1 N1 fl1
  (try k_lt l1)
  dsimp only
  repeat (first | (k_unfold; (try dsimp only)) | walk1 | (dsimp only; walk1))
  refine wpG_Assign_Name (wpG_Call_Name ?_)
  repeat (first | (k_unfold; (try dsimp only)) | walk1 | (dsimp only; walk1))
  (refine' callG_KW ?X9 ?k9 ?a9 ?_; (case X9 => exact Frag.In.keeps X (Fr.keep (by k_asm))); (case k9 => k_is); (case a9 => rfl))
  repeat (first | (k_unfold; (try dsimp only)) | walk1 | (dsimp only; walk1))
  (refine' wpG_call (mkNPDU5 ?B9 ?F9 ?X9 ?T9 ?N9 ?f9 ?ke9 ?dd9 ?uu9 ?z9 ?_); (case B9 => exact B); (case F9 => k_asm); (case X9 => exact X); (case T9 => exact T); (case N9 => k_asm); (case z9 => (rw [sizeLine_eq]; decide)); (case f9 => exact rfl); (case ke9 => exact rfl); (case dd9 => decide); (case uu9 => decide))
  intro o2 d2 a2 h2 es2 n2 tk2 u3 l1 y3 y4 F2 N2 fl2
  (try k_lt l1)
  dsimp only
  repeat (first | (k_unfold; (try dsimp only)) | walk1 | (dsimp only; walk1) | ((with_reducible show wpG _ _ (exec (Stmt.Assign _ _ _) _) _ _ _); refine wpG_of ?_))
  (rename News h₀ L _ _ => kN)
  (rename Fr h₀ L _ _ => kF)
  (rename Flds _ _ _ => kG)
  exact ⟨rfl, pre_intro kF rfl rfl rfl rfl kN fl1 kG (by decide) (by decide) (by first | rfl | k_get) (by first | rfl | k_get) (by first | rfl | k_get) (by first | rfl | k_get) (by omega) (by omega) (by omega) (by omega) (by omega)⟩
-- L22

theorem iter_c {w : World} {h₀ : Heap} {L : Addr} {mg mb : Str → Option Value} {s : Shared} {p : Program} {loose : List Str} {mean : ExcName → Option Value} {m : Str → Option Value} {all : List (Addr × Obj)} {sc : Nat} {vs : List Value} {ns : List Int} {Q : Value → Shared → Prop}
    (X : (MineH.hd.heap_39 w.params).In h₀) (T : Top p loose mean mg mb h₀) (B : Below callerA h₀ [] h₀) (hsc : h₀.IsList sc vs.toArray) (hI : IntsAre vs ns) (h63 : ns.length ≤ 63) (F : Fr h₀ L s.heap m) (N : News h₀ L s.heap all) (e1 : m (Str.ofString "script") = some (.ref sc))
    (k : ∀ (lst : Nat) vs' c h' tk (ns' : List Int), Fr h₀ L h' (fun y => if y = Str.ofString "script" then some (.ref sc) else m y) → News h₀ L h' ((lst, sqObj "list" vs' c) :: all) → (∀ q ∈ all, q.1 < lst) → IntsAre vs' ns' → ns'.length ≤ 40 → Q (.ref lst) { s with heap := h', toks := tk }) :
    wpAny (model PySem.Challenge.rw_bd5008_01.row.toRowW.prog w) (lawA L) (eval tailText.1.1 (lawE L)) Q noE s := by
  revert X
  k_fill
  intro X
  have F' := Fr.know F e1
  (show wpAny _ _ (eval (Expr.IfExp _ _ _ _) _) _ _ _)
  repeat (first | (k_unfold; (try dsimp only)) | walk1 | (dsimp only; walk1))
  · (rename News h₀ L _ _ => kN)
    (rename Fr h₀ L _ _ => kF)
    (rename AllLt _ all => kL)
    have kN' : News h₀ L _ (_ :: all) := fun q hq => kN q (mem_skip hq)
    refine k _ _ _ _ _ _ kF kN' (allLt_all kL) (.cons _ _ (.cons _ _ (.cons _ _ (.cons _ _ (.cons _ _ (.cons _ _ (.cons _ _ (.cons _ _ (.cons _ _ (.cons _ _ (.cons _ _ (.cons _ _ (.cons _ _ .nil))))))))))))) ?_
    exact Nat.le_of_ble_eq_true rfl
  · repeat (first | (k_unfold; (try dsimp only)) | walk1 | (dsimp only; walk1))
    (rename News h₀ L _ _ => kN)
    (rename Fr h₀ L _ _ => kF)
    (rename AllLt _ all => kL)
    have kN' : News h₀ L _ (_ :: all) := fun q hq => kN q (mem_skip hq)
    refine k _ _ _ _ _ _ kF kN' (allLt_all kL) (by assumption) ?_
    omega

theorem ret_c {w : World} {L : Addr} {s : Shared} {Q : Flow → Shared → Prop} (h : Q (.ret (.bool true)) s) :
    wpG (model PySem.Challenge.rw_bd5008_01.row.toRowW.prog w) (lawA L) (execs [tailText.1.2.2.2] (lawE L)) Q noE s := by
  refine wpG_execs_cons (wpG_Return_some (wpG_of ?_))
  (show wpAny _ _ (eval (Expr.Constant _ _ _) _) _ _ _)
  repeat (first | (k_unfold; (try dsimp only)) | walk1 | (dsimp only; walk1))
  exact h
theorem Fr.unknow {h₀ h : Heap} {L : Addr} {m : Str → Option Value} {x : Str} {v : Value} (F : Fr h₀ L h (fun y => if y = x then some v else m y)) (e : m x = some v) : Fr h₀ L h m := by
  have : (fun y => if y = x then some v else m y) = m := by
    funext y
    by_cases q : y = x
    · rw [if_pos q, q, e]
    · rw [if_neg q]
  rw [this] at F; exact F
theorem for_c {w : World} {h₀ : Heap} {L : Addr} {mg mb : Str → Option Value} {s0 s : Shared} {p : Program} {loose : List Str} {mean : ExcName → Option Value} {sc : Nat} {vs : List Value} {ns : List Int} {Q : Flow → Shared → Prop}
    (X : (MineH.hd.heap_39 w.params).In h₀) (T : Top p loose mean mg mb h₀) (B : Below callerA h₀ [] h₀) (hsc : h₀.IsList sc vs.toArray) (hI : IntsAre vs ns) (h63 : ns.length ≤ 63)
    (H17 : ∀ (s : Shared) (rows ones fld : Nat) (nn : Int) (one dx a C n i ro : Nat) (es : List DictEntry) (rest : List (Addr × Obj)) (pick y : Int) (b : Nat) (s' : Shared), ((C = 375 ∧ i = 0) ∨ (C = 453 ∧ i = 1)) → es.length ≤ 1000 → getL (Str.ofString "pduData") es = some (some (.ref a)) → b ≤ 3000 →
      Inv h₀ L s one dx a C n es i ro rows ones fld rest nn pick y 14 b s' → wpG (model PySem.Challenge.rw_bd5008_01.row.toRowW.prog w) (lawA L) (exec blk17.1 (lawE L)) (Out (fun s'' => Inv h₀ L s one dx a C n es i ro rows ones fld rest nn pick y 15 (b + 4) s'')) noE s')
    (I : AtLoop h₀ L s0 sc s) (done : ∀ h' m' tk, Fr h₀ L h' m' → Q (.ret (.bool true)) { s0 with heap := h', toks := tk }) :
    wpG (model PySem.Challenge.rw_bd5008_01.row.toRowW.prog w) (lawA L) (execs loopList (lawE L)) Q noE s := by
  refine I _ ?_
  intro h tk m o1 d1 a1 n1 o2 d2 a2 n2 rows ones fld cO nf f1 f2 es1 es2 fixed l1 l2 vs1 vs2 c1 c2 r1 r2 cm k1 k2 p1 p2 p3 p4 x1 x2 x3 x4 g1n g2n g3n g4n g1 g2 g3 g4 b1 b2 b3 b4 u1 u2 u3 u4 i3 i4 i5 i6 i7 i8 t3 t4 t5 t6 t7 t8 j1 j2 j3 j4 j5 s1 s2 s3 s4 s5 es0 f1s f2s hk1 hk2 mo mf m6 m7 m1 m2 m3 m4 m1' m2' m3' m4' q1 q2 q3 q4 F N e1 e2 e3 e4 St hcl
  subst es0
  refine wpG_execs_cons (wpG_For ?_)
  refine iter_c X T B hsc hI h63 F N e1 ?_
  intro lst vs' c h' tk' ns' F' N' lt i' hn
  have F2 := Fr.unknow F' e1
  obtain ⟨hi1, hi2, hr1, hr2, hl1, hl2, z2, z3, z4, z5, z6, z7⟩ := St
  refine loop_c (fixed := (lst, sqObj "list" vs' c) :: fixed) (l1 := l1) (l2 := l2) (vs1 := vs1) (vs2 := vs2) (c1 := c1) (c2 := c2) (r1 := r1) (r2 := r2) (cm := cm) (o1 := o1) (d1 := d1) (a1 := a1) (n1 := n1) (o2 := o2) (d2 := d2) (a2 := a2) (n2 := n2) (rows := rows) (ones := ones) (fld := fld) X T B (H17 _ rows ones fld) f1s f2s hk1 hk2 (.tail _ mo) (.tail _ mf) (.tail _ m6) (.tail _ m7) (.tail _ m1) (.tail _ m2) (.tail _ m3) (.tail _ m4) (.tail _ m1') (.tail _ m2') (.tail _ m3') (.tail _ m4') q1 q2 q3 q4 F2 (fun q hq => N' q ?_) e2 e3 e4
    ⟨hi1, hi2, hr1, hr2, hl1, hl2, z2, z3, z4, List.forall_mem_cons.mpr ⟨Nat.ne_of_gt (lt (a1, _) (.tail _ (.tail _ (.tail _ (.head _))))), z5⟩, List.forall_mem_cons.mpr ⟨Nat.ne_of_gt (lt (a2, _) (.tail _ (.tail _ (.tail _ (.tail _ (.tail _ (.tail _ (.tail _ (.head _))))))))), z6⟩, List.forall_mem_cons.mpr ⟨Nat.ne_of_gt (lt (rows, _) (.head _)), z7⟩⟩
    (.head _) i' hn (List.forall_mem_cons.mpr ⟨by simp, hcl⟩) ?_
  · simp only [List.mem_cons] at hq ⊢
    rcases hq with h | h | h | h | h | h | h | h | h | h | h <;> simp [h]
  · intro h9 m9 tk9 F9 N9
    exact ret_c (done h9 m9 tk9 F9)
end

end Mine
end

-- L23
namespace Mine
open PySem PySem.W PySem.Calls PyProof.Rows
theorem law_holds : PySem.Challenge.rw_bd5008_01.Holds :=
  ent fun w h₀ L mg mb p loose mean m sc vs ns s Q X T B F e1 hsc hI h63 done => by
    rw [law_is]
    exact app_c (pre_c X T B F (News.nil (h₀ := h₀) (L := L)) e1) fun s' I => for_c X T B hsc hI h63 (fun s rows ones fld nn one dx a C n i ro es rest pick y b s' hCi hes e1 hb I => blk17_c hCi X T B hes e1 hb I) I done
end Mine
open Mine in
theorem PySem.Challenge.cw_bd5008_01_holds : PySem.Challenge.rw_bd5008_01.Holds :=
  law_holds
