import PyProof.Rows.All
import Wide.All
import OpenK.AllK
import Wide.FinOn
import Lean
import PySem.Challenge.RW_fe0235_01
open PySem PySem.W PyProof.Rows
set_option Elab.async false
set_option maxRecDepth 100000

/- part CL1 -/
namespace Mine
open Builtin.Bytes (exported exportsOf checkResize payload payload? write decodersThatHold)

/-- the codes that may hold a bytearray's memory while they stand in the stack -/
def holders : List String := ["bytearray.__contains__", "bytearray.__mod__", "bytearray.__rmod__", "_struct.pack_into.held", "bytearray.find.held"] ++ decodersThatHold
def okCode : Code → Bool
  | .builtin id _ => !holders.contains id
  | _ => true
theorem okCode_id {id : String} (h : holders.contains id = false) (args : Args) : okCode (.builtin id args) = true := by
  show (!holders.contains id) = true
  rw [h]; rfl
def Clean (Γ : Ctx) : Prop := okCode Γ.code = true ∧ ∀ x ∈ Γ.below, okCode x.1 = true

theorem Clean.enter {Γ : Ctx} (h : Clean Γ) {c : Code} (hc : okCode c = true) (hd : Option Value) (p : Pos) : Clean (Γ.enter c hd p) :=
  ⟨hc, fun x hx => by
    rcases List.mem_cons.mp hx with rfl | hx
    · exact h.1
    · exact h.2 x hx⟩
theorem Clean.goto {Γ : Ctx} (h : Clean Γ) {c : Code} (hc : okCode c = true) : Clean (Γ.goto c) := ⟨hc, h.2⟩

/-- what wpAny says, of clean contexts alone -/
def wpC {α : Type} (M : Model) (A : Around) (t : Sem α) (Q : α → Shared → Prop) (E : Value → Shared → Prop) (s : Shared) : Prop :=
  ∀ Γ p, Γ.In A → Clean Γ → Sem.wp M Γ t (fun a _ s' => Q a s') (fun e _ s' => E e s') p s
def codeC (M : Model) (A : Around) (c : Code) (R : Result → Shared → Prop) (s : Shared) : Prop :=
  ∀ Γ p, Γ.code = c → Γ.Below A → Clean Γ → wpCode M Γ R p s

section
variable {α β : Type} {M : Model} {A : Around} {E : Value → Shared → Prop} {s : Shared}
theorem wpC_of {t : Sem α} {Q : α → Shared → Prop} (h : wpAny M A t Q E s) : wpC M A t Q E s := fun Γ p hΓ _ => h Γ p hΓ
theorem codeC_of {c : Code} {R : Result → Shared → Prop} (h : codeAny M A c R s) : codeC M A c R s := fun Γ p hc hΓ _ => h Γ p hc hΓ
theorem wpC_pure {a : α} {Q : α → Shared → Prop} (h : Q a s) : wpC M A (pure a) Q E s := fun _ _ _ _ => h
theorem wpC_mono {t : Sem α} {Q Q' : α → Shared → Prop} {E' : Value → Shared → Prop} (h : wpC M A t Q E s) (hQ : ∀ a s, Q a s → Q' a s) (hE : ∀ e s, E e s → E' e s) : wpC M A t Q' E' s :=
  fun Γ p hΓ hc => Sem.wp_mono M Γ t (fun a _ s => hQ a s) (fun e _ s => hE e s) p s (h Γ p hΓ hc)
theorem wpC_bind {m : Sem α} {f : α → Sem β} {Q : β → Shared → Prop} (h : wpC M A m (fun a s' => wpC M A (f a) Q E s') E s) : wpC M A (m >>= f) Q E s := fun Γ p hΓ hc => by
  rw [Sem.wp_bind']
  exact Sem.wp_mono M Γ m (fun a p' s' h' => h' Γ p' hΓ hc) (fun _ _ _ h' => h') p s (h Γ p hΓ hc)
/-- a part that holds everywhere, then the rest -/
theorem wpC_bindA {m : Sem α} {f : α → Sem β} {Q : β → Shared → Prop} (h : wpAny M A m (fun a s' => wpC M A (f a) Q E s') E s) : wpC M A (m >>= f) Q E s := wpC_bind (wpC_of h)
theorem wpC_holding {vs : List Value} {m : Sem α} {Q : α → Shared → Prop} (h : wpC M A m Q E s) : wpC M A (holding vs m) Q E s :=
  fun Γ p hΓ hc => by rw [Sem.wp_holding]; exact h Γ p hΓ hc
theorem wpC_tryCatch {m : Sem α} {k : Value → Sem α} {Q : α → Shared → Prop} (h : wpC M A m Q (fun e s' => wpC M A (k e) Q E s') s) : wpC M A (tryCatch m k) Q E s := fun Γ p hΓ hc => by
  rw [Sem.wp_tryCatch']
  exact Sem.wp_mono M Γ m (fun _ _ _ h' => h') (fun e p' s' h' => h' Γ p' hΓ hc) p s (h Γ p hΓ hc)
theorem wpC_onRaise {m : Sem α} {k : Value → Sem Unit} {Q : α → Shared → Prop} (h : wpC M A m Q (fun e s' => wpC M A (k e) (fun _ s'' => E e s'') E s') s) : wpC M A (m.onRaise k) Q E s := fun Γ p hΓ hc => by
  rw [Sem.wp_onRaise]
  exact Sem.wp_mono M Γ m (fun _ _ _ h' => h') (fun e p' s' h' => h' Γ p' hΓ hc) p s (h Γ p hΓ hc)
theorem wpC_attempt {m : Sem α} {Q : Except Value α → Shared → Prop} (h : wpC M A m (fun a => Q (.ok a)) (fun e => Q (.error e)) s) : wpC M A m.attempt Q E s := fun Γ p hΓ hc => by rw [Sem.wp_attempt]; exact h Γ p hΓ hc
theorem codeC_mono {c : Code} {R R' : Result → Shared → Prop} (h : codeC M A c R s) (hR : ∀ r s, R r s → R' r s) : codeC M A c R' s := fun Γ p hc hΓ hk => wpCode_mono hR (h Γ p hc hΓ hk)
theorem wpC_run {c : Code} {h : Option Value} {Q : Flow → Shared → Prop} (hc : codeC M (A.mark h) c (fun r s' => match r with | .ok f => Q f s' | .error e => E e s') s) (ok : okCode c = true) (hnb : h ≠ some byPass := by intro x; cases x) : wpC M A (run c h) Q E s :=
  fun Γ p hΓ hk => by rw [Sem.wp_run]; exact hc _ p rfl (hΓ.enter c h p hnb) (hk.enter ok h p)
theorem wpC_runValue {c : Code} {Q : Value → Shared → Prop} (hc : codeC M A c (fun r s' => match r with | .ok (.ret v) => Q v s' | .ok _ => False | .error e => E e s') s) (ok : okCode c = true) : wpC M A (runValue c) Q E s :=
  fun Γ p hΓ hk => by rw [Sem.wp_runValue]; exact hc _ p rfl (hΓ.enter c none p (by intro x; cases x)) (hk.enter ok none p)
theorem wpC_call {f : Value} {pos : List Value} {kw : List (Str × Value)} {Q : Value → Shared → Prop}
    (hc : codeC M A (.call f ⟨pos, kw⟩) (fun r s' => match r with | .ok (.ret v) => Q v s' | .ok _ => False | .error e => E e s') s) : wpC M A (call f pos kw) Q E s := wpC_runValue hc rfl
theorem codeC_of_tree {c : Code} {R : Result → Shared → Prop}
    (h : wpC M (A.under c) (M.den c) (fun fin s' => match fin with | .done f => R (.ok f) s' | .again c' => c'.quiet = true ∧ okCode c' = true ∧ codeC M A c' R s') (fun e s' => R (.error e) s') s) : codeC M A c R s := fun Γ p hc hΓ hk => by
  rw [wpCode_iff_wp, hc]
  refine Sem.wp_mono M Γ _ (fun fin p' s' h' => ?_) (fun _ _ _ h' => h') p s (h Γ p (hc ▸ hΓ.in) hk)
  cases fin with
  | done f => exact h'
  | again c' => exact ⟨h'.1, h'.2.2 (Γ.goto c') p' rfl (hΓ.goto c') (hk.goto h'.2.1)⟩
theorem codeC_loop {c : Code} {R : Result → Shared → Prop} (hq : c.quiet = true) (hok : okCode c = true) (I : Nat → Shared → Prop)
    (turn : ∀ n s, I n s → wpC M (A.under c) (M.den c) (fun fin s' => match fin with | .done f => R (.ok f) s' | .again c' => c' = c ∧ ∃ m, m < n ∧ I m s') (fun e s' => R (.error e) s') s)
    (n : Nat) (h : I n s) : codeC M A c R s := by
  induction n using Nat.strongRecOn generalizing s with
  | ind n ih =>
    refine codeC_of_tree (wpC_mono (turn n s h) (fun fin s' hf => ?_) fun _ _ h' => h')
    cases fin with
    | done f => exact hf
    | again c' => obtain ⟨rfl, m, hm, hI⟩ := hf; exact ⟨hq, hok, ih m hm hI⟩

theorem exported_no {self : Value} {c : Code} {p : Pos} (h : okCode c = true) :
    (match (c, p) with
    | (.builtin "bytearray.__contains__" ⟨v :: _, _⟩, _) | (.builtin "bytearray.__mod__" ⟨v :: _, _⟩, _)
    | (.builtin "bytearray.__rmod__" ⟨_ :: v :: _, _⟩, _) | (.builtin "_struct.pack_into.held" ⟨v :: _, _⟩, _) => Builtin.Bytes.sameRef v self
    | (.builtin "bytearray.find.held" ⟨_ :: _ :: held, _⟩, _) => held.any (Builtin.Bytes.sameRef self)
    | (.builtin id ⟨v :: _, _⟩, _) => Builtin.Bytes.sameRef v self && decodersThatHold.contains id
    | _ => false) = false := by
  split
  all_goals first
    | (rename_i q; cases q; exact absurd h (by decide +kernel))
    | rfl
    | skip
  all_goals (rename_i q; cases q)
  all_goals first
    | (exact absurd h (by simp only [okCode]; decide))
    | skip
  simp only [okCode, holders, Bool.not_eq_true', List.contains_eq_mem, List.mem_append, decide_eq_false_iff_not, not_or] at h
  rw [List.contains_eq_mem, decide_eq_false h.2, Bool.and_false]

theorem wpC_exported {self : Value} {Q : Bool → Shared → Prop} (h : Q false s) : wpC M A (exported self) Q E s := fun Γ p _ hk => by
  show Q (((Γ.code, p) :: Γ.below).any _) s
  rw [List.any_eq_false.mpr fun x hx => ?_]
  · exact h
  · obtain ⟨c, q⟩ := x
    have hc : okCode c = true := by
      rcases List.mem_cons.mp hx with e | hx
      · cases e; exact hk.1
      · exact hk.2 _ hx
    exact Bool.eq_false_iff.mp (exported_no hc)
end
end Mine

/- part CL2 -/
namespace Mine
open Builtin.Bytes (exported exportsOf checkResize payload payload? write decodersThatHold)

section
variable {α : Type} {M : Model} {A : Around} {E : Value → Shared → Prop} {s : Shared}
theorem wpC_if_false {c : Bool} {a b : Sem α} {Q : α → Shared → Prop} (hc : c = false) (h : wpC M A b Q E s) : wpC M A (if c = true then a else b) Q E s := by
  subst hc
  exact h
theorem wpC_if_true {c : Bool} {a b : Sem α} {Q : α → Shared → Prop} (hc : c = true) (h : wpC M A a Q E s) : wpC M A (if c = true then a else b) Q E s := by
  subst hc
  exact h
theorem wpC_eq {t t' : Sem α} {Q : α → Shared → Prop} (e : t = t') (h : wpC M A t' Q E s) : wpC M A t Q E s := e ▸ h
end

section
variable {prog : Program} {w : World} {A : Around} {E : Value → Shared → Prop} {R : Result → Shared → Prop} {s : Shared}
theorem codeC_builtin {id : String} {args : Args} {b : Builtin} (hb : entryFor table id = some b)
    (h : wpC (model prog w) (A.under (.builtin id args)) (b args)
      (fun fin s' => match fin with | .done f => R (.ok f) s' | .again c' => c'.quiet = true ∧ okCode c' = true ∧ codeC (model prog w) A c' R s') (fun e s' => R (.error e) s') s) :
    codeC (model prog w) A (.builtin id args) R s := by
  refine codeC_of_tree ?_
  show wpC _ _ (match entryFor table id with | some b => b args | none => unsupported ((withoutEnding? id "#data").getD id)) _ _ s
  rw [hb]; exact h
theorem codeC_call_builtin {id : String} {args : Args} {b : Builtin} (hq : plainId id = true) (hok : okCode (.builtin id args) = true) (hb : entryFor table id = some b)
    (h : wpAny (model prog w) A.in1 (checkBuiltinCall id args) (fun _ s₁ => wpC (model prog w) A.in1 (b args)
      (fun fin s' => match fin with | .done f => R (.ok f) s' | .again c' => c'.quiet = true ∧ okCode c' = true ∧ codeC (model prog w) A c' R s') (fun e s' => R (.error e) s') s₁)
      (fun e s' => R (.error e) s') s) : codeC (model prog w) A (.call (.builtin id) args) R s := by
  refine codeC_of_tree ?_
  show wpC _ A.in1 (do checkBuiltinCall id args; again (.builtin id args)) _ _ s
  refine wpC_bindA (wpAny_mono h (fun _ s₁ h₁ => wpC_pure ⟨plainId_quiet hq args, hok, codeC_builtin hb ?_⟩) fun _ _ h' => h')
  rw [Around.under_plainId hq args]
  exact h₁

theorem callTypeC {T newId initId : String} {Bi : Builtin} {args : List Value} {Q Q₁ : Value → Shared → Prop} (ft : TypeCalled T newId initId)
    (hct : checkTypeCall T ⟨args, []⟩ = pure ()) (entryI : entryFor table initId = some Bi) (hokI : holders.contains initId = false)
    (hnew : codeAny (model prog w) A.in1 (.call (.builtin newId) ⟨.type T :: args, []⟩) (wants Q₁ E) s)
    (hnext : ∀ obj s₁, Q₁ obj s₁ → s₁.TypeIs obj T ∧ argsOk initId ⟨obj :: args, []⟩ ∧
      wpC (model prog w) A.in1.in1 (Bi ⟨obj :: args, []⟩)
        (fun fin s' => match fin with | .done f => wants (fun r s₂ => r = .none ∧ Q obj s₂) E (.ok f) s' | .again c' => c'.quiet = true ∧ okCode c' = true ∧ codeC (model prog w) A.in1 c' (wants (fun r s₂ => r = .none ∧ Q obj s₂) E) s')
        (fun e s' => wants (fun r s₂ => r = .none ∧ Q obj s₂) E (.error e) s') s₁) :
    wpC (model prog w) A (call (.type T) args) Q E s := by
  obtain ⟨c, tl, hmro⟩ := ft.mro
  have hmade := ft.made
  have hsub := ft.sub
  refine wpC_call (codeC_of_tree ?_)
  show wpC _ _ (callAny (.type T) _) _ _ _
  refine wpC_pure ⟨Code.quiet_builtin _ (by decide +kernel), okCode_id (by decide +kernel) _, codeC_builtin F.entry_type_call ?_⟩
  rw [Around.under_plain (weight_type_call_type T args []) rfl]
  have h1 := ft.notType
  have h2 := ft.canCreate
  unfold Builtin.«type.__call__»
  refine wpC_if_false h1 ?_
  refine wpC_if_false h2 ?_
  refine wpC_bindA (wpAny_of_eq hct ?_)
  refine wpC_bindA (wpAny_of_eq hmro ?_)
  refine wpC_if_false rfl ?_
  refine wpC_bindA (wpAny_of_eq hmade ?_)
  refine wpC_bindA (wpAny_pure ?_)
  refine wpC_bindA (wpAny_holding (wpAny_call ?_))
  refine codeAny_mono hnew fun r s₁ hr => ?_
  cases r with
  | error e => exact hr
  | ok fl =>
    cases fl with
    | ret obj =>
      obtain ⟨hT, hok, hsi⟩ := hnext _ _ hr
      have hli := ft.init.lookup
      have hbi := ft.init.bind obj
      refine wpC_bindA (wpAny_isInstance hT hsub ?_)
      refine wpC_if_false rfl ?_
      refine wpC_bind (wpC_holding ?_)
      unfold callSpecial?
      refine wpC_bindA (wpAny_specialOf hT hli ?_)
      refine wpC_holding ?_
      refine wpC_bindA (wpAny_of_eq hbi ?_)
      refine wpC_bind (wpC_call ?_)
      refine codeC_mono (codeC_call_builtin ft.init.plain (okCode_id hokI _) entryI (ft.init.check _ _ _ _ _ _ _ _ hT hok hsi)) fun r₂ s₂ hr₂ => ?_
      cases r₂ with
      | error e => exact hr₂
      | ok fl₂ =>
        cases fl₂ with
        | ret r =>
          obtain ⟨rfl, hq⟩ := hr₂
          exact wpC_pure (wpC_if_false rfl (wpC_pure hq))
        | _ => exact hr₂.elim
    | _ => exact hr.elim
end
end Mine

/- part CL3 -/
namespace Mine
open Builtin.Bytes (exported exportsOf checkResize payload payload? write decodersThatHold ownRelease slotIsOwn)

theorem ba_mro : mroOf (.type "bytearray") = pure [.type "bytearray", .type "object"] := by rw [mroOf_type]; kernel_rfl
theorem ba_new : typeLookup (.type "bytearray") "__new__" = pure (some (.builtin "bytearray.__new__")) := by rw [typeLookup_type, builtinLookup_eq_fast]; kernel_rfl
theorem ba_sub : isSubtype (.type "bytearray") (.type "bytearray") = pure true := by rw [isSubtype_type]; kernel_rfl
theorem ba_init : Slot "bytearray" "__init__" "bytearray.__init__" :=
  .of (owner := "bytearray") (n := "__init__") (by rw [typeLookup_type, builtinLookup_eq_fast]; kernel_rfl) (by decide +kernel) (by decide +kernel) (by decide +kernel)
    (by first | exact .inl (by decide +kernel) | exact .inr (by decide +kernel)) ba_sub
theorem ba_called : TypeCalled "bytearray" "bytearray.__new__" "bytearray.__init__" :=
  ⟨by decide +kernel, by decide +kernel, ⟨_, _, ba_mro⟩, madeBy_type ba_mro ba_new (by decide +kernel), by decide +kernel, ba_sub, ba_init⟩
theorem ba_typeCall0 : checkTypeCall "bytearray" ⟨[], []⟩ = pure () := by kernel_rfl
theorem ba_typeCall1 (a : Value) : checkTypeCall "bytearray" ⟨[a], []⟩ = pure () := by kernel_rfl
theorem ba_newCall0 : checkBuiltinCall "bytearray.__new__" ⟨[.type "bytearray"], []⟩ = pure () := by kernel_rfl
theorem ba_newCall1 (a : Value) : checkBuiltinCall "bytearray.__new__" ⟨[.type "bytearray", a], []⟩ = pure () := by kernel_rfl
theorem ba_newPlain : plainId "bytearray.__new__" = true := by decide +kernel
theorem ba_newEntry : entryFor table "bytearray.__new__" = some Builtin.«list.__new__» :=
  entryFor_alias (id' := "list.__new__") (by rw [fastTable_eq_tree]; kernel_rfl) (by decide +kernel) (by decide +kernel) (by rw [fastTable_eq_tree]; kernel_rfl)
theorem ba_initEntry : entryFor table "bytearray.__init__" = some Builtin.«bytearray.__init__» := entryFor_of_tree (by kernel_rfl)
theorem ba_release : typeLookup (.type "bytearray") "__release_buffer__" = pure (some (.builtin "bytearray.__release_buffer__")) := by rw [typeLookup_type, builtinLookup_eq_fast]; kernel_rfl
theorem ba_buffer : typeLookup (.type "bytearray") "__buffer__" = pure (some (.builtin "bytearray.__buffer__")) := by rw [typeLookup_type, builtinLookup_eq_fast]; kernel_rfl
theorem by_release : typeLookup (.type "bytes") "__release_buffer__" = pure none := by rw [typeLookup_type, builtinLookup_eq_fast]; kernel_rfl
theorem by_buffer : typeLookup (.type "bytes") "__buffer__" = pure (some (.builtin "bytes.__buffer__")) := by rw [typeLookup_type, builtinLookup_eq_fast]; kernel_rfl
theorem by_index : typeLookup (.type "bytes") "__index__" = pure none := by rw [typeLookup_type, builtinLookup_eq_fast]; kernel_rfl
theorem by_sub : isSubtype (.type "bytes") (.type "bytes") = pure true := by rw [isSubtype_type]; kernel_rfl
theorem ba_bind0 : Builtin.Bytes.bindOptional "bytearray.__init__" "bytearray" ["source", "encoding", "errors"] [] [] = pure [none, none, none] := by kernel_rfl
theorem ba_bind1 (v : Value) : Builtin.Bytes.bindOptional "bytearray.__init__" "bytearray" ["source", "encoding", "errors"] [v] [] = pure [some v, none, none] := by kernel_rfl
theorem ba_argsOk0 (o : Value) : argsOk "bytearray.__init__" ⟨[o], []⟩ := by kernel_rfl
theorem ba_argsOk1 (o a : Value) : argsOk "bytearray.__init__" ⟨[o, a], []⟩ := by kernel_rfl
theorem ba_owner : ("bytearray.__new__".splitOn ".__new__").headD "" = "bytearray" := by rw [PySem.W.split_bytearray]; rfl

abbrev baObj (b : Array UInt8) (n : Nat := 0) : Obj := { cls := .type "bytearray", data := .bytearray b n }

section
variable {prog : Program} {w : World} {A : Around} {E : Value → Shared → Prop} {s : Shared}

theorem ba_new_code (args : List Value) {Q₁ : Value → Shared → Prop} (hc : checkBuiltinCall "bytearray.__new__" ⟨.type "bytearray" :: args, []⟩ = pure ())
    (h : Q₁ (.ref s.heap.objs.size) { s with heap := s.heap.push (baObj #[]) }) :
    codeAny (model prog w) A (.call (.builtin "bytearray.__new__") ⟨.type "bytearray" :: args, []⟩) (wants Q₁ E) s := by
  refine codeAny_of_tree ?_
  show wpAny _ A.in1 (do checkBuiltinCall "bytearray.__new__" ⟨.type "bytearray" :: args, []⟩; again (.builtin "bytearray.__new__" ⟨.type "bytearray" :: args, []⟩)) _ _ s
  refine wpAny_bind (wpAny_of_eq hc (wpAny_pure ⟨plainId_quiet ba_newPlain _, codeAny_builtin_stack ba_newEntry rfl fun p st => ?_⟩))
  rw [Around.under_plainId ba_newPlain _]
  have hsub := ba_sub
  have hown := ba_owner
  obtain ⟨hp, g, d, tk, os⟩ := s
  simp only [hown]
  wp_walk
  exact h

theorem ownRelease_ba {v : Value} {Q : Bool → Shared → Prop} (hT : s.TypeIs v "bytearray") (h : Q false s) : wpAny (model prog w) A (ownRelease v) Q E s := by
  unfold ownRelease slotIsOwn
  refine wpAny_bind (wpAny_bind (wpAny_specialOf hT ba_release ?_))
  refine bm_if_false (by decide +kernel) ?_
  have e : ("bytearray.__release_buffer__".dropRight ("__release_buffer__".length + 1)) = "bytearray" := by decide +kernel
  rw [e]
  exact wpAny_isInstance hT ba_sub (wpAny_pure h)
theorem ownRelease_by {b : Array UInt8} {t : Tok} {Q : Bool → Shared → Prop} (h : Q false s) : wpAny (model prog w) A (ownRelease (.bytes b t)) Q E s := by
  unfold ownRelease slotIsOwn
  exact wpAny_bind (wpAny_bind (wpAny_specialOf (PySem.W.typeIs_bytes _ _ _) by_release (wpAny_pure (wpAny_pure h))))
theorem slotIsOwn_buf_ba {v : Value} {Q : Bool → Shared → Prop} (hT : s.TypeIs v "bytearray") (h : Q true s) : wpAny (model prog w) A (slotIsOwn v "__buffer__") Q E s := by
  unfold slotIsOwn
  refine wpAny_bind (wpAny_specialOf hT ba_buffer ?_)
  refine bm_if_false (by decide +kernel) ?_
  have e : ("bytearray.__buffer__".dropRight ("__buffer__".length + 1)) = "bytearray" := by decide +kernel
  rw [e]
  exact wpAny_isInstance hT ba_sub h
theorem slotIsOwn_buf_by {b : Array UInt8} {t : Tok} {Q : Bool → Shared → Prop} (h : Q true s) : wpAny (model prog w) A (slotIsOwn (.bytes b t) "__buffer__") Q E s := by
  unfold slotIsOwn
  refine wpAny_bind (wpAny_specialOf (PySem.W.typeIs_bytes _ _ _) by_buffer ?_)
  refine bm_if_false (by decide +kernel) ?_
  have e : ("bytes.__buffer__".dropRight ("__buffer__".length + 1)) = "bytes" := by decide +kernel
  rw [e]
  exact wpAny_isInstance (PySem.W.typeIs_bytes _ _ _) by_sub h
theorem payload_ba {a : Addr} {b : Array UInt8} {n : Nat} {o : Obj} {Q : Array UInt8 → Shared → Prop} (ho : s.heap.get? a = some o) (hd : o.data = .bytearray b n) (h : Q b s) : wpAny (model prog w) A (payload (.ref a)) Q E s := by
  unfold payload payload?
  refine wpAny_bind (wpAny_bind (wpAny_load ho ?_))
  rw [hd]
  exact wpAny_pure (wpAny_pure h)
theorem payload_by {b : Array UInt8} {t : Tok} {Q : Array UInt8 → Shared → Prop} (h : Q b s) : wpAny (model prog w) A (payload (.bytes b t)) Q E s := wpAny_bind (wpAny_pure (wpAny_pure h))
theorem buffer_by {id : String} {b : Array UInt8} {t : Tok} {full : Bool} {Q : Option (Array UInt8) → Shared → Prop} (h : Q (some b) s) : wpAny (model prog w) A (Builtin.Bytes.buffer? id (.bytes b t) full) Q E s := by
  unfold Builtin.Bytes.buffer?
  refine wpAny_bind (wpAny_specialOf (PySem.W.typeIs_bytes _ _ _) by_buffer ?_)
  refine wpAny_bind (slotIsOwn_buf_by ?_)
  refine bm_if_false rfl ?_
  refine wpAny_bind (wpAny_specialOf (PySem.W.typeIs_bytes _ _ _) by_buffer ?_)
  refine wpAny_bind (ownRelease_by ?_)
  refine bm_if_false rfl ?_
  exact wpAny_bind (payload_by (wpAny_pure h))
theorem buffer_ba {id : String} {a : Addr} {b : Array UInt8} {n : Nat} {full : Bool} {Q : Option (Array UInt8) → Shared → Prop} (ho : s.heap.get? a = some (baObj b n)) (h : Q (some b) s) : wpAny (model prog w) A (Builtin.Bytes.buffer? id (.ref a) full) Q E s := by
  have hT : s.TypeIs (.ref a) "bytearray" := ⟨_, ho, rfl⟩
  unfold Builtin.Bytes.buffer?
  refine wpAny_bind (wpAny_specialOf hT ba_buffer ?_)
  refine wpAny_bind (slotIsOwn_buf_ba hT ?_)
  refine bm_if_false rfl ?_
  refine wpAny_bind (wpAny_specialOf hT ba_buffer ?_)
  refine wpAny_bind (ownRelease_ba hT ?_)
  refine bm_if_false rfl ?_
  exact wpAny_bind (payload_ba ho rfl (wpAny_pure h))
theorem exportsOf_ba {a : Addr} {b : Array UInt8} {n : Nat} {Q : Nat → Shared → Prop} (ho : s.heap.get? a = some (baObj b n)) (h : Q n s) : wpAny (model prog w) A (exportsOf (.ref a)) Q E s := by
  unfold exportsOf
  exact wpAny_bind (wpAny_load ho (wpAny_pure h))
/-- a store into a bytearray -/
theorem write_ba {a : Addr} {f : Array UInt8 → Array UInt8} {b : Array UInt8} {Q : Unit → Shared → Prop} (ho : s.heap.get? a = some (baObj b)) (hz : (f b).size ≤ sizeLine)
    (h : Q () { s with heap := s.heap.update a (Obj.mapBytearray f) }) : wpAny (model prog w) A (write (.ref a) f) Q E s := by
  show wpAny _ _ (updateBytearray a f) _ _ _
  unfold updateBytearray
  refine wpAny_bind (wpAny_load ho ?_)
  refine wpAny_bind (wpAny_update ho ?_)
  refine wpAny_lookBehind (o := baObj (f b)) (Heap.get?_update_self (Obj.mapBytearray f) ho rfl) ?_ h
  show (if (f b).size > sizeLine then some "bytearray:memory" else none) = none
  rw [if_neg (Nat.not_lt.mpr hz)]
/-- «exported», and the count of those that were lent -/
theorem exported_or {a : Addr} {b : Array UInt8} {Q : Bool → Shared → Prop} (ho : s.heap.get? a = some (baObj b)) (h : Q false s) :
    wpC (model prog w) A (exported (.ref a) <||> (do return (← exportsOf (.ref a)) > 0)) Q E s :=
  wpC_bind (wpC_exported (wpC_of (wpAny_bind (exportsOf_ba ho (wpAny_pure h)))))
theorem checkResize_ba {a : Addr} {b : Array UInt8} {Q : Unit → Shared → Prop} (ho : s.heap.get? a = some (baObj b)) (h : Q () s) : wpC (model prog w) A (checkResize (.ref a)) Q E s := by
  unfold checkResize
  exact wpC_bind (exported_or ho (wpC_if_false rfl (wpC_pure h)))
end
end Mine

/- part CL4 -/
namespace Mine
open Builtin.Bytes (exported exportsOf checkResize payload payload? write decodersThatHold ownRelease slotIsOwn)

theorem ba_okInit : holders.contains "bytearray.__init__" = false := by decide +kernel
theorem ba_okAppend : holders.contains "bytearray.append" = false := by decide +kernel
theorem ba_append : Slot "bytearray" "append" "bytearray.append" :=
  .of (owner := "bytearray") (n := "append") (by rw [typeLookup_type, builtinLookup_eq_fast]; kernel_rfl) (by decide +kernel) (by decide +kernel) (by decide +kernel)
    (by first | exact .inl (by decide +kernel) | exact .inr (by decide +kernel)) ba_sub
theorem ba_appendEntry : entryFor table "bytearray.append" = some Builtin.«bytearray.append» := entryFor_of_tree (by kernel_rfl)
theorem ba_appendArgs (o a : Value) : argsOk "bytearray.append" ⟨[o, a], []⟩ := by kernel_rfl

section
variable {prog : Program} {w : World} {A : Around} {E : Value → Shared → Prop} {s : Shared}

theorem ba_init0 {a : Addr} {R : Fin → Shared → Prop} {E' : Value → Shared → Prop} (ho : s.heap.get? a = some (baObj #[]))
    (h : ∀ h', Heap.SameBut a s.heap h' → h'.get? a = some (baObj #[]) → R (.done (.ret .none)) { s with heap := h' }) :
    wpC (model prog w) A (Builtin.«bytearray.__init__» ⟨[.ref a], []⟩) R E' s := by
  have hT : s.TypeIs (.ref a) "bytearray" := ⟨_, ho, rfl⟩
  unfold Builtin.«bytearray.__init__»
  refine wpC_bindA (ownRelease_ba hT ?_)
  refine wpC_if_false rfl ?_
  refine wpC_bindA (wpAny_of_eq ba_bind0 ?_)
  refine wpC_bindA (wpAny_of_eq (a := ()) rfl ?_)
  refine wpC_bindA (wpAny_of_eq (a := ()) rfl ?_)
  refine wpC_bind (exported_or ho (wpC_if_false rfl ?_))
  refine wpC_bindA (write_ba ho (Nat.zero_le _) ?_)
  refine wpC_bindA (wpAny_pure (wpC_pure ?_))
  exact h _ (Heap.SameBut.update ..) (Heap.get?_update_self (Obj.mapBytearray fun _ => #[]) ho rfl)

theorem ba_init1 {a : Addr} {b : Array UInt8} {t : Tok} {R : Fin → Shared → Prop} {E' : Value → Shared → Prop} (ho : s.heap.get? a = some (baObj #[])) (hz : b.size ≤ sizeLine)
    (h : ∀ h', Heap.SameBut a s.heap h' → h'.get? a = some (baObj b) → R (.done (.ret .none)) { s with heap := h' }) :
    wpC (model prog w) A (Builtin.«bytearray.__init__» ⟨[.ref a, .bytes b t], []⟩) R E' s := by
  have hT : s.TypeIs (.ref a) "bytearray" := ⟨_, ho, rfl⟩
  unfold Builtin.«bytearray.__init__»
  refine wpC_bindA (ownRelease_ba hT ?_)
  refine wpC_if_false rfl ?_
  refine wpC_bindA (wpAny_of_eq (ba_bind1 _) ?_)
  refine wpC_bindA (wpAny_of_eq (a := ()) rfl ?_)
  refine wpC_bindA (wpAny_of_eq (a := ()) rfl ?_)
  refine wpC_bind (exported_or ho (wpC_if_false rfl ?_))
  refine wpC_bindA (write_ba ho (Nat.zero_le _) ?_)
  have ho' := Heap.get?_update_self (Obj.mapBytearray fun _ => #[]) ho rfl
  refine wpC_bindA (wpAny_of_eq (a := none) rfl ?_)
  refine wpC_if_false rfl ?_
  refine wpC_bindA (wpAny_pure ?_)
  refine wpC_bindA (wpAny_specialOf (PySem.W.typeIs_bytes _ _ _) by_index ?_)
  refine wpC_if_false rfl ?_
  refine wpC_bindA (buffer_by ?_)
  refine wpC_bindA (wpAny_rule ?_)
  refine wpC_bindA (write_ba ho' hz (wpC_pure ?_))
  exact h _ ((Heap.SameBut.update ..).trans (Heap.SameBut.update ..)) (Heap.get?_update_self (Obj.mapBytearray fun _ => b) ho' rfl)

variable {h₀ : Heap} {L : Addr} {m : Str → Option Value} {news rest : List (Addr × Obj)}
theorem make_ba0 {Q : Value → Shared → Prop} (F : Fr h₀ L s.heap m) (N : News h₀ L s.heap news)
    (h : ∀ q h', Fr h₀ L h' m → News h₀ L h' ((q, baObj #[]) :: news) → (∀ p ∈ news, p.1 < q) → Q (.ref q) { s with heap := h' }) : wpC (model prog w) A (call (.type "bytearray") []) Q E s := by
  refine callTypeC (Q₁ := fun obj s₁ => obj = .ref s.heap.objs.size ∧ s₁ = { s with heap := s.heap.push (baObj #[]) }) ba_called ba_typeCall0 ba_initEntry ba_okInit
    (ba_new_code [] ba_newCall0 ⟨rfl, rfl⟩) fun obj s₁ h₁ => ?_
  obtain ⟨rfl, rfl⟩ := h₁
  have ho : (s.heap.push (baObj #[])).get? s.heap.objs.size = some (baObj #[]) := Heap.get?_push_size _ rfl
  refine ⟨⟨_, ho, rfl⟩, ba_argsOk0 _, ba_init0 (s := { s with heap := s.heap.push (baObj #[]) }) ho fun h' hs ho' => ⟨rfl, ?_⟩⟩
  exact h _ h' (F.filled hs) (N.filled F hs ho') fun p hp => Heap.lt_size (N p hp).1
theorem make_ba1 {b : Array UInt8} {t : Tok} {Q : Value → Shared → Prop} (F : Fr h₀ L s.heap m) (N : News h₀ L s.heap news) (hz : b.size ≤ sizeLine)
    (h : ∀ q h', Fr h₀ L h' m → News h₀ L h' ((q, baObj b) :: news) → (∀ p ∈ news, p.1 < q) → Q (.ref q) { s with heap := h' }) : wpC (model prog w) A (call (.type "bytearray") [.bytes b t]) Q E s := by
  refine callTypeC (Q₁ := fun obj s₁ => obj = .ref s.heap.objs.size ∧ s₁ = { s with heap := s.heap.push (baObj #[]) }) ba_called (ba_typeCall1 _) ba_initEntry ba_okInit
    (ba_new_code [.bytes b t] (ba_newCall1 _) ⟨rfl, rfl⟩) fun obj s₁ h₁ => ?_
  obtain ⟨rfl, rfl⟩ := h₁
  have ho : (s.heap.push (baObj #[])).get? s.heap.objs.size = some (baObj #[]) := Heap.get?_push_size _ rfl
  refine ⟨⟨_, ho, rfl⟩, ba_argsOk1 _ _, ba_init1 (s := { s with heap := s.heap.push (baObj #[]) }) ho hz fun h' hs ho' => ⟨rfl, ?_⟩⟩
  exact h _ h' (F.filled hs) (N.filled F hs ho') fun p hp => Heap.lt_size (N p hp).1

theorem byteValue_int {i : Int} {t : Tok} {Q : UInt8 → Shared → Prop} (h0 : 0 ≤ i) (h1 : i < 256) (h : Q i.toNat.toUInt8 s) : wpAny (model prog w) A (Builtin.Bytes.byteValue (.int i t)) Q E s := by
  unfold Builtin.Bytes.byteValue
  refine wpAny_bind (wpAny_of_eq (rfl : asIndex (.int i t) = pure i) ?_)
  exact bm_if_false (by simp only [Bool.or_eq_false_iff, decide_eq_false_iff_not]; omega) (wpAny_pure h)

theorem append_ba {a : Addr} {b : Array UInt8} {i : Int} {t : Tok} {Q : Value → Shared → Prop} (F : Fr h₀ L s.heap m) (N : News h₀ L s.heap ((a, baObj b) :: rest)) (hap : ∀ p ∈ rest, p.1 ≠ a)
    (hz : b.size < sizeLine) (h0 : 0 ≤ i) (h1 : i < 256)
    (h : ∀ h', Fr h₀ L h' m → News h₀ L h' ((a, baObj (b.push i.toNat.toUInt8)) :: rest) → Q .none { s with heap := h' }) : wpC (model prog w) A (call (.builtin "bytearray.append") [.ref a, .int i t]) Q E s := by
  have ho : s.heap.get? a = some (baObj b) := (N _ (.head _)).1
  refine wpC_call (codeC_call_builtin ba_append.plain (okCode_id ba_okAppend _) ba_appendEntry (ba_append.check _ _ _ _ _ _ _ _ ⟨_, ho, rfl⟩ (ba_appendArgs _ _) ?_))
  unfold Builtin.«bytearray.append»
  refine wpC_bindA (wpAny_of_eq (a := (Value.ref a, Value.int i t)) rfl ?_)
  refine wpC_bindA (byteValue_int h0 h1 ?_)
  refine wpC_bind (checkResize_ba ho ?_)
  refine wpC_bindA (write_ba ho (by rw [Array.size_push]; omega) (wpC_pure ?_))
  have X := news_upd (pre := []) (f := Obj.mapBytearray fun x => x.push i.toNat.toUInt8) (o' := baObj (b.push i.toNat.toUInt8)) F N (fun _ hp => nomatch hp) hap rfl rfl
  exact h _ X.1 X.2
end
end Mine

/- part CL5 -/
namespace Mine
open Builtin.Bytes (exported exportsOf checkResize payload payload? write decodersThatHold ownRelease slotIsOwn)

theorem ba_reverse : Slot "bytearray" "reverse" "bytearray.reverse" :=
  .of (owner := "bytearray") (n := "reverse") (by rw [typeLookup_type, builtinLookup_eq_fast]; kernel_rfl) (by decide +kernel) (by decide +kernel) (by decide +kernel)
    (by first | exact .inl (by decide +kernel) | exact .inr (by decide +kernel)) ba_sub
theorem ba_len : Slot "bytearray" "__len__" "bytearray.__len__" :=
  .of (owner := "bytearray") (n := "__len__") (by rw [typeLookup_type, builtinLookup_eq_fast]; kernel_rfl) (by decide +kernel) (by decide +kernel) (by decide +kernel)
    (by first | exact .inl (by decide +kernel) | exact .inr (by decide +kernel)) ba_sub
theorem ba_getitem : Slot "bytearray" "__getitem__" "bytearray.__getitem__" :=
  .of (owner := "bytearray") (n := "__getitem__") (by rw [typeLookup_type, builtinLookup_eq_fast]; kernel_rfl) (by decide +kernel) (by decide +kernel) (by decide +kernel)
    (by first | exact .inl (by decide +kernel) | exact .inr (by decide +kernel)) ba_sub
theorem ba_setitem : Slot "bytearray" "__setitem__" "bytearray.__setitem__" :=
  .of (owner := "bytearray") (n := "__setitem__") (by rw [typeLookup_type, builtinLookup_eq_fast]; kernel_rfl) (by decide +kernel) (by decide +kernel) (by decide +kernel)
    (by first | exact .inl (by decide +kernel) | exact .inr (by decide +kernel)) ba_sub
theorem ba_iter : Slot "bytearray" "__iter__" "bytearray.__iter__" :=
  .of (owner := "bytearray") (n := "__iter__") (by rw [typeLookup_type, builtinLookup_eq_fast]; kernel_rfl) (by decide +kernel) (by decide +kernel) (by decide +kernel)
    (by first | exact .inl (by decide +kernel) | exact .inr (by decide +kernel)) ba_sub
theorem bi_next : Slot "bytearray_iterator" "__next__" "bytearray_iterator.__next__" :=
  .of (owner := "bytearray_iterator") (n := "__next__") (by rw [typeLookup_type, builtinLookup_eq_fast]; kernel_rfl) (by decide +kernel) (by decide +kernel) (by decide +kernel)
    (by first | exact .inl (by decide +kernel) | exact .inr (by decide +kernel)) (by rw [isSubtype_type]; kernel_rfl)
theorem bi_iter : Slot "bytearray_iterator" "__iter__" "bytearray_iterator.__iter__" :=
  .of (owner := "bytearray_iterator") (n := "__iter__") (by rw [typeLookup_type, builtinLookup_eq_fast]; kernel_rfl) (by decide +kernel) (by decide +kernel) (by decide +kernel)
    (by first | exact .inl (by decide +kernel) | exact .inr (by decide +kernel)) (by rw [isSubtype_type]; kernel_rfl)
theorem ba_reverseEntry : entryFor table "bytearray.reverse" = some Builtin.«bytearray.reverse» := entryFor_of_tree (by kernel_rfl)
theorem ba_lenEntry : entryFor table "bytearray.__len__" = some Builtin.«bytearray.__len__» := entryFor_of_tree (by kernel_rfl)
theorem ba_getitemEntry : entryFor table "bytearray.__getitem__" = some Builtin.«bytearray.__getitem__» := entryFor_of_tree (by kernel_rfl)
theorem ba_setitemEntry : entryFor table "bytearray.__setitem__" = some Builtin.«bytearray.__setitem__» := entryFor_of_tree (by kernel_rfl)
theorem ba_iterEntry : entryFor table "bytearray.__iter__" = some Builtin.«bytearray.__iter__» := entryFor_of_tree (by kernel_rfl)
theorem bi_nextEntry : entryFor table "bytearray_iterator.__next__" = some Builtin.«bytearray_iterator.__next__» := entryFor_of_tree (by kernel_rfl)
theorem bi_iterEntry : entryFor table "bytearray_iterator.__iter__" = some Builtin.«dict_keyiterator.__iter__» :=
  entryFor_alias (id' := "dict_keyiterator.__iter__") (by rw [fastTable_eq_tree]; kernel_rfl) (by decide +kernel) (by decide +kernel) (by rw [fastTable_eq_tree]; kernel_rfl)
theorem ba_reverseArgs (o : Value) : argsOk "bytearray.reverse" ⟨[o], []⟩ := by kernel_rfl
theorem ba_lenArgs (o : Value) : argsOk "bytearray.__len__" ⟨[o], []⟩ := by kernel_rfl
theorem ba_getitemArgs (o i : Value) : argsOk "bytearray.__getitem__" ⟨[o, i], []⟩ := by kernel_rfl
theorem ba_setitemArgs (o i v : Value) : argsOk "bytearray.__setitem__" ⟨[o, i, v], []⟩ := by kernel_rfl
theorem ba_iterArgs (o : Value) : argsOk "bytearray.__iter__" ⟨[o], []⟩ := by kernel_rfl
theorem bi_nextArgs (o : Value) : argsOk "bytearray_iterator.__next__" ⟨[o], []⟩ := by kernel_rfl
theorem bi_iterArgs (o : Value) : argsOk "bytearray_iterator.__iter__" ⟨[o], []⟩ := by kernel_rfl
theorem ba_getattribute : typeLookup (.type "bytearray") "__getattribute__" = pure (some (.builtin "bytearray.__getattribute__")) := by rw [typeLookup_type, builtinLookup_eq_fast]; kernel_rfl
theorem ba_canon : (Manifest.canonical "bytearray.__getattribute__" != "object.__getattribute__") = false := by decide +kernel
theorem ba_getattr : typeLookup (.type "bytearray") "__getattr__" = pure none := by rw [typeLookup_type, builtinLookup_eq_fast]; kernel_rfl
theorem ty_reverse : typeOf (.builtin "bytearray.reverse") = pure (.type "method_descriptor") := by show builtinType _ = _; rw [builtinType_eq_fast]; kernel_rfl
theorem ty_append : typeOf (.builtin "bytearray.append") = pure (.type "method_descriptor") := by show builtinType _ = _; rw [builtinType_eq_fast]; kernel_rfl

section
variable {M : Model} {A : Around} {E : Value → Shared → Prop} {s : Shared}
theorem bm_if_neg {α : Type} {c : Prop} [Decidable c] {x y : Sem α} {Q : α → Shared → Prop} (hc : ¬ c) (h : wpAny M A y Q E s) : wpAny M A (if c then x else y) Q E s := by
  rw [if_neg hc]
  exact h
theorem getMethod_ba {a : Addr} {b : Array UInt8} {name : Str} {id : String} {pl : Sem Bool} {Q : Value × List Value → Shared → Prop} (ho : s.heap.get? a = some (baObj b)) (slot : Slot "bytearray" name id)
    (ty : typeOf (.builtin id) = pure (.type "method_descriptor")) (h : Q (.builtin id, [.ref a]) s) : wpAny M A (getMethod (.ref a) name pl) Q E s := by
  have hT : s.TypeIs (.ref a) "bytearray" := ⟨_, ho, rfl⟩
  unfold getMethod
  refine wpAny_bind (wpAny_specialOf hT ba_getattribute ?_)
  refine bm_if_false ba_canon ?_
  refine wpAny_bind (wpAny_specialOf hT ba_getattr ?_)
  refine bm_if_false rfl ?_
  refine wpAny_bind (wpAny_specialOf hT slot.lookup ?_)
  refine wpAny_bind (wpAny_of_eq ty ?_)
  refine bm_if_false (by decide) ?_
  refine wpAny_bind (wpAny_loadPart ho ?_)
  exact wpAny_bind (wpAny_rule (wpAny_pure h))
end

section
variable {prog : Program} {w : World} {A : Around} {E : Value → Shared → Prop} {s : Shared} {h₀ : Heap} {L : Addr} {m : Str → Option Value} {news rest : List (Addr × Obj)} {a : Addr} {b : Array UInt8}

theorem reverse_ba {Q : Value → Shared → Prop} (F : Fr h₀ L s.heap m) (N : News h₀ L s.heap ((a, baObj b) :: rest)) (hap : ∀ p ∈ rest, p.1 ≠ a) (hz : b.size ≤ sizeLine)
    (h : ∀ h', Fr h₀ L h' m → News h₀ L h' ((a, baObj b.reverse) :: rest) → Q .none { s with heap := h' }) : wpAny (model prog w) A (call (.builtin "bytearray.reverse") [.ref a]) Q E s := by
  have ho : s.heap.get? a = some (baObj b) := (N _ (.head _)).1
  refine wpAny_call_entry ba_reverse ⟨_, ho, rfl⟩ ba_reverseEntry ?_ (ba_reverseArgs _)
  unfold Builtin.«bytearray.reverse»
  refine wpAny_bind (wpAny_of_eq (a := Value.ref a) rfl ?_)
  refine wpAny_bind (write_ba ho (by rw [Array.size_reverse]; exact hz) (wpAny_pure ⟨_, rfl, ?_⟩))
  have X := news_upd (pre := []) (f := Obj.mapBytearray fun x => x.reverse) (o' := baObj b.reverse) F N (fun _ hp => nomatch hp) hap rfl rfl
  exact h _ X.1 X.2

theorem len_ba {Q : Value → Shared → Prop} (ho : s.heap.get? a = some (baObj b)) (hz : b.size ≤ sizeLine) (h : Q (.int b.size (s.toks + 1)) { s with toks := s.toks + 1 + 1 }) :
    wpAny (model prog w) A (call (.builtin "len") [.ref a]) Q E s := by
  have hT : s.TypeIs (.ref a) "bytearray" := ⟨_, ho, rfl⟩
  have hz' : (b.size : Int) < 2 ^ 63 := by have : sizeLine = 16777216 := rfl; omega
  refine Calls.call_function_entry kind_len plain_len entry_len (args_len1 _) ?_
  unfold Builtin.«len»
  refine wpAny_bind (m := oneArg "len" _) (wpAny_pure ?_)
  refine wpAny_bind (m := callSpecial? (.ref a) (Str.ofString "__len__")) (wpAny_callSpecial?_slot (name := Str.ofString "__len__") hT ba_len
    (wpAny_call_entry ba_len hT ba_lenEntry ?_ (ba_lenArgs _)))
  unfold Builtin.«bytearray.__len__»
  refine wpAny_bind (wpAny_of_eq (a := (Value.ref a, [])) rfl ?_)
  refine wpAny_bind (payload_ba ho rfl (wpAny_bind (wpAny_mkInt (wpAny_pure ⟨_, rfl, ?_⟩))))
  refine wpAny_bind (wpAny_holding (wpAny_of_eq (rfl : asIndex (.int (b.size : Int) s.toks) = pure (b.size : Int)) ?_))
  refine wpAny_bind (wpAny_letGo ?_)
  refine bm_if_neg (by omega) (bm_if_neg (by omega) (wpAny_bind (wpAny_mkInt (wpAny_pure ⟨_, rfl, h⟩))))

theorem subscript_int {i : Int} {t : Tok} {Q : Option Int → Shared → Prop} (hf : Builtin.Bytes.fitsIndex i = true) (h : Q (some i) s) : wpAny (model prog w) A (Builtin.Bytes.subscript? (.int i t)) Q E s := by
  unfold Builtin.Bytes.subscript?
  refine wpAny_bind (wpAny_specialOf (typeIs_int s i t) F.slot_int_index.lookup ?_)
  refine bm_if_false rfl ?_
  refine wpAny_bind (wpAny_of_eq (rfl : asIndex (.int i t) = pure i) ?_)
  exact bm_if_false (by rw [hf]; rfl) (wpAny_pure h)

theorem getItem_ba {i : Int} {k : Nat} {t : Tok} {c : UInt8} {Q : Value → Shared → Prop} (ho : s.heap.get? a = some (baObj b)) (hf : Builtin.Bytes.fitsIndex i = true) (hk : seqIndex? i b.size = some k) (hc : b[k]? = some c)
    (h : Q (.int c.toNat s.toks) { s with toks := s.toks + 1 }) : wpAny (model prog w) A (getItem (.ref a) (.int i t)) Q E s := by
  have hT : s.TypeIs (.ref a) "bytearray" := ⟨_, ho, rfl⟩
  refine wpAny_getItem_slot hT (by decide) ba_getitem (wpAny_call_entry ba_getitem hT ba_getitemEntry ?_ (ba_getitemArgs _ _))
  unfold Builtin.«bytearray.__getitem__»
  refine wpAny_bind (wpAny_of_eq (a := (Value.ref a, [Value.int i t])) rfl ?_)
  refine wpAny_bind (subscript_int hf ?_)
  refine wpAny_bind (payload_ba ho rfl ?_)
  rw [hk, Option.bind_some, hc]
  exact wpAny_bind (wpAny_mkInt (wpAny_pure ⟨_, rfl, h⟩))

theorem setItem_ba {i v : Int} {k : Nat} {t u : Tok} {Q : Unit → Shared → Prop} (F : Fr h₀ L s.heap m) (N : News h₀ L s.heap ((a, baObj b) :: rest)) (hap : ∀ p ∈ rest, p.1 ≠ a) (hz : b.size ≤ sizeLine)
    (hf : Builtin.Bytes.fitsIndex i = true) (hk : seqIndex? i b.size = some k) (h0 : 0 ≤ v) (h1 : v < 256)
    (h : ∀ h', Fr h₀ L h' m → News h₀ L h' ((a, baObj (b.setIfInBounds k v.toNat.toUInt8)) :: rest) → Q () { s with heap := h' }) : wpAny (model prog w) A (setItem (.ref a) (.int i t) (.int v u)) Q E s := by
  have ho : s.heap.get? a = some (baObj b) := (N _ (.head _)).1
  have hT : s.TypeIs (.ref a) "bytearray" := ⟨_, ho, rfl⟩
  unfold setItem
  refine wpAny_holding ?_
  refine wpAny_bind (wpAny_sequenceKey hT (by decide) ?_)
  refine wpAny_bind (wpAny_callSpecial?_slot (name := Str.ofString "__setitem__") hT ba_setitem (wpAny_call_entry ba_setitem hT ba_setitemEntry ?_ (ba_setitemArgs _ _ _)))
  unfold Builtin.«bytearray.__setitem__»
  refine bm_if_false rfl ?_
  refine wpAny_bind (subscript_int hf ?_)
  refine wpAny_bind (byteValue_int h0 h1 ?_)
  refine wpAny_bind (payload_ba ho rfl ?_)
  dsimp only
  rw [hk]
  refine wpAny_bind (write_ba ho (by rw [Array.size_setIfInBounds]; exact hz) (wpAny_pure ⟨_, rfl, wpAny_pure ?_⟩))
  have X := news_upd (pre := []) (f := Obj.mapBytearray fun x => x.setIfInBounds k v.toNat.toUInt8) (o' := baObj (b.setIfInBounds k v.toNat.toUInt8)) F N (fun _ hp => nomatch hp) hap rfl rfl
  exact h _ X.1 X.2

/-- an iterator of a bytearray that stays as it is -/
def IsBaIter (h : Heap) (it a : Addr) (i : Nat) : Prop := ∃ o, h.get? it = some o ∧ o.cls = .type "bytearray_iterator" ∧ o.data = .fields #[.ref a, .int i 0]
theorem IsBaIter.typeIs {s : Shared} {it a : Addr} {i : Nat} (y : IsBaIter s.heap it a i) : s.TypeIs (.ref it) "bytearray_iterator" := let ⟨o, ho, hc, _⟩ := y; ⟨o, ho, hc⟩
theorem pyIter_ba {Q : Value → Shared → Prop} (ho : s.heap.get? a = some (baObj b)) (hQ : Q (.ref s.heap.objs.size) { s with heap := s.heap.push { cls := .type "bytearray_iterator", data := .fields #[.ref a, .int 0 0] } }) : wpAny (model prog w) A (pyIter (.ref a)) Q E s := by
  have hT : s.TypeIs (.ref a) "bytearray" := ⟨_, ho, rfl⟩
  refine wpAny_pyIter_slot hT ba_iter (wpAny_call_entry ba_iter hT ba_iterEntry ?_ (ba_iterArgs _))
  show wpAny _ _ (do ret (← newFields "bytearray_iterator" [.ref a, rawInt 0])) _ _ s
  exact wpAny_bind (wpAny_newObj_type (wpAny_pure ⟨_, rfl, "bytearray_iterator", _, ⟨_, Heap.get?_push_size _ rfl, rfl⟩, bi_next.lookup, hQ⟩))
theorem pyIter_bi {it : Addr} {i : Nat} {Q : Value → Shared → Prop} (hit : IsBaIter s.heap it a i) (h : Q (.ref it) s) : wpAny (model prog w) A (pyIter (.ref it)) Q E s := by
  refine wpAny_pyIter_slot hit.typeIs bi_iter (wpAny_call_entry bi_iter hit.typeIs bi_iterEntry ?_ (bi_iterArgs _))
  show wpAny _ _ (ret (.ref it)) _ _ s
  exact wpAny_pure ⟨_, rfl, "bytearray_iterator", _, hit.typeIs, bi_next.lookup, h⟩
theorem next_ba {it : Addr} {i : Nat} {c : UInt8} {Q : Option Value → Shared → Prop} (hit : IsBaIter s.heap it a i) (ha : s.heap.get? a = some (baObj b)) (hx : b[i]? = some c)
    (hQ : ∀ h', IsBaIter h' it a (i + 1) → Heap.SameBut it s.heap h' → Q (some (.int (c.toNat : Int) s.toks)) { s with heap := h', toks := s.toks + 1 }) : wpAny (model prog w) A (pyNext (.ref it)) Q E s := by
  obtain ⟨o, ho, hc, hd⟩ := id hit
  unfold pyNext
  refine wpAny_bind (wpAny_attempt (wpAny_callSpecial?_slot (name := PySem.Str.ofString "__next__") hit.typeIs bi_next
    (wpAny_call_entry bi_next hit.typeIs bi_nextEntry ?_ (bi_nextArgs _))))
  unfold Builtin.«bytearray_iterator.__next__»
  refine wpAny_bind (wpAny_of_eq (a := (Value.ref it, [])) rfl ?_)
  refine wpAny_bind (wpAny_field ho hd (x := .ref a) rfl ?_)
  refine wpAny_bind (wpAny_load ha ?_)
  refine wpAny_bind (wpAny_field ho hd (x := .int i 0) rfl ?_)
  dsimp only
  rw [Int.toNat_natCast, hx]
  refine wpAny_bind (wpAny_setField ho hd (by simp) (wpAny_bind (wpAny_mkInt (wpAny_pure ⟨_, rfl, wpAny_pure (hQ _ ?_ (Heap.SameBut.update ..))⟩))))
  exact ⟨_, Heap.get?_update_self _ ho (Obj.isFreed_of_fields (Obj.data_mapFields hd _)), (Obj.cls_mapFields ..).trans hc, by
    rw [Obj.data_mapFields hd]; simp [rawInt]⟩
theorem next_ba_end {it : Addr} {i : Nat} {Q : Option Value → Shared → Prop} (hh : A.handled = none) (hit : IsBaIter s.heap it a i) (ha : s.heap.get? a = some (baObj b)) (hx : b[i]? = none)
    (hQ : ∀ h', Heap.ExtBut it s.heap h' → Q none { s with heap := h' }) : wpAny (model prog w) A (pyNext (.ref it)) Q E s := by
  obtain ⟨o, ho, hc, hd⟩ := id hit
  unfold pyNext
  refine wpAny_bind (wpAny_attempt (wpAny_callSpecial?_slot (name := PySem.Str.ofString "__next__") hit.typeIs bi_next
    (wpAny_call_entry bi_next hit.typeIs bi_nextEntry ?_ (bi_nextArgs _))))
  unfold Builtin.«bytearray_iterator.__next__»
  refine wpAny_bind (wpAny_of_eq (a := (Value.ref it, [])) rfl ?_)
  refine wpAny_bind (wpAny_field ho hd (x := .ref a) rfl ?_)
  refine wpAny_bind (wpAny_load ha ?_)
  refine wpAny_bind (wpAny_field ho hd (x := .int i 0) rfl ?_)
  dsimp only
  rw [Int.toNat_natCast, hx]
  refine wpAny_bind (wpAny_rule (wpAny_bind (wpAny_setField ho hd (by simp) ?_)))
  refine wpAny_bind (wpAny_letGo ?_)
  show wpAny _ _ (newExc (.type "StopIteration") [] >>= _) _ _ _
  refine wpAny_bind ?_
  simp only [newExc, newTuple]
  refine wpAny_bind (wpAny_newObj_type ?_ (by size_fits))
  refine wpAny_bind (m := firstArgMember _ _) (wpAny_of_eq (a := Value.none) (by first | rfl | (simp only [firstArgMember]; rfl)) ?_)
  refine wpAny_newObj_type ?_ (by size_fits)
  simp only [raiseNew]
  refine wpAny_bind (wpAny_handled ?_)
  rw [show A.in1.handled = none from hh]
  refine wpAny_bind (wpAny_pure (wpAny_throw ?_))
  refine wpAny_bind (wpAny_isInstance (T := "StopIteration") (b := true) ⟨_, Heap.get?_push_size _ rfl, rfl⟩ isSubtype_stop ?_)
  exact wpAny_pure (hQ _ (((Heap.SameBut.update ..).extBut.push _).push _))

theorem walks_ba {prog : Program} {w : World} {A : Around} (hh : A.handled = none) (I a : Addr) (hIa : a ≠ I) (b : Array UInt8) :
    Walks prog w A I [I, a] [I] b.size (fun i v => ∃ c u, b[i]? = some c ∧ v = .int (c.toNat : Int) u) (fun i h => IsBaIter h I a i ∧ h.get? a = some (baObj b)) where
  sub := fun x hx => by rw [List.mem_singleton.mp hx]; exact .head _
  frame := fun _ _ _ st hk => ⟨let ⟨o, ho, r⟩ := st.1; ⟨o, hk I (by simp) o ho, r⟩, hk a (by simp) _ st.2⟩
  item := fun i s Q E hi st hQ => by
    refine next_ba st.1 st.2 (c := b[i]) (by simp [hi]) fun h' hit' hs' => ?_
    exact hQ _ h' (s.toks + 1) ⟨_, _, by simp [hi], rfl⟩ ⟨hit', (hs'.2 a hIa).trans st.2⟩ fun b o hb e => hs'.extBut b o (fun h => hb (by simp [h])) e
  done := fun s Q E st hQ => next_ba_end hh st.1 st.2 (by simp) fun h' he' => hQ h' s.toks fun b o hb e => he' b o (fun h => hb (by simp [h])) e
  self := fun _ _ _ _ st hQ => pyIter_bi st.1 hQ
end
end Mine

/- part CL6 -/
namespace Mine
open Builtin.Bytes (payload payload?)

theorem ba_bytes : typeLookup (.type "bytearray") "__bytes__" = pure none := by rw [typeLookup_type, builtinLookup_eq_fast]; kernel_rfl
theorem ba_index : typeLookup (.type "bytearray") "__index__" = pure none := by rw [typeLookup_type, builtinLookup_eq_fast]; kernel_rfl

section
variable {prog : Program} {w : World} {A : Around} {E : Value → Shared → Prop} {s : Shared} {h₀ : Heap} {L : Addr} {m : Str → Option Value} {news rest : List (Addr × Obj)} {a : Addr} {b : Array UInt8}

theorem bytes_new_ba {R : Value → Shared → Prop} (ho : s.heap.get? a = some (baObj b)) (hz : b.size ≤ sizeLine) (h : R (.bytes b s.toks) { s with toks := s.toks + 1 }) :
    codeAny (model prog w) A (.call (.builtin "bytes.__new__") ⟨[.type "bytes", .ref a], []⟩) (wants R E) s := by
  have hT : s.TypeIs (.ref a) "bytearray" := ⟨_, ho, rfl⟩
  refine codeAny_of_tree ?_
  show wpAny _ A.in1 (do checkBuiltinCall "bytes.__new__" ⟨[.type "bytes", .ref a], []⟩; again (.builtin "bytes.__new__" ⟨[.type "bytes", .ref a], []⟩)) _ _ s
  refine wpAny_bind (wpAny_of_eq (F.bm_newCall _) (wpAny_pure ⟨plainId_quiet F.bm_plain _, codeAny_builtin F.bm_entry ?_⟩))
  rw [Around.under_plainId F.bm_plain _]
  unfold Builtin.«bytes.__new__»
  refine wpAny_bind (wpAny_of_eq (a := true) rfl ?_)
  refine bm_if_false rfl ?_
  refine wpAny_bind (wpAny_of_eq F.bm_sub ?_)
  refine bm_if_false rfl ?_
  refine wpAny_bind (wpAny_of_eq (F.bm_bind _) ?_)
  refine wpAny_bind (wpAny_of_eq (a := ()) rfl ?_)
  refine wpAny_bind (wpAny_of_eq (a := ()) rfl ?_)
  refine bm_if_false rfl ?_
  refine wpAny_bind (wpAny_specialOf hT ba_bytes ?_)
  refine wpAny_bind (wpAny_bind ?_)
  show wpAny _ _ (load a >>= _) _ _ _
  refine wpAny_bind (wpAny_load ho ?_)
  refine wpAny_pure (wpAny_pure ?_)
  refine bm_if_false rfl ?_
  refine wpAny_bind (wpAny_specialOf hT ba_index ?_)
  refine bm_if_true rfl ?_
  have fin : ∀ {Q' : PySem.Fin → Shared → Prop} {E' : Value → Shared → Prop}, Q' (.done (.ret (.bytes b s.toks))) { s with toks := s.toks + 1 } →
      wpAny (model prog w) A.in1 (Builtin.Bytes.buffer? "bytes.__new__" (.ref a) true >>= fun r => match r with
        | some b => do
          rule "bytes.__new__.bytes-like"
          let held ← mkBytes b
          if (Value.type "bytes" == Value.type "bytes") = true then ret held else ret held
        | none => ret .none) Q' E' s := fun hq =>
    wpAny_bind (buffer_ba ho (wpAny_bind (wpAny_rule (wpAny_bind (wpAny_mkBytes (bm_if_true (by decide) (wpAny_pure hq)) hz)))))
  clear fin
  first
    | show wpAny _ _ (Builtin.Bytes.buffer? "bytes.__new__" (.ref a) true >>= _) _ _ _
    | (refine wpAny_bind ?_; show wpAny _ _ (Builtin.Bytes.buffer? "bytes.__new__" (.ref a) true >>= _) _ _ _)
  refine wpAny_bind (buffer_ba ho ?_)
  refine wpAny_bind (wpAny_rule ?_)
  refine wpAny_bind (wpAny_mkBytes ?_ hz)
  show wpAny _ _ (if (Value.type "bytes" == Value.type "bytes") = true then _ else _) _ _ _
  refine bm_if_true (by decide) ?_
  first
    | exact wpAny_pure h
    | exact wpAny_bind (wpAny_pure (wpAny_pure h))

theorem bytes_ba {Q : Value → Shared → Prop} (ho : s.heap.get? a = some (baObj b)) (hz : b.size ≤ sizeLine) (h : Q (.bytes b s.toks) { s with toks := s.toks + 1 }) : wpAny (model prog w) A (call (.type "bytes") [.ref a]) Q E s := by
  refine callType_codes (Q₁ := fun obj s₁ => s₁.TypeIs obj "bytes" ∧ Q obj s₁) F.bm_called (F.bm_typeCall _) F.entry_object_init (bytes_new_ba ho hz ⟨PySem.W.typeIs_bytes _ _ _, h⟩) fun obj s₁ h₁ => ?_
  exact ⟨h₁.1, F.args_object_init_2 obj _, object_init_meets F.bm_called.init.lookup F.bm_called.made (by decide) prog w A.in1 _ s₁ ⟨h₁.1, rfl, h₁.2⟩⟩

theorem slice_get_ba {sl : Addr} {i : Int} {t : Tok} {Q : Value → Shared → Prop} (ho : s.heap.get? a = some (baObj b)) (hz : b.size ≤ sizeLine) (hs : s.heap.IsSliceOf sl (.int i t) .none .none)
    (h : Q (.ref s.heap.objs.size) { s with heap := s.heap.push (baObj (KBy.picked b (some i) none)) }) : wpAny (model prog w) A (getItem (.ref a) (.ref sl)) Q E s := by
  have hT : s.TypeIs (.ref a) "bytearray" := ⟨_, ho, rfl⟩
  obtain ⟨o, hso, hc, hd⟩ := hs
  have hTs : s.TypeIs (.ref sl) "slice" := ⟨o, hso, hc⟩
  refine wpAny_getItem_slot hT (by decide) ba_getitem (wpAny_call_entry ba_getitem hT ba_getitemEntry ?_ (ba_getitemArgs _ _))
  unfold Builtin.«bytearray.__getitem__»
  refine wpAny_bind (wpAny_of_eq (a := (Value.ref a, [Value.ref sl])) rfl ?_)
  refine wpAny_bind ?_
  unfold Builtin.Bytes.subscript?
  refine wpAny_bind (wpAny_specialOf hTs slice_no_index (wpAny_pure ?_))
  refine wpAny_bind (wpAny_typeOf hTs ?_)
  refine bm_if_false rfl ?_
  refine wpAny_bind ?_
  unfold Builtin.Bytes.sliceParts
  refine wpAny_bind (wpAny_field (x := .none) hso hd rfl ?_)
  refine wpAny_bind (wpAny_pure ?_)
  refine bm_if_false rfl ?_
  refine wpAny_bind (wpAny_field (x := .int i t) hso hd rfl ?_)
  refine wpAny_bind ?_
  refine bm_if_false rfl ?_
  refine wpAny_bind (wpAny_specialOf (typeIs_int s i t) F.slot_int_index.lookup ?_)
  refine bm_if_false rfl ?_
  refine wpAny_bind (wpAny_of_eq (rfl : asIndex (.int i t) = pure i) (wpAny_pure ?_))
  refine wpAny_bind (wpAny_field (x := .none) hso hd rfl ?_)
  refine wpAny_bind (wpAny_pure ?_)
  refine wpAny_pure ?_
  refine wpAny_bind (payload_ba ho rfl ?_)
  have e := sliceIndices_raw (some i) none none b.size (fun e => nomatch e)
  refine wpAny_bind (wpAny_of_eq e ?_)
  refine wpAny_bind ?_
  unfold Builtin.Bytes.newBytearray
  refine wpAny_newObj_type ?_ (by
    show (KBy.picked b (some i) none).size ≤ sizeLine
    exact Nat.le_trans (KBc.size_picked_le b _ _) hz)
  exact wpAny_pure ⟨_, rfl, h⟩

theorem slice_ba {value slice : PySem.Expr} {i : Int} {t : Tok} {Q : Value → Shared → Prop} (F : Fr h₀ L s.heap m) (N : News h₀ L s.heap news) (hm : (a, baObj b) ∈ news) (hz : b.size ≤ sizeLine)
    (h : ∀ q h', Fr h₀ L h' m → News h₀ L h' ((q, baObj (KBy.picked b (some i) none)) :: news) → (∀ p ∈ news, p.1 < q) → Q (.ref q) { s with heap := h' })
    (hs : subscripted slice false (.ref a) (.ref s.heap.objs.size) = operate [.ref s.heap.objs.size, .ref a] (getItem (.ref a) (.ref s.heap.objs.size)) := by with_unfolding_all rfl) :
    wpAny (model prog w) A (subscriptTail value slice (.ref a) (.ref s.heap.objs.size)) Q E { s with heap := s.heap.push { cls := .type "slice", data := .fields #[.int i t, .none, .none] } } := by
  have ho : (s.heap.push { cls := .type "slice", data := .fields #[.int i t, .none, .none] }).get? a = some (baObj b) := Heap.get?_push_of_some _ (N _ hm).1
  have hT : ({ s with heap := s.heap.push { cls := .type "slice", data := .fields #[.int i t, .none, .none] } } : Shared).TypeIs (.ref a) "bytearray" := ⟨_, ho, rfl⟩
  have N' := News.pushKeep N { cls := .type "slice", data := .fields #[.int i t, .none, .none] }
  have F' := F.push { cls := .type "slice", data := .fields #[.int i t, .none, .none] }
  refine tail_any hT ba_getitem.lookup (slice_get_ba (s := { s with heap := _ }) (i := i) (t := t) ho hz (Heap.IsSliceOf.new _ _ _ _) ?_) hs
  exact h _ _ (F'.push _) (N'.push F' _) fun p hp => Heap.lt_size (N' p hp).1
end
end Mine

/- part CL7 -/
namespace Mine
open PySem.Calls

/-- the very context in which the law is called -/
def Γ₀ : Ctx := ⟨.builtin "claim.caller" {}, none, none, [], none⟩
theorem clean₀ : Clean Γ₀ := ⟨by decide +kernel, fun _ h => nomatch h⟩

theorem ends_both {prog : Program} {w : World} {t : Sem PySem.Fin} {s : Shared} {R : Result → Shared → Prop} (hreg : s.asleep)
    (h : wpC (model prog w) callerA t (fun fin s' => ∃ f, fin = .done f ∧ (R (.ok f) s' ∧ leftWithCleanup s'.gens = false)) (fun e s' => R (.error e) s' ∧ leftWithCleanup s'.gens = false) s) :
    ∃ n r s' s'', runN (denote table) prog w n s ⟨t, .builtin "claim.caller" {}, default, []⟩ = .halted (outcomeOf r) s' ∧
      schedN (denote table) prog w n (.single s ⟨t, .builtin "claim.caller" {}, default, []⟩) = .halted (outcomeOf r) s' ∧ s'.forget = s''.forget ∧ R r s'' := by
  have go : Sem.wp (model prog w) Γ₀ t (Sem.finPost (model prog w) Γ₀ fun r s' => R r s' ∧ leftWithCleanup s'.gens = false) (fun e _ s' => R (.error e) s' ∧ leftWithCleanup s'.gens = false) default s :=
    Sem.wp_mono _ _ t (fun fin p' s' h' => by obtain ⟨f, rfl, hf⟩ := h'; exact hf) (fun _ _ _ h' => h') default s (h Γ₀ default caller_in clean₀)
  obtain ⟨n, r, s₁, s₂, hs, hn, hfo, hR⟩ := wp_halts_full (M := model prog w) (R := R) hreg go
  exact ⟨n, r, s₂, s₁, hn, hs, hfo, hR⟩

/-- what the walk of the law's call must show, of clean contexts -/
abbrev WalkC (q : Program) (loose : List Str) (XP : (Str → Option Value) → Heap → Prop) (YP : World → Heap → Prop) (r : RowW) (d : DefRec) (kwd : List (Str × Expr)) : Prop :=
  ∀ (w : World) (s₀ s₁ : Shared) (mg mb : Str → Option Value), Ground q loose r.records XP w s₀ mg mb s₁.heap → YP w s₁.heap → ∀ (a : Addr) (o : Obj) (pm cd doc dV kV : Value), s₁.heap.get? a = some o →
    o.data = .func { docDef d.name d.params d.body d.scope pm cd doc with defaults := dV, kwdefaults := kV } → s₁.heap.CodeRec cd d.name → Dflts mg s₁.heap d.params kwd dV kV → mg d.name = some (.ref a) → s₁.gens = #[] →
    ∀ (args : List WData) (vals : List Value) (as : List Addr), r.claim.pre args = true → WData.layableAll args = true → ReadsAllW r.records (classAt s₀.heap) s₁.heap vals args as → WellAll w.params s₁.heap vals args → (∀ a ∈ as, (a == sysModules) = false) →
      wpC (model r.prog w) callerA (PySem.call (.ref a) vals) (fun v s' => GoodWG r.claim (classAt s₀.heap) (ExcName.means s₀.heap) args s₁ (.ok (.ret v)) s')
        (fun e s' => GoodWG r.claim (classAt s₀.heap) (ExcName.means s₀.heap) args s₁ (.error e) s') s₁

/-- the head's last step, over the walk in clean contexts (o_head finds it by its name in this namespace) -/
theorem PySem.W.holds_open {r : OpenRow} {q : Program} {loose : List Str} {Xt : Shared → Bool} {XP : (Str → Option Value) → Heap → Prop} {α : Type} {Yf : Shared → α} {Ya : World → α} {YP : World → Heap → Prop} {d : DefRec} {kwd : List (Str × Expr)} {N : Nat}
    (left : LeftO r.prog q loose Xt Yf Ya N) (hY : ∀ w s, Yf s = Ya w → YP w s.heap) (hYk : ∀ w h h', YP w h → (∀ b o, h.get? b = some o → h'.get? b = some o) → YP w h')
    (hX : ∀ s, Xt s = true → XP (s.heap.nsMap mainGlobals) s.heap) (hXk : ∀ mg h h', XP mg h → (∀ b o, h.get? b = some o → h'.get? b = some o) → XP mg h')
    (hdef : defOf q r.name = some (d, kwd)) (hp : r.prog.theDef r.name = some (d.params, d.body, d.scope)) (hk : kwWritten? d.params.kwonlyargs d.params.kw_defaults = some kwd) (hRf : ∀ s, Xt s = true → RecFacts r.records s.heap) (hwr : (!r.writes || r.records.isEmpty) = true)
    (k1 : r.wellSaid = true) (ok : (chainsOk q && opensWell r.prog && (frees r.toRowW && r.within.isEmpty)) = true) (hb : r.prog.bare) (hw : r.toRowW.promised)
    (call : WalkC q loose XP YP r.toRowW d kwd) : r.Holds := by
  obtain ⟨ok, k5⟩ := Bool.and_eq_true_iff.mp ok
  obtain ⟨hch, o1⟩ := Bool.and_eq_true_iff.mp ok
  obtain ⟨k5, k6⟩ := Bool.and_eq_true_iff.mp k5
  obtain ⟨hsame, hu, ha, hap, hm⟩ := frees_parts k5
  refine ⟨k1, hw, ⟨hb, o1, by show r.toRowW.makers.map _ = []; rw [hm]; rfl⟩, hw.witness, fun w => ⟨(left.behind hX hch w).1, fun s' hs' => ?_⟩⟩
  obtain ⟨s₀, hf, hg0, s, hT, hz, hgens, hg, G00, y⟩ := (left.behind (XP := fun mg h => XP mg h ∧ RecFacts r.records h) (fun s hs => ⟨hX s hs, hRf s hs⟩) hch w).2 s' hs'
  have G0 : Ground q loose [] XP w s (s.heap.nsMap mainGlobals) (s.heap.nsMap builtinsNs) s.heap := ⟨G00.T, G00.B, G00.D, G00.TE, G00.TD, G00.W, G00.X.1, G00.cls, G00.has, G00.apart, G00.once, G00.K⟩
  have RF := G00.X.2
  have hT' := hT
  refine ⟨s₀, hf, hg0, s, hT, fun n hn => ?_, RF.1, RF.2.1, fun args hpre hlay ord hord => ?_⟩
  · obtain rfl : n = r.name := by split at hn <;> simp_all
    exact pinned_of_view hg G0 hdef hp hk
  have hgens : s.gens = #[] := Array.eq_empty_of_size_eq_zero (beq_iff_eq.mp hgens)
  have G : Ground q loose r.records XP w s _ _ s.heap := RF.ground G0
  obtain ⟨⟨vs, s₁⟩, hlaid⟩ := Option.isSome_iff_exists.mp (layAllW_isSome (P := w.params) (ord := ord) G.has args r.toRowW.args s (pre_splitW hpre).1)
  have keeps := layAllW_keeps _ _ _ hlaid
  have hal := layAllW_rest _ _ _ hlaid
  obtain ⟨as, hrd, hin, hold⟩ := reads_layAllW hord _ _ _ hlaid hlay s₁.heap (fun _ _ e => e)
  have L : Laid r.records w s s₁ args vs as := ⟨⟨ord, hord, hlaid⟩, hrd, hin, hold, keeps, hal.1.trans hgens, hal.2.2.1⟩
  have G₁ := G.keeps hXk keeps
  obtain ⟨a, o, pm, cd, doc, dV, kV, h1, h2, h3, h4, h5⟩ := G₁.fn hdef
  have h := call w s s₁ _ _ G₁ (hYk _ _ _ (hY w s y) keeps) a o pm cd doc dV kV h2 h3 h4 h5 (defOf_name hdef ▸ h1) L.gens args vs as hpre hlay L.reads L.well (L.low G.low)
  have hi := ident_freeW hu ha hap
  have hwi : r.toRowW.claim.within = [] := List.isEmpty_iff.mp k6
  have post : ∀ (res : Result) (s' : Shared), GoodWG r.toRowW.claim (classAt s.heap) (ExcName.means s.heap) args s₁ res s' →
      (r.toRowW.claim.Ends s args vs s₁ res s' ∧ s'.os = s.os ∧ (r.writes = true → namesKept r.prog r.keeps s.heap s'.heap ∧ ∀ x ∈ r.records, ∀ a, classAt s.heap x.1 = some a → recordClass s'.heap a x.1 (x.2.map (·.1)) = true)) ∧
        leftWithCleanup s'.gens = false := fun res s' g => by
    have z := g.laid (c := r.toRowW.claim) hsame hwi hi L
    exact ⟨⟨z.1, z.2.1, fun q => ⟨namesKept_of hT' hg r.keeps keeps g.2.1.old, noTable hwr q⟩⟩, leftWithCleanup_false_of_bare z.2.2⟩
  have run : wpC (model r.prog w) callerA (do match ← nsGet mainNs r.name with
      | some f => do ret (← PySem.call f vs)
      | none => unsupported "claim.caller:no-such-global" : Sem PySem.Fin)
      (fun fin s' => ∃ f, fin = .done f ∧ ((r.toRowW.claim.Ends s args vs s₁ (.ok f) s' ∧ s'.os = s.os ∧ (r.writes = true → namesKept r.prog r.keeps s.heap s'.heap ∧ ∀ x ∈ r.records, ∀ a, classAt s.heap x.1 = some a → recordClass s'.heap a x.1 (x.2.map (·.1)) = true)) ∧ leftWithCleanup s'.gens = false))
      (fun e s' => (r.toRowW.claim.Ends s args vs s₁ (.error e) s' ∧ s'.os = s.os ∧ (r.writes = true → namesKept r.prog r.keeps s.heap s'.heap ∧ ∀ x ∈ r.records, ∀ a, classAt s.heap x.1 = some a → recordClass s'.heap a x.1 (x.2.map (·.1)) = true)) ∧ leftWithCleanup s'.gens = false) s₁ :=
    wpC_bindA (wpAny_nsGet G₁.T.g (by
      rw [h1]
      exact wpC_bind (wpC_mono h (fun v s' g => wpC_pure ⟨_, rfl, post _ _ g⟩) fun e s' g => post _ _ g)))
  obtain ⟨k, res, s', s'', hrun, hsched, hfo, hcase, hos, hkp⟩ := ends_both (R := fun res s' => r.toRowW.claim.Ends s args vs s₁ res s' ∧ s'.os = s.os ∧ (r.writes = true → namesKept r.prog r.keeps s.heap s'.heap ∧ ∀ x ∈ r.records, ∀ a, classAt s.heap x.1 = some a → recordClass s'.heap a x.1 (x.2.map (·.1)) = true)) (Shared.asleep_of_life hal.2.2.2 hz) run
  obtain ⟨eh, _, _, eo, _⟩ := Shared.forget_eq hfo
  have hcase := hcase.congr eh
  rw [← eh] at hkp
  rw [← eo] at hos
  have hlife : s'.heap.life = s.heap.life := (runN_life _ _ _ hrun).trans hal.2.2.2
  refine ⟨vs, s₁, hlaid, k, _, s', hsched, ?_, (fun _ i x hx => by rw [hgens] at hx; simp at hx), hkp, by rw [hlife], Shared.rest_eq hos⟩
  rcases hcase with ⟨v, rfl, d1, d2, d3, d4, d5⟩ | ⟨e, ob, cls, rfl, d1, d2, d3, d4, d5⟩
  · exact .inl ⟨v, rfl, d1, d2, d3, fun b o y _ => d4 b o y, d5⟩
  · exact .inr ⟨e, ob, cls, rfl, d1, d2, d3, d4, fun b o y _ => d5 b o y⟩

open_top hd for PySem.Challenge.rw_fe0235_01
end Mine

/- part CL8 -/
namespace Mine
open PySem.Calls PySem.Spec

section
variable {prog : Program} {w : World} {A : Around} {E : Value → Shared → Prop} {R : Result → Shared → Prop} {s : Shared}
theorem codeC_func {body : List Stmt} {env : Env}
    (h : wpC (model prog w) (A.deeper env) (execs body env) (fun f s' => R (.ok (.ret (match f with | .ret v => v | _ => .none))) s')
      (fun e s' => wpC (model prog w) (A.deeper env) (leaving env e) (fun _ s'' => R (.error e) s'') (fun e' s'' => R (.error e') s'') s') s) :
    codeC (model prog w) A (.func body env) R s := by
  refine codeC_of_tree ?_
  show wpC _ (A.deeper env) (do point; match ← (execs body env).onRaise (leaving env) with | .ret v => ret v | _ => ret .none) _ _ s
  refine wpC_bindA (wpAny_point (wpC_bind (wpC_onRaise (wpC_mono h (fun f s' h' => ?_) fun _ _ h' => h'))))
  cases f <;> exact wpC_pure h'

theorem codeC_call_function {a : Addr} {args : Args} {o : Obj} {fd : FuncData} {body : List Stmt} (hroom : A.depth < recursionLimit) (ho : s.heap.get? a = some o)
    (hd' : o.data = .func fd) (hco : fd.scope.isCoroutine = false) (hgen : fd.scope.isGenerator = false) (hbody : fd.body = .stmts body) (hcd : s.heap.CodeRec fd.code fd.qualname)
    (h : wpAny (model prog w) A.in1 (bindArgs fd args) (fun binds s₁ =>
      wpAny (model prog w) A.in1 (newFunctionEnv fd.scope fd.globals fd.closure binds (fd.qualname ++ ".<locals>.") (some a) fd.code none fd.builtins)
        (fun env s₂ => s₂.heap.NoLimit ∧ codeC (model prog w) A (.func body env) R s₂) (fun e s' => R (.error e) s') s₁) (fun e s' => R (.error e) s') s) :
    codeC (model prog w) A (.call (.ref a) args) R s := by
  refine codeC_of_tree (wpC_of ?_)
  show wpAny _ A.in1 (callAny (.ref a) args) _ _ s
  simp only [callAny]
  refine wpAny_bind (wpAny_load ho ?_)
  obtain ⟨c, oc, vs, tq, hc, hoc, hdc, hq⟩ := hcd
  simp only [hd', callFunction, hco, hgen, hbody, hc]
  rw [hc] at h
  refine wpAny_bind (m := field (.ref c) 1) (wpAny_field hoc hdc hq (wpAny_bind (wpAny_pure ?_)))
  exact wpAny_bind (wpAny_mono h (fun binds s₁ h₁ => wpAny_bind (wpAny_mono h₁ (fun env s₂ h₂ => wpAny_bind (wpAny_enterFrame h₂.1 hroom
    (wpAny_pure ⟨rfl, rfl, h₂.2⟩))) fun _ _ h' => h')) fun _ _ h' => h')

theorem codeC_call_def {a : Addr} {o : Obj} {fd : FuncData} {body : List Stmt} {args : Args} {binds : List (Str × Value)}
    (hroom : A.depth < recursionLimit) (ho : s.heap.get? a = some o) (hdata : o.data = .func fd) (hlim : s.heap.NoLimit) (hcd : s.heap.CodeRec fd.code fd.qualname)
    (hbody : fd.body = .stmts body) (hbind : BindsTo s fd args binds)
    (hcell : ∀ x ∈ fd.scope.names, x.2 ≠ .cell) (hloc : ∀ x ∈ binds, fd.scope.names.lookup x.1 = some .local)
    (h : ∀ h₀, h₀.Ns s.heap.objs.size (fun x => binds.reverse.lookup x) → (∀ b o, s.heap.get? b = some o → h₀.get? b = some o) →
      wpC (model prog w) (A.deeper (callEnv fd s.heap.objs.size a)) (execs body (callEnv fd s.heap.objs.size a)) (fun f s' => R (.ok (.ret (match f with | .ret v => v | _ => .none))) s')
        (fun e s' => wpC (model prog w) (A.deeper (callEnv fd s.heap.objs.size a)) (leaving (callEnv fd s.heap.objs.size a) e) (fun _ s'' => R (.error e) s'') (fun e' s'' => R (.error e') s'') s')
        { s with heap := h₀, toks := s.toks + binds.length })
    (hco : fd.scope.isCoroutine = false) (hgen : fd.scope.isGenerator = false) (hk : fd.scope.kind = .function) :
    codeC (model prog w) A (.call (.ref a) args) R s := by
  refine codeC_call_function hroom ho hdata hco hgen hbody hcd (hbind _ _ _ _ ?_)
  refine wpAny_newFunctionEnv hcell hloc (fun h₀ hns₀ hsb₀ => ⟨hlim.fresh _ hsb₀, codeC_func (h h₀ hns₀ fun b o e => ?_)⟩) hk
  exact hsb₀.extBut b o (Nat.ne_of_lt (Heap.lt_size e)) (Heap.get?_push_of_some _ e)
end

section
variable {prog : Program} {w : World} {A A₀ : Around} {s : Shared} {base h₀ : Heap} {outer : List Env} {L : Addr} {m mg mb : Str → Option Value} {env : Env} {news : List (Addr × Obj)} {K : Frag} {p : Program} {loose : List Str} {mean : ExcName → Option Value}
  {R : Result → Shared → Prop} {name qual : Str} {params : Arguments} {body : List Stmt} {scope : Scope} {dV kV doc pm cdv ct oc : Value} {an od : Option Addr} {osl : Array (Option Value)} {f : Addr} {args : Args} {binds : List (Str × Value)}

/-- what a callee leaves behind: all that stood, stands -/
def Left (h : Heap) (L' : Addr) (R : Result → Shared → Prop) (v : Value) (s' : Shared) : Prop := ∃ m', Fr h L' s'.heap m' ∧ R (.ok (.ret v)) s'

theorem own_facts (B : Below A₀ base outer h₀) (F : Fr h₀ L s.heap m) (hA : A.frames = some (env :: outer)) (hf : env.frame = some L) (hke : env.scope.kind = .function) :
    Below A base (env :: outer) s.heap := (groundX (R := fun _ _ => True) B F (News.nil (h₀ := h₀) (h := s.heap) (L := L)) hA hf hke).2.1

/-- a call of a def of the text, over the heap as it stands (nothing of the caller's is written) -/
theorem code_own (B : Below A₀ base outer h₀) (F : Fr h₀ L s.heap m) (X₀ : K.In h₀) (T : Top p loose mean mg mb h₀) (hA : A.frames = some (env :: outer)) (hf : env.frame = some L) (hke : env.scope.kind = .function)
    (ho : K.lookup f = some ⟨oc, od, .func (fnOf name qual params body scope dV kV doc pm an cdv ct), osl⟩) (hcd : codeIn K cdv qual = true) (hroom : A.depth < recursionLimit)
    (hbind : BindsTo s (fnOf name qual params body scope dV kV doc pm an cdv ct) args binds) (hloc : ∀ y ∈ binds, scope.names.lookup y.1 = some .local)
    (h : ∀ L' h₁, Fr s.heap L' h₁ (fun y => binds.reverse.lookup y) → News s.heap L' h₁ [] → Below A base (env :: outer) s.heap → K.In s.heap → Top p loose mean mg mb s.heap →
      wpC (model prog w) (A.deeper (envOf qual scope L' f cdv)) (execs body (envOf qual scope L' f cdv))
        (fun fl s' => Left s.heap L' R (match fl with | .ret v => v | _ => .none) s')
        (fun e s' => wpC (model prog w) (A.deeper (envOf qual scope L' f cdv)) (leaving (envOf qual scope L' f cdv) e) (fun _ s'' => R (.error e) s'') (fun e' s'' => R (.error e') s'') s')
        { s with heap := h₁, toks := s.toks + binds.length })
    (hco : scope.isCoroutine = false) (hgen : scope.isGenerator = false) (hk : scope.kind = .function)
    (hcell : ∀ x ∈ scope.names, x.2 ≠ .cell) : codeC (model prog w) A (.call (.ref f) args) R s := by
  have X := X₀.keeps F.keep
  refine codeC_call_def (fd := fnOf name qual params body scope dV kV doc pm an cdv ct) (body := body) (binds := binds) hroom (X _ _ ho) rfl (T.nolimit.keeps F.keep) (codeRec_of X hcd) rfl hbind hcell hloc (fun h₁ hns hk₁ => ?_) hco hgen hk
  exact wpC_mono (h s.heap.objs.size h₁ ⟨hns, hk₁, Nat.le_refl _⟩ News.nil (own_facts B F hA hf hke) X (T.keeps F.keep)) (fun fl s' hl => by obtain ⟨_, _, k⟩ := hl; exact k) fun _ _ y => y

theorem code_ownA (B : Below A₀ base outer h₀) (F : Fr h₀ L s.heap m) (X₀ : K.In h₀) (T : Top p loose mean mg mb h₀) (hA : A.frames = some (env :: outer)) (hf : env.frame = some L) (hke : env.scope.kind = .function)
    (ho : K.lookup f = some ⟨oc, od, .func (fnOf name qual params body scope dV kV doc pm an cdv ct), osl⟩) (hcd : codeIn K cdv qual = true) (hroom : A.depth < recursionLimit)
    (hbind : BindsTo s (fnOf name qual params body scope dV kV doc pm an cdv ct) args binds) (hloc : ∀ y ∈ binds, scope.names.lookup y.1 = some .local)
    (h : ∀ L' h₁, Fr s.heap L' h₁ (fun y => binds.reverse.lookup y) → News s.heap L' h₁ [] → Below A base (env :: outer) s.heap → K.In s.heap → Top p loose mean mg mb s.heap →
      wpAny (model prog w) (A.deeper (envOf qual scope L' f cdv)) (execs body (envOf qual scope L' f cdv))
        (fun fl s' => Left s.heap L' R (match fl with | .ret v => v | _ => .none) s')
        (fun e s' => wpAny (model prog w) (A.deeper (envOf qual scope L' f cdv)) (leaving (envOf qual scope L' f cdv) e) (fun _ s'' => R (.error e) s'') (fun e' s'' => R (.error e') s'') s')
        { s with heap := h₁, toks := s.toks + binds.length })
    (hco : scope.isCoroutine = false) (hgen : scope.isGenerator = false) (hk : scope.kind = .function)
    (hcell : ∀ x ∈ scope.names, x.2 ≠ .cell) : codeAny (model prog w) A (.call (.ref f) args) R s := by
  have X := X₀.keeps F.keep
  refine codeAny_call_def (fd := fnOf name qual params body scope dV kV doc pm an cdv ct) (body := body) (binds := binds) hroom (X _ _ ho) rfl (T.nolimit.keeps F.keep) (codeRec_of X hcd) rfl hbind hcell hloc (fun h₁ hns hk₁ => ?_) hco hgen hk
  exact wpAny_mono (h s.heap.objs.size h₁ ⟨hns, hk₁, Nat.le_refl _⟩ News.nil (own_facts B F hA hf hke) X (T.keeps F.keep)) (fun fl s' hl => by obtain ⟨_, _, k⟩ := hl; exact k) fun _ _ y => y

theorem left_keeps {h : Heap} {L' : Addr} {v : Value} {s' : Shared} (F : Fr h₀ L h m) (N : News h₀ L h news) (hl : Left h L' (fun r s'' => Fr h₀ L s''.heap m → News h₀ L s''.heap news → R r s'') v s') : Left h L' R v s' := by
  obtain ⟨m', F', k⟩ := hl
  exact ⟨m', F', k (F.keeps F'.keep) (N.keeps F'.keep)⟩
end
end Mine

/- part CL9 -/
namespace Mine
open PySem.Calls PySem.Spec

/-- a marker: the walk halts at what it marks -/
def Stop (P : Prop) : Prop := P
theorem Stop.out {P : Prop} (h : Stop P) : P := h
theorem Stop.mk {P : Prop} (h : P) : Stop P := h

section
variable {prog : Program} {w : World} {A : Around} {E : Value → Shared → Prop} {s : Shared} {h₀ : Heap} {L D : Addr} {m : Str → Option Value} {news news' : List (Addr × Obj)} {vs : List Value} {ns : List Int} {n : Nat} {x : Int} {t u : Tok}
/-- a list's last item stored by the index -1 -/
theorem set_last {Q : Unit → Shared → Prop} (F : Fr h₀ L s.heap m) (N : News h₀ L s.heap news) (U : Upd D (listOf vs.toArray n) (listOf (vs.set (vs.length - 1) (.int x u)).toArray n) news news') (hlen : 0 < vs.length)
    (h : ∀ h', Fr h₀ L h' m → News h₀ L h' news' → Q () { s with heap := h' }) : wpAny (model prog w) A (setItem (.ref D) (.int (-1) t) (.int x u)) Q E s := by
  obtain ⟨pre, post, rfl, rfl, a, b⟩ := U.split
  have z := N (D, listOf vs.toArray n) (List.mem_append.mpr (.inr (.head _)))
  have hl : s.heap.IsList D vs.toArray := PySem.IsL.isList (n := n) z.1
  unfold setItem
  refine wpAny_holding ?_
  refine wpAny_bind (wpAny_sequenceKey hl.typeIs (by decide) ?_)
  refine wpAny_bind (wpAny_callSpecial?_slot (name := Str.ofString "__setitem__") hl.typeIs slot_list_setitem
    (wpAny_call_entry slot_list_setitem hl.typeIs entry_list_setitem ?_ (args_list_setitem _ _ _)))
  show wpAny _ _ (Builtin.List.listSubscript? (.int (-1) t) >>= _) _ _ s
  refine wpAny_bind (wpAny_listSubscript_int (by decide) ?_)
  have e : (seqIndex? (-1) vs.toArray.size).bind (fun j => vs.toArray[j]?.map (j, ·)) = some (vs.length - 1, vs[vs.length - 1]) := by
    have h1 : seqIndex? (-1) vs.toArray.size = some (vs.length - 1) := by
      unfold seqIndex?
      simp only [List.size_toArray]
      have h2 : (0 : Int) ≤ -1 + (vs.length : Int) := by omega
      have h3 : -1 + (vs.length : Int) < (vs.length : Int) := by omega
      have h4 : (-1 + (vs.length : Int)).toNat = vs.length - 1 := by omega
      simp [h2, h3, h4]
    rw [h1]
    simp
  show wpAny _ _ ((Builtin.List.listItems (.ref D) >>= fun xs => pure ((seqIndex? (-1) xs.size).bind fun j => xs[j]?.map (j, ·))) >>= _) _ _ s
  refine wpAny_bind (wpAny_bind ?_)
  unfold Builtin.List.listItems
  refine wpAny_bind (wpAny_seqItems z.1 rfl (wpAny_pure (wpAny_pure ?_)))
  rw [e]
  show wpAny _ _ (setSeqItemAt D (vs.length - 1) (.int x u) >>= _) _ _ s
  have fin : Q () { s with heap := s.heap.update D (Obj.mapSeq (·.setIfInBounds (vs.length - 1) (.int x u))) } := by
    refine h _ (F.change (Heap.SameBut.update ..) z.2.1 z.2.2) (ki_turn _ N a b ?_ ?_)
    · apply Array.toList_inj.mp
      simp
    · simp
  refine wpAny_bind (wpAny_setSeqItemAt z.1 rfl ?_)
  first
    | exact wpAny_bind (wpAny_pure (wpAny_pure ⟨.none, rfl, wpAny_pure fin⟩))
    | exact wpAny_pure ⟨.none, rfl, wpAny_pure fin⟩
end
end Mine

/- part CL10 -/
namespace Mine
open PySem.Calls PySem.Spec

theorem by_reversed : typeLookup (.type "bytes") "__reversed__" = pure none := by rw [typeLookup_type, builtinLookup_eq_fast]; kernel_rfl
theorem by_dict : isSubtype (.type "bytes") (.type "dict") = pure false := by rw [isSubtype_type]; kernel_rfl
theorem rv_init : Slot "reversed" "__init__" "object.__init__" :=
  .of (owner := "object") (n := "__init__") (by rw [typeLookup_type, builtinLookup_eq_fast]; kernel_rfl) (by decide +kernel) (by decide +kernel) (by decide +kernel)
    (by first | exact .inl (by decide +kernel) | exact .inr (by decide +kernel)) (by rw [isSubtype_type]; kernel_rfl)
theorem rv_called : TypeCalled "reversed" "reversed.__new__" "object.__init__" :=
  ⟨by decide +kernel, by decide +kernel, ⟨_, _, F.mro_reversed⟩, F.made_reversed, F.plain_reversed_new, F.sub_reversed_self, rv_init⟩
theorem rv_next : Slot "reversed" "__next__" "reversed.__next__" :=
  .of (owner := "reversed") (n := "__next__") (by rw [typeLookup_type, builtinLookup_eq_fast]; kernel_rfl) (by decide +kernel) (by decide +kernel) (by decide +kernel)
    (by first | exact .inl (by decide +kernel) | exact .inr (by decide +kernel)) F.sub_reversed_self
theorem rv_iter : Slot "reversed" "__iter__" "reversed.__iter__" :=
  .of (owner := "reversed") (n := "__iter__") (by rw [typeLookup_type, builtinLookup_eq_fast]; kernel_rfl) (by decide +kernel) (by decide +kernel) (by decide +kernel)
    (by first | exact .inl (by decide +kernel) | exact .inr (by decide +kernel)) F.sub_reversed_self
theorem rv_nextEntry : entryFor table "reversed.__next__" = some Builtin.«reversed.__next__» := entryFor_of_tree (by kernel_rfl)
theorem rv_iterEntry : entryFor table "reversed.__iter__" = some Builtin.«dict_keyiterator.__iter__» :=
  entryFor_alias (id' := "dict_keyiterator.__iter__") (by rw [fastTable_eq_tree]; kernel_rfl) (by decide +kernel) (by decide +kernel) (by rw [fastTable_eq_tree]; kernel_rfl)
theorem rv_nextArgs (o : Value) : argsOk "reversed.__next__" ⟨[o], []⟩ := by kernel_rfl
theorem rv_iterArgs (o : Value) : argsOk "reversed.__iter__" ⟨[o], []⟩ := by kernel_rfl

abbrev rvObj (b : Array UInt8) (t : Tok) (i : Int) : Obj := { cls := .type "reversed", data := .fields #[.bytes b t, rawInt i] }
def IsRv (h : Heap) (a : Addr) (b : Array UInt8) (t : Tok) (i : Int) : Prop := ∃ o, h.get? a = some o ∧ o.cls = .type "reversed" ∧ o.data = .fields #[.bytes b t, rawInt i]
theorem IsRv.typeIs {s : Shared} {a : Addr} {b : Array UInt8} {t : Tok} {i : Int} (x : IsRv s.heap a b t i) : s.TypeIs (.ref a) "reversed" := let ⟨o, ho, hc, _⟩ := x; ⟨o, ho, hc⟩

section
variable {prog : Program} {w : World} {A : Around} {E : Value → Shared → Prop} {s : Shared} {b : Array UInt8} {t : Tok}
theorem getItem_by {k : Int} {u : Tok} {c : UInt8} {Q : Value → Shared → Prop} (hf : Builtin.Bytes.fitsIndex k = true) (hx : (seqIndex? k b.size).bind (b[·]?) = some c) (h : Q (.int c.toNat s.toks) { s with toks := s.toks + 1 }) :
    wpAny (model prog w) A (getItem (.bytes b t) (.int k u)) Q E s :=
  getItem_gives (PySem.W.typeIs_bytes s b t) (by decide) FB.slot_bytes_getitem FB.entry_bytes_getitem (FB.args_bytes_getitem_2 _ _) (gives_bytes_getitem b k t u c hf hx) h
theorem seqIndex_nat {i n : Nat} (h : i < n) : seqIndex? (i : Int) n = some i := by
  have hn : ¬ ((i : Int) < 0) := by omega
  simp [seqIndex?, hn, h]
theorem fitsIndex_nat {i : Nat} (h : i ≤ 1099511627776) : Builtin.Bytes.fitsIndex (i : Int) = true := by
  unfold Builtin.Bytes.fitsIndex
  rw [Bool.and_eq_true, decide_eq_true_eq, decide_eq_true_eq]
  omega
theorem code_rv {Q₁ : Value → Shared → Prop} (hz : b.size ≤ 1099511627776) (h : ∀ tk, Q₁ (.ref s.heap.objs.size) { s with heap := s.heap.push (rvObj b t ((b.size : Int) - 1)), toks := tk }) :
    codeAny (model prog w) A (.call (.builtin "reversed.__new__") ⟨[.type "reversed", .bytes b t], []⟩) (wants Q₁ E) s := by
  refine codeAny_of_tree ?_
  show wpAny _ A.in1 (do checkBuiltinCall "reversed.__new__" ⟨[.type "reversed", .bytes b t], []⟩; again (.builtin "reversed.__new__" ⟨[.type "reversed", .bytes b t], []⟩)) _ _ s
  refine wpAny_bind (wpAny_of_eq (F.newCall_reversed_1 _) (wpAny_pure ⟨plainId_quiet F.plain_reversed_new _, codeAny_builtin F.entry_reversed_new ?_⟩))
  rw [Around.under_plainId F.plain_reversed_new _]
  unfold Builtin.«reversed.__new__»
  refine wpAny_bind (wpAny_of_eq (newClass_reversed _) ?_)
  refine wpAny_bind (wpAny_of_eq (a := ()) (by first | rfl | kernel_rfl) ?_)
  refine wpAny_bind (wpAny_of_eq (a := ()) (by first | rfl | kernel_rfl) ?_)
  refine wpAny_bind (wpAny_specialOf (PySem.W.typeIs_bytes _ _ _) by_reversed ?_)
  refine wpAny_bind ?_
  show wpAny _ _ (isInstance (.bytes b t) (.type "dict") >>= _) _ _ s
  refine wpAny_bind (wpAny_isInstance (PySem.W.typeIs_bytes _ _ _) by_dict ?_)
  refine bm_if_false rfl ?_
  refine wpAny_bind (wpAny_specialOf (PySem.W.typeIs_bytes _ _ _) FB.slot_bytes_getitem.lookup ?_)
  refine bm_if_true (by decide +kernel) ?_
  refine wpAny_pure ?_
  refine bm_if_false rfl ?_
  refine wpAny_bind (len_bytes hz ?_)
  refine wpAny_bind (wpAny_of_eq (a := some (b.size : Int)) rfl ?_)
  refine wpAny_bind ?_
  show wpAny _ _ (newObj (.type "reversed") (.fields #[.bytes b t, rawInt ((b.size : Int) - 1)])) _ _ _
  exact wpAny_newObj_type (wpAny_pure (h _))

theorem call_rv {Q : Value → Shared → Prop} (hz : b.size ≤ 1099511627776) (h : ∀ tk, Q (.ref s.heap.objs.size) { s with heap := s.heap.push (rvObj b t ((b.size : Int) - 1)), toks := tk }) : wpAny (model prog w) A (call (.type "reversed") [.bytes b t]) Q E s := by
  refine callType_codes (Q₁ := fun obj s₁ => s₁.TypeIs obj "reversed" ∧ Q obj s₁) rv_called (F.typeCall_reversed_1 _) F.entry_object_init (code_rv hz fun tk => ⟨⟨_, Heap.get?_push_size _ rfl, rfl⟩, h tk⟩) fun obj s₁ h₁ => ?_
  exact ⟨h₁.1, F.args_object_init_2 obj _, object_init_meets rv_called.init.lookup rv_called.made (by decide) prog w A.in1 _ s₁ ⟨h₁.1, rfl, h₁.2⟩⟩

theorem pyIter_rv {it : Addr} {i : Int} {Q : Value → Shared → Prop} (hit : IsRv s.heap it b t i) (h : Q (.ref it) s) : wpAny (model prog w) A (pyIter (.ref it)) Q E s := by
  refine wpAny_pyIter_slot hit.typeIs rv_iter (wpAny_call_entry rv_iter hit.typeIs rv_iterEntry ?_ (rv_iterArgs _))
  show wpAny _ _ (ret (.ref it)) _ _ s
  exact wpAny_pure ⟨_, rfl, "reversed", _, hit.typeIs, rv_next.lookup, h⟩

theorem next_rv {it : Addr} {i : Nat} {c : UInt8} {Q : Option Value → Shared → Prop} (hit : IsRv s.heap it b t (i : Int)) (hz : b.size ≤ 1099511627776) (hx : b[i]? = some c)
    (hQ : ∀ h' u tk, IsRv h' it b t ((i : Int) - 1) → Heap.SameBut it s.heap h' → Q (some (.int (c.toNat : Int) u)) { s with heap := h', toks := tk }) : wpAny (model prog w) A (pyNext (.ref it)) Q E s := by
  obtain ⟨o, ho, hc, hd⟩ := id hit
  unfold pyNext
  refine wpAny_bind (wpAny_attempt (wpAny_callSpecial?_slot (name := PySem.Str.ofString "__next__") hit.typeIs rv_next
    (wpAny_call_entry rv_next hit.typeIs rv_nextEntry ?_ (rv_nextArgs _))))
  unfold Builtin.«reversed.__next__»
  refine wpAny_bind (wpAny_of_eq (a := (Value.ref it, [])) rfl ?_)
  refine wpAny_bind (wpAny_field ho hd (x := .bytes b t) rfl ?_)
  refine wpAny_bind (wpAny_field ho hd (x := rawInt (i : Int)) rfl ?_)
  refine bm_if_neg (by omega) ?_
  refine wpAny_bind (wpAny_specialOf (PySem.W.typeIs_bytes _ _ _) FB.slot_bytes_getitem.lookup ?_)
  refine bm_if_false rfl ?_
  refine wpAny_bind (wpAny_mkInt ?_)
  have hi : i < b.size := by
    rcases Array.getElem?_eq_some_iff.mp hx with ⟨h, _⟩; exact h
  refine wpAny_bind (wpAny_attempt (getItem_by (fitsIndex_nat (by omega)) (by rw [seqIndex_nat hi]; exact hx) ?_))
  refine wpAny_bind (wpAny_field ho hd (x := rawInt (i : Int)) rfl ?_)
  refine wpAny_bind (wpAny_setField ho hd (by simp) (wpAny_pure ⟨_, rfl, wpAny_pure (hQ _ _ _ ?_ (Heap.SameBut.update ..))⟩))
  exact ⟨_, Heap.get?_update_self _ ho (Obj.isFreed_of_fields (Obj.data_mapFields hd _)), (Obj.cls_mapFields ..).trans hc, by
    rw [Obj.data_mapFields hd]; simp⟩
theorem next_rv_end {it : Addr} {Q : Option Value → Shared → Prop} (hh : A.handled = none) (hit : IsRv s.heap it b t (-1))
    (hQ : ∀ h', Heap.ExtBut it s.heap h' → Q none { s with heap := h' }) : wpAny (model prog w) A (pyNext (.ref it)) Q E s := by
  obtain ⟨o, ho, hc, hd⟩ := id hit
  unfold pyNext
  refine wpAny_bind (wpAny_attempt (wpAny_callSpecial?_slot (name := PySem.Str.ofString "__next__") hit.typeIs rv_next
    (wpAny_call_entry rv_next hit.typeIs rv_nextEntry ?_ (rv_nextArgs _))))
  unfold Builtin.«reversed.__next__»
  refine wpAny_bind (wpAny_of_eq (a := (Value.ref it, [])) rfl ?_)
  refine wpAny_bind (wpAny_field ho hd (x := .bytes b t) rfl ?_)
  refine wpAny_bind (wpAny_field ho hd (x := rawInt (-1)) rfl ?_)
  show wpAny _ _ (if (-1 : Int) < 0 then _ else _) _ _ s
  rw [if_pos (by decide)]
  refine wpAny_bind (wpAny_rule ?_)
  refine wpAny_bind (wpAny_bind (wpAny_setField ho hd (by simp) ?_))
  have ho2 := Heap.get?_update_self (Obj.mapFields (·.setIfInBounds 1 (rawInt (-1)))) ho (Obj.isFreed_of_fields (Obj.data_mapFields hd _))
  refine wpAny_setField ho2 (Obj.data_mapFields hd _) (by simp) ?_
  refine wpAny_bind ?_
  show wpAny _ _ (newExc (.type "StopIteration") [] >>= _) _ _ _
  refine wpAny_bind ?_
  simp only [newExc, newTuple]
  refine wpAny_bind (wpAny_newObj_type ?_ (by size_fits))
  refine wpAny_bind (m := firstArgMember _ _) (wpAny_of_eq (a := Value.none) (by first | rfl | (simp only [firstArgMember]; rfl)) ?_)
  refine wpAny_newObj_type ?_ (by size_fits)
  simp only [raiseNew]
  refine wpAny_bind (wpAny_handled ?_)
  rw [show A.in1.handled = none from hh]
  refine wpAny_bind (wpAny_pure (wpAny_throw ?_))
  refine wpAny_bind (wpAny_isInstance (T := "StopIteration") (b := true) ⟨_, Heap.get?_push_size _ rfl, rfl⟩ isSubtype_stop ?_)
  exact wpAny_pure (hQ _ ((((Heap.SameBut.update ..).trans (Heap.SameBut.update ..)).extBut.push _).push _))

theorem walks_rv {prog : Program} {w : World} {A : Around} (hh : A.handled = none) (I : Addr) (b : Array UInt8) (t : Tok) (hz : b.size ≤ 1099511627776) :
    Walks prog w A I [I] [I] b.size (fun i v => ∃ c u, b[b.size - 1 - i]? = some c ∧ v = .int (c.toNat : Int) u) (fun i h => IsRv h I b t ((b.size : Int) - 1 - i)) where
  sub := fun _ hb => hb
  frame := fun _ _ _ st hk => let ⟨o, ho, r⟩ := st; ⟨o, hk I (by simp) o ho, r⟩
  item := fun i s Q E hi st hQ => by
    have hj : b.size - 1 - i < b.size := by omega
    have e : ((b.size : Int) - 1 - i) = ((b.size - 1 - i : Nat) : Int) := by omega
    rw [e] at st
    refine next_rv st hz (c := b[b.size - 1 - i]) (by simp [hj]) fun h' u tk hit' hs' => ?_
    refine hQ _ h' tk ⟨_, _, by simp [hj], rfl⟩ ?_ fun b o hb e => hs'.extBut b o (fun h => hb (by simp [h])) e
    have e2 : (((b.size - 1 - i : Nat) : Int) - 1) = (b.size : Int) - 1 - ((i + 1 : Nat) : Int) := by omega
    rw [e2] at hit'
    exact hit'
  done := fun s Q E st hQ => by
    have e : ((b.size : Int) - 1 - (b.size : Nat)) = -1 := by omega
    rw [e] at st
    exact next_rv_end hh st fun h' he' => hQ h' s.toks fun b o hb e => he' b o (fun h => hb (by simp [h])) e
  self := fun _ _ _ _ st hQ => pyIter_rv st hQ
end

theorem ints_rev_get {b : Array UInt8} {i : Nat} {c : UInt8} (hi : i < b.size) (h : b[b.size - 1 - i]? = some c) : (KBw.bInts b).reverse[i]? = some (c.toNat : Int) := by
  rw [List.getElem?_reverse (by rw [KBw.ints_length]; exact hi), KBw.ints_length]
  exact KBw.ints_get h

section
variable {prog : Program} {w : World} {A : Around} {E : Value → Shared → Prop} {s : Shared} {env : Env} {h₀ : Heap} {x : PySem.Str} {body : List Stmt} {Q : Flow → Shared → Prop} {b : Array UInt8} {tb : Tok} {ks : List Int}
  {m₀ : PySem.Str → Option Value} {news : List (Addr × Obj)}
/-- «for x in reversed(b)», one int turned -/
theorem for_rv {y : PySem.Str} {c₀ : Int} {tc : Tok} (g : Int → Int → Int) (hz : b.size ≤ 1099511627776)
    (hk : KBw.bInts b = ks) (hh : A.handled = none) (F : Fr h₀ env.locals s.heap m₀) (N : News h₀ env.locals s.heap news) (hy : m₀ y = some (.int c₀ tc))
    (turn : ∀ k t a ta h tk own, k ∈ ks → 0 ≤ k → k < 256 → OwnOff own (news.map (·.1)) → Fr h₀ env.locals h (fun z => if z = x then some (.int k t) else if z = y then some (.int a ta) else m₀ z) → News h₀ env.locals h (news ++ own) →
      wpAny (model prog w) A (execs body env) (InvPostN h₀ env.locals (fun m' nx => nx = news ∧ (∃ t', m' y = some (.int (g a k) t')) ∧ ∀ z, z ≠ x → z ≠ y → m' z = m₀ z) own (news.map (·.1)) { s with heap := h, toks := tk } Q) E { s with heap := h, toks := tk })
    (done : ∀ (u : PySem.Str → Option Value) t h tk, Fr h₀ env.locals h (fun z => if z = x then u z else if z = y then some (.int (ks.reverse.foldl g c₀) t) else m₀ z) → News h₀ env.locals h news → Q .next { s with heap := h, toks := tk }) :
    wpAny (model prog w) A (call (.type "reversed") [.bytes b tb]) (fun xv s₁ => wpAny (model prog w) A (pyIter xv) (fun it s₂ => LoopAtV prog w A h₀ env x body Q E it s₂) E s₁) E s := by
  subst hk
  refine call_rv hz fun tk0 => ?_
  have ho : IsRv (s.heap.push (rvObj b tb ((b.size : Int) - 1))) s.heap.objs.size b tb ((b.size : Int) - 1) := ⟨_, Heap.get?_push_size _ rfl, rfl, rfl⟩
  refine pyIter_rv (s := { s with heap := s.heap.push (rvObj b tb ((b.size : Int) - 1)), toks := tk0 }) ho ?_
  have W := walks_rv (prog := prog) (w := w) hh s.heap.objs.size b tb hz
  refine loop_accS (s := { s with heap := s.heap.push (rvObj b tb ((b.size : Int) - 1)), toks := tk0 }) (ks := (KBw.bInts b).reverse) (fun a m nx => nx = news ∧ (∃ t, m y = some (.int a t)) ∧ ∀ z, z ≠ x → z ≠ y → m z = m₀ z) g c₀ W ⟨by rw [List.length_reverse, KBw.ints_length], ?_⟩ ?_ ?_ ?_ ?_ ?_ (F.push _) (fun p hp => ⟨Heap.get?_push_of_some _ (N p hp).1, (N p hp).2⟩) ⟨rfl, ⟨tc, hy⟩, fun _ _ _ => rfl⟩ ?_ ?_
  · rintro i v hi ⟨c, u, hc, rfl⟩
    exact ⟨_, u, ints_rev_get hi hc, rfl⟩
  · intro hm
    exact absurd F.ns.lt ((List.mem_singleton.mp hm) ▸ Nat.lt_irrefl _)
  · intro b' hb
    rw [List.mem_singleton.mp hb]
    exact next_is_new F
  · intro p hp hI
    exact absurd (Heap.lt_size (N p hp).1) ((List.mem_singleton.mp hI) ▸ Nat.lt_irrefl _)
  · intro p hp hI
    exact absurd (Heap.lt_size (N p hp).1) ((List.mem_singleton.mp hI) ▸ Nat.lt_irrefl _)
  · have e : ((b.size : Int) - 1 - ((0 : Nat) : Int)) = (b.size : Int) - 1 := by omega
    show IsRv _ _ _ _ ((b.size : Int) - 1 - ((0 : Nat) : Int))
    rw [e]; exact ho
  · rintro k t a m₁ nx h tk own hk hoff ⟨rfl, ⟨ta, ha⟩, hm⟩ F₁ N₁
    rw [map_one ha hm] at F₁
    have hin := KBw.ints_in (List.mem_reverse.mp hk)
    exact turn k t a ta h tk own (List.mem_reverse.mp hk) hin.1 hin.2 hoff F₁ N₁
  · rintro m₁ nx h tk ⟨rfl, ⟨t, ha⟩, hm⟩ F₁ N₁
    refine done m₁ t h tk ?_ N₁
    rw [done_one ha hm]; exact F₁
end
end Mine

/- part CL11 -/
namespace Mine
open PySem.Calls PySem.Spec

section
variable {α β : Type} {M : Model} {A : Around} {E : Value → Shared → Prop} {s : Shared} {env : Env}
theorem wpC_execs_nil {Q : Flow → Shared → Prop} (h : Q .next s) : wpC M A (execs [] env) Q E s := wpC_of (wpAny_execs_nil h)
theorem wpC_execs_cons {st : Stmt} {rest : List Stmt} {Q : Flow → Shared → Prop}
    (h : wpC M A (exec st env) (fun f s' => match f with | .next => wpC M A (execs rest env) Q E s' | f => Q f s') E s) : wpC M A (execs (st :: rest) env) Q E s := by
  rw [execs_cons]
  refine wpC_bind (wpC_mono h (fun f s' h' => ?_) fun _ _ x => x)
  cases f <;> first | exact h' | exact wpC_pure h'
/-- a statement that holds everywhere ahead of the rest -/
theorem wpC_execs_consA {st : Stmt} {rest : List Stmt} {Q : Flow → Shared → Prop}
    (h : wpAny M A (exec st env) (fun f s' => match f with | .next => wpC M A (execs rest env) Q E s' | f => Q f s') E s) : wpC M A (execs (st :: rest) env) Q E s := wpC_execs_cons (wpC_of h)
theorem wpC_If {test : Expr} {body orelse : List Stmt} {pos : Pos} {Q : Flow → Shared → Prop}
    (h : wpC M A (isTrue test env (eval test env)) (fun b s₂ => if b = true then wpC M A (execs body env) Q E s₂ else wpC M A (execs orelse env) Q E s₂) E s) : wpC M A (exec (.If test body orelse pos) env) Q E s := by
  rw [exec_If]
  refine wpC_bindA (wpAny_standAt (wpC_bind (wpC_mono h (fun b s₂ h₂ => ?_) fun _ _ x => x)))
  cases b
  · exact wpC_if_false rfl h₂
  · exact wpC_if_true rfl h₂
theorem wpC_operate {vs : List Value} {m : Sem Value} {Q : Value → Shared → Prop} (h : wpC M A m Q E s) : wpC M A (operate vs m) Q E s :=
  fun Γ p hΓ hc => by rw [Sem.wp_operate]; exact h Γ p hΓ hc
/-- a comparison whose left side is a call in clean contexts -/
theorem wpC_isTrue_Compare1 {l r : Expr} {op : CmpOp} {pos : Pos} {whole : Sem Value} {Q : Bool → Shared → Prop}
    (h : wpC M A (eval l env) (fun a s₁ => wpAny M A (eval r env) (fun b s₂ => wpAny M A (compareOp op a b) (fun c s₃ => wpAny M A (truthy c) Q E s₃) E s₂) E s₁) E s)
    (hm : behindInMarks op r = false := by with_unfolding_all rfl) : wpC M A (isTrue (.Compare l [op] [r] pos) env whole) Q E s := by
  rw [isTrue_Compare1, markedBehindIn_of_false hm]
  refine wpC_bind (wpC_mono h (fun a s₁ h₁ => wpC_of ?_) fun _ _ x => x)
  refine wpAny_bind (wpAny_holding (wpAny_mono h₁ (fun b s₂ h₂ => ?_) fun _ _ x => x))
  refine wpAny_bind (wpAny_standAt (wpAny_bind (wpAny_operating (wpAny_mono h₂ (fun c s₃ h₃ => wpAny_holding h₃) fun _ _ x => x))))
theorem wpC_isTrue_Or2 {x y : Expr} {pos : Pos} {whole : Sem Value} {Q : Bool → Shared → Prop}
    (h : wpC M A (isTrue x env (eval x env)) (fun b s₁ => if b = true then Q true s₁ else wpC M A (isTrue y env (eval y env)) Q E s₁) E s) : wpC M A (isTrue (.BoolOp .Or [x, y] pos) env whole) Q E s := by
  show wpC M A (allTrue .Or [x, y] env) Q E s
  unfold allTrue
  refine wpC_bind (wpC_mono h (fun b s₁ h₁ => ?_) fun _ _ x => x)
  cases b
  · show wpC M A (allTrue .Or [y] env) Q E s₁
    unfold allTrue
    refine wpC_bind (wpC_mono h₁ (fun c s₂ h₂ => ?_) fun _ _ x => x)
    cases c <;> exact wpC_pure h₂
  · exact wpC_pure h₁
theorem wpC_Assign_Name {x : Str} {pos' pos : Pos} {value : Expr} {Q : Flow → Shared → Prop}
    (h : wpC M A (eval value env) (fun v s₁ => wpAny M A (storeName env x v) (fun _ => Q .next) E s₁) E s)
    (hs : swapsWith value (some (.Name x pos')) pos.line env = pure false := by rfl) : wpC M A (exec (.Assign [.Name x pos'] value pos) env) Q E s := by
  rw [exec_Assign_Name env x pos' value pos hs]
  refine wpC_bindA (wpAny_standAt (wpC_bind (wpC_mono h (fun v s₁ h₁ => wpC_of ?_) fun _ _ x => x)))
  exact wpAny_bind (wpAny_standAt (wpAny_bind (wpAny_bindName (wpAny_mono h₁ (fun _ _ q => wpAny_pure q) fun _ _ x => x))))
theorem wpC_Expr {e : Expr} {pos : Pos} {Q : Flow → Shared → Prop} (h : wpC M A (eval e env) (fun v s' => v = .none ∧ Q .next s') E s)
    (hi : interactive env = false := by rfl) (hs : swapsWith e none pos.line env = pure false := by rfl) : wpC M A (exec (.Expr e pos) env) Q E s := by
  rw [exec_Expr env e pos hi hs]
  refine wpC_bindA (wpAny_standAt (wpC_bind (wpC_mono h (fun v s' h' => ?_) fun _ _ x => x)))
  obtain ⟨rfl, h'⟩ := h'
  rw [dropValue_plain (fun a q => by cases q)]
  exact wpC_pure h'
theorem wpC_keep {vs : List Value} {m : Sem α} {Q : α → Shared → Prop} (h : wpC M A m Q E s) : wpC M A (m.keep vs) Q E s := fun Γ p hΓ hc => by rw [Sem.wp_keep]; exact h Γ p hΓ hc
theorem callWithC {f : Value} {first : List Value} {pos : Pos} {P : Heap → Prop} {args : List (Bool × Sem Value)} {keywords : List (Option Str × Sem Value)} {Q : Value → Shared → Prop} (hplain : (args.any (·.1) || keywords.any (·.1.isNone)) = false)
    (hk : ∀ h, P h → ∃ k, (k = Keeper.frame ∨ k = Keeper.machine ∨ k = Keeper.boundFrame) ∧ Looks M h (keeperOf f) k)
    (h : wpAny M A (evalArgs f true args keywords) (fun a s₁ => P s₁.heap ∧ wpC M A (call f (first ++ a.pos) a.kw) Q E s₁) E s) : wpC M A (callWith pos f first args keywords) Q E s := by
  unfold callWith
  refine wpC_bindA (wpAny_holding (wpAny_mono h (fun a s₁ h₁ => wpC_bindA (wpAny_standAt ?_)) fun _ _ x => x))
  obtain ⟨k, hk', L⟩ := hk _ h₁.1
  simp only [hplain]
  refine wpC_bindA (L.here ?_)
  have tail : ∀ {t : Sem Value}, wpC M A t Q E s₁ → wpC M A (t >>= fun r => holding [r] point >>= fun _ => pure r) Q E s₁ :=
    fun ht => wpC_bind (wpC_mono ht (fun r s₂ hr => wpC_bindA (wpAny_holding (wpAny_point (wpC_pure hr)))) fun _ _ x => x)
  have marked (mk : Value) : wpC M A (callMarked mk f (first ++ a.pos) a.kw) Q E s₁ := by unfold callMarked; exact wpC_keep h₁.2
  rcases hk' with rfl | rfl | rfl <;> dsimp only <;> first | exact tail h₁.2 | (split <;> first | exact tail h₁.2 | exact tail (marked _))
theorem keeps_machine {f : Value} (h : keeperOf f = pure Keeper.machine) : ∀ hp : Heap, True → ∃ k, (k = Keeper.frame ∨ k = Keeper.machine ∨ k = Keeper.boundFrame) ∧ Looks M hp (keeperOf f) k :=
  fun _ _ => ⟨.machine, .inr (.inl rfl), Looks.of_pure h⟩
/-- f(..) by a name -/
theorem CallC {func : Expr} {args : List Expr} {kws : List Keyword} {pos : Pos} {Q : Value → Shared → Prop}
    (h : wpAny M A (eval func env) (fun f s₁ => wpC M A (callWith pos f [] (backTo pos (starEach args env)) (backToKw pos (keywordEach kws env))) Q E s₁) E s)
    (he : eval (.Call func args kws pos) env = (do callWith pos (← eval func env) [] (backTo pos (starEach args env)) (backToKw pos (keywordEach kws env))) := by rfl) :
    wpC M A (eval (.Call func args kws pos) env) Q E s := by
  rw [he]; exact wpC_bindA h
/-- o.name(..) -/
theorem MethodCallC {o : Expr} {name : Str} {apos pos : Pos} {args : List Expr} {kws : List Keyword} {pl : Sem Bool} {Q : Value → Shared → Prop}
    (h : wpAny M A (eval o env) (fun ov s₁ => wpAny M A (getMethod ov name pl) (fun fx s₂ => wpC M A (callWith pos fx.1 fx.2 (backTo pos (starEach args env)) (backToKw pos (keywordEach kws env))) Q E s₂) E s₁) E s)
    (he : eval (.Call (.Attribute o name apos) args kws pos) env = (do
      let ov ← eval o env
      standAt apos.atName
      let (f, first) ← holding [ov] (getMethod ov name pl)
      callWith pos f first (backTo pos (starEach args env)) (backToKw pos (keywordEach kws env))) := by rfl) :
    wpC M A (eval (.Call (.Attribute o name apos) args kws pos) env) Q E s := by
  rw [he]
  exact wpC_bindA (wpAny_mono h (fun ov s₁ h₁ => wpC_bindA (wpAny_standAt (wpC_bindA (wpAny_holding (wpAny_mono h₁ (fun fx s₂ h₂ => h₂) fun _ _ x => x))))) fun _ _ x => x)
theorem wpC_runOwn {c : Code} {Q : Flow → Shared → Prop} (hc : codeC M A c (fun r s' => match r with | .ok f => Q f s' | .error _ => False) s) (ok : okCode c = true) : wpC M A (runOwn c env none) Q E s := by
  unfold runOwn
  refine wpC_onRaise (wpC_run (codeC_mono hc fun r s' hr => ?_) ok)
  cases r with
  | ok f => exact hr
  | error e => exact hr.elim
end

section
variable {prog : Program} {w : World} {A : Around} {E : Value → Shared → Prop} {s : Shared} {env : Env}
/-- a while whose turns do not raise -/
theorem wpC_While {test : Expr} {body : List Stmt} {pos : Pos} {Q : Flow → Shared → Prop} (I : Nat → Shared → Prop)
    (turn : ∀ n s, I n s → wpC (model prog w) A (isTrue test env (eval test env)) (fun b s₂ =>
        if b = true then wpC (model prog w) A (execs body env) (fun f s₃ => match f with
            | .next => ∃ m, m < n ∧ I m s₃
            | _ => False) (fun _ _ => False) s₂
        else Q .next s₂) (fun _ _ => False) s)
    (n : Nat) (h : I n s) : wpC (model prog w) A (exec (.While test body [] pos) env) Q E s := by
  rw [exec_While]
  refine wpC_bindA (wpAny_standAt (wpC_runOwn ?_ rfl))
  refine codeC_loop rfl rfl I (fun n s hI => ?_) n h
  show wpC _ A ((whileTurn test body [] env).onRaise (fun x => do noteFrame x env; theTreesLotGoes x)) _ _ s
  refine wpC_onRaise (wpC_mono (E := fun _ _ => False) ?_ (fun _ _ x => x) fun _ _ x => x.elim)
  simp only [whileTurn]
  refine wpC_bind (wpC_mono (turn n s hI) (fun b s₂ h₂ => ?_) fun _ _ x => x)
  cases b with
  | false => exact wpC_if_false rfl (wpC_bind (wpC_execs_nil (wpC_pure h₂)))
  | true =>
    refine wpC_if_true rfl (wpC_bind (wpC_mono h₂ (fun f s₃ h₃ => ?_) fun _ _ x => x))
    cases f with
    | next => exact wpC_pure ⟨rfl, h₃⟩
    | cont => exact h₃.elim
    | brk => exact h₃.elim
    | ret v => exact h₃.elim
end
end Mine

/- part CL12 -/
namespace Mine
open PySem.Calls PySem.Spec
section
variable {M : Model} {A : Around} {E : Value → Shared → Prop} {s : Shared} {env : Env} {f : Value} {first : List Value} {pos : Pos} {P : Heap → Prop} {e : Expr} {rest : List Expr} {Q : Value → Shared → Prop}
theorem callWithC1 (hk : ∀ h, P h → ∃ k, (k = Keeper.frame ∨ k = Keeper.machine ∨ k = Keeper.boundFrame) ∧ Looks M h (keeperOf f) k)
    (h : wpAny M A (spliced (backTo pos (starEach (e :: rest) env))) (fun vs s₁ => P s₁.heap ∧ wpC M A (call f (first ++ vs)) Q E s₁) E s)
    (he : starEach (e :: rest) env = (false, eval e env) :: starEach rest env := by rfl) (hplain : (backTo pos (starEach rest env)).any (·.1) = false := by rfl) :
    wpC M A (callWith pos f first (backTo pos (starEach (e :: rest) env)) (backToKw pos (keywordEach [] env))) Q E s := by
  rw [he] at h ⊢
  exact callWithC (by show ((false || (backTo pos (starEach rest env)).any (·.1)) || false) = false; rw [hplain]; rfl) hk (evalArgs_plain h)
theorem callWithC0 (hk : ∀ h, P h → ∃ k, (k = Keeper.frame ∨ k = Keeper.machine ∨ k = Keeper.boundFrame) ∧ Looks M h (keeperOf f) k)
    (h : P s.heap ∧ wpC M A (call f (first ++ [])) Q E s) : wpC M A (callWith pos f first (backTo pos (starEach [] env)) (backToKw pos (keywordEach [] env))) Q E s :=
  callWithC rfl hk (evalArgs_nil3 h)
theorem callWithCk {kws : List Keyword} (hk : ∀ h, P h → ∃ k, (k = Keeper.frame ∨ k = Keeper.machine ∨ k = Keeper.boundFrame) ∧ Looks M h (keeperOf f) k)
    (h : wpAny M A (spliced (backTo pos (starEach (e :: rest) env))) (fun vs s₁ => wpAny M A (evalAll ((backToKw pos (keywordEach kws env)).map (·.2)))
      (fun kvs s₂ => P s₂.heap ∧ wpC M A (call f (first ++ vs) (((backToKw pos (keywordEach kws env)).filterMap (·.1)).zip kvs)) Q E s₂) E s₁) E s)
    (he : backTo pos (starEach (e :: rest) env) = (false, eval e env) :: backTo pos (starEach rest env) := by rfl)
    (hplain : (backTo pos (starEach (e :: rest) env)).any (·.1) = false := by rfl)
    (hall : (backToKw pos (keywordEach kws env)).all (·.1.isSome) = true := by rfl)
    (hkw : (backToKw pos (keywordEach kws env)).any (·.1.isNone) = false := by rfl) :
    wpC M A (callWith pos f first (backTo pos (starEach (e :: rest) env)) (backToKw pos (keywordEach kws env))) Q E s := by
  refine callWithC (by rw [hplain, hkw]; rfl) hk ?_
  rw [he] at h ⊢
  exact evalArgs_kw hall h
theorem machine_type {T : String} : keeperOf (.type T) = pure Keeper.machine := rfl
theorem machine_builtin {id : String} : keeperOf (.builtin id) = pure Keeper.machine := rfl
end
section
variable {prog : Program} {w : World} {A : Around} {E : Value → Shared → Prop} {R : Result → Shared → Prop} {s : Shared} {h₀ : Heap} {L : Addr} {news : List (Addr × Obj)}
theorem method_callC {q : Addr} {f self : Value} {pos : List Value} {kw : List (Str × Value)} (ho : s.heap.get? q = some (methodObj f self))
    (h : codeC (model prog w) A (.call f ⟨self :: pos, kw⟩) R s) : codeC (model prog w) A (.call (.ref q) ⟨pos, kw⟩) R s := by
  refine codeC_of_tree (wpC_of ?_)
  show wpAny _ A.in1 (callAny (.ref q) ⟨pos, kw⟩) _ _ s
  simp only [callAny]
  refine wpAny_bind (wpAny_load ho ?_)
  cases f <;> exact wpAny_pure ⟨rfl, rfl, h⟩
end
end Mine

/- part M1 -/
/- plain mathematics of octets: no program in sight -/
namespace Mine

/-- the digits of a number to the base 256, the least first -/
def digs (n : Nat) : List Int := if n = 0 then [] else ((n % 256 : Nat) : Int) :: digs (n / 256)
termination_by n
decreasing_by omega

theorem digs_zero : digs 0 = [] := by rw [digs]; simp
theorem digs_pos {n : Nat} (h : 0 < n) : digs n = ((n % 256 : Nat) : Int) :: digs (n / 256) := by
  rw [digs]; rw [if_neg (by omega)]
theorem digs_in : ∀ (n : Nat), ∀ x ∈ digs n, 0 ≤ x ∧ x < 256 := by
  intro n
  induction n using Nat.strongRecOn with
  | ind n ih =>
    intro x hx
    by_cases h : n = 0
    · subst h; rw [digs_zero] at hx; exact nomatch hx
    · rw [digs_pos (by omega)] at hx
      rcases List.mem_cons.mp hx with rfl | hx
      · omega
      · exact ih (n / 256) (by omega) x hx
theorem digs_len : ∀ (k n : Nat), n < 256 ^ k → (digs n).length ≤ k := by
  intro k
  induction k with
  | zero => intro n h; have : n = 0 := by simpa using h
            subst this; rw [digs_zero]; exact Nat.le_refl _
  | succ k ih =>
    intro n h
    by_cases h0 : n = 0
    · subst h0; rw [digs_zero]; exact Nat.zero_le _
    · rw [digs_pos (by omega), List.length_cons]
      have : n / 256 < 256 ^ k := by
        rw [Nat.pow_succ] at h
        exact Nat.div_lt_of_lt_mul (by rw [Nat.mul_comm]; exact h)
      have := ih _ this
      omega
end Mine
namespace Mine
/-- the octets of a number: its digits, the sign in the last one's greatest bit -/
def octs (n : Int) : List Int :=
  if 0 < (digs n.natAbs).length ∧ 127 < (digs n.natAbs).getD ((digs n.natAbs).length - 1) 0 then digs n.natAbs ++ [if n < 0 then 128 else 0]
  else if n < 0 then (digs n.natAbs).set ((digs n.natAbs).length - 1) ((digs n.natAbs).getD ((digs n.natAbs).length - 1) 0 + 128)
  else digs n.natAbs

def Bd (n : Int) : Prop := n.natAbs < 256 ^ 80
/-- between the turns of the law's own division -/
def OctW (n left : Int) (octets : List Int) : Prop := 0 ≤ left ∧ octets ++ digs left.toNat = digs n.natAbs ∧ octets.length ≤ 100

theorem bd_len {n : Int} (h : Bd n) : (digs n.natAbs).length ≤ 80 := digs_len 80 _ h
theorem oct_start {n : Int} : OctW n (if n < 0 then -n else n) [] := by
  refine ⟨by split <;> omega, ?_, by simp⟩
  have : (if n < 0 then -n else n).toNat = n.natAbs := by split <;> omega
  rw [this]; rfl
theorem fdiv256 (a : Int) : a.fdiv 256 = a / 256 := Int.fdiv_eq_ediv_of_nonneg a (by omega)
theorem fmod256 (a : Int) : a.fmod 256 = a % 256 := Int.fmod_eq_emod_of_nonneg a (by omega)
theorem oct_step {n left : Int} {octets : List Int} (hb : Bd n) (h : OctW n left octets) (h1 : 0 < left) : OctW n (left.fdiv 256) (octets ++ [left.fmod 256]) := by
  obtain ⟨h0, he, hl⟩ := h
  rw [fdiv256, fmod256]
  have hd : digs left.toNat = (left % 256) :: digs (left / 256).toNat := by
    rw [digs_pos (by omega)]
    have e1 : (left / 256).toNat = left.toNat / 256 := by omega
    have e2 : ((left.toNat % 256 : Nat) : Int) = left % 256 := by omega
    rw [e1, e2]
  have hlen := bd_len hb
  refine ⟨by omega, ?_, ?_⟩
  · rw [← he, hd, List.append_assoc]; rfl
  · have := congrArg List.length he
    rw [hd] at this
    simp only [List.length_append, List.length_cons, List.length_nil] at this ⊢
    omega
theorem oct_less {left : Int} (h : 0 < left) : (left.fdiv 256).toNat < left.toNat := by
  rw [fdiv256]; omega
theorem oct_done {n left : Int} {octets : List Int} (h : OctW n left octets) (h1 : ¬ 0 < left) : octets = digs n.natAbs := by
  obtain ⟨h0, he, _⟩ := h
  have : left.toNat = 0 := by omega
  rw [this, digs_zero, List.append_nil] at he
  exact he
theorem oct_ne {n left : Int} {octets : List Int} (h : OctW n left octets) (h1 : ¬ 0 < left) : n < 0 → 0 < octets.length := by
  intro hn
  rw [oct_done h h1, digs_pos (by omega)]
  simp
theorem oct_in {n left : Int} {octets : List Int} (h : OctW n left octets) : ∀ x ∈ octets, 0 ≤ x ∧ x < 256 := by
  intro x hx
  exact digs_in n.natAbs x (by rw [← h.2.1]; exact List.mem_append_left _ hx)

theorem last_idx {k : Nat} (h : 0 < k) : (-1 + (k : Int)).toNat = k - 1 := by omega
theorem oct_end1 {n left : Int} {octets : List Int} {k : Nat} (h : OctW n left octets) (h1 : ¬ 0 < left) (hl : (0 : Int) < octets.length) (hg : 127 < octets.getD (-1 + (octets.length : Int)).toNat 0) (hn : n < 0) (hk : k = octets.length + 1) :
    (octets ++ [0]).set (k - 1) (0 + 128) = octs n := by
  subst hk
  rw [last_idx (by omega)] at hg
  have e := oct_done h h1
  subst e
  unfold octs
  rw [if_pos ⟨by omega, hg⟩, if_pos hn]
  simp
theorem oct_end2 {n left : Int} {octets : List Int} (h : OctW n left octets) (h1 : ¬ 0 < left) (hl : (0 : Int) < octets.length) (hg : 127 < octets.getD (-1 + (octets.length : Int)).toNat 0) (hn : ¬ n < 0) :
    octets ++ [0] = octs n := by
  rw [last_idx (by omega)] at hg
  have e := oct_done h h1
  subst e
  unfold octs
  rw [if_pos ⟨by omega, hg⟩, if_neg hn]
theorem oct_end3 {n left : Int} {octets : List Int} {k : Nat} (h : OctW n left octets) (h1 : ¬ 0 < left) (hl : (0 : Int) < octets.length) (hg : ¬ 127 < octets.getD (-1 + (octets.length : Int)).toNat 0) (hn : n < 0) (hk : k = octets.length) :
    octets.set (k - 1) (octets.getD (-1 + (octets.length : Int)).toNat 0 + 128) = octs n := by
  subst hk
  rw [last_idx (by omega)] at hg ⊢
  have e := oct_done h h1
  subst e
  unfold octs
  rw [if_neg (fun x => hg x.2), if_pos hn]
theorem oct_end4 {n left : Int} {octets : List Int} (h : OctW n left octets) (h1 : ¬ 0 < left) (hl : (0 : Int) < octets.length) (hg : ¬ 127 < octets.getD (-1 + (octets.length : Int)).toNat 0) (hn : ¬ n < 0) : octets = octs n := by
  rw [last_idx (by omega)] at hg
  have e := oct_done h h1
  subst e
  unfold octs
  rw [if_neg (fun x => hg x.2), if_neg hn]
theorem oct_end6 {n left : Int} {octets : List Int} (h : OctW n left octets) (h1 : ¬ 0 < left) (hl : ¬ (0 : Int) < octets.length) (hn : ¬ n < 0) : octets = octs n := by
  have e := oct_done h h1
  subst e
  unfold octs
  rw [if_neg (fun x => hl (by omega)), if_neg hn]
theorem octs_in (n : Int) : ∀ x ∈ octs n, 0 ≤ x ∧ x < 256 := by
  intro x hx
  unfold octs at hx
  split at hx
  · rcases List.mem_append.mp hx with hx | hx
    · exact digs_in _ x hx
    · have : x = if n < 0 then 128 else 0 := by simpa using hx
      split at this <;> omega
  · rename_i hc
    split at hx
    · rename_i hn
      rcases List.mem_or_eq_of_mem_set hx with hx | hx
      · exact digs_in _ x hx
      · have hp : 0 < (digs n.natAbs).length := by rw [digs_pos (by omega)]; simp
        have hm : (digs n.natAbs).getD ((digs n.natAbs).length - 1) 0 ∈ digs n.natAbs := by
          rw [List.getD_eq_getElem?_getD, List.getElem?_eq_getElem (by omega), Option.getD_some]
          exact List.getElem_mem _
        have := digs_in _ _ hm
        have hq : ¬ 127 < (digs n.natAbs).getD ((digs n.natAbs).length - 1) 0 := fun q => hc ⟨hp, q⟩
        omega
    · exact digs_in _ x hx
theorem octs_len {n : Int} (h : Bd n) : (octs n).length ≤ 81 := by
  have := bd_len h
  unfold octs
  split
  · simp; omega
  · split <;> simp <;> omega
end Mine
namespace Mine
/-- octets as a plain whole number, the least first -/
def val : List Int → Int
  | [] => 0
  | x :: r => x + 256 * val r
/-- the number that octets tell: the last one's greatest bit is the sign -/
def num (ks : List Int) : Int :=
  let t := ks.getD (ks.length - 1) 0
  let v := val (ks.take (ks.length - 1)) + t % 128 * 256 ^ (ks.length - 1)
  if 127 < t then -v else v
end Mine
namespace Mine
theorem val_append (a b : List Int) : val (a ++ b) = val a + 256 ^ a.length * val b := by
  induction a with
  | nil => simp [val]
  | cons x r ih =>
    simp only [List.cons_append, val, List.length_cons]
    rw [ih, Int.pow_succ, Int.mul_add]
    have : 256 * (256 ^ r.length * val b) = 256 ^ r.length * 256 * val b := by
      rw [← Int.mul_assoc, Int.mul_comm 256]
    omega
theorem fold_rev (l : List Int) : l.reverse.foldl (fun v k => v * 256 + k) 0 = val l := by
  induction l with
  | nil => rfl
  | cons x r ih =>
    rw [List.reverse_cons, List.foldl_append, ih]
    simp only [List.foldl_cons, List.foldl_nil, val]
    omega
theorem fold_pow (l : List Int) : l.foldl (fun (p : Int) _ => p * 256) 1 = 256 ^ l.length := by
  have : ∀ (l : List Int) (a : Int), l.foldl (fun (p : Int) _ => p * 256) a = a * 256 ^ l.length := by
    intro l
    induction l with
    | nil => intro a; simp
    | cons x r ih => intro a; rw [List.foldl_cons, ih, List.length_cons, Int.pow_succ, Int.mul_assoc, Int.mul_comm 256]
  rw [this, Int.one_mul]
end Mine
namespace Mine
theorem num_neg {ks : List Int} (h1 : 1 ≤ ks.length) (h : 127 < ks.getD (-1 + (ks.length : Int)).toNat 0) :
    -(val (ks.take (ks.length - 1)) + (ks.getD (-1 + (ks.length : Int)).toNat 0).fmod 128 * 256 ^ (ks.length - 1)) = num ks := by
  rw [last_idx (by omega)] at h ⊢
  unfold num
  rw [if_pos h, Int.fmod_eq_emod_of_nonneg _ (by omega)]
theorem num_pos {ks : List Int} (h1 : 1 ≤ ks.length) (h : ¬ 127 < ks.getD (-1 + (ks.length : Int)).toNat 0) :
    val (ks.take (ks.length - 1)) + (ks.getD (-1 + (ks.length : Int)).toNat 0).fmod 128 * 256 ^ (ks.length - 1) = num ks := by
  rw [last_idx (by omega)] at h ⊢
  unfold num
  rw [if_neg h, Int.fmod_eq_emod_of_nonneg _ (by omega)]
end Mine
namespace Mine
theorem num_nil {ks : List Int} (h : (ks.length : Int) = 0) : num ks = 0 := by
  have : ks = [] := List.eq_nil_of_length_eq_zero (by omega)
  subst this
  decide
end Mine

/- part W1 -/
namespace Mine
open PySem.Calls PySem.Spec
abbrev pr : Program := PySem.Challenge.rw_fe0235_01.row.prog
set_option maxHeartbeats 8000000 in
theorem octets_any (w : World) (mean : ExcName → Option Value) (mg mb : Str → Option Value) : ∀ (n : Int) (tn : Tok) (dp un : Nat) (gd : Option (List Code)) (cn : Str) (cs : Scope) (a : Addr) (ccd : Value) (cl : List (Str × Addr)) (outer : List Env) (A₀ : Around) (base h₀ : Heap) (L : Addr) (m : Str → Option Value) (s : Shared) (R : Result → Shared → Prop),
    Below A₀ base outer h₀ → Fr h₀ L s.heap m → (hd.heap_39 w.params).In h₀ → Top hd.view_39 [Str.ofString "IntStreamer"] mean mg mb h₀ → cs.kind = .function → dp + 1 < recursionLimit → un + 8 < cLine → Bd n →
    (∀ (t : Tok) (h' : Heap) (tk' : Nat), (∀ b o, s.heap.get? b = some o → h'.get? b = some o) → R (.ok (.ret (.bytes (byteArr (octs n)) t))) { s with heap := h', toks := tk' }) →
      codeAny (model PySem.Challenge.rw_fe0235_01.row.prog w) (ktrTop dp un gd cn cs L a ccd cl outer) (.call (.ref 83) ⟨[.int n tn], []⟩) R s := by
  k_fill
  w_top off
  intro n tn dp un gd cn cs a ccd cl outer A₀ base h₀ L m s R B F X N hk hdp hun hbd hret
  k_dflt (refine' code_ownA B F X N rfl rfl hk ?k6 ?k7 ?k8 ?k9 ?kB ?_ ?c2 ?c3 ?c4 ?c5; (case k6 => k_is); (case k7 => k_is); (case k8 => ktr_room); (case k9 => exact BindsTo.of_eq rfl); (case c5 => decide); (case kB => exact locs rfl); (case c2 => exact rfl); (case c3 => exact rfl); (case c4 => exact rfl); k_whole)
  clear B F X N
  intro L' h₁ F' N' B' X' T'
  k_with "exec While Compare cons nil" => (refine Stop.out ?_)
  w_strict (k_steps)
  refine Stop.mk ?_
  rename Fr _ _ _ _ => lF'
  rename News _ _ _ _ => lN'
  refine' ksw_while (σ := Int × Nat × List Value × List Int × Nat) (fun c => [(_, listOf c.2.2.1.toArray c.2.2.2.2)]) (fun c => [(Str.ofString "left", Value.int c.1 c.2.1)]) (fun c => IntsAre c.2.2.1 c.2.2.2.1) [] (fun c => OctW n c.1 c.2.2.2.1) (fun c => c.1.toNat) ((if n < 0 then -n else n), _, [], [], 0) lF' lN' ?kf ?kk ?kp ?_
  case kk => exact List.forall_mem_cons.mpr ⟨by with_unfolding_all rfl, fun _ h => nomatch h⟩
  case kf => exact .nil
  case kp => exact oct_start
  clear lF' lN'
  rintro ⟨left, tl, vs, octets, cnt⟩ kU kH kTk kFacts kInv kFr kNews
  dsimp only at kFacts kInv kFr kNews
  have kLen := kInv.2.2
  k_with "state" => exact oct_step hbd (by assumption) (by assumption)
  k_with "measure" => exact oct_less (by assumption)
  k_with "exec If BoolOp cons nil" => (refine Stop.out ?_)
  k_steps
  · rename News _ _ _ _ => nE'
    simp only [List.push_toArray] at nE'
    refine' ksw_end (_, _, _, _, _) (by assumption) nE' (by kst_in) ?a1 ?a2 ?a5 ?a3 ?a4
    case a1 => kst_facts
    case a2 => kst_all
    case a3 => exact oct_step hbd kInv (by assumption)
    case a4 => exact oct_less (by assumption)
    case a5 =>
      intro z h2 h3
      have hz : z ≠ Str.ofString "left" := h2 _ (.head _)
      simp only [kstB, if_neg hz, List.contains_nil, Bool.false_eq_true, if_false]
  refine Stop.mk ?_
  k_with_none
  have hne := oct_ne kInv (by assumption)
  have hin := oct_in kInv
  have hvs := kFacts.length
  k_steps
  · rename Fr _ _ _ _ => lF
    rename News _ _ _ _ => lN
    try simp only [List.push_toArray] at lN
    refine set_last lF lN (.head fun _ h => nomatch h) (by simp) fun h' F' N' => ?_
    clear lF lN
    k_steps
    rename Fr _ _ _ _ => lF
    rename News _ _ _ _ => lN
    have hk1 : ∀ tk, (vs ++ [Value.int 0 tk]).length = octets.length + 1 := fun tk => by rw [List.length_append, hvs]; rfl
    rw [hk1] at lN
    refine' KBa.make_K lF lN rfl (PySem.IsL.isList (lN _ (.head _)).1) (ints_set (IntsAre.append kFacts (.cons _ _ .nil)) _) ?kr ?kn fun h'' t'' k'' F'' N'' _ => ⟨_, F'', ?_⟩
    case kr => rw [oct_end1 kInv (by assumption) (by assumption) (by assumption) (by assumption) rfl]; exact octs_in n
    case kn => rw [oct_end1 kInv (by assumption) (by assumption) (by assumption) (by assumption) rfl]; have := octs_len hbd; omega
    rw [oct_end1 kInv (by assumption) (by assumption) (by assumption) (by assumption) rfl]
    exact hret _ _ _ F''.keep
  · rename Fr _ _ _ _ => lF
    rename News _ _ _ _ => lN
    simp only [List.push_toArray] at lN
    refine' KBa.make_K lF lN rfl (PySem.IsL.isList (lN _ (.head _)).1) (IntsAre.append kFacts (.cons _ _ .nil)) ?kr ?kn fun h'' t'' k'' F'' N'' _ => ⟨_, F'', ?_⟩
    case kr => rw [oct_end2 kInv (by assumption) (by assumption) (by assumption) (by assumption)]; exact octs_in n
    case kn => rw [oct_end2 kInv (by assumption) (by assumption) (by assumption) (by assumption)]; have := octs_len hbd; omega
    rw [oct_end2 kInv (by assumption) (by assumption) (by assumption) (by assumption)]
    exact hret _ _ _ F''.keep
  · rename Fr _ _ _ _ => lF
    rename News _ _ _ _ => lN
    refine set_last lF lN (.head fun _ h => nomatch h) (by omega) fun h' F' N' => ?_
    clear lF lN
    k_steps
    rename Fr _ _ _ _ => lF
    rename News _ _ _ _ => lN
    rw [hvs] at lN
    refine' KBa.make_K lF lN rfl (PySem.IsL.isList (lN _ (.head _)).1) (ints_set kFacts _) ?kr ?kn fun h'' t'' k'' F'' N'' _ => ⟨_, F'', ?_⟩
    case kr => rw [oct_end3 kInv (by assumption) (by assumption) (by assumption) (by assumption) rfl]; exact octs_in n
    case kn => rw [oct_end3 kInv (by assumption) (by assumption) (by assumption) (by assumption) rfl]; have := octs_len hbd; omega
    rw [oct_end3 kInv (by assumption) (by assumption) (by assumption) (by assumption) rfl]
    exact hret _ _ _ F''.keep
  · rename Fr _ _ _ _ => lF
    refine ⟨_, lF, ?_⟩
    rw [oct_end4 kInv (by assumption) (by assumption) (by assumption) (by assumption)]
    exact hret _ _ _ lF.keep
  · exfalso; omega
  · rename Fr _ _ _ _ => lF
    refine ⟨_, lF, ?_⟩
    rw [oct_end6 kInv (by assumption) (by assumption) (by assumption)]
    exact hret _ _ _ lF.keep
end Mine

/- part W2 -/
namespace Mine
open PySem.Calls PySem.Spec
theorem clip_last {n : Nat} (h : 1 ≤ n) : clipAt n (-1) = n - 1 := by unfold clipAt; simp; omega
set_option maxHeartbeats 8000000 in
theorem number_any (w : World) (mean : ExcName → Option Value) (mg mb : Str → Option Value) : ∀ (b : Array UInt8) (ks : List Int) (tn : Tok) (dp un : Nat) (gd : Option (List Code)) (cn : Str) (cs : Scope) (a : Addr) (ccd : Value) (cl : List (Str × Addr)) (outer : List Env) (A₀ : Around) (base h₀ : Heap) (L : Addr) (m : Str → Option Value) (s : Shared) (R : Result → Shared → Prop),
    Below A₀ base outer h₀ → Fr h₀ L s.heap m → (hd.heap_39 w.params).In h₀ → Top hd.view_39 [Str.ofString "IntStreamer"] mean mg mb h₀ → cs.kind = .function → dp + 1 < recursionLimit → un + 8 < cLine →
    KBw.bInts b = ks → 1 ≤ ks.length → ks.length ≤ 100 →
    (∀ (t : Tok) (h' : Heap) (tk' : Nat), (∀ b o, s.heap.get? b = some o → h'.get? b = some o) → R (.ok (.ret (.int (num ks) t))) { s with heap := h', toks := tk' }) →
      codeAny (model PySem.Challenge.rw_fe0235_01.row.prog w) (ktrTop dp un gd cn cs L a ccd cl outer) (.call (.ref 90) ⟨[.bytes b tn], []⟩) R s := by
  k_fill
  w_top off
  intro b ks tn dp un gd cn cs a ccd cl outer A₀ base h₀ L m s R B F X N hk hdp hun hbs hk1 hk2 hret
  k_dflt (refine' code_ownA B F X N rfl rfl hk ?k6 ?k7 ?k8 ?k9 ?kB ?_ ?c2 ?c3 ?c4 ?c5; (case k6 => k_is); (case k7 => k_is); (case k8 => ktr_room); (case k9 => exact BindsTo.of_eq rfl); (case c5 => decide); (case kB => exact locs rfl); (case c2 => exact rfl); (case c3 => exact rfl); (case c4 => exact rfl); k_whole)
  clear B F X N
  intro L' h₁ F' N' B' X' T'
  k_with_none
  k_with "call type:reversed" => (refine Stop.out ?_)
  w_strict (k_steps)
  refine Stop.mk ?_
  k_with_none
  rename Fr _ _ _ _ => lF
  rename News _ _ _ _ => lN
  rename KBw.bInts (KBy.picked _ _ _) = _ => kb
  rw [clip_last hk1] at kb
  have hIni : (ks.take (ks.length - 1)).length = ks.length - 1 := by rw [List.length_take]; omega
  refine for_rv (y := Str.ofString "value") (c₀ := 0) (fun v k => v * 256 + k) (by have := KBc.size_picked_le b none (some (-1)); rw [← KBw.ints_length b, hbs] at this; omega) (by assumption) rfl lF lN (by with_unfolding_all rfl) ?turn ?done
  case turn =>
    intro k t a ta h tk own hk h0 h1 hoff F1 N1
    clear lF lN
    k_steps
  case done =>
    intro u t h tk F1 N1
    clear lF lN
    rw [fold_rev] at F1
    k_with "exec For Name Subscript cons nil" => ((rename Fr _ _ _ _ => lF'); (with_unfolding_all refine' For_invVF lF' ?k1 ?k2 ?_; (case k1 => exact rfl); (case k2 => exact rfl); k_whole))
    k_with "pyIter bytes" => (refine Stop.out ?_)
    k_steps
    · exfalso; omega
    · refine Stop.mk ?_
      k_with_none
      rename Fr _ _ _ _ => lF
      rename News _ _ _ _ => lN
      rename KBw.bInts (KBy.picked _ _ _) = _ => kb2
      rw [clip_last hk1] at kb2
      refine KBw.iterBytes_acc1 (y := Str.ofString "power") (c₀ := 1) (fun p _ => p * 256) (by assumption) rfl lF lN (by with_unfolding_all rfl) ?turn2 ?done2
      case turn2 =>
        intro k t a ta h tk own hk h0 h1 hoff F1 N1
        clear lF lN
        k_steps
      case done2 =>
        intro u t h tk F1 N1
        clear lF lN
        rw [fold_pow] at F1
        rw [hIni] at F1
        k_steps
        · rename Fr _ _ _ _ => lF
          refine ⟨_, lF, ?_⟩
          rw [num_neg hk1 (by assumption)]
          exact hret _ _ _ lF.keep
        · rename Fr _ _ _ _ => lF
          refine ⟨_, lF, ?_⟩
          rw [num_pos hk1 (by assumption)]
          exact hret _ _ _ lF.keep
end Mine

/- part CL13 -/
namespace Mine
open PySem.Calls PySem.Spec

/-- a value that a shift by eight does not take out of the machine's line -/
def Bb (n : Int) : Prop := n.natAbs < 256 ^ 110
theorem bb_bits {a : Int} (h : Bb a) : (Builtin.Int.intBits a : Int) + 8 ≤ 2 ^ 27 := by
  have hb : Builtin.Int.intBits a ≤ 880 := intBits_le (by unfold Bb at h; rw [show (2 : Nat) ^ 880 = 256 ^ 110 by rw [show (256 : Nat) = 2 ^ 8 from rfl, ← Nat.pow_mul]]; exact h)
  omega
theorem wpC_ofL {α : Type} {M : Model} {A A' : Around} {m : Sem α} {Q : α → Shared → Prop} {lv : Value → Sem Unit} {Q' : Value → Unit → Shared → Prop} {E' : Value → Shared → Prop} {s : Shared}
    (h : wpAny M A m Q (fun e s' => wpAny M A' (lv e) (Q' e) E' s') s) : wpC M A m Q (fun e s' => wpC M A' (lv e) (Q' e) E' s') s :=
  wpC_of (wpAny_mono h (fun _ _ x => x) fun _ _ x => wpC_of x)
section
variable {prog : Program} {w : World} {A : Around} {E : Value → Shared → Prop} {s : Shared} {t : Tok} {a : Int}
theorem ba_shl {u : Tok} {Q : Value → Shared → Prop} (hb : Bb a) (h : Q (.int (a * 256) s.toks) { s with toks := s.toks + 1 }) :
    wpAny (model prog w) A (inplaceOp .LShift (.int a t) (.int 8 u)) Q E s := ilshift_int (by decide) (bb_bits hb) h
end

section
variable {prog : Program} {w : World} {A : Around} {E : Value → Shared → Prop} {s : Shared} {h₀ : Heap} {L : Addr} {m : Str → Option Value} {news rest : List (Addr × Obj)} {a : Addr} {b : Array UInt8} {ks : List Int}
theorem bi_get {i : Nat} (hb : KBw.bInts b = ks) (h : i < ks.length) : ∃ c, b[i]? = some c ∧ ks.getD i 0 = (c.toNat : Int) := by
  subst hb
  rw [KBw.ints_length] at h
  refine ⟨b[i], by simp [h], ?_⟩
  have := KBw.ints_get (b := b) (i := i) (c := b[i]) (by simp [h])
  rw [List.getD_eq_getElem?_getD, this, Option.getD_some]
theorem item_ba {value slice : PySem.Expr} {i : Int} {k : Nat} {t : Tok} {Q : Value → Shared → Prop} (N : News h₀ L s.heap ((a, baObj b) :: rest)) (hb : KBw.bInts b = ks)
    (hf : Builtin.Bytes.fitsIndex i = true) (hk : seqIndex? i ks.length = some k) (hl : k < ks.length)
    (h : ∀ t' k', 0 ≤ ks.getD k 0 → ks.getD k 0 < 256 → Q (.int (ks.getD k 0) t') { s with toks := k' })
    (hs : subscripted slice false (.ref a) (.int i t) = operate [.ref a, .int i t] (getItem (.ref a) (.int i t)) := by with_unfolding_all rfl) :
    wpAny (model prog w) A (subscriptTail value slice (.ref a) (.int i t)) Q E s := by
  have ho := (N _ (.head _)).1
  obtain ⟨c, hc, e⟩ := bi_get hb hl
  have hk : seqIndex? i b.size = some k := by rw [← hk, ← hb, KBw.ints_length]
  have hr : 0 ≤ ks.getD k 0 ∧ ks.getD k 0 < 256 := KBw.getD_in fun x hx => KBw.ints_in (b := b) (by rw [hb]; exact hx)
  exact tail_any ⟨_, ho, rfl⟩ ba_getitem.lookup (getItem_ba ho hf hk hc (by have := h s.toks (s.toks + 1) hr.1 hr.2; rw [e] at this; exact this)) hs
theorem len_biK {Q : Value → Shared → Prop} (N : News h₀ L s.heap ((a, baObj b) :: rest)) (hb : KBw.bInts b = ks) (hz : ks.length ≤ 100) (h : ∀ t' k', Q (.int ks.length t') { s with toks := k' }) :
    wpAny (model prog w) A (call (.builtin "len") [.ref a]) Q E s := by
  subst hb
  rw [KBw.ints_length] at hz h
  exact len_ba (N _ (.head _)).1 (by have : sizeLine = 16777216 := rfl; omega) (h _ _)
theorem rev_K {Q : Value → Shared → Prop} (F : Fr h₀ L s.heap m) (N : News h₀ L s.heap ((a, baObj b) :: rest)) (hap : ∀ p ∈ rest, p.1 ≠ a) (hb : KBw.bInts b = ks) (hz : ks.length ≤ 100) {js : List Int} (hj : ks.reverse = js)
    (h : ∀ c h', KBw.bInts c = js → Fr h₀ L h' m → News h₀ L h' ((a, baObj c) :: rest) → Q .none { s with heap := h' }) : wpAny (model prog w) A (call (.builtin "bytearray.reverse") [.ref a]) Q E s := by
  refine reverse_ba F N hap ?_ fun h' F' N' => h _ _ ?_ F' N'
  · rw [← hb, KBw.ints_length] at hz
    have : sizeLine = 16777216 := rfl
    omega
  · subst hj; subst hb; simp [KBw.bInts]
theorem idx0 {n : Nat} (h : 0 < n) : seqIndex? 0 n = some 0 := by simp [seqIndex?, h]
theorem idx1 {n : Nat} (h : 1 < n) : seqIndex? 1 n = some 1 := by simp [seqIndex?]; omega
theorem drop_bi (hb : KBw.bInts b = ks) : KBw.bInts (KBy.picked b (some 1) none) = ks.drop 1 := by
  have e := KBc.ints_picked hb (some 1) none
  simp only [Option.elim] at e
  have h1 : clipAt ks.length 1 = min 1 ks.length := by unfold clipAt; simp; omega
  rw [h1] at e
  rw [e]
  cases ks with
  | nil => rfl
  | cons k l => simp
theorem cut_K {value slice : PySem.Expr} {t : Tok} {Q : Value → Shared → Prop} (F : Fr h₀ L s.heap m) (N : News h₀ L s.heap ((a, baObj b) :: rest)) (hb : KBw.bInts b = ks) (hz : ks.length ≤ 100)
    (h : ∀ c q h', KBw.bInts c = ks.drop 1 → Fr h₀ L h' m → News h₀ L h' ((q, baObj c) :: (a, baObj b) :: rest) → (∀ p ∈ (a, baObj b) :: rest, p.1 < q) → Q (.ref q) { s with heap := h' })
    (hs : subscripted slice false (.ref a) (.ref s.heap.objs.size) = operate [.ref s.heap.objs.size, .ref a] (getItem (.ref a) (.ref s.heap.objs.size)) := by with_unfolding_all rfl) :
    wpAny (model prog w) A (subscriptTail value slice (.ref a) (.ref s.heap.objs.size)) Q E { s with heap := s.heap.push { cls := .type "slice", data := .fields #[.int 1 t, .none, .none] } } :=
  slice_ba F N (.head _) (by rw [← hb, KBw.ints_length] at hz; have : sizeLine = 16777216 := rfl; omega) (fun q h' F' N' hlt => h _ q h' (drop_bi hb) F' N' hlt) hs
end

section
variable {prog : Program} {w : World} {A : Around} {E : Value → Shared → Prop} {s : Shared} {env : Env} {h₀ : Heap} {x : PySem.Str} {body : List Stmt} {Q : Flow → Shared → Prop} {a : Addr} {b : Array UInt8} {ks : List Int}
  {m₀ : PySem.Str → Option Value} {news : List (Addr × Obj)}
/-- «for x in a bytearray», one int turned, the turn told of a bound -/
theorem for_ba {y : PySem.Str} {c₀ : Int} {tc : Tok} (g : Int → Int → Int) (Bd' : Int → Prop) (hB : ∀ i, i ≤ ks.length → Bd' ((ks.take i).foldl g c₀))
    (hk : KBw.bInts b = ks) (hh : A.handled = none) (F : Fr h₀ env.locals s.heap m₀) (N : News h₀ env.locals s.heap ((a, baObj b) :: news)) (hap : ∀ p ∈ news, p.1 ≠ a) (hy : m₀ y = some (.int c₀ tc))
    (turn : ∀ k t c ta h tk own, k ∈ ks → 0 ≤ k → k < 256 → Bd' c → OwnOff own (news.map (·.1)) → Fr h₀ env.locals h (fun z => if z = x then some (.int k t) else if z = y then some (.int c ta) else m₀ z) → News h₀ env.locals h (news ++ own) →
      wpAny (model prog w) A (execs body env) (InvPostN h₀ env.locals (fun m' nx => nx = news ∧ (∃ t', m' y = some (.int (g c k) t')) ∧ ∀ z, z ≠ x → z ≠ y → m' z = m₀ z) own (news.map (·.1)) { s with heap := h, toks := tk } Q) E { s with heap := h, toks := tk })
    (done : ∀ (u : PySem.Str → Option Value) t h tk, Fr h₀ env.locals h (fun z => if z = x then u z else if z = y then some (.int (ks.foldl g c₀) t) else m₀ z) → News h₀ env.locals h news → Q .next { s with heap := h, toks := tk }) :
    wpAny (model prog w) A (pyIter (.ref a)) (fun it s₂ => LoopAtV prog w A h₀ env x body Q E it s₂) E s := by
  have hlen : ks.length = b.size := by rw [← hk, KBw.ints_length]
  have ho := N (a, baObj b) (.head _)
  have Nr : News h₀ env.locals s.heap news := fun p hp => N p (.tail _ hp)
  refine pyIter_ba ho.1 ?_
  have hIa : a ≠ s.heap.objs.size := Nat.ne_of_lt (Heap.lt_size ho.1)
  have W := walks_ba (prog := prog) (w := w) hh s.heap.objs.size a hIa b
  refine loop_invN (s := { s with heap := s.heap.push { cls := .type "bytearray_iterator", data := .fields #[.ref a, .int 0 0] } }) (fun i m nx => nx = news ∧ (∃ t, m y = some (.int ((ks.take i).foldl g c₀) t)) ∧ ∀ z, z ≠ x → z ≠ y → m z = m₀ z) W ?_ ?_ ?_ ?_ ?_ (F.push _) (fun p hp => ⟨Heap.get?_push_of_some _ (Nr p hp).1, (Nr p hp).2⟩) ⟨rfl, ⟨tc, hy⟩, fun _ _ _ => rfl⟩ ?_ ?_
  · intro hm
    rcases List.mem_cons.mp hm with e | hm
    · exact absurd F.ns.lt (e ▸ Nat.lt_irrefl _)
    · exact ho.2.1 (List.mem_singleton.mp hm).symm
  · intro b' hb
    rw [List.mem_singleton.mp hb]
    exact next_is_new F
  · intro p hp hI
    exact absurd (Heap.lt_size (Nr p hp).1) ((List.mem_singleton.mp hI) ▸ Nat.lt_irrefl _)
  · intro p hp hI
    rcases List.mem_cons.mp hI with e | hI
    · exact absurd (Heap.lt_size (Nr p hp).1) (e ▸ Nat.lt_irrefl _)
    · exact hap p hp (List.mem_singleton.mp hI)
  · exact ⟨⟨_, Heap.get?_push_size _ rfl, rfl, rfl⟩, Heap.get?_push_of_some _ ho.1⟩
  · rintro i v m₁ nx h tk own hi ⟨c, u, hc, rfl⟩ _ hoff ⟨rfl, ⟨ta, ha⟩, hm⟩ F₁ N₁
    have hx : ks[i]? = some (c.toNat : Int) := by rw [← hk]; exact KBw.ints_get hc
    have hs : (ks.take (i + 1)).foldl g c₀ = g ((ks.take i).foldl g c₀) (c.toNat : Int) := by
      rw [List.take_add_one, hx]; simp
    rw [map_one ha hm] at F₁
    have hin := KBw.ints_in (b := b) (k := (c.toNat : Int)) (by rw [hk]; exact List.mem_of_getElem? hx)
    rw [hs]
    exact turn _ u _ ta h tk own (List.mem_of_getElem? hx) hin.1 hin.2 (hB i (by omega)) hoff F₁ N₁
  · rintro m₁ nx h tk ⟨rfl, ⟨t, ha⟩, hm⟩ F₁ N₁
    rw [← hlen, List.take_length] at ha
    refine done m₁ t h tk ?_ N₁
    rw [done_one ha hm]; exact F₁
end
end Mine
namespace Mine
theorem raised_nil {base : Heap} {l : List Env} {e t : Addr} {cls : Value} {vs : List Value} {news : List (Addr × Obj)} {h : Heap} (R : RaisedK base l e cls t vs news h) : RaisedK base l e cls t vs [] h := by
  obtain ⟨⟨B, hB, _, hfl, hnew⟩, htup⟩ := R
  exact ⟨⟨B, hB, fun _ h => (nomatch h), hfl, hnew⟩, htup⟩
end Mine

/- part M2 -/
namespace Mine

theorem and128 {x : Int} (h0 : 0 ≤ x) (h1 : x < 256) : Builtin.bitAnd x 128 = if 127 < x then 128 else 0 := by
  have h : ∀ k, k < 256 → k &&& 128 = if 127 < k then 128 else 0 := by decide +kernel
  rw [bitAnd_pp h0 (by decide)]
  have := h x.toNat (by omega)
  rw [show (128 : Int).toNat = 128 from rfl, this]
  split <;> split <;> omega
theorem and127 (x : Int) : Spec.bitAnd x 127 = x % 128 := bitAnd_m7 x

theorem fold_big (l : List Int) : ∀ c : Int, l.reverse.foldl (fun v k => v * 256 + k) c = c * 256 ^ l.length + val l := by
  induction l with
  | nil => intro c; simp [val]
  | cons x r ih =>
    intro c
    rw [List.reverse_cons, List.foldl_append, ih]
    simp only [List.foldl_cons, List.foldl_nil, val, List.length_cons, Int.pow_succ, ← Int.mul_assoc]
    omega
theorem fold_bd : ∀ (l : List Int) (c : Int) (k : Nat), (∀ x ∈ l, 0 ≤ x ∧ x < 256) → 0 ≤ c → c < 256 ^ k → 0 ≤ l.foldl (fun v k => v * 256 + k) c ∧ l.foldl (fun v k => v * 256 + k) c < 256 ^ (k + l.length) := by
  intro l
  induction l with
  | nil => intro c k _ h0 h1; exact ⟨h0, h1⟩
  | cons x r ih =>
    intro c k hr h0 h1
    have hx := hr x (.head _)
    have := ih (c * 256 + x) (k + 1) (fun y hy => hr y (.tail _ hy)) (by omega) (by rw [Int.pow_succ]; omega)
    rw [List.foldl_cons, List.length_cons, show k + (r.length + 1) = k + 1 + r.length by omega]
    exact this
theorem bb_fold {js : List Int} {c : Int} (hr : ∀ x ∈ js, 0 ≤ x ∧ x < 256) (hl : js.length ≤ 100) (i : Nat) :
    Bb (((js.drop 1).take i).foldl (fun v k => v * 256 + k) (Spec.bitAnd c 127)) := by
  rw [and127]
  have hlen : ((js.drop 1).take i).length ≤ 100 := by rw [List.length_take, List.length_drop]; omega
  have h := fold_bd ((js.drop 1).take i) (c % 128) 1 (fun x hx => hr x (List.mem_of_mem_drop (List.mem_of_mem_take hx))) (by omega) (by omega)
  have h2 : 256 ^ (1 + ((js.drop 1).take i).length) ≤ 256 ^ 110 := Nat.pow_le_pow_right (by decide) (by omega)
  have h3 : ((256 ^ (1 + ((js.drop 1).take i).length) : Nat) : Int) = (256 : Int) ^ (1 + ((js.drop 1).take i).length) := by rw [Int.natCast_pow]; rfl
  unfold Bb
  rw [← h3] at h
  generalize 256 ^ (1 + ((js.drop 1).take i).length) = P at *
  generalize 256 ^ 110 = P' at *
  omega
theorem first_rev {ks js : List Int} (h : ks.reverse = js) (h1 : 0 < ks.length) : js.getD 0 0 = ks.getD (ks.length - 1) 0 := by
  subst h
  rw [List.getD_eq_getElem?_getD, List.getD_eq_getElem?_getD, List.getElem?_reverse h1]
  rfl
theorem second_rev {ks js : List Int} (h : ks.reverse = js) (h1 : 1 < ks.length) : js.getD 1 0 = ks.getD (ks.length - 2) 0 := by
  subst h
  rw [List.getD_eq_getElem?_getD, List.getD_eq_getElem?_getD, List.getElem?_reverse h1]
  rfl
theorem from_value {ks js : List Int} (h : ks.reverse = js) (h1 : 0 < ks.length) :
    (js.drop 1).foldl (fun v k => v * 256 + k) (Spec.bitAnd (js.getD 0 0) 127) = val (ks.take (ks.length - 1)) + ks.getD (ks.length - 1) 0 % 128 * 256 ^ (ks.length - 1) := by
  rw [and127, first_rev h h1]
  subst h
  rw [List.drop_reverse, fold_big, List.length_take, Nat.min_eq_left (by omega)]
  omega
theorem from_neg {ks js : List Int} (h : ks.reverse = js) (h1 : 0 < ks.length) (h0 : 0 ≤ js.getD 0 0) (h2 : js.getD 0 0 < 256) (hn : 0 < Builtin.bitAnd (js.getD 0 0) 128) :
    -(js.drop 1).foldl (fun v k => v * 256 + k) (Spec.bitAnd (js.getD 0 0) 127) = num ks := by
  rw [from_value h h1]
  rw [and128 h0 h2, first_rev h h1] at hn
  unfold num
  split at hn
  · rename_i hc; rw [if_pos hc]
  · omega
theorem from_pos {ks js : List Int} (h : ks.reverse = js) (h1 : 0 < ks.length) (h0 : 0 ≤ js.getD 0 0) (h2 : js.getD 0 0 < 256) (hn : ¬ 0 < Builtin.bitAnd (js.getD 0 0) 128) :
    (js.drop 1).foldl (fun v k => v * 256 + k) (Spec.bitAnd (js.getD 0 0) 127) = num ks := by
  rw [from_value h h1]
  rw [and128 h0 h2, first_rev h h1] at hn
  unfold num
  split at hn
  · omega
  · rename_i hc; rw [if_neg hc]
/-- the octets are not the shortest ones -/
def bad (ks : List Int) : Prop := 0 < ks.length ∧ ks.getD (ks.length - 1) 0 % 128 = 0 ∧ (ks.length ≤ 1 ∨ ks.getD (ks.length - 2) 0 < 128)
theorem ints_all {b : Array UInt8} {ks : List Int} (h : KBw.bInts b = ks) : ∀ x ∈ ks, 0 ≤ x ∧ x < 256 := fun x hx => KBw.ints_in (b := b) (by rw [h]; exact hx)
end Mine
namespace Mine
theorem bad_yes {ks js : List Int} (h : ks.reverse = js) (h1 : 0 < ks.length) (hv : Builtin.bitAnd (js.getD 0 0) 127 = 0) (hc : (js.length : Int) ≤ 1 ∨ (0 ≤ js.getD 1 0 ∧ js.getD 1 0 < 256 ∧ Builtin.bitAnd (js.getD 1 0) 128 = 0)) : bad ks := by
  rw [bitAnd_m7, first_rev h h1] at hv
  have hl : js.length = ks.length := by rw [← h, List.length_reverse]
  refine ⟨h1, hv, ?_⟩
  by_cases h2 : ks.length ≤ 1
  · exact .inl h2
  · refine .inr ?_
    rcases hc with hc | ⟨a, b, hc⟩
    · omega
    · rw [and128 a b, second_rev h (by omega)] at hc
      split at hc
      · omega
      · omega
theorem bad_no {ks js : List Int} (h : ks.reverse = js) (h1 : 0 < ks.length) (hc : ¬ Builtin.bitAnd (js.getD 0 0) 127 = 0 ∨ (¬ (js.length : Int) ≤ 1 ∧ 0 ≤ js.getD 1 0 ∧ js.getD 1 0 < 256 ∧ ¬ Builtin.bitAnd (js.getD 1 0) 128 = 0)) : ¬ bad ks := by
  rintro ⟨_, hb, hd⟩
  have hl : js.length = ks.length := by rw [← h, List.length_reverse]
  rcases hc with hc | ⟨h2, a, b, hc⟩
  · rw [bitAnd_m7, first_rev h h1] at hc; exact hc hb
  · rw [and128 a b, second_rev h (by omega)] at hc
    split at hc <;> omega
theorem bad_nil {ks : List Int} (h : (ks.length : Int) = 0) : ¬ bad ks := fun hb => by have := hb.1; omega
end Mine

/- part W3 -/
namespace Mine
open PySem.Calls PySem.Spec
local macro_rules | `(tactic| walk_at "getMethod ref") => `(tactic| ((with_reducible show wpAny _ _ (getMethod (Value.ref _) _ _) _ _ _); (with_reducible rename News _ _ _ ((_, baObj _) :: _) => lN); refine getMethod_ba (lN _ (.head _)).1 ba_reverse ty_reverse ?_))
local macro_rules | `(tactic| walk_at "call builtin:bytearray.reverse") => `(tactic| ((with_reducible rename Fr _ _ _ _ => lF); (with_reducible rename News _ _ _ ((_, baObj _) :: _) => lN); refine rev_K lF lN (by first | exact fun _ h => nomatch h | assumption) (by assumption) (by assumption) (by assumption) ?_; (clear lF lN); intro _ _ _ _ _))
local macro_rules | `(tactic| walk_at "call builtin:len") => `(tactic| ((with_reducible show wpAny _ _ (call (Value.builtin "len") [Value.ref _]) _ _ _); (with_reducible rename News _ _ _ ((_, baObj _) :: _) => lN); refine len_biK lN (by assumption) (by assumption) ?_; intro _ _))
local macro_rules | `(tactic| walk_at "subscriptTail") => `(tactic| ((with_reducible show wpAny _ _ (subscriptTail _ _ (Value.ref _) (Value.int 0 _)) _ _ _); (with_reducible rename News _ _ _ ((_, baObj _) :: _) => lN); refine item_ba lN (by assumption) (by decide) (idx0 (by omega)) (by omega) ?_; intro _ _ _ _))
local macro_rules | `(tactic| walk_at "subscriptTail") => `(tactic| ((with_reducible show wpAny _ _ (subscriptTail _ _ (Value.ref _) (Value.int 1 _)) _ _ _); (with_reducible rename News _ _ _ ((_, baObj _) :: _) => lN); refine item_ba lN (by assumption) (by decide) (idx1 (by omega)) (by omega) ?_; intro _ _ _ _))
local macro_rules | `(tactic| walk_at "subscriptTail") => `(tactic| ((with_reducible show wpAny _ _ (subscriptTail _ _ (Value.ref _) (Value.ref _)) _ _ _); (with_reducible rename Fr _ _ _ _ => lF); (with_reducible rename News _ _ _ ((_, baObj _) :: _) => lN); refine cut_K (s := ⟨_, _, _, _, _⟩) lF lN (by assumption) (by assumption) ?_; (clear lF lN); intro _ _ _ _ _ _ _))
local macro_rules | `(tactic| walk_at "inplaceOp LShift int int") => `(tactic| ((with_reducible show wpAny _ _ (inplaceOp _ (Value.int _ _) (Value.int 8 _)) _ _ _); refine ba_shl (by assumption) ?_))
set_option maxHeartbeats 8000000 in
theorem from_C0 (w : World) (mean : ExcName → Option Value) (mg mb : Str → Option Value) : ∀ (b : Array UInt8) (ks : List Int) (tb : Tok) (dp un : Nat) (gd : Option (List Code)) (cn : Str) (cs : Scope) (a : Addr) (ccd : Value) (cl : List (Str × Addr)) (outer : List Env) (A₀ : Around) (base h₀ : Heap) (L : Addr) (m : Str → Option Value) (s : Shared) (R : Result → Shared → Prop),
    Below A₀ base outer h₀ → Fr h₀ L s.heap m → (hd.heap_39 w.params).In h₀ → Top hd.view_39 [Str.ofString "IntStreamer"] mean mg mb h₀ → cs.kind = .function → dp + 1 < recursionLimit → un + 8 < cLine →
    KBw.bInts b = ks → ks.length ≤ 100 →
    (∀ (t : Tok) (h' : Heap) (tk' : Nat), (∀ b o, s.heap.get? b = some o → h'.get? b = some o) → R (.ok (.ret (.int (num ks) t))) { s with heap := h', toks := tk' }) →
      codeC (model PySem.Challenge.rw_fe0235_01.row.prog w) (ktrTop dp un gd cn cs L a ccd cl outer) (.call (.ref 56) ⟨[.ref 72, .bytes b tb], []⟩) R s := by
  k_fill
  w_top off
  intro b ks tb dp un gd cn cs a ccd cl outer A₀ base h₀ L m s R B F X N hk hdp hun hbs hk2 hret
  k_dflt (refine' code_own B F X N rfl rfl hk ?k6 ?k7 ?k8 ?k9 ?kB ?_ ?c2 ?c3 ?c4 ?c5; (case k6 => k_is); (case k7 => k_is); (case k8 => ktr_room); (case k9 => first | exact BindsTo.of_eq rfl | exact binds_K (X.keeps F.keep) rfl (by k_is) rfl rfl rfl); (case c5 => decide); (case kB => exact locs rfl); (case c2 => exact rfl); (case c3 => exact rfl); (case c4 => exact rfl); k_whole)
  clear B F X N
  intro L' h₁ F' N' B' X' T'
  k_with_none
  refine wpC_execs_consA ?_
  w_strict (k_steps)
  · rename Fr _ _ _ _ => lF
    refine ⟨_, lF, ?_⟩
    have e := num_nil (ks := ks) (by assumption)
    rw [← e]
    exact hret _ _ _ lF.keep
  · refine wpC_execs_cons (wpC_Assign_Name (CallC ?_))
    k_steps
    refine callWithC1 (keeps_machine machine_type) ?_
    k_steps
    · trivial
    rename Fr _ _ _ _ => lF
    rename News _ _ _ _ => lN
    refine make_ba1 lF lN ?hz fun q h' F1 N1 hlt => ?_
    case hz => (have := KBw.ints_length b; have h3 : sizeLine = 16777216 := rfl; rw [hbs] at this; omega)
    clear lF lN
    k_steps
    refine wpC_ofL ?_
    k_with "pyIter ref" => (refine Stop.out ?_)
    have hlen : 0 < ks.length := by omega
    generalize hjs : ks.reverse = js
    have hjl : js.length = ks.length := by rw [← hjs, List.length_reverse]
    have hj1 : 0 < js.length := by omega
    have hj2 : js.length ≤ 100 := by omega
    k_steps
    refine Stop.mk ?_
    k_with_none
    rename Fr _ _ _ _ => lF
    rename News _ _ _ ((_, baObj _) :: (_, baObj _) :: _) => lN
    rename KBw.bInts _ = List.drop _ _ => kb2
    rename ∀ p ∈ [(q, baObj _)], p.1 < _ => lN'
    refine for_ba (y := Str.ofString "v") (c₀ := Spec.bitAnd (js.getD 0 0) 127) (fun v k => v * 256 + k) Bb ?bd kb2 rfl lF lN ?ap (by with_unfolding_all rfl) ?turn ?done
    case ap => exact fun p hp => by simp only [List.mem_singleton] at hp; subst hp; exact Nat.ne_of_lt (lN' (q, _) (by simp))
    case bd =>
      rename KBw.bInts _ = js => kb1
      exact fun i _ => bb_fold (ints_all kb1) hj2 i
    case turn =>
      intro k t c ta h tk own hk h0 h1 hbb hoff F1 N1
      clear lF lN
      k_steps
    case done =>
      intro u t h tk F1 N1
      clear lF lN
      k_steps
      · rename Fr _ _ _ _ => lF
        refine ⟨_, lF, ?_⟩
        rw [from_neg hjs hlen (by assumption) (by assumption) (by assumption)]
        exact hret _ _ _ lF.keep
      · rename Fr _ _ _ _ => lF
        refine ⟨_, lF, ?_⟩
        rw [from_pos hjs hlen (by assumption) (by assumption) (by assumption)]
        exact hret _ _ _ lF.keep
end Mine

/- part CL23 -/
namespace Mine
open PySem.Calls PySem.Spec
/-- the record's third field is none -/
def Ob2 (o : Obj) : Prop := ∃ fs, o.data = .fields fs ∧ fs[2]? = some Value.none
def Hold (e : Addr) (h : Heap) : Prop := ∃ o, h.get? e = some o ∧ Ob2 o
/-- a tree that calls nothing and never writes a record's third field -/
def Safe2 {α : Type} : Sem α → Prop
  | .pure _ => True
  | .raise _ => True
  | .unsupported _ => True
  | .finish _ => True
  | .rule _ k => Safe2 (k ())
  | .at _ k => Safe2 (k ())
  | .load _ _ k => ∀ o, Safe2 (k o)
  | .update _ _ f k => (∀ o, Ob2 o → Ob2 (f o)) ∧ Safe2 (k ())
  | .alloc _ k => ∀ a, Safe2 (k a)
  | .loadIfAlive _ k => ∀ o, Safe2 (k o)
  | .point _ k => Safe2 (k ())
  | .register _ _ => False
  | .fresh k => ∀ t, Safe2 (k t)
  | .ask k => ∀ t, Safe2 (k t)
  | .choose _ _ k => ∀ n, Safe2 (k n)
  | .os _ _ k => ∀ r, Safe2 (k r)
  | .call .. => False
  | .handled _ k => ∀ h, Safe2 (k h)
  | .newGen _ k => ∀ n, Safe2 (k n)
  | .genState _ k => ∀ x, Safe2 (k x)
  | .resume .. => False
  | .yield .. => False
  | .stack k => ∀ l, Safe2 (k l)
  | .fork .. => False
  | .thread k => ∀ n, Safe2 (k n)
  | .await .. => False
theorem hold_update {e a : Addr} {h : Heap} {f : Obj → Obj} (x : Hold e h) (hf : ∀ o, Ob2 o → Ob2 (f o)) : Hold e (h.update a f) := by
  obtain ⟨o, ho, h2⟩ := x
  by_cases hae : a = e
  · subst hae
    have h3 := hf o h2
    have h4 := h3
    obtain ⟨fs, hd, _⟩ := h4
    exact ⟨f o, Heap.get?_update_self f ho (Obj.isFreed_of_fields hd), h3⟩
  · exact ⟨o, (Heap.get?_update_other h f hae).trans ho, h2⟩
theorem hold_push {e : Addr} {h : Heap} {o : Obj} (x : Hold e h) : Hold e (h.push o) := by
  obtain ⟨o', ho, h2⟩ := x
  exact ⟨o', Heap.get?_push_of_some _ ho, h2⟩
theorem wp_safe {α : Type} (M : Model) (Γ : PySem.Ctx) (e : Addr) (t : Sem α) : ∀ (Q : α → Pos → Shared → Prop) (E : Value → Pos → Shared → Prop) (p : Pos) (s : Shared), Safe2 t → Hold e s.heap →
    Sem.wp M Γ t (fun a p' s' => Hold e s'.heap → Q a p' s') (fun x p' s' => Hold e s'.heap → E x p' s') p s → Sem.wp M Γ t Q E p s := by
  induction t with
  | pure a => intro Q E p s _ hh h; exact h hh
  | raise e => intro Q E p s _ hh h; exact h hh
  | unsupported _ => intro Q E p s _ _ h; exact h
  | finish _ => intro Q E p s _ _ h; exact h
  | rule _ k ih => intro Q E p s c hh h; exact ih () Q E p s c hh h
  | «at» p' k ih => intro Q E p s c hh h; exact ih () Q E p' s c hh h
  | load a _ k ih => intro Q E p s c hh h; obtain ⟨o, ho, h⟩ := h; exact ⟨o, ho, ih o Q E p s (c o) hh h⟩
  | update a _ f k ih => intro Q E p s c hh h; exact ⟨h.1, ih () Q E p _ c.2 (hold_update hh c.1) h.2⟩
  | loadIfAlive a k ih => intro Q E p s c hh h; exact ih _ Q E p s (c _) hh h
  | point _ k ih => intro Q E p s c hh h; exact ih () Q E p s c hh h
  | register _ _ => intro Q E p s _ _ h; exact h
  | alloc o k ih => intro Q E p s c hh h; exact ih _ Q E p _ (c _) (hold_push hh) h
  | fresh k ih => intro Q E p s c hh h; exact ih _ Q E p { s with toks := s.toks + 1 } (c _) hh h
  | ask k ih => intro Q E p s c hh h; exact ih _ Q E p s (c _) hh h
  | choose src m k ih => intro Q E p s c hh h; exact ⟨h.1, ih _ Q E p { s with drawn := s.drawn.bump src } (c _) hh h.2⟩
  | os q _ k ih => intro Q E p s c hh h; exact ih _ Q E p { s with os := (Os.step s.os q).1 } (c _) hh h
  | call _ _ _ _ k ih => intro Q E p s c _ _; exact c.elim
  | handled own k ih => intro Q E p s c hh h; exact ih _ Q E p s (c _) hh h
  | genState g k ih => intro Q E p s c hh h; obtain ⟨st, hs, h⟩ := h; exact ⟨st, hs, ih _ Q E p s (c _) hh h⟩
  | newGen cc k ih => intro Q E p s c hh h; exact ih _ Q E p { s with gens := s.gens.push (.fresh cc) } (c _) hh h
  | resume g r _ k ih => intro Q E p s c _ _; exact c.elim
  | yield _ _ _ _ => intro Q E p s _ _ h; exact h
  | stack k ih => intro Q E p s c hh h; exact ih _ Q E p s (c _) hh h
  | fork _ _ => intro Q E p s _ _ h; exact h
  | thread k ih => intro Q E p s c hh h; exact ih _ Q E p s (c _) hh h
  | await _ _ _ _ _ => intro Q E p s _ _ h; exact h
theorem wpAny_hold {α : Type} {M : Model} {A : Around} {E : Value → Shared → Prop} {s : Shared} {e : Addr} {t : Sem α} {Q : α → Shared → Prop} (c : Safe2 t) (hh : Hold e s.heap)
    (h : wpAny M A t (fun a s' => Hold e s'.heap → Q a s') (fun x s' => Hold e s'.heap → E x s') s) : wpAny M A t Q E s :=
  fun Γ p hΓ => wp_safe M Γ e t _ _ p s c hh (h Γ p hΓ)
section
variable {α β : Type}
theorem safe_bind {m : Sem α} {f : α → Sem β} (hm : Safe2 m) (hf : ∀ a, Safe2 (f a)) : Safe2 (m >>= f) := by
  show Safe2 (m.bind f)
  induction m with
  | pure a => exact hf a
  | raise e => trivial
  | unsupported _ => trivial
  | finish _ => trivial
  | rule _ k ih => exact ih () hm
  | «at» p' k ih => exact ih () hm
  | load a _ k ih => exact fun o => ih o (hm o)
  | update a _ f k ih => exact ⟨hm.1, ih () hm.2⟩
  | loadIfAlive a k ih => exact fun o => ih o (hm o)
  | point _ k ih => exact ih () hm
  | register _ _ => exact hm.elim
  | alloc o k ih => exact fun o => ih o (hm o)
  | fresh k ih => exact fun o => ih o (hm o)
  | ask k ih => exact fun o => ih o (hm o)
  | choose src m k ih => exact fun o => ih o (hm o)
  | os q _ k ih => exact fun o => ih o (hm o)
  | call _ _ _ _ k ih => exact hm.elim
  | handled own k ih => exact fun o => ih o (hm o)
  | genState g k ih => exact fun o => ih o (hm o)
  | newGen cc k ih => exact fun o => ih o (hm o)
  | resume g r _ k ih => exact hm.elim
  | yield _ _ _ _ => exact hm.elim
  | stack k ih => exact fun o => ih o (hm o)
  | fork _ _ => exact hm.elim
  | thread k ih => exact fun o => ih o (hm o)
  | await _ _ _ _ _ => exact hm.elim
theorem safe_pure (a : α) : Safe2 (pure a : Sem α) := trivial
theorem safe_unsupported (w : String) : Safe2 (unsupported w : Sem α) := trivial
theorem safe_load (a : Addr) : Safe2 (load a) := fun _ => trivial
theorem safe_stack : Safe2 stack := fun _ => trivial
theorem safe_field (v : Value) (i : Nat) : Safe2 (field v i) := by
  unfold field
  refine safe_bind ?_ fun fs => ?_
  · unfold fieldsOf
    split
    · refine safe_bind (safe_load _) fun o => ?_
      split <;> trivial
    · trivial
  · split <;> trivial
theorem safe_setField (v x : Value) {i : Nat} (hi : i ≠ 2) : Safe2 (setField v i x) := by
  unfold setField
  split
  · unfold updateField
    refine safe_bind (safe_load _) fun o => ?_
    split
    · split
      · refine ⟨fun o h => ?_, trivial⟩
        obtain ⟨fs, hd, h2⟩ := h
        exact ⟨_, Obj.data_mapFields hd _, by rw [Array.getElem?_setIfInBounds_ne hi]; exact h2⟩
      · trivial
    · trivial
  · trivial
theorem safe_newFields (ty : String) (vs : List Value) : Safe2 (newFields ty vs) := by
  unfold newFields newObj
  dsimp only
  split
  · exact safe_bind (safe_unsupported _) fun _ => fun _ => trivial
  · exact fun _ => trivial
theorem safe_setFlight (v : Value) (fr : Option Addr) : Safe2 (setFlight v fr) := by
  unfold setFlight
  refine safe_bind (safe_field _ _) fun tb => ?_
  split
  · exact safe_setField _ _ (by decide)
  · trivial
theorem safe_behind (env : Env) (outer : List Env) : Safe2 (behindIsImport env outer) := by
  unfold behindIsImport
  split
  · trivial
  · split
    · trivial
    · exact safe_bind (safe_field _ _) fun _ => trivial
theorem safe_kept (env : Env) (b : Bool) (outer : List Env) : Safe2 (keptBack env b outer) := by
  unfold keptBack
  split
  · split
    · trivial
    · refine safe_bind ?_ fun _ => trivial
      unfold underTheClaimsCaller
      exact safe_bind safe_stack fun _ => trivial
  · trivial
theorem safe_ready : ∀ l : List Env, Safe2 (readyFrames l)
  | [] => trivial
  | env :: outer => by
    unfold readyFrames
    split
    · refine safe_bind (safe_load _) fun o => ?_
      split
      · trivial
      · refine safe_bind (safe_behind _ _) fun b => ?_
        refine safe_bind (safe_kept _ _ _) fun v => ?_
        refine safe_bind ?_ fun _ => safe_ready outer
        exact ⟨fun o h => h, trivial⟩
    · trivial
theorem safe_frameOf (env : Env) : Safe2 (PySem.frameOf env) := by
  unfold PySem.frameOf frameEnvs
  refine safe_bind (safe_bind safe_stack fun _ => trivial) fun l => ?_
  refine safe_bind ?_ fun f => ?_
  · unfold frameObject
    split
    · trivial
    · exact safe_bind (safe_ready _) fun _ => trivial
  · split <;> trivial
theorem safe_place (f : Addr) (b : Bool) : Safe2 (entryPlaceOf f b) := by
  unfold entryPlaceOf
  refine safe_bind safe_stack fun l => ?_
  dsimp only
  split <;> trivial
theorem safe_note (v : Value) (env : Env) : Safe2 (noteFrame v env) := by
  unfold noteFrame
  split
  · refine safe_bind (safe_field _ _) fun hd => ?_
    have rest : Safe2 (do let a ← PySem.frameOf env; let pl ← entryPlaceOf ‹Addr› (hd != .none); let b ← EntryCells.newEntry hd a .none (rawInt ‹Addr›) .none pl; setField v 1 b) :=
      safe_bind (safe_frameOf _) fun _ => safe_bind (safe_place _ _) fun _ => safe_bind (safe_newFields _ _) fun _ => safe_setField _ _ (by decide)
    split
    · refine safe_bind (safe_field _ _) fun x => ?_
      split
      · trivial
      · exact safe_bind (safe_setField _ _ (by decide)) fun _ => rest
    · exact rest
  · trivial
theorem safe_leaving (v : Value) (env : Env) : Safe2 (leaving env v) := by
  unfold leaving
  exact safe_bind (safe_note _ _) fun _ => safe_setFlight _ _
theorem hold_made {h h' : Heap} {e : Addr} {cls : Value} {args : List Value} (x : Heap.MadeExcOf h h' e cls args) : Hold e h' := by
  obtain ⟨t, he, _, _⟩ := x.there
  exact ⟨_, he, _, rfl, rfl⟩
end
section
variable {M : Model} {A : Around} {E : Value → Shared → Prop} {s' : Shared} {base g g₂ h : Heap} {outer : List Env} {L a e : Addr} {m : Str → Option Value} {name : Str} {scope : Scope} {cd : Value} {Q : Unit → Shared → Prop} {news : List (Addr × Obj)}
theorem leave_hold {cls : Value} {vs : List Value} (K : Below A base outer g) (hx : Heap.MadeExcOf h s'.heap e cls vs) (F : Fr g L h m) (N : News g L h news)
    (hQ : ∀ h' t, RaisedK base outer e cls t vs news h' → g.UpToSlots h' → Hold e h' → Q () { s' with heap := h' }) (hk : scope.kind = .function := by rfl) :
    wpAny M (A.deeper (envOf name scope L a cd)) (leaving (envOf name scope L a cd) (.ref e)) Q E s' :=
  wpAny_hold (safe_leaving _ _) (hold_made hx) (wpAny_mono (leave_raiseK (E := E) K hx F N (Q := fun _ s'' => Hold e s''.heap → Q () s'') (fun h' t R U hh => hQ h' t R U hh) hk) (fun _ _ x => x) fun _ _ x _ => x)
end
end Mine

/- part W3b -/
namespace Mine
open PySem.Calls PySem.Spec
local macro_rules | `(tactic| walk_at "getMethod ref") => `(tactic| ((with_reducible show wpAny _ _ (getMethod (Value.ref _) _ _) _ _ _); (with_reducible rename News _ _ _ ((_, baObj _) :: _) => lN); refine getMethod_ba (lN _ (.head _)).1 ba_reverse ty_reverse ?_))
local macro_rules | `(tactic| walk_at "call builtin:bytearray.reverse") => `(tactic| ((with_reducible rename Fr _ _ _ _ => lF); (with_reducible rename News _ _ _ ((_, baObj _) :: _) => lN); refine rev_K lF lN (by first | exact fun _ h => nomatch h | assumption) (by assumption) (by assumption) (by assumption) ?_; (clear lF lN); intro _ _ _ _ _))
local macro_rules | `(tactic| walk_at "call builtin:len") => `(tactic| ((with_reducible show wpAny _ _ (call (Value.builtin "len") [Value.ref _]) _ _ _); (with_reducible rename News _ _ _ ((_, baObj _) :: _) => lN); refine len_biK lN (by assumption) (by assumption) ?_; intro _ _))
local macro_rules | `(tactic| walk_at "subscriptTail") => `(tactic| ((with_reducible show wpAny _ _ (subscriptTail _ _ (Value.ref _) (Value.int 0 _)) _ _ _); (with_reducible rename News _ _ _ ((_, baObj _) :: _) => lN); refine item_ba lN (by assumption) (by decide) (idx0 (by omega)) (by omega) ?_; intro _ _ _ _))
local macro_rules | `(tactic| walk_at "subscriptTail") => `(tactic| ((with_reducible show wpAny _ _ (subscriptTail _ _ (Value.ref _) (Value.int 1 _)) _ _ _); (with_reducible rename News _ _ _ ((_, baObj _) :: _) => lN); refine item_ba lN (by assumption) (by decide) (idx1 (by omega)) (by omega) ?_; intro _ _ _ _))
local macro_rules | `(tactic| walk_at "subscriptTail") => `(tactic| ((with_reducible show wpAny _ _ (subscriptTail _ _ (Value.ref _) (Value.ref _)) _ _ _); (with_reducible rename Fr _ _ _ _ => lF); (with_reducible rename News _ _ _ ((_, baObj _) :: _) => lN); refine cut_K (s := ⟨_, _, _, _, _⟩) lF lN (by assumption) (by assumption) ?_; (clear lF lN); intro _ _ _ _ _ _ _))
local macro_rules | `(tactic| walk_at "inplaceOp LShift int int") => `(tactic| ((with_reducible show wpAny _ _ (inplaceOp _ (Value.int _ _) (Value.int 8 _)) _ _ _); refine ba_shl (by assumption) ?_))
local macro_rules | `(tactic| walk_at "leaving ref") => `(tactic| (k_here; (refine' leave_hold ?k1 ?k0 ?k2 ?k3 ?_; (case k0 => assumption); (case k1 => assumption); (case k2 => assumption); (case k3 => k_asm); k_whole; intro h' t' R' U' H'; (try dsimp only at R' U' H' ⊢))))
set_option maxHeartbeats 8000000 in
theorem from_C1 (w : World) (mean : ExcName → Option Value) (mg mb : Str → Option Value) : ∀ (b : Array UInt8) (ks : List Int) (tb : Tok) (dp un : Nat) (gd : Option (List Code)) (cn : Str) (cs : Scope) (a : Addr) (ccd : Value) (cl : List (Str × Addr)) (outer : List Env) (A₀ : Around) (base h₀ : Heap) (L : Addr) (m : Str → Option Value) (s : Shared) (R : Result → Shared → Prop),
    Below A₀ base outer h₀ → Fr h₀ L s.heap m → (hd.heap_39 w.params).In h₀ → Top hd.view_39 [Str.ofString "IntStreamer"] mean mg mb h₀ → cs.kind = .function → dp + 1 < recursionLimit → un + 8 < cLine →
    KBw.bInts b = ks → ks.length ≤ 100 →
    (∀ (t : Tok) (h' : Heap) (tk' : Nat), ¬ bad ks → (∀ b o, s.heap.get? b = some o → h'.get? b = some o) → R (.ok (.ret (.int (num ks) t))) { s with heap := h', toks := tk' }) →
    (∀ (e t' : Addr) (vs : List Value) (h' : Heap) (tk' : Nat), bad ks → RaisedK base (envX cn cs L a ccd cl :: outer) e (.ref 38) t' vs [] h' → s.heap.UpToSlots h' → Hold e h' → R (.error (.ref e)) { s with heap := h', toks := tk' }) →
      codeC (model PySem.Challenge.rw_fe0235_01.row.prog w) (ktrTop dp un gd cn cs L a ccd cl outer) (.call (.ref 56) ⟨[.ref 72, .bytes b tb], [(Str.ofString "require_minimal", .bool true)]⟩) R s := by
  k_fill
  w_top off
  intro b ks tb dp un gd cn cs a ccd cl outer A₀ base h₀ L m s R B F X N hk hdp hun hbs hk2 hret hbad
  k_dflt (refine' code_own B F X N rfl rfl hk ?k6 ?k7 ?k8 ?k9 ?kB ?_ ?c2 ?c3 ?c4 ?c5; (case k6 => k_is); (case k7 => k_is); (case k8 => ktr_room); (case k9 => first | exact BindsTo.of_eq rfl | exact binds_K (X.keeps F.keep) rfl (by k_is) rfl rfl rfl); (case c5 => decide); (case kB => exact locs rfl); (case c2 => exact rfl); (case c3 => exact rfl); (case c4 => exact rfl); k_whole)
  clear B F X N
  intro L' h₁ F' N' B' X' T'
  k_with_none
  refine wpC_execs_consA ?_
  w_strict (k_steps)
  · rename Fr _ _ _ _ => lF
    refine ⟨_, lF, ?_⟩
    have e := num_nil (ks := ks) (by assumption)
    rw [← e]
    exact hret _ _ _ (bad_nil (by assumption)) lF.keep
  · refine wpC_execs_cons (wpC_Assign_Name (CallC ?_))
    k_steps
    refine callWithC1 (keeps_machine machine_type) ?_
    k_steps
    · trivial
    rename Fr _ _ _ _ => lF
    rename News _ _ _ _ => lN
    refine make_ba1 lF lN ?hz fun q h' F1 N1 hlt => ?_
    case hz => (have := KBw.ints_length b; have h3 : sizeLine = 16777216 := rfl; rw [hbs] at this; omega)
    clear lF lN
    k_steps
    refine wpC_ofL ?_
    k_with "pyIter ref" => (refine Stop.out ?_)
    have hlen : 0 < ks.length := by omega
    generalize hjs : ks.reverse = js
    have hjl : js.length = ks.length := by rw [← hjs, List.length_reverse]
    have hj1 : 0 < js.length := by omega
    have hj2 : js.length ≤ 100 := by omega
    k_steps
    · rename RaisedK _ _ _ _ _ _ _ _ => rR
      exact hbad _ _ _ _ _ (bad_yes hjs hlen (by assumption) (.inl (by assumption))) (raised_nil rR) (by assumption) (by assumption)
    · rename RaisedK _ _ _ _ _ _ _ _ => rR
      exact hbad _ _ _ _ _ (bad_yes hjs hlen (by assumption) (.inr ⟨by assumption, by assumption, by assumption⟩)) (raised_nil rR) (by assumption) (by assumption)
    · refine Stop.mk ?_
      k_with_none
      rename Fr _ _ _ _ => lF
      rename News _ _ _ ((_, baObj _) :: (_, baObj _) :: _) => lN
      rename KBw.bInts _ = List.drop _ _ => kb2
      rename ∀ p ∈ [(q, baObj _)], p.1 < _ => lN'
      refine for_ba (y := Str.ofString "v") (c₀ := Spec.bitAnd (js.getD 0 0) 127) (fun v k => v * 256 + k) Bb ?bd kb2 rfl lF lN ?ap (by with_unfolding_all rfl) ?turn ?done
      case ap => exact fun p hp => by simp only [List.mem_singleton] at hp; subst hp; exact Nat.ne_of_lt (lN' (q, _) (by simp))
      case bd =>
        rename KBw.bInts _ = js => kb1
        exact fun i _ => bb_fold (ints_all kb1) hj2 i
      case turn =>
        intro k t c ta h tk own hk h0 h1 hbb hoff F1 N1
        clear lF lN
        k_steps
      case done =>
        intro u t h tk F1 N1
        clear lF lN
        k_steps
        · rename Fr _ _ _ _ => lF
          refine ⟨_, lF, ?_⟩
          rw [from_neg hjs hlen (by assumption) (by assumption) (by assumption)]
          exact hret _ _ _ (bad_no hjs hlen (.inr ⟨by assumption, by assumption, by assumption, by assumption⟩)) lF.keep
        · rename Fr _ _ _ _ => lF
          refine ⟨_, lF, ?_⟩
          rw [from_pos hjs hlen (by assumption) (by assumption) (by assumption)]
          exact hret _ _ _ (bad_no hjs hlen (.inr ⟨by assumption, by assumption, by assumption, by assumption⟩)) lF.keep
    · refine Stop.mk ?_
      k_with_none
      rename Fr _ _ _ _ => lF
      rename News _ _ _ ((_, baObj _) :: (_, baObj _) :: _) => lN
      rename KBw.bInts _ = List.drop _ _ => kb2
      rename ∀ p ∈ [(q, baObj _)], p.1 < _ => lN'
      refine for_ba (y := Str.ofString "v") (c₀ := Spec.bitAnd (js.getD 0 0) 127) (fun v k => v * 256 + k) Bb ?bd kb2 rfl lF lN ?ap (by with_unfolding_all rfl) ?turn ?done
      case ap => exact fun p hp => by simp only [List.mem_singleton] at hp; subst hp; exact Nat.ne_of_lt (lN' (q, _) (by simp))
      case bd =>
        rename KBw.bInts _ = js => kb1
        exact fun i _ => bb_fold (ints_all kb1) hj2 i
      case turn =>
        intro k t c ta h tk own hk h0 h1 hbb hoff F1 N1
        clear lF lN
        k_steps
      case done =>
        intro u t h tk F1 N1
        clear lF lN
        k_steps
        · rename Fr _ _ _ _ => lF
          refine ⟨_, lF, ?_⟩
          rw [from_neg hjs hlen (by assumption) (by assumption) (by assumption)]
          exact hret _ _ _ (bad_no hjs hlen (.inl (by assumption))) lF.keep
        · rename Fr _ _ _ _ => lF
          refine ⟨_, lF, ?_⟩
          rw [from_pos hjs hlen (by assumption) (by assumption) (by assumption)]
          exact hret _ _ _ (bad_no hjs hlen (.inl (by assumption))) lF.keep
end Mine

/- part CL14 -/
namespace Mine
open PySem.Calls PySem.Spec
theorem byteArr_ints {b : Array UInt8} {ks : List Int} (h : KBw.bInts b = ks) : b = byteArr ks := by
  subst h
  unfold byteArr KBw.bInts
  apply Array.toList_inj.mp
  rw [List.map_map]
  show b.toList = _
  conv => lhs; rw [← List.map_id b.toList]
  exact List.map_congr_left fun c _ => by simp
theorem push_ints {b : Array UInt8} {bs : List Int} {x : Int} (h : KBw.bInts b = bs) (h0 : 0 ≤ x) (h1 : x < 256) : KBw.bInts (b.push x.toNat.toUInt8) = bs ++ [x] := by
  subst h
  unfold KBw.bInts
  simp
  omega
theorem set_ints {b : Array UInt8} {bs : List Int} {x y : Int} (h : KBw.bInts b = bs ++ [x]) (h0 : 0 ≤ y) (h1 : y < 256) : KBw.bInts (b.setIfInBounds bs.length y.toNat.toUInt8) = bs ++ [y] := by
  have e : KBw.bInts (b.setIfInBounds bs.length y.toNat.toUInt8) = (KBw.bInts b).set bs.length y := by
    unfold KBw.bInts
    rw [Array.toList_setIfInBounds, List.map_set]
    congr 1
    simp
    omega
  rw [e, h]
  simp
section
variable {prog : Program} {w : World} {A : Around} {E : Value → Shared → Prop} {s : Shared} {h₀ : Heap} {L : Addr} {m : Str → Option Value} {rest : List (Addr × Obj)} {a : Addr} {b : Array UInt8} {bs : List Int} {x : Int}
theorem append_K {v : Int} {t : Tok} {Q : Value → Shared → Prop} (F : Fr h₀ L s.heap m) (N : News h₀ L s.heap ((a, baObj b) :: rest)) (hap : ∀ p ∈ rest, p.1 ≠ a) (hb : KBw.bInts b = bs) (hz : bs.length ≤ 100) (hx : v = x) (h0 : 0 ≤ x) (h1 : x < 256)
    (h : ∀ c h', KBw.bInts c = bs ++ [x] → Fr h₀ L h' m → News h₀ L h' ((a, baObj c) :: rest) → Q .none { s with heap := h' }) : wpC (model prog w) A (call (.builtin "bytearray.append") [.ref a, .int v t]) Q E s :=
  hx ▸ append_ba F N hap (by rw [← hb, KBw.ints_length] at hz; have : sizeLine = 16777216 := rfl; omega) h0 h1 fun h' F' N' => h _ h' (push_ints hb h0 h1) F' N'
theorem idx_last {n : Nat} : seqIndex? (-1) (n + 1) = some n := by
  unfold seqIndex?
  have h2 : (0 : Int) ≤ -1 + ((n + 1 : Nat) : Int) := by omega
  have h3 : -1 + ((n + 1 : Nat) : Int) < ((n + 1 : Nat) : Int) := by omega
  have h4 : (-1 + ((n + 1 : Nat) : Int)).toNat = n := by omega
  simp only [h2, h3, h4]
  simp
  omega
theorem get_last {t : Tok} {Q : Value → Shared → Prop} (N : News h₀ L s.heap ((a, baObj b) :: rest)) (hb : KBw.bInts b = bs ++ [x])
    (h : ∀ t' k', Q (.int x t') { s with toks := k' }) : wpAny (model prog w) A (getItem (.ref a) (.int (-1) t)) Q E s := by
  have ho := (N _ (.head _)).1
  obtain ⟨c, hc, e⟩ := bi_get (i := bs.length) hb (by simp)
  have hsz : b.size = bs.length + 1 := by rw [← KBw.ints_length, hb]; simp
  have e2 : x = (c.toNat : Int) := by rw [← e]; simp
  exact getItem_ba ho (by decide) (by rw [hsz]; exact idx_last) hc (by rw [← e2]; exact h _ _)
theorem item_last {value slice : PySem.Expr} {t : Tok} {Q : Value → Shared → Prop} (N : News h₀ L s.heap ((a, baObj b) :: rest)) (hb : KBw.bInts b = bs ++ [x])
    (h : ∀ t' k', Q (.int x t') { s with toks := k' })
    (hs : subscripted slice false (.ref a) (.int (-1) t) = operate [.ref a, .int (-1) t] (getItem (.ref a) (.int (-1) t)) := by with_unfolding_all rfl) :
    wpAny (model prog w) A (subscriptTail value slice (.ref a) (.int (-1) t)) Q E s :=
  tail_any ⟨_, (N _ (.head _)).1, rfl⟩ ba_getitem.lookup (get_last N hb h) hs
theorem put_last {v y : Int} {t u : Tok} {Q : Unit → Shared → Prop} (F : Fr h₀ L s.heap m) (N : News h₀ L s.heap ((a, baObj b) :: rest)) (hap : ∀ p ∈ rest, p.1 ≠ a) (hb : KBw.bInts b = bs ++ [x]) (hz : bs.length ≤ 100) (hv : v = y) (h0 : 0 ≤ y) (h1 : y < 256)
    (h : ∀ c h', KBw.bInts c = bs ++ [y] → Fr h₀ L h' m → News h₀ L h' ((a, baObj c) :: rest) → Q () { s with heap := h' }) : wpAny (model prog w) A (setItem (.ref a) (.int (-1) t) (.int v u)) Q E s := by
  subst hv
  have hsz : b.size = bs.length + 1 := by rw [← KBw.ints_length, hb]; simp
  have hl : sizeLine = 16777216 := rfl
  exact setItem_ba F N hap (by omega) (by decide) (by rw [hsz]; exact idx_last) h0 h1 fun h' F' N' => h _ h' (set_ints hb h0 h1) F' N'
theorem bytes_K' {ks : List Int} {Q : Value → Shared → Prop} (N : News h₀ L s.heap ((a, baObj b) :: rest)) (hb : KBw.bInts b = ks) (hz : ks.length ≤ 102)
    (h : ∀ t k, Q (.bytes (byteArr ks) t) { s with toks := k }) : wpAny (model prog w) A (call (.type "bytes") [.ref a]) Q E s := by
  have e := byteArr_ints hb
  have hl : sizeLine = 16777216 := rfl
  refine bytes_ba (N _ (.head _)).1 (by rw [← KBw.ints_length, hb]; omega) ?_
  rw [e]; exact h _ _
end
/-- between the turns of the program's own division -/
def ToW (n left : Int) (bs : List Int) : Prop := 0 < left ∧ bs ++ digs left.toNat = digs n.natAbs ∧ bs.length ≤ 80
theorem to_start {n left : Int} (h : left.natAbs = n.natAbs) (h0 : 0 < left) : ToW n left [] := by
  refine ⟨h0, ?_, by simp⟩
  rw [show left.toNat = n.natAbs by omega]; rfl
theorem to_digs {left : Int} (h1 : 0 < left) : digs left.toNat = (left % 256) :: digs (left / 256).toNat := by
  rw [digs_pos (by omega)]
  have e1 : (left / 256).toNat = left.toNat / 256 := by omega
  have e2 : ((left.toNat % 256 : Nat) : Int) = left % 256 := by omega
  rw [e1, e2]
theorem to_step {n left : Int} {bs : List Int} (hb : Bd n) (h : ToW n left bs) (h1 : 256 ≤ left) : ToW n (left / 256) (bs ++ [left % 256]) := by
  obtain ⟨h0, he, hl⟩ := h
  have hd := to_digs h0
  have hlen := bd_len hb
  refine ⟨by omega, ?_, ?_⟩
  · rw [← he, hd, List.append_assoc]; rfl
  · have := congrArg List.length he
    rw [hd] at this
    simp only [List.length_append, List.length_cons, List.length_nil] at this ⊢
    omega
theorem to_done {n left : Int} {bs : List Int} (h : ToW n left bs) (h1 : left < 256) : bs ++ [left] = digs n.natAbs := by
  obtain ⟨h0, he, _⟩ := h
  rw [← he, to_digs h0, show left / 256 = 0 by omega, show left % 256 = left by omega]
  rw [show (0 : Int).toNat = 0 from rfl, digs_zero]
theorem last_app {bs : List Int} {x : Int} : (bs ++ [x]).getD ((bs ++ [x]).length - 1) 0 = x := by simp
theorem set_app {bs : List Int} {x y : Int} : (bs ++ [x]).set ((bs ++ [x]).length - 1) y = bs ++ [y] := by simp
theorem to_end1 {n left : Int} {bs : List Int} (h : ToW n left bs) (h1 : left < 256) (h2 : 128 ≤ left) : bs ++ [left] ++ [if n < 0 then 128 else 0] = octs n := by
  have e := to_done h h1
  unfold octs
  have hc : 0 < (bs ++ [left]).length ∧ 127 < left := ⟨by simp, by omega⟩
  rw [← e, last_app, if_pos hc]
theorem to_end2 {n left : Int} {bs : List Int} (h : ToW n left bs) (h1 : left < 256) (h2 : ¬ 128 ≤ left) (hn : n < 0) : bs ++ [left + 128] = octs n := by
  have e := to_done h h1
  unfold octs
  rw [← e, last_app, set_app, if_neg (by omega), if_pos hn]
theorem to_end3 {n left : Int} {bs : List Int} (h : ToW n left bs) (h1 : left < 256) (h2 : ¬ 128 ≤ left) (hn : ¬ n < 0) : bs ++ [left] = octs n := by
  have e := to_done h h1
  unfold octs
  rw [← e, last_app, if_neg (by omega), if_neg hn]
theorem octs_zero : octs 0 = [] := by
  unfold octs
  rw [show (0 : Int).natAbs = 0 from rfl, digs_zero]
  rfl
theorem or128 {x : Int} (h0 : 0 ≤ x) (h1 : x < 128) : Builtin.bitOr x 128 = x + 128 := by
  rw [bitOr_and, and128 h0 (by omega), if_neg (by omega)]
  omega
end Mine
namespace Mine
theorem fr_again {h₀ h : Heap} {L : Addr} {x : Str} {a b : Option Value} {m : Str → Option Value} (F : Fr h₀ L h (fun y => if y = x then a else if y = x then b else m y)) : Fr h₀ L h (fun y => if y = x then a else m y) := by
  have e : (fun y => if y = x then a else if y = x then b else m y) = fun y => if y = x then a else m y := by
    funext y
    by_cases h : y = x <;> simp [h]
  rw [← e]; exact F
theorem fr_start {h₀ h : Heap} {L : Addr} {x : Str} {v : Value} {m : Str → Option Value} (hm : m x = some v) (F : Fr h₀ L h m) : Fr h₀ L h (fun y => if y = x then some v else m y) := by
  have e : (fun y => if y = x then some v else m y) = m := by
    funext y
    by_cases h : y = x
    · subst h; simp [hm]
    · simp [h]
  rw [e]; exact F
/-- a while that turns one int and grows one bytearray -/
theorem while_ba {prog : Program} {w : World} {A : Around} {E : Value → Shared → Prop} {s : Shared} {env : Env} {g : Heap} {L : Addr} {m₁ : Str → Option Value} {q : Addr} {b : Array UInt8} {bs : List Int}
    {test : PySem.Expr} {body : List Stmt} {pos : Pos} {Q : Flow → Shared → Prop} (x : Str) (W : Int → List Int → Prop) {l0 : Int} {t0 : Tok}
    (F : Fr g L s.heap m₁) (N : News g L s.heap [(q, baObj b)]) (hb : KBw.bInts b = bs) (hv : m₁ x = some (.int l0 t0)) (hW : W l0 bs)
    (turn : ∀ left tl c bs h tk, W left bs → KBw.bInts c = bs → Fr g L h (fun y => if y = x then some (.int left tl) else m₁ y) → News g L h [(q, baObj c)] →
      wpC (model prog w) A (isTrue test env (eval test env)) (fun b s₂ => if b = true then wpC (model prog w) A (execs body env) (fun f s₃ => match f with
          | .next => ∃ left' tl' c' bs' h' tk', s₃ = { s with heap := h', toks := tk' } ∧ left'.toNat < left.toNat ∧ W left' bs' ∧ KBw.bInts c' = bs' ∧ Fr g L h' (fun y => if y = x then some (.int left' tl') else m₁ y) ∧ News g L h' [(q, baObj c')]
          | _ => False) (fun _ _ => False) s₂ else Q .next s₂) (fun _ _ => False) { s with heap := h, toks := tk }) :
    wpC (model prog w) A (exec (.While test body [] pos) env) Q E s := by
  refine wpC_While (fun k s' => ∃ left tl c bs h tk, s' = { s with heap := h, toks := tk } ∧ left.toNat = k ∧ W left bs ∧ KBw.bInts c = bs ∧ Fr g L h (fun y => if y = x then some (.int left tl) else m₁ y) ∧ News g L h [(q, baObj c)]) ?_ l0.toNat
    ⟨l0, t0, b, bs, s.heap, s.toks, rfl, rfl, hW, hb, fr_start hv F, N⟩
  rintro k s' ⟨left, tl, c, bs', h, tk, rfl, rfl, hW', hb', F', N'⟩
  refine wpC_mono (turn left tl c bs' h tk hW' hb' F' N') (fun r s₂ h₂ => ?_) fun _ _ x => x
  cases r with
  | false => exact h₂
  | true =>
    refine wpC_mono h₂ (fun f s₃ h₃ => ?_) fun _ _ x => x
    cases f with
    | next =>
      obtain ⟨left', tl', c', bs'', h', tk', e, hlt, r⟩ := h₃
      exact ⟨_, hlt, left', tl', c', bs'', h', tk', e, rfl, r⟩
    | cont => exact h₃
    | brk => exact h₃
    | ret v => exact h₃
end Mine

/- part W4 -/
namespace Mine
open PySem.Calls PySem.Spec
local macro_rules | `(tactic| walk_at "getMethod ref") => `(tactic| ((with_reducible show wpAny _ _ (getMethod (Value.ref _) _ _) _ _ _); (with_reducible rename News _ _ _ ((_, baObj _) :: _) => lN); refine getMethod_ba (lN _ (.head _)).1 ba_append ty_append ?_))
local macro_rules | `(tactic| walk_at "subscriptTail") => `(tactic| ((with_reducible show wpAny _ _ (subscriptTail _ _ (Value.ref _) (Value.int (-1) _)) _ _ _); (with_reducible rename News _ _ _ ((_, baObj _) :: _) => lN); refine item_last lN (by assumption) ?_; intro _ _))
local macro_rules | `(tactic| walk_at "getItem ref int") => `(tactic| ((with_reducible show wpAny _ _ (PySem.getItem (Value.ref _) (Value.int (-1) _)) _ _ _); (with_reducible rename News _ _ _ ((_, baObj _) :: _) => lN); refine get_last lN (by assumption) ?_; intro _ _))
local macro_rules | `(tactic| walk_at "call type:bytes") => `(tactic| ((with_reducible rename News _ _ _ ((_, baObj _) :: _) => lN); refine bytes_K' lN (by assumption) (by simp only [List.length_append, List.length_cons, List.length_nil]; omega) ?_; intro _ _))
set_option maxHeartbeats 8000000 in
theorem to_octs (w : World) (mean : ExcName → Option Value) (mg mb : Str → Option Value) : ∀ (n : Int) (tn : Tok) (dp un : Nat) (gd : Option (List Code)) (cn : Str) (cs : Scope) (a : Addr) (ccd : Value) (cl : List (Str × Addr)) (outer : List Env) (A₀ : Around) (base h₀ : Heap) (L : Addr) (m : Str → Option Value) (s : Shared) (R : Result → Shared → Prop),
    Below A₀ base outer h₀ → Fr h₀ L s.heap m → (hd.heap_39 w.params).In h₀ → Top hd.view_39 [Str.ofString "IntStreamer"] mean mg mb h₀ → cs.kind = .function → dp + 1 < recursionLimit → un + 8 < cLine → Bd n →
    (∀ (t : Tok) (h' : Heap) (tk' : Nat), (∀ b o, s.heap.get? b = some o → h'.get? b = some o) → R (.ok (.ret (.bytes (byteArr (octs n)) t))) { s with heap := h', toks := tk' }) →
      codeC (model PySem.Challenge.rw_fe0235_01.row.prog w) (ktrTop dp un gd cn cs L a ccd cl outer) (.call (.ref 66) ⟨[.ref 72, .int n tn], []⟩) R s := by
  k_fill
  w_top off
  intro n tn dp un gd cn cs a ccd cl outer A₀ base h₀ L m s R B F X N hk hdp hun hbd hret
  k_dflt (refine' code_own B F X N rfl rfl hk ?k6 ?k7 ?k8 ?k9 ?kB ?_ ?c2 ?c3 ?c4 ?c5; (case k6 => k_is); (case k7 => k_is); (case k8 => ktr_room); (case k9 => first | exact BindsTo.of_eq rfl | exact binds_K (X.keeps F.keep) rfl (by k_is) rfl rfl rfl); (case c5 => decide); (case kB => exact locs rfl); (case c2 => exact rfl); (case c3 => exact rfl); (case c4 => exact rfl); k_whole)
  clear B F X N
  intro L' h₁ F' N' B' X' T'
  k_with_none
  refine wpC_execs_consA ?_
  k_steps
  · rename Fr _ _ _ _ => lF
    refine ⟨_, lF, ?_⟩
    have hn : n = 0 := by assumption
    subst hn
    rw [octs_zero] at hret
    exact hret _ _ _ lF.keep
  refine wpC_execs_consA ?_
  k_steps
  refine wpC_execs_consA ?_
  k_steps
  refine wpC_execs_cons (wpC_Assign_Name (CallC ?_))
  k_steps
  rename Fr _ _ _ _ => lF
  rename News _ _ _ _ => lN
  refine callWithC0 (keeps_machine machine_type) ⟨trivial, make_ba0 lF lN fun q h' F1 N1 hlt => ?_⟩
  clear lF lN
  k_steps
  rename Fr _ _ _ _ => lF
  rename News _ _ _ _ => lN
  have hn0 : n ≠ 0 := by assumption
  rename (n < 0 ∧ _ ∨ _) => hr
  refine wpC_execs_cons (while_ba (Str.ofString "v") (ToW n) lF lN rfl (by with_unfolding_all rfl) (to_start (by omega) (by omega)) ?_)
  clear lF lN
  intro left tl c bs h tk hW hb F2 N2
  have hW1 : 0 < left := hW.1
  have hW2 : bs.length ≤ 80 := hW.2.2
  refine wpC_of ?_
  k_steps
  · refine wpC_execs_cons (wpC_Expr (MethodCallC ?_))
    k_steps
    refine callWithC1 (keeps_machine machine_builtin) ?_
    k_steps
    · trivial
    rename Fr _ _ _ _ => lF
    rename News _ _ _ _ => lN
    have e255 : Builtin.bitAnd left 255 = left % 256 := bitAnd_m8 left
    refine append_K lF lN (fun _ h => nomatch h) hb (by omega) e255 (by omega) (by omega) fun c' h' hb' F3 N3 => ⟨rfl, ?_⟩
    clear lF lN
    refine wpC_execs_consA ?_
    k_steps
    rename Fr _ _ _ _ => lF
    rename News _ _ _ _ => lN
    refine wpC_execs_nil ⟨_, _, _, _, _, _, rfl, ?_, ?_, hb', fr_again lF, lN⟩
    · exact oct_less hW1
    · have := to_step hbd hW (by omega)
      rw [← fdiv256] at this
      exact this
  · refine wpC_execs_cons (wpC_Expr (MethodCallC ?_))
    k_steps
    refine callWithC1 (keeps_machine machine_builtin) ?_
    k_steps
    · trivial
    rename Fr _ _ _ _ => lF
    rename News _ _ _ _ => lN
    have e255 : Builtin.bitAnd left 255 = left := by rw [bitAnd_m8 left]; omega
    refine append_K lF lN (fun _ h => nomatch h) hb (by omega) e255 (by omega) (by omega) fun c' h' hb' F3 N3 => ⟨rfl, ?_⟩
    clear lF lN
    have hD := to_done hW (by omega)
    refine wpC_execs_cons (wpC_If ?_)
    refine wpC_of ?_
    k_steps
    · refine wpC_execs_cons (wpC_Expr (MethodCallC ?_))
      k_steps
      refine callWithC1 (keeps_machine machine_builtin) ?_
      k_steps
      · trivial
      · rename Fr _ _ _ _ => lF
        rename News _ _ _ _ => lN
        refine append_K lF lN (fun _ h => nomatch h) hb' (by simp only [List.length_append, List.length_cons, List.length_nil]; omega) rfl (by omega) (by omega) fun c'' h'' hb'' F4 N4 => ⟨rfl, ?_⟩
        clear lF lN
        refine wpC_execs_nil ?_
        refine wpC_ofL ?_
        k_steps
        rename Fr _ _ _ _ => lF
        refine ⟨_, lF, ?_⟩
        have hE := to_end1 hW (by omega) (by assumption)
        rw [if_pos (by assumption)] at hE
        rw [hE]
        exact hret _ _ _ lF.keep
      · trivial
      · rename Fr _ _ _ _ => lF
        rename News _ _ _ _ => lN
        refine append_K lF lN (fun _ h => nomatch h) hb' (by simp only [List.length_append, List.length_cons, List.length_nil]; omega) rfl (by omega) (by omega) fun c'' h'' hb'' F4 N4 => ⟨rfl, ?_⟩
        clear lF lN
        refine wpC_execs_nil ?_
        refine wpC_ofL ?_
        k_steps
        rename Fr _ _ _ _ => lF
        refine ⟨_, lF, ?_⟩
        have hE := to_end1 hW (by omega) (by assumption)
        rw [if_neg (by assumption)] at hE
        rw [hE]
        exact hret _ _ _ lF.keep
    · refine wpC_of ?_
      k_steps
      · rename Fr _ _ _ _ => lF
        rename News _ _ _ _ => lN
        refine put_last lF lN (fun _ h => nomatch h) hb' (by omega) (or128 (by omega) (by omega)) (by omega) (by omega) fun c'' h'' hb'' F4 N4 => ?_
        clear lF lN
        k_steps
        refine wpC_ofL ?_
        k_steps
        rename Fr _ _ _ _ => lF
        refine ⟨_, lF, ?_⟩
        rw [to_end2 hW (by omega) (by assumption) (by assumption)]
        exact hret _ _ _ lF.keep
      · refine wpC_ofL ?_
        k_steps
        rename Fr _ _ _ _ => lF
        refine ⟨_, lF, ?_⟩
        rw [to_end3 hW (by omega) (by assumption) (by assumption)]
        exact hret _ _ _ lF.keep
end Mine

/- part CL15 -/
namespace Mine
open PySem.Calls PySem.Spec
section
variable {prog : Program} {w : World} {A : Around} {R : Result → Shared → Prop} {s : Shared} {name : Str} {params : Arguments} {body : List Stmt} {scope : Scope} {a : Addr} {o : Obj} {pm cd doc dV kV : Value} {args : Args} {binds : List (Str × Value)}
theorem enter_callC {M : Model} {f : Value} {pos : List Value} {kw : List (Str × Value)} {c : ClaimW} {cl : Str → Option Addr} {mean : ExcName → Option Value} {wargs : List WData} {s₁ : Shared}
    (h : codeC M A (.call f ⟨pos, kw⟩) (GoodWG c cl mean wargs s₁) s) : wpC M A (PySem.call f pos kw) (fun v s' => GoodWG c cl mean wargs s₁ (.ok (.ret v)) s') (fun e s' => GoodWG c cl mean wargs s₁ (.error e) s') s :=
  wpC_call (codeC_mono h fun res s' g => by rcases g.1 with ⟨v, _, _, rfl, _⟩ | ⟨e, _, _, rfl, _⟩ <;> exact g)
theorem call_lawC (hroom : A.depth < recursionLimit) (ho : s.heap.get? a = some o) (hdata : o.data = .func { docDef name params body scope pm cd doc with defaults := dV, kwdefaults := kV }) (hlim : s.heap.NoLimit) (hcd : s.heap.CodeRec cd name)
    (hbind : BindsTo s { docDef name params body scope pm cd doc with defaults := dV, kwdefaults := kV } args binds) (hloc : ∀ x ∈ binds, scope.names.lookup x.1 = some .local)
    (h : ∀ h₁, Fr s.heap s.heap.objs.size h₁ (fun x => binds.reverse.lookup x) →
      wpC (model prog w) (A.deeper (envOf name scope s.heap.objs.size a cd)) (execs body (envOf name scope s.heap.objs.size a cd))
        (fun f s' => R (.ok (.ret (match f with | .ret v => v | _ => .none))) s') (fun _ _ => False) { s with heap := h₁, toks := s.toks + binds.length })
    (hco : scope.isCoroutine = false := by rfl) (hgen : scope.isGenerator = false := by rfl) (hk : scope.kind = .function := by rfl) (hcell : ∀ x ∈ scope.names, x.2 ≠ .cell := by decide) :
    codeC (model prog w) A (.call (.ref a) args) R s := by
  refine codeC_call_def (fd := { docDef name params body scope pm cd doc with defaults := dV, kwdefaults := kV }) hroom ho hdata hlim hcd rfl hbind hcell hloc (fun h₁ hns hk₁ => ?_) hco hgen hk
  exact wpC_mono (h h₁ ⟨hns, hk₁, Nat.le_refl _⟩) (fun _ _ x => x) fun _ _ x => x.elim
end
end Mine

/- part CL16 -/
namespace Mine
open PySem.Calls PySem.Spec
section
variable {M : Model} {A : Around} {s : Shared} {env : Env} {R : Result → Shared → Prop}
theorem codeC_loop2 {c : Code} (hq : c.quiet = true) (hok : okCode c = true) (I : Nat → Shared → Prop)
    (turn : ∀ n s, I n s → wpC M (A.under c) (M.den c) (fun fin s' => match fin with | .done f => R (.ok f) s' | .again c' => (c' = c ∧ ∃ m, m < n ∧ I m s') ∨ (c'.quiet = true ∧ okCode c' = true ∧ codeC M A c' R s')) (fun e s' => R (.error e) s') s)
    (n : Nat) (h : I n s) : codeC M A c R s := by
  induction n using Nat.strongRecOn generalizing s with
  | ind n ih =>
    refine codeC_of_tree (wpC_mono (turn n s h) (fun fin s' hf => ?_) fun _ _ h' => h')
    cases fin with
    | done f => exact hf
    | again c' =>
      rcases hf with ⟨rfl, m, hm, hI⟩ | hf
      · exact ⟨hq, hok, ih m hm hI⟩
      · exact hf
end
section
variable {prog : Program} {w : World} {A : Around} {s : Shared} {env : Env}
theorem codeC_block0 {Q : Flow → Shared → Prop} (h : Q .next s) : codeC (model prog w) A (.block [] env) (fun r s' => match r with | .ok f => Q f s' | .error _ => False) s := by
  refine codeC_of (codeAny_block (wpAny_execs_nil ?_))
  exact h
theorem codeC_forLoop {x : Str} {px : Pos} {it : Value} {body : List Stmt} {Q : Flow → Shared → Prop} (I : Nat → Shared → Prop)
    (turn : ∀ n s, I n s → wpAny (model prog w) A (pyNext it) (fun r s₁ => match r with
      | none => Q .next s₁
      | some v => wpAny (model prog w) A (assign (.Name x px) env v) (fun _ s₂ => wpC (model prog w) A (execs body env) (fun f s₃ => match f with
          | .next => ∃ m, m < n ∧ I m s₃
          | .ret v => Q (.ret v) s₃
          | _ => False) (fun _ _ => False) s₂) (fun _ _ => False) s₁) (fun _ _ => False) s)
    (n : Nat) (h : I n s) : codeC (model prog w) A (.forLoop (.Name x px) it body [] env) (fun r s' => match r with | .ok f => Q f s' | .error _ => False) s := by
  refine codeC_loop2 rfl rfl I (fun n s hI => ?_) n h
  show wpC _ A ((forTurn (.Name x px) it body [] env).onRaise (fun x => do noteFrame x env; theTreesLotGoes x)) _ _ s
  refine wpC_onRaise (wpC_mono (E := fun _ _ => False) ?_ (fun _ _ x => x) fun _ _ x => x.elim)
  simp only [forTurn]
  refine wpC_bindA (wpAny_standAt (wpC_bindA (wpAny_onRaise (wpAny_mono (turn n s hI) (fun r s₁ h₁ => ?_) fun _ _ h' => h'.elim))))
  cases r with
  | none => exact wpC_pure (.inr ⟨rfl, rfl, codeC_block0 h₁⟩)
  | some v =>
    refine wpC_bindA (wpAny_of_eq (a := ()) rfl ?_)
    refine wpC_bindA (wpAny_mono h₁ (fun _ s₂ h₂ => ?_) fun _ _ h' => h')
    refine wpC_bind (wpC_mono h₂ (fun f s₃ h₃ => ?_) fun _ _ x => x)
    cases f with
    | next => exact wpC_pure (.inl ⟨rfl, h₃⟩)
    | cont => exact h₃.elim
    | brk => exact h₃.elim
    | ret v => exact wpC_pure h₃
variable {h₀ : Heap} {E : Value → Shared → Prop}
/-- a loop, its turns in clean contexts -/
def LoopC (prog : Program) (w : World) (A : Around) (h₀ : Heap) (env : Env) (x : Str) (body : List Stmt) (Q : Flow → Shared → Prop) (it : Value) (s₂ : Shared) : Prop :=
      ∃ (I : Addr) (fp wr : List Addr) (n : Nat) (P : Nat → Value → Prop) (St : Nat → Heap → Prop) (m : Str → Option Value) (news : List (Addr × Obj)) (J : Nat → (Str → Option Value) → Prop),
        it = .ref I ∧ Walks prog w A I fp wr n P St ∧ env.locals ∉ fp ∧ (∀ b ∈ wr, h₀.get? b = none) ∧ (∀ p ∈ news, p.1 ∉ wr) ∧ St 0 s₂.heap ∧ Fr h₀ env.locals s₂.heap m ∧ News h₀ env.locals s₂.heap news ∧ J 0 m ∧
        (∀ i v m₁ own h tk, i < n → P i v → J i m₁ → Fr h₀ env.locals h (fun y => if y = x then some v else m₁ y) → News h₀ env.locals h (own ++ news) →
          wpC (model prog w) A (execs body env) (fun f s₃ => match f with
            | .next => ∃ h₃ tk₃ m₂, s₃ = { s₂ with heap := h₃, toks := tk₃ } ∧ Fr h₀ env.locals h₃ m₂ ∧ News h₀ env.locals h₃ (own ++ news) ∧ J (i + 1) m₂
            | .ret v => Q (.ret v) s₃
            | _ => False) (fun _ _ => False) { s₂ with heap := h, toks := tk }) ∧
        ∀ h' tk m', Fr h₀ env.locals h' m' → News h₀ env.locals h' news → J n m' → Q .next { s₂ with heap := h', toks := tk }
/-- a for over a walk, the turns in clean contexts; they keep the ledger -/
theorem for_C {x : Str} {px pos : Pos} {iter : PySem.Expr} {body : List Stmt} {Q : Flow → Shared → Prop} (hx : env.kindOf x = some .local)
    (hp : (env.scope.kind == .class || (env.scope.kind == .module && env.locals != env.globals)) = false)
    (h : wpAny (model prog w) A (eval iter env) (fun xv s₁ => wpAny (model prog w) A (pyIter xv) (fun it s₂ => LoopC prog w A h₀ env x body Q it s₂) E s₁) E s)
    (hs : ∀ x, foldedSetIterable iter env x = pure x := by intro _; rfl) : wpC (model prog w) A (exec (.For (.Name x px) iter body [] pos) env) Q E s := by
  rw [exec_For]
  refine wpC_bindA (wpAny_standAt (wpC_bindA (wpAny_mono h (fun xv s₁ h₁ => wpC_bindA (wpAny_of_eq (hs xv) (wpC_bindA (wpAny_standAt (wpC_bindA (wpAny_holding
    (wpAny_mono h₁ (fun it s₂ h₂ => ?_) fun _ _ h' => h'))))))) fun _ _ h' => h')))
  obtain ⟨I, fp, wr, n, P, St, m, news, J, rfl, W, hLf, hwr, hnw, hst, F, N, h0, step, hQ⟩ := h₂
  refine wpC_runOwn ?_ rfl
  have hLw : env.locals ∉ wr := fun h => hLf (W.sub _ h)
  have old : ∀ b o, h₀.get? b = some o → b ∉ wr := fun b o e hb => by rw [hwr b hb] at e; cases e
  refine codeC_forLoop
    (fun k s' => ∃ h' tk m' i, s' = { s₂ with heap := h', toks := tk } ∧ St i h' ∧ Fr h₀ env.locals h' m' ∧ News h₀ env.locals h' news ∧ J i m' ∧ i ≤ n ∧ k = n + 1 - i) ?_ (n + 1)
    ⟨s₂.heap, s₂.toks, m, 0, rfl, hst, F, N, h0, Nat.zero_le _, rfl⟩
  rintro k s' ⟨h', tk, m', i, rfl, hst', F', N', hJ, hi, rfl⟩
  have next : ∀ h₁ : Heap, (∀ b o, b ∉ wr → h'.get? b = some o → h₁.get? b = some o) → Fr h₀ env.locals h₁ m' ∧ News h₀ env.locals h₁ news := fun h₁ hk₁ =>
    ⟨⟨F'.ns.at' fun o e => hk₁ _ o hLw e, fun b o e => hk₁ b o (old b o e) (F'.keep b o e), F'.above⟩, fun p hp => ⟨hk₁ _ _ (hnw p hp) (N' p hp).1, (N' p hp).2⟩⟩
  by_cases hlt : i < n
  · refine W.item i _ _ _ hlt hst' fun v h₁ tk₁ hP hst₁ hk₁ => ?_
    obtain ⟨F₁, N₁⟩ := next h₁ hk₁
    refine wpAny_assign_Name (wpAny_storeName_local hx F₁.ns (fun h₂ hn₂ hs₂ => ?_) hp)
    have F₂ := F₁.set hn₂ hs₂
    have Nown : News h₀ env.locals h₂ (ownOf h₀ fp h₂) := news_ownOf hLf
    refine wpC_mono (step i v m' (ownOf h₀ fp h₂) h₂ _ hlt hP hJ F₂ (Nown.append (N₁.set hs₂))) (fun f s₃ h₃ => ?_) fun _ _ e => e
    cases f with
    | ret v => exact h₃
    | brk => exact h₃
    | cont => exact h₃
    | next =>
      obtain ⟨h₃', tk₃, m₂, rfl, F₃, N₃, hJ₃⟩ := h₃
      refine ⟨n + 1 - (i + 1), by omega, h₃', tk₃, m₂, i + 1, rfl, ?_, F₃, N₃.right, hJ₃, hlt, rfl⟩
      refine W.frame _ _ _ hst₁ fun b hb o e => ?_
      have e₂ : h₂.get? b = some o := (hs₂.2 b fun q => hLf (q ▸ hb)).trans e
      cases hn : h₀.get? b with
      | some o₀ =>
        have : o₀ = o := by have := F₂.keep b o₀ hn; rw [e₂] at this; exact (Option.some.inj this).symm
        exact this ▸ F₃.keep b o₀ hn
      | none => exact (N₃ _ (List.mem_append_left _ (mem_ownOf hb hn e₂))).1
  · have hin : i = n := by omega
    subst hin
    refine W.done _ _ _ hst' fun h₁ tk₁ hk₁ => ?_
    obtain ⟨F₁, N₁⟩ := next h₁ hk₁
    exact hQ h₁ tk₁ m' F₁ N₁ hJ
end
end Mine

/- part M3 -/
namespace Mine
/-- a number of the script, cut -/
def cutN (a : Int) : Int := if 0 ≤ a then a.fmod (10 ^ Int.toNat 20) else -(-a).fmod (10 ^ Int.toNat 20)
theorem carried_cut {ys : List Value} {xs : List Int} (h : CarriedAll ys (List.map (fun a => if 0 ≤ a then PyData.int (a.fmod (10 ^ Int.toNat 20)) else PyData.int (-(-a).fmod (10 ^ Int.toNat 20))) (List.filter (fun _ => true) xs))) :
    IntsAre ys (xs.map cutN) := by
  have e : List.map (fun a => if 0 ≤ a then PyData.int (a.fmod (10 ^ Int.toNat 20)) else PyData.int (-(-a).fmod (10 ^ Int.toNat 20))) (List.filter (fun _ => true) xs) = xs.map fun a => PyData.int (cutN a) := by
    rw [List.filter_eq_self.mpr (fun _ _ => rfl)]
    refine List.map_congr_left fun a _ => ?_
    unfold cutN
    split <;> rfl
  rw [e] at h
  exact CarriedAll.intsOf h
/-- small enough -/
def Sm (a : Int) : Prop := a.natAbs ≤ 10 ^ 20
theorem sm_cut (a : Int) : Sm (cutN a) := by
  unfold Sm cutN
  have h20 : (10 : Int) ^ Int.toNat 20 = 100000000000000000000 := by decide
  rw [h20]
  split
  · rw [Int.fmod_eq_emod_of_nonneg _ (by decide)]; omega
  · rw [Int.fmod_eq_emod_of_nonneg _ (by decide)]; omega
theorem sm_all {xs : List Int} : ∀ x ∈ xs.map cutN ++ [-1, 128, 0], Sm x := by
  intro x hx
  rcases List.mem_append.mp hx with hx | hx
  · obtain ⟨a, _, rfl⟩ := List.mem_map.mp hx
    exact sm_cut a
  · simp only [List.mem_cons, List.not_mem_nil, or_false] at hx
    rcases hx with rfl | rfl | rfl <;> (unfold Sm; decide)
end Mine

/- part CL17 -/
namespace Mine
open PySem.Calls PySem.Spec
theorem ints_nth : ∀ {vs : List Value} {ns : List Int}, IntsAre vs ns → ∀ {i : Nat} {v : Value}, vs[i]? = some v → ∃ k t, ns[i]? = some k ∧ v = .int k t := by
  intro vs ns h
  induction h with
  | nil => intro i v e; simp at e
  | cons k t r ih =>
    intro i v e
    cases i with
    | zero => simp only [List.getElem?_cons_zero, Option.some.injEq] at e; exact ⟨_, _, rfl, e.symm⟩
    | succ j => simp only [List.getElem?_cons_succ] at e ⊢; exact ih e
section
variable {prog : Program} {w : World} {A : Around} {E : Value → Shared → Prop} {s : Shared} {env : Env} {h₀ : Heap} {x : PySem.Str} {body : List Stmt} {Q : Flow → Shared → Prop} {a : Addr} {vs : List Value} {ks : List Int}
  {m₀ : PySem.Str → Option Value} {news : List (Addr × Obj)}
/-- «for x in a made list of ints», one int turned -/
theorem for_li {y : PySem.Str} {c₀ : Int} {tc : Tok} {k0 : Nat} (g : Int → Int → Int)
    (hI : IntsAre vs ks) (hh : A.handled = none) (F : Fr h₀ env.locals s.heap m₀) (N : News h₀ env.locals s.heap ((a, listOf vs.toArray k0) :: news)) (hap : ∀ p ∈ news, p.1 ≠ a) (hy : m₀ y = some (.int c₀ tc))
    (turn : ∀ k t c ta h tk own, k ∈ ks → OwnOff own (news.map (·.1)) → Fr h₀ env.locals h (fun z => if z = x then some (.int k t) else if z = y then some (.int c ta) else m₀ z) → News h₀ env.locals h (news ++ own) →
      wpAny (model prog w) A (execs body env) (InvPostN h₀ env.locals (fun m' nx => nx = news ∧ (∃ t', m' y = some (.int (g c k) t')) ∧ ∀ z, z ≠ x → z ≠ y → m' z = m₀ z) own (news.map (·.1)) { s with heap := h, toks := tk } Q) E { s with heap := h, toks := tk })
    (done : ∀ (u : PySem.Str → Option Value) t h tk, Fr h₀ env.locals h (fun z => if z = x then u z else if z = y then some (.int (ks.foldl g c₀) t) else m₀ z) → News h₀ env.locals h news → Q .next { s with heap := h, toks := tk }) :
    wpAny (model prog w) A (pyIter (.ref a)) (fun it s₂ => LoopAtV prog w A h₀ env x body Q E it s₂) E s := by
  have hlen : ks.length = vs.length := hI.length.symm
  have ho := N (a, listOf vs.toArray k0) (.head _)
  have hl : s.heap.IsList a vs.toArray := PySem.IsL.isList ho.1
  have Nr : News h₀ env.locals s.heap news := fun p hp => N p (.tail _ hp)
  refine wpAny_pyIter_list hl ?_
  have hIa : a ≠ s.heap.objs.size := Nat.ne_of_lt (Heap.lt_size ho.1)
  have W := Walks.list (prog := prog) (w := w) hh s.heap.objs.size a hIa vs.toArray
  refine loop_invN (s := { s with heap := s.heap.push { cls := .type "list_iterator", data := .fields #[.ref a, .int 0 0] } }) (fun i m nx => nx = news ∧ (∃ t, m y = some (.int ((ks.take i).foldl g c₀) t)) ∧ ∀ z, z ≠ x → z ≠ y → m z = m₀ z) W ?_ ?_ ?_ ?_ ?_ (F.push _) (fun p hp => ⟨Heap.get?_push_of_some _ (Nr p hp).1, (Nr p hp).2⟩) ⟨rfl, ⟨tc, hy⟩, fun _ _ _ => rfl⟩ ?_ ?_
  · intro hm
    rcases List.mem_cons.mp hm with e | hm
    · exact absurd F.ns.lt (e ▸ Nat.lt_irrefl _)
    · exact ho.2.1 (List.mem_singleton.mp hm).symm
  · intro b' hb
    rw [List.mem_singleton.mp hb]
    exact next_is_new F
  · intro p hp hI
    exact absurd (Heap.lt_size (Nr p hp).1) ((List.mem_singleton.mp hI) ▸ Nat.lt_irrefl _)
  · intro p hp hI
    rcases List.mem_cons.mp hI with e | hI
    · exact absurd (Heap.lt_size (Nr p hp).1) (e ▸ Nat.lt_irrefl _)
    · exact hap p hp (List.mem_singleton.mp hI)
  · exact ⟨⟨_, Heap.get?_push_size _ rfl, rfl, rfl⟩, hl.at fun o e => Heap.get?_push_of_some _ e⟩
  · intro i v m₁ nx h tk own hi hP _ hoff hJ F₁ N₁
    obtain ⟨rfl, ⟨ta, ha⟩, hm⟩ := hJ
    have hP' : vs[i]? = some v := by simpa using hP
    obtain ⟨k, t, hx, rfl⟩ := ints_nth hI hP'
    have hs : (ks.take (i + 1)).foldl g c₀ = g ((ks.take i).foldl g c₀) k := by
      rw [List.take_add_one, hx]; simp
    rw [map_one ha hm] at F₁
    rw [hs]
    exact turn _ t _ ta h tk own (List.mem_of_getElem? hx) hoff F₁ N₁
  · intro m₁ nx h tk hJ F₁ N₁
    obtain ⟨rfl, ⟨t, ha⟩, hm⟩ := hJ
    rw [List.size_toArray, ← hlen, List.take_length] at ha
    refine done m₁ t h tk ?_ N₁
    rw [done_one ha hm]; exact F₁
end
end Mine

/- part CL18 -/
namespace Mine
open PySem.Calls PySem.Spec
section
variable {w : World} {mean : ExcName → Option Value} {mg mb : Str → Option Value} {n : Int} {tn tb : Tok} {b : Array UInt8} {ks : List Int} {dp un : Nat} {gd : Option (List Code)} {cn : Str} {cs : Scope} {a q : Addr} {ccd : Value} {cl : List (Str × Addr)} {outer : List Env} {A₀ : Around}
  {base h₀ : Heap} {L : Addr} {m : Str → Option Value} {s : Shared} {Q E : Value → Shared → Prop} {news : List (Addr × Obj)}
theorem octets_call (B : Below A₀ base outer h₀) (F : Fr h₀ L s.heap m) (X : (hd.heap_39 w.params).In h₀) (T : Top hd.view_39 [Str.ofString "IntStreamer"] mean mg mb h₀) (N : News h₀ L s.heap news) (hb : Bd n)
    (h : ∀ t h' k, Fr h₀ L h' m → News h₀ L h' news → Q (.bytes (byteArr (octs n)) t) { s with heap := h', toks := k })
    (hk : cs.kind = .function) (hd' : dp + 1 < recursionLimit) (hu : un + 8 < cLine) :
    wpAny (model PySem.Challenge.rw_fe0235_01.row.prog w) (ktrTop dp un gd cn cs L a ccd cl outer) (call (.ref 83) [.int n tn]) Q E s :=
  wpAny_call (octets_any w mean mg mb n tn dp un gd cn cs a ccd cl outer A₀ base h₀ L m s _ B F X T hk hd' hu hb fun t h' k kp => h t h' k (F.keeps kp) (N.keeps kp))
theorem number_call (B : Below A₀ base outer h₀) (F : Fr h₀ L s.heap m) (X : (hd.heap_39 w.params).In h₀) (T : Top hd.view_39 [Str.ofString "IntStreamer"] mean mg mb h₀) (N : News h₀ L s.heap news) (hb : KBw.bInts b = ks) (h1 : 1 ≤ ks.length) (h2 : ks.length ≤ 100)
    (h : ∀ t h' k, Fr h₀ L h' m → News h₀ L h' news → Q (.int (num ks) t) { s with heap := h', toks := k })
    (hk : cs.kind = .function) (hd' : dp + 1 < recursionLimit) (hu : un + 8 < cLine) :
    wpAny (model PySem.Challenge.rw_fe0235_01.row.prog w) (ktrTop dp un gd cn cs L a ccd cl outer) (call (.ref 90) [.bytes b tb]) Q E s :=
  wpAny_call (number_any w mean mg mb b ks tb dp un gd cn cs a ccd cl outer A₀ base h₀ L m s _ B F X T hk hd' hu hb h1 h2 fun t h' k kp => h t h' k (F.keeps kp) (N.keeps kp))
theorem to_call (B : Below A₀ base outer h₀) (F : Fr h₀ L s.heap m) (X : (hd.heap_39 w.params).In h₀) (T : Top hd.view_39 [Str.ofString "IntStreamer"] mean mg mb h₀) (N : News h₀ L s.heap ((q, methodObj (.ref 66) (.ref 72)) :: news)) (hb : Bd n)
    (h : ∀ t h' k, Fr h₀ L h' m → News h₀ L h' news → Q (.bytes (byteArr (octs n)) t) { s with heap := h', toks := k })
    (hk : cs.kind = .function) (hd' : dp + 1 < recursionLimit) (hu : un + 8 < cLine) :
    wpC (model PySem.Challenge.rw_fe0235_01.row.prog w) (ktrTop dp un gd cn cs L a ccd cl outer) (call (.ref q) [.int n tn]) Q E s := by
  have N' : News h₀ L s.heap news := fun p hp => N p (.tail _ hp)
  exact wpC_call (method_callC (N _ (.head _)).1 (to_octs w mean mg mb n tn dp un gd cn cs a ccd cl outer A₀ base h₀ L m s _ B F X T hk hd' hu hb fun t h' k kp => h t h' k (F.keeps kp) (N'.keeps kp)))
theorem from_call0 (B : Below A₀ base outer h₀) (F : Fr h₀ L s.heap m) (X : (hd.heap_39 w.params).In h₀) (T : Top hd.view_39 [Str.ofString "IntStreamer"] mean mg mb h₀) (N : News h₀ L s.heap ((q, methodObj (.ref 56) (.ref 72)) :: news)) (hb : KBw.bInts b = ks) (h2 : ks.length ≤ 100)
    (h : ∀ t h' k, Fr h₀ L h' m → News h₀ L h' news → Q (.int (num ks) t) { s with heap := h', toks := k })
    (hk : cs.kind = .function) (hd' : dp + 1 < recursionLimit) (hu : un + 8 < cLine) :
    wpC (model PySem.Challenge.rw_fe0235_01.row.prog w) (ktrTop dp un gd cn cs L a ccd cl outer) (call (.ref q) [.bytes b tb]) Q E s := by
  have N' : News h₀ L s.heap news := fun p hp => N p (.tail _ hp)
  exact wpC_call (method_callC (N _ (.head _)).1 (from_C0 w mean mg mb b ks tb dp un gd cn cs a ccd cl outer A₀ base h₀ L m s _ B F X T hk hd' hu hb h2 fun t h' k kp => h t h' k (F.keeps kp) (N'.keeps kp)))
theorem from_call1 (B : Below A₀ base outer h₀) (F : Fr h₀ L s.heap m) (X : (hd.heap_39 w.params).In h₀) (T : Top hd.view_39 [Str.ofString "IntStreamer"] mean mg mb h₀) (N : News h₀ L s.heap ((q, methodObj (.ref 56) (.ref 72)) :: news)) (hb : KBw.bInts b = ks) (h2 : ks.length ≤ 100)
    (h : ∀ t h' k, ¬ bad ks → Fr h₀ L h' m → News h₀ L h' news → Q (.int (num ks) t) { s with heap := h', toks := k })
    (hr : ∀ (e t' : Addr) (vs : List Value) (h' : Heap) (tk' : Nat), bad ks → RaisedK base (envX cn cs L a ccd cl :: outer) e (.ref 38) t' vs [] h' → s.heap.UpToSlots h' → Hold e h' → E (.ref e) { s with heap := h', toks := tk' })
    (hk : cs.kind = .function) (hd' : dp + 1 < recursionLimit) (hu : un + 8 < cLine) :
    wpC (model PySem.Challenge.rw_fe0235_01.row.prog w) (ktrTop dp un gd cn cs L a ccd cl outer) (call (.ref q) [.bytes b tb] [(Str.ofString "require_minimal", .bool true)]) Q E s := by
  have N' : News h₀ L s.heap news := fun p hp => N p (.tail _ hp)
  exact wpC_call (method_callC (N _ (.head _)).1 (from_C1 w mean mg mb b ks tb dp un gd cn cs a ccd cl outer A₀ base h₀ L m s _ B F X T hk hd' hu hb h2 (fun t h' k hb kp => h t h' k hb (F.keeps kp) (N'.keeps kp)) fun e t' vs h' tk' hb R U H => hr e t' vs h' tk' hb R U H))
end
theorem loose_is : looseW hd.view_39 [Str.ofString "IntStreamer"] = [Str.ofString "IntStreamer"] := by decide +kernel
theorem fold_sm {l : List Int} {c : Int} : (l.foldl (fun v k => v * k.fmod 1000003 + k.fmod 3 - 1) c).natAbs + 1 ≤ (c.natAbs + 1) * 1000004 ^ l.length := by
  induction l generalizing c with
  | nil => simp
  | cons k r ih =>
    rw [List.foldl_cons, List.length_cons]
    refine Nat.le_trans ih ?_
    rw [Nat.pow_succ, Nat.mul_comm (1000004 ^ r.length) 1000004, ← Nat.mul_assoc]
    refine Nat.mul_le_mul_right _ ?_
    have e1 : k.fmod 1000003 = k % 1000003 := Int.fmod_eq_emod_of_nonneg _ (by decide)
    have e2 : k.fmod 3 = k % 3 := Int.fmod_eq_emod_of_nonneg _ (by decide)
    rw [e1, e2]
    have h1 : (c * (k % 1000003)).natAbs = c.natAbs * (k % 1000003).natAbs := Int.natAbs_mul _ _
    have h2 : (k % 1000003).natAbs ≤ 1000003 := by omega
    have h3 : c.natAbs * (k % 1000003).natAbs ≤ c.natAbs * 1000003 := Nat.mul_le_mul_left _ h2
    generalize c * (k % 1000003) = p at *
    omega
theorem bd_of_sm {a : Int} (h : Sm a) : Bd a := by
  unfold Sm at h
  unfold Bd
  have : (10 : Nat) ^ 20 < 256 ^ 80 := by decide
  omega
theorem bd_fold {l : List Int} {c : Int} (hl : l.length ≤ 7) (hc : Sm c) : Bd (l.foldl (fun v k => v * k.fmod 1000003 + k.fmod 3 - 1) c) := by
  have h := fold_sm (l := l) (c := c)
  unfold Sm at hc
  have h7 : 1000004 ^ l.length ≤ 1000004 ^ 7 := Nat.pow_le_pow_right (by decide) hl
  have h8 : (c.natAbs + 1) * 1000004 ^ l.length ≤ (10 ^ 20 + 1) * 1000004 ^ 7 := Nat.mul_le_mul (by omega) h7
  have h9 : (10 ^ 20 + 1) * 1000004 ^ 7 < 256 ^ 80 := by decide
  unfold Bd
  omega
theorem bd_small {a : Int} (h : a.natAbs ≤ 10 ^ 20 + 1000) : Bd a := by
  unfold Bd
  have : (10 : Nat) ^ 20 + 1000 < 256 ^ 80 := by decide
  omega
theorem sm_getD {ns : List Int} {i : Nat} (h : ∀ x ∈ ns, Sm x) (hi : i < ns.length) : Sm (ns.getD i 0) := by
  rw [List.getD_eq_getElem?_getD, List.getElem?_eq_getElem hi, Option.getD_some]
  exact h _ (List.getElem_mem _)
end Mine

/- part CL19 -/
namespace Mine
open PySem.Calls PySem.Spec
section
variable {prog : Program} {w : World} {A : Around} {E : Value → Shared → Prop} {s : Shared} {env : Env} {h₀ : Heap} {x : PySem.Str} {body : List Stmt} {Q : Flow → Shared → Prop} {T : Addr} {o : Obj} {items : Array Value}
  {m₀ : PySem.Str → Option Value} {news : List (Addr × Obj)}
theorem for_tup {y : PySem.Str} (hh : A.handled = none) (F : Fr h₀ env.locals s.heap m₀) (N : News h₀ env.locals s.heap ((T, o) :: news)) (hT : s.heap.IsTuple T items)
    (hit : ∀ (i : Nat) (v : Value), items[i]? = some v → ∃ k t, v = .int k t ∧ Bd k)
    (turn : ∀ (k : Int) (t : Tok) (m₁ : PySem.Str → Option Value) (own : List (Addr × Obj)) (h : Heap) (tk : Nat), Bd k → Fr h₀ env.locals h (fun z => if z = x then some (.int k t) else m₁ z) → News h₀ env.locals h (own ++ news) → (∀ z, z ≠ x → z ≠ y → m₁ z = m₀ z) →
      wpC (model prog w) A (execs body env) (fun f s₃ => match f with
        | .next => ∃ h₃ tk₃ m₂, s₃ = { s with heap := h₃, toks := tk₃ } ∧ Fr h₀ env.locals h₃ m₂ ∧ News h₀ env.locals h₃ (own ++ news) ∧ ∀ z, z ≠ x → z ≠ y → m₂ z = m₀ z
        | .ret v => Q (.ret v) s₃
        | _ => False) (fun _ _ => False) { s with heap := h, toks := tk })
    (done : ∀ (u : PySem.Str → Option Value) h tk, Fr h₀ env.locals h (fun z => if z = x then u z else if z = y then u z else m₀ z) → News h₀ env.locals h news → Q .next { s with heap := h, toks := tk }) :
    wpAny (model prog w) A (pyIter (.ref T)) (fun it s₂ => LoopC prog w A h₀ env x body Q it s₂) E s := by
  have ho := N (T, o) (.head _)
  have Nr : News h₀ env.locals s.heap news := fun p hp => N p (.tail _ hp)
  refine wpAny_pyIter_tuple hT ?_
  have hIa : T ≠ s.heap.objs.size := Nat.ne_of_lt (Heap.lt_size ho.1)
  refine ⟨s.heap.objs.size, _, _, _, _, _, m₀, news, fun _ m => ∀ z, z ≠ x → z ≠ y → m z = m₀ z, rfl, Walks.tuple (prog := prog) (w := w) hh s.heap.objs.size T hIa items, ?_, ?_, ?_, ?_, F.push _, fun p hp => ⟨Heap.get?_push_of_some _ (Nr p hp).1, (Nr p hp).2⟩, fun _ _ _ => rfl, ?_, ?_⟩
  · intro hm
    rcases List.mem_cons.mp hm with e | hm
    · exact absurd F.ns.lt (e ▸ Nat.lt_irrefl _)
    · exact ho.2.1 (List.mem_singleton.mp hm).symm
  · intro b' hb
    rw [List.mem_singleton.mp hb]
    exact next_is_new F
  · intro p hp hI
    exact absurd (Heap.lt_size (Nr p hp).1) ((List.mem_singleton.mp hI) ▸ Nat.lt_irrefl _)
  · exact ⟨⟨_, Heap.get?_push_size _ rfl, rfl, rfl⟩, hT.at fun o e => Heap.get?_push_of_some _ e⟩
  · intro i v m₁ own h tk _ hP hJ F₁ N₁
    obtain ⟨k, t, rfl, hB⟩ := hit i v hP
    exact turn k t m₁ own h tk hB F₁ N₁ hJ
  · intro h' tk m' F' N' hJ
    refine done m' h' tk ?_ N'
    have e : (fun z => if z = x then m' z else if z = y then m' z else m₀ z) = m' := by
      funext z
      by_cases h1 : z = x
      · simp [h1]
      · by_cases h2 : z = y
        · simp [h2]
        · simp [h1, h2, hJ z h1 h2]
    rw [e]; exact F'
end
theorem bd_neg {a : Int} (h : Sm a) : Bd (-a) := by unfold Sm at h; exact bd_small (by omega)
theorem bd_127 {a : Int} : Bd (127 - a.fmod 3) := by
  have e : a.fmod 3 = a % 3 := Int.fmod_eq_emod_of_nonneg _ (by decide)
  rw [e]; exact bd_small (by omega)
theorem bd_255 {a : Int} : Bd (-255 - a.fmod 3) := by
  have e : a.fmod 3 = a % 3 := Int.fmod_eq_emod_of_nonneg _ (by decide)
  rw [e]; exact bd_small (by omega)
theorem six {a b c d e f : Int} {ta tb tc td te tf : Tok} (ha : Bd a) (hb : Bd b) (hc : Bd c) (hd : Bd d) (he : Bd e) (hf : Bd f) :
    ∀ (i : Nat) (v : Value), #[Value.int a ta, .int b tb, .int c tc, .int d td, .int e te, .int f tf][i]? = some v → ∃ k t, v = .int k t ∧ Bd k := by
  intro i v h
  have hm := Array.mem_of_getElem? h
  simp only [List.mem_toArray, List.mem_cons, List.not_mem_nil, or_false] at hm
  rcases hm with rfl | rfl | rfl | rfl | rfl | rfl
  · exact ⟨_, _, rfl, ha⟩
  · exact ⟨_, _, rfl, hb⟩
  · exact ⟨_, _, rfl, hc⟩
  · exact ⟨_, _, rfl, hd⟩
  · exact ⟨_, _, rfl, he⟩
  · exact ⟨_, _, rfl, hf⟩
end Mine

/- part M4 -/
namespace Mine
theorem val_digs : ∀ n : Nat, val (digs n) = n := by
  intro n
  induction n using Nat.strongRecOn with
  | ind n ih =>
    by_cases h : n = 0
    · subst h; rw [digs_zero]; rfl
    · rw [digs_pos (by omega), val, ih (n / 256) (by omega)]
      omega
theorem split_last {l : List Int} (h : 0 < l.length) : l = l.take (l.length - 1) ++ [l.getD (l.length - 1) 0] := by
  rw [List.getD_eq_getElem?_getD, List.getElem?_eq_getElem (by omega), Option.getD_some]
  rw [List.take_append_getElem]
  rw [Nat.sub_add_cancel h, List.take_length]
theorem num_app {bs : List Int} {x : Int} : num (bs ++ [x]) = if 127 < x then -(val bs + x % 128 * 256 ^ bs.length) else val bs + x % 128 * 256 ^ bs.length := by
  unfold num
  have e1 : (bs ++ [x]).length - 1 = bs.length := by simp
  have e2 : (bs ++ [x]).getD ((bs ++ [x]).length - 1) 0 = x := last_app
  rw [e2, e1]
  simp
theorem digs_last_pos {n : Nat} (h : 0 < n) : 0 < (digs n).length ∧ 0 < (digs n).getD ((digs n).length - 1) 0 := by
  induction n using Nat.strongRecOn with
  | ind n ih =>
    rw [digs_pos h]
    refine ⟨by simp, ?_⟩
    by_cases h2 : n / 256 = 0
    · rw [h2, digs_zero]
      simp
      omega
    · have := ih (n / 256) (by omega) (by omega)
      have hl := this.1
      have e : (((n % 256 : Nat) : Int) :: digs (n / 256)).getD ((((n % 256 : Nat) : Int) :: digs (n / 256)).length - 1) 0 = (digs (n / 256)).getD ((digs (n / 256)).length - 1) 0 := by
        rw [List.length_cons, Nat.add_sub_cancel]
        obtain ⟨k, hk⟩ : ∃ k, (digs (n / 256)).length = k + 1 := ⟨(digs (n / 256)).length - 1, by omega⟩
        rw [hk]
        simp
      rw [e]
      exact this.2
/-- the shape of the octets of a number that is not nought -/
theorem octs_shape {n : Int} (hn : n ≠ 0) : ∃ bs x, digs n.natAbs = bs ++ [x] ∧ 0 < x ∧ x < 256 ∧ (n.natAbs : Int) = val bs + x * 256 ^ bs.length ∧
    octs n = if 127 < x then bs ++ [x] ++ [if n < 0 then 128 else 0] else bs ++ [if n < 0 then x + 128 else x] := by
  obtain ⟨h1, h2⟩ := digs_last_pos (n := n.natAbs) (by omega)
  have e := split_last h1
  have hx := digs_in n.natAbs
  have hv := val_digs n.natAbs
  unfold octs
  generalize (digs n.natAbs).take ((digs n.natAbs).length - 1) = bs at e
  generalize (digs n.natAbs).getD ((digs n.natAbs).length - 1) 0 = x at *
  rw [e] at hx hv h1 ⊢
  have hxx := hx x (by simp)
  rw [val_append] at hv
  simp only [val, Int.mul_zero, Int.add_zero] at hv
  refine ⟨bs, x, rfl, h2, hxx.2, by rw [← hv, Int.mul_comm], ?_⟩
  by_cases hc : 127 < x
  · rw [if_pos ⟨h1, hc⟩, if_pos hc]
  · rw [if_neg (fun q => hc q.2), if_neg hc]
    by_cases h3 : n < 0
    · rw [if_pos h3, if_pos h3, set_app]
    · rw [if_neg h3, if_neg h3]
theorem num_octs (n : Int) : num (octs n) = n := by
  by_cases hn : n = 0
  · subst hn; rw [octs_zero]; decide
  obtain ⟨bs, x, _, h0, h1, hv, e⟩ := octs_shape hn
  rw [e]
  by_cases hc : 127 < x
  · rw [if_pos hc, num_app, val_append]
    simp only [val, Int.mul_zero, Int.add_zero]
    rw [Int.mul_comm] at hv
    rw [← hv]
    by_cases h3 : n < 0
    · simp only [if_pos h3]; simp; omega
    · simp only [if_neg h3]; simp; omega
  · rw [if_neg hc, num_app]
    by_cases h3 : n < 0
    · simp only [if_pos h3]
      have e2 : (x + 128) % 128 = x := by omega
      rw [if_pos (by omega), e2, ← hv]; omega
    · simp only [if_neg h3]
      have e2 : x % 128 = x := by omega
      rw [if_neg hc, e2, ← hv]; omega
theorem bad_app {bs : List Int} {x : Int} : bad (bs ++ [x]) ↔ x % 128 = 0 ∧ (bs = [] ∨ bs.getD (bs.length - 1) 0 < 128) := by
  unfold bad
  rw [last_app]
  have e1 : (bs ++ [x]).length = bs.length + 1 := by simp
  rw [e1]
  constructor
  · rintro ⟨_, h1, h2⟩
    refine ⟨h1, ?_⟩
    by_cases h : bs = []
    · exact .inl h
    · refine .inr ?_
      have hp : 0 < bs.length := List.length_pos_iff.mpr h
      rcases h2 with h2 | h2
      · omega
      · rw [List.getD_eq_getElem?_getD] at h2 ⊢
        rw [show bs.length + 1 - 2 = bs.length - 1 by omega, List.getElem?_append_left (by omega)] at h2
        exact h2
  · rintro ⟨h1, h2⟩
    refine ⟨by omega, h1, ?_⟩
    rcases h2 with rfl | h2
    · exact .inl (by simp)
    · by_cases h : bs = []
      · subst h; exact .inl (by simp)
      · have hp : 0 < bs.length := List.length_pos_iff.mpr h
        refine .inr ?_
        rw [List.getD_eq_getElem?_getD] at h2 ⊢
        rw [show bs.length + 1 - 2 = bs.length - 1 by omega, List.getElem?_append_left (by omega)]
        exact h2
theorem octs_good (n : Int) : ¬ bad (octs n) := by
  by_cases hn : n = 0
  · subst hn; rw [octs_zero]; exact bad_nil rfl
  obtain ⟨bs, x, _, h0, h1, hv, e⟩ := octs_shape hn
  rw [e]
  by_cases hc : 127 < x
  · rw [if_pos hc, bad_app]
    rintro ⟨_, h2 | h2⟩
    · simp at h2
    · rw [last_app] at h2; omega
  · rw [if_neg hc, bad_app]
    rintro ⟨h2, _⟩
    split at h2 <;> omega
end Mine

/- part M5 -/
namespace Mine
theorem val_nn : ∀ {l : List Int}, (∀ x ∈ l, 0 ≤ x ∧ x < 256) → 0 ≤ val l := by
  intro l
  induction l with
  | nil => intro _; exact Int.le_refl _
  | cons x r ih =>
    intro h
    have h1 := h x (.head _)
    have h2 := ih fun y hy => h y (.tail _ hy)
    simp only [val]
    omega
theorem val_pos : ∀ {l : List Int}, (∀ x ∈ l, 0 ≤ x ∧ x < 256) → l ≠ [] → (∀ bs x, l = bs ++ [x] → x ≠ 0) → 0 < val l := by
  intro l
  induction l with
  | nil => intro _ h; exact absurd rfl h
  | cons x r ih =>
    intro h _ hl
    have h1 := h x (.head _)
    simp only [val]
    cases r with
    | nil =>
      have := hl [] x rfl
      simp only [val]
      omega
    | cons y r' =>
      have := ih (fun z hz => h z (.tail _ hz)) (by simp) (fun bs z e => hl (x :: bs) z (by rw [e]; rfl))
      omega
theorem digs_val : ∀ {l : List Int}, (∀ x ∈ l, 0 ≤ x ∧ x < 256) → (∀ bs x, l = bs ++ [x] → x ≠ 0) → digs (val l).toNat = l := by
  intro l
  induction l with
  | nil => intro _ _; exact digs_zero
  | cons x r ih =>
    intro h hl
    have h1 := h x (.head _)
    have hp := val_pos h (by simp) hl
    have hr := ih (fun z hz => h z (.tail _ hz)) (fun bs z e => hl (x :: bs) z (by rw [e]; rfl))
    have hn := val_nn (l := r) fun z hz => h z (.tail _ hz)
    simp only [val] at hp ⊢
    rw [digs_pos (by omega)]
    have e1 : (((x + 256 * val r).toNat % 256 : Nat) : Int) = x := by omega
    have e2 : (x + 256 * val r).toNat / 256 = (val r).toNat := by omega
    rw [e1, e2, hr]
theorem app_last {bs cs : List Int} {x y : Int} (h : bs ++ [x] = cs ++ [y]) : bs = cs ∧ x = y := by
  have := List.append_inj' h rfl
  exact ⟨this.1, by simpa using this.2⟩
theorem octs_num {ks : List Int} (hr : ∀ x ∈ ks, 0 ≤ x ∧ x < 256) (h1 : 1 ≤ ks.length) (hb : ¬ bad ks) : octs (num ks) = ks := by
  have e := split_last (l := ks) h1
  generalize ks.take (ks.length - 1) = bs at e
  generalize ks.getD (ks.length - 1) 0 = x at e
  subst e
  have hx := hr x (by simp)
  have hbs : ∀ y ∈ bs, 0 ≤ y ∧ y < 256 := fun y hy => hr y (by simp [hy])
  have hbn := val_nn hbs
  rw [num_app]
  by_cases h0 : x % 128 = 0
  · -- the sign stands alone
    rw [bad_app] at hb
    have hne : bs ≠ [] := fun q => hb ⟨h0, .inl q⟩
    have hz : ¬ bs.getD (bs.length - 1) 0 < 128 := fun q => hb ⟨h0, .inr q⟩
    have hlp : 0 < bs.length := List.length_pos_iff.mpr hne
    have e := split_last hlp
    have hlast : ∀ cs z, bs = cs ++ [z] → z ≠ 0 := fun cs z q => by
      rw [q] at e hz
      have e3 := (app_last e).2
      have : (cs ++ [z]).getD ((cs ++ [z]).length - 1) 0 = z := last_app
      omega
    have hp := val_pos hbs hne hlast
    have hd := digs_val hbs hlast
    have ex : x = 0 ∨ x = 128 := by omega
    rw [h0, Int.zero_mul, Int.add_zero]
    rcases ex with rfl | rfl
    · rw [if_neg (show ¬ (127 : Int) < 0 by omega)]
      unfold octs
      have e2 : (val bs).natAbs = (val bs).toNat := by omega
      rw [e2, hd]
      have hc : 0 < bs.length ∧ 127 < bs.getD (bs.length - 1) 0 := ⟨hlp, by omega⟩
      rw [if_pos hc, if_neg (by omega)]
    · rw [if_pos (show (127 : Int) < 128 by omega)]
      unfold octs
      have e2 : (-(val bs)).natAbs = (val bs).toNat := by omega
      rw [e2, hd]
      have hc : 0 < bs.length ∧ 127 < bs.getD (bs.length - 1) 0 := ⟨hlp, by omega⟩
      rw [if_pos hc, if_pos (by omega)]
  · have hy : ∀ z ∈ bs ++ [x % 128], 0 ≤ z ∧ z < 256 := by
      intro z hz
      rcases List.mem_append.mp hz with hz | hz
      · exact hbs z hz
      · simp only [List.mem_singleton] at hz
        omega
    have hlast : ∀ cs z, bs ++ [x % 128] = cs ++ [z] → z ≠ 0 := fun cs z q => by
      have := (app_last q).2
      omega
    have hp := val_pos hy (by simp) hlast
    have hd := digs_val hy hlast
    have ev : val (bs ++ [x % 128]) = val bs + x % 128 * 256 ^ bs.length := by
      rw [val_append]
      simp only [val, Int.mul_zero, Int.add_zero]
      rw [Int.mul_comm]
    rw [ev] at hp hd
    generalize val bs + x % 128 * 256 ^ bs.length = v at hp hd
    unfold octs
    by_cases hc : 127 < x
    · rw [if_pos hc]
      have e2 : (-v).natAbs = v.toNat := by omega
      rw [e2, hd, last_app, set_app, if_neg (by omega), if_pos (by omega)]
      rw [show x % 128 + 128 = x by omega]
    · rw [if_neg hc]
      have e2 : v.natAbs = v.toNat := by omega
      rw [e2, hd, last_app, if_neg (by omega), if_neg (by omega)]
      rw [show x % 128 = x by omega]
theorem bad_ne {ks : List Int} (h : bad ks) : octs (num ks) ≠ ks := fun e => octs_good (num ks) (by rw [e]; exact h)
theorem byteArr_inj {a b : List Int} (ha : ∀ x ∈ a, 0 ≤ x ∧ x < 256) (hb : ∀ x ∈ b, 0 ≤ x ∧ x < 256) (h : byteArr a = byteArr b) : a = b := by
  rw [← KBa.ints_make ha, ← KBa.ints_make hb, h]
end Mine

/- part CL20 -/
namespace Mine
open PySem.Calls PySem.Spec
section
variable {prog : Program} {w : World} {A : Around} {E : Value → Shared → Prop} {s : Shared} {value slice : PySem.Expr} {l : Addr} {vs : List Value} {ns : List Int} {i : Int} {u : Tok} {Q : Value → Shared → Prop}
theorem pick5 (hl : s.heap.IsList l vs.toArray) (hi : IntsAre vs ns) (hlen : ns.length = 5) (hr : ∀ x ∈ ns, 0 ≤ x ∧ x < 256) (h : ∀ x t, 0 ≤ x → x < 256 → Q (.int x t) s)
    (hs : subscripted slice false (.ref l) (.int (i.fmod 5) u) = operate [.ref l, .int (i.fmod 5) u] (getItem (.ref l) (.int (i.fmod 5) u)) := by with_unfolding_all rfl) :
    wpAny (model prog w) A (subscriptTail value slice (.ref l) (.int (i.fmod 5) u)) Q E s := by
  have e : i.fmod 5 = i % 5 := Int.fmod_eq_emod_of_nonneg _ (by decide)
  have h0 : 0 ≤ i.fmod 5 := by omega
  have h1 : i.fmod 5 < ns.length := by omega
  have hx := KBw.getD_in (ks := ns) (j := (i.fmod 5).toNat) hr
  exact item_list_intsR hl hi h0 h1 (by omega) (fun t => h _ t hx.1 hx.2) hs
end
theorem five_in {x : Int} (h : 0 ≤ x ∧ x < 256) : ∀ y ∈ [x, 0, 128, 127, 129], 0 ≤ y ∧ y < 256 := by
  intro y hy
  simp only [List.mem_cons, List.not_mem_nil, or_false] at hy
  rcases hy with rfl | rfl | rfl | rfl | rfl
  · exact h
  all_goals omega
theorem mods_in {ns : List Int} : ∀ x ∈ ns.map (fun k' => k'.fmod 256), 0 ≤ x ∧ x < 256 := by
  intro x hx
  obtain ⟨a, _, rfl⟩ := List.mem_map.mp hx
  rw [fmod256]
  omega
theorem set_in {ns : List Int} {x : Int} {j : Nat} (h : ∀ y ∈ ns, 0 ≤ y ∧ y < 256) (hx : 0 ≤ x ∧ x < 256) : ∀ y ∈ ns.set j x, 0 ≤ y ∧ y < 256 := by
  intro y hy
  rcases List.mem_or_eq_of_mem_set hy with hy | rfl
  · exact h y hy
  · exact hx
section
variable {M : Model} {A : Around} {E : Value → Shared → Prop} {s : Shared} {env : Env}
/-- try .. except, the body in clean contexts, its clauses anywhere -/
theorem wpC_Try {body orelse : List Stmt} {hd : ExceptHandler} {hs : List ExceptHandler} {pos : Pos} {Q : Flow → Shared → Prop}
    (h : wpC M A (execs body env) (fun f s₁ => match f with | .next => wpC M A (execs orelse env) Q E s₁ | f => Q f s₁)
      (fun e s₁ => wpAny M A (noteFrame e env) (fun _ s₂ => wpAny M A (setFlight e none) (fun _ s₃ => wpAny M A (handleBy e env (hd :: hs)) Q E s₃) E s₂) E s₁) s) :
    wpC M A (exec (.Try body (hd :: hs) orelse [] pos) env) Q E s := by
  rw [arm_exec_Try]
  refine wpC_bindA (wpAny_standAt ?_)
  unfold tryStmt
  simp only [List.isEmpty_nil, if_true, List.isEmpty_cons, Bool.false_and, Bool.false_eq_true, if_false]
  refine wpC_bind (wpC_attempt (wpC_mono h (fun f s₁ h₁ => ?_) fun e s₁ h₁ => ?_))
  · cases f <;> first | exact h₁ | exact wpC_pure h₁
  · exact wpC_bindA (wpAny_mono h₁ (fun _ _ h₂ => wpC_bindA (wpAny_mono h₂ (fun _ _ h₃ => wpC_of h₃) fun _ _ x => x)) fun _ _ x => x)
end
theorem news_snd {h₀ h : Heap} {L : Addr} {p q : Addr × Obj} {r : List (Addr × Obj)} (N : News h₀ L h (p :: q :: r)) : News h₀ L h [q] := fun x hx => N x (by rw [List.mem_singleton.mp hx]; exact .tail _ (.head _))
theorem drawn_in {ns : List Int} {j : Nat} {x : Int} (h0 : 0 ≤ x) (h1 : x < 256) : ∀ y ∈ (ns.map fun k' => k'.fmod 256).set j x, 0 ≤ y ∧ y < 256 := set_in mods_in ⟨h0, h1⟩
theorem drawn_ints {ns : List Int} {j : Nat} {x : Int} (h0 : 0 ≤ x) (h1 : x < 256) : KBw.bInts (byteArr ((ns.map fun k' => k'.fmod 256).set j x)) = (ns.map fun k' => k'.fmod 256).set j x := KBa.ints_make (drawn_in h0 h1)
theorem drawn_len {ns : List Int} {j : Nat} {x : Int} : (((ns.take 12).map fun k' => k'.fmod 256).set j x).length = min 12 ns.length := by
  rw [List.length_set, List.length_map, List.length_take]
theorem num_bd {ks : List Int} (hr : ∀ x ∈ ks, 0 ≤ x ∧ x < 256) (h1 : 1 ≤ ks.length) (h2 : ks.length ≤ 12) : Bd (num ks) := by
  have e := split_last (l := ks) h1
  have hlen : (ks.take (ks.length - 1)).length ≤ 11 := by rw [List.length_take]; omega
  generalize ks.take (ks.length - 1) = bs at e hlen
  generalize ks.getD (ks.length - 1) 0 = x at e
  subst e
  have hv : ∀ (l : List Int), (∀ x ∈ l, 0 ≤ x ∧ x < 256) → 0 ≤ val l ∧ val l < 256 ^ l.length := by
    intro l
    induction l with
    | nil => intro _; exact ⟨Int.le_refl _, by decide⟩
    | cons y r ih =>
      intro h
      have h3 := h y (.head _)
      have h4 := ih fun z hz => h z (.tail _ hz)
      simp only [val, List.length_cons, Int.pow_succ]
      omega
  have hm : ∀ z ∈ bs ++ [x % 128], 0 ≤ z ∧ z < 256 := by
    intro z hz
    rcases List.mem_append.mp hz with hz | hz
    · exact hr z (by simp [hz])
    · simp only [List.mem_singleton] at hz
      omega
  have ev : val (bs ++ [x % 128]) = val bs + x % 128 * 256 ^ bs.length := by
    rw [val_append]
    simp only [val, Int.mul_zero, Int.add_zero]
    rw [Int.mul_comm]
  have hb := hv _ hm
  rw [num_app, ← ev]
  have h5 : (bs ++ [x % 128]).length ≤ 12 := by simp; omega
  have h6 : 256 ^ (bs ++ [x % 128]).length ≤ 256 ^ 12 := Nat.pow_le_pow_right (by decide) h5
  have h7 : ((256 ^ (bs ++ [x % 128]).length : Nat) : Int) = (256 : Int) ^ (bs ++ [x % 128]).length := by rw [Int.natCast_pow]; rfl
  rw [← h7] at hb
  have h8 : (256 : Nat) ^ 12 < 256 ^ 80 := by decide
  unfold Bd
  generalize 256 ^ (bs ++ [x % 128]).length = P at *
  generalize val (bs ++ [x % 128]) = v at *
  generalize (256 : Nat) ^ 80 = P80 at *
  generalize (256 : Nat) ^ 12 = P12 at *
  split <;> omega
theorem drawn_bd {ns : List Int} {j : Nat} {x : Int} (h0 : 0 ≤ x) (h1 : x < 256) (hl : 1 ≤ ns.length) : Bd (num (((ns.take 12).map fun k' => k'.fmod 256).set j x)) :=
  num_bd (drawn_in h0 h1) (by rw [drawn_len]; omega) (by rw [drawn_len]; omega)
section
variable {w : World} {mean : ExcName → Option Value} {mg mb : Str → Option Value} {n : Int} {tn : Tok} {ks : List Int} {dp un : Nat} {gd : Option (List Code)} {cn : Str} {cs : Scope} {a : Addr} {ccd : Value} {cl : List (Str × Addr)} {outer : List Env} {A₀ : Around}
  {base h₀ : Heap} {L : Addr} {m : Str → Option Value} {s : Shared} {Q E : Value → Shared → Prop} {news : List (Addr × Obj)}
theorem octets_call2 (B : Below A₀ base outer h₀) (F : Fr h₀ L s.heap m) (X : (hd.heap_39 w.params).In h₀) (T : Top hd.view_39 [Str.ofString "IntStreamer"] mean mg mb h₀) (N : News h₀ L s.heap news) (hb : Bd n) (e : octs n = ks)
    (h : ∀ t h' k, Fr h₀ L h' m → News h₀ L h' news → Q (.bytes (byteArr ks) t) { s with heap := h', toks := k })
    (hk : cs.kind = .function) (hd' : dp + 1 < recursionLimit) (hu : un + 8 < cLine) :
    wpAny (model PySem.Challenge.rw_fe0235_01.row.prog w) (ktrTop dp un gd cn cs L a ccd cl outer) (call (.ref 83) [.int n tn]) Q E s :=
  octets_call B F X T N hb (by rw [e]; exact h) hk hd' hu
end
end Mine

/- part CL21 -/
namespace Mine
open PySem.Calls PySem.Spec
theorem uc_plain : plainId "proto.unchain" = true := by decide +kernel
theorem uc_entry : entryFor table "proto.unchain" = some Builtin.«proto.unchain» := entryFor_of_tree (by kernel_rfl)
section
variable {prog : Program} {w : World} {A : Around} {E : Value → Shared → Prop} {s : Shared} {h : Addr} {oh : Obj} {vs : Array Value}
/-- a chain that ends at once -/
theorem unchain_end {v : Value} {Q : Value → Shared → Prop} (ho : s.heap.get? h = some oh) (hd : oh.data = .fields vs) (h2 : vs[2]? = some .none) (hq : Q .none s) :
    wpAny (model prog w) A (runValue (.builtin "proto.unchain" ⟨[v, .ref h, .ref h, .bool false], []⟩)) Q E s := by
  refine wpAny_runValue (codeAny_builtin uc_entry ?_)
  rw [Around.under_plainId uc_plain _]
  unfold Builtin.«proto.unchain»
  refine wpAny_bind (wpAny_field ho hd h2 ?_)
  exact wpAny_pure hq
theorem raiseNew_some {α : Type} {a : Addr} {Q : α → Shared → Prop} (hh : A.handled = some (.ref h)) (hne : h ≠ a) (ho : s.heap.get? h = some oh) (hd : oh.data = .fields vs) (h2 : vs[2]? = some .none)
    {oa : Obj} {ws : Array Value} (ha : s.heap.get? a = some oa) (hw : oa.data = .fields ws) (hs : 2 < ws.size) (hE : E (.ref a) { s with heap := s.heap.update a (Obj.mapFields (·.setIfInBounds 2 (.ref h))) }) : wpAny (model prog w) A (raiseNew (.ref a) : Sem α) Q E s := by
  unfold raiseNew
  refine wpAny_bind (wpAny_handled ?_)
  rw [hh]
  dsimp only
  have hb : (Value.ref h != Value.ref a) = true := by
    rw [bne_iff_ne]
    exact fun q => hne (Value.ref.inj q)
  have hstep : wpAny (model prog w) A (do let _ ← holding [.ref a] (runValue (.builtin "proto.unchain" ⟨[.ref a, .ref h, .ref h, .bool false], []⟩)); updateField a 2 (.ref h)) (fun _ s' => E (.ref a) s') E s := by
    refine wpAny_bind (wpAny_holding (unchain_end ho hd h2 ?_))
    have := wpAny_setField (M := model prog w) (A := A) (E := E) (Q := fun _ s' => E (.ref a) s') (i := 2) (x := .ref h) ha hw hs hE
    exact this
  first
    | exact wpAny_bind (bm_if_true hb (wpAny_mono hstep (fun _ _ x => wpAny_throw x) fun _ _ x => x))
    | exact bm_if_true hb (wpAny_bind (wpAny_mono hstep (fun _ _ x => wpAny_throw x) fun _ _ x => x))
    | (refine bm_if_true hb ?_
       refine wpAny_bind (wpAny_holding (unchain_end ho hd h2 ?_))
       refine wpAny_bind ?_
       exact wpAny_mono (wpAny_setField (M := model prog w) (A := A) (E := E) (Q := fun _ s' => E (.ref a) s') (i := 2) (x := .ref h) ha hw hs hE) (fun _ _ x => wpAny_throw x) fun _ _ x => x)
end
section
variable {prog : Program} {w : World} {A : Around} {E : Value → Shared → Prop} {s : Shared} {h : Addr} {oh : Obj} {vs : Array Value}
/-- a list's iterator at its end, while an exception is handled -/
theorem list_end_some {it l : Addr} {i : Nat} {items : Array Value} {Q : Option Value → Shared → Prop} (hh : A.handled = some (.ref h)) (hih : it ≠ h) (ho : s.heap.get? h = some oh) (hd : oh.data = .fields vs) (h2 : vs[2]? = some .none)
    (hit : s.heap.IsListIter it l i) (hl : s.heap.IsList l items) (hx : items[i]? = none)
    (hQ : ∀ h', Heap.ExtBut it s.heap h' → Q none { s with heap := h' }) : wpAny (model prog w) A (pyNext (.ref it)) Q E s := by
  obtain ⟨o, hoi, hc, hdi⟩ := id hit
  obtain ⟨ol, hol, _, nl, hdl⟩ := hl
  unfold pyNext
  refine wpAny_bind (wpAny_attempt (wpAny_callSpecial?_slot (name := Str.ofString "__next__") hit.typeIs slot_listiter_next
    (wpAny_call_entry slot_listiter_next hit.typeIs entry_listiter_next ?_ (args_listiter_next _))))
  show wpAny _ _ (field (.ref it) 0 >>= _) _ _ s
  refine wpAny_bind (wpAny_field hoi hdi (x := .ref l) rfl ?_)
  refine bm_if_false rfl ?_
  refine wpAny_bind (wpAny_field hoi hdi (x := .int i 0) rfl ?_)
  refine wpAny_bind (wpAny_seqItems hol hdl ?_)
  simp only [Int.toNat_natCast, hx]
  refine wpAny_bind (wpAny_rule (wpAny_bind (wpAny_setField hoi hdi (by simp) ?_)))
  show wpAny _ _ (newExc (.type "StopIteration") [] >>= _) _ _ _
  refine wpAny_bind ?_
  simp only [newExc, newTuple]
  refine wpAny_bind (wpAny_newObj_type ?_ (by size_fits))
  refine wpAny_bind (m := firstArgMember _ _) (wpAny_of_eq (a := Value.none) (by first | rfl | (simp only [firstArgMember]; rfl)) ?_)
  refine wpAny_newObj_type ?_ (by size_fits)
  have hlt := Heap.lt_size ho
  have e1 : ∀ {h1 : Heap} {o1 : Obj}, h1.get? h = some oh → (h1.push o1).get? h = some oh := fun q => Heap.get?_push_of_some _ q
  have hb0 : (s.heap.update it (Obj.mapFields (·.setIfInBounds 0 .none))).get? h = some oh := ((Heap.SameBut.update ..).2 h (Ne.symm hih)).trans ho
  refine raiseNew_some (s := { s with heap := _ }) (oh := oh) (vs := vs) hh ?_ (e1 (e1 hb0)) hd h2 (Heap.get?_push_size _ rfl) rfl (by simp; omega) ?_
  · refine Nat.ne_of_lt ?_
    exact Heap.lt_size (e1 hb0)
  · refine wpAny_bind (wpAny_isInstance (T := "StopIteration") (b := true) ?_ isSubtype_stop ?_)
    · exact ⟨_, Heap.get?_update_self _ (Heap.get?_push_size _ rfl) rfl, rfl⟩
    · refine wpAny_pure (hQ _ fun b o hb e => ?_)
      have hb2 : b < s.heap.objs.size := Heap.lt_size e
      refine ((Heap.SameBut.update ..).2 b ?_).trans (Heap.get?_push_of_some _ (Heap.get?_push_of_some _ (((Heap.SameBut.update ..).2 b hb).trans e)))
      exact Nat.ne_of_lt (Heap.lt_size (Heap.get?_push_of_some _ (((Heap.SameBut.update ..).2 b hb).trans e)))
end
end Mine

/- part CL22 -/
namespace Mine
open PySem.Calls PySem.Spec
section
variable {prog : Program} {w : World} {A : Around} {E : Value → Shared → Prop} {s : Shared} {h : Addr} {oh : Obj} {fs : Array Value}
/-- bytes' own loop over a list of ints, while an exception is handled -/
theorem loop_some {R : Result → Shared → Prop} {l I S : Addr} {vs : List Value} {ns : List Int} (hh : A.handled = some (.ref h)) (hd : oh.data = .fields fs) (h2 : fs[2]? = some .none) (hIh : I ≠ h) (hSh : S ≠ h)
    (hi : IntsAre vs ns) (hr : ∀ n ∈ ns, 0 ≤ n ∧ n < 256) (hz : ns.length ≤ sizeLine) (hIS : I ≠ S) (hlI : l ≠ I) (hlS : l ≠ S) :
    ∀ (k i : Nat) (s : Shared), ns.length - i = k → i ≤ ns.length → s.heap.get? h = some oh → s.heap.IsList l vs.toArray → s.heap.IsListIter I l i → s.heap.get? S = some { cls := .type "bytearray", data := .bytearray (byteArr (ns.take i)) } →
      (∀ h' t k', (∀ b o, b ≠ I → b ≠ S → s.heap.get? b = some o → h'.get? b = some o) → R (.ok (.ret (.bytes (byteArr ns) t))) { s with heap := h', toks := k' }) →
      codeAny (model prog w) A (.builtin "bytes.__new__.loop" ⟨[.type "bytes", .ref I, .ref S], []⟩) R s := by
  have hlen : vs.length = ns.length := hi.length
  intro k
  induction k with
  | zero =>
    intro i s hk hle ho hl hit hS hR
    have hin : i = ns.length := by omega
    subst hin
    refine codeAny_builtin F.bm_entry_loop ?_
    rw [Around.under_plainId F.bm_plain_loop _]
    refine wpAny_bind (list_end_some hh hIh ho hd h2 hit hl (by simp [hlen]) fun h' he => ?_)
    have hS' := he S _ (Ne.symm hIS) hS
    refine wpAny_bind ?_
    unfold Builtin.Bytes.payload Builtin.Bytes.payload?
    refine wpAny_bind (wpAny_bind (wpAny_load hS' (wpAny_pure (wpAny_pure ?_))))
    rw [List.take_length]
    refine wpAny_bind (wpAny_mkBytes ?_ (by rw [byteArr_size]; exact hz))
    refine bm_if_true (by decide) ?_
    first
      | exact wpAny_pure (hR h' _ _ fun b o hb _ e => he b o hb e)
      | exact wpAny_bind (wpAny_pure (wpAny_pure (hR h' _ _ fun b o hb _ e => he b o hb e)))
  | succ k ih =>
    intro i s hk hle ho hl hit hS hR
    have hlt : i < ns.length := by omega
    obtain ⟨x, hx⟩ : ∃ x, vs[i]? = some x := ⟨vs[i]'(by omega), List.getElem?_eq_getElem (by omega)⟩
    obtain ⟨n, t, hn, rfl⟩ := ints_nth hi hx
    obtain ⟨h0, h1⟩ := hr n (List.mem_of_getElem? hn)
    refine codeAny_builtin F.bm_entry_loop ?_
    rw [Around.under_plainId F.bm_plain_loop _]
    refine wpAny_bind (wpAny_pyNext_list_item (x := .int n t) hit hl (by simpa using hx) fun h' hit' hs => ?_)
    have hS' : h'.get? S = some { cls := .type "bytearray", data := .bytearray (byteArr (ns.take i)) } := (hs.2 S (Ne.symm hIS)).trans hS
    have ho' : h'.get? h = some oh := (hs.2 h (Ne.symm hIh)).trans ho
    refine wpAny_bind (wpAny_holding (wpAny_of_eq (rfl : asIndex (.int n t) = pure n) (wpAny_bind (wpAny_letGo ?_))))
    refine bm_if_false (by simp only [Bool.or_eq_false_iff, decide_eq_false_iff_not]; omega) ?_
    refine wpAny_bind ?_
    show wpAny _ _ (updateBytearray S (·.push n.toNat.toUInt8)) _ _ _
    unfold updateBytearray
    refine wpAny_bind (wpAny_load hS' ?_)
    show wpAny _ _ (update S (Obj.mapBytearray (·.push n.toNat.toUInt8)) >>= fun _ => lookBehind S) _ _ _
    refine wpAny_bind (wpAny_update hS' ?_)
    have hS₂ : (h'.update S (Obj.mapBytearray (·.push n.toNat.toUInt8))).get? S = some { cls := .type "bytearray", data := .bytearray (byteArr (ns.take (i + 1))) } := by
      rw [byteArr_take hn]
      exact Heap.get?_update_self (Obj.mapBytearray (·.push n.toNat.toUInt8)) hS' rfl
    refine wpAny_lookBehind hS₂ ?_ ?_
    · show (if (byteArr (ns.take (i + 1))).size > sizeLine then some "bytearray:memory" else none) = none
      rw [if_neg]
      rw [byteArr_size, List.length_take]
      omega
    · refine wpAny_pure ⟨plainId_quiet F.bm_plain_loop _, ih (i + 1) { s with heap := h'.update S (Obj.mapBytearray (·.push n.toNat.toUInt8)) } (by omega) hlt ?_ ?_ ?_ hS₂ fun h3 t' k' hk3 => ?_⟩
      · exact ((Heap.SameBut.update ..).2 h (Ne.symm hSh)).trans ho'
      · exact (hl.extBut hs.extBut hlI).extBut (Heap.SameBut.update ..).extBut hlS
      · exact hit'.extBut (Heap.SameBut.update ..).extBut hIS
      · exact hR h3 t' k' fun b o hbI hbS e => hk3 b o hbI hbS ((Heap.get?_update_other _ _ (Ne.symm hbS)).trans (hs.extBut b o hbI e))
theorem new_some {l : Addr} {vs : List Value} {ns : List Int} {Q : Value → Shared → Prop} (hh : A.handled = some (.ref h)) (ho : s.heap.get? h = some oh) (hd : oh.data = .fields fs) (h2 : fs[2]? = some .none)
    (hl : s.heap.IsList l vs.toArray) (hi : IntsAre vs ns) (hr : ∀ n ∈ ns, 0 ≤ n ∧ n < 256) (hz : ns.length ≤ sizeLine)
    (hQ : ∀ h' t k, (∀ b o, s.heap.get? b = some o → h'.get? b = some o) → Q (.bytes (byteArr ns) t) { s with heap := h', toks := k }) :
    codeAny (model prog w) A (.call (.builtin "bytes.__new__") ⟨[.type "bytes", .ref l], []⟩) (wants Q E) s := by
  refine codeAny_of_tree ?_
  show wpAny _ A.in1 (do checkBuiltinCall "bytes.__new__" ⟨[.type "bytes", .ref l], []⟩; again (.builtin "bytes.__new__" ⟨[.type "bytes", .ref l], []⟩)) _ _ s
  refine wpAny_bind (wpAny_of_eq (F.bm_newCall _) (wpAny_pure ⟨plainId_quiet F.bm_plain _, codeAny_builtin F.bm_entry ?_⟩))
  rw [Around.under_plainId F.bm_plain _]
  have hT : s.TypeIs (.ref l) "list" := hl.typeIs
  obtain ⟨ol, hol, hoc, nl, hod⟩ := id hl
  unfold Builtin.«bytes.__new__»
  refine wpAny_bind (wpAny_of_eq (a := true) rfl ?_)
  refine bm_if_false rfl ?_
  refine wpAny_bind (wpAny_of_eq F.bm_sub ?_)
  refine bm_if_false rfl ?_
  refine wpAny_bind (wpAny_of_eq (F.bm_bind _) ?_)
  refine wpAny_bind (wpAny_of_eq (a := ()) rfl ?_)
  refine wpAny_bind (wpAny_of_eq (a := ()) rfl ?_)
  refine bm_if_false rfl ?_
  refine wpAny_bind (wpAny_specialOf hT F.bm_no_bytes ?_)
  refine wpAny_bind (wpAny_bind ?_)
  show wpAny _ _ (load l >>= _) _ _ _
  refine wpAny_bind (wpAny_load hol ?_)
  rw [hod]
  refine wpAny_pure (wpAny_pure ?_)
  refine bm_if_false rfl ?_
  refine wpAny_bind (wpAny_specialOf hT F.bm_no_index ?_)
  refine bm_if_true rfl ?_
  first
    | show wpAny _ _ (Builtin.Bytes.buffer? "bytes.__new__" (.ref l) true >>= _) _ _ _
    | (refine wpAny_bind ?_; show wpAny _ _ (Builtin.Bytes.buffer? "bytes.__new__" (.ref l) true >>= _) _ _ _)
  refine wpAny_bind ?_
  unfold Builtin.Bytes.buffer?
  refine wpAny_bind (wpAny_specialOf hT F.bm_no_buffer ?_)
  refine wpAny_bind (wpAny_specialOf hT F.bm_no_buffer ?_)
  refine wpAny_pure ?_
  refine wpAny_bind (wpAny_tryCatch (wpAny_pyIter_list hl ?_))
  have hl₁ : (s.heap.push { cls := .type "list_iterator", data := .fields #[.ref l, .int 0 0] }).IsList l vs.toArray := hl.push _
  have hT₁ : ({ s with heap := s.heap.push { cls := .type "list_iterator", data := .fields #[.ref l, .int 0 0] } } : Shared).TypeIs (.ref l) "list" := Heap.IsList.typeIs (s := { s with heap := _ }) hl₁
  refine wpAny_bind (wpAny_holding ?_)
  unfold Builtin.Bytes.lengthHint
  refine wpAny_bind (wpAny_specialOf hT₁ slot_list_len.lookup ?_)
  dsimp only
  rw [F.bm_split]
  dsimp only
  refine wpAny_bind (wpAny_isInstance hT₁ F.bm_sub_list ?_)
  refine bm_if_false rfl ?_
  refine bm_if_true (by decide +kernel) ?_
  refine wpAny_pure ?_
  refine wpAny_bind ?_
  unfold Builtin.Bytes.newBytearray
  refine wpAny_newObj_type ?_ (Nat.zero_le _)
  have hlt : l < s.heap.objs.size := Heap.lt_size hol
  have hht : h < s.heap.objs.size := Heap.lt_size ho
  have hsz : (s.heap.push { cls := .type "list_iterator", data := .fields #[.ref l, .int 0 0] }).objs.size = s.heap.objs.size + 1 := Heap.size_push _ _
  have hI : ((s.heap.push { cls := .type "list_iterator", data := .fields #[.ref l, .int 0 0] }).push { cls := .type "bytearray", data := .bytearray #[] }).IsListIter s.heap.objs.size l 0 :=
    ⟨_, Heap.get?_push_of_some _ (Heap.get?_push_size _ rfl), rfl, rfl⟩
  have main := loop_some (prog := prog) (w := w) (A := A) (R := wants Q E) (l := l) (I := s.heap.objs.size) (S := (s.heap.push { cls := .type "list_iterator", data := .fields #[.ref l, .int 0 0] }).objs.size) hh hd h2 (Nat.ne_of_lt hht).symm (by rw [hsz]; exact (Nat.ne_of_lt (Nat.lt_succ_of_lt hht)).symm) hi hr hz (by rw [hsz]; exact Nat.ne_of_lt (Nat.lt_succ_self _)) (Nat.ne_of_lt hlt) (by rw [hsz]; exact Nat.ne_of_lt (Nat.lt_succ_of_lt hlt))
    ns.length 0 { s with heap := (s.heap.push { cls := .type "list_iterator", data := .fields #[.ref l, .int 0 0] }).push { cls := .type "bytearray", data := .bytearray #[] } } rfl (Nat.zero_le _) (Heap.get?_push_of_some _ (Heap.get?_push_of_some _ ho)) (hl₁.push _) hI (Heap.get?_push_size _ rfl)
    fun h' t k hk => hQ h' t k fun b o e => hk b o (Nat.ne_of_lt (Heap.lt_size e)) (by rw [hsz]; exact Nat.ne_of_lt (Nat.lt_succ_of_lt (Heap.lt_size e))) (Heap.get?_push_of_some _ (Heap.get?_push_of_some _ e))
  first
    | exact wpAny_pure ⟨plainId_quiet F.bm_plain_loop _, main⟩
    | exact wpAny_pure (wpAny_pure ⟨plainId_quiet F.bm_plain_loop _, main⟩)
theorem call_some {l : Addr} {vs : List Value} {ns : List Int} {Q : Value → Shared → Prop} (hh : A.handled = some (.ref h)) (ho : s.heap.get? h = some oh) (hd : oh.data = .fields fs) (h2 : fs[2]? = some .none)
    (hl : s.heap.IsList l vs.toArray) (hi : IntsAre vs ns) (hr : ∀ n ∈ ns, 0 ≤ n ∧ n < 256) (hz : ns.length ≤ sizeLine)
    (hQ : ∀ h' t k, (∀ b o, s.heap.get? b = some o → h'.get? b = some o) → Q (.bytes (byteArr ns) t) { s with heap := h', toks := k }) : wpAny (model prog w) A (call (.type "bytes") [.ref l]) Q E s := by
  refine callType_codes (Q₁ := fun obj s₁ => s₁.TypeIs obj "bytes" ∧ Q obj s₁) F.bm_called (F.bm_typeCall _) F.entry_object_init
    (new_some hh ho hd h2 hl hi hr hz fun h' t k hk => ⟨PySem.W.typeIs_bytes _ _ _, hQ h' t k hk⟩) fun obj s₁ h₁ => ?_
  exact ⟨h₁.1, F.args_object_init_2 obj _, object_init_meets F.bm_called.init.lookup F.bm_called.made (by decide) prog w A.in1 _ s₁ ⟨h₁.1, rfl, h₁.2⟩⟩
end
end Mine

/- part W1h -/
namespace Mine
open PySem.Calls PySem.Spec
set_option maxHeartbeats 8000000 in
theorem octets_hd (w : World) (mean : ExcName → Option Value) (mg mb : Str → Option Value) : ∀ (h : Addr) (oh : Obj) (fs : Array Value) (n : Int) (tn : Tok) (dp un : Nat) (gd : Option (List Code)) (cn : Str) (cs : Scope) (a : Addr) (ccd : Value) (cl : List (Str × Addr)) (outer : List Env) (A₀ : Around) (base h₀ : Heap) (L : Addr) (m : Str → Option Value) (s : Shared) (R : Result → Shared → Prop),
    Below A₀ base outer h₀ → Fr h₀ L s.heap m → (hd.heap_39 w.params).In h₀ → Top hd.view_39 [Str.ofString "IntStreamer"] mean mg mb h₀ → cs.kind = .function → dp + 1 < recursionLimit → un + 8 < cLine → Bd n → s.heap.get? h = some oh → oh.data = .fields fs → fs[2]? = some .none →
    (∀ (t : Tok) (h' : Heap) (tk' : Nat), (∀ b o, s.heap.get? b = some o → h'.get? b = some o) → R (.ok (.ret (.bytes (byteArr (octs n)) t))) { s with heap := h', toks := tk' }) →
      codeAny (model PySem.Challenge.rw_fe0235_01.row.prog w) { handled := some (.ref h), depth := dp, frames := some (envX cn cs L a ccd cl :: outer), guards := gd, units := un } (.call (.ref 83) ⟨[.int n tn], []⟩) R s := by
  k_fill
  w_top off
  intro h oh fs n tn dp un gd cn cs a ccd cl outer A₀ base h₀ L m s R B F X N hk hdp hun hbd hoh hof ho2 hret
  k_dflt (refine' code_ownA B F X N rfl rfl hk ?k6 ?k7 ?k8 ?k9 ?kB ?_ ?c2 ?c3 ?c4 ?c5; (case k6 => k_is); (case k7 => k_is); (case k8 => ktr_room); (case k9 => exact BindsTo.of_eq rfl); (case c5 => decide); (case kB => exact locs rfl); (case c2 => exact rfl); (case c3 => exact rfl); (case c4 => exact rfl); k_whole)
  clear B F X N
  intro L' h₁ F' N' B' X' T'
  k_with "exec While Compare cons nil" => (refine Stop.out ?_)
  w_strict (k_steps)
  refine Stop.mk ?_
  rename Fr _ _ _ _ => lF'
  rename News _ _ _ _ => lN'
  refine' ksw_while (σ := Int × Nat × List Value × List Int × Nat) (fun c => [(_, listOf c.2.2.1.toArray c.2.2.2.2)]) (fun c => [(Str.ofString "left", Value.int c.1 c.2.1)]) (fun c => IntsAre c.2.2.1 c.2.2.2.1) [] (fun c => OctW n c.1 c.2.2.2.1) (fun c => c.1.toNat) ((if n < 0 then -n else n), _, [], [], 0) lF' lN' ?kf ?kk ?kp ?_
  case kk => exact List.forall_mem_cons.mpr ⟨by with_unfolding_all rfl, fun _ h => nomatch h⟩
  case kf => exact .nil
  case kp => exact oct_start
  clear lF' lN'
  rintro ⟨left, tl, vs, octets, cnt⟩ kU kH kTk kFacts kInv kFr kNews
  dsimp only at kFacts kInv kFr kNews
  have kLen := kInv.2.2
  k_with "state" => exact oct_step hbd (by assumption) (by assumption)
  k_with "measure" => exact oct_less (by assumption)
  k_with "exec If BoolOp cons nil" => (refine Stop.out ?_)
  k_steps
  · rename News _ _ _ _ => nE'
    simp only [List.push_toArray] at nE'
    refine' ksw_end (_, _, _, _, _) (by assumption) nE' (by kst_in) ?a1 ?a2 ?a5 ?a3 ?a4
    case a1 => kst_facts
    case a2 => kst_all
    case a3 => exact oct_step hbd kInv (by assumption)
    case a4 => exact oct_less (by assumption)
    case a5 =>
      intro z h2 h3
      have hz : z ≠ Str.ofString "left" := h2 _ (.head _)
      simp only [kstB, if_neg hz, List.contains_nil, Bool.false_eq_true, if_false]
  refine Stop.mk ?_
  k_with_none
  have hne := oct_ne kInv (by assumption)
  have hin := oct_in kInv
  have hvs := kFacts.length
  k_steps
  · rename Fr _ _ _ _ => lF
    rename News _ _ _ _ => lN
    try simp only [List.push_toArray] at lN
    refine set_last lF lN (.head fun _ h => nomatch h) (by simp) fun h' F' N' => ?_
    clear lF lN
    k_steps
    rename Fr _ _ _ _ => lF
    rename News _ _ _ _ => lN
    have hk1 : ∀ tk, (vs ++ [Value.int 0 tk]).length = octets.length + 1 := fun tk => by rw [List.length_append, hvs]; rfl
    rw [hk1] at lN
    refine' call_some rfl (lF.keep _ _ hoh) hof ho2 (PySem.IsL.isList (lN _ (.head _)).1) (ints_set (IntsAre.append kFacts (.cons _ _ .nil)) _) ?kr ?kn fun h'' t'' k'' kp => ⟨_, lF.keeps kp, ?_⟩
    case kr => rw [oct_end1 kInv (by assumption) (by assumption) (by assumption) (by assumption) rfl]; exact octs_in n
    case kn => rw [oct_end1 kInv (by assumption) (by assumption) (by assumption) (by assumption) rfl]; have := octs_len hbd; have hsl : sizeLine = 16777216 := rfl; have hvl := kFacts.length; (try simp only [List.length_append, List.length_set, List.length_cons, List.length_nil] at *); omega
    rw [oct_end1 kInv (by assumption) (by assumption) (by assumption) (by assumption) rfl]
    exact hret _ _ _ (lF.keeps kp).keep
  · rename Fr _ _ _ _ => lF
    rename News _ _ _ _ => lN
    simp only [List.push_toArray] at lN
    refine' call_some rfl (lF.keep _ _ hoh) hof ho2 (PySem.IsL.isList (lN _ (.head _)).1) (IntsAre.append kFacts (.cons _ _ .nil)) ?kr ?kn fun h'' t'' k'' kp => ⟨_, lF.keeps kp, ?_⟩
    case kr => rw [oct_end2 kInv (by assumption) (by assumption) (by assumption) (by assumption)]; exact octs_in n
    case kn => rw [oct_end2 kInv (by assumption) (by assumption) (by assumption) (by assumption)]; have := octs_len hbd; have hsl : sizeLine = 16777216 := rfl; have hvl := kFacts.length; (try simp only [List.length_append, List.length_set, List.length_cons, List.length_nil] at *); omega
    rw [oct_end2 kInv (by assumption) (by assumption) (by assumption) (by assumption)]
    exact hret _ _ _ (lF.keeps kp).keep
  · rename Fr _ _ _ _ => lF
    rename News _ _ _ _ => lN
    refine set_last lF lN (.head fun _ h => nomatch h) (by omega) fun h' F' N' => ?_
    clear lF lN
    k_steps
    rename Fr _ _ _ _ => lF
    rename News _ _ _ _ => lN
    rw [hvs] at lN
    refine' call_some rfl (lF.keep _ _ hoh) hof ho2 (PySem.IsL.isList (lN _ (.head _)).1) (ints_set kFacts _) ?kr ?kn fun h'' t'' k'' kp => ⟨_, lF.keeps kp, ?_⟩
    case kr => rw [oct_end3 kInv (by assumption) (by assumption) (by assumption) (by assumption) rfl]; exact octs_in n
    case kn => rw [oct_end3 kInv (by assumption) (by assumption) (by assumption) (by assumption) rfl]; have := octs_len hbd; have hsl : sizeLine = 16777216 := rfl; have hvl := kFacts.length; (try simp only [List.length_append, List.length_set, List.length_cons, List.length_nil] at *); omega
    rw [oct_end3 kInv (by assumption) (by assumption) (by assumption) (by assumption) rfl]
    exact hret _ _ _ (lF.keeps kp).keep
  · rename Fr _ _ _ _ => lF
    rename News _ _ _ _ => lN
    refine' call_some rfl (lF.keep _ _ hoh) hof ho2 (PySem.IsL.isList (lN _ (.head _)).1) kFacts ?kr ?kn fun h'' t'' k'' kp => ⟨_, lF.keeps kp, ?_⟩
    case kr => rw [oct_end4 kInv (by assumption) (by assumption) (by assumption) (by assumption)]; exact octs_in n
    case kn => rw [oct_end4 kInv (by assumption) (by assumption) (by assumption) (by assumption)]; have := octs_len hbd; have hsl : sizeLine = 16777216 := rfl; omega
    rw [oct_end4 kInv (by assumption) (by assumption) (by assumption) (by assumption)]
    exact hret _ _ _ (lF.keeps kp).keep
  · exfalso; omega
  · rename Fr _ _ _ _ => lF
    rename News _ _ _ _ => lN
    refine' call_some rfl (lF.keep _ _ hoh) hof ho2 (PySem.IsL.isList (lN _ (.head _)).1) kFacts ?kr ?kn fun h'' t'' k'' kp => ⟨_, lF.keeps kp, ?_⟩
    case kr => rw [oct_end6 kInv (by assumption) (by assumption) (by assumption)]; exact octs_in n
    case kn => rw [oct_end6 kInv (by assumption) (by assumption) (by assumption)]; have := octs_len hbd; have hsl : sizeLine = 16777216 := rfl; omega
    rw [oct_end6 kInv (by assumption) (by assumption) (by assumption)]
    exact hret _ _ _ (lF.keeps kp).keep
end Mine

/- part CL24 -/
namespace Mine
open PySem.Calls PySem.Spec
section
variable {prog : Program} {w : World} {A₀ : Around} {E : Value → Shared → Prop} {s' : Shared} {h₀ h : Heap} {outer : List Env} {L a e t : Addr} {m : Str → Option Value} {name : Str} {scope : Scope} {cd : Value}
  {vs : List Value} {b₀ : Stmt} {suite : List Stmt} {pos np : Pos} {rest : List ExceptHandler} {Q : Flow → Shared → Prop} {KF : Frag} {C : Addr} {bmB : List Value} {newId : String}
  {p : Program} {loose : List Str} {mean : ExcName → Option Value} {mg mb : Str → Option Value} {x : Str}
/-- a step of the catch, with what it keeps of the exception -/
theorem hold_step {α : Type} {M : Model} {A : Around} {E : Value → Shared → Prop} {s : Shared} {m : Sem α} {Q : α → Shared → Prop} {P : Heap → Prop} {q : α} (c : Safe2 m) (hh : Hold e s.heap)
    (hm : ∀ {Q' : α → Shared → Prop} {E' : Value → Shared → Prop}, (∀ h', P h' → s.heap.UpToSlots h' → Q' q { s with heap := h' }) → wpAny M A m Q' E' s)
    (hQ : ∀ h', P h' → s.heap.UpToSlots h' → Hold e h' → Q q { s with heap := h' }) : wpAny M A m Q E s :=
  wpAny_hold c hh (hm fun h' x y z => hQ h' x y z)
theorem caught_hold (K : Below A₀ h₀ outer h₀) (F : Fr h₀ L h m) (hsm : h.UpToSlots s'.heap) (R : RaisedK h₀ (envOf name scope L a cd :: outer) e (.ref C) t vs [] s'.heap) (hh : Hold e s'.heap)
    (X : KF.In h₀) (T : TopRead p loose mg mb h₀) (ex : nsIn KF mainGlobals x = some (some (.ref C))) (q : excIn KF C bmB newId = true) (hbase : bmB.contains (.type "BaseException") = true)
    (k : ∀ h', Fr h₀ L h' m → Hold e h' → h₀.get? e = none →
      wpAny (model prog w) ((A₀.deeper (envOf name scope L a cd)).mark (some (.ref e))) (execs (b₀ :: suite) (envOf name scope L a cd)) Q E { s' with heap := h' })
    (hk : scope.kind = .function := by rfl) (hx : (envOf name scope L a cd).kindOf x = some .globalImplicit := by rfl) (hd : (x == ("__debug__" : Str)) = false := by decide)
    (hE : PassesOwnAt (model prog w) ((A₀.deeper (envOf name scope L a cd)).mark (some (.ref e))) (A₀.deeper (envOf name scope L a cd)) (envOf name scope L a cd) E := by passes_own) :
    wpAny (model prog w) (A₀.deeper (envOf name scope L a cd)) (noteFrame (.ref e) (envOf name scope L a cd))
      (fun _ s₂ => wpAny (model prog w) (A₀.deeper (envOf name scope L a cd)) (setFlight (.ref e) none) (fun _ s₃ =>
        wpAny (model prog w) (A₀.deeper (envOf name scope L a cd)) (handleBy (.ref e) (envOf name scope L a cd) (.ExceptHandler (some (.Name x np)) none (b₀ :: suite) pos :: rest)) Q E s₃) E s₂) E s' := by
  obtain ⟨⟨B, hB, _, hfl, _⟩, _⟩ := R
  refine hold_step (safe_note _ _) hh (wpAny_looks_onW (Around.frames_deeper K.stack) rfl hfl) fun h1 a1 u1 hh1 => ?_
  refine hold_step (safe_setFlight _ _) hh1 (wpAny_landsW a1) fun h2 a2 u2 hh2 => ?_
  have a2' := flyingW_base hB a2
  have F2 := F.of_stays a2'.1 (hsm.trans (u1.trans u2))
  obtain ⟨ob, hob, hobc⟩ := a2'.there
  refine wpAny_handleBy_cons (codeAny_handlers_test (name_K F2 X T ex ?_ hk hx hd)) (by intro q; cases q)
  obtain ⟨bm, N, nm, qn, bs, hdct, sn, sub, ab, col, dd, k0, k1, k2, k3, k5, mN, hC, hN, hni, TL⟩ := ((own_of_in X T ex q).keeps F2.keep).obj
  refine wpAny_excMatches_sub_self hC hob hobc (TL.hasType hbase) (codeAny_handlers_suite ?_)
  refine hold_step (safe_setFlight _ _) hh2 (lands_againW a2) fun h3 a3 u3 hh3 => ?_
  have a3' := flyingW_base hB a3
  exact wpAny_passesOwnAt hE (k h3 (F.of_stays a3'.1 ((hsm.trans (u1.trans u2)).trans u3)) hh3 a3'.2.1)
end
section
variable {w : World} {mean : ExcName → Option Value} {mg mb : Str → Option Value} {h : Addr} {n : Int} {tn : Tok} {dp un : Nat} {gd : Option (List Code)} {cn : Str} {cs : Scope} {a : Addr} {ccd : Value} {cl : List (Str × Addr)} {outer : List Env}
  {A₀ : Around} {base h₀ : Heap} {L : Addr} {m : Str → Option Value} {s : Shared} {Q : Value → Shared → Prop} {E : Value → Shared → Prop}
theorem octets_call3 (B : Below A₀ base outer h₀) (F : Fr h₀ L s.heap m) (X : (hd.heap_39 w.params).In h₀) (T : Top hd.view_39 [Str.ofString "IntStreamer"] mean mg mb h₀) (hb : Bd n) (hh : Hold h s.heap)
    (q : ∀ t h' k, Fr h₀ L h' m → Q (.bytes (byteArr (octs n)) t) { s with heap := h', toks := k })
    (hk : cs.kind = .function) (hd' : dp + 1 < recursionLimit) (hu : un + 8 < cLine) :
    wpAny (model PySem.Challenge.rw_fe0235_01.row.prog w) { handled := some (.ref h), depth := dp, frames := some (envX cn cs L a ccd cl :: outer), guards := gd, units := un } (call (.ref 83) [.int n tn]) Q E s := by
  obtain ⟨oh, hoh, fs, hof, ho2⟩ := hh
  exact wpAny_call (octets_hd w mean mg mb h oh fs n tn dp un gd cn cs a ccd cl outer A₀ base h₀ L m s _ B F X T hk hd' hu hb hoh hof ho2 fun t h' k kp => q t h' k (F.keeps kp))
end
end Mine

/- part W6 -/
namespace Mine
open PySem.Calls PySem.Spec
local macro_rules | `(tactic| walk_at "call ref") => `(tactic| ((with_reducible show wpAny _ _ (call (Value.ref 83) _) _ _ _); (with_reducible rename Fr _ _ _ _ => lF); (with_reducible rename News _ _ _ _ => lN); k_dflt (refine' octets_call2 ?B lF ?X ?T lN ?b ?e ?_ ?k ?d ?u; (case B => assumption); (case X => assumption); (case T => assumption); (case b => first | assumption | exact drawn_bd (by assumption) (by assumption) (by omega)); (case e => first | assumption | exact rfl); (case k => exact rfl); (case d => ktr_room); (case u => first | ktr_units | decide)); (clear lF lN); intro _ _ _ _ _))
local macro_rules | `(tactic| walk_at "call ref") => `(tactic| ((with_reducible show wpAny _ _ (call (Value.ref 90) _) _ _ _); (with_reducible rename Fr _ _ _ _ => lF); (with_reducible rename News _ _ _ _ => lN); k_dflt (refine' number_call ?B lF ?X ?T lN ?b ?l1 ?l2 ?_ ?k ?d ?u; (case B => assumption); (case X => assumption); (case T => assumption); (case b => exact drawn_ints (by assumption) (by assumption)); (case l1 => (rw [drawn_len]; omega)); (case l2 => (rw [drawn_len]; omega)); (case k => exact rfl); (case d => ktr_room); (case u => first | ktr_units | decide)); (clear lF lN); intro _ _ _ _ _))
set_option maxHeartbeats 8000000 in
theorem final : PySem.Challenge.rw_fe0235_01.Holds := by
  refine hd ?_
  k_fill
  intro w s₀ s₁ mg mb G Y fa o pm cd doc dV kV ho hd' hcd hD hmg hg args vals as hpre hlay hrd hwl hlo
  have KX := kIn_of Y
  have X := (Ground.X G).1
  have V := (Ground.X G).2
  refine Ground.open G ?_
  intro T B D TE TW
  wrow_args hpre hlay hrd hwl hlo
  refine enter_callC ?_
  w_top on
  refine codeC_mono ?_ (fun _ _ g => GoodW.toG g)
  have K0 : Below callerA s₁.heap [] s₁.heap := below_caller _
  rw [loose_is] at T
  have he := Dflts.none hD rfl
  subst he
  refine call_lawC (by decide) ho hd' (Top.nolimit T) hcd (BindsTo.of_eq rfl) (locs rfl) fun h₁ F => ?_
  w_binds F
  have N0 := (News.nil : News _ _ _ []).at F
  clear hd'
  k_drop
  rename IntsAre _ _ => hI
  rename List Int => xs
  rename s₁.heap.IsList _ _ => hL
  refine wpC_execs_consA ?_
  w_strict (k_steps)
  rename News _ _ _ [_, _] => lN
  rename Fr _ _ _ _ => lF
  rename CarriedAll _ _ => lC
  have hcc : ¬ (63 < xs.length) := by omega
  refine kmk_add_ints lF lN (PySem.IsL.isList (lN _ (.tail _ (.head _))).1) (PySem.IsL.isList (lN _ (.head _)).1) (carried_cut lC) (IntsAre.cons _ _ (.cons _ _ (.cons _ _ .nil))) (fun D us h2 F2 N2 l2 hU => ?_) (by simp only [List.length_map, List.length_cons, List.length_nil]; have : sizeLine = 16777216 := rfl; omega)
  clear lF lC
  have hN3 : (3 : Int) ≤ (xs.map cutN ++ [-1, 128, 0]).length := by simp only [List.length_append, List.length_map, List.length_cons, List.length_nil]; omega
  have hN66 : ((xs.map cutN ++ [-1, 128, 0]).length : Int) ≤ 66 := by simp only [List.length_append, List.length_map, List.length_cons, List.length_nil]; omega
  have hSm := sm_all (xs := xs)
  generalize xs.map cutN ++ [-1, 128, 0] = ns at hN3 hN66 hSm hU
  replace N2 : News _ _ _ [(D, listOf us.toArray 0)] := fun p hp => N2 p (by rw [List.mem_singleton.mp hp]; exact .head _)
  clear lN l2
  k_steps
  refine wpC_execs_consA ?_
  k_steps
  k_with "pyIter ref" => (refine Stop.out ?_)
  refine wpC_execs_consA ?_
  k_steps
  refine Stop.mk ?_
  k_with_none
  dsimp only
  rename Fr _ _ _ _ => lF
  rename News _ _ _ [_, _] => lN
  rename IntsAre _ (List.take _ _) => hW
  rename D < _ => l3
  obtain ⟨ks, hW2, hlen7⟩ : ∃ ks, IntsAre _ ks ∧ ks.length ≤ 7 := ⟨_, hW, by rw [List.length_take]; omega⟩
  clear hW
  refine for_li (y := Str.ofString "value") (fun v k => v * k.fmod 1000003 + k.fmod 3 - 1) hW2 rfl lF lN ?ap (by with_unfolding_all rfl) ?turn ?done
  case ap => exact fun p hp => by have e := List.mem_singleton.mp hp; subst e; exact Nat.ne_of_lt l3
  case turn =>
    intro k t c ta h tk own hk hoff F1 N1
    clear lF lN
    k_steps
  case done =>
    intro u t h tk F1 N1
    clear lF lN
    dsimp only
    have hB0 : Bd (ks.foldl (fun v k => v * k.fmod 1000003 + k.fmod 3 - 1) (ns.getD (Int.toNat 0) 0)) := bd_fold hlen7 (sm_getD hSm (by show 0 < _; omega))
    refine wpC_execs_cons (for_C (h₀ := s₁.heap) rfl rfl ?_)
    k_with "pyIter ref" => (refine Stop.out ?_)
    k_steps
    refine Stop.mk ?_
    k_with_none
    dsimp only
    rename Fr _ _ _ _ => lF
    rename News _ _ _ [_, _] => lN
    rename D < _ => l4
    refine' for_tup (y := Str.ofString "octets") rfl lF lN ?tt ?it ?tu ?dn
    case tt => exact ⟨_, (lN _ (.head _)).1, rfl, _, rfl⟩
    case it => exact six hB0 (bd_of_sm (sm_getD hSm (by show 0 < _; omega))) (bd_of_sm (sm_getD hSm (by show 1 < _; omega))) (bd_neg (sm_getD hSm (by show 2 < _; omega))) bd_127 bd_255
    case tu =>
      intro k t m₁ own h tk hBk F2 N2 hm
      clear lF lN
      refine wpC_execs_consA ?_
      k_steps
      dsimp only
      refine wpC_execs_cons (wpC_If (wpC_isTrue_Compare1 (MethodCallC ?_)))
      k_steps
      dsimp only
      refine callWithC1 (P := MethP (hd.heap_39 w.params) _ 66 (.ref 72)) (keeps_M (by k_is)) ?_
      k_steps
      rename Fr _ _ _ _ => lF
      rename News _ _ _ (_ :: _) => lN
      refine to_call K0 lF KX T lN hBk (fun t' h' k' F3 N3 => ?_) rfl (by ktr_room) (by first | ktr_units | decide)
      clear lF lN
      k_steps
      · exfalso
        rename (_ != _) = true => hbad
        simp at hbad
      try dsimp only
      refine wpC_execs_nil ?_
      try dsimp only
      refine wpC_execs_cons (wpC_If (wpC_isTrue_Or2 ?_))
      refine wpC_isTrue_Compare1 ?_
      refine MethodCallC ?_
      k_steps
      try dsimp only
      refine callWithC1 (P := MethP (hd.heap_39 w.params) _ 56 (.ref 72)) (keeps_M (by k_is)) ?_
      k_steps
      rename Fr _ _ _ _ => lF
      rename News _ _ _ (_ :: _) => lN
      refine from_call0 K0 lF KX T lN (KBa.ints_make (octs_in k)) (by have := octs_len hBk; omega) (fun t' h' k' F4 N4 => ?_) rfl (by ktr_room) (by first | ktr_units | decide)
      clear lF lN
      rw [num_octs]
      k_steps
      all_goals (try (exfalso; omega))
      try dsimp only
      refine wpC_isTrue_Compare1 ?_
      refine MethodCallC ?_
      k_steps
      try dsimp only
      refine callWithCk (P := MethP (hd.heap_39 w.params) _ 56 (.ref 72)) (keeps_M (by k_is)) ?_
      k_steps
      rename Fr _ _ _ _ => lF
      rename News _ _ _ (_ :: _) => lN
      refine from_call1 K0 lF KX T lN (KBa.ints_make (octs_in k)) (by have := octs_len hBk; omega) (fun t' h' k' _ F5 N5 => ?_) (fun e t'' vs h' tk' hb _ _ => absurd hb (octs_good k)) rfl (by ktr_room) (by first | ktr_units | decide)
      clear lF lN
      rw [num_octs]
      k_steps
      all_goals (try (exfalso; omega))
      try dsimp only
      refine wpC_execs_nil ?_
      try dsimp only
      refine wpC_execs_nil ?_
      rename Fr _ _ _ _ => lF
      rename News _ _ _ _ => lN
      refine ⟨_, _, _, rfl, lF, lN, ?_⟩
      intro z h1 h2
      simp only [if_neg h1, if_neg h2]
      exact hm z h1 h2
    case dn =>
      intro u h tk F2 N2
      clear lF lN
      k_with_none
      refine wpC_execs_consA ?_
      k_steps
      try dsimp only
      k_with "call builtin:abs" => (refine Stop.out ?_)
      refine wpC_execs_consA ?_
      k_steps
      refine Stop.mk ?_
      k_with_none
      dsimp only
      k_with "binaryOp Mod int int" => (refine Stop.out ?_)
      k_steps
      refine Stop.mk ?_
      k_with_none
      dsimp only
      k_with "subscriptTail" => (refine Stop.out ?_)
      k_steps
      refine Stop.mk ?_
      k_with_none
      dsimp only
      rename News _ _ _ _ => lN
      refine pick5 (PySem.IsL.isList (lN _ (.head _)).1) (IntsAre.cons _ _ (.cons _ _ (.cons _ _ (.cons _ _ (.cons _ _ .nil))))) rfl (five_in (KBw.getD_in mods_in)) ?_
      intro x tx hx0 hx1
      k_steps
      dsimp only
      rename Fr _ _ _ _ => lF
      rename News _ _ _ (_ :: _) => lN
      rename IntsAre _ (List.map _ _) => hI8
      refine set_last lF (news_snd lN) (.head fun _ h => nomatch h) (by have := hI8.length; rw [List.length_map, List.length_take] at this; omega) fun h' F3 N3 => ?_
      clear lF lN
      k_steps
      dsimp only
      k_with "call type:bytes" => (refine Stop.out ?_)
      refine wpC_execs_consA ?_
      k_steps
      refine Stop.mk ?_
      k_with_none
      dsimp only
      rename Fr _ _ _ _ => lF
      rename News _ _ _ (_ :: _) => lN
      refine' KBa.make_K lF lN rfl (PySem.IsL.isList (lN _ (.head _)).1) (ints_set hI8 _) ?kr ?kn fun h'' t'' k'' F'' N'' _ => ?_
      case kr => exact drawn_in hx0 hx1
      case kn => (rw [drawn_len]; omega)
      clear lF lN
      k_steps
      dsimp only
      refine wpC_execs_consA ?_
      k_steps
      try dsimp only
      refine wpC_execs_cons (wpC_If ?_)
      refine wpC_isTrue_Compare1 ?_
      refine MethodCallC ?_
      k_steps
      try dsimp only
      refine callWithC1 (P := MethP (hd.heap_39 w.params) _ 56 (.ref 72)) (keeps_M (by k_is)) ?_
      k_steps
      rename Fr _ _ _ _ => lF
      rename News _ _ _ (_ :: _) => lN
      refine from_call0 K0 lF KX T lN (drawn_ints hx0 hx1) (by rw [drawn_len]; omega) (fun t' h' k' F4 N4 => ?_) rfl (by ktr_room) (by first | ktr_units | decide)
      clear lF lN
      k_steps
      all_goals (try (exfalso; omega))
      try dsimp only
      refine wpC_execs_nil ?_
      try dsimp only
      refine wpC_execs_cons (wpC_Try ?_)
      refine wpC_execs_cons (wpC_Assign_Name ?_)
      refine MethodCallC ?_
      k_steps
      try dsimp only
      refine callWithCk (P := MethP (hd.heap_39 w.params) _ 56 (.ref 72)) (keeps_M (by k_is)) ?_
      k_steps
      rename Fr _ _ _ _ => lF
      rename News _ _ _ (_ :: _) => lN
      refine from_call1 K0 lF KX T lN (drawn_ints hx0 hx1) (by rw [drawn_len]; omega) (fun t' h' k' hnb F5 N5 => ?_) (fun e t'' vs h' tk' hb hR hU hH => ?_) rfl (by ktr_room) (by first | ktr_units | decide)
      · have hE := octs_num (drawn_in hx0 hx1) (by rw [drawn_len]; omega) hnb
        clear lF lN
        dsimp only
        k_steps
        try dsimp only
        refine wpC_execs_nil ?_
        try dsimp only
        refine wpC_execs_nil ?_
        try dsimp only
        refine wpC_execs_consA ?_
        k_steps
      · have hE := bad_ne hb
        clear hb
        dsimp only at hU hH ⊢
        rename Fr _ _ _ _ => lF
        k_dflt (refine' caught_hold (bmB := [.type "Exception", .type "BaseException", .type "object"]) (newId := "Exception.__new__") ?K ?F ?U ?R ?H ?X ?T ?ex ?q ?hb ?_; (case K => exact K0); (case F => exact lF); (case U => exact hU); (case R => exact hR); (case H => exact hH); (case X => exact KX); (case T => k_asm); (case ex => k_is); (case q => k_exc); (case hb => rfl); k_whole)
        intro h3 F3 H3 hn3
        clear lF hU hR hH
        dsimp only
        k_with "call ref" => (refine Stop.out ?_)
        k_steps
        refine Stop.mk ?_
        k_with_none
        try dsimp only
        refine octets_call3 K0 F3 KX T ?bd H3 (fun t6 h6 k6 F6 => ?_) rfl (by ktr_room) (by first | ktr_units | decide)
        case bd => exact drawn_bd (by assumption) (by assumption) (by omega)
        clear F3 H3
        have hne := fun q => hE (byteArr_inj (octs_in _) (drawn_in hx0 hx1) (Eq.symm q))
        try dsimp only
        k_steps
end Mine

theorem PySem.Challenge.cw_fe0235_01_holds : PySem.Challenge.rw_fe0235_01.Holds :=
  Mine.final
