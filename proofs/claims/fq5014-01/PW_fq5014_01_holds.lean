import PyProof.Rows.All
import Wide.All
import OpenK.AllK
import Wide.FinOn
import KE.BitLaws
import PySem.Challenge.RW_fq5014_01
open PySem PySem.W PyProof.Rows
set_option Elab.async false
set_option maxRecDepth 100000
set_option maxHeartbeats 0
set_option linter.unusedVariables false
namespace Mine
open PySem Calls
open PySem.Sem (wp)

/-- a code that, lying on the stack, lends the bytearray it was handed -/
def lends : Code → Bool
  | .builtin id _ => Builtin.Bytes.decodersThatHold.contains id
  | _ => false
/-- no such code is on the stack -/
def Clear (l : List (Code × Pos)) : Prop := ∀ x ∈ l, lends x.1 = false
theorem Clear.cons {c : Code} {p : Pos} {l : List (Code × Pos)} (h : lends c = false) (k : Clear l) : Clear ((c, p) :: l) := fun x hx => by
  rcases List.mem_cons.mp hx with rfl | hx
  · exact h
  · exact k x hx
theorem Clear.nil : Clear [] := fun _ h => nomatch h

/-- wpAny, over the contexts whose stack is clear -/
def wq {α : Type} (M : Model) (A : Around) (t : Sem α) (Q : α → Shared → Prop) (E : Value → Shared → Prop) (s : Shared) : Prop :=
  ∀ Γ p, Γ.In A → lends Γ.code = false → Clear Γ.below → wp M Γ t (fun a _ s' => Q a s') (fun e _ s' => E e s') p s
def codeQ (M : Model) (A : Around) (c : Code) (R : Result → Shared → Prop) (s : Shared) : Prop :=
  ∀ Γ p, Γ.code = c → Γ.Below A → Clear Γ.below → wpCode M Γ R p s

section
variable {α β : Type} {M : Model} {A : Around} {E : Value → Shared → Prop} {s : Shared}
theorem wq_any {t : Sem α} {Q : α → Shared → Prop} (h : wpAny M A t Q E s) : wq M A t Q E s := fun Γ p hΓ _ _ => h Γ p hΓ
theorem codeQ_any {c : Code} {R : Result → Shared → Prop} (h : codeAny M A c R s) : codeQ M A c R s := fun Γ p hc hΓ _ => h Γ p hc hΓ
theorem wq_mono {t : Sem α} {Q Q' : α → Shared → Prop} {E' : Value → Shared → Prop} (h : wq M A t Q E s) (hQ : ∀ a s, Q a s → Q' a s) (hE : ∀ e s, E e s → E' e s) : wq M A t Q' E' s :=
  fun Γ p hΓ l k => Sem.wp_mono M Γ t (fun a _ s => hQ a s) (fun e _ s => hE e s) p s (h Γ p hΓ l k)
theorem wq_bind {m : Sem α} {f : α → Sem β} {Q : β → Shared → Prop} (h : wq M A m (fun a s' => wq M A (f a) Q E s') E s) : wq M A (m >>= f) Q E s := fun Γ p hΓ l k => by
  rw [Sem.wp_bind']
  exact Sem.wp_mono M Γ m (fun a p' s' h' => h' Γ p' hΓ l k) (fun _ _ _ h' => h') p s (h Γ p hΓ l k)
/-- what is pure ahead of a bind, walked by the library's rules -/
theorem wq_bindA {m : Sem α} {f : α → Sem β} {Q : β → Shared → Prop} (h : wpAny M A m (fun a s' => wq M A (f a) Q E s') E s) : wq M A (m >>= f) Q E s := wq_bind (wq_any h)
theorem wq_pure {a : α} {Q : α → Shared → Prop} (h : Q a s) : wq M A (pure a) Q E s := fun _ _ _ _ _ => h
theorem wq_of_eq {m : Sem α} {a : α} {Q : α → Shared → Prop} (e : m = pure a) (h : Q a s) : wq M A m Q E s := by rw [e]; exact wq_pure h
theorem wq_tryCatch {m : Sem α} {k : Value → Sem α} {Q : α → Shared → Prop} (h : wq M A m Q (fun e s' => wq M A (k e) Q E s') s) : wq M A (tryCatch m k) Q E s := fun Γ p hΓ l c => by
  rw [Sem.wp_tryCatch']
  exact Sem.wp_mono M Γ m (fun _ _ _ h' => h') (fun e p' s' h' => h' Γ p' hΓ l c) p s (h Γ p hΓ l c)
theorem wq_onRaise {m : Sem α} {k : Value → Sem Unit} {Q : α → Shared → Prop} (h : wq M A m Q (fun e s' => wq M A (k e) (fun _ s'' => E e s'') E s') s) : wq M A (m.onRaise k) Q E s := fun Γ p hΓ l c => by
  rw [Sem.wp_onRaise]
  exact Sem.wp_mono M Γ m (fun _ _ _ h' => h') (fun e p' s' h' => h' Γ p' hΓ l c) p s (h Γ p hΓ l c)
theorem wq_attempt {m : Sem α} {Q : Except Value α → Shared → Prop} (h : wq M A m (fun a => Q (.ok a)) (fun e => Q (.error e)) s) : wq M A m.attempt Q E s := fun Γ p hΓ l c => by
  rw [Sem.wp_attempt]; exact h Γ p hΓ l c
theorem wq_holding {vs : List Value} {m : Sem α} {Q : α → Shared → Prop} (h : wq M A m Q E s) : wq M A (holding vs m) Q E s := fun Γ p hΓ l c => by
  rw [Sem.wp_holding]; exact h Γ p hΓ l c
theorem wq_ite {c : Prop} [Decidable c] {a b : Sem α} {Q : α → Shared → Prop} (h : if c then wq M A a Q E s else wq M A b Q E s) : wq M A (if c then a else b) Q E s := by split <;> simp_all
theorem wq_if_false {c : Bool} {a b : Sem α} {Q : α → Shared → Prop} (hc : c = false) (h : wq M A b Q E s) : wq M A (if c = true then a else b) Q E s := by subst hc; exact h
theorem wq_if_true {c : Bool} {a b : Sem α} {Q : α → Shared → Prop} (hc : c = true) (h : wq M A a Q E s) : wq M A (if c = true then a else b) Q E s := by subst hc; exact h
theorem wq_keep {vs : List Value} {m : Sem α} {Q : α → Shared → Prop} (h : wq M A m Q E s) : wq M A (m.keep vs) Q E s := fun Γ p hΓ l c => by
  rw [Sem.wp_keep]; exact h Γ p hΓ l c

theorem wq_run {c : Code} {h : Option Value} {Q : Flow → Shared → Prop} (hc : codeQ M (A.mark h) c (fun r s' => match r with | .ok f => Q f s' | .error e => E e s') s) (hnb : h ≠ some byPass := by intro x; cases x) :
    wq M A (run c h) Q E s := fun Γ p hΓ l k => by rw [Sem.wp_run]; exact hc _ p rfl (hΓ.enter c h p hnb) (Clear.cons l k)
theorem wq_runValue {c : Code} {Q : Value → Shared → Prop} (hc : codeQ M A c (fun r s' => match r with | .ok (.ret v) => Q v s' | .ok _ => False | .error e => E e s') s) : wq M A (runValue c) Q E s := fun Γ p hΓ l k => by
  rw [Sem.wp_runValue]; exact hc _ p rfl (hΓ.enter c none p (by intro x; cases x)) (Clear.cons l k)
theorem wq_call {f : Value} {pos : List Value} {kw : List (PySem.Str × Value)} {Q : Value → Shared → Prop}
    (hc : codeQ M A (.call f ⟨pos, kw⟩) (fun r s' => match r with | .ok (.ret v) => Q v s' | .ok _ => False | .error e => E e s') s) : wq M A (call f pos kw) Q E s := wq_runValue hc
theorem codeQ_mono {c : Code} {R R' : Result → Shared → Prop} (h : codeQ M A c R s) (hR : ∀ r s, R r s → R' r s) : codeQ M A c R' s := fun Γ p hc hΓ k => wpCode_mono hR (h Γ p hc hΓ k)
theorem codeQ_tree {c : Code} {R : Result → Shared → Prop} (hl : lends c = false)
    (h : wq M (A.under c) (M.den c) (fun fin s' => match fin with | .done f => R (.ok f) s' | .again c' => c'.quiet = true ∧ codeQ M A c' R s') (fun e s' => R (.error e) s') s) : codeQ M A c R s := fun Γ p hc hΓ k => by
  rw [wpCode_iff_wp, hc]
  refine Sem.wp_mono M Γ _ (fun fin p' s' h' => ?_) (fun _ _ _ h' => h') p s (h Γ p (hc ▸ hΓ.in) (hc ▸ hl) k)
  cases fin with
  | done f => exact h'
  | again c' => exact ⟨h'.1, h'.2 (Γ.goto c') p' rfl (hΓ.goto c') k⟩

/-- the question that the library cannot answer: with a clear stack and no guards nothing lends -/
theorem exported_clear {b : Addr} {Q : Bool → Shared → Prop} (hg : A.guards = some []) (h : Q false s) : wq M A (Builtin.Bytes.exported (.ref b)) Q E s := fun Γ p hΓ l k => by
  have key : ∀ st : List (Code × Pos), (∀ x ∈ st, x.1.isGuard = false) → Clear st → (st.any fun
    | (.builtin "bytearray.__contains__" ⟨v :: _, _⟩, _) | (.builtin "bytearray.__mod__" ⟨v :: _, _⟩, _)
    | (.builtin "bytearray.__rmod__" ⟨_ :: v :: _, _⟩, _) | (.builtin "_struct.pack_into.held" ⟨v :: _, _⟩, _) => Builtin.Bytes.sameRef v (.ref b)
    | (.builtin "bytearray.find.held" ⟨_ :: _ :: held, _⟩, _) => held.any (Builtin.Bytes.sameRef (.ref b))
    | (.builtin id ⟨v :: _, _⟩, _) => Builtin.Bytes.sameRef v (.ref b) && Builtin.Bytes.decodersThatHold.contains id
    | _ => false) = false := by
    intro st hgs hcl
    rw [List.any_eq_false]
    rintro ⟨c, q⟩ hx
    have h1 := hgs _ hx
    have h2 := hcl _ hx
    dsimp only at h1 h2
    split
    · rename_i e; cases e; exact absurd h1 (by simp [Code.isGuard, guardIds])
    · rename_i e; cases e; exact absurd h1 (by simp [Code.isGuard, guardIds])
    · rename_i e; cases e; exact absurd h1 (by simp [Code.isGuard, guardIds])
    · rename_i e; cases e; exact absurd h1 (by simp [Code.isGuard, guardIds])
    · rename_i e; cases e; exact absurd h1 (by simp [Code.isGuard, guardIds])
    · rename_i e; cases e
      have h3 : Builtin.Bytes.decodersThatHold.contains _ = false := h2
      rw [h3, Bool.and_false]; exact Bool.false_ne_true
    · simp
  have hgs : ∀ x ∈ ((Γ.code, p) :: Γ.below), x.1.isGuard = false := by
    have := hΓ.2.2.2.1 [] hg
    intro x hx
    cases q : x.1.isGuard with
    | false => rfl
    | true =>
      have e : Γ.code.guards ++ guardsOf Γ.below = guardsOf ((Γ.code, p) :: Γ.below) := (guardsOf_cons _ _ _).symm
      rw [e] at this
      have : x.1 ∈ guardsOf ((Γ.code, p) :: Γ.below) := List.mem_filter.mpr ⟨List.mem_map_of_mem hx, q⟩
      simp_all
  unfold Builtin.Bytes.exported
  show wp M Γ (stack >>= fun st => pure (st.any _)) _ _ p s
  rw [Sem.wp_bind']
  show wp M Γ (.stack .pure) _ _ p s
  rw [Sem.wp_stack, Sem.wp_pure]
  show wp M Γ (pure _) _ _ p s
  rw [Sem.wp_pure']
  exact Eq.mpr (congrArg (fun b => Q b s) (key _ hgs (Clear.cons l k))) h
end
end Mine
namespace Mine
open PySem Calls
open PySem.Sem (wp)
local macro_rules | `(tactic| walk_at "wq") => `(tactic| (first
  | with_reducible (first
      | refine wq_pure ?_ | refine wq_bind ?_ | refine wq_holding ?_ | refine wq_any (wpAny_standAt ?_) | refine wq_any (wpAny_point ?_) | refine wq_any (wpAny_rule ?_)
      | refine wq_any (wpAny_letGo ?_) | refine wq_any (wpAny_mkInt' ?_) | refine wq_any (wpAny_fresh' ?_) | refine wq_any (wpAny_alloc' ?_) | refine wq_attempt ?_
      | refine wq_any (wpAny_of_eq (by assumption) ?_) | refine wq_any (wpAny_typeOf (by assumption) ?_)
      | refine wq_any (wpAny_specialOf_val (by assumption) (by assumption) ?_) | refine wq_any (wpAny_specialOf (by assumption) (by assumption) ?_)
      | refine wq_any (wpAny_isInstance_val (by assumption) (by assumption) ?_) | refine wq_any (wpAny_isInstance (by assumption) (by assumption) ?_)
      | refine wq_call ?_ | refine wq_runValue ?_ | refine wq_run ?_)
  | (with_reducible refine wq_any ?_; (with_reducible apply wpAny_load'); focus (heap_get; done))
  | (with_reducible refine wq_any ?_; (with_reducible apply wpAny_loadPart'); focus (heap_get; done))
  | (with_reducible refine wq_any ?_; (with_reducible apply wpAny_update'); focus (heap_get; done))
  | (with_reducible refine wq_any ?_; (with_reducible apply wpAny_updatePart'); focus (heap_get; done))
  | (with_reducible refine wq_if_false (by first | assumption | rfl) ?_)
  | (with_reducible refine wq_if_true (by first | assumption | rfl) ?_)
  | (with_reducible_and_instances refine wq_pure ?_)
  | (with_reducible_and_instances refine wq_bind ?_)))

section
variable {prog : Program} {w : World} {A : Around} {E : Value → Shared → Prop} {s : Shared}
theorem codeQ_builtin {id : String} {args : Args} {b : Builtin} {R : Result → Shared → Prop} (hb : entryFor table id = some b) (hl : Builtin.Bytes.decodersThatHold.contains id = false)
    (h : wq (model prog w) (A.under (.builtin id args)) (b args) (fun fin s' => match fin with | .done f => R (.ok f) s' | .again c' => c'.quiet = true ∧ codeQ (model prog w) A c' R s') (fun e s' => R (.error e) s') s) :
    codeQ (model prog w) A (.builtin id args) R s := by
  refine codeQ_tree hl ?_
  have hden : (model prog w).den (.builtin id args) = b args := by
    show (match entryFor table id with | some b => b args | none => unsupported ((withoutEnding? id "#data").getD id)) = _
    rw [hb]
  rw [hden]
  exact h

theorem callType_q {T newId initId : String} {args : List Value} {Q Q₁ : Value → Shared → Prop} (ft : TypeCalled T newId initId)
    (hct : checkTypeCall T ⟨args, []⟩ = pure ())
    (hnew : codeAny (model prog w) A.in1 (.call (.builtin newId) ⟨.type T :: args, []⟩) (wants Q₁ E) s)
    (hnext : ∀ obj s₁, Q₁ obj s₁ → s₁.TypeIs obj T ∧ codeQ (model prog w) A.in1 (.call (.builtin initId) ⟨obj :: args, []⟩) (wants (fun r s₂ => r = .none ∧ Q obj s₂) E) s₁) :
    wq (model prog w) A (call (.type T) args) Q E s := by
  obtain ⟨c, tl, hmro⟩ := ft.mro
  have hmade := ft.made
  have hsub := ft.sub
  refine wq_call (codeQ_tree rfl ?_)
  show wq _ _ (callAny (.type T) _) _ _ _
  refine wq_pure (And.intro (Code.quiet_builtin _ (by decide +kernel)) (codeQ_builtin F.entry_type_call (by decide +kernel) ?_))
  rw [Around.under_plain (weight_type_call_type T args []) (units_type_call_type T args [])]
  have h1 := ft.notType
  have h2 := ft.canCreate
  unfold Builtin.«type.__call__»
  dsimp only
  refine wq_if_false h1 (wq_if_false h2 (wq_bind (wq_of_eq hct (wq_bind (wq_of_eq hmro (wq_if_false rfl (wq_bind (wq_of_eq hmade ?_))))))))
  dsimp only
  refine wq_bind (wq_pure (wq_bind (wq_holding (wq_any (wpAny_call (codeAny_mono hnew fun r s₁ hr => ?_))))))
  cases r with
  | error e => exact hr
  | ok fl =>
    cases fl with
    | ret obj =>
      obtain ⟨hT, hsi⟩ := hnext _ _ hr
      have hli := ft.init.lookup
      have hbi := ft.init.bind obj
      dsimp only
      refine wq_bind (wq_any (wpAny_isInstance hT hsub ?_))
      refine wq_if_false rfl (wq_bind (wq_holding ?_))
      unfold callSpecial?
      refine wq_bind (wq_any (wpAny_specialOf hT hli ?_))
      dsimp only
      refine wq_holding (wq_bind (wq_of_eq hbi ?_))
      dsimp only
      refine wq_bind (wq_call (codeQ_mono hsi fun r₂ s₂ hr₂ => ?_))
      cases r₂ with
      | error e => exact hr₂
      | ok fl₂ =>
        cases fl₂ with
        | ret r =>
          obtain ⟨rfl, hq⟩ := hr₂
          refine wq_pure ?_
          dsimp only
          exact wq_if_false rfl (wq_pure hq)
        | _ => exact hr₂.elim
    | _ => exact hr.elim
end
namespace F
theorem ba_mro : mroOf (.type "bytearray") = pure [.type "bytearray", .type "object"] := by rw [mroOf_type]; kernel_rfl
theorem ba_lookup_new : typeLookup (.type "bytearray") "__new__" = pure (some (.builtin "bytearray.__new__")) := by rw [typeLookup_type, builtinLookup_eq_fast]; kernel_rfl
theorem ba_slot_init : Slot "bytearray" "__init__" "bytearray.__init__" :=
  .of (owner := "bytearray") (n := "__init__") (by rw [typeLookup_type, builtinLookup_eq_fast]; kernel_rfl) (by decide +kernel) (by decide +kernel) (by decide +kernel)
    (by first | exact .inl (by decide +kernel) | exact .inr (by decide +kernel)) (by rw [isSubtype_type]; kernel_rfl)
theorem ba_called : TypeCalled "bytearray" "bytearray.__new__" "bytearray.__init__" :=
  ⟨by decide +kernel, by decide +kernel, ⟨_, _, ba_mro⟩, madeBy_type ba_mro ba_lookup_new (by decide +kernel), by decide +kernel, by rw [isSubtype_type]; kernel_rfl, ba_slot_init⟩
theorem ba_typeCall0 : checkTypeCall "bytearray" ⟨[], []⟩ = pure () := by kernel_rfl
theorem ba_typeCall1 (a : Value) : checkTypeCall "bytearray" ⟨[a], []⟩ = pure () := by kernel_rfl
theorem ba_newCall0 : checkBuiltinCall "bytearray.__new__" ⟨[.type "bytearray"], []⟩ = pure () := by kernel_rfl
theorem ba_newCall1 (a : Value) : checkBuiltinCall "bytearray.__new__" ⟨[.type "bytearray", a], []⟩ = pure () := by kernel_rfl
theorem ba_plain_new : plainId "bytearray.__new__" = true := by decide +kernel
theorem ba_entry_new : entryFor table "bytearray.__new__" = some Builtin.«list.__new__» :=
  entryFor_alias (id' := "list.__new__") (by kernel_rfl) (by first | rfl | decide +kernel) (by decide +kernel) (by kernel_rfl)
theorem ba_entry_init : entryFor table "bytearray.__init__" = some Builtin.«bytearray.__init__» := by first | exact entryFor_of_fast (by kernel_rfl) | exact entryFor_of_tree (by kernel_rfl)
theorem ba_bind0 : Builtin.Bytes.bindOptional "bytearray.__init__" "bytearray" ["source", "encoding", "errors"] [] [] = pure [none, none, none] := by kernel_rfl
theorem ba_bind1 (v : Value) : Builtin.Bytes.bindOptional "bytearray.__init__" "bytearray" ["source", "encoding", "errors"] [v] [] = pure [some v, none, none] := by kernel_rfl
end F
end Mine
namespace Mine
open PySem Calls
open PySem.Sem (wp)
namespace F
theorem ba_release : typeLookup (.type "bytearray") "__release_buffer__" = pure (some (.builtin "bytearray.__release_buffer__")) := by rw [typeLookup_type, builtinLookup_eq_fast]; kernel_rfl
theorem by_release : typeLookup (.type "bytes") "__release_buffer__" = pure none := by rw [typeLookup_type, builtinLookup_eq_fast]; kernel_rfl
theorem by_index : typeLookup (.type "bytes") "__index__" = pure none := by rw [typeLookup_type, builtinLookup_eq_fast]; kernel_rfl
theorem by_buffer : typeLookup (.type "bytes") "__buffer__" = pure (some (.builtin "bytes.__buffer__")) := by rw [typeLookup_type, builtinLookup_eq_fast]; kernel_rfl
theorem ba_buffer : typeLookup (.type "bytearray") "__buffer__" = pure (some (.builtin "bytearray.__buffer__")) := by rw [typeLookup_type, builtinLookup_eq_fast]; kernel_rfl
theorem ba_sub : isSubtype (.type "bytearray") (.type "bytearray") = pure true := by rw [isSubtype_type]; kernel_rfl
theorem ba_owner_new : ("bytearray.__new__".splitOn ".__new__").headD "" = "bytearray" := by simp +decide [String.splitOn, String.splitOnAux]
theorem ba_init_args0 (a : Value) : argsOk "bytearray.__init__" ⟨[a], []⟩ := by unfold argsOk; kernel_rfl
theorem ba_init_args1 (a b : Value) : argsOk "bytearray.__init__" ⟨[a, b], []⟩ := by unfold argsOk; kernel_rfl
end F
end Mine
namespace Mine
open PySem Calls
open PySem.Sem (wp)
abbrev baO (B : Array UInt8) : Obj := { cls := .type "bytearray", data := .bytearray B 0 }
section
variable {prog : Program} {w : World} {A : Around} {E : Value → Shared → Prop} {s : Shared}
theorem ba_type {b : Addr} {B : Array UInt8} (h : s.heap.get? b = some (baO B)) : s.TypeIs (.ref b) "bytearray" := ⟨_, h, rfl⟩
theorem code_ba_new (args : List Value) (hc : checkBuiltinCall "bytearray.__new__" ⟨.type "bytearray" :: args, []⟩ = pure ()) {Q₁ : Value → Shared → Prop}
    (h : Q₁ (.ref s.heap.objs.size) { s with heap := s.heap.push (baO #[]) }) :
    codeAny (model prog w) A.in1 (.call (.builtin "bytearray.__new__") ⟨.type "bytearray" :: args, []⟩) (wants Q₁ E) s := by
  refine codeAny_of_tree ?_
  show wpAny _ A.in1.in1 (do checkBuiltinCall "bytearray.__new__" ⟨.type "bytearray" :: args, []⟩; again (.builtin "bytearray.__new__" ⟨.type "bytearray" :: args, []⟩)) _ _ s
  refine wpAny_bind (wpAny_of_eq hc (wpAny_pure ⟨plainId_quiet F.ba_plain_new _, codeAny_builtin_stack F.ba_entry_new rfl fun p st => ?_⟩))
  rw [Around.under_plainId F.ba_plain_new _]
  have hsub := F.ba_sub
  have hown := F.ba_owner_new
  obtain ⟨hp, g, d, tk, os⟩ := s
  simp only [hown]
  wp_walk
  exact h

theorem own_release {b : Addr} {B : Array UInt8} {Q : Bool → Shared → Prop} {M : Model} (h : s.heap.get? b = some (baO B)) (q : Q false s) : wpAny M A (Builtin.Bytes.ownRelease (.ref b)) Q E s := by
  unfold Builtin.Bytes.ownRelease Builtin.Bytes.slotIsOwn
  refine wpAny_bind (wpAny_bind (wpAny_specialOf (ba_type h) F.ba_release ?_))
  dsimp only
  refine wpAny_ite_false (by decide +kernel) ?_
  have e : ("bytearray.__release_buffer__".dropRight ("__release_buffer__".length + 1)) = "bytearray" := by decide +kernel
  rw [e]
  refine wpAny_isInstance (ba_type h) F.ba_sub ?_
  exact wpAny_pure q
theorem own_release_bytes {B : Array UInt8} {t : Tok} {Q : Bool → Shared → Prop} {M : Model} (q : Q false s) : wpAny M A (Builtin.Bytes.ownRelease (.bytes B t)) Q E s := by
  unfold Builtin.Bytes.ownRelease Builtin.Bytes.slotIsOwn
  refine wpAny_bind (wpAny_bind (wpAny_specialOf (PySem.W.typeIs_bytes _ _ _) F.by_release ?_))
  exact wpAny_pure (wpAny_pure q)
theorem exports_none {b : Addr} {B : Array UInt8} {Q : Nat → Shared → Prop} {M : Model} (h : s.heap.get? b = some (baO B)) (q : Q 0 s) : wpAny M A (Builtin.Bytes.exportsOf (.ref b)) Q E s := by
  show wpAny _ _ (load b >>= _) _ _ _
  exact wpAny_bind (wpAny_load h (wpAny_pure q))
theorem ba_payload {b : Addr} {B : Array UInt8} {Q : Array UInt8 → Shared → Prop} {M : Model} (h : s.heap.get? b = some (baO B)) (q : Q B s) : wpAny M A (Builtin.Bytes.payload (.ref b)) Q E s := by
  unfold Builtin.Bytes.payload
  refine wpAny_bind ?_
  show wpAny _ _ (load b >>= _) _ _ _
  exact wpAny_bind (wpAny_load h (wpAny_pure (wpAny_pure q)))
theorem ba_write {b : Addr} {B C : Array UInt8} {f : Array UInt8 → Array UInt8} {Q : Unit → Shared → Prop} {M : Model} (h : s.heap.get? b = some (baO B)) (e : f B = C) (hz : C.size ≤ sizeLine)
    (q : ∀ h', Heap.SameBut b s.heap h' → h'.get? b = some (baO C) → Q () { s with heap := h' }) : wpAny M A (Builtin.Bytes.write (.ref b) f) Q E s := by
  show wpAny _ _ (updateBytearray b f) _ _ _
  unfold updateBytearray
  refine wpAny_bind (wpAny_load h ?_)
  show wpAny _ _ (update b (Obj.mapBytearray f) >>= fun _ => lookBehind b) _ _ _
  refine wpAny_bind (wpAny_update h ?_)
  have h2 : (s.heap.update b (Obj.mapBytearray f)).get? b = some (baO C) := by rw [← e]; exact Heap.get?_update_self (Obj.mapBytearray f) h rfl
  refine wpAny_lookBehind h2 ?_ (q _ (Heap.SameBut.update ..) h2)
  show (if C.size > sizeLine then some "bytearray:memory" else none) = none
  rw [if_neg (Nat.not_lt.mpr hz)]
theorem resize_free {b : Addr} {B : Array UInt8} {Q : Unit → Shared → Prop} {M : Model} (hg : A.guards = some []) (h : s.heap.get? b = some (baO B)) (q : Q () s) : wq M A (Builtin.Bytes.checkResize (.ref b)) Q E s := by
  unfold Builtin.Bytes.checkResize
  refine wq_bind ?_
  show wq _ _ (Builtin.Bytes.exported (.ref b) >>= _) _ _ _
  refine wq_bind (exported_clear hg ?_)
  refine wq_any (wpAny_bind (exports_none h (wpAny_pure ?_)))
  exact wq_if_false rfl (wq_pure q)

theorem by_buffer1 {id : String} {B : Array UInt8} {t : Tok} {Q : Option (Array UInt8) → Shared → Prop} {M : Model} (q : Q (some B) s) : wpAny M A (Builtin.Bytes.buffer? id (.bytes B t) true) Q E s := by
  have hT : s.TypeIs (.bytes B t) "bytes" := PySem.W.typeIs_bytes _ _ _
  unfold Builtin.Bytes.buffer?
  refine wpAny_bind (wpAny_specialOf hT F.by_buffer ?_)
  dsimp only
  refine wpAny_bind ?_
  unfold Builtin.Bytes.slotIsOwn
  refine wpAny_bind (wpAny_specialOf hT F.by_buffer ?_)
  dsimp only
  refine wpAny_ite_false (by decide +kernel) ?_
  have e : ("bytes.__buffer__".dropRight ("__buffer__".length + 1)) = "bytes" := by decide +kernel
  rw [e]
  refine wpAny_isInstance hT PySem.F.bm_sub ?_
  refine wpAny_ite_false (by decide) ?_
  refine wpAny_bind (wpAny_specialOf hT F.by_buffer ?_)
  refine wpAny_bind (own_release_bytes ?_)
  refine wpAny_ite_false (by decide) ?_
  exact wpAny_bind (wpAny_bind (wpAny_pure (wpAny_pure (wpAny_pure q))))
theorem not_lent {b : Addr} {B : Array UInt8} {Q : Bool → Shared → Prop} {M : Model} (hg : A.guards = some []) (h : s.heap.get? b = some (baO B)) (q : Q false s) :
    wq M A (Builtin.Bytes.exported (.ref b) <||> (do return (← Builtin.Bytes.exportsOf (.ref b)) > 0)) Q E s := by
  show wq _ _ (Builtin.Bytes.exported (.ref b) >>= _) _ _ _
  refine wq_bind (exported_clear hg ?_)
  exact wq_any (wpAny_bind (exports_none h (wpAny_pure q)))
theorem ba_init_code (v : List Value) {b : Addr} {R : Result → Shared → Prop} (ho : argsOk "bytearray.__init__" ⟨.ref b :: v, []⟩) {B : Array UInt8} (h : s.heap.get? b = some (baO B))
    (q : wq (model prog w) A.in1 (Builtin.«bytearray.__init__» ⟨.ref b :: v, []⟩) (fun fin s' => match fin with | .done f => R (.ok f) s' | .again c' => c'.quiet = true ∧ codeQ (model prog w) A c' R s') (fun e s' => R (.error e) s') s) :
    codeQ (model prog w) A (.call (.builtin "bytearray.__init__") ⟨.ref b :: v, []⟩) R s := by
  refine codeQ_tree rfl ?_
  show wq _ _ (do checkBuiltinCall "bytearray.__init__" ⟨.ref b :: v, []⟩; again (.builtin "bytearray.__init__" ⟨.ref b :: v, []⟩)) _ _ _
  refine wq_bind (wq_any (F.ba_slot_init.check _ _ _ _ _ _ _ _ (ba_type h) ho ?_))
  refine wq_pure (And.intro (Code.quiet_builtin _ (by decide +kernel)) (codeQ_builtin F.ba_entry_init (by decide +kernel) ?_))
  rw [Around.under_plainId F.ba_slot_init.plain _]
  exact q
theorem ba_init0 {b : Addr} {R : Result → Shared → Prop} (hg : A.guards = some []) (h : s.heap.get? b = some (baO #[]))
    (q : ∀ h', Heap.SameBut b s.heap h' → h'.get? b = some (baO #[]) → R (.ok (.ret .none)) { s with heap := h' }) :
    codeQ (model prog w) A (.call (.builtin "bytearray.__init__") ⟨[.ref b], []⟩) R s := by
  refine ba_init_code [] (F.ba_init_args0 _) h ?_
  unfold Builtin.«bytearray.__init__»
  dsimp only
  refine wq_bind (wq_any (own_release h ?_))
  refine wq_if_false rfl (wq_bind (wq_of_eq F.ba_bind0 ?_))
  dsimp only
  refine wq_bind (wq_of_eq (a := ()) rfl (wq_bind (wq_of_eq (a := ()) rfl ?_)))
  refine wq_bind (not_lent hg h ?_)
  refine wq_if_false rfl (wq_bind (wq_any (ba_write h rfl (Nat.zero_le _) fun h' hs hb => ?_)))
  exact wq_bind (wq_if_false rfl (wq_if_false rfl (wq_pure (wq_pure (q h' hs hb)))))

theorem ba_init1 {b : Addr} {B : Array UInt8} {t : Tok} {R : Result → Shared → Prop} (hg : A.guards = some []) (h : s.heap.get? b = some (baO #[])) (hz : B.size ≤ sizeLine)
    (q : ∀ h', Heap.SameBut b s.heap h' → h'.get? b = some (baO B) → R (.ok (.ret .none)) { s with heap := h' }) :
    codeQ (model prog w) A (.call (.builtin "bytearray.__init__") ⟨[.ref b, .bytes B t], []⟩) R s := by
  refine ba_init_code [.bytes B t] (F.ba_init_args1 _ _) h ?_
  unfold Builtin.«bytearray.__init__»
  dsimp only
  refine wq_bind (wq_any (own_release h ?_))
  refine wq_if_false rfl (wq_bind (wq_of_eq (F.ba_bind1 _) ?_))
  dsimp only
  refine wq_bind (wq_of_eq (a := ()) rfl (wq_bind (wq_of_eq (a := ()) rfl ?_)))
  refine wq_bind (not_lent hg h ?_)
  refine wq_if_false rfl (wq_bind (wq_any (ba_write h rfl (Nat.zero_le _) fun h1 hs1 hb1 => ?_)))
  refine wq_bind (wq_of_eq (a := none) rfl ?_)
  refine wq_if_false rfl (wq_bind (wq_if_false rfl (wq_if_false rfl (wq_pure ?_))))
  refine wq_bind (wq_any (wpAny_specialOf (PySem.W.typeIs_bytes _ _ _) F.by_index ?_))
  refine wq_if_false rfl (wq_bind (wq_any (by_buffer1 ?_)))
  dsimp only
  refine wq_bind (wq_any (wpAny_rule ?_))
  refine wq_bind (wq_any (ba_write hb1 rfl hz fun h2 hs2 hb2 => ?_))
  exact wq_pure (q h2 (hs1.trans hs2) hb2)
end
end Mine
namespace Mine
open PySem Calls
open PySem.Sem (wp)
section
variable {prog : Program} {w : World} {A : Around} {E : Value → Shared → Prop} {s : Shared}
theorem keeps_push_same {h h' : Heap} {o : Obj} (hs : Heap.SameBut h.objs.size (h.push o) h') : ∀ b x, h.get? b = some x → h'.get? b = some x := fun b x e =>
  (hs.2 b (Nat.ne_of_lt (Heap.lt_size e))).trans (Heap.get?_push_of_some _ e)
/-- bytearray() -/
theorem call_ba0 {Q : Value → Shared → Prop} (hg : A.guards = some [])
    (q : ∀ h', (∀ b x, s.heap.get? b = some x → h'.get? b = some x) → h'.get? s.heap.objs.size = some (baO #[]) → h'.objs.size = s.heap.objs.size + 1 → Q (.ref s.heap.objs.size) { s with heap := h' }) :
    wq (model prog w) A (call (.type "bytearray") []) Q E s := by
  refine callType_q (Q₁ := fun obj s₁ => obj = .ref s.heap.objs.size ∧ s₁ = { s with heap := s.heap.push (baO #[]) }) F.ba_called F.ba_typeCall0
    (code_ba_new [] F.ba_newCall0 ⟨rfl, rfl⟩) fun obj s₁ h₁ => ?_
  obtain ⟨rfl, rfl⟩ := h₁
  have hb : (s.heap.push (baO #[])).get? s.heap.objs.size = some (baO #[]) := Heap.get?_push_size _ rfl
  refine ⟨ba_type hb, ba_init0 (A := A.in1) hg hb fun h' hs h2 => ?_⟩
  exact ⟨rfl, q h' (keeps_push_same hs) h2 (hs.1.trans (Heap.size_push _ _))⟩
/-- bytearray(bytes) -/
theorem call_ba1 {B : Array UInt8} {t : Tok} {Q : Value → Shared → Prop} (hg : A.guards = some []) (hz : B.size ≤ sizeLine)
    (q : ∀ h', (∀ b x, s.heap.get? b = some x → h'.get? b = some x) → h'.get? s.heap.objs.size = some (baO B) → h'.objs.size = s.heap.objs.size + 1 → Q (.ref s.heap.objs.size) { s with heap := h' }) :
    wq (model prog w) A (call (.type "bytearray") [.bytes B t]) Q E s := by
  refine callType_q (Q₁ := fun obj s₁ => obj = .ref s.heap.objs.size ∧ s₁ = { s with heap := s.heap.push (baO #[]) }) F.ba_called (F.ba_typeCall1 _)
    (code_ba_new [.bytes B t] (F.ba_newCall1 _) ⟨rfl, rfl⟩) fun obj s₁ h₁ => ?_
  obtain ⟨rfl, rfl⟩ := h₁
  have hb : (s.heap.push (baO #[])).get? s.heap.objs.size = some (baO #[]) := Heap.get?_push_size _ rfl
  refine ⟨ba_type hb, ba_init1 (A := A.in1) hg hb hz fun h' hs h2 => ?_⟩
  exact ⟨rfl, q h' (keeps_push_same hs) h2 (hs.1.trans (Heap.size_push _ _))⟩

abbrev sliceO (l u : Value) : Obj := { cls := .type "slice", data := .fields #[l, u, .none] }
namespace F
theorem ba_setitem_slot : Slot "bytearray" "__setitem__" "bytearray.__setitem__" :=
  .of (owner := "bytearray") (n := "__setitem__") (by rw [typeLookup_type, builtinLookup_eq_fast]; kernel_rfl) (by decide +kernel) (by decide +kernel) (by decide +kernel)
    (by first | exact .inl (by decide +kernel) | exact .inr (by decide +kernel)) (by rw [isSubtype_type]; kernel_rfl)
theorem ba_setitem_args (a b c : Value) : argsOk "bytearray.__setitem__" ⟨[a, b, c], []⟩ := by unfold argsOk; kernel_rfl
theorem ba_entry_setitem : entryFor table "bytearray.__setitem__" = some Builtin.«bytearray.__setitem__» := by first | exact entryFor_of_fast (by kernel_rfl) | exact entryFor_of_tree (by kernel_rfl)
theorem sl_index : typeLookup (.type "slice") "__index__" = pure none := by rw [typeLookup_type, builtinLookup_eq_fast]; kernel_rfl
theorem by_int : typeLookup (.type "bytes") "__int__" = pure none := by rw [typeLookup_type, builtinLookup_eq_fast]; kernel_rfl
theorem by_float : typeLookup (.type "bytes") "__float__" = pure none := by rw [typeLookup_type, builtinLookup_eq_fast]; kernel_rfl
theorem by_sub_ba : isSubtype (.type "bytes") (.type "bytearray") = pure false := by rw [isSubtype_type]; kernel_rfl
theorem by_sub_cx : isSubtype (.type "bytes") (.type "complex") = pure false := by rw [isSubtype_type]; kernel_rfl
end F
theorem bytes_parts {sl : Addr} {lo hi : Int} {tl th : Tok} {Q : Value × Value × Value → Shared → Prop} {M : Model} (hsl : s.heap.get? sl = some (sliceO (.int lo tl) (.int hi th)))
    (q : Q (rawInt lo, rawInt hi, .none) s) : wpAny M A (Builtin.Bytes.sliceParts (.ref sl)) Q E s := by
  unfold Builtin.Bytes.sliceParts
  dsimp only
  refine wpAny_bind (wpAny_field hsl rfl rfl ?_)
  refine wpAny_bind (wpAny_ite_true rfl (wpAny_pure ?_))
  refine wpAny_ite_false rfl ?_
  refine wpAny_bind (wpAny_field hsl rfl rfl ?_)
  refine wpAny_bind (wpAny_ite_false rfl (wpAny_bind (wpAny_specialOf (T := "int") (typeIs_int _ _ _) int_index (wpAny_ite_false rfl (wpAny_bind (wpAny_of_eq (a := lo) rfl (wpAny_pure ?_)))))))
  refine wpAny_bind (wpAny_field hsl rfl rfl ?_)
  refine wpAny_bind (wpAny_ite_false rfl (wpAny_bind (wpAny_specialOf (T := "int") (typeIs_int _ _ _) int_index (wpAny_ite_false rfl (wpAny_bind (wpAny_of_eq (a := hi) rfl (wpAny_pure ?_)))))))
  exact wpAny_pure q
theorem bounds_end (n k : Nat) : sliceBounds (some (n : Int)) (some ((n : Int) + k)) none n = ((n : Int), (n : Int), 1) := by
  unfold sliceBounds
  have h1 : ¬ ((n : Int) < 0) := by omega
  have h2 : ¬ ((n : Int) + k < 0) := by omega
  simp only [Option.getD_none, h1, h2, if_false]
  have h3 : (1 : Int) > 0 := by omega
  simp only [h3, if_true]
  refine Prod.ext ?_ (Prod.ext ?_ rfl) <;> dsimp only <;> omega
theorem set_slice {b sl : Addr} {B C : Array UInt8} {lo hi : Int} {tl th tv : Tok} {R : Result → Shared → Prop} (hg : A.guards = some []) (h : s.heap.get? b = some (baO B)) (hsl : s.heap.get? sl = some (sliceO (.int lo tl) (.int hi th)))
    (hlo : lo = B.size) (hhi : hi = B.size + C.size) (hz : B.size + C.size ≤ sizeLine)
    (q : ∀ h', (∀ c x, c ≠ b → s.heap.get? c = some x → h'.get? c = some x) → h'.get? b = some (baO (B ++ C)) → R (.ok (.ret .none)) { s with heap := h' }) :
    codeQ (model prog w) A (.call (.builtin "bytearray.__setitem__") ⟨[.ref b, .ref sl, .bytes C tv], []⟩) R s := by
  refine codeQ_tree rfl ?_
  show wq _ _ (do checkBuiltinCall "bytearray.__setitem__" ⟨[.ref b, .ref sl, .bytes C tv], []⟩; again (.builtin "bytearray.__setitem__" ⟨[.ref b, .ref sl, .bytes C tv], []⟩)) _ _ _
  refine wq_bind (wq_any (F.ba_setitem_slot.check _ _ _ _ _ _ _ _ (ba_type h) (F.ba_setitem_args _ _ _) ?_))
  refine wq_pure (And.intro (Code.quiet_builtin _ (by decide +kernel)) (codeQ_builtin F.ba_entry_setitem (by decide +kernel) ?_))
  rw [Around.under_plainId F.ba_setitem_slot.plain _]
  unfold Builtin.«bytearray.__setitem__»
  dsimp only
  refine wq_if_false rfl ?_
  refine wq_bind (wq_any ?_)
  unfold Builtin.Bytes.subscript?
  refine wpAny_bind (wpAny_specialOf (T := "slice") ⟨_, hsl, rfl⟩ F.sl_index (wpAny_ite_true rfl (wpAny_pure ?_)))
  dsimp only
  refine wq_bind (wq_any (wpAny_typeOf (T := "slice") ⟨_, hsl, rfl⟩ ?_))
  refine wq_if_false rfl (wq_bind (wq_any (bytes_parts hsl ?_)))
  refine wq_if_false rfl ?_
  refine wq_bind (wq_any (wpAny_isInstance (T := "bytes") (typeIs_bytes _ _ _) F.by_sub_ba ?_))
  refine wq_if_true rfl ?_
  have hb : s.TypeIs (.bytes C tv) "bytes" := PySem.W.typeIs_bytes _ _ _
  refine wq_bind (wq_any ?_)
  show wpAny _ _ ((do let x ← specialOf (.bytes C tv) "__index__"; pure x.isSome) >>= fun (b : Bool) => _) _ _ _
  refine wpAny_bind (wpAny_bind (wpAny_specialOf hb F.by_index (wpAny_pure ?_)))
  dsimp only [Option.isSome]
  show wpAny _ _ ((do let x ← specialOf (.bytes C tv) "__int__"; pure x.isSome) >>= fun (b : Bool) => _) _ _ _
  refine wpAny_bind (wpAny_bind (wpAny_specialOf hb F.by_int (wpAny_pure ?_)))
  dsimp only [Option.isSome]
  show wpAny _ _ ((do let x ← specialOf (.bytes C tv) "__float__"; pure x.isSome) >>= fun (b : Bool) => _) _ _ _
  refine wpAny_bind (wpAny_bind (wpAny_specialOf hb F.by_float (wpAny_pure ?_)))
  dsimp only [Option.isSome]
  refine wpAny_isInstance hb F.by_sub_cx ?_
  refine wq_bind (wq_of_eq (a := none) rfl ?_)
  refine wq_if_false rfl ?_
  refine wq_bind (wq_any (wpAny_rule ?_))
  refine wq_bind (call_ba1 (show A.in1.guards = _ from hg) (by omega) fun h1 hk h1n hsz => ?_)
  have hb1 := hk _ _ h
  have hsl1 := hk _ _ hsl
  refine wq_bind (wq_any (wpAny_holding (bytes_parts hsl1 ?_)))
  refine wq_bind (wq_any (ba_payload h1n ?_))
  refine wq_bind (wq_any (ba_payload hb1 ?_))
  dsimp only
  have hbd := bounds_end B.size C.size
  have hsi := sliceIndices_raw (some lo) (some hi) none B.size (by simp)
  rw [hlo, hhi, hbd] at hsi
  rw [hlo, hhi]
  refine wq_bind (wq_of_eq hsi ?_)
  dsimp only
  refine wq_if_true rfl (wq_bind (wq_any (wpAny_rule ?_)))
  have hfin : ∀ h2, Heap.SameBut b h1 h2 → h2.get? b = some (baO (B ++ C)) → R (.ok (.ret .none)) { s with heap := h2 } := fun h2 hs2 h2b =>
    q h2 (fun c x hc e => (hs2.2 c hc).trans (hk _ _ e)) h2b
  have hex : (fun b : Array UInt8 => b.extract 0 (B.size : Int).toNat ++ C ++ b.extract (max (B.size : Int) (B.size : Int)).toNat) B = B ++ C := by
    have e1 : max (B.size : Int) (B.size : Int) = B.size := by omega
    show B.extract 0 (B.size : Int).toNat ++ C ++ B.extract (max (B.size : Int) (B.size : Int)).toNat = B ++ C
    rw [e1, Int.toNat_natCast, Array.extract_size, Array.extract_empty_of_size_le_start (Nat.le_refl _), Array.append_empty]
  refine wq_ite ?_
  split
  · refine wq_bind (resize_free (show A.in1.guards = _ from hg) hb1 ?_)
    refine wq_bind (wq_any (ba_write hb1 hex (by rw [Array.size_append]; omega) fun h2 hs2 h2b => ?_))
    exact wq_pure (hfin h2 hs2 h2b)
  · refine wq_bind (wq_any (ba_write hb1 hex (by rw [Array.size_append]; omega) fun h2 hs2 h2b => ?_))
    exact wq_pure (hfin h2 hs2 h2b)
end
end Mine
namespace Mine
open PySem Calls
namespace F
theorem pack_plain : plainId "_struct.pack" = true := by decide +kernel
theorem pack_entry : entryFor table "_struct.pack" = some Builtin.«_struct.pack» := by first | exact entryFor_of_fast (by kernel_rfl) | exact entryFor_of_tree (by kernel_rfl)
theorem pack_check (l : List Value) : checkBuiltinCall "_struct.pack" ⟨l, []⟩ = pure () := by kernel_rfl
theorem parse5 : Builtin.Struct.parse #[62, 66, 66, 104, 66] = pure { bigEndian := true, native := false, codes := [⟨'B', 1, 0, 1⟩, ⟨'B', 1, 1, 1⟩, ⟨'h', 1, 2, 2⟩, ⟨'B', 1, 4, 1⟩], size := 5, items := 4 } := by kernel_rfl
theorem parse4 : Builtin.Struct.parse #[62, 66, 66, 98, 66] = pure { bigEndian := true, native := false, codes := [⟨'B', 1, 0, 1⟩, ⟨'B', 1, 1, 1⟩, ⟨'b', 1, 2, 1⟩, ⟨'B', 1, 3, 1⟩], size := 4, items := 4 } := by kernel_rfl
theorem parse1 : Builtin.Struct.parse #[62, 105] = pure { bigEndian := true, native := false, codes := [⟨'i', 1, 0, 4⟩], size := 4, items := 1 } := by kernel_rfl
theorem fmt5 (t : Tok) : Builtin.Struct.moduleFormat (.str (PySem.Str.ofString ">BBhB") t) = pure { bigEndian := true, native := false, codes := [⟨'B', 1, 0, 1⟩, ⟨'B', 1, 1, 1⟩, ⟨'h', 1, 2, 2⟩, ⟨'B', 1, 4, 1⟩], size := 5, items := 4 } := by kernel_rfl
theorem fmt4 (t : Tok) : Builtin.Struct.moduleFormat (.str (PySem.Str.ofString ">BBbB") t) = pure { bigEndian := true, native := false, codes := [⟨'B', 1, 0, 1⟩, ⟨'B', 1, 1, 1⟩, ⟨'b', 1, 2, 1⟩, ⟨'B', 1, 3, 1⟩], size := 4, items := 4 } := by kernel_rfl
theorem fmt1 (t : Tok) : Builtin.Struct.moduleFormat (.str (PySem.Str.ofString ">i") t) = pure { bigEndian := true, native := false, codes := [⟨'i', 1, 0, 4⟩], size := 4, items := 1 } := by kernel_rfl
end F
section
variable {prog : Program} {w : World} {A : Around} {E : Value → Shared → Prop} {s : Shared}
theorem ranged {α : Type} {M : Model} {a lo hi lo' hi' : Int} {r t : Sem α} {Q : α → Shared → Prop} (el : lo' = lo) (eh : hi' = hi) (hin : lo ≤ a ∧ a ≤ hi) (h : wpAny M A t Q E s) : wpAny M A (if (decide (a < lo') || decide (a > hi')) = true then r else t) Q E s := by
  subst el eh
  rw [if_neg]
  · exact h
  · simp only [Bool.or_eq_true, decide_eq_true_eq]; omega
theorem ranged_not {α : Type} {M : Model} {a lo hi lo' hi' : Int} {r t : Sem α} {Q : α → Shared → Prop} (el : lo' = lo) (eh : hi' = hi) (hin : ¬ (lo ≤ a ∧ a ≤ hi)) (h : wpAny M A r Q E s) : wpAny M A (if (decide (a < lo') || decide (a > hi')) = true then r else t) Q E s := by
  subst el eh
  rw [if_pos]
  · exact h
  · simp only [Bool.or_eq_true, decide_eq_true_eq]; omega
theorem plain_structError : PlainExc "struct.error" :=
  ⟨fun args => by unfold ownMembersOf; split <;> first | rfl | (rename_i h; revert h; decide) | simp_all, by decide +kernel⟩
theorem forIn_one {β : Type} (init : β) (F : Nat → β → Sem (ForInStep β)) : forIn [:1] init F = (F 0 init >>= fun r => match r with | .done b => pure b | .yield b => pure b) := by
  rw [Std.Legacy.Range.forIn_eq_forIn_range']
  rfl
def dig (n : Nat) (a : Int) (k : Nat) : UInt8 := ((a % 2 ^ (8 * n)).toNat / 256 ^ k % 256).toUInt8
theorem ib1 (a : Int) : Builtin.Struct.intBytes true 1 a = #[dig 1 a 0] := by
  unfold Builtin.Struct.intBytes Builtin.Memoryview.toLittleEndian
  simp [List.range_succ, dig]
theorem ib2 (a : Int) : Builtin.Struct.intBytes true 2 a = #[dig 2 a 1, dig 2 a 0] := by
  unfold Builtin.Struct.intBytes Builtin.Memoryview.toLittleEndian
  simp [List.range_succ, dig]
theorem ib4 (a : Int) : Builtin.Struct.intBytes true 4 a = #[dig 4 a 3, dig 4 a 2, dig 4 a 1, dig 4 a 0] := by
  unfold Builtin.Struct.intBytes Builtin.Memoryview.toLittleEndian
  simp [List.range_succ, dig]
local macro_rules | `(tactic| walk_at "pk_open") => `(tactic| (
  unfold Builtin.Struct.packed
  dsimp only
  refine wpAny_ite_false rfl (wpAny_ite_false (by decide +kernel) ?_)
  unfold Builtin.Struct.packEach
  dsimp only
  refine wpAny_bind ?_
  refine wpAny_bind ?_
  simp only [List.forIn_cons, List.forIn_nil, forIn_one]))
local macro_rules | `(tactic| walk_at "pk_code") => `(tactic| (
  refine wpAny_bind ?_
  refine wpAny_ite_false rfl ?_
  refine wpAny_ite_false rfl ?_
  refine wpAny_bind (wpAny_bind (wpAny_bind ?_))
  refine wpAny_bind (wpAny_attempt (wpAny_of_eq rfl ?_))
  dsimp only
  refine wpAny_bind (wpAny_pure ?_)))
local macro_rules | `(tactic| walk_at "pk_next") => `(tactic| (
  refine wpAny_pure (wpAny_bind (wpAny_pure (wpAny_pure ?_)))
  dsimp only
  refine wpAny_pure (wpAny_pure ?_)
  dsimp only
  simp only [ib1, ib2, ib4]))
local macro_rules | `(tactic| walk_at "pk_out") => `(tactic| (
  refine wpAny_bind (wpAny_rule ?_)
  refine wpAny_bind (wpAny_raiseErrorMade plain_structError (by assumption) (by assumption) (by decide +kernel))))
theorem pack1 {t u : Tok} {a : Int} {Q : Value → Shared → Prop} (hh : A.handled = none)
    (hok : -2147483648 ≤ a ∧ a ≤ 2147483647 → Q (.bytes #[dig 4 a 3, dig 4 a 2, dig 4 a 1, dig 4 a 0] s.toks) { s with toks := s.toks + 1 })
    (hno : ¬ (-2147483648 ≤ a ∧ a ≤ 2147483647) → ∀ h' tk e, Heap.NewExc s.heap h' e "struct.error" → E (.ref e) { s with heap := h', toks := tk }) :
    wpAny (model prog w) A (call (.builtin "_struct.pack") [.str (PySem.Str.ofString ">i") t, .int a u]) Q E s := by
  refine wpAny_call (codeAny_call_builtin F.pack_plain F.pack_entry (wpAny_of_eq (F.pack_check _) ?_))
  unfold Builtin.«_struct.pack»
  refine wpAny_bind (wpAny_of_eq (a := ()) rfl ?_)
  dsimp only
  refine wpAny_bind (wpAny_of_eq (F.fmt1 t) ?_)
  have hh' : A.in1.handled = none := hh
  walk_at "pk_open"
  walk_at "pk_code"
  by_cases h : -2147483648 ≤ a ∧ a ≤ 2147483647
  · refine ranged (lo := -2147483648) (hi := 2147483647) rfl rfl h ?_
    walk_at "pk_next"
    refine wpAny_pure (wpAny_pure (wpAny_bind (wpAny_mkBytes (wpAny_pure ?_) ?_)))
    · refine Eq.mpr (congrArg (fun b => Q (.bytes b s.toks) { s with toks := s.toks + 1 }) ?_) (hok h)
      kernel_rfl
    · refine Nat.le_trans (m := 4) (Nat.le_of_eq ?_) (by decide)
      kernel_rfl
  · refine ranged_not (lo := -2147483648) (hi := 2147483647) rfl rfl h ?_
    have := hno h
    walk_at "pk_out"
theorem pack4 {t u1 u2 u3 u4 : Tok} {a b c d : Int} {Q : Value → Shared → Prop} (hh : A.handled = none)
    (hok : (0 ≤ a ∧ a ≤ 255) → (0 ≤ b ∧ b ≤ 255) → (-128 ≤ c ∧ c ≤ 127) → (0 ≤ d ∧ d ≤ 255) → Q (.bytes #[dig 1 a 0, dig 1 b 0, dig 1 c 0, dig 1 d 0] s.toks) { s with toks := s.toks + 1 })
    (hno : ¬ ((0 ≤ a ∧ a ≤ 255) ∧ (0 ≤ b ∧ b ≤ 255) ∧ (-128 ≤ c ∧ c ≤ 127) ∧ (0 ≤ d ∧ d ≤ 255)) → ∀ h' tk e, Heap.NewExc s.heap h' e "struct.error" → E (.ref e) { s with heap := h', toks := tk }) :
    wpAny (model prog w) A (call (.builtin "_struct.pack") [.str (PySem.Str.ofString ">BBbB") t, .int a u1, .int b u2, .int c u3, .int d u4]) Q E s := by
  refine wpAny_call (codeAny_call_builtin F.pack_plain F.pack_entry (wpAny_of_eq (F.pack_check _) ?_))
  unfold Builtin.«_struct.pack»
  refine wpAny_bind (wpAny_of_eq (a := ()) rfl ?_)
  dsimp only
  refine wpAny_bind (wpAny_of_eq (F.fmt4 t) ?_)
  have hh' : A.in1.handled = none := hh
  walk_at "pk_open"
  walk_at "pk_code"
  by_cases h1 : 0 ≤ a ∧ a ≤ 255
  case neg => refine ranged_not (lo := 0) (hi := 255) rfl rfl h1 ?_; have := hno fun q => h1 q.1; walk_at "pk_out"
  refine ranged (lo := 0) (hi := 255) rfl rfl h1 ?_
  walk_at "pk_next"
  walk_at "pk_code"
  by_cases h2 : 0 ≤ b ∧ b ≤ 255
  case neg => refine ranged_not (lo := 0) (hi := 255) rfl rfl h2 ?_; have := hno fun q => h2 q.2.1; walk_at "pk_out"
  refine ranged (lo := 0) (hi := 255) rfl rfl h2 ?_
  walk_at "pk_next"
  walk_at "pk_code"
  by_cases h3 : -128 ≤ c ∧ c ≤ 127
  case neg => refine ranged_not (lo := -128) (hi := 127) rfl rfl h3 ?_; have := hno fun q => h3 q.2.2.1; walk_at "pk_out"
  refine ranged (lo := -128) (hi := 127) rfl rfl h3 ?_
  walk_at "pk_next"
  walk_at "pk_code"
  by_cases h4 : 0 ≤ d ∧ d ≤ 255
  case neg => refine ranged_not (lo := 0) (hi := 255) rfl rfl h4 ?_; have := hno fun q => h4 q.2.2.2; walk_at "pk_out"
  refine ranged (lo := 0) (hi := 255) rfl rfl h4 ?_
  walk_at "pk_next"
  refine wpAny_pure (wpAny_pure (wpAny_bind (wpAny_mkBytes (wpAny_pure ?_) ?_)))
  · refine Eq.mpr (congrArg (fun b => Q (.bytes b s.toks) { s with toks := s.toks + 1 }) ?_) (hok h1 h2 h3 h4)
    kernel_rfl
  · refine Nat.le_trans (m := 4) (Nat.le_of_eq ?_) (by decide)
    kernel_rfl
theorem pack5 {t u1 u2 u3 u4 : Tok} {a b c d : Int} {Q : Value → Shared → Prop} (hh : A.handled = none)
    (hok : (0 ≤ a ∧ a ≤ 255) → (0 ≤ b ∧ b ≤ 255) → (-32768 ≤ c ∧ c ≤ 32767) → (0 ≤ d ∧ d ≤ 255) → Q (.bytes #[dig 1 a 0, dig 1 b 0, dig 2 c 1, dig 2 c 0, dig 1 d 0] s.toks) { s with toks := s.toks + 1 })
    (hno : ¬ ((0 ≤ a ∧ a ≤ 255) ∧ (0 ≤ b ∧ b ≤ 255) ∧ (-32768 ≤ c ∧ c ≤ 32767) ∧ (0 ≤ d ∧ d ≤ 255)) → ∀ h' tk e, Heap.NewExc s.heap h' e "struct.error" → E (.ref e) { s with heap := h', toks := tk }) :
    wpAny (model prog w) A (call (.builtin "_struct.pack") [.str (PySem.Str.ofString ">BBhB") t, .int a u1, .int b u2, .int c u3, .int d u4]) Q E s := by
  refine wpAny_call (codeAny_call_builtin F.pack_plain F.pack_entry (wpAny_of_eq (F.pack_check _) ?_))
  unfold Builtin.«_struct.pack»
  refine wpAny_bind (wpAny_of_eq (a := ()) rfl ?_)
  dsimp only
  refine wpAny_bind (wpAny_of_eq (F.fmt5 t) ?_)
  have hh' : A.in1.handled = none := hh
  walk_at "pk_open"
  walk_at "pk_code"
  by_cases h1 : 0 ≤ a ∧ a ≤ 255
  case neg => refine ranged_not (lo := 0) (hi := 255) rfl rfl h1 ?_; have := hno fun q => h1 q.1; walk_at "pk_out"
  refine ranged (lo := 0) (hi := 255) rfl rfl h1 ?_
  walk_at "pk_next"
  walk_at "pk_code"
  by_cases h2 : 0 ≤ b ∧ b ≤ 255
  case neg => refine ranged_not (lo := 0) (hi := 255) rfl rfl h2 ?_; have := hno fun q => h2 q.2.1; walk_at "pk_out"
  refine ranged (lo := 0) (hi := 255) rfl rfl h2 ?_
  walk_at "pk_next"
  walk_at "pk_code"
  by_cases h3 : -32768 ≤ c ∧ c ≤ 32767
  case neg => refine ranged_not (lo := -32768) (hi := 32767) rfl rfl h3 ?_; have := hno fun q => h3 q.2.2.1; walk_at "pk_out"
  refine ranged (lo := -32768) (hi := 32767) rfl rfl h3 ?_
  walk_at "pk_next"
  walk_at "pk_code"
  by_cases h4 : 0 ≤ d ∧ d ≤ 255
  case neg => refine ranged_not (lo := 0) (hi := 255) rfl rfl h4 ?_; have := hno fun q => h4 q.2.2.2; walk_at "pk_out"
  refine ranged (lo := 0) (hi := 255) rfl rfl h4 ?_
  walk_at "pk_next"
  refine wpAny_pure (wpAny_pure (wpAny_bind (wpAny_mkBytes (wpAny_pure ?_) ?_)))
  · refine Eq.mpr (congrArg (fun b => Q (.bytes b s.toks) { s with toks := s.toks + 1 }) ?_) (hok h1 h2 h3 h4)
    kernel_rfl
  · refine Nat.le_trans (m := 5) (Nat.le_of_eq ?_) (by decide)
    kernel_rfl
end
end Mine
namespace Mine
open PySem Calls
namespace F
theorem ba_no_bytes : typeLookup (.type "bytearray") "__bytes__" = pure none := by rw [typeLookup_type, builtinLookup_eq_fast]; kernel_rfl
theorem ba_no_index : typeLookup (.type "bytearray") "__index__" = pure none := by rw [typeLookup_type, builtinLookup_eq_fast]; kernel_rfl
theorem ba_len_slot : Slot "bytearray" "__len__" "bytearray.__len__" :=
  .of (owner := "bytearray") (n := "__len__") (by rw [typeLookup_type, builtinLookup_eq_fast]; kernel_rfl) (by decide +kernel) (by decide +kernel) (by decide +kernel)
    (by first | exact .inl (by decide +kernel) | exact .inr (by decide +kernel)) (by rw [isSubtype_type]; kernel_rfl)
theorem ba_len_args (a : Value) : argsOk "bytearray.__len__" ⟨[a], []⟩ := by unfold argsOk; kernel_rfl
theorem ba_len_entry : entryFor table "bytearray.__len__" = some Builtin.«bytearray.__len__» := by first | exact entryFor_of_fast (by kernel_rfl) | exact entryFor_of_tree (by kernel_rfl)
end F
section
variable {prog : Program} {w : World} {A : Around} {E : Value → Shared → Prop} {s : Shared}
/-- type(bytes) -/
theorem type_bytes {B : Array UInt8} {t : Tok} {Q : Value → Shared → Prop} (q : Q (.type "bytes") s) : wpAny (model prog w) A (call (.type "type") [.bytes B t]) Q E s := by
  refine wpAny_call (codeAny_of_tree ?_)
  show wpAny _ _ (callAny (.type "type") ⟨[.bytes B t], []⟩) _ _ _
  simp only [callAny]
  refine wpAny_pure ⟨Code.quiet_builtin _ (by decide +kernel), codeAny_builtin entry_type_call ?_⟩
  obtain ⟨hp, g, d, tk, os⟩ := s
  unfold Builtin.«type.__call__»
  dsimp only
  unfold shownTypeOf
  repeat wp_step
  all_goals first | exact q | skip
/-- len(bytearray) -/
theorem len_ba {b : Addr} {B : Array UInt8} {Q : Value → Shared → Prop} (h : s.heap.get? b = some (baO B)) (hz : B.size ≤ sizeLine) (q : Q (.int B.size (s.toks + 1)) { s with toks := s.toks + 1 + 1 }) :
    wpAny (model prog w) A (call (.builtin "len") [.ref b]) Q E s := by
  have hs : sizeLine < 2 ^ 63 := by decide
  refine call_len_slot (n := (B.size : Int)) (ba_type h) F.ba_len_slot (fun Q' hq => ?_) (by omega) (by omega) q
  refine wpAny_call_entry F.ba_len_slot (ba_type h) F.ba_len_entry ?_ (F.ba_len_args _)
  unfold Builtin.«bytearray.__len__»
  refine wpAny_bind (wpAny_of_eq (a := (.ref b, [])) rfl ?_)
  dsimp only
  refine wpAny_bind (ba_payload h ?_)
  refine wpAny_bind (wpAny_mkInt (wpAny_pure ⟨_, rfl, hq⟩))
theorem ba_buffer1 {id : String} {b : Addr} {B : Array UInt8} {Q : Option (Array UInt8) → Shared → Prop} {M : Model} (h : s.heap.get? b = some (baO B)) (q : Q (some B) s) : wpAny M A (Builtin.Bytes.buffer? id (.ref b) true) Q E s := by
  have hT := ba_type h
  unfold Builtin.Bytes.buffer?
  refine wpAny_bind (wpAny_specialOf hT F.ba_buffer ?_)
  dsimp only
  refine wpAny_bind ?_
  unfold Builtin.Bytes.slotIsOwn
  refine wpAny_bind (wpAny_specialOf hT F.ba_buffer ?_)
  dsimp only
  refine wpAny_ite_false (by decide +kernel) ?_
  have e : ("bytearray.__buffer__".dropRight ("__buffer__".length + 1)) = "bytearray" := by decide +kernel
  rw [e]
  refine wpAny_isInstance hT F.ba_sub ?_
  refine wpAny_ite_false (by decide) ?_
  refine wpAny_bind (wpAny_specialOf hT F.ba_buffer ?_)
  refine wpAny_bind (own_release h ?_)
  refine wpAny_ite_false (by decide) ?_
  exact wpAny_bind (ba_payload h (wpAny_pure q))
/-- bytes(bytearray) -/
theorem code_bytes_ba {b : Addr} {B : Array UInt8} {Q : Value → Shared → Prop} (h : s.heap.get? b = some (baO B)) (hz : B.size ≤ sizeLine) (q : Q (.bytes B s.toks) { s with toks := s.toks + 1 }) :
    codeAny (model prog w) A (.call (.builtin "bytes.__new__") ⟨[.type "bytes", .ref b], []⟩) (wants Q E) s := by
  refine codeAny_of_tree ?_
  show wpAny _ A.in1 (do checkBuiltinCall "bytes.__new__" ⟨[.type "bytes", .ref b], []⟩; again (.builtin "bytes.__new__" ⟨[.type "bytes", .ref b], []⟩)) _ _ s
  refine wpAny_bind (wpAny_of_eq (F.bm_newCall _) (wpAny_pure ⟨plainId_quiet F.bm_plain _, codeAny_builtin F.bm_entry ?_⟩))
  rw [Around.under_plainId F.bm_plain _]
  have hT := ba_type h
  unfold Builtin.«bytes.__new__»
  refine wpAny_bind (wpAny_of_eq (a := true) rfl ?_)
  refine bm_if_false rfl ?_
  refine wpAny_bind (wpAny_of_eq F.bm_sub ?_)
  refine bm_if_false rfl ?_
  refine wpAny_bind (wpAny_of_eq (F.bm_bind _) ?_)
  refine wpAny_bind (wpAny_of_eq (a := ()) rfl ?_)
  refine wpAny_bind (wpAny_of_eq (a := ()) rfl ?_)
  refine bm_if_false rfl ?_
  refine wpAny_bind (wpAny_specialOf hT F.ba_no_bytes ?_)
  refine wpAny_bind (wpAny_bind ?_)
  show wpAny _ _ (load b >>= _) _ _ _
  refine wpAny_bind (wpAny_load h ?_)
  refine wpAny_pure (wpAny_pure ?_)
  refine bm_if_false rfl ?_
  refine wpAny_bind (wpAny_specialOf hT F.ba_no_index ?_)
  refine bm_if_true rfl ?_
  refine wpAny_bind (ba_buffer1 h ?_)
  dsimp only
  refine wpAny_bind (wpAny_rule (wpAny_bind (wpAny_mkBytes ?_ hz)))
  show wpAny _ _ (if (Value.type "bytes" == Value.type "bytes") = true then _ else _) _ _ _
  refine bm_if_true (by decide) ?_
  exact wpAny_pure q
theorem bytes_ba {b : Addr} {B : Array UInt8} {Q : Value → Shared → Prop} (h : s.heap.get? b = some (baO B)) (hz : B.size ≤ sizeLine) (q : ∀ t k, Q (.bytes B t) { s with toks := k }) :
    wpAny (model prog w) A (call (.type "bytes") [.ref b]) Q E s := by
  refine callType_codes (Q₁ := fun obj s₁ => s₁.TypeIs obj "bytes" ∧ Q obj s₁) F.bm_called (F.bm_typeCall _) F.entry_object_init
    (code_bytes_ba h hz ⟨PySem.W.typeIs_bytes _ _ _, q _ _⟩) fun obj s₁ h₁ => ?_
  exact ⟨h₁.1, F.args_object_init_2 obj _, object_init_meets F.bm_called.init.lookup F.bm_called.made (by decide) prog w A.in1 _ s₁ ⟨h₁.1, rfl, h₁.2⟩⟩
/-- list(bytes) -/
theorem extend_bytes {R : Result → Shared → Prop} (hh : A.handled = none) (B : Array UInt8) (t : Tok) (S : Addr) (res : Value) (c₀ : Nat) (hS : s.heap.get? S = some { cls := .type "list", data := .seq #[] c₀ }) (hn : B.size ≤ sizeLine)
    (hR : ∀ h' tk acc' c', (∀ b o, b ≠ S → s.heap.get? b = some o → h'.get? b = some o) → h'.get? S = some { cls := .type "list", dict := none, data := .seq acc' c', slots := #[] } →
      ItemsOf (fun i v => ∃ c u, B[i]? = some c ∧ v = .int (c.toNat : Int) u) acc' B.size → R (.ok (.ret res)) { s with heap := h', toks := tk }) :
    wpAny (model prog w) A.in1 (Builtin.List.listExtendWith (.ref S) (.bytes B t) res)
      (fun fin s' => match fin with | .done f => R (.ok f) s' | .again c' => c'.quiet = true ∧ codeAny (model prog w) A c' R s') (fun e s' => R (.error e) s') s := by
  have hSI : S ≠ s.heap.objs.size := Nat.ne_of_lt (Heap.lt_size hS)
  have hSf : S ∉ [s.heap.objs.size] := fun hm => hSI (List.mem_singleton.mp hm)
  have hT : s.TypeIs (.bytes B t) "bytes" := PySem.W.typeIs_bytes _ _ _
  have W := (KBw.walks (prog := prog) (w := w) (A := A.in1) hh s.heap.objs.size B t).toS
  unfold Builtin.List.listExtendWith
  refine wpAny_bind (wpAny_typeOf hT ?_)
  have h1 : Builtin.List.listSameRef (.ref S) (.bytes B t) = false := rfl
  have h2 : (Value.type "bytes" == Value.type "list") = false := by decide
  have h3 : (Value.type "bytes" == Value.type "tuple") = false := by decide
  simp only [h1, h2, h3, Bool.or_false, Bool.false_eq_true, if_false]
  refine wpAny_bind (KBw.pyIter_bytes ?_)
  refine wpAny_bind (wpAny_holding ?_)
  unfold Builtin.List.listLengthHint
  refine wpAny_bind (wpAny_specialOf (T := "bytes") (v := .bytes B t) rfl FB.slot_bytes_len.lookup ?_)
  generalize hid : ("bytes.__len__" : String) = id0
  wp_delta
  rw [show splitId id0 = some ("bytes", "__len__") from by subst hid; decide +kernel]
  subst hid
  refine wpAny_bind (wpAny_isInstance (T := "bytes") (v := .bytes B t) (b := true) rfl PySem.F.bm_sub ?_)
  show wpAny _ _ (typeOf (Value.bytes B t) >>= _) _ _ _
  refine wpAny_bind (wpAny_typeOf (T := "bytes") (v := .bytes B t) rfl ?_)
  refine wpAny_pure ?_
  rw [if_neg (by decide)]
  refine wpAny_pure ⟨plainId_quiet F.plain_extend_loop _, codeAny_extend_loopS W hn _ hSf _ B.size 0 _ _ _ rfl (Nat.zero_le _) ⟨_, Heap.get?_push_size _ rfl, rfl, rfl⟩ (Heap.get?_push_of_some _ hS) (ItemsOf.nil _) fun s' acc' c' hm hS' hacc => ?_⟩
  rw [Moved.eq_with hm]
  refine hR s'.heap s'.toks acc' c' (fun b ob hb e => hm.heap b ob (fun hmem => ?_) (Heap.get?_push_of_some _ e)) hS' hacc
  rcases List.mem_cons.mp hmem with e' | hmem
  · exact hb e'
  · exact absurd (Heap.lt_size e) (by rw [List.mem_singleton.mp hmem]; exact Nat.lt_irrefl _)
theorem list_init_bytes {R : Result → Shared → Prop} (hh : A.handled = none) (B : Array UInt8) (t : Tok) (S : Addr) (hS : s.heap.get? S = some { cls := .type "list", data := .seq #[] }) (hn : B.size ≤ sizeLine)
    (hR : ∀ h' tk acc' c', (∀ b o, b ≠ S → s.heap.get? b = some o → h'.get? b = some o) → h'.get? S = some { cls := .type "list", dict := none, data := .seq acc' c', slots := #[] } →
      ItemsOf (fun i v => ∃ c u, B[i]? = some c ∧ v = .int (c.toNat : Int) u) acc' B.size → R (.ok (.ret .none)) { s with heap := h', toks := tk }) :
    wpAny (model prog w) A.in1 (Builtin.«list.__init__» ⟨[.ref S, .bytes B t], []⟩)
      (fun fin s' => match fin with | .done f => R (.ok f) s' | .again c' => c'.quiet = true ∧ codeAny (model prog w) A c' R s') (fun e s' => R (.error e) s') s := by
  show wpAny _ _ (do let old ← Builtin.List.listItems (.ref S); Builtin.List.listUpdate (.ref S) (fun _ => #[]); letGo old.toList.reverse; Builtin.List.listExtendWith (.ref S) (.bytes B t) .none) _ _ s
  refine wpAny_bind ?_
  unfold Builtin.List.listItems
  refine wpAny_bind (wpAny_seqItems hS rfl (wpAny_pure ?_))
  show wpAny _ _ (updateSeq S (fun _ => #[]) >>= fun _ => letGo (#[] : Array Value).toList.reverse >>= fun _ => Builtin.List.listExtendWith (.ref S) (.bytes B t) .none) _ _ s
  refine wpAny_bind (wpAny_updateSeq hS rfl ?_)
  have hS₂ := Heap.get?_update_self (Obj.mapSeq (fun _ => (#[] : Array Value))) hS rfl
  have oth : ∀ b o, b ≠ S → s.heap.get? b = some o → (s.heap.update S (Obj.mapSeq (fun _ => (#[] : Array Value)))).get? b = some o :=
    fun b o hb e => (Heap.get?_update_other _ _ (Ne.symm hb)).trans e
  refine wpAny_bind (wpAny_letGo ?_)
  refine extend_bytes hh B t S .none _ hS₂ hn fun h' tk acc' c' hk hS' hacc => ?_
  exact hR h' tk acc' c' (fun b o hb e => hk b o hb (oth b o hb e)) hS' hacc
theorem list_bytes {Q : Value → Shared → Prop} (hh : A.handled = none) (B : Array UInt8) (t : Tok) (hn : B.size ≤ sizeLine)
    (hQ : ∀ h' tk acc' c', (∀ b o, s.heap.get? b = some o → h'.get? b = some o) →
      h'.get? s.heap.objs.size = some { cls := .type "list", dict := none, data := .seq acc' c', slots := #[] } → ItemsOf (fun i v => ∃ c u, B[i]? = some c ∧ v = .int (c.toNat : Int) u) acc' B.size → Q (.ref s.heap.objs.size) { s with heap := h', toks := tk }) :
    wpAny (model prog w) A (call (.type "list") [.bytes B t]) Q E s := by
  refine callType_codes (Q₁ := fun obj s₁ => obj = .ref s.heap.objs.size ∧ s₁ = { s with heap := s.heap.push { cls := .type "list", data := .seq #[] } }) F.called_list (F.typeCall_list_1 _) F.entry_list_init
    (code_list_new _ ⟨rfl, rfl⟩) fun obj s₁ h₁ => ?_
  obtain ⟨rfl, rfl⟩ := h₁
  have hS : (s.heap.push { cls := .type "list", data := .seq #[] }).get? s.heap.objs.size = some { cls := .type "list", data := .seq #[] } := Heap.get?_push_size _ rfl
  refine ⟨⟨_, hS, rfl⟩, F.args_list_init_2 _ _, list_init_bytes (A := A.in1) hh B t _ hS hn fun h' tk acc' c' hk hS' hacc => ?_⟩
  exact ⟨rfl, hQ h' tk acc' c' (fun b o e => hk b o (Nat.ne_of_lt (Heap.lt_size e)) (Heap.get?_push_of_some _ e)) hS' hacc⟩
end
end Mine
namespace Mine
open PySem Calls
open KBw (bInts)
section
variable {prog : Program} {w : World} {A : Around} {E : Value → Shared → Prop} {s : Shared} {h₀ : Heap} {L : Addr} {m : PySem.Str → Option Value} {news : List (Addr × Obj)}
theorem len_ba_K {b : Addr} {B : Array UInt8} {Q : Value → Shared → Prop} (N : News h₀ L s.heap news) (hm : (b, baO B) ∈ news) (hz : B.size ≤ sizeLine) (q : Q (.int B.size (s.toks + 1)) { s with toks := s.toks + 1 + 1 }) :
    wpAny (model prog w) A (call (.builtin "len") [.ref b]) Q E s := len_ba (N _ hm).1 hz q
theorem bytes_ba_K {b : Addr} {B : Array UInt8} {Q : Value → Shared → Prop} (N : News h₀ L s.heap news) (hm : (b, baO B) ∈ news) (hz : B.size ≤ sizeLine) (q : ∀ t k, Q (.bytes B t) { s with toks := k }) :
    wpAny (model prog w) A (call (.type "bytes") [.ref b]) Q E s := bytes_ba (N _ hm).1 hz q
theorem intsAre_items {ys : List Value} {B : Array UInt8} (h : ItemsOf (fun i v => ∃ c u, B[i]? = some c ∧ v = Value.int (c.toNat : Int) u) ys.toArray B.size) : IntsAre ys (bInts B) := by
  have key : ∀ (ys : List Value) (l : List UInt8), ys.length = l.length → (∀ (j : Nat) (v : Value), ys[j]? = some v → ∃ (c : UInt8) (u : Tok), l[j]? = some c ∧ v = Value.int (c.toNat : Int) u) → IntsAre ys (l.map fun (c : UInt8) => (c.toNat : Int)) := by
    intro ys
    induction ys with
    | nil => intro l hl _; cases l with
      | nil => exact .nil
      | cons => cases hl
    | cons v r ih => intro l hl hp; cases l with
      | nil => cases hl
      | cons c l =>
        obtain ⟨c', u, e1, rfl⟩ := hp 0 v rfl
        obtain rfl : c = c' := by simpa using e1
        exact .cons _ u (ih l (by simpa using hl) fun j v hv => by simpa using hp (j + 1) v (by simpa using hv))
  refine key ys B.toList (by simpa using h.1) fun j v hv => ?_
  obtain ⟨c, u, e, rfl⟩ := h.2 j v (by simpa using hv)
  exact ⟨c, u, by simpa using e, rfl⟩
theorem list_bytes_K {B : Array UInt8} {t : Tok} {Q : Value → Shared → Prop} (F : Fr h₀ L s.heap m) (N : News h₀ L s.heap news) (hh : A.handled = none) (hz : B.size ≤ sizeLine)
    (h : ∀ D ys c h' tk, Fr h₀ L h' m → News h₀ L h' ((D, listOf (List.toArray ys) c) :: news) → (∀ q ∈ news, q.1 < D) → IntsAre ys (bInts B) → Q (.ref D) { s with heap := h', toks := tk }) :
    wpAny (model prog w) A (call (.type "list") [.bytes B t]) Q E s :=
  list_bytes hh B t hz fun h' tk acc' c' hk hD hi => h _ acc'.toList c' h' tk (F.keeps hk) (news_pushed F N hk hD rfl) (fun q hq => Heap.lt_size (N q hq).1) (intsAre_items (by simpa using hi))
end
end Mine
namespace Mine
open PySem Calls
section
variable {prog : Program} {w : World} {A : Around} {E : Value → Shared → Prop} {s : Shared} {R : Result → Shared → Prop}
theorem codeQ_func {body : List Stmt} {env : Env}
    (h : wq (model prog w) (A.deeper env) (execs body env) (fun f s' => R (.ok (.ret (match f with | .ret v => v | _ => .none))) s')
      (fun e s' => wpAny (model prog w) (A.deeper env) (leaving env e) (fun _ s'' => R (.error e) s'') (fun e' s'' => R (.error e') s'') s') s) :
    codeQ (model prog w) A (.func body env) R s := by
  refine codeQ_tree rfl ?_
  show wq _ (A.deeper env) (do point; match ← (execs body env).onRaise (leaving env) with | .ret v => ret v | _ => ret .none) _ _ s
  refine wq_bind (wq_any (wpAny_point ?_))
  refine wq_bind (wq_onRaise (wq_mono h (fun f s' h' => ?_) fun e s' h' => wq_any h'))
  cases f <;> exact wq_pure h'
theorem codeQ_call_function {a : Addr} {args : Args} {o : Obj} {fd : FuncData} {body : List Stmt} (hroom : A.depth < recursionLimit)
    (ho : s.heap.get? a = some o)
    (hd' : o.data = .func fd) (hco : fd.scope.isCoroutine = false) (hgen : fd.scope.isGenerator = false) (hbody : fd.body = .stmts body) (hcd : s.heap.CodeRec fd.code fd.qualname)
    (h : wpAny (model prog w) A.in1 (bindArgs fd args) (fun binds s₁ =>
      wpAny (model prog w) A.in1 (newFunctionEnv fd.scope fd.globals fd.closure binds (fd.qualname ++ ".<locals>.") (some a) fd.code none fd.builtins)
        (fun env s₂ => s₂.heap.NoLimit ∧ codeQ (model prog w) A (.func body env) R s₂) (fun e s' => R (.error e) s') s₁) (fun e s' => R (.error e) s') s) :
    codeQ (model prog w) A (.call (.ref a) args) R s := by
  refine codeQ_tree rfl ?_
  show wq _ A.in1 (callAny (.ref a) args) _ _ s
  simp only [callAny]
  refine wq_bind (wq_any (wpAny_load ho ?_))
  obtain ⟨c, oc, vs, tq, hc, hoc, hdc, hq⟩ := hcd
  simp only [hd', callFunction, hco, hgen, hbody, hc]
  rw [hc] at h
  refine wq_bind (m := field (.ref c) 1) (wq_any (wpAny_field hoc hdc hq ?_))
  refine wq_bind (wq_pure ?_)
  refine wq_bind (wq_any (wpAny_mono h (fun binds s₁ h₁ => ?_) fun _ _ h' => h'))
  refine wq_bind (wq_any (wpAny_mono h₁ (fun env s₂ h₂ => ?_) fun _ _ h' => h'))
  refine wq_bind (wq_any (wpAny_enterFrame h₂.1 hroom ?_))
  exact wq_pure (And.intro rfl h₂.2)
theorem codeQ_call_def {a : Addr} {o : Obj} {fd : FuncData} {body : List Stmt} {args : Args} {binds : List (PySem.Str × Value)}
    (hroom : A.depth < recursionLimit) (ho : s.heap.get? a = some o) (hdata : o.data = .func fd) (hlim : s.heap.NoLimit) (hcd : s.heap.CodeRec fd.code fd.qualname)
    (hbody : fd.body = .stmts body) (hbind : BindsTo s fd args binds)
    (hcell : ∀ x ∈ fd.scope.names, x.2 ≠ .cell) (hloc : ∀ x ∈ binds, fd.scope.names.lookup x.1 = some .local)
    (h : ∀ h₀, h₀.Ns s.heap.objs.size (fun x => binds.reverse.lookup x) → (∀ b o, s.heap.get? b = some o → h₀.get? b = some o) →
      wq (model prog w) (A.deeper (callEnv fd s.heap.objs.size a)) (execs body (callEnv fd s.heap.objs.size a)) (fun f s' => R (.ok (.ret (match f with | .ret v => v | _ => .none))) s')
        (fun e s' => wpAny (model prog w) (A.deeper (callEnv fd s.heap.objs.size a)) (leaving (callEnv fd s.heap.objs.size a) e) (fun _ s'' => R (.error e) s'') (fun e' s'' => R (.error e') s'') s')
        { s with heap := h₀, toks := s.toks + binds.length })
    (hco : fd.scope.isCoroutine = false := by rfl) (hgen : fd.scope.isGenerator = false := by rfl) (hk : fd.scope.kind = .function := by rfl) :
    codeQ (model prog w) A (.call (.ref a) args) R s := by
  refine codeQ_call_function hroom ho hdata hco hgen hbody hcd (hbind _ _ _ _ ?_)
  refine wpAny_newFunctionEnv hcell hloc (fun h₀ hns₀ hsb₀ => ⟨hlim.fresh _ hsb₀, codeQ_func (h h₀ hns₀ fun b o e => ?_)⟩) hk
  exact hsb₀.extBut b o (Nat.ne_of_lt (Heap.lt_size e)) (Heap.get?_push_of_some _ e)
end
section
variable {prog : Program} {w : World} {A₀ A : Around} {s : Shared} {base h₀ : Heap} {outer : List Env} {L : Addr} {m : PySem.Str → Option Value} {env : Env} {news : List (Addr × Obj)} {K : Frag}
  {p : Program} {loose : List PySem.Str} {mean : ExcName → Option Value} {mg mb : PySem.Str → Option Value}
  {R : Result → Shared → Prop} {name qual : PySem.Str} {params : Arguments} {body : List Stmt} {scope : Scope} {dV kV doc pm cdv ct oc : Value} {an od : Option Addr} {osl : Array (Option Value)} {f : Addr} {args : Args} {binds : List (PySem.Str × Value)}
/-- a def is entered over clear stacks (the library's code_def, for codeQ) -/
theorem codeQ_def
    (B : Below A₀ base outer h₀) (F : Fr h₀ L s.heap m) (X₀ : K.In h₀) (N : News h₀ L s.heap news) (T : Top p loose mean mg mb h₀) (hA : A.frames = some (env :: outer)) (hf : env.frame = some L) (hke : env.scope.kind = .function)
    (ho : K.lookup f = some ⟨oc, od, .func (fnOf name qual params body scope dV kV doc pm an cdv ct), osl⟩) (hcd : codeIn K cdv qual = true) (hroom : A.depth < recursionLimit)
    (hbind : BindsTo s (fnOf name qual params body scope dV kV doc pm an cdv ct) args binds) (hloc : ∀ y ∈ binds, scope.names.lookup y.1 = some .local)
    (h : ∀ g L' h₁, Fr h₀ L g m → Fr g L' h₁ (fun y => binds.reverse.lookup y) → News g L' h₁ news → Below A base (env :: outer) g → K.In g → Top p loose mean mg mb g →
      wq (model prog w) (A.deeper (envOf qual scope L' f cdv)) (execs body (envOf qual scope L' f cdv))
        (fun fl s' => LeaveK h₀ L m g R (match fl with | .ret v => v | _ => .none) s')
        (fun e s' => wpAny (model prog w) (A.deeper (envOf qual scope L' f cdv)) (leaving (envOf qual scope L' f cdv) e) (fun _ s'' => R (.error e) s'') (fun e' s'' => R (.error e') s'') s')
        { s with heap := h₁, toks := s.toks + binds.length })
    (hco : scope.isCoroutine = false) (hgen : scope.isGenerator = false) (hk : scope.kind = .function)
    (hcell : ∀ x ∈ scope.names, x.2 ≠ .cell) : codeQ (model prog w) A (.call (.ref f) args) R s := by
  obtain ⟨FG, BG, st, lv⟩ := groundX (R := R) B F N hA hf hke
  refine codeQ_call_def (fd := fnOf name qual params body scope dV kV doc pm an cdv ct) (body := body) (binds := binds) hroom ((X₀.keeps F.keep) _ _ ho) rfl (T.nolimit.keeps F.keep) (codeRec_of (X₀.keeps F.keep) hcd) rfl hbind hcell hloc (fun h₁ hns hk₁ => ?_) hco hgen hk
  exact wq_mono (h _ s.heap.objs.size h₁ FG ⟨hns, fun b o e => hk₁ b o (of_hideAll _ e), Nat.le_of_eq (hideAll_size _ _)⟩
    (fun p hp => ⟨hk₁ _ _ (N p hp).1, Nat.ne_of_lt (Heap.lt_size (N p hp).1), hideAll_none _ (List.mem_map_of_mem hp)⟩) BG (X₀.keeps st) (T.keeps st)) (fun fl s' hl => lv _ _ hl) fun _ _ y => y
end
end Mine
namespace Mine
open PySem Calls
/-- the claim's own thread runs over a clear stack -/
theorem thread_ends_q {prog : Program} {w : World} {t : Sem Fin} {s : Shared} {R : Result → Shared → Prop} (hreg : s.asleep)
    (h : wq (model prog w) callerA t (fun fin s' => ∃ f, fin = .done f ∧ (R (.ok f) s' ∧ leftWithCleanup s'.gens = false)) (fun e s' => R (.error e) s' ∧ leftWithCleanup s'.gens = false) s) :
    ∃ n r s' s'', runN (denote table) prog w n s ⟨t, .builtin "claim.caller" {}, default, []⟩ = .halted (outcomeOf r) s' ∧
      schedN (denote table) prog w n (.single s ⟨t, .builtin "claim.caller" {}, default, []⟩) = .halted (outcomeOf r) s' ∧ s'.forget = s''.forget ∧ R r s'' := by
  have h1 := Sem.wp_mono (model prog w) ⟨.builtin "claim.caller" {}, none, none, [], none⟩ t
    (post' := Sem.finPost (model prog w) ⟨.builtin "claim.caller" {}, none, none, [], none⟩ fun r s' => R r s' ∧ leftWithCleanup s'.gens = false) (fun fin p' s' h' => by
      obtain ⟨f, rfl, hf⟩ := h'
      exact hf) (fun e _ s' (h' : R (.error e) s' ∧ leftWithCleanup s'.gens = false) => h') default s (h ⟨.builtin "claim.caller" {}, none, none, [], none⟩ default caller_in (by decide +kernel) Clear.nil)
  obtain ⟨n, r, s₁, s₂, hs, hn, hfo, hR⟩ := wp_halts_full (M := model prog w) (R := R) hreg h1
  exact ⟨n, r, s₂, s₁, hn, hs, hfo, hR⟩
theorem callFrom_q {c : ClaimW} {tree : List Value → Sem Fin} {w : World} {s : Shared} {free : Addr → Prop} {gens : Prop} {kept : Heap → Prop} (hz : s.asleep) (hgens : s.gens = #[])
    (hspec : ∀ args, c.pre args = true → WData.layableAll args = true →
      ∀ ord : List DictEntry → List DictEntry, (∀ l, (ord l).Perm l) →
      ∃ vs s₁, layAllW c.records (classAt s.heap) w.params ord args s = some (vs, s₁) ∧
        wq (model c.prog w) callerA (tree vs) (fun fin s' => ∃ f, fin = .done f ∧ (c.Ends s args vs s₁ (.ok f) s' ∧ s'.os = s.os ∧ AllBare s'.gens ∧ kept s'.heap))
          (fun e s' => c.Ends s args vs s₁ (.error e) s' ∧ s'.os = s.os ∧ AllBare s'.gens ∧ kept s'.heap) s₁) :
    c.CallFrom (fun vs => ⟨tree vs, .builtin "claim.caller" {}, default, []⟩) w free gens kept s := by
  intro args hpre hlay ord hord
  obtain ⟨vs, s₁, hlaid, hcode⟩ := hspec args hpre hlay ord hord
  have hal := layAllW_rest _ _ _ hlaid
  obtain ⟨k, r, s', s'', hrun, hsched, hfo, hcase, hos, hkp⟩ := thread_ends_q (prog := c.prog) (w := w) (t := tree vs) (s := s₁)
    (R := fun r s' => c.Ends s args vs s₁ r s' ∧ s'.os = s.os ∧ kept s'.heap) (Shared.asleep_of_life hal.2.2.2 hz)
    (wq_mono hcode (fun fin s' ⟨f, e, h1, h2, h3, h4⟩ => ⟨f, e, ⟨h1, h2, h4⟩, leftWithCleanup_false_of_bare h3⟩) fun e s' ⟨h1, h2, h3, h4⟩ => ⟨⟨h1, h2, h4⟩, leftWithCleanup_false_of_bare h3⟩)
  obtain ⟨eh, _, _, eo, _⟩ := Shared.forget_eq hfo
  have hcase := hcase.congr eh
  have hkp : kept s'.heap := by first | exact eh ▸ hkp | (rw [eh] at hkp; exact hkp) | (rw [← eh] at hkp; exact hkp)
  rw [← eo] at hos
  have hlife : s'.heap.life = s.heap.life := (runN_life _ _ _ hrun).trans hal.2.2.2
  refine ⟨vs, s₁, hlaid, k, _, s', hsched, ?_, (fun _ i x hx => by rw [hgens] at hx; simp at hx), hkp, by rw [hlife], Shared.rest_eq hos⟩
  rcases hcase with ⟨v, rfl, d1, d2, d3, d4, d5⟩ | ⟨e, ob, cls, rfl, d1, d2, d3, d4, d5⟩
  · exact .inl ⟨v, rfl, d1, d2, d3, fun b o y _ => d4 b o y, d5⟩
  · exact .inr ⟨e, ob, cls, rfl, d1, d2, d3, d4, fun b o y _ => d5 b o y⟩
/-- the walk that is asked of a law: WalkO over clear stacks -/
abbrev WalkQ (q : Program) (loose : List PySem.Str) (XP : (PySem.Str → Option Value) → Heap → Prop) (YP : World → Heap → Prop) (r : RowW) (d : DefRec) (kwd : List (PySem.Str × Expr)) : Prop :=
  ∀ (w : World) (s₀ s₁ : Shared) (mg mb : PySem.Str → Option Value), Ground q loose r.records XP w s₀ mg mb s₁.heap → YP w s₁.heap → ∀ (a : Addr) (o : Obj) (pm cd doc dV kV : Value), s₁.heap.get? a = some o →
    o.data = .func { docDef d.name d.params d.body d.scope pm cd doc with defaults := dV, kwdefaults := kV } → s₁.heap.CodeRec cd d.name → Dflts mg s₁.heap d.params kwd dV kV → mg d.name = some (.ref a) → s₁.gens = #[] →
    ∀ (args : List WData) (vals : List Value) (as : List Addr), r.claim.pre args = true → WData.layableAll args = true → ReadsAllW r.records (classAt s₀.heap) s₁.heap vals args as → WellAll w.params s₁.heap vals args → (∀ a ∈ as, (a == sysModules) = false) →
      codeQ (model r.prog w) callerA (.call (.ref a) ⟨vals, []⟩) (GoodWG r.claim (classAt s₀.heap) (ExcName.means s₀.heap) args s₁) s₁
theorem holds_openQ {r : OpenRow} {q : Program} {loose : List PySem.Str} {Xt : Shared → Bool} {XP : (PySem.Str → Option Value) → Heap → Prop} {α : Type} {Yf : Shared → α} {Ya : World → α} {YP : World → Heap → Prop} {d : DefRec} {kwd : List (PySem.Str × Expr)} {N : Nat}
    (left : LeftO r.prog q loose Xt Yf Ya N) (hY : ∀ w s, Yf s = Ya w → YP w s.heap) (hYk : ∀ w h h', YP w h → (∀ b o, h.get? b = some o → h'.get? b = some o) → YP w h')
    (hX : ∀ s, Xt s = true → XP (s.heap.nsMap mainGlobals) s.heap) (hXk : ∀ mg h h', XP mg h → (∀ b o, h.get? b = some o → h'.get? b = some o) → XP mg h')
    (hdef : defOf q r.name = some (d, kwd)) (hp : r.prog.theDef r.name = some (d.params, d.body, d.scope)) (hk : kwWritten? d.params.kwonlyargs d.params.kw_defaults = some kwd) (hRf : ∀ s, Xt s = true → RecFacts r.records s.heap) (hwr : (!r.writes || r.records.isEmpty) = true)
    (k1 : r.wellSaid = true) (ok : (chainsOk q && opensWell r.prog && (frees r.toRowW && r.within.isEmpty)) = true) (hb : r.prog.bare) (hw : r.toRowW.promised)
    (call : WalkQ q loose XP YP r.toRowW d kwd) : r.Holds := by
  refine ⟨k1, hw, ?_⟩
  obtain ⟨ok, k5⟩ := Bool.and_eq_true_iff.mp ok
  obtain ⟨hch, o1⟩ := Bool.and_eq_true_iff.mp ok
  obtain ⟨k5, k6⟩ := Bool.and_eq_true_iff.mp k5
  obtain ⟨hsame, hu, ha, hap, hm⟩ := frees_parts k5
  refine ⟨⟨hb, o1, by show r.toRowW.makers.map _ = []; rw [hm]; rfl⟩, hw.witness, fun w => ⟨(left.behind hX hch w).1, fun s' hs' => ?_⟩⟩
  obtain ⟨s₀, hf, hg0, s, hT, hz, hgens, hg, G00, y⟩ := (left.behind (XP := fun mg h => XP mg h ∧ RecFacts r.toRowW.records h) (fun s hs => ⟨hX s hs, hRf s hs⟩) hch w).2 s' hs'
  have G0 : Ground q loose [] XP w s (s.heap.nsMap mainGlobals) (s.heap.nsMap builtinsNs) s.heap := ⟨G00.T, G00.B, G00.D, G00.TE, G00.TD, G00.W, G00.X.1, G00.cls, G00.has, G00.apart, G00.once, G00.K⟩
  have RF := G00.X.2
  have hT' := hT
  refine ⟨s₀, hf, hg0, s, hT, (fun n hn => ?_), RF.1, RF.2.1, ?_⟩
  · obtain rfl : n = r.name := by split at hn <;> simp_all
    exact pinned_of_view hg G0 hdef hp hk
  have hgens : s.gens = #[] := Array.eq_empty_of_size_eq_zero (beq_iff_eq.mp hgens)
  have G : Ground q loose r.toRowW.records XP w s _ _ s.heap := RF.ground G0
  refine callFrom_q (c := r.toRowW.claim) hz hgens fun args hpre hlay ord hord => ?_
  obtain ⟨⟨vs, s₁⟩, hlaid⟩ := Option.isSome_iff_exists.mp (layAllW_isSome (P := w.params) (ord := ord) G.has args r.toRowW.args s (pre_splitW hpre).1)
  have keeps := layAllW_keeps _ _ _ hlaid
  have hal := layAllW_rest _ _ _ hlaid
  obtain ⟨as, hrd, hin, hold⟩ := reads_layAllW hord _ _ _ hlaid hlay s₁.heap (fun _ _ e => e)
  have L : Laid r.toRowW.records w s s₁ args vs as := ⟨⟨ord, hord, hlaid⟩, hrd, hin, hold, keeps, hal.1.trans hgens, hal.2.2.1⟩
  have G₁ := G.keeps hXk keeps
  obtain ⟨a, o, pm, cd, doc, dV, kV, h1, h2, h3, h4, h5⟩ := G₁.fn hdef
  have h := call w s s₁ _ _ G₁ (hYk _ _ _ (hY w s y) keeps) a o pm cd doc dV kV h2 h3 h4 h5 (defOf_name hdef ▸ h1) L.gens args vs as hpre hlay L.reads L.well (L.low G.low)
  have hi := ident_freeW hu ha hap
  have hwi : r.toRowW.claim.within = [] := List.isEmpty_iff.mp k6
  refine ⟨vs, s₁, hlaid, wq_bind (wq_any (wpAny_nsGet G₁.T.g ?_))⟩
  rw [h1]
  dsimp only
  refine wq_bind (wq_call (codeQ_mono h fun res s' g => ?_))
  have z := g.laid (c := r.toRowW.claim) hsame hwi hi L
  rcases g.1 with ⟨v, _, _, rfl, _⟩ | ⟨e, _, _, rfl, _⟩
  · exact wq_pure ⟨_, rfl, z.1, z.2.1, z.2.2, fun q => ⟨namesKept_of hT' hg _ keeps g.2.1.old, noTable hwr q⟩⟩
  · exact ⟨z.1, z.2.1, z.2.2, fun q => ⟨namesKept_of hT' hg _ keeps g.2.1.old, noTable hwr q⟩⟩
end Mine
namespace Mine
abbrev RWF : OpenRow := PySem.Challenge.rw_fq5014_01.row
/-- the statements of the top that bind what the law reads -/
def keepI : List Nat := (List.range 86).filter fun i => ![3, 6, 12, 47, 57, 76].contains i
def QV : Program := view RWF.prog keepI
def looseN : List PySem.Str := ["_tuplegetter", "UnsupportedOperation", "UnsupportedOperation_stand_ins", "UserFunctionDescriptor", "UserAggregateDescriptor", "SchemaTargetType", "ProtocolVersion", "_UNSET_VALUE",
  "_MessageType", "ErrorMessage", "ErrorMessageSub", "ServerError", "ProtocolException", "UnavailableErrorMessage", "ReadTimeoutErrorMessage", "FunctionFailureMessage", "SyntaxException", "ConfigurationException",
  "PreparedQueryNotFound", "AlreadyExistsException", "ReadyMessage", "AuthenticateMessage", "AuthChallengeMessage", "AuthSuccessMessage", "OptionsMessage", "SupportedMessage", "ResultMessage", "EventMessage",
  "UnsupportedOperation_io", "IOBase", "BufferedIOBase", "TextIOBase", "BytesIO", "StringIO", "_ProtocolHandler"].map PySem.Str.ofString
local macro_rules | `(tactic| o_head $H) => `(tactic|
  refine holds_openQ (q := QV) (loose := looseN) (Xt := fun s => xlAt QV [] s && recOk (RowW.records (OpenRow.toRowW RWF)) s) (XP := XL QV []) (Yf := Hook.obs $H) (Ya := Hook.val $H) (YP := Hook.says $H) (N := 36336) ?hl (Hook.of $H) (Hook.keeps $H)
    (fun s e => xl_of s (Bool.and_eq_true_iff.mp e).1) XL.keeps (by rfl) (by rfl) (by rfl) (fun s e => recFacts_of (Bool.and_eq_true_iff.mp e).2) (by rfl) (by first | assumption | decide +kernel) (by decide +kernel) ⟨rfl, rfl, rfl, rfl, rfl, by decide +kernel⟩ ?hw ?hc)
def hd : PSigma (fun P : Prop × Prop => P.1 → P.2 → RWF.wellSaid = true → OpenRow.Holds RWF) := by
  refine' ⟨(_, _), fun left walk said => _⟩
  rotate_left 2
  w_on
  k_head
  case hw => w_witness2
  case hl => exact left
  case hc => exact walk
end Mine
namespace Mine
open PySem Calls
/-- an object that is not freed -/
def live : Obj → Option Obj
  | ⟨_, _, .freed, _⟩ => none
  | o => some o
/-- one pass over a list of objects: those at the written places -/
def pick2 : List Obj → Nat → List Nat → List (Nat × Option Obj)
  | [], _, _ => []
  | _ :: _, _, [] => []
  | o :: os, i, a :: as => match Nat.beq a i with
    | true => (a, live o) :: pick2 os (i + 1) as
    | false => pick2 os (i + 1) (a :: as)
theorem pick2_sound : ∀ (os : List Obj) (i : Nat) (as : List Nat), ∀ p ∈ pick2 os i as, i ≤ p.1 ∧ p.2 = (os[p.1 - i]?).bind live
  | [], _, _, _, h => nomatch h
  | _ :: _, _, [], _, h => nomatch h
  | o :: os, i, a :: as, p, h => by
    unfold pick2 at h
    split at h
    · rename_i e
      have e := Nat.eq_of_beq_eq_true e
      rcases List.mem_cons.mp h with rfl | h
      · exact ⟨Nat.le_of_eq e.symm, by simp [e]⟩
      · have := pick2_sound os (i + 1) as p h
        refine ⟨by omega, ?_⟩
        rw [this.2, show p.1 - i = (p.1 - (i + 1)) + 1 by omega, List.getElem?_cons_succ]
    · have := pick2_sound os (i + 1) (a :: as) p h
      refine ⟨by omega, ?_⟩
      rw [this.2, show p.1 - i = (p.1 - (i + 1)) + 1 by omega, List.getElem?_cons_succ]
theorem get_live (h : Heap) (a : Nat) : h.get? a = (h.objs[a]?).bind live := by
  unfold Heap.get?
  cases e : h.objs[a]? with
  | none => rfl
  | some o =>
    obtain ⟨c, d, dt, sl⟩ := o
    cases dt <;> rfl
def P0 : Params := { strHash := fun _ => 0, shareClass := fun _ => 0, mergeTok := id, idOf := fun _ => 0, idOfShared := fun _ _ => 0, followText := fun _ => false, idOfImm := fun _ => 0 }
def pObs (K : Params → Frag) (s : Shared) : List (Nat × Option Obj) := pick2 s.heap.objs.toList 0 ((K P0).map (·.1))
def pVal (K : Params → Frag) (w : World) : List (Nat × Option Obj) := (K w.params).map fun p => (p.1, some p.2)
theorem obs_of {K : Params → Frag} {as : List Addr} {e : ∀ P, as = (K P).map (·.1)} {w : World} {s : Shared} (h : pObs K s = pVal K w) : (kHook K as e).obs s = (kHook K as e).val w := by
  show as.map s.heap.get? = (K w.params).map fun p => some p.2
  rw [e w.params, List.map_map]
  refine List.map_congr_left fun p hp => ?_
  have hm : (p.1, some p.2) ∈ pObs K s := by rw [h]; exact List.mem_map_of_mem (f := fun p : Nat × Obj => (p.1, some p.2)) hp
  have := (pick2_sound _ _ _ _ hm).2
  show s.heap.get? p.1 = some p.2
  rw [get_live, ← Array.getElem?_toList]
  exact this.symm
theorem left_hook {p q : Program} {loose : List PySem.Str} {Xt : Shared → Bool} {K : Params → Frag} {as : List Addr} {e : ∀ P, as = (K P).map (·.1)} {N : Nat}
    (h : LeftO p q loose Xt (pObs K) (pVal K) N) : LeftO p q loose Xt (kHook K as e).obs (kHook K as e).val N := fun w => by
  obtain ⟨s, e1, e2⟩ := Option.map_eq_some_iff.mp (h w)
  rw [e1]
  have e3 := (Prod.mk.inj e2)
  show some (_, _) = _
  rw [e3.1, obs_of e3.2]
end Mine
namespace Mine.H
open PySem Calls
abbrev XtV : Shared → Bool := fun s => xlAt QV [] s && recOk (RowW.records (OpenRow.toRowW RWF)) s
/-- what the library's head wants proved, put behind our own statement: only «left» is used -/
theorem PySem.W.holds_open {q : Program} {loose : List PySem.Str} {Xt : Shared → Bool} {XP : (PySem.Str → Option Value) → Heap → Prop} {α : Type} {Yf : Shared → α} {Ya : World → α} {YP : World → Heap → Prop} {N : Nat}
    (left : LeftO RWF.prog QV looseN XtV (pObs hd.heap_1) (pVal hd.heap_1) 36336) (_hY : ∀ w s, Yf s = Ya w → YP w s.heap) (_hYk : ∀ w h h', YP w h → (∀ b o, h.get? b = some o → h'.get? b = some o) → YP w h')
    (_hX : ∀ s, Xt s = true → XP (s.heap.nsMap mainGlobals) s.heap) (_hXk : ∀ mg h h', XP mg h → (∀ b o, h.get? b = some o → h'.get? b = some o) → XP mg h')
    (_h1 : True = True) (_h2 : True = True) (_h3 : True = True) (_hRf : ∀ s, Xt s = true → RecFacts (OpenRow.toRowW RWF).records s.heap) (_h4 : True = True)
    (k1 : hd.1.2 ∧ RWF.wellSaid = true) (_ok : True) (_hb : RWF.prog.bare) (_hw : N = N) (_hc : True) : OpenRow.Holds RWF :=
  hd.2 (left_hook left) k1.1 k1.2
theorem row (k1 : hd.1.2 ∧ RWF.wellSaid = true) : OpenRow.Holds RWF := by
  o_head Hook.none
  all_goals trivial
end Mine.H
namespace Mine
open PySem Calls
section
variable {prog : Program} {w : World} {A : Around} {R : Result → Shared → Prop} {s : Shared} {name : PySem.Str} {params : Arguments} {body : List Stmt} {scope : Scope}
  {pm cd doc : Value} {a : Addr} {o : Obj} {args : List Value} {binds : List (PySem.Str × Value)}
/-- the law's own frame, its cells among the news; nothing is raised out of it -/
theorem codeQ_cells (hroom : A.depth < recursionLimit) (ho : s.heap.get? a = some o) (hdata : o.data = .func (Calls.docDef name params body scope pm cd doc)) (hlim : s.heap.NoLimit) (hcd : s.heap.CodeRec cd name)
    (hbind : bindArgs (Calls.docDef name params body scope pm cd doc) ⟨args, []⟩ = pure binds)
    (hkind : ∀ x ∈ binds, scope.names.lookup x.1 = some .local ∨ (scope.names.lookup x.1 = some .cell ∧ ((cellsFrom (s.heap.objs.size + 1) scope.names []).lookup x.1).isSome = true))
    (hnd : ((cellsFrom 0 scope.names []).map (·.1)).Nodup)
    (h : ∀ h₁ tk cells, Fr s.heap s.heap.objs.size h₁ (bindL (envOfC name scope s.heap.objs.size a cd).kindOf binds fun _ => none) → News s.heap s.heap.objs.size h₁ cells →
      CellsAre (bindC (envOfC name scope s.heap.objs.size a cd).kindOf binds fun _ => none) (cellsFrom (s.heap.objs.size + 1) scope.names []) cells →
      wq (model prog w) (A.deeper (envOfC name scope s.heap.objs.size a cd)) (execs body (envOfC name scope s.heap.objs.size a cd))
        (fun f s' => R (.ok (.ret (match f with | .ret v => v | _ => .none))) s') (fun _ _ => False) { s with heap := h₁, toks := tk })
    (hco : scope.isCoroutine = false := by rfl) (hgen : scope.isGenerator = false := by rfl) (hk : scope.kind = .function := by rfl) :
    codeQ (model prog w) A (.call (.ref a) ⟨args, []⟩) R s := by
  refine codeQ_call_function (fd := Calls.docDef name params body scope pm cd doc) hroom ho hdata hco hgen rfl hcd (wpAny_of_eq hbind ?_)
  refine wpAny_newFunctionEnv_cells hk hkind fun env' he s' x => ?_
  subst he
  refine ⟨hlim.keeps x.toInCall.keep, codeQ_func ?_⟩
  obtain ⟨h₁, tk, rfl, _⟩ := x.done
  obtain ⟨cells, NC, Y⟩ := Cl.news (h₀ := s.heap) (Nat.le_refl _) fun n c hm => ⟨x.cell n c (lookup_of_mem_nodup (cellsFrom_names scope.names 0 (s.heap.objs.size + 1) [] [] rfl ▸ hnd) hm), x.above n c hm⟩
  exact wq_mono (h h₁ tk cells ⟨x.toInCall.ns, x.toInCall.keep, x.toInCall.fresh⟩ NC Y) (fun _ _ q => q) fun _ _ q => q.elim
end
section
variable {M : Model} {A : Around} {E : Value → Shared → Prop} {s : Shared} {env : Env} {Q : Flow → Shared → Prop}
theorem wq_execs_nil (h : Q .next s) : wq M A (execs [] env) Q E s := fun _ _ _ _ _ => h
theorem wq_execs_cons {st : Stmt} {rest : List Stmt}
    (h : wq M A (exec st env) (fun f s' => match f with | .next => wq M A (execs rest env) Q E s' | f => Q f s') E s) : wq M A (execs (st :: rest) env) Q E s := fun Γ p hΓ l k => by
  rw [execs_cons, Sem.wp_bind']
  refine Sem.wp_mono M Γ _ (fun f p' s' h' => ?_) (fun _ _ _ h' => h') _ _ (h Γ p hΓ l k)
  cases f <;> first | exact h' Γ p' hΓ l k | exact h'
theorem wp_execs_append {Γ : Ctx} {rest : List Stmt} {Q : Flow → Pos → Shared → Prop} {E : Value → Pos → Shared → Prop} : ∀ {pre : List Stmt} {p : Pos} {s : Shared},
    Sem.wp M Γ (execs pre env) (fun f p' s' => match f with | .next => Sem.wp M Γ (execs rest env) Q E p' s' | f => Q f p' s') E p s → Sem.wp M Γ (execs (pre ++ rest) env) Q E p s
  | [], p, s, h => h
  | st :: pre, p, s, h => by
    rw [execs_cons, Sem.wp_bind'] at h
    rw [List.cons_append, execs_cons, Sem.wp_bind']
    refine Sem.wp_mono M Γ _ (fun f p' s' h' => ?_) (fun _ _ _ h' => h') _ _ h
    cases f <;> first | exact wp_execs_append h' | exact h'
/-- a pure stretch of statements, walked by the library, then the rest -/
theorem wq_execs_append {pre rest : List Stmt} (h : wpAny M A (execs pre env) (fun f s' => match f with | .next => wq M A (execs rest env) Q E s' | f => Q f s') E s) : wq M A (execs (pre ++ rest) env) Q E s :=
  fun Γ p hΓ l k => by
    refine wp_execs_append (Sem.wp_mono M Γ _ (fun f p' s' h' => ?_) (fun _ _ _ h' => h') _ _ (h Γ p hΓ))
    cases f <;> first | exact h' Γ p' hΓ l k | exact h'
end
end Mine
namespace Mine
open PySem Calls
section
variable {M : Model} {A : Around} {E : Value → Shared → Prop} {s : Shared} {env : Env}
theorem wq_Assign_Subscript {o i : Expr} {pos' : Pos} {value : Expr} {pos : Pos} {Q : Flow → Shared → Prop}
    (h : wpAny M A (eval value env) (fun v s₁ => wpAny M A (eval o env) (fun ov s₂ => wpAny M A (eval i env) (fun iv s₃ =>
      wq M A (setItem ov iv v) (fun _ => Q .next) E s₃) E s₂) E s₁) E s)
    (hs : swapsWith value (some (.Subscript o i pos')) pos.line env = pure false := by rfl) :
    wq M A (exec (.Assign [.Subscript o i pos'] value pos) env) Q E s := fun Γ p hΓ l k => by
  simp only [exec_Assign_Subscript o i pos' value pos hs, assign_Subscript, Sem.wp_bind', Sem.wp_holding, Sem.wp_cmd_standAt, Sem.wp_release, Sem.wp_pure']
  exact Sem.wp_mono M Γ _ (fun v p₁ s₁ h₁ => Sem.wp_mono M Γ _ (fun ov p₂ s₂ h₂ => Sem.wp_mono M Γ _ (fun iv _ s₃ h₃ => h₃ Γ _ hΓ l k)
    (fun _ _ _ h' => h') _ _ (h₂ Γ p₂ hΓ)) (fun _ _ _ h' => h') _ _ (h₁ Γ p₁ hΓ)) (fun _ _ _ h' => h') _ _ (h Γ _ hΓ)
theorem wq_Assign_Name {x : PySem.Str} {pos' : Pos} {value : Expr} {pos : Pos} {Q : Flow → Shared → Prop}
    (h : wq M A (eval value env) (fun v s₁ => wpAny M A (storeName env x v) (fun _ => Q .next) E s₁) E s)
    (hs : swapsWith value (some (.Name x pos')) pos.line env = pure false := by rfl) :
    wq M A (exec (.Assign [.Name x pos'] value pos) env) Q E s := fun Γ p hΓ l k => by
  simp only [exec_Assign_Name env x pos' value pos hs, Sem.wp_bind', Sem.wp_cmd_standAt, Sem.wp_bindName, Sem.wp_pure']
  exact Sem.wp_mono M Γ _ (fun v _ s₁ h₁ => h₁ Γ _ hΓ) (fun _ _ _ h' => h') _ _ (h Γ _ hΓ l k)
theorem wq_Expr {e : Expr} {pos : Pos} {Q : Flow → Shared → Prop} (h : wq M A (eval e env) (fun v s' => match v with | .ref _ => False | _ => Q .next s') E s)
    (hi : interactive env = false := by rfl) (hs : swapsWith e none pos.line env = pure false := by rfl) :
    wq M A (exec (.Expr e pos) env) Q E s := by
  rw [exec_Expr env e pos hi hs]
  refine wq_bind (wq_any (wpAny_standAt ?_))
  refine wq_bind (wq_mono h (fun v s' h' => ?_) fun _ _ x => x)
  have hv : ∀ a, v ≠ .ref a := fun a hva => by subst hva; exact h'
  rw [dropValue_plain hv]
  refine wq_pure ?_
  cases v <;> first | exact h' | exact (hv _ rfl).elim
end
section
variable {prog : Program} {w : World} {A : Around} {E : Value → Shared → Prop} {s : Shared}
theorem setItem_ba {b sl : Addr} {B C : Array UInt8} {lo hi : Int} {tl th tv : Tok} {Q : Unit → Shared → Prop} (hg : A.guards = some []) (h : s.heap.get? b = some (baO B)) (hsl : s.heap.get? sl = some (sliceO (.int lo tl) (.int hi th)))
    (hlo : lo = B.size) (hhi : hi = B.size + C.size) (hz : B.size + C.size ≤ sizeLine)
    (q : ∀ h', (∀ c x, c ≠ b → s.heap.get? c = some x → h'.get? c = some x) → h'.get? b = some (baO (B ++ C)) → Q () { s with heap := h' }) :
    wq (model prog w) A (setItem (.ref b) (.ref sl) (.bytes C tv)) Q E s := by
  unfold setItem
  refine wq_holding (wq_bind (wq_any ?_))
  unfold sequenceKey
  refine wpAny_bind (wpAny_typeOf (ba_type h) ?_)
  dsimp only
  refine wpAny_ite_true (by decide +kernel) (wpAny_pure ?_)
  unfold callSpecial?
  refine wq_bind (wq_bind (wq_any (wpAny_specialOf (ba_type h) F.ba_setitem_slot.lookup ?_)))
  dsimp only
  refine wq_holding (wq_bind (wq_of_eq (F.ba_setitem_slot.bind _) ?_))
  dsimp only
  refine wq_bind (wq_call (set_slice (B := B) (C := C) hg h hsl hlo hhi hz fun h' hk hb => ?_))
  exact wq_pure (wq_pure (q h' hk hb))
end
section
variable {prog : Program} {w : World} {A₀ A : Around} {s : Shared} {base h₀ : Heap} {outer : List Env} {L : Addr} {m : PySem.Str → Option Value} {env : Env} {news : List (Addr × Obj)} {K : Frag}
  {p : Program} {loose : List PySem.Str} {mean : ExcName → Option Value} {mg mb : PySem.Str → Option Value}
  {R : Result → Shared → Prop} {name qual : PySem.Str} {params : Arguments} {body : List Stmt} {scope : Scope} {dV kV doc pm cdv ct oc : Value} {an od : Option Addr} {osl : Array (Option Value)} {f : Addr} {args : Args} {binds : List (PySem.Str × Value)}
/-- the same, with what the callee keeps of the caller's heap -/
theorem codeQ_defK
    (B : Below A₀ base outer h₀) (F : Fr h₀ L s.heap m) (X₀ : K.In h₀) (N : News h₀ L s.heap news) (T : Top p loose mean mg mb h₀) (hA : A.frames = some (env :: outer)) (hf : env.frame = some L) (hke : env.scope.kind = .function)
    (ho : K.lookup f = some ⟨oc, od, .func (fnOf name qual params body scope dV kV doc pm an cdv ct), osl⟩) (hcd : codeIn K cdv qual = true) (hroom : A.depth < recursionLimit)
    (hbind : BindsTo s (fnOf name qual params body scope dV kV doc pm an cdv ct) args binds) (hloc : ∀ y ∈ binds, scope.names.lookup y.1 = some .local)
    (h : ∀ g L' h₁, Fr h₀ L g m → Fr g L' h₁ (fun y => binds.reverse.lookup y) → News g L' h₁ news → Below A base (env :: outer) g → K.In g → Top p loose mean mg mb g → (∀ c o, c ∉ news.map (·.1) → s.heap.get? c = some o → g.get? c = some o) →
      wq (model prog w) (A.deeper (envOf qual scope L' f cdv)) (execs body (envOf qual scope L' f cdv))
        (fun fl s' => LeaveK h₀ L m g R (match fl with | .ret v => v | _ => .none) s')
        (fun e s' => wpAny (model prog w) (A.deeper (envOf qual scope L' f cdv)) (leaving (envOf qual scope L' f cdv) e) (fun _ s'' => R (.error e) s'') (fun e' s'' => R (.error e') s'') s')
        { s with heap := h₁, toks := s.toks + binds.length })
    (hco : scope.isCoroutine = false) (hgen : scope.isGenerator = false) (hk : scope.kind = .function)
    (hcell : ∀ x ∈ scope.names, x.2 ≠ .cell) : codeQ (model prog w) A (.call (.ref f) args) R s := by
  obtain ⟨FG, BG, st, lv⟩ := groundX (R := R) B F N hA hf hke
  refine codeQ_call_def (fd := fnOf name qual params body scope dV kV doc pm an cdv ct) (body := body) (binds := binds) hroom ((X₀.keeps F.keep) _ _ ho) rfl (T.nolimit.keeps F.keep) (codeRec_of (X₀.keeps F.keep) hcd) rfl hbind hcell hloc (fun h₁ hns hk₁ => ?_) hco hgen hk
  exact wq_mono (h _ s.heap.objs.size h₁ FG ⟨hns, fun b o e => hk₁ b o (of_hideAll _ e), Nat.le_of_eq (hideAll_size _ _)⟩
    (fun p hp => ⟨hk₁ _ _ (N p hp).1, Nat.ne_of_lt (Heap.lt_size (N p hp).1), hideAll_none _ (List.mem_map_of_mem hp)⟩) BG (X₀.keeps st) (T.keeps st) fun c o hc e => hideAll_get _ e hc) (fun fl s' hl => lv _ _ hl) fun _ _ y => y
end
end Mine
namespace Mine
open PySem Calls
section
variable {M : Model} {A : Around} {E : Value → Shared → Prop} {s : Shared} {env : Env}
theorem wq_Assign_Attribute {o : Expr} {attr : PySem.Str} {pos' : Pos} {value : Expr} {pos : Pos} {Q : Flow → Shared → Prop}
    (h : wq M A (eval value env) (fun v s₁ => wpAny M A (eval o env) (fun ov s₂ => wpAny M A (setAttr ov attr v) (fun _ => Q .next) E s₂) E s₁) E s)
    (hs : swapsWith value (some (.Attribute o attr pos')) pos.line env = pure false := by rfl) :
    wq M A (exec (.Assign [.Attribute o attr pos'] value pos) env) Q E s := fun Γ p hΓ l k => by
  simp only [plainObj_exec_Assign_Attribute o attr pos' value pos hs, assign_Attribute, Sem.wp_bind', Sem.wp_holding, Sem.wp_cmd_standAt, Sem.wp_release, Sem.wp_pure']
  exact Sem.wp_mono M Γ _ (fun v p₁ s₁ h₁ => Sem.wp_mono M Γ _ (fun ov _ s₂ h₂ => h₂ Γ _ hΓ) (fun _ _ _ h' => h') _ _ (h₁ Γ p₁ hΓ)) (fun _ _ _ h' => h') _ _ (h Γ _ hΓ l k)
theorem wq_IfExp {test body orelse : Expr} {pos : Pos} {Q : Value → Shared → Prop}
    (h : wpAny M A (isTrue test env (eval test env)) (fun b s₁ => if b then wq M A (eval body env) Q E s₁ else wq M A (eval orelse env) Q E s₁) E s) :
    wq M A (eval (.IfExp test body orelse pos) env) Q E s := by
  rw [arm_eval_IfExp]
  refine wq_bind (wq_any (wpAny_mono h (fun b s₁ h₁ => ?_) fun _ _ x => x))
  cases b <;> exact h₁
theorem wq_Call_Name {x : PySem.Str} {p pos : Pos} {args : List Expr} {Q : Value → Shared → Prop}
    (h : wpAny M A (eval (.Name x p) env) (fun f s₁ => wq M A (callWith pos f [] (backTo pos (starEach args env)) []) Q E s₁) E s) :
    wq M A (eval (.Call (.Name x p) args [] pos) env) Q E s := by
  show wq M A (do callWith pos (← eval (.Name x p) env) [] (backTo pos (starEach args env)) (backToKw pos (keywordEach [] env))) Q E s
  exact wq_bindA h
theorem wq_MethodCall {o : Expr} {name : PySem.Str} {apos pos : Pos} {args : List Expr} {pl : Sem Bool} {Q : Value → Shared → Prop}
    (h : wpAny M A (eval o env) (fun ov s₁ => wpAny M A (getMethod ov name pl) (fun fx s₂ => wq M A (callWith pos fx.1 fx.2 (backTo pos (starEach args env)) []) Q E s₂) E s₁) E s)
    (he : eval (.Call (.Attribute o name apos) args [] pos) env = (do
      let ov ← eval o env
      standAt apos.atName
      let (f, first) ← holding [ov] (getMethod ov name pl)
      callWith pos f first (backTo pos (starEach args env)) []) := by rfl) :
    wq M A (eval (.Call (.Attribute o name apos) args [] pos) env) Q E s := by
  rw [he]
  refine wq_bind (wq_any (wpAny_mono h (fun ov s₁ h₁ => ?_) fun _ _ x => x))
  refine wq_bind (wq_any (wpAny_standAt ?_))
  refine wq_bind (wq_holding (wq_any (wpAny_mono h₁ (fun fx s₂ h₂ => ?_) fun _ _ x => x)))
  exact h₂
theorem wq_callWith_type0 {pos : Pos} {T : String} {Q : Value → Shared → Prop} (h : wq M A (call (.type T) []) Q E s) :
    wq M A (callWith pos (.type T) [] (backTo pos (starEach [] env)) []) Q E s := by
  unfold callWith
  refine wq_bind (wq_holding (wq_any (evalArgs_nil3 ?_)))
  refine wq_bind (wq_any (wpAny_standAt ?_))
  refine wq_bind (wq_pure ?_)
  exact wq_bind (wq_mono h (fun r s₂ hr => wq_bind (wq_holding (wq_any (wpAny_point (wq_pure hr))))) fun _ _ x => x)
theorem wq_callWith_of {f : Value} {first : List Value} {pos : Pos} {Q : Value → Shared → Prop} {P : Heap → Prop} {args : List (Bool × Sem Value)} (hplain : (args.any (·.1) || false) = false)
    (hk : ∀ h, P h → ∃ k, (k = Keeper.frame ∨ k = Keeper.machine ∨ k = Keeper.boundFrame) ∧ Looks M h (keeperOf f) k)
    (h : wpAny M A (evalArgs f true args []) (fun a s₁ => P s₁.heap ∧ wq M A (call f (first ++ a.pos) a.kw) Q E s₁) E s) : wq M A (callWith pos f first args []) Q E s := by
  unfold callWith
  refine wq_bind (wq_holding (wq_any (wpAny_mono h (fun a s₁ h₁ => ?_) fun _ _ x => x)))
  refine wq_bind (wq_any (wpAny_standAt ?_))
  obtain ⟨k, hk', L⟩ := hk _ h₁.1
  have hp : (args.any (·.1) || ([] : List (Option PySem.Str × Sem Value)).any (·.1.isNone)) = false := hplain
  simp only [hp]
  refine wq_bind (wq_any (L.here ?_))
  have tail : ∀ {t : Sem Value}, wq M A t Q E s₁ → wq M A (t >>= fun r => holding [r] point >>= fun _ => pure r) Q E s₁ :=
    fun ht => wq_bind (wq_mono ht (fun r s₂ hr => wq_bind (wq_holding (wq_any (wpAny_point (wq_pure hr))))) fun _ _ x => x)
  have marked (mk : Value) : wq M A (callMarked mk f (first ++ a.pos) a.kw) Q E s₁ := by unfold callMarked; exact wq_keep h₁.2
  rcases hk' with rfl | rfl | rfl <;> dsimp only <;> first | exact tail h₁.2 | (split <;> first | exact tail h₁.2 | exact tail (marked _))
variable {K : Frag} {f : Value} {first : List Value} {pos : Pos} {Q : Value → Shared → Prop}
theorem wq_callWith_K {h₀ : Heap} {e : Expr} {rest : List Expr} (_X : K.In h₀) (hk : keepIn K f = true) (h : wpAny M A (spliced (backTo pos (starEach (e :: rest) env))) (fun vs s₁ => K.In s₁.heap ∧ wq M A (call f (first ++ vs)) Q E s₁) E s)
    (he : starEach (e :: rest) env = (false, eval e env) :: starEach rest env := by rfl) (hplain : (backTo pos (starEach rest env)).any (·.1) = false := by rfl) :
    wq M A (callWith pos f first (backTo pos (starEach (e :: rest) env)) []) Q E s := by
  rw [he] at h ⊢
  exact wq_callWith_of (by show ((false || (backTo pos (starEach rest env)).any (·.1)) || false) = false; rw [hplain]; rfl) (keeps_K hk) (evalArgs_plain h)
theorem wq_callWith_K0 (X : K.In s.heap) (hk : keepIn K f = true) (h : wq M A (call f (first ++ [])) Q E s) : wq M A (callWith pos f first (backTo pos (starEach [] env)) []) Q E s :=
  wq_callWith_of rfl (keeps_K hk) (evalArgs_nil3 ⟨X, h⟩)
theorem wq_callWith_M {h₀ : Heap} {L : Addr} {news : List (Addr × Obj)} {q g : Addr} {self : Value} {e : Expr} {rest : List Expr} (_X : K.In h₀) (_N : News h₀ L s.heap news) (_q : (q, methodObj (.ref g) self) ∈ news) (hf : fnIn K g = true) (h : wpAny M A (spliced (backTo pos (starEach (e :: rest) env))) (fun vs s₁ => MethP K q g self s₁.heap ∧ wq M A (call (.ref q) (first ++ vs)) Q E s₁) E s)
    (he : starEach (e :: rest) env = (false, eval e env) :: starEach rest env := by rfl) (hplain : (backTo pos (starEach rest env)).any (·.1) = false := by rfl) :
    wq M A (callWith pos (.ref q) first (backTo pos (starEach (e :: rest) env)) []) Q E s := by
  rw [he] at h ⊢
  exact wq_callWith_of (by show ((false || (backTo pos (starEach rest env)).any (·.1)) || false) = false; rw [hplain]; rfl) (keeps_M hf) (evalArgs_plain h)
end
end Mine
namespace Mine
open PySem Calls
section
variable {w : World} {h : Heap}
theorem io_made (X : (hd.heap_1 w.params).In h) : Looks (model PySem.Challenge.rw_fq5014_01.row.prog w) h (Bind.madeBy (.ref 1172)) none := Looks.of_peek X (by kernel_rfl)
theorem io_static (X : (hd.heap_1 w.params).In h) : Looks (model PySem.Challenge.rw_fq5014_01.row.prog w) h (Bind.staticBase (.ref 1172)) (.type "object") := Looks.of_peek X (by kernel_rfl)
theorem io_self (X : (hd.heap_1 w.params).In h) : Looks (model PySem.Challenge.rw_fq5014_01.row.prog w) h (isSubtype (.ref 1172) (.ref 1172)) true := Looks.of_peek X (by kernel_rfl)
theorem io_top (X : (hd.heap_1 w.params).In h) : Looks (model PySem.Challenge.rw_fq5014_01.row.prog w) h (isSubtype (.ref 1172) (.type "object")) true := Looks.of_peek X (by kernel_rfl)
theorem io_call (X : (hd.heap_1 w.params).In h) : Looks (model PySem.Challenge.rw_fq5014_01.row.prog w) h (specialOf (.ref 1172) "__call__") (some (.builtin "type.__call__")) := Looks.of_peek X (by kernel_rfl)
theorem io_typ (X : (hd.heap_1 w.params).In h) : Looks (model PySem.Challenge.rw_fq5014_01.row.prog w) h (isInstance (.ref 1172) (.type "type")) true := Looks.of_peek X (by kernel_rfl)
theorem io_init (X : (hd.heap_1 w.params).In h) : Looks (model PySem.Challenge.rw_fq5014_01.row.prog w) h (typeLookup (.ref 1172) "__init__") (some (.ref 959)) := Looks.of_peek X (by kernel_rfl)
theorem io_here (X : (hd.heap_1 w.params).In h) : Looks (model PySem.Challenge.rw_fq5014_01.row.prog w) h (Bind.madeHere "object.__new__" (.ref 1172)) () := Looks.of_peek X (by kernel_rfl)
theorem io_isType (X : (hd.heap_1 w.params).In h) : Looks (model PySem.Challenge.rw_fq5014_01.row.prog w) h (isType (.ref 1172)) true := Looks.of_peek X (by kernel_rfl)
theorem io_check (X : (hd.heap_1 w.params).In h) : Looks (model PySem.Challenge.rw_fq5014_01.row.prog w) h (checkBuiltinCall "object.__new__" ⟨[.ref 1172], []⟩) () := Looks.of_peek X (by kernel_rfl)
def plainCls (K : Frag) (C : Addr) : Bool := match K.lookup C with
  | some ⟨_, _, .cls cd, _⟩ => !cd.abstract && !cd.hasDel && !cd.mro.isEmpty
  | _ => false
theorem plainCls_at {K : Frag} {C : Addr} (X : K.In h) (e : plainCls K C = true) : ∃ oc od cd sl, h.get? C = some ⟨oc, od, .cls cd, sl⟩ ∧ cd.abstract = false ∧ cd.hasDel = false ∧ cd.mro.isEmpty = false := by
  unfold plainCls at e
  split at e
  · rename_i oc od cd sl ho
    simp only [Bool.and_eq_true, Bool.not_eq_true'] at e
    exact ⟨oc, od, cd, sl, X _ _ ho, e.1.1, e.1.2, e.2⟩
  · cases e
theorem io_cls (X : (hd.heap_1 w.params).In h) : ∃ oc od cd sl, h.get? 1172 = some ⟨oc, od, .cls cd, sl⟩ ∧ cd.abstract = false ∧ cd.hasDel = false ∧ cd.mro.isEmpty = false := plainCls_at X (by kernel_rfl)
variable {A : Around} {E : Value → Shared → Prop} {g : Array GenState} {d : Drawn} {t : Nat} {os : OsState} {R : Result → Shared → Prop}
theorem io_objnew (X : (hd.heap_1 w.params).In h)
    (hq : R (.ok (.ret (.ref (h.objs.size + 1)))) ⟨(h.push emptyDict).push (instObj 1172 h.objs.size), g, d, t, os⟩) :
    codeAny (model PySem.Challenge.rw_fq5014_01.row.prog w) A (.call (.builtin "object.__new__") ⟨[.ref 1172], []⟩) R ⟨h, g, d, t, os⟩ := by
  have F := PySem.F.objNew
  refine codeAny_call_builtin_code (Code.quiet_builtin _ F.quiet) ((io_check X).at ?_)
  have here := io_here X
  have ty := io_isType X
  obtain ⟨oc, od, cd, sl, hC, e1, e2, e4⟩ := io_cls X
  refine codeAny_builtin F.entry ?_
  unfold Builtin.«object.__new__»
  refine wpAny_bind (ty.at ?_)
  refine wpAny_ite_false rfl ?_
  dsimp only
  refine wpAny_bind (here.at ?_)
  refine wpAny_ite_false rfl ?_
  refine wpAny_bind (wpAny_bind (wpAny_load hC ?_))
  refine wpAny_pure ?_
  refine bm_if_false e1 ?_
  refine wpAny_ite_true rfl ?_
  show wpAny _ _ ((alloc emptyDict >>= fun x => pure (some x)) >>= _) _ _ _
  refine wpAny_bind (wpAny_bind (wpAny_alloc (wpAny_pure (wpAny_bind ?_))))
  show wpAny _ _ (newObjAsIs _ _ _) _ _ _
  unfold newObjAsIs classHasDel
  refine wpAny_bind (wpAny_alloc (wpAny_bind (wpAny_bind (wpAny_load (Heap.get?_push_of_some _ (Heap.get?_push_of_some _ hC)) (wpAny_pure ?_)))))
  rw [e2]
  refine wpAny_pure (wpAny_pure ?_)
  show R _ _
  rw [Heap.size_push]
  exact hq
end
section
variable {w : World} {A : Around} {E : Value → Shared → Prop} {s : Shared} {h₀ : Heap} {L : Addr} {m : PySem.Str → Option Value} {news : List (Addr × Obj)}
theorem io_objnew_K {Q : Value → Shared → Prop} (F : Fr h₀ L s.heap m) (N : News h₀ L s.heap news) (X₀ : (hd.heap_1 w.params).In h₀)
    (h : ∀ x dx h', Fr h₀ L h' m → News h₀ L h' ((x, instObj 1172 dx) :: (dx, emptyDict) :: news) → (∀ p ∈ news, p.1 < dx) → dx < x → Q (.ref x) { s with heap := h' }) :
    wpAny (model PySem.Challenge.rw_fq5014_01.row.prog w) A (PySem.call (.builtin "object.__new__") [.ref 1172]) Q E s := by
  have X := X₀.keeps F.keep
  obtain ⟨hh, g, d, t, os⟩ := s
  refine wpAny_call (io_objnew X (h _ hh.objs.size _ ((F.push _).push _) ?_ (fun p hp => Heap.lt_size (N p hp).1) (Nat.lt_succ_self _)))
  have := (N.push F emptyDict).push (F.push _) (instObj 1172 hh.objs.size)
  rwa [Heap.size_push] at this
end
end Mine
namespace Mine
open PySem Calls
local macro_rules | `(tactic| k_room) => `(tactic| ktr_room)
local macro_rules | `(tactic| walk_at "call type:type") => `(tactic| (k_here; (with_reducible show wpAny _ _ (call (Value.type "type") [Value.bytes _ _]) _ _ _); (refine type_bytes ?_)))
local macro_rules | `(tactic| walk_at "call builtin:len") => `(tactic| (k_here; (with_reducible show wpAny _ _ (call (Value.builtin "len") [Value.ref _]) _ _ _); k_dflt (refine' len_ba_K ?k1 ?k2 ?k3 ?_; (case k1 => k_asm); (case k2 => k_mem); (case k3 => first | exact Nat.zero_le _ | omega | (rw [sizeLine_eq]; omega) | (rw [sizeLine_eq]; simp only [Array.size_append, List.size_toArray, List.length_cons, List.length_nil]; omega)); k_whole)))
local macro_rules | `(tactic| walk_at "call type:bytes") => `(tactic| (k_here; (with_reducible show wpAny _ _ (call (Value.type "bytes") [Value.ref _]) _ _ _); k_dflt (refine' bytes_ba_K ?k1 ?k2 ?k3 ?_; (case k1 => k_asm); (case k2 => k_mem); (case k3 => first | exact Nat.zero_le _ | omega | (rw [sizeLine_eq]; omega) | (rw [sizeLine_eq]; simp only [Array.size_append, List.size_toArray, List.length_cons, List.length_nil]; omega)); k_whole); intro _ _))
local macro_rules | `(tactic| walk_at "enterQ") => `(tactic| (k_dflt (refine' codeQ_defK ?k1 ?k2 ?k3 ?k4 ?k5 ?kA ?kF ?kK ?k6 ?k7 ?k8 ?k9 ?kB ?_ ?c2 ?c3 ?c4 ?c5; (case kA => exact rfl); (case kF => exact rfl); (case kK => assumption); (case k1 => k_asm); (case k2 => k_asm); (case k3 => k_asm); (case k4 => k_asm); (case k5 => k_asm); (case k6 => k_is); (case k7 => k_is); (case k8 => ktr_room); (case k9 => first | exact BindsTo.of_eq rfl | (refine' kp_binds ?kx ?ke; (case kx => k_in); (case ke => exact fun _ => rfl))); (case c5 => decide); (case kB => exact locs rfl); (case c2 => exact rfl); (case c3 => exact rfl); (case c4 => exact rfl); k_whole; intro g' L' h' FG' F' N' B' X' T' KG'; (try dsimp only); (try k_fold))))
local macro_rules | `(tactic| walk_at "call builtin:object.__new__") => `(tactic| (k_here; (with_reducible show wpAny _ _ (call (Value.builtin "object.__new__") [Value.ref 1172]) _ _ _); k_dflt (refine' io_objnew_K ?k1 ?k2 ?k3 ?_; (case k1 => k_asm); (case k2 => k_asm); (case k3 => k_asm); k_whole); intro x' d' h' F' N' l1 l2; (try k_lt l1); (try k_lt2 l2); (try k_sweep)))
local macro_rules | `(tactic| k_all) => `(tactic| assumption)
local macro_rules | `(tactic| walk_at "call builtin:_struct.pack") => `(tactic| (k_here; k_dflt (first
  | (refine' pack1 ?k1 ?k2 ?k3; (case k1 => exact rfl); k_whole)
  | (refine' pack4 ?k1 ?k2 ?k3; (case k1 => exact rfl); k_whole)
  | (refine' pack5 ?k1 ?k2 ?k3; (case k1 => exact rfl); k_whole))))
abbrev PW : Program := PySem.Challenge.rw_fq5014_01.row.prog
abbrev bufS : PySem.Str := PySem.Str.ofString "_BytesIO__buf"
abbrev posS : PySem.Str := PySem.Str.ofString "_BytesIO__pos"
abbrev ioD (P : Params) (b : Addr) (pos : Int) (t1 t2 t3 : Tok) : Obj := dictOf [⟨PyData.keyHash P bufS, .str bufS t1, .ref b⟩, ⟨PyData.keyHash P posS, .str posS t2, .int pos t3⟩] 2
section
variable {w : World} {p : Program} {loose : List PySem.Str} {mean : ExcName → Option Value} {mg mb : PySem.Str → Option Value} {dp un : Nat} {cn : PySem.Str} {cs : Scope} {L a : Addr} {ccd : Value} {cl : List (PySem.Str × Addr)} {outer : List Env}
  {A₀ : Around} {base h₀ : Heap} {m : PySem.Str → Option Value} {s : Shared} {Q E : Value → Shared → Prop}
theorem fr_but {h h' : Heap} {b : Addr} (F : Fr h₀ L h m) (hb : h₀.get? b = none) (hL : b ≠ L) (hk : ∀ c x, c ≠ b → h.get? c = some x → h'.get? c = some x) : Fr h₀ L h' m :=
  ⟨F.ns.at' fun o e => hk _ _ (Ne.symm hL) e, fun c o e => hk _ _ (by rintro rfl; rw [hb] at e; cases e) (F.keep c o e), F.above⟩
theorem news_but {h h' : Heap} {b : Addr} {o o' : Obj} {pre post : List (Addr × Obj)} (N : News h₀ L h (pre ++ (b, o) :: post)) (hne : ∀ q ∈ pre ++ post, q.1 ≠ b) (hk : ∀ c x, c ≠ b → h.get? c = some x → h'.get? c = some x) (hb : h'.get? b = some o') :
    News h₀ L h' (pre ++ (b, o') :: post) := by
  intro q hq
  rcases List.mem_append.mp hq with hq | hq
  · have := N q (List.mem_append_left _ hq)
    exact ⟨hk _ _ (hne q (List.mem_append_left _ hq)) this.1, this.2⟩
  · rcases List.mem_cons.mp hq with rfl | hq
    · exact ⟨hb, (N (b, o) (List.mem_append_right _ (.head _))).2⟩
    · have := N q (List.mem_append_right _ (.tail _ hq))
      exact ⟨hk _ _ (hne q (List.mem_append_right _ hq)) this.1, this.2⟩
theorem kept_by {g h : Heap} {c : Addr} {o : Obj} (e : g.get? c = some o) (F : Fr g L h m) : h.get? c = some o := F.keep _ _ e
theorem write_q {x d b : Addr} {B bs : Array UInt8} {t1 t2 t3 tb : Tok}
    (Bl : Below A₀ base outer h₀) (F : Fr h₀ L s.heap m) (X : (hd.heap_1 w.params).In h₀)
    (N : News h₀ L s.heap [(d, ioD w.params b B.size t1 t2 t3), (b, baO B), (x, instObj 1172 d)]) (T : Top p loose mean mg mb h₀) (hk : cs.kind = .function) (hdp : dp + 5 < recursionLimit) (hun : un + 40 < cLine)
    (hdb : @Ne Nat d b) (hdx : @Ne Nat d x) (hbx : @Ne Nat b x) (h0 : 0 < bs.size) (hz : B.size + bs.size ≤ 16777216)
    (hQ : ∀ h' tk' t1' t2' t3' r, Fr h₀ L h' m → News h₀ L h' [(d, ioD w.params b ((B ++ bs).size) t1' t2' t3'), (b, baO (B ++ bs)), (x, instObj 1172 d)] → (∀ c o, c ≠ d → c ≠ b → c ≠ x → s.heap.get? c = some o → h'.get? c = some o) → Q (.int bs.size r) { s with heap := h', toks := tk' }) :
    wq (model PySem.Challenge.rw_fq5014_01.row.prog w) (ktrTop dp un (some []) cn cs L a ccd cl outer) (PySem.call (.ref 1155) [.ref x, .bytes bs tb]) Q E s := by
  revert X; k_fill; intro X
  w_on
  refine wq_call ?_
  walk_at "enterQ"
  refine wq_execs_append (pre := [_, _, _, _, _, _, _]) ?_
  k_steps
  · exfalso; omega
  dsimp only
  refine wq_execs_cons (wq_Assign_Subscript ?_)
  k_steps
  rename Fr _ _ _ _ => F9
  rename News _ _ _ _ => N9
  refine setItem_ba (B := B) rfl (Heap.get?_push_of_some _ (N9 _ (.tail _ (.head _))).1) (Heap.get?_push_size _ rfl) rfl rfl (by rw [sizeLine_eq]; omega) fun h2 hk2 hb2 => ?_
  dsimp only
  have F10 := fr_but (F9.push _) (N9 _ (.tail _ (.head _))).2.2 (N9 _ (.tail _ (.head _))).2.1 hk2
  have N10 := news_but (pre := [_]) (post := [_]) N9 (by simp only [List.cons_append, List.nil_append, List.forall_mem_cons]; exact ⟨hdb, Ne.symm hbx, fun _ h => nomatch h⟩) (fun c x hc e => hk2 c x hc (Heap.get?_push_of_some _ e)) hb2
  simp only [List.cons_append, List.nil_append] at N10
  clear F9 N9
  refine wq_any ?_
  k_steps
  k_steps
  rename News h₀ _ _ _ => N11
  rename Fr h₀ _ _ _ => F11
  rename (∀ c o, _ → s.heap.get? c = some o → _) => K12
  simp only [← Int.natCast_add, ← Array.size_append] at N11
  refine hQ _ _ _ _ _ _ F11 N11 fun c o h1 h2 h3 e => ?_
  refine kept_by (K12 c o ?_ e) (by assumption)
  simp only [List.map_cons, List.map_nil, List.mem_cons, List.not_mem_nil, or_false, not_or]
  exact ⟨h1, h2, h3⟩
end
end Mine
namespace Mine
open PySem Calls
local macro_rules | `(tactic| k_room) => `(tactic| ktr_room)
local macro_rules | `(tactic| walk_at "call type:type") => `(tactic| (k_here; (with_reducible show wpAny _ _ (call (Value.type "type") [Value.bytes _ _]) _ _ _); (refine type_bytes ?_)))
local macro_rules | `(tactic| walk_at "call builtin:len") => `(tactic| (k_here; (with_reducible show wpAny _ _ (call (Value.builtin "len") [Value.ref _]) _ _ _); k_dflt (refine' len_ba_K ?k1 ?k2 ?k3 ?_; (case k1 => k_asm); (case k2 => k_mem); (case k3 => first | exact Nat.zero_le _ | omega | (rw [sizeLine_eq]; omega) | (rw [sizeLine_eq]; simp only [Array.size_append, List.size_toArray, List.length_cons, List.length_nil]; omega)); k_whole)))
local macro_rules | `(tactic| walk_at "call type:bytes") => `(tactic| (k_here; (with_reducible show wpAny _ _ (call (Value.type "bytes") [Value.ref _]) _ _ _); k_dflt (refine' bytes_ba_K ?k1 ?k2 ?k3 ?_; (case k1 => k_asm); (case k2 => k_mem); (case k3 => first | exact Nat.zero_le _ | omega | (rw [sizeLine_eq]; omega) | (rw [sizeLine_eq]; simp only [Array.size_append, List.size_toArray, List.length_cons, List.length_nil]; omega)); k_whole); intro _ _))
local macro_rules | `(tactic| walk_at "enterQ") => `(tactic| (k_dflt (refine' codeQ_defK ?k1 ?k2 ?k3 ?k4 ?k5 ?kA ?kF ?kK ?k6 ?k7 ?k8 ?k9 ?kB ?_ ?c2 ?c3 ?c4 ?c5; (case kA => exact rfl); (case kF => exact rfl); (case kK => assumption); (case k1 => k_asm); (case k2 => k_asm); (case k3 => k_asm); (case k4 => k_asm); (case k5 => k_asm); (case k6 => k_is); (case k7 => k_is); (case k8 => ktr_room); (case k9 => first | exact BindsTo.of_eq rfl | (refine' kp_binds ?kx ?ke; (case kx => k_in); (case ke => exact fun _ => rfl))); (case c5 => decide); (case kB => exact locs rfl); (case c2 => exact rfl); (case c3 => exact rfl); (case c4 => exact rfl); k_whole; intro g' L' h' FG' F' N' B' X' T' KG'; (try dsimp only); (try k_fold))))
local macro_rules | `(tactic| walk_at "call builtin:object.__new__") => `(tactic| (k_here; (with_reducible show wpAny _ _ (call (Value.builtin "object.__new__") [Value.ref 1172]) _ _ _); k_dflt (refine' io_objnew_K ?k1 ?k2 ?k3 ?_; (case k1 => k_asm); (case k2 => k_asm); (case k3 => k_asm); k_whole); intro x' d' h' F' N' l1 l2; (try k_lt l1); (try k_lt2 l2); (try k_sweep)))
local macro_rules | `(tactic| k_all) => `(tactic| assumption)
local macro_rules | `(tactic| walk_at "call builtin:_struct.pack") => `(tactic| (k_here; k_dflt (first
  | (refine' pack1 ?k1 ?k2 ?k3; (case k1 => exact rfl); k_whole)
  | (refine' pack4 ?k1 ?k2 ?k3; (case k1 => exact rfl); k_whole)
  | (refine' pack5 ?k1 ?k2 ?k3; (case k1 => exact rfl); k_whole))))
section
variable {w : World} {p : Program} {loose : List PySem.Str} {mean : ExcName → Option Value} {mg mb : PySem.Str → Option Value} {dp un : Nat} {cn : PySem.Str} {cs : Scope} {L a : Addr} {ccd : Value} {cl : List (PySem.Str × Addr)} {outer : List Env}
  {A₀ : Around} {base h₀ : Heap} {m : PySem.Str → Option Value} {s : Shared} {Q E : Value → Shared → Prop} {news : List (Addr × Obj)}
theorem lt_of_all {d : Addr} : ∀ {l : List (Addr × Obj)}, AllLt d l → ∀ p ∈ l, p.1 < d
  | [], _, _, h => nomatch h
  | _ :: _, h, _, hp => (List.mem_cons.mp hp).elim (fun e => e ▸ h.1) (lt_of_all h.2 _)
theorem new_q 
    (Bl : Below A₀ base outer h₀) (F : Fr h₀ L s.heap m) (X : (hd.heap_1 w.params).In h₀)
    (N : News h₀ L s.heap news) (T : Top p loose mean mg mb h₀) (hk : cs.kind = .function) (hdp : dp + 5 < recursionLimit) (hun : un + 40 < cLine)
    (hQ : ∀ h' tk' d x, Fr h₀ L h' m → News h₀ L h' ((x, instObj 1172 d) :: (d, emptyDict) :: news) → (∀ p ∈ news, p.1 < d) → @LT.lt Nat _ d x → Q (.ref x) { s with heap := h', toks := tk' }) :
    wpAny (model PySem.Challenge.rw_fq5014_01.row.prog w) (ktrTop dp un (some []) cn cs L a ccd cl outer) (PySem.call (.ref 912) [.ref 1172]) Q E s := by
  revert X; k_fill; intro X
  w_on
  refine wpAny_call ?_
  k_dflt (refine' kp_both ?k1 ?k2 ?k3 ?k4 ?k5 ?kA ?kF ?kK ?k6 ?k7 ?k8 ?kV ?kX ?kQ ?kM ?kN ?kD ?kR ?kP ?kS ?kT ?kB ?_ ?c2 ?c3 ?c4 ?c5; (case kA => exact rfl); (case kF => exact rfl); (case kK => assumption); (case k1 => k_asm); (case k2 => k_asm); (case k3 => k_asm); (case k4 => k_asm); (case k5 => k_asm); (case k6 => k_is); (case k7 => k_is); (case k8 => ktr_room); (case kV => kp_lit); (case kX => kp_lit); (case kQ => exact rfl); (case kM => exact rfl); (case kN => exact rfl); (case kD => kp_flats); (case kR => exact rfl); (case kP => exact rfl); (case kS => exact fun _ => rfl); (case kT => exact fun _ _ => rfl); (case kB => exact fun _ _ => locs rfl); (case c5 => decide); (case c2 => exact rfl); (case c3 => exact rfl); (case c4 => exact rfl); k_whole; intro C' D' o' g' L' h' tk' l1 l2 lo' hs' fs' FG' F' N' B' X' T'; (try k_lt l1); (try k_lt2 l2); (try dsimp only); (try k_fold))
  k_steps
  rename News h₀ _ _ _ => N9
  rename _ < _ ∧ _ < _ ∧ _ => l9
  refine hQ _ _ _ _ (by assumption) (fun q hq => N9 q ?_) (lt_of_all l9.2.2) (by assumption)
  rcases List.mem_cons.mp hq with rfl | hq
  · exact .head _
  · rcases List.mem_cons.mp hq with rfl | hq
    · exact .tail _ (.head _)
    · exact .tail _ (.tail _ (.tail _ (.tail _ hq)))
end
end Mine
namespace Mine
open PySem Calls
local macro_rules | `(tactic| k_room) => `(tactic| ktr_room)
local macro_rules | `(tactic| walk_at "call type:type") => `(tactic| (k_here; (with_reducible show wpAny _ _ (call (Value.type "type") [Value.bytes _ _]) _ _ _); (refine type_bytes ?_)))
local macro_rules | `(tactic| walk_at "call builtin:len") => `(tactic| (k_here; (with_reducible show wpAny _ _ (call (Value.builtin "len") [Value.ref _]) _ _ _); k_dflt (refine' len_ba_K ?k1 ?k2 ?k3 ?_; (case k1 => k_asm); (case k2 => k_mem); (case k3 => first | exact Nat.zero_le _ | omega | (rw [sizeLine_eq]; omega) | (rw [sizeLine_eq]; simp only [Array.size_append, List.size_toArray, List.length_cons, List.length_nil]; omega)); k_whole)))
local macro_rules | `(tactic| walk_at "call type:bytes") => `(tactic| (k_here; (with_reducible show wpAny _ _ (call (Value.type "bytes") [Value.ref _]) _ _ _); k_dflt (refine' bytes_ba_K ?k1 ?k2 ?k3 ?_; (case k1 => k_asm); (case k2 => k_mem); (case k3 => first | exact Nat.zero_le _ | omega | (rw [sizeLine_eq]; omega) | (rw [sizeLine_eq]; simp only [Array.size_append, List.size_toArray, List.length_cons, List.length_nil]; omega)); k_whole); intro _ _))
local macro_rules | `(tactic| walk_at "enterQ") => `(tactic| (k_dflt (refine' codeQ_defK ?k1 ?k2 ?k3 ?k4 ?k5 ?kA ?kF ?kK ?k6 ?k7 ?k8 ?k9 ?kB ?_ ?c2 ?c3 ?c4 ?c5; (case kA => exact rfl); (case kF => exact rfl); (case kK => assumption); (case k1 => k_asm); (case k2 => k_asm); (case k3 => k_asm); (case k4 => k_asm); (case k5 => k_asm); (case k6 => k_is); (case k7 => k_is); (case k8 => ktr_room); (case k9 => first | exact BindsTo.of_eq rfl | (refine' kp_binds ?kx ?ke; (case kx => k_in); (case ke => exact fun _ => rfl))); (case c5 => decide); (case kB => exact locs rfl); (case c2 => exact rfl); (case c3 => exact rfl); (case c4 => exact rfl); k_whole; intro g' L' h' FG' F' N' B' X' T' KG'; (try dsimp only); (try k_fold))))
local macro_rules | `(tactic| walk_at "call builtin:object.__new__") => `(tactic| (k_here; (with_reducible show wpAny _ _ (call (Value.builtin "object.__new__") [Value.ref 1172]) _ _ _); k_dflt (refine' io_objnew_K ?k1 ?k2 ?k3 ?_; (case k1 => k_asm); (case k2 => k_asm); (case k3 => k_asm); k_whole); intro x' d' h' F' N' l1 l2; (try k_lt l1); (try k_lt2 l2); (try k_sweep)))
local macro_rules | `(tactic| k_all) => `(tactic| assumption)
local macro_rules | `(tactic| walk_at "call builtin:_struct.pack") => `(tactic| (k_here; k_dflt (first
  | (refine' pack1 ?k1 ?k2 ?k3; (case k1 => exact rfl); k_whole)
  | (refine' pack4 ?k1 ?k2 ?k3; (case k1 => exact rfl); k_whole)
  | (refine' pack5 ?k1 ?k2 ?k3; (case k1 => exact rfl); k_whole))))
section
variable {w : World} {p : Program} {loose : List PySem.Str} {mean : ExcName → Option Value} {mg mb : PySem.Str → Option Value} {dp un : Nat} {cn : PySem.Str} {cs : Scope} {L a : Addr} {ccd : Value} {cl : List (PySem.Str × Addr)} {outer : List Env}
  {A₀ : Around} {base h₀ : Heap} {m : PySem.Str → Option Value} {s : Shared} {Q E : Value → Shared → Prop} {news : List (Addr × Obj)}
theorem init_q {x d : Addr}
    (Bl : Below A₀ base outer h₀) (F : Fr h₀ L s.heap m) (X : (hd.heap_1 w.params).In h₀)
    (N : News h₀ L s.heap ((x, instObj 1172 d) :: (d, emptyDict) :: news)) (T : Top p loose mean mg mb h₀) (hk : cs.kind = .function) (hdp : dp + 5 < recursionLimit) (hun : un + 40 < cLine)
    (hlt : ∀ q ∈ news, q.1 < d) (hdx : @LT.lt Nat _ d x)
    (hQ : ∀ h' tk' b t1 t2 t3, Fr h₀ L h' m → News h₀ L h' ((b, baO #[]) :: (x, instObj 1172 d) :: (d, ioD w.params b 0 t1 t2 t3) :: news) → @LT.lt Nat _ x b → Q .none { s with heap := h', toks := tk' }) :
    wq (model PySem.Challenge.rw_fq5014_01.row.prog w) (ktrTop dp un (some []) cn cs L a ccd cl outer) (PySem.call (.ref 959) [.ref x]) Q E s := by
  have hne : ∀ q ∈ news, q.1 ≠ d := fun q hq => Nat.ne_of_lt (hlt q hq)
  revert X; k_fill; intro X
  w_on
  refine wq_call ?_
  walk_at "enterQ"
  refine wq_execs_append (pre := [_]) ?_
  k_steps
  refine wq_execs_cons (wq_Assign_Attribute (wq_IfExp ?_))
  k_steps
  refine wq_Call_Name ?_
  k_steps
  refine wq_callWith_type0 (call_ba0 rfl fun h2 hk2 hb2 hs2 => ?_)
  rename Fr _ _ _ _ => F9
  rename News _ _ _ _ => N9
  have F10 := F9.keeps hk2
  have N10 := news_pushed F9 N9 hk2 hb2 rfl
  have l10 := fun q hq => Heap.lt_size (N9 q hq).1
  k_lt l10
  clear F9 N9
  k_steps
  dsimp only
  refine wq_any ?_
  k_steps
  rename News h₀ _ _ _ => N11
  exact hQ _ _ _ _ _ _ (by assumption) N11 l10.1
end
end Mine
namespace Mine
open PySem Calls
local macro_rules | `(tactic| k_room) => `(tactic| ktr_room)
local macro_rules | `(tactic| walk_at "call type:type") => `(tactic| (k_here; (with_reducible show wpAny _ _ (call (Value.type "type") [Value.bytes _ _]) _ _ _); (refine type_bytes ?_)))
local macro_rules | `(tactic| walk_at "call builtin:len") => `(tactic| (k_here; (with_reducible show wpAny _ _ (call (Value.builtin "len") [Value.ref _]) _ _ _); k_dflt (refine' len_ba_K ?k1 ?k2 ?k3 ?_; (case k1 => k_asm); (case k2 => k_mem); (case k3 => first | exact Nat.zero_le _ | omega | (rw [sizeLine_eq]; omega) | (rw [sizeLine_eq]; simp only [Array.size_append, List.size_toArray, List.length_cons, List.length_nil]; omega)); k_whole)))
local macro_rules | `(tactic| walk_at "call type:bytes") => `(tactic| (k_here; (with_reducible show wpAny _ _ (call (Value.type "bytes") [Value.ref _]) _ _ _); k_dflt (refine' bytes_ba_K ?k1 ?k2 ?k3 ?_; (case k1 => k_asm); (case k2 => k_mem); (case k3 => first | exact Nat.zero_le _ | omega | (rw [sizeLine_eq]; omega) | (rw [sizeLine_eq]; simp only [Array.size_append, List.size_toArray, List.length_cons, List.length_nil]; omega)); k_whole); intro _ _))
local macro_rules | `(tactic| walk_at "enterQ") => `(tactic| (k_dflt (refine' codeQ_defK ?k1 ?k2 ?k3 ?k4 ?k5 ?kA ?kF ?kK ?k6 ?k7 ?k8 ?k9 ?kB ?_ ?c2 ?c3 ?c4 ?c5; (case kA => exact rfl); (case kF => exact rfl); (case kK => assumption); (case k1 => k_asm); (case k2 => k_asm); (case k3 => k_asm); (case k4 => k_asm); (case k5 => k_asm); (case k6 => k_is); (case k7 => k_is); (case k8 => ktr_room); (case k9 => first | exact BindsTo.of_eq rfl | (refine' kp_binds ?kx ?ke; (case kx => k_in); (case ke => exact fun _ => rfl))); (case c5 => decide); (case kB => exact locs rfl); (case c2 => exact rfl); (case c3 => exact rfl); (case c4 => exact rfl); k_whole; intro g' L' h' FG' F' N' B' X' T' KG'; (try dsimp only); (try k_fold))))
local macro_rules | `(tactic| walk_at "call builtin:object.__new__") => `(tactic| (k_here; (with_reducible show wpAny _ _ (call (Value.builtin "object.__new__") [Value.ref 1172]) _ _ _); k_dflt (refine' io_objnew_K ?k1 ?k2 ?k3 ?_; (case k1 => k_asm); (case k2 => k_asm); (case k3 => k_asm); k_whole); intro x' d' h' F' N' l1 l2; (try k_lt l1); (try k_lt2 l2); (try k_sweep)))
local macro_rules | `(tactic| k_all) => `(tactic| assumption)
local macro_rules | `(tactic| walk_at "call builtin:_struct.pack") => `(tactic| (k_here; k_dflt (first
  | (refine' pack1 ?k1 ?k2 ?k3; (case k1 => exact rfl); k_whole)
  | (refine' pack4 ?k1 ?k2 ?k3; (case k1 => exact rfl); k_whole)
  | (refine' pack5 ?k1 ?k2 ?k3; (case k1 => exact rfl); k_whole))))
section
variable {w : World} {p : Program} {loose : List PySem.Str} {mean : ExcName → Option Value} {mg mb : PySem.Str → Option Value} {dp un : Nat} {cn : PySem.Str} {cs : Scope} {L a : Addr} {ccd : Value} {cl : List (PySem.Str × Addr)} {outer : List Env}
  {A₀ : Around} {base h₀ : Heap} {m : PySem.Str → Option Value} {s : Shared} {Q E : Value → Shared → Prop} {news : List (Addr × Obj)}
theorem under_make : (ktrTop dp un (some []) cn cs L a ccd cl outer).under (.builtin "type.__call__" ⟨[.ref 1172], []⟩) = ktrTop (dp + 1) (un + 1) (some []) cn cs L a ccd cl outer := by
  first | rfl | kernel_rfl
theorem io_mro {h : Heap} (X : (hd.heap_1 w.params).In h) : Looks (model PySem.Challenge.rw_fq5014_01.row.prog w) h (mroOf (.ref 1172)) [.ref 1172, .ref 930, .ref 915, .type "object"] := Looks.of_peek X (by kernel_rfl)
theorem io_bind {h : Heap} (X : (hd.heap_1 w.params).In h) (v : Value) : Looks (model PySem.Challenge.rw_fq5014_01.row.prog w) h (bindSpecial (.ref 959) v) (.ref 959, [v]) := Looks.of_peek X (by kernel_rfl)
theorem make_q
    (Bl : Below A₀ base outer h₀) (F : Fr h₀ L s.heap m) (X : (hd.heap_1 w.params).In h₀)
    (N : News h₀ L s.heap news) (T : Top p loose mean mg mb h₀) (hk : cs.kind = .function) (hdp : dp + 8 < recursionLimit) (hun : un + 60 < cLine)
    (hQ : ∀ h' tk' x d b t1 t2 t3, Fr h₀ L h' m → News h₀ L h' ((b, baO #[]) :: (x, instObj 1172 d) :: (d, ioD w.params b 0 t1 t2 t3) :: news) → (∀ q ∈ news, q.1 < d) → @LT.lt Nat _ d x → @LT.lt Nat _ x b → Q (.ref x) { s with heap := h', toks := tk' }) :
    wq (model PySem.Challenge.rw_fq5014_01.row.prog w) (ktrTop dp un (some []) cn cs L a ccd cl outer) (PySem.call (.ref 1172) []) Q E s := by
  revert X; k_fill; intro X
  w_on
  have X1 := X.keeps F.keep
  obtain ⟨oc, od, cd, sl, hC, e1, e2, e4⟩ := io_cls X1
  refine wq_call (codeQ_tree rfl ?_)
  show wq _ _ (callAny (.ref 1172) _) _ _ _
  simp only [callAny]
  refine wq_bind (wq_any (wpAny_load hC ?_))
  dsimp only
  unfold callAny.viaDunder
  refine wq_bind (wq_any ((io_call X1).here ?_))
  dsimp only
  rw [tc_bind]
  refine wq_bind (wq_pure (wq_bind (wq_pure ?_)))
  refine wq_pure (a := Fin.again (.call (.builtin "type.__call__") ⟨[.ref 1172], []⟩)) (And.intro rfl ?_)
  refine codeQ_tree rfl ?_
  show wq _ _ (do checkBuiltinCall "type.__call__" ⟨[.ref 1172], []⟩; again (.builtin "type.__call__" ⟨[.ref 1172], []⟩)) _ _ _
  refine wq_bind (wq_any (check_slot tc_kind tc_split (io_typ X1) (tc_args _ _ _) ?_))
  refine wq_pure (And.intro (Code.quiet_builtin _ (by decide +kernel)) (codeQ_builtin entry_typeCall (by decide +kernel) ?_))
  rw [under_make]
  unfold Builtin.«type.__call__»
  dsimp only
  refine wq_if_false rfl ?_
  refine wq_bind (wq_any ((io_mro X1).here ?_))
  refine wq_if_false rfl (wq_bind (wq_any ((io_made X1).here ?_)))
  dsimp only
  refine wq_bind (wq_any ?_)
  k_steps
  refine wq_bind (wq_holding (wq_any (new_q Bl F X N T hk (by omega) (by omega) fun h' tk' d x F2 N2 l1 l2 => ?_)))
  have X2 := X.keeps F2.keep
  have hx := (N2 _ (.head _)).1
  have ht : Looks (model PySem.Challenge.rw_fq5014_01.row.prog w) h' (typeOf (.ref x)) (.ref 1172) := (Looks.ld (part := none) hx).andThen .now
  unfold isInstance
  refine wq_bind (wq_any (wpAny_bind (ht.here ((io_self X2).here ?_))))
  refine wq_if_false rfl (wq_bind (wq_holding ?_))
  unfold callSpecial? specialOf
  refine wq_bind (wq_any (wpAny_bind (ht.here ((io_init X2).here ?_))))
  dsimp only
  refine wq_holding (wq_bind (wq_any ((io_bind X2 _).here ?_)))
  dsimp only
  refine wq_bind (init_q Bl F2 X N2 T hk (by omega) (by omega) l1 l2 fun h3 tk3 b t1 t2 t3 F3 N3 l3 => ?_)
  refine wq_pure ?_
  dsimp only
  exact wq_if_false rfl (wq_pure (hQ _ _ _ _ _ _ _ _ F3 N3 l1 l2 l3))
end
end Mine
namespace Mine
open PySem Calls
local macro_rules | `(tactic| k_room) => `(tactic| ktr_room)
local macro_rules | `(tactic| walk_at "call type:type") => `(tactic| (k_here; (with_reducible show wpAny _ _ (call (Value.type "type") [Value.bytes _ _]) _ _ _); (refine type_bytes ?_)))
local macro_rules | `(tactic| walk_at "call builtin:len") => `(tactic| (k_here; (with_reducible show wpAny _ _ (call (Value.builtin "len") [Value.ref _]) _ _ _); k_dflt (refine' len_ba_K ?k1 ?k2 ?k3 ?_; (case k1 => k_asm); (case k2 => k_mem); (case k3 => first | exact Nat.zero_le _ | omega | (rw [sizeLine_eq]; omega) | (rw [sizeLine_eq]; simp only [Array.size_append, List.size_toArray, List.length_cons, List.length_nil]; omega)); k_whole)))
local macro_rules | `(tactic| walk_at "call type:bytes") => `(tactic| (k_here; (with_reducible show wpAny _ _ (call (Value.type "bytes") [Value.ref _]) _ _ _); k_dflt (refine' bytes_ba_K ?k1 ?k2 ?k3 ?_; (case k1 => k_asm); (case k2 => k_mem); (case k3 => first | exact Nat.zero_le _ | omega | (rw [sizeLine_eq]; omega) | (rw [sizeLine_eq]; simp only [Array.size_append, List.size_toArray, List.length_cons, List.length_nil]; omega)); k_whole); intro _ _))
local macro_rules | `(tactic| walk_at "enterQ") => `(tactic| (k_dflt (refine' codeQ_defK ?k1 ?k2 ?k3 ?k4 ?k5 ?kA ?kF ?kK ?k6 ?k7 ?k8 ?k9 ?kB ?_ ?c2 ?c3 ?c4 ?c5; (case kA => exact rfl); (case kF => exact rfl); (case kK => assumption); (case k1 => k_asm); (case k2 => k_asm); (case k3 => k_asm); (case k4 => k_asm); (case k5 => k_asm); (case k6 => k_is); (case k7 => k_is); (case k8 => ktr_room); (case k9 => first | exact BindsTo.of_eq rfl | (refine' kp_binds ?kx ?ke; (case kx => k_in); (case ke => exact fun _ => rfl))); (case c5 => decide); (case kB => exact locs rfl); (case c2 => exact rfl); (case c3 => exact rfl); (case c4 => exact rfl); k_whole; intro g' L' h' FG' F' N' B' X' T' KG'; (try dsimp only); (try k_fold))))
local macro_rules | `(tactic| walk_at "call builtin:object.__new__") => `(tactic| (k_here; (with_reducible show wpAny _ _ (call (Value.builtin "object.__new__") [Value.ref 1172]) _ _ _); k_dflt (refine' io_objnew_K ?k1 ?k2 ?k3 ?_; (case k1 => k_asm); (case k2 => k_asm); (case k3 => k_asm); k_whole); intro x' d' h' F' N' l1 l2; (try k_lt l1); (try k_lt2 l2); (try k_sweep)))
local macro_rules | `(tactic| k_all) => `(tactic| assumption)
local macro_rules | `(tactic| walk_at "call builtin:_struct.pack") => `(tactic| (k_here; k_dflt (first
  | (refine' pack1 ?k1 ?k2 ?k3; (case k1 => exact rfl); k_whole)
  | (refine' pack4 ?k1 ?k2 ?k3; (case k1 => exact rfl); k_whole)
  | (refine' pack5 ?k1 ?k2 ?k3; (case k1 => exact rfl); k_whole))))
section
variable {w : World} {p : Program} {loose : List PySem.Str} {mean : ExcName → Option Value} {mg mb : PySem.Str → Option Value} {dp un : Nat} {cn : PySem.Str} {cs : Scope} {L a : Addr} {ccd : Value} {cl : List (PySem.Str × Addr)} {outer : List Env}
  {A₀ : Around} {base h₀ : Heap} {m : PySem.Str → Option Value} {s : Shared} {Q E : Value → Shared → Prop} {news : List (Addr × Obj)}
/-- write, the rest of the ledger carried along -/
theorem write_qn {x d b : Addr} {B bs : Array UInt8} {t1 t2 t3 tb : Tok}
    (Bl : Below A₀ base outer h₀) (F : Fr h₀ L s.heap m) (X : (hd.heap_1 w.params).In h₀)
    (N : News h₀ L s.heap ((d, ioD w.params b B.size t1 t2 t3) :: (b, baO B) :: (x, instObj 1172 d) :: news)) (T : Top p loose mean mg mb h₀) (hk : cs.kind = .function) (hdp : dp + 5 < recursionLimit) (hun : un + 40 < cLine)
    (hdb : @Ne Nat d b) (hdx : @Ne Nat d x) (hbx : @Ne Nat b x) (hne : ∀ q ∈ news, q.1 ≠ d ∧ q.1 ≠ b ∧ q.1 ≠ x) (h0 : 0 < bs.size) (hz : B.size + bs.size ≤ 16777216)
    (hQ : ∀ h' tk' t1' t2' t3' r, Fr h₀ L h' m → News h₀ L h' ((d, ioD w.params b ((B ++ bs).size) t1' t2' t3') :: (b, baO (B ++ bs)) :: (x, instObj 1172 d) :: news) → Q (.int bs.size r) { s with heap := h', toks := tk' }) :
    wq (model PySem.Challenge.rw_fq5014_01.row.prog w) (ktrTop dp un (some []) cn cs L a ccd cl outer) (PySem.call (.ref 1155) [.ref x, .bytes bs tb]) Q E s := by
  refine write_q (t1 := t1) (t2 := t2) (t3 := t3) Bl F X (fun q hq => N q ?_) T hk hdp hun hdb hdx hbx h0 hz fun h' tk' t1' t2' t3' r F' N' K' => hQ h' tk' t1' t2' t3' r F' fun q hq => ?_
  · simp only [List.mem_cons, List.not_mem_nil, or_false] at hq ⊢
    rcases hq with h | h | h
    · exact .inl h
    · exact .inr (.inl h)
    · exact .inr (.inr (.inl h))
  · simp only [List.mem_cons] at hq
    rcases hq with h | h | h | h
    · exact N' q (by simp [h])
    · exact N' q (by simp [h])
    · exact N' q (by simp [h])
    · have h2 := N q (by simp [h])
      exact ⟨K' _ _ (hne q h).1 (hne q h).2.1 (hne q h).2.2 h2.1, h2.2⟩
theorem wint_q {x d b : Addr} {B : Array UInt8} {t1 t2 t3 ui : Tok} {i : Int}
    (Bl : Below A₀ base outer h₀) (F : Fr h₀ L s.heap m) (X : (hd.heap_1 w.params).In h₀)
    (N : News h₀ L s.heap ((d, ioD w.params b B.size t1 t2 t3) :: (b, baO B) :: (x, instObj 1172 d) :: news)) (T : Top p loose mean mg mb h₀) (hk : cs.kind = .function) (hdp : dp + 10 < recursionLimit) (hun : un + 50 < cLine)
    (hdb : @Ne Nat d b) (hdx : @Ne Nat d x) (hbx : @Ne Nat b x) (hne : ∀ q ∈ news, q.1 ≠ d ∧ q.1 ≠ b ∧ q.1 ≠ x) (hz : B.size + 4 ≤ 16777216)
    (hQ : (-2147483648 ≤ i ∧ i ≤ 2147483647) → ∀ h' tk' t1' t2' t3', Fr h₀ L h' m → News h₀ L h' ((d, ioD w.params b ((B ++ #[dig 4 i 3, dig 4 i 2, dig 4 i 1, dig 4 i 0]).size) t1' t2' t3') :: (b, baO (B ++ #[dig 4 i 3, dig 4 i 2, dig 4 i 1, dig 4 i 0])) :: (x, instObj 1172 d) :: news) → Q .none { s with heap := h', toks := tk' })
    (hE : ¬ (-2147483648 ≤ i ∧ i ≤ 2147483647) → ∀ g h' tk' e, Fr h₀ L g m → RaisedN base (envX cn cs L a ccd cl :: outer) e (.type "struct.error") ((d, ioD w.params b B.size t1 t2 t3) :: (b, baO B) :: (x, instObj 1172 d) :: news) h' → g.UpToSlots h' → E (.ref e) { s with heap := h', toks := tk' }) :
    wq (model PySem.Challenge.rw_fq5014_01.row.prog w) (ktrTop dp un (some []) cn cs L a ccd cl outer) (PySem.call (.ref 1486) [.ref x, .int i ui]) Q E s := by
  revert X; k_fill; intro X
  w_on
  refine wq_call ?_
  walk_at "enterQ"
  refine wq_execs_cons (wq_Expr (wq_MethodCall ?_))
  k_steps
  refine wq_callWith_K (by assumption) (by k_is) ?_
  k_steps
  · k_dflt (refine' write_qn ?b ?f ?x ?n ?t ?k ?d ?u hdb hdx hbx hne ?z0 ?z ?_; (case b => assumption); (case f => assumption); (case x => assumption); (case n => assumption); (case t => assumption); (case k => exact rfl); (case d => ktr_room); (case u => ktr_units); (case z0 => exact Nat.succ_pos _); (case z => exact hz))
    intro h4 tk4 u1 u2 u3 r F4 N4
    dsimp only
    refine wq_any ?_
    k_steps
    rename News h₀ _ _ _ => N11
    exact hQ (by assumption) _ _ _ _ _ (by assumption) N11
  · exact hE (by assumption) _ _ _ _ (by assumption) (by assumption) (by assumption)
end
end Mine
namespace Mine
open PySem Calls
local macro_rules | `(tactic| k_room) => `(tactic| ktr_room)
local macro_rules | `(tactic| walk_at "call type:type") => `(tactic| (k_here; (with_reducible show wpAny _ _ (call (Value.type "type") [Value.bytes _ _]) _ _ _); (refine type_bytes ?_)))
local macro_rules | `(tactic| walk_at "call builtin:len") => `(tactic| (k_here; (with_reducible show wpAny _ _ (call (Value.builtin "len") [Value.ref _]) _ _ _); k_dflt (refine' len_ba_K ?k1 ?k2 ?k3 ?_; (case k1 => k_asm); (case k2 => k_mem); (case k3 => first | exact Nat.zero_le _ | omega | (rw [sizeLine_eq]; omega) | (rw [sizeLine_eq]; simp only [Array.size_append, List.size_toArray, List.length_cons, List.length_nil]; omega)); k_whole)))
local macro_rules | `(tactic| walk_at "call type:bytes") => `(tactic| (k_here; (with_reducible show wpAny _ _ (call (Value.type "bytes") [Value.ref _]) _ _ _); k_dflt (refine' bytes_ba_K ?k1 ?k2 ?k3 ?_; (case k1 => k_asm); (case k2 => k_mem); (case k3 => first | exact Nat.zero_le _ | omega | (rw [sizeLine_eq]; omega) | (rw [sizeLine_eq]; simp only [Array.size_append, List.size_toArray, List.length_cons, List.length_nil]; omega)); k_whole); intro _ _))
local macro_rules | `(tactic| walk_at "enterQ") => `(tactic| (k_dflt (refine' codeQ_defK ?k1 ?k2 ?k3 ?k4 ?k5 ?kA ?kF ?kK ?k6 ?k7 ?k8 ?k9 ?kB ?_ ?c2 ?c3 ?c4 ?c5; (case kA => exact rfl); (case kF => exact rfl); (case kK => assumption); (case k1 => k_asm); (case k2 => k_asm); (case k3 => k_asm); (case k4 => k_asm); (case k5 => k_asm); (case k6 => k_is); (case k7 => k_is); (case k8 => ktr_room); (case k9 => first | exact BindsTo.of_eq rfl | (refine' kp_binds ?kx ?ke; (case kx => k_in); (case ke => exact fun _ => rfl))); (case c5 => decide); (case kB => exact locs rfl); (case c2 => exact rfl); (case c3 => exact rfl); (case c4 => exact rfl); k_whole; intro g' L' h' FG' F' N' B' X' T' KG'; (try dsimp only); (try k_fold))))
local macro_rules | `(tactic| walk_at "call builtin:object.__new__") => `(tactic| (k_here; (with_reducible show wpAny _ _ (call (Value.builtin "object.__new__") [Value.ref 1172]) _ _ _); k_dflt (refine' io_objnew_K ?k1 ?k2 ?k3 ?_; (case k1 => k_asm); (case k2 => k_asm); (case k3 => k_asm); k_whole); intro x' d' h' F' N' l1 l2; (try k_lt l1); (try k_lt2 l2); (try k_sweep)))
local macro_rules | `(tactic| k_all) => `(tactic| assumption)
local macro_rules | `(tactic| walk_at "call builtin:_struct.pack") => `(tactic| (k_here; k_dflt (first
  | (refine' pack1 ?k1 ?k2 ?k3; (case k1 => exact rfl); k_whole)
  | (refine' pack4 ?k1 ?k2 ?k3; (case k1 => exact rfl); k_whole)
  | (refine' pack5 ?k1 ?k2 ?k3; (case k1 => exact rfl); k_whole))))
local macro_rules | `(tactic| walk_at "useWrite") => `(tactic| (k_dflt (refine' write_qn ?b ?f ?x ?n ?t ?k ?d ?u ?hdb ?hdx ?hbx ?hne ?z0 ?z ?_; (case b => assumption); (case f => assumption); (case x => assumption); (case n => assumption); (case t => assumption); (case k => exact rfl); (case hdb => assumption); (case hdx => assumption); (case hbx => assumption); (case hne => assumption); (case d => ktr_room); (case u => ktr_units); (case z0 => exact Nat.succ_pos _); (case z => (simp only [List.size_toArray, List.length_cons, List.length_nil]; omega)))))
local macro_rules | `(tactic| walk_at "useInt") => `(tactic| (k_dflt (refine' wint_q ?b ?f ?x ?n ?t ?k ?d ?u ?hdb ?hdx ?hbx ?hne ?z ?q ?e; (case b => assumption); (case f => assumption); (case x => assumption); (case n => assumption); (case t => assumption); (case k => exact rfl); (case hdb => assumption); (case hdx => assumption); (case hbx => assumption); (case hne => assumption); (case d => ktr_room); (case u => ktr_units); (case z => (simp only [Array.size_append, List.size_toArray, List.length_cons, List.length_nil]; omega)))))
/-- what a header lays ahead of its length -/
def frontB (v f st o : Int) : Option (Array UInt8) :=
  if 3 ≤ v then
    if (0 ≤ v ∧ v ≤ 255) ∧ (0 ≤ f ∧ f ≤ 255) ∧ (-32768 ≤ st ∧ st ≤ 32767) ∧ (0 ≤ o ∧ o ≤ 255) then some #[dig 1 v 0, dig 1 f 0, dig 2 st 1, dig 2 st 0, dig 1 o 0] else none
  else if (0 ≤ v ∧ v ≤ 255) ∧ (0 ≤ f ∧ f ≤ 255) ∧ (-128 ≤ st ∧ st ≤ 127) ∧ (0 ≤ o ∧ o ≤ 255) then some #[dig 1 v 0, dig 1 f 0, dig 1 st 0, dig 1 o 0] else none
abbrev fits4 (i : Int) : Prop := -2147483648 ≤ i ∧ i ≤ 2147483647
def be4 (i : Int) : Array UInt8 := #[dig 4 i 3, dig 4 i 2, dig 4 i 1, dig 4 i 0]
section
variable {w : World} {p : Program} {loose : List PySem.Str} {mean : ExcName → Option Value} {mg mb : PySem.Str → Option Value} {dp un : Nat} {cn : PySem.Str} {cs : Scope} {L a : Addr} {ccd : Value} {cl : List (PySem.Str × Addr)} {outer : List Env}
  {A₀ : Around} {base h₀ : Heap} {m : PySem.Str → Option Value} {s : Shared} {Q E : Value → Shared → Prop} {news : List (Addr × Obj)}
theorem wh_q {x d b : Addr} {B : Array UInt8} {t1 t2 t3 u1 u2 u3 u4 u5 : Tok} {v f st o i : Int}
    (Bl : Below A₀ base outer h₀) (F : Fr h₀ L s.heap m) (X : (hd.heap_1 w.params).In h₀)
    (N : News h₀ L s.heap ((d, ioD w.params b B.size t1 t2 t3) :: (b, baO B) :: (x, instObj 1172 d) :: news)) (T : Top p loose mean mg mb h₀) (hk : cs.kind = .function) (hdp : dp + 15 < recursionLimit) (hun : un + 70 < cLine)
    (hdb : @Ne Nat d b) (hdx : @Ne Nat d x) (hbx : @Ne Nat b x) (hne : ∀ q ∈ news, q.1 ≠ d ∧ q.1 ≠ b ∧ q.1 ≠ x) (hz : B.size + 9 ≤ 16777216)
    (hQ : ∀ C, frontB v f st o = some C → fits4 i → ∀ h' tk' t1' t2' t3', Fr h₀ L h' m → News h₀ L h' ((d, ioD w.params b ((B ++ C ++ be4 i).size) t1' t2' t3') :: (b, baO (B ++ C ++ be4 i)) :: (x, instObj 1172 d) :: news) → Q .none { s with heap := h', toks := tk' })
    (hE0 : frontB v f st o = none → ∀ g h' tk' e, Fr h₀ L g m → RaisedN base (envX cn cs L a ccd cl :: outer) e (.type "struct.error") ((d, ioD w.params b B.size t1 t2 t3) :: (b, baO B) :: (x, instObj 1172 d) :: news) h' → g.UpToSlots h' → E (.ref e) { s with heap := h', toks := tk' })
    (hE1 : ∀ C, frontB v f st o = some C → ¬ fits4 i → ∀ g h' tk' e t1' t2' t3', Fr h₀ L g m → RaisedN base (envX cn cs L a ccd cl :: outer) e (.type "struct.error") ((d, ioD w.params b ((B ++ C).size) t1' t2' t3') :: (b, baO (B ++ C)) :: (x, instObj 1172 d) :: news) h' → g.UpToSlots h' → E (.ref e) { s with heap := h', toks := tk' }) :
    wq (model PySem.Challenge.rw_fq5014_01.row.prog w) (ktrTop dp un (some []) cn cs L a ccd cl outer) (PySem.call (.ref 1445) [.ref x, .int v u1, .int f u2, .int st u3, .int o u4, .int i u5]) Q E s := by
  revert X; k_fill; intro X
  w_on
  refine wq_call ?_
  walk_at "enterQ"
  refine wq_execs_append (pre := [_]) ?_
  k_steps
  dsimp only
  refine wq_execs_cons (wq_Expr (wq_MethodCall ?_))
  k_steps
  refine wq_callWith_K (by assumption) (by k_is) ?_
  k_steps
  · have hC : frontB v f st o = some #[dig 1 v 0, dig 1 f 0, dig 2 st 1, dig 2 st 0, dig 1 o 0] := by
      unfold frontB
      rw [if_pos (by assumption), if_pos ⟨by assumption, by assumption, by assumption, by assumption⟩]
    walk_at "useWrite"
    intro h4 tk4 v1 v2 v3 r F4 N4
    dsimp only
    refine wq_execs_cons (wq_Expr (wq_Call_Name ?_))
    k_steps
    refine wq_callWith_K (by assumption) (by k_is) ?_
    k_steps
    walk_at "useInt"
    case q =>
      intro hi h5 tk5 w1 w2 w3 F5 N5
      dsimp only
      refine wq_any ?_
      k_steps
      rename News h₀ _ _ _ => N11
      exact hQ _ hC hi _ _ _ _ _ (by assumption) N11
    case e =>
      intro hi g5 h5 tk5 e5 F5 R5 U5
      k_steps
      exact hE1 _ hC hi _ _ _ _ _ _ _ (by assumption) (by assumption) (by assumption)
  · refine hE0 ?_ _ _ _ _ (by assumption) (by assumption) (by assumption)
    unfold frontB
    rw [if_pos (by assumption), if_neg (by assumption)]
  walk_at "call builtin:_struct.pack"
  · intro a1 a2 a3 a4
    k_steps
    have hC : frontB v f st o = some #[dig 1 v 0, dig 1 f 0, dig 1 st 0, dig 1 o 0] := by
      unfold frontB
      rw [if_neg (by assumption), if_pos ⟨by assumption, by assumption, by assumption, by assumption⟩]
    walk_at "useWrite"
    intro h4 tk4 v1 v2 v3 r F4 N4
    dsimp only
    refine wq_execs_cons (wq_Expr (wq_Call_Name ?_))
    k_steps
    refine wq_callWith_K (by assumption) (by k_is) ?_
    k_steps
    walk_at "useInt"
    case q =>
      intro hi h5 tk5 w1 w2 w3 F5 N5
      dsimp only
      refine wq_any ?_
      k_steps
      rename News h₀ _ _ _ => N11
      exact hQ _ hC hi _ _ _ _ _ (by assumption) N11
    case e =>
      intro hi g5 h5 tk5 e5 F5 R5 U5
      k_steps
      exact hE1 _ hC hi _ _ _ _ _ _ _ (by assumption) (by assumption) (by assumption)
  · intro a1
    k_steps
    refine hE0 ?_ _ _ _ _ (by assumption) (by assumption) (by assumption)
    unfold frontB
    rw [if_neg (by assumption), if_neg (by assumption)]
end
end Mine
namespace Mine
open PySem Calls
local macro_rules | `(tactic| k_room) => `(tactic| ktr_room)
local macro_rules | `(tactic| walk_at "call type:type") => `(tactic| (k_here; (with_reducible show wpAny _ _ (call (Value.type "type") [Value.bytes _ _]) _ _ _); (refine type_bytes ?_)))
local macro_rules | `(tactic| walk_at "call builtin:len") => `(tactic| (k_here; (with_reducible show wpAny _ _ (call (Value.builtin "len") [Value.ref _]) _ _ _); k_dflt (refine' len_ba_K ?k1 ?k2 ?k3 ?_; (case k1 => k_asm); (case k2 => k_mem); (case k3 => first | exact Nat.zero_le _ | omega | (rw [sizeLine_eq]; omega) | (rw [sizeLine_eq]; simp only [Array.size_append, List.size_toArray, List.length_cons, List.length_nil]; omega)); k_whole)))
local macro_rules | `(tactic| walk_at "call type:bytes") => `(tactic| (k_here; (with_reducible show wpAny _ _ (call (Value.type "bytes") [Value.ref _]) _ _ _); k_dflt (refine' bytes_ba_K ?k1 ?k2 ?k3 ?_; (case k1 => k_asm); (case k2 => k_mem); (case k3 => first | exact Nat.zero_le _ | omega | (rw [sizeLine_eq]; omega) | (rw [sizeLine_eq]; simp only [Array.size_append, List.size_toArray, List.length_cons, List.length_nil]; omega)); k_whole); intro _ _))
local macro_rules | `(tactic| walk_at "enterQ") => `(tactic| (k_dflt (refine' codeQ_defK ?k1 ?k2 ?k3 ?k4 ?k5 ?kA ?kF ?kK ?k6 ?k7 ?k8 ?k9 ?kB ?_ ?c2 ?c3 ?c4 ?c5; (case kA => exact rfl); (case kF => exact rfl); (case kK => assumption); (case k1 => k_asm); (case k2 => k_asm); (case k3 => k_asm); (case k4 => k_asm); (case k5 => k_asm); (case k6 => k_is); (case k7 => k_is); (case k8 => ktr_room); (case k9 => first | exact BindsTo.of_eq rfl | (refine' kp_binds ?kx ?ke; (case kx => k_in); (case ke => exact fun _ => rfl))); (case c5 => decide); (case kB => exact locs rfl); (case c2 => exact rfl); (case c3 => exact rfl); (case c4 => exact rfl); k_whole; intro g' L' h' FG' F' N' B' X' T' KG'; (try dsimp only); (try k_fold))))
local macro_rules | `(tactic| walk_at "call builtin:object.__new__") => `(tactic| (k_here; (with_reducible show wpAny _ _ (call (Value.builtin "object.__new__") [Value.ref 1172]) _ _ _); k_dflt (refine' io_objnew_K ?k1 ?k2 ?k3 ?_; (case k1 => k_asm); (case k2 => k_asm); (case k3 => k_asm); k_whole); intro x' d' h' F' N' l1 l2; (try k_lt l1); (try k_lt2 l2); (try k_sweep)))
local macro_rules | `(tactic| k_all) => `(tactic| assumption)
local macro_rules | `(tactic| walk_at "call builtin:_struct.pack") => `(tactic| (k_here; k_dflt (first
  | (refine' pack1 ?k1 ?k2 ?k3; (case k1 => exact rfl); k_whole)
  | (refine' pack4 ?k1 ?k2 ?k3; (case k1 => exact rfl); k_whole)
  | (refine' pack5 ?k1 ?k2 ?k3; (case k1 => exact rfl); k_whole))))
local macro_rules | `(tactic| walk_at "useWrite") => `(tactic| (k_dflt (refine' write_qn ?b ?f ?x ?n ?t ?k ?d ?u ?hdb ?hdx ?hbx ?hne ?z0 ?z ?_; (case b => assumption); (case f => assumption); (case x => assumption); (case n => assumption); (case t => assumption); (case k => exact rfl); (case hdb => assumption); (case hdx => assumption); (case hbx => assumption); (case hne => assumption); (case d => ktr_room); (case u => ktr_units); (case z0 => exact Nat.succ_pos _); (case z => (simp only [List.size_toArray, List.length_cons, List.length_nil]; omega)))))
local macro_rules | `(tactic| walk_at "useInt") => `(tactic| (k_dflt (refine' wint_q ?b ?f ?x ?n ?t ?k ?d ?u ?hdb ?hdx ?hbx ?hne ?z ?q ?e; (case b => assumption); (case f => assumption); (case x => assumption); (case n => assumption); (case t => assumption); (case k => exact rfl); (case hdb => assumption); (case hdx => assumption); (case hbx => assumption); (case hne => assumption); (case d => ktr_room); (case u => ktr_units); (case z => (simp only [Array.size_append, List.size_toArray, List.length_cons, List.length_nil]; omega)))))
section
variable {w : World} {p : Program} {loose : List PySem.Str} {mean : ExcName → Option Value} {mg mb : PySem.Str → Option Value} {dp un : Nat} {cn : PySem.Str} {cs : Scope} {L a : Addr} {ccd : Value} {cl : List (PySem.Str × Addr)} {outer : List Env}
  {A₀ : Around} {base h₀ : Heap} {m : PySem.Str → Option Value} {s : Shared} {Q E : Value → Shared → Prop} {news : List (Addr × Obj)}
/-- BytesIO(), its ledger in the order that the writes ask -/
theorem make_qn
    (Bl : Below A₀ base outer h₀) (F : Fr h₀ L s.heap m) (X : (hd.heap_1 w.params).In h₀)
    (N : News h₀ L s.heap news) (T : Top p loose mean mg mb h₀) (hk : cs.kind = .function) (hdp : dp + 8 < recursionLimit) (hun : un + 60 < cLine)
    (hQ : ∀ h' tk' x d b t1 t2 t3, Fr h₀ L h' m → News h₀ L h' ((d, ioD w.params b ((#[] : Array UInt8).size) t1 t2 t3) :: (b, baO #[]) :: (x, instObj 1172 d) :: news) → @Ne Nat d b → @Ne Nat d x → @Ne Nat b x →
      (∀ q ∈ news, q.1 ≠ d ∧ q.1 ≠ b ∧ q.1 ≠ x) → Q (.ref x) { s with heap := h', toks := tk' }) :
    wq (model PySem.Challenge.rw_fq5014_01.row.prog w) (ktrTop dp un (some []) cn cs L a ccd cl outer) (PySem.call (.ref 1172) []) Q E s := by
  refine make_q Bl F X N T hk hdp hun fun h' tk' x d b t1 t2 t3 F' N' l1 l2 l3 => hQ h' tk' x d b t1 t2 t3 F' (fun q hq => N' q ?_) (Nat.ne_of_lt (Nat.lt_trans l2 l3)) (Nat.ne_of_lt l2) (Nat.ne_of_gt l3) fun q hq => ?_
  · simp only [List.mem_cons] at hq ⊢
    rcases hq with h | h | h | h
    · exact .inr (.inr (.inl h))
    · exact .inl h
    · exact .inr (.inl h)
    · exact .inr (.inr (.inr h))
  · have h1 : @LT.lt Nat _ q.1 d := l1 q hq
    exact ⟨Nat.ne_of_lt h1, Nat.ne_of_lt (Nat.lt_trans h1 (Nat.lt_trans l2 l3)), Nat.ne_of_lt (Nat.lt_trans h1 l2)⟩
local macro_rules | `(tactic| walk_at "useMake") => `(tactic| (k_dflt (refine' make_qn ?b ?f ?x ?n ?t ?k ?d ?u ?_; (case b => assumption); (case f => assumption); (case x => assumption); (case n => assumption); (case t => assumption); (case k => exact rfl); (case d => ktr_room); (case u => ktr_units))))
local macro_rules | `(tactic| walk_at "useWh") => `(tactic| (k_dflt (refine' wh_q ?b ?f ?x ?n ?t ?k ?d ?u ?hdb ?hdx ?hbx ?hne ?z ?q ?e0 ?e1; (case b => assumption); (case f => assumption); (case x => assumption); (case n => assumption); (case t => assumption); (case k => exact rfl); (case hdb => assumption); (case hdx => assumption); (case hbx => assumption); (case hne => first | assumption | ((repeat (refine List.forall_mem_cons.mpr ⟨⟨by (show @Ne Nat _ _; omega), by (show @Ne Nat _ _; omega), by (show @Ne Nat _ _; omega)⟩, ?_⟩)); assumption)); (case d => ktr_room); (case u => ktr_units))))
theorem frontB_size {v f st o : Int} {C : Array UInt8} (h : frontB v f st o = some C) : C.size ≤ 5 := by
  unfold frontB at h
  split at h <;> split at h <;> first | (cases h; exact Nat.le_of_ble_eq_true rfl) | cases h
theorem raised_sub {base : Heap} {l : List Env} {e : Addr} {c : Value} {ns ns' : List (Addr × Obj)} {h : Heap} (R : RaisedN base l e c ns h) (k : ∀ q ∈ ns', q ∈ ns) : RaisedN base l e c ns' h := by
  obtain ⟨B, a0, hB, hl, hf⟩ := R
  exact ⟨B, a0, hB, fun q hq => hl q (k q hq), hf⟩
theorem method_callQ {q : Addr} {f self : Value} {pos : List Value} {kw : List (PySem.Str × Value)} {prog : Program} {A : Around} {R : Result → Shared → Prop} (ho : s.heap.get? q = some (methodObj f self))
    (h : codeQ (model prog w) A (.call f ⟨self :: pos, kw⟩) R s) : codeQ (model prog w) A (.call (.ref q) ⟨pos, kw⟩) R s := by
  refine codeQ_tree rfl ?_
  show wq _ _ (callAny (.ref q) _) _ _ _
  simp only [callAny]
  refine wq_bind (wq_any (wpAny_load ho ?_))
  dsimp only [methodObj]
  cases f <;> exact wq_pure ⟨rfl, h⟩
theorem enc_c {y dy : Addr} {u1 u2 : Tok} {v st : Int}
    (Bl : Below A₀ base outer h₀) (F : Fr h₀ L s.heap m) (X : (hd.heap_1 w.params).In h₀)
    (N : News h₀ L s.heap ((y, instObj 759 dy) :: (dy, emptyDict) :: news)) (T : Top p loose mean mg mb h₀) (hk : cs.kind = .function) (hdp : dp + 25 < recursionLimit) (hun : un + 100 < cLine)
    (hQ : ∀ C, frontB v 0 st 5 = some C → ∀ h' tk' t, Fr h₀ L h' m → News h₀ L h' ((y, instObj 759 dy) :: (dy, emptyDict) :: news) → Q (.bytes (C ++ be4 0) t) { s with heap := h', toks := tk' })
    (hE : frontB v 0 st 5 = none → ∀ g h' tk' e, Fr h₀ L g m → RaisedN base (envX cn cs L a ccd cl :: outer) e (.type "struct.error") ((y, instObj 759 dy) :: (dy, emptyDict) :: news) h' → g.UpToSlots h' → E (.ref e) { s with heap := h', toks := tk' }) :
    codeQ (model PySem.Challenge.rw_fq5014_01.row.prog w) (ktrTop dp un (some []) cn cs L a ccd cl outer) (.call (.ref 1435) ⟨[.ref 1461, .ref y, .int st u1, .int v u2, .none, .bool false], []⟩) (fun r s' => match r with | .ok (.ret v) => Q v s' | .ok _ => False | .error e => E e s') s := by
  revert X; k_fill; intro X
  w_on
  walk_at "enterQ"
  refine wq_execs_append (pre := [_, _]) ?_
  k_steps
  dsimp only
  refine wq_execs_cons (wq_Assign_Name (wq_Call_Name ?_))
  k_steps
  refine wq_callWith_K0 (by k_in) (by k_is) ?_
  walk_at "useMake"
  intro h4 tk4 x1 d1 b1 t1 t2 t3 F4 N4 n1 n2 n3 n4
  k_steps
  dsimp only
  refine wq_execs_append (pre := [_, _, _, _, _, _]) ?_
  k_steps
  all_goals (
    dsimp only
    refine wq_execs_cons (wq_Assign_Name (wq_Call_Name ?_))
    k_steps
    refine wq_callWith_K0 (by k_in) (by k_is) ?_
    walk_at "useMake"
    intro h5 tk5 x2 d2 b2 v1 v2 v3 F5 N5 n5 n6 n7 n8
    k_steps
    dsimp only
    refine wq_execs_cons (wq_Expr (wq_MethodCall ?_))
    k_steps
    refine wq_callWith_K (by assumption) (by k_is) ?_
    k_steps
    walk_at "useWh"
    case z => exact Nat.le_of_ble_eq_true rfl
    case q =>
      intro C hC hi h6 tk6 w1 w2 w3 F6 N6
      have e6 : (#[] ++ C ++ be4 ((#[] : Array UInt8).size : Int)) = C ++ be4 0 := by rw [Array.empty_append]; rfl
      rw [e6] at N6
      have hz6 : (C ++ be4 0).size ≤ 16777216 := by
        have h5 := frontB_size hC
        have h4 : (be4 0).size = 4 := rfl
        rw [Array.size_append, h4]
        omega
      dsimp only
      refine wq_any ?_
      k_steps
      rename News h₀ _ _ _ => N11
      refine hQ C hC _ _ _ (by assumption) fun q hq => N11 q ?_
      simp only [List.mem_cons] at hq ⊢
      exact .inr (.inr (.inr (.inr (.inr (.inr hq)))))
    case e0 =>
      intro h0 g6 h6 tk6 e6 F6 R6 U6
      k_steps
      refine hE h0 _ _ _ _ (by assumption) (raised_sub (by assumption) fun q hq => ?_) (by assumption)
      simp only [List.mem_cons] at hq ⊢
      exact .inr (.inr (.inr (.inr (.inr (.inr hq)))))
    case e1 =>
      intro C hC hi
      exact absurd (show fits4 0 from ⟨by decide, by decide⟩) hi)
theorem enc_q {y dy : Addr} {u1 u2 : Tok} {v st : Int}
    (Bl : Below A₀ base outer h₀) (F : Fr h₀ L s.heap m) (X : (hd.heap_1 w.params).In h₀)
    (N : News h₀ L s.heap ((y, instObj 759 dy) :: (dy, emptyDict) :: news)) (T : Top p loose mean mg mb h₀) (hk : cs.kind = .function) (hdp : dp + 25 < recursionLimit) (hun : un + 100 < cLine)
    (hQ : ∀ C, frontB v 0 st 5 = some C → ∀ h' tk' t, Fr h₀ L h' m → News h₀ L h' ((y, instObj 759 dy) :: (dy, emptyDict) :: news) → Q (.bytes (C ++ be4 0) t) { s with heap := h', toks := tk' })
    (hE : frontB v 0 st 5 = none → ∀ g h' tk' e, Fr h₀ L g m → RaisedN base (envX cn cs L a ccd cl :: outer) e (.type "struct.error") ((y, instObj 759 dy) :: (dy, emptyDict) :: news) h' → g.UpToSlots h' → E (.ref e) { s with heap := h', toks := tk' }) :
    wq (model PySem.Challenge.rw_fq5014_01.row.prog w) (ktrTop dp un (some []) cn cs L a ccd cl outer) (PySem.call (.ref 1435) [.ref 1461, .ref y, .int st u1, .int v u2, .none, .bool false]) Q E s :=
  wq_call (enc_c Bl F X N T hk hdp hun hQ hE)
theorem enc_m {q : Addr} {y dy : Addr} {u1 u2 : Tok} {v st : Int}
    (Bl : Below A₀ base outer h₀) (F : Fr h₀ L s.heap m) (X : (hd.heap_1 w.params).In h₀)
    (N : News h₀ L s.heap ((y, instObj 759 dy) :: (dy, emptyDict) :: (q, methodObj (.ref 1435) (.ref 1461)) :: news)) (T : Top p loose mean mg mb h₀) (hk : cs.kind = .function) (hdp : dp + 25 < recursionLimit) (hun : un + 100 < cLine)
    (hQ : ∀ C, frontB v 0 st 5 = some C → ∀ h' tk' t, Fr h₀ L h' m → News h₀ L h' ((y, instObj 759 dy) :: (dy, emptyDict) :: (q, methodObj (.ref 1435) (.ref 1461)) :: news) → Q (.bytes (C ++ be4 0) t) { s with heap := h', toks := tk' })
    (hE : frontB v 0 st 5 = none → ∀ g h' tk' e, Fr h₀ L g m → RaisedN base (envX cn cs L a ccd cl :: outer) e (.type "struct.error") ((y, instObj 759 dy) :: (dy, emptyDict) :: (q, methodObj (.ref 1435) (.ref 1461)) :: news) h' → g.UpToSlots h' → E (.ref e) { s with heap := h', toks := tk' }) :
    wq (model PySem.Challenge.rw_fq5014_01.row.prog w) (ktrTop dp un (some []) cn cs L a ccd cl outer) (PySem.call (.ref q) [.ref y, .int st u1, .int v u2, .none, .bool false]) Q E s :=
  wq_call (method_callQ (N _ (.tail _ (.tail _ (.head _)))).1 (enc_c Bl F X N T hk hdp hun hQ hE))
end
end Mine
namespace Mine
open PySem Calls
section
variable {prog : Program} {w : World} {A : Around} {E : Value → Shared → Prop} {s : Shared} {env : Env}
theorem wq_Try {body : List Stmt} {h₀ : ExceptHandler} {hs : List ExceptHandler} {pos : Pos} {Q : Flow → Shared → Prop}
    (h : wq (model prog w) A (execs body env) Q
      (fun e s₁ => wpAny (model prog w) A (noteFrame e env) (fun _ s₂ => wpAny (model prog w) A (setFlight e none) (fun _ s₃ => wpAny (model prog w) A (handleBy e env (h₀ :: hs)) Q E s₃) E s₂) E s₁) s) :
    wq (model prog w) A (exec (.Try body (h₀ :: hs) [] [] pos) env) Q E s := by
  rw [arm_exec_Try]
  refine wq_bind (wq_any (wpAny_standAt ?_))
  unfold tryStmt
  simp only [List.isEmpty_nil, if_true, List.isEmpty_cons, Bool.false_and, Bool.false_eq_true, if_false]
  refine wq_bind (wq_attempt (wq_mono h (fun f s₁ h₁ => ?_) fun e s₁ h₁ => ?_))
  · cases f <;> first | exact wq_any (wpAny_execs_nil h₁) | exact wq_pure h₁
  · exact wq_any (wpAny_bind (wpAny_mono h₁ (fun _ _ h₂ => wpAny_bind h₂) fun _ _ x => x))
/-- one turn of a for -/
theorem codeQ_forLoop {target : Expr} {it : Value} {body : List Stmt} {R : Result → Shared → Prop}
    (h : wpAny (model prog w) A (pyNext it) (fun r s₁ => match r with
      | none => R (.ok .next) s₁
      | some v => wpAny (model prog w) A (letOwnedTupleGo target it v) (fun _ s₁' => wpAny (model prog w) A (assign target env v) (fun _ s₂ => wq (model prog w) A (execs body env) (fun f s₃ => match f with
          | .next | .cont => codeQ (model prog w) A (.forLoop target it body [] env) R s₃
          | .brk => R (.ok .next) s₃
          | .ret v => R (.ok (.ret v)) s₃) (fun _ _ => False) s₂) (fun _ _ => False) s₁') (fun _ _ => False) s₁) (fun _ _ => False) s) :
    codeQ (model prog w) A (.forLoop target it body [] env) R s := by
  refine codeQ_tree rfl ?_
  show wq _ A ((forTurn target it body [] env).onRaise (fun x => do noteFrame x env; theTreesLotGoes x)) _ _ s
  refine wq_onRaise (wq_mono (E := fun _ _ => False) ?_ (fun _ _ x => x) fun _ _ x => x.elim)
  simp only [forTurn]
  refine wq_bind (wq_any (wpAny_standAt ?_))
  refine wq_bind (wq_any (wpAny_onRaise (wpAny_mono h (fun r s₁ h₁ => ?_) fun _ _ h' => h'.elim)))
  cases r with
  | none => exact wq_pure ⟨rfl, codeQ_any (codeAny_block (wpAny_execs_nil h₁))⟩
  | some v =>
    refine wq_bind (wq_any (wpAny_mono h₁ (fun _ s₁' h₁' => ?_) fun _ _ h' => h'))
    refine wq_bind (wq_any (wpAny_mono h₁' (fun _ s₂ h₂ => ?_) fun _ _ h' => h'))
    refine wq_bind (wq_mono h₂ (fun f s₃ h₃ => ?_) fun _ _ h' => h')
    cases f with
    | next => exact wq_pure ⟨rfl, h₃⟩
    | cont => exact wq_pure ⟨rfl, h₃⟩
    | brk => exact wq_pure h₃
    | ret v => exact wq_pure h₃
theorem wq_For {target iter : Expr} {body : List Stmt} {pos : Pos} {Q : Flow → Shared → Prop}
    (h : wpAny (model prog w) A (eval iter env) (fun x s₁ => wpAny (model prog w) A (pyIter x) (fun it s₂ => codeQ (model prog w) A (.forLoop target it body [] env) (fun r s' => match r with | .ok f => Q f s' | .error _ => False) s₂) E s₁) E s)
    (hs : ∀ x, foldedSetIterable iter env x = pure x := by intro _; rfl) :
    wq (model prog w) A (exec (.For target iter body [] pos) env) Q E s := by
  rw [exec_For]
  refine wq_bind (wq_any (wpAny_standAt ?_))
  refine wq_bind (wq_any (wpAny_mono h (fun x s₁ h₁ => ?_) fun _ _ x => x))
  rw [hs]
  refine wq_bind (wq_pure ?_)
  refine wq_bind (wq_any (wpAny_standAt ?_))
  refine wq_bind (wq_holding (wq_any (wpAny_mono h₁ (fun it s₂ h₂ => ?_) fun _ _ x => x)))
  unfold runOwn
  refine wq_onRaise (wq_run (codeQ_mono (R' := _) ?_ fun _ _ x => x) (by intro x; cases x))
  refine codeQ_mono h₂ fun r s' q => ?_
  cases r with
  | ok f => exact q
  | error e => exact q.elim
end
end Mine
namespace Mine
open PySem Calls
section
variable {prog : Program} {w : World} {A₀ : Around} {E : Value → Shared → Prop} {s' : Shared} {h₀ h : Heap} {outer : List Env} {L a e : Addr} {m : PySem.Str → Option Value} {name : PySem.Str} {scope : Scope} {cd : Value} {cells : List (PySem.Str × Addr)}
  {b₀ : Stmt} {suite : List Stmt} {pos np : Pos} {rest : List ExceptHandler} {Q : Flow → Shared → Prop} {news : List (Addr × Obj)} {mg mb : PySem.Str → Option Value} {x : PySem.Str} {X T' : String}
/-- `except T':` takes a built-in's error in a frame with cells -/
theorem caught_X (K : Below A₀ h₀ outer h₀) (F : Fr h₀ L h m) (hsm : h.UpToSlots s'.heap) (R : RaisedN h₀ (envX name scope L a cd cells :: outer) e (.type X) news s'.heap)
    (hg : h₀.Ns mainGlobals mg) (hmiss : mg x = none) (hb : h₀.Ns builtinsNs mb) (hv : mb x = some (.type T'))
    (hexc : isSubtype (.type T') (.type "BaseException") = pure true) (hnt : isSubtype (.type ((Manifest.find? T').elim "type" fun y => y.metatype)) (.type "tuple") = pure false) (hsub : isSubtype (.type X) (.type T') = pure true)
    (k : ∀ h', Fr h₀ L h' m → News h₀ L h' news →
      wpAny (model prog w) ((A₀.deeper (envX name scope L a cd cells)).mark (some (.ref e))) (execs (b₀ :: suite) (envX name scope L a cd cells)) Q (fun _ _ => False) { s' with heap := h' })
    (hk : scope.kind = .function) (hx : (envX name scope L a cd cells).kindOf x = some .globalImplicit) (hd : (x == ("__debug__" : PySem.Str)) = false) :
    wpAny (model prog w) (A₀.deeper (envX name scope L a cd cells)) (noteFrame (.ref e) (envX name scope L a cd cells))
      (fun _ s₂ => wpAny (model prog w) (A₀.deeper (envX name scope L a cd cells)) (setFlight (.ref e) none) (fun _ s₃ =>
        wpAny (model prog w) (A₀.deeper (envX name scope L a cd cells)) (handleBy (.ref e) (envX name scope L a cd cells) (.ExceptHandler (some (.Name x np)) none (b₀ :: suite) pos :: rest)) Q E s₃) E s₂) E s' := by
  obtain ⟨B, a0, hB, hl, hfl⟩ := R
  have hL : B.get? L = none := by
    obtain ⟨_, ⟨L', _, hf, hn', _⟩, _⟩ := hfl.2.2.1
    obtain rfl : L = L' := Option.some.inj hf
    exact hn'
  refine wpAny_looks_onW (Around.frames_deeper K.stack) rfl hfl fun h₄ hheld₄ hsm₄ => ?_
  refine wpAny_landsW hheld₄ fun h₅ hheld hsm₅' => ?_
  have hsm₅ := hsm₄.trans hsm₅'
  have hheld' := flyingW_base hB hheld
  have F₅ := F.of_stays hheld'.1 (hsm.trans hsm₅)
  obtain ⟨ob, hob, hobc⟩ := hheld'.there
  refine wpAny_handleBy_builtin (X := X) (T := T') (b := true) hexc hnt hsub
    (Calls.Name_function_global hk hx (Calls.loadGlobal_builtin (env := envX name scope L a cd cells) (hg.keeps F₅.keep) hmiss (hb.keeps F₅.keep) hv ⟨rfl, ⟨ob, hob, hobc⟩, ?_⟩) hd)
  refine lands_againW hheld fun h₆ hfl₆ hsm₆ => ?_
  have F₆ := F.of_stays (flyingW_base hB hfl₆).1 ((hsm.trans hsm₅).trans hsm₆)
  exact wpAny_mono (k h₆ F₆ fun q hq => ⟨hfl₆.1 _ _ (hl q hq).1, (fun z => by have := (hl q hq).1; rw [z, hL] at this; cases this), (hl q hq).2⟩) (fun _ _ q => q) fun _ _ x => x.elim
end
end Mine
namespace Mine
open PySem Calls
open LCg
section
variable {prog : Program} {w : World} {A : Around} {E : Value → Shared → Prop} {s : Shared} {h₀ : Heap} {L : Addr} {m : PySem.Str → Option Value} {env : Env}
/-- a range of any step as a comprehension's source -/
def SrcC (prog : Program) (w : World) (A : Around) (h₀ : Heap) (L : Addr) (m : PySem.Str → Option Value) (env : Env) (elt : Expr) (x : PySem.Str) (scope : Scope) (cl : List (PySem.Str × Addr)) (Fin : Shared → List Value → List (Addr × Obj) → Prop) (xv : Value) (s₁ : Shared) : Prop :=
  ∃ r a b c t u v n news, xv = .ref r ∧ A.handled = none ∧ Fr h₀ L s₁.heap m ∧ News h₀ L s₁.heap news ∧ IsRange s₁.heap r a b c t u v ∧ Builtin.Range.small a b c = true ∧ Builtin.Range.rangeSize a b c = ((n : Nat) : Int) ∧ n ≤ sizeLine ∧
    ∀ s₂ : Shared, (∃ h, s₂ = { s₁ with heap := h }) → CompRest prog w A h₀ L m env elt x scope cl s₂ (fun _ => True) (fun i v => ∃ t, v = .int (a + i * c) t) (Fin s₂) n 0 [] news
theorem steps_walks {I : Addr} (hh : A.handled = none) (a c : Int) (n : Nat) : Walks prog w A I [I] [I] n (fun i v => ∃ t, v = .int (a + i * c) t) (fun i h => IsRangeIter h I (a + (i : Nat) * c) ((n : Int) - (i : Nat)) c) := Walks.range hh I a c n
theorem steps_st {I : Addr} {a c : Int} {n : Nat} : ∀ i (h h' : Heap) (o : Obj) (nw : List (Addr × Obj)), IsRangeIter h I (a + (i : Nat) * c) ((n : Int) - (i : Nat)) c → h.get? I = some o → h'.get? I = some o → (∀ b o, h₀.get? b = some o → h'.get? b = some o) → News h₀ L h' nw → True → IsRangeIter h' I (a + (i : Nat) * c) ((n : Int) - (i : Nat)) c :=
  fun i h h' o nw st e e' _ _ _ => by
    have st' : h.get? I = some _ := st
    show h'.get? I = some _
    rw [e', ← e]; exact st'
theorem ListComp_R {elt iter : Expr} {x : PySem.Str} {px : Pos} {scope : Scope} {cl : List (PySem.Str × Addr)} {pos : Pos} {Q : Value → Shared → Prop} (F₀ : Fr h₀ L s.heap m)
    (hclos : closureFor scope env = pure cl) (hcell : ∀ y ∈ scope.names, y.2 ≠ .cell) (hkind : scope.kind = .function)
    (hnames : ∀ y ∈ scope.names, y.2 = .local → scope.names.lookup y.1 = some .local) (hx : scope.names.lookup x = some .local)
    (h : wpAny (model prog w) A (eval iter env) (SrcC prog w A h₀ L m env elt x scope cl (fun s₂ => FinE h₀ L m s₂ Q)) E s)
    (hs : ∀ x, foldedSetIterable iter env x = pure x := by intro _; rfl) :
    wpAny (model prog w) A (eval (.ListComp elt [⟨.Name x px, iter, [], 0⟩] scope pos) env) Q E s := by
  have _ := F₀
  rw [eval_ListComp]
  refine wpAny_comprehension_free (use := none) rfl hs hclos hkind hnames (wpAny_mono h (fun xv s₁ h₁ => ?_) fun _ _ e => e)
  obtain ⟨r, a, b, c, t, u, v, n, news, rfl, hh, F, N, hr, hsm, hn, hsz, R⟩ := h₁
  refine wpAny_pyIter_range hr hsm ?_
  refine block_U (steps_walks hh a c n) hsz (fun i h st => ⟨_, st⟩) steps_st hcell hkind hx (by show IsRangeIter _ _ _ _ _; rw [hn]; simpa using Heap.get?_push_size _ rfl) (fun b hb => ?_)
    (F.keeps fun _ _ e => Heap.get?_push_of_some _ e) (N.grown fun _ _ e => Heap.get?_push_of_some _ e) (Nat.ne_of_lt F.ns.lt) (next_is_new F) (fun p hp => Nat.ne_of_lt (Heap.lt_size (N p hp).1)) trivial (R _ ⟨_, rfl⟩) ?_
  · rw [List.mem_singleton.mp hb]
    show s₁.heap.objs.size < (s₁.heap.push _).objs.size
    rw [Heap.size_push]; exact Nat.lt_succ_self _
  · intro D C h tk m' ys news' F' N' o1 hn hC₀ hD₀ hCL hDL hCD offC fin
    refine ⟨m', hn, fun h'' hs'' => fin D h'' tk (F'.change hs'' hCL hC₀) (fun p hp => ?_) o1⟩
    refine ⟨hs''.extBut _ _ ?_ (N' p hp).1, (N' p hp).2⟩
    rcases List.mem_cons.mp hp with rfl | hp
    · exact Ne.symm hCD
    · exact offC p hp
end
section
variable {prog : Program} {w : World} {A₀ A : Around} {s : Shared} {base h₀ : Heap} {outer : List Env} {L : Addr} {m : PySem.Str → Option Value} {env : Env} {news : List (Addr × Obj)} {K : Frag}
  {p : Program} {loose : List PySem.Str} {mean : ExcName → Option Value} {mg mb : PySem.Str → Option Value}
  {R : Result → Shared → Prop} {name qual : PySem.Str} {params : Arguments} {body : List Stmt} {scope : Scope} {dV kV doc pm cdv ct oc : Value} {an od : Option Addr} {osl : Array (Option Value)} {f : Addr} {args : Args} {binds : List (PySem.Str × Value)}
/-- the library's code_defC, with what the callee keeps of the caller's heap -/
theorem codeA_cellsK
    (B : Below A₀ base outer h₀) (F : Fr h₀ L s.heap m) (X₀ : K.In h₀) (N : News h₀ L s.heap news) (T : Top p loose mean mg mb h₀) (hA : A.frames = some (env :: outer)) (hf : env.frame = some L) (hke : env.scope.kind = .function)
    (ho : K.lookup f = some ⟨oc, od, .func (fnOf name qual params body scope dV kV doc pm an cdv ct), osl⟩) (hcd : codeIn K cdv qual = true) (hroom : A.depth < recursionLimit)
    (hbind : BindsTo s (fnOf name qual params body scope dV kV doc pm an cdv ct) args binds) (hkind : (binds.all fun y => scope.names.lookup y.1 == some .local || scope.names.lookup y.1 == some .cell) = true)
    (hnd : ((cellsFrom 0 scope.names []).map (·.1)).Nodup)
    (h : ∀ g L' h₁ tk cells, Fr h₀ L g m → Fr g L' h₁ (bindL (envOfC qual scope L' f cdv).kindOf binds fun _ => none) → News g L' h₁ (cells ++ news) →
      CellsAre (bindC (envOfC qual scope L' f cdv).kindOf binds fun _ => none) (cellsFrom (L' + 1) scope.names []) cells → Below A base (env :: outer) g → K.In g → Top p loose mean mg mb g → (∀ p ∈ news, p.1 < L') →
      (∀ c o, c ∉ news.map (·.1) → s.heap.get? c = some o → g.get? c = some o) →
      wpAny (model prog w) (A.deeper (envOfC qual scope L' f cdv)) (execs body (envOfC qual scope L' f cdv))
        (fun fl s' => LeaveK h₀ L m g R (match fl with | .ret v => v | _ => .none) s')
        (fun e s' => wpAny (model prog w) (A.deeper (envOfC qual scope L' f cdv)) (leaving (envOfC qual scope L' f cdv) e) (fun _ s'' => R (.error e) s'') (fun e' s'' => R (.error e') s'') s')
        { s with heap := h₁, toks := tk })
    (hco : scope.isCoroutine = false) (hgen : scope.isGenerator = false) (hk : scope.kind = .function) : codeAny (model prog w) A (.call (.ref f) args) R s := by
  obtain ⟨FG, BG, st, lv⟩ := groundX (R := R) B F N hA hf hke
  refine codeAny_call_function (fd := fnOf name qual params body scope dV kV doc pm an cdv ct) hroom ((X₀.keeps F.keep) _ _ ho) rfl hco hgen rfl (codeRec_of (X₀.keeps F.keep) hcd) (hbind _ _ _ _ ?_)
  refine wpAny_newFunctionEnv_cells hk (kindsX hkind _) fun env' he s' x => ?_
  subst he
  refine ⟨(T.nolimit.keeps F.keep).keeps x.toInCall.keep, codeAny_func ?_⟩
  obtain ⟨h₁, tk, rfl, _⟩ := x.done
  have hk₁ := x.toInCall.keep
  obtain ⟨cells, NC, Y⟩ := Cl.news (h₀ := s.heap) (Nat.le_refl _) fun n c hm => ⟨x.cell n c (lookup_of_mem_nodup (cellsFrom_names scope.names 0 (s.heap.objs.size + 1) [] [] rfl ▸ hnd) hm), x.above n c hm⟩
  refine wpAny_mono (h _ s.heap.objs.size h₁ tk cells FG ⟨x.toInCall.ns, fun b o e => hk₁ b o (of_hideAll _ e), Nat.le_of_eq (hideAll_size _ _)⟩ (fun p hp => ?_) Y BG (X₀.keeps st) (T.keeps st) (fun p hp => Heap.lt_size (N p hp).1) fun c o hc e => hideAll_get _ e hc) (fun fl s' hl => lv _ _ hl) fun _ _ y => y
  rcases List.mem_append.mp hp with hp | hp
  · refine ⟨(NC p hp).1, (NC p hp).2.1, ?_⟩
    cases q : (hideAll s.heap (news.map (·.1))).get? p.1 with
    | none => rfl
    | some o => have := of_hideAll _ q; rw [(NC p hp).2.2] at this; cases this
  · exact ⟨hk₁ _ _ (N p hp).1, Nat.ne_of_lt (Heap.lt_size (N p hp).1), hideAll_none _ (List.mem_map_of_mem hp)⟩
end
end Mine
namespace Mine
open PySem Calls
local macro_rules | `(tactic| k_room) => `(tactic| ktr_room)
local macro_rules | `(tactic| walk_at "binaryOp RShift int int") => `(tactic| (with_reducible refine rshift_int (by omega) ?_))
def downs (n : Nat) : List Int := (List.range n).map fun (j : Nat) => ((n : Int) - 1 - (j : Int))
def oct (i k : Int) : Int := Builtin.bitAnd (i.fdiv (2 ^ (8 * k).toNat)) 255
theorem downs_length (n : Nat) : (downs n).length = n := by simp [downs]
theorem mem_downs {n : Nat} {k : Int} (h : k ∈ downs n) : 0 ≤ k ∧ k < n := by
  obtain ⟨j, hj, rfl⟩ := List.mem_map.mp h
  have := List.mem_range.mp hj
  omega
theorem size_downs (n : Nat) : Builtin.Range.rangeSize ((n : Int) - 1) (-1) (-1) = (n : Int) := by
  unfold Builtin.Range.rangeSize
  simp
  omega
section
variable {w : World} {p : Program} {loose : List PySem.Str} {mean : ExcName → Option Value} {mg mb : PySem.Str → Option Value} {dp un : Nat} {cn : PySem.Str} {cs : Scope} {L a : Addr} {ccd : Value} {cl : List (PySem.Str × Addr)} {outer : List Env}
  {A₀ : Around} {base h₀ : Heap} {m : PySem.Str → Option Value} {s : Shared} {Q E : Value → Shared → Prop} {news : List (Addr × Obj)}
theorem fresh_by {g h h' : Heap} {D : Addr} {o : Obj} {l : List (Addr × Obj)} (N : News g L h ((D, o) :: l)) (K : ∀ c o, h'.get? c = some o → g.get? c = some o) : h'.get? D = none := by
  cases e : h'.get? D with
  | none => rfl
  | some o' => have := K _ _ e; rw [(N _ (.head _)).2.2] at this; cases this
local macro_rules | `(tactic| walk_at "eval ListComp") => `(tactic| (k_here; k_dflt (refine ListComp_R (F₀ := by k_asm) (by rfl) (by decide) (by rfl) (by decide) (by rfl) ?_)))
theorem lnum_c {i : Int} {n : Nat} {u1 u2 : Tok} (h1 : 1 ≤ n) (h8 : n ≤ 8)
    (Bl : Below A₀ base outer h₀) (F : Fr h₀ L s.heap m) (X : (hd.heap_1 w.params).In h₀)
    (N : News h₀ L s.heap []) (T : Top p loose mean mg mb h₀) (hk : cs.kind = .function) (hdp : dp + 8 < recursionLimit) (hun : un + 60 < cLine)
    (hQ : ∀ h' tk' D ys, Fr h₀ L h' m → News h₀ L h' [(D, LCg.lst ys)] → (∀ c o, s.heap.get? c = some o → h'.get? c = some o) → s.heap.get? D = none → IntsAre ys ((downs n).map (oct i)) → Q (.ref D) { s with heap := h', toks := tk' }) :
    wpAny (model PySem.Challenge.rw_fq5014_01.row.prog w) (ktrTop dp un (some []) cn cs L a ccd cl outer) (PySem.call (.ref 1598) [.int i u1, .int n u2]) Q E s := by
  revert X; k_fill; intro X
  w_on
  refine wpAny_call ?_
  k_dflt (refine' codeA_cellsK ?k1 ?k2 ?k3 ?k4 ?k5 ?kA ?kF ?kK ?k6 ?k7 ?k8 ?k9 ?kB ?kD ?_ ?c2 ?c3 ?c4; (case kA => exact rfl); (case kF => exact rfl); (case kK => assumption); (case k1 => k_asm); (case k2 => k_asm); (case k3 => k_asm); (case k4 => k_asm); (case k5 => k_asm); (case k6 => k_is); (case k7 => k_is); (case k8 => ktr_room); (case k9 => exact BindsTo.of_eq rfl); (case kB => exact rfl); (case kD => decide +kernel); (case c2 => exact rfl); (case c3 => exact rfl); (case c4 => exact rfl); k_whole; intro g' L' h' tk' cells' FG' F' N' Y' B' X' T' l1 KG'; k_cells Y'; (try simp only [List.cons_append, List.nil_append] at N'); (try dsimp only); (try k_fold))
  k_steps
  refine ⟨_, _, _, _, _, _, _, n, _, rfl, rfl, by assumption, by assumption, by assumption, ?_, size_downs n, by rw [sizeLine_eq]; omega, ?_⟩
  · unfold Builtin.Range.small
    rw [size_downs]
    have e : ((-1 : Int) > 0) = False := by decide
    simp only [e, if_false]
    have h9 : ∀ x : Int, -10 ≤ x → x ≤ 10 → Builtin.Range.rangeFitsLong x = true := fun x h1 h2 => by
      unfold Builtin.Range.rangeFitsLong
      simp
      omega
    rw [h9 _ (by omega) (by omega), h9 (-1) (by omega) (by omega), h9 _ (by omega) (by omega), h9 _ (by omega) (by omega)]
    simp
  rintro _ ⟨g9, rfl⟩
  refine kcf_rest (ks := downs n) (oct i) (downs_length n) (fun j v hj hv => ?_) (fun k t I oI C oC D m₂ ys h tk E' hk hC hx F N off ne mk => ?_) ?_
  · obtain ⟨t, e⟩ := hv
    refine ⟨_, t, ?_, e⟩
    simp [downs, hj]
    omega
  · have hk2 := mem_downs hk
    simp only [LCg.Off3, and_true] at off
    k_steps
    exact ⟨rfl, _, rfl⟩
  · unfold KPfDone
    intro ys hI
    k_steps
    rename (∀ c o, _ → s.heap.get? c = some o → _) => K12
    rename News h₀ _ _ _ => N11
    refine hQ _ _ _ _ (by assumption) (fun q hq => N11 q ?_) (fun c o e => kept_by (K12 c o (fun z => nomatch z) e) (by assumption)) (fresh_by (by assumption) fun c o e => K12 c o (fun z => nomatch z) e) hI
    rw [List.mem_singleton.mp hq]
    exact .head _
theorem ledger_more {h h' : Heap} {D : Addr} {o : Obj} (N : News h₀ L h news) (N' : News h₀ L h' [(D, o)]) (k : ∀ c x, h.get? c = some x → h'.get? c = some x) : News h₀ L h' ((D, o) :: news) := fun q hq => by
  rcases List.mem_cons.mp hq with rfl | hq
  · exact N' _ (.head _)
  · exact ⟨k _ _ (N q hq).1, (N q hq).2⟩
theorem ledger_ne {h : Heap} {D : Addr} (N : News h₀ L h news) (f : h.get? D = none) : ∀ q ∈ news, q.1 ≠ D := fun q hq e => by
  have := (N q hq).1
  rw [e, f] at this
  cases this
theorem lnum_1 {i : Int} {u1 u2 : Tok}
    (Bl : Below A₀ base outer h₀) (F : Fr h₀ L s.heap m) (X : (hd.heap_1 w.params).In h₀)
    (N : News h₀ L s.heap news) (T : Top p loose mean mg mb h₀) (hk : cs.kind = .function) (hdp : dp + 8 < recursionLimit) (hun : un + 60 < cLine)
    (hQ : ∀ h' tk' D ys, Fr h₀ L h' m → News h₀ L h' ((D, LCg.lst ys) :: news) → (∀ q ∈ news, q.1 ≠ D) → IntsAre ys [oct i 0] → Q (.ref D) { s with heap := h', toks := tk' }) :
    wpAny (model PySem.Challenge.rw_fq5014_01.row.prog w) (ktrTop dp un (some []) cn cs L a ccd cl outer) (PySem.call (.ref 1598) [.int i u1, .int 1 u2]) Q E s :=
  lnum_c (n := 1) (by decide) (by decide) Bl F X (fun _ h => nomatch h) T hk hdp hun fun h' tk' D ys F' N' k f hi => hQ h' tk' D ys F' (ledger_more N N' k) (ledger_ne N f) hi
theorem lnum_2 {i : Int} {u1 u2 : Tok}
    (Bl : Below A₀ base outer h₀) (F : Fr h₀ L s.heap m) (X : (hd.heap_1 w.params).In h₀)
    (N : News h₀ L s.heap news) (T : Top p loose mean mg mb h₀) (hk : cs.kind = .function) (hdp : dp + 8 < recursionLimit) (hun : un + 60 < cLine)
    (hQ : ∀ h' tk' D ys, Fr h₀ L h' m → News h₀ L h' ((D, LCg.lst ys) :: news) → (∀ q ∈ news, q.1 ≠ D) → IntsAre ys [oct i 1, oct i 0] → Q (.ref D) { s with heap := h', toks := tk' }) :
    wpAny (model PySem.Challenge.rw_fq5014_01.row.prog w) (ktrTop dp un (some []) cn cs L a ccd cl outer) (PySem.call (.ref 1598) [.int i u1, .int 2 u2]) Q E s :=
  lnum_c (n := 2) (by decide) (by decide) Bl F X (fun _ h => nomatch h) T hk hdp hun fun h' tk' D ys F' N' k f hi => hQ h' tk' D ys F' (ledger_more N N' k) (ledger_ne N f) hi
theorem lnum_4 {i : Int} {u1 u2 : Tok}
    (Bl : Below A₀ base outer h₀) (F : Fr h₀ L s.heap m) (X : (hd.heap_1 w.params).In h₀)
    (N : News h₀ L s.heap news) (T : Top p loose mean mg mb h₀) (hk : cs.kind = .function) (hdp : dp + 8 < recursionLimit) (hun : un + 60 < cLine)
    (hQ : ∀ h' tk' D ys, Fr h₀ L h' m → News h₀ L h' ((D, LCg.lst ys) :: news) → (∀ q ∈ news, q.1 ≠ D) → IntsAre ys [oct i 3, oct i 2, oct i 1, oct i 0] → Q (.ref D) { s with heap := h', toks := tk' }) :
    wpAny (model PySem.Challenge.rw_fq5014_01.row.prog w) (ktrTop dp un (some []) cn cs L a ccd cl outer) (PySem.call (.ref 1598) [.int i u1, .int 4 u2]) Q E s :=
  lnum_c (n := 4) (by decide) (by decide) Bl F X (fun _ h => nomatch h) T hk hdp hun fun h' tk' D ys F' N' k f hi => hQ h' tk' D ys F' (ledger_more N N' k) (ledger_ne N f) hi
end
end Mine
namespace Mine
open PySem Calls
section
variable {prog : Program} {w : World} {A₀ A : Around} {s : Shared} {base h₀ : Heap} {outer : List Env} {L : Addr} {m : PySem.Str → Option Value} {env : Env} {news : List (Addr × Obj)} {K : Frag}
  {p : Program} {loose : List PySem.Str} {mean : ExcName → Option Value} {mg mb : PySem.Str → Option Value}
  {R : Result → Shared → Prop} {name qual : PySem.Str} {params : Arguments} {body : List Stmt} {scope : Scope} {dV kV doc pm cdv ct oc : Value} {an od : Option Addr} {osl : Array (Option Value)} {f : Addr} {args : Args} {binds : List (PySem.Str × Value)}
/-- entering a def, with what the callee keeps of the caller's heap -/
theorem codeA_defK
    (B : Below A₀ base outer h₀) (F : Fr h₀ L s.heap m) (X₀ : K.In h₀) (N : News h₀ L s.heap news) (T : Top p loose mean mg mb h₀) (hA : A.frames = some (env :: outer)) (hf : env.frame = some L) (hke : env.scope.kind = .function)
    (ho : K.lookup f = some ⟨oc, od, .func (fnOf name qual params body scope dV kV doc pm an cdv ct), osl⟩) (hcd : codeIn K cdv qual = true) (hroom : A.depth < recursionLimit)
    (hbind : BindsTo s (fnOf name qual params body scope dV kV doc pm an cdv ct) args binds) (hloc : ∀ y ∈ binds, scope.names.lookup y.1 = some .local)
    (h : ∀ g L' h₁, Fr h₀ L g m → Fr g L' h₁ (fun y => binds.reverse.lookup y) → News g L' h₁ news → Below A base (env :: outer) g → K.In g → Top p loose mean mg mb g → (∀ c o, c ∉ news.map (·.1) → s.heap.get? c = some o → g.get? c = some o) →
      wpAny (model prog w) (A.deeper (envOf qual scope L' f cdv)) (execs body (envOf qual scope L' f cdv))
        (fun fl s' => LeaveK h₀ L m g R (match fl with | .ret v => v | _ => .none) s')
        (fun e s' => wpAny (model prog w) (A.deeper (envOf qual scope L' f cdv)) (leaving (envOf qual scope L' f cdv) e) (fun _ s'' => R (.error e) s'') (fun e' s'' => R (.error e') s'') s')
        { s with heap := h₁, toks := s.toks + binds.length })
    (hco : scope.isCoroutine = false) (hgen : scope.isGenerator = false) (hk : scope.kind = .function)
    (hcell : ∀ x ∈ scope.names, x.2 ≠ .cell) : codeAny (model prog w) A (.call (.ref f) args) R s := by
  obtain ⟨FG, BG, st, lv⟩ := groundX (R := R) B F N hA hf hke
  refine codeAny_call_def (fd := fnOf name qual params body scope dV kV doc pm an cdv ct) (body := body) (binds := binds) hroom ((X₀.keeps F.keep) _ _ ho) rfl (T.nolimit.keeps F.keep) (codeRec_of (X₀.keeps F.keep) hcd) rfl hbind hcell hloc (fun h₁ hns hk₁ => ?_) hco hgen hk
  exact wpAny_mono (h _ s.heap.objs.size h₁ FG ⟨hns, fun b o e => hk₁ b o (of_hideAll _ e), Nat.le_of_eq (hideAll_size _ _)⟩
    (fun p hp => ⟨hk₁ _ _ (N p hp).1, Nat.ne_of_lt (Heap.lt_size (N p hp).1), hideAll_none _ (List.mem_map_of_mem hp)⟩) BG (X₀.keeps st) (T.keeps st) fun c o hc e => hideAll_get _ e hc) (fun fl s' hl => lv _ _ hl) fun _ _ y => y
end
end Mine
namespace Mine
open PySem Calls
local macro_rules | `(tactic| k_room) => `(tactic| ktr_room)
local macro_rules | `(tactic| walk_at "enterA") => `(tactic| (k_dflt (refine' codeA_defK ?k1 ?k2 ?k3 ?k4 ?k5 ?kA ?kF ?kK ?k6 ?k7 ?k8 ?k9 ?kB ?_ ?c2 ?c3 ?c4 ?c5; (case kA => exact rfl); (case kF => exact rfl); (case kK => assumption); (case k1 => k_asm); (case k2 => k_asm); (case k3 => k_asm); (case k4 => k_asm); (case k5 => k_asm); (case k6 => k_is); (case k7 => k_is); (case k8 => ktr_room); (case k9 => first | exact BindsTo.of_eq rfl | (refine' kp_binds ?kx ?ke; (case kx => k_in); (case ke => exact fun _ => rfl))); (case c5 => decide); (case kB => exact locs rfl); (case c2 => exact rfl); (case c3 => exact rfl); (case c4 => exact rfl); k_whole; intro g' L' h' FG' F' N' B' X' T' KG'; (try dsimp only); (try k_fold))))
local macro_rules | `(tactic| walk_at "useNum") => `(tactic| (k_dflt (first
  | (refine' lnum_1 ?b ?f ?x ?n ?t ?k ?d ?u ?_; (case b => assumption); (case f => assumption); (case x => assumption); (case n => assumption); (case t => assumption); (case k => exact rfl); (case d => ktr_room); (case u => ktr_units); intro h6 tk6 D6 ys6 F6 N6 ne6 hi6)
  | (refine' lnum_2 ?b ?f ?x ?n ?t ?k ?d ?u ?_; (case b => assumption); (case f => assumption); (case x => assumption); (case n => assumption); (case t => assumption); (case k => exact rfl); (case d => ktr_room); (case u => ktr_units); intro h6 tk6 D6 ys6 F6 N6 ne6 hi6)
  | (refine' lnum_4 ?b ?f ?x ?n ?t ?k ?d ?u ?_; (case b => assumption); (case f => assumption); (case x => assumption); (case n => assumption); (case t => assumption); (case k => exact rfl); (case d => ktr_room); (case u => ktr_units); intro h6 tk6 D6 ys6 F6 N6 ne6 hi6))))
local macro_rules | `(tactic| walk_at "call ref") => `(tactic| (k_here; (with_reducible show wpAny _ _ (call (Value.ref 1598) [Value.int _ _, Value.int _ _]) _ _ _); walk_at "useNum"))
/-- the octets, as ints, that a header lays ahead of its length -/
def frontI (v f st o : Int) : Option (List Int) :=
  if 3 ≤ v then
    if (0 ≤ v ∧ v ≤ 255) ∧ (0 ≤ f ∧ f ≤ 255) ∧ (-32768 ≤ st ∧ st ≤ 32767) ∧ (0 ≤ o ∧ o ≤ 255) then some [v, f, oct st 1, oct st 0, o] else none
  else if (0 ≤ v ∧ v ≤ 255) ∧ (0 ≤ f ∧ f ≤ 255) ∧ (-128 ≤ st ∧ st ≤ 127) ∧ (0 ≤ o ∧ o ≤ 255) then some [v, f, oct st 0, o] else none
section
variable {w : World} {p : Program} {loose : List PySem.Str} {mean : ExcName → Option Value} {mg mb : PySem.Str → Option Value} {dp un : Nat} {cn : PySem.Str} {cs : Scope} {L a : Addr} {ccd : Value} {cl : List (PySem.Str × Addr)} {outer : List Env}
  {A₀ : Around} {base h₀ : Heap} {m : PySem.Str → Option Value} {s : Shared} {Q E : Value → Shared → Prop} {news : List (Addr × Obj)}
theorem lfront_c {v f st o : Int} {u1 u2 u3 u4 : Tok}
    (Bl : Below A₀ base outer h₀) (F : Fr h₀ L s.heap m) (X : (hd.heap_1 w.params).In h₀)
    (N : News h₀ L s.heap []) (T : Top p loose mean mg mb h₀) (hk : cs.kind = .function) (hdp : dp + 15 < recursionLimit) (hun : un + 80 < cLine)
    (hN : frontI v f st o = none → ∀ h' tk', Fr h₀ L h' m → (∀ c o, s.heap.get? c = some o → h'.get? c = some o) → Q .none { s with heap := h', toks := tk' })
    (hQ : ∀ C, frontI v f st o = some C → ∀ h' tk' D ys, Fr h₀ L h' m → News h₀ L h' [(D, W.listOf ys.toArray 0)] → (∀ c o, s.heap.get? c = some o → h'.get? c = some o) → s.heap.get? D = none → IntsAre ys C → Q (.ref D) { s with heap := h', toks := tk' }) :
    wpAny (model PySem.Challenge.rw_fq5014_01.row.prog w) (ktrTop dp un (some []) cn cs L a ccd cl outer) (PySem.call (.ref 1605) [.int v u1, .int f u2, .int st u3, .int o u4]) Q E s := by
  revert X; k_fill; intro X
  w_on
  refine wpAny_call ?_
  walk_at "enterA"
  rename (∀ c o, _ → s.heap.get? c = some o → _) => K12
  k_steps
  all_goals first
    | (refine hN ?_ _ _ (by assumption) (fun c o e => kept_by (K12 c o (fun z => nomatch z) e) (by assumption))
       unfold frontI
       split <;> rw [if_neg (by omega)])
    | (rename News h₀ _ _ _ => N11
       refine hQ _ ?_ _ _ _ _ (by assumption) (fun q hq => N11 q ?_) (fun c o e => kept_by (K12 c o (fun z => nomatch z) e) (by assumption)) (fresh_by (by assumption) fun c o e => K12 c o (fun z => nomatch z) e) (by assumption)
       · unfold frontI
         first
         | (rw [if_pos (by omega), if_pos (by omega)]; rfl)
         | (rw [if_neg (by omega), if_pos (by omega)]; rfl)
       · rw [List.mem_singleton.mp hq]
         exact .head _)
theorem lfront_n {v f st o : Int} {u1 u2 u3 u4 : Tok}
    (Bl : Below A₀ base outer h₀) (F : Fr h₀ L s.heap m) (X : (hd.heap_1 w.params).In h₀)
    (N : News h₀ L s.heap news) (T : Top p loose mean mg mb h₀) (hk : cs.kind = .function) (hdp : dp + 15 < recursionLimit) (hun : un + 80 < cLine)
    (hN : frontI v f st o = none → ∀ h' tk', Fr h₀ L h' m → News h₀ L h' news → Q .none { s with heap := h', toks := tk' })
    (hQ : ∀ C, frontI v f st o = some C → ∀ h' tk' D ys, Fr h₀ L h' m → News h₀ L h' ((D, W.listOf ys.toArray 0) :: news) → (∀ q ∈ news, q.1 ≠ D) → IntsAre ys C → Q (.ref D) { s with heap := h', toks := tk' }) :
    wpAny (model PySem.Challenge.rw_fq5014_01.row.prog w) (ktrTop dp un (some []) cn cs L a ccd cl outer) (PySem.call (.ref 1605) [.int v u1, .int f u2, .int st u3, .int o u4]) Q E s :=
  lfront_c Bl F X (fun _ h => nomatch h) T hk hdp hun (fun e h' tk' F' k => hN e h' tk' F' fun q hq => ⟨k _ _ (N q hq).1, (N q hq).2⟩)
    fun C e h' tk' D ys F' N' k f hi => hQ C e h' tk' D ys F' (ledger_more N N' k) (ledger_ne N f) hi
end
end Mine
namespace Mine
open PySem Calls
local macro_rules | `(tactic| k_room) => `(tactic| ktr_room)
local macro_rules | `(tactic| walk_at "enterA") => `(tactic| (k_dflt (refine' codeA_defK ?k1 ?k2 ?k3 ?k4 ?k5 ?kA ?kF ?kK ?k6 ?k7 ?k8 ?k9 ?kB ?_ ?c2 ?c3 ?c4 ?c5; (case kA => exact rfl); (case kF => exact rfl); (case kK => assumption); (case k1 => k_asm); (case k2 => k_asm); (case k3 => k_asm); (case k4 => k_asm); (case k5 => k_asm); (case k6 => k_is); (case k7 => k_is); (case k8 => ktr_room); (case k9 => first | exact BindsTo.of_eq rfl | (refine' kp_binds ?kx ?ke; (case kx => k_in); (case ke => exact fun _ => rfl))); (case c5 => decide); (case kB => exact locs rfl); (case c2 => exact rfl); (case c3 => exact rfl); (case c4 => exact rfl); k_whole; intro g' L' h' FG' F' N' B' X' T' KG'; (try dsimp only); (try k_fold))))
local macro_rules | `(tactic| walk_at "useNum") => `(tactic| (k_dflt (first
  | (refine' lnum_1 ?b ?f ?x ?n ?t ?k ?d ?u ?_; (case b => assumption); (case f => assumption); (case x => assumption); (case n => assumption); (case t => assumption); (case k => exact rfl); (case d => ktr_room); (case u => ktr_units); intro h6 tk6 D6 ys6 F6 N6 ne6 hi6)
  | (refine' lnum_2 ?b ?f ?x ?n ?t ?k ?d ?u ?_; (case b => assumption); (case f => assumption); (case x => assumption); (case n => assumption); (case t => assumption); (case k => exact rfl); (case d => ktr_room); (case u => ktr_units); intro h6 tk6 D6 ys6 F6 N6 ne6 hi6)
  | (refine' lnum_4 ?b ?f ?x ?n ?t ?k ?d ?u ?_; (case b => assumption); (case f => assumption); (case x => assumption); (case n => assumption); (case t => assumption); (case k => exact rfl); (case d => ktr_room); (case u => ktr_units); intro h6 tk6 D6 ys6 F6 N6 ne6 hi6))))
local macro_rules | `(tactic| walk_at "call ref") => `(tactic| (k_here; (with_reducible show wpAny _ _ (call (Value.ref 1598) [Value.int _ _, Value.int _ _]) _ _ _); walk_at "useNum"))
section
variable {w : World} {p : Program} {loose : List PySem.Str} {mean : ExcName → Option Value} {mg mb : PySem.Str → Option Value} {dp un : Nat} {cn : PySem.Str} {cs : Scope} {L a : Addr} {ccd : Value} {cl : List (PySem.Str × Addr)} {outer : List Env}
  {A₀ : Around} {base h₀ : Heap} {m : PySem.Str → Option Value} {s : Shared} {Q E : Value → Shared → Prop} {news : List (Addr × Obj)}
theorem lasked_c {v : Int} {u1 : Tok}
    (Bl : Below A₀ base outer h₀) (F : Fr h₀ L s.heap m) (X : (hd.heap_1 w.params).In h₀)
    (N : News h₀ L s.heap []) (T : Top p loose mean mg mb h₀) (hk : cs.kind = .function) (hdp : dp + 15 < recursionLimit) (hun : un + 80 < cLine)
    (hQ : ∀ h' tk', Fr h₀ L h' m → (∀ c o, s.heap.get? c = some o → h'.get? c = some o) → Q (.bool true) { s with heap := h', toks := tk' }) :
    wpAny (model PySem.Challenge.rw_fq5014_01.row.prog w) (ktrTop dp un (some []) cn cs L a ccd cl outer) (PySem.call (.ref 1612) [.int v u1]) Q E s := by
  revert X; k_fill; intro X
  w_on
  refine wpAny_call ?_
  walk_at "enterA"
  rename (∀ c o, _ → s.heap.get? c = some o → _) => K12
  k_steps
  all_goals first
    | exact hQ _ _ (by assumption) (fun c o e => kept_by (K12 c o (fun z => nomatch z) e) (by assumption))
    | exact absurd ((beq_self_eq_true (decide (4 < v))).symm.trans (by assumption)) (by decide)
    | (rw [beq_self_eq_true]; exact hQ _ _ (by assumption) (fun c o e => kept_by (K12 c o (fun z => nomatch z) e) (by assumption)))
theorem lasked_n {v : Int} {u1 : Tok}
    (Bl : Below A₀ base outer h₀) (F : Fr h₀ L s.heap m) (X : (hd.heap_1 w.params).In h₀)
    (N : News h₀ L s.heap news) (T : Top p loose mean mg mb h₀) (hk : cs.kind = .function) (hdp : dp + 15 < recursionLimit) (hun : un + 80 < cLine)
    (hQ : ∀ h' tk', Fr h₀ L h' m → News h₀ L h' news → Q (.bool true) { s with heap := h', toks := tk' }) :
    wpAny (model PySem.Challenge.rw_fq5014_01.row.prog w) (ktrTop dp un (some []) cn cs L a ccd cl outer) (PySem.call (.ref 1612) [.int v u1]) Q E s :=
  lasked_c Bl F X (fun _ h => nomatch h) T hk hdp hun fun h' tk' F' k => hQ h' tk' F' fun q hq => ⟨k _ _ (N q hq).1, (N q hq).2⟩
end
end Mine
namespace Mine
open PySem Calls
open KBw (bInts)
theorem oct_eq (i k : Int) : oct i k = i.fdiv (2 ^ (8 * k).toNat) % 256 := by unfold oct; exact bitAnd_m8 _
theorem dig10 (a : Int) : ((dig 1 a 0).toNat : Int) = oct a 0 := by
  have e : oct a 0 = a % 256 := by rw [oct_eq]; show a.fdiv 1 % 256 = _; rw [Int.fdiv_one]
  rw [e]
  have : (dig 1 a 0).toNat = (a % 256).toNat := by
    show ((a % 256).toNat / 1 % 256) % 2 ^ 8 = _
    omega
  rw [this]; omega
theorem dig20 (a : Int) : ((dig 2 a 0).toNat : Int) = oct a 0 := by
  have e : oct a 0 = a % 256 := by rw [oct_eq]; show a.fdiv 1 % 256 = _; rw [Int.fdiv_one]
  rw [e]
  have : (dig 2 a 0).toNat = ((a % 65536).toNat / 1 % 256) % 2 ^ 8 := rfl
  rw [this]; omega
theorem dig21 (a : Int) : ((dig 2 a 1).toNat : Int) = oct a 1 := by
  have e : oct a 1 = a / 256 % 256 := by rw [oct_eq]; show a.fdiv 256 % 256 = _; rw [Int.fdiv_eq_ediv_of_nonneg _ (by decide)]
  rw [e]
  have : (dig 2 a 1).toNat = ((a % 65536).toNat / 256 % 256) % 2 ^ 8 := rfl
  rw [this]; omega
theorem dig40 (a : Int) : ((dig 4 a 0).toNat : Int) = oct a 0 := by
  have e : oct a 0 = a % 256 := by rw [oct_eq]; show a.fdiv 1 % 256 = _; rw [Int.fdiv_one]
  rw [e]
  have : (dig 4 a 0).toNat = ((a % 4294967296).toNat / 1 % 256) % 2 ^ 8 := rfl
  rw [this]; omega
theorem dig41 (a : Int) : ((dig 4 a 1).toNat : Int) = oct a 1 := by
  have e : oct a 1 = a / 256 % 256 := by rw [oct_eq]; show a.fdiv 256 % 256 = _; rw [Int.fdiv_eq_ediv_of_nonneg _ (by decide)]
  rw [e]
  have : (dig 4 a 1).toNat = ((a % 4294967296).toNat / 256 % 256) % 2 ^ 8 := rfl
  rw [this]; omega
theorem dig42 (a : Int) : ((dig 4 a 2).toNat : Int) = oct a 2 := by
  have e : oct a 2 = a / 65536 % 256 := by rw [oct_eq]; show a.fdiv 65536 % 256 = _; rw [Int.fdiv_eq_ediv_of_nonneg _ (by decide)]
  rw [e]
  have : (dig 4 a 2).toNat = ((a % 4294967296).toNat / 65536 % 256) % 2 ^ 8 := rfl
  rw [this]; omega
theorem dig43 (a : Int) : ((dig 4 a 3).toNat : Int) = oct a 3 := by
  have e : oct a 3 = a / 16777216 % 256 := by rw [oct_eq]; show a.fdiv 16777216 % 256 = _; rw [Int.fdiv_eq_ediv_of_nonneg _ (by decide)]
  rw [e]
  have : (dig 4 a 3).toNat = ((a % 4294967296).toNat / 16777216 % 256) % 2 ^ 8 := rfl
  rw [this]; omega
theorem oct_small {a : Int} (h : 0 ≤ a ∧ a ≤ 255) : oct a 0 = a := by
  rw [oct_eq]; show a.fdiv 1 % 256 = _; rw [Int.fdiv_one]; omega
theorem bInts_append (A B : Array UInt8) : bInts (A ++ B) = bInts A ++ bInts B := by
  unfold bInts; rw [Array.toList_append, List.map_append]
theorem be4_ints (i : Int) : bInts (be4 i) = [oct i 3, oct i 2, oct i 1, oct i 0] := by
  rw [← dig43, ← dig42, ← dig41, ← dig40]; rfl
theorem front_ints (v f st o : Int) : frontI v f st o = (frontB v f st o).map bInts := by
  unfold frontI frontB
  split
  · split
    · rename_i h
      rw [show (some _ : Option (Array UInt8)).map bInts = some [((dig 1 v 0).toNat : Int), ((dig 1 f 0).toNat : Int), ((dig 2 st 1).toNat : Int), ((dig 2 st 0).toNat : Int), ((dig 1 o 0).toNat : Int)] from rfl]
      rw [dig10, dig10, dig10, dig21, dig20, oct_small h.1, oct_small h.2.1, oct_small h.2.2.2]
    · rfl
  · split
    · rename_i h
      rw [show (some _ : Option (Array UInt8)).map bInts = some [((dig 1 v 0).toNat : Int), ((dig 1 f 0).toNat : Int), ((dig 1 st 0).toNat : Int), ((dig 1 o 0).toNat : Int)] from rfl]
      rw [dig10, dig10, dig10, dig10, oct_small h.1, oct_small h.2.1, oct_small h.2.2.2]
    · rfl
theorem front_none {v f st o : Int} : frontI v f st o = none ↔ frontB v f st o = none := by rw [front_ints]; cases frontB v f st o <;> simp
theorem front_some {v f st o : Int} {C : Array UInt8} (h : frontB v f st o = some C) : frontI v f st o = some (bInts C) := by rw [front_ints, h]; rfl
end Mine
namespace Mine
open PySem Calls
local macro_rules | `(tactic| k_room) => `(tactic| ktr_room)
local macro_rules | `(tactic| walk_at "enterA") => `(tactic| (k_dflt (refine' codeA_defK ?k1 ?k2 ?k3 ?k4 ?k5 ?kA ?kF ?kK ?k6 ?k7 ?k8 ?k9 ?kB ?_ ?c2 ?c3 ?c4 ?c5; (case kA => exact rfl); (case kF => exact rfl); (case kK => assumption); (case k1 => k_asm); (case k2 => k_asm); (case k3 => k_asm); (case k4 => k_asm); (case k5 => k_asm); (case k6 => k_is); (case k7 => k_is); (case k8 => ktr_room); (case k9 => first | exact BindsTo.of_eq rfl | (refine' kp_binds ?kx ?ke; (case kx => k_in); (case ke => exact fun _ => rfl))); (case c5 => decide); (case kB => exact locs rfl); (case c2 => exact rfl); (case c3 => exact rfl); (case c4 => exact rfl); k_whole; intro g' L' h' FG' F' N' B' X' T' KG'; (try dsimp only); (try k_fold))))
local macro_rules | `(tactic| walk_at "useNum") => `(tactic| (k_dflt (first
  | (refine' lnum_1 ?b ?f ?x ?n ?t ?k ?d ?u ?_; (case b => assumption); (case f => assumption); (case x => assumption); (case n => assumption); (case t => assumption); (case k => exact rfl); (case d => ktr_room); (case u => ktr_units); intro h6 tk6 D6 ys6 F6 N6 ne6 hi6)
  | (refine' lnum_2 ?b ?f ?x ?n ?t ?k ?d ?u ?_; (case b => assumption); (case f => assumption); (case x => assumption); (case n => assumption); (case t => assumption); (case k => exact rfl); (case d => ktr_room); (case u => ktr_units); intro h6 tk6 D6 ys6 F6 N6 ne6 hi6)
  | (refine' lnum_4 ?b ?f ?x ?n ?t ?k ?d ?u ?_; (case b => assumption); (case f => assumption); (case x => assumption); (case n => assumption); (case t => assumption); (case k => exact rfl); (case d => ktr_room); (case u => ktr_units); intro h6 tk6 D6 ys6 F6 N6 ne6 hi6))))
local macro_rules | `(tactic| walk_at "call ref") => `(tactic| (k_here; (with_reducible show wpAny _ _ (call (Value.ref 1598) [Value.int _ _, Value.int _ _]) _ _ _); walk_at "useNum"))
def lawStmt : Stmt := PW.main.body.getLastD (.Pass default)
def lawBody : List Stmt := match lawStmt with | .FunctionDef _ _ b _ _ _ _ _ _ _ => b | _ => []
def lawScope : Scope := match lawStmt with | .FunctionDef _ _ _ _ _ _ s _ _ _ => s | _ => default
def forBody : List Stmt := match lawBody.drop 6 with | .For _ _ b _ _ :: _ => b | _ => []
def turn2 : List Stmt := forBody.drop 10
def sOf (x : String) : PySem.Str := PySem.Str.ofString x
local macro_rules | `(tactic| walk_at "useFront") => `(tactic| (k_dflt (refine' lfront_n ?b ?f ?x ?n ?t ?k ?d ?u ?hn ?hq; (case b => assumption); (case f => assumption); (case x => assumption); (case n => assumption); (case t => assumption); (case k => exact rfl); (case d => ktr_room); (case u => ktr_units); (case' hn => intro e6 h6 tk6 F6 N6); (case' hq => intro C6 e6 h6 tk6 D6 ys6 F6 N6 ne6 hi6))))
local macro_rules | `(tactic| walk_at "call ref") => `(tactic| (k_here; (with_reducible show wpAny _ _ (call (Value.ref 1605) [Value.int _ _, Value.int _ _, Value.int _ _, Value.int _ _]) _ _ _); walk_at "useFront"))
local macro_rules | `(tactic| walk_at "call type:list") => `(tactic| (k_here; (with_reducible show wpAny _ _ (call (Value.type "list") [Value.bytes _ _]) _ _ _); k_dflt (refine' list_bytes_K ?k1 ?k2 ?k3 ?k4 ?_; (case k1 => k_asm); (case k2 => k_asm); (case k3 => exact rfl); (case k4 => assumption); k_whole); intro D' ys' c' h' tk' F' N' l1 hi'; (try k_lt l1); (try k_sweep)))
local macro_rules | `(tactic| walk_at "binaryOp Add ref ref") => `(tactic| (k_here; (with_reducible show wpAny _ _ (binaryOp _ (Value.ref _) (Value.ref _)) _ _ _); k_dflt (refine' kmk_add_ints ?F ?N ?a ?b ?i ?j ?_ ?z; (case F => k_asm); (case N => k_asm); (case a => kmk_list); (case b => kmk_list); (case i => l_ints); (case j => l_ints); (case z => (simp only [sizeLine_eq, List.length_cons, List.length_nil, List.length_append]; omega))); intro D' ws' h' F' N' l1 hI'; (try k_lt l1); (try k_sweep)))
section
variable {w : World} {p : Program} {loose : List PySem.Str} {mean : ExcName → Option Value} {mg mb : PySem.Str → Option Value} {dp un : Nat} {L a : Addr} {ccd : Value} {cl : List (PySem.Str × Addr)} {outer : List Env}
  {A₀ : Around} {base h₀ : Heap} {m : PySem.Str → Option Value} {s : Shared} {Q : Flow → Shared → Prop} {E : Value → Shared → Prop} {news : List (Addr × Obj)}
theorem turn_b {v st : Int} {u1 u2 : Tok}
    (Bl : Below callerA h₀ [] h₀) (F : Fr h₀ L s.heap (fun z => if z = PySem.Str.ofString "version" then some (.int v u1) else if z = PySem.Str.ofString "stream" then some (.int st u2) else m z)) (X : (hd.heap_1 w.params).In h₀)
    (N : News h₀ L s.heap news) (T : Top p loose mean mg mb h₀)
    (hQ : ∀ h' tk' m', Fr h₀ L h' m' → (m' (PySem.Str.ofString "n") = m (PySem.Str.ofString "n") ∧ m' (PySem.Str.ofString "f") = m (PySem.Str.ofString "f") ∧ m' (PySem.Str.ofString "laid") = m (PySem.Str.ofString "laid")) → News h₀ L h' news → Q .next { s with heap := h', toks := tk' }) :
    wq (model PySem.Challenge.rw_fq5014_01.row.prog w) (callerA.deeper (envX (sOf "law") lawScope L a ccd cl)) (execs turn2 (envX (sOf "law") lawScope L a ccd cl)) Q E s := by
  revert X; k_fill; intro X
  conv in (occs := *) lawScope => all_goals whnf
  conv in turn2 => whnf
  dsimp only [sOf]
  w_on
  refine wq_execs_append (pre := [_]) ?_
  k_steps
  · dsimp only
    refine wq_execs_cons (wq_Try ?_)
    refine wq_execs_cons (wq_Assign_Name (wq_MethodCall ?_))
    k_steps
    refine wq_callWith_M (by assumption) (by assumption) (.head _) (by k_is) ?_
    k_steps
    k_dflt (refine' enc_m ?b ?f ?x ?n ?t ?k ?d ?u ?q ?e; (case b => assumption); (case f => assumption); (case x => assumption); (case n => assumption); (case t => assumption); (case k => exact rfl); (case d => ktr_room); (case u => ktr_units))
    case q =>
      intro C hC h7 tk7 t7 F7 N7
      rename frontI _ _ _ _ = some _ => e9
      rename List Int => C6
      obtain rfl : C6 = KBw.bInts C := by rw [front_some hC] at e9; exact (Option.some.inj e9).symm
      have z9 : (C ++ be4 0).size ≤ sizeLine := by
        rw [sizeLine_eq, Array.size_append, show (be4 0).size = 4 from rfl]
        have := frontB_size hC
        omega
      have z8 : (KBw.bInts C).length ≤ 5 := by rw [KBw.ints_length]; exact frontB_size hC
      have e10 : KBw.bInts (C ++ be4 0) = KBw.bInts C ++ [0, 0, 0, 0] := by rw [bInts_append, be4_ints]; rfl
      k_steps
      dsimp only
      refine wq_any ?_
      k_steps
      dsimp only
      refine wq_any ?_
      k_steps
      rename Fr h₀ _ _ _ => F9
      rename News _ _ _ _ => N9
      exact hQ _ _ _ F9 ⟨rfl, rfl, rfl⟩ fun q hq => N9 q (by repeat (first | exact hq | apply List.mem_append_right | apply List.mem_cons_of_mem))
    case e =>
      intro hC g7 h7 tk7 e7 F7 R7 U7
      rename frontI _ _ _ _ = some _ => e9
      exact absurd (e9.symm.trans (front_none.mpr hC)) (fun z => nomatch z)
  · dsimp only
    refine wq_execs_cons (wq_Try ?_)
    refine wq_execs_cons (wq_Assign_Name (wq_MethodCall ?_))
    k_steps
    refine wq_callWith_M (by assumption) (by assumption) (.head _) (by k_is) ?_
    k_steps
    k_dflt (refine' enc_m ?b ?f ?x ?n ?t ?k ?d ?u ?q ?e; (case b => assumption); (case f => assumption); (case x => assumption); (case n => assumption); (case t => assumption); (case k => exact rfl); (case d => ktr_room); (case u => ktr_units))
    case q =>
      intro C hC h7 tk7 t7 F7 N7
      rename frontI _ _ _ _ = none => e9
      exact absurd (e9.symm.trans (front_some hC)) (fun z => nomatch z)
    case e =>
      intro hC g7 h7 tk7 e7 F7 R7 U7
      refine caught_X (T' := "Exception") (X := "struct.error") Bl F7 U7 R7 T.g (mg_none_of X T.g (by k_is)) T.b ((T.builtins _ (by decide)).trans PyProof.Rows.Boot.«Exception») PySem.F.isExc_Exception PySem.F.notTuple_Exception (by rw [isSubtype_type]; kernel_rfl) ?_ rfl rfl (by decide)
      intro h8 F8 N8
      k_steps
      refine wq_any ?_
      k_steps
      rename Fr h₀ _ _ _ => F9
      refine hQ _ _ _ F9 ⟨rfl, rfl, rfl⟩ ?_
      exact fun q hq => by
        rename News _ _ _ _ => N9
        exact N9 q (.tail _ (.tail _ (.tail _ hq)))
end
end Mine
namespace Mine
open PySem Calls
local macro_rules | `(tactic| k_room) => `(tactic| ktr_room)
local macro_rules | `(tactic| walk_at "enterA") => `(tactic| (k_dflt (refine' codeA_defK ?k1 ?k2 ?k3 ?k4 ?k5 ?kA ?kF ?kK ?k6 ?k7 ?k8 ?k9 ?kB ?_ ?c2 ?c3 ?c4 ?c5; (case kA => exact rfl); (case kF => exact rfl); (case kK => assumption); (case k1 => k_asm); (case k2 => k_asm); (case k3 => k_asm); (case k4 => k_asm); (case k5 => k_asm); (case k6 => k_is); (case k7 => k_is); (case k8 => ktr_room); (case k9 => first | exact BindsTo.of_eq rfl | (refine' kp_binds ?kx ?ke; (case kx => k_in); (case ke => exact fun _ => rfl))); (case c5 => decide); (case kB => exact locs rfl); (case c2 => exact rfl); (case c3 => exact rfl); (case c4 => exact rfl); k_whole; intro g' L' h' FG' F' N' B' X' T' KG'; (try dsimp only); (try k_fold))))
local macro_rules | `(tactic| walk_at "useNum") => `(tactic| (k_dflt (first
  | (refine' lnum_1 ?b ?f ?x ?n ?t ?k ?d ?u ?_; (case b => assumption); (case f => assumption); (case x => assumption); (case n => assumption); (case t => assumption); (case k => exact rfl); (case d => ktr_room); (case u => ktr_units); intro h6 tk6 D6 ys6 F6 N6 ne6 hi6)
  | (refine' lnum_2 ?b ?f ?x ?n ?t ?k ?d ?u ?_; (case b => assumption); (case f => assumption); (case x => assumption); (case n => assumption); (case t => assumption); (case k => exact rfl); (case d => ktr_room); (case u => ktr_units); intro h6 tk6 D6 ys6 F6 N6 ne6 hi6)
  | (refine' lnum_4 ?b ?f ?x ?n ?t ?k ?d ?u ?_; (case b => assumption); (case f => assumption); (case x => assumption); (case n => assumption); (case t => assumption); (case k => exact rfl); (case d => ktr_room); (case u => ktr_units); intro h6 tk6 D6 ys6 F6 N6 ne6 hi6))))
local macro_rules | `(tactic| walk_at "call ref") => `(tactic| (k_here; (with_reducible show wpAny _ _ (call (Value.ref 1598) [Value.int _ _, Value.int _ _]) _ _ _); walk_at "useNum"))
/-- every item an int -/
def allInt (l : List Value) : Bool := l.all fun v => match v with | .int _ _ => true | _ => false
theorem allInt_get {l : List Value} (h : allInt l = true) {j : Nat} {v : Value} (e : l[j]? = some v) : ∃ i t, v = .int i t := by
  have := List.all_eq_true.mp h v (List.mem_of_getElem? e)
  cases v <;> first | exact ⟨_, _, rfl⟩ | cases this
theorem tup_any {prog : Program} {w : World} {A : Around} {E : Value → Shared → Prop} {s : Shared} {value slice : PySem.Expr} {t : Addr} {l : List Value} {a n : Int} {u : Tok} {Q : Value → Shared → Prop} (ht : IsTup s.heap t l.toArray)
    (hall : allInt l = true) (hn : n = (l.length : Int)) (hn0 : 0 < n ∧ n < 1000) (h : ∀ i t, Q (.int i t) s)
    (hs : subscripted slice false (.ref t) (.int (a.fmod n) u) = operate [.ref t, .int (a.fmod n) u] (getItem (.ref t) (.int (a.fmod n) u))) :
    wpAny (model prog w) A (subscriptTail value slice (.ref t) (.int (a.fmod n) u)) Q E s := by
  have h0 : 0 ≤ a.fmod n := by rw [Int.fmod_eq_emod_of_nonneg _ (Int.le_of_lt hn0.1)]; exact Int.emod_nonneg a (Int.ne_of_gt hn0.1)
  have h1 : a.fmod n < n := by rw [Int.fmod_eq_emod_of_nonneg _ (Int.le_of_lt hn0.1)]; exact Int.emod_lt_of_pos a hn0.1
  have hl : (a.fmod n).toNat < l.length := by omega
  obtain ⟨i, t', e⟩ := allInt_get hall (List.getElem?_eq_getElem hl)
  exact item_tupleT ht (by omega) (by omega) (seqIndex_of h0 (by omega)) (by rw [List.getElem?_eq_getElem hl, e]) (h i t') hs
theorem pow_gen {prog : Program} {w : World} {A : Around} {E : Value → Shared → Prop} {s : Shared} {t u : Tok} {Q : Value → Shared → Prop} (h : ∀ i, Q (.int i s.toks) { s with toks := s.toks + 1 }) :
    wpAny (model prog w) A (binaryOp .Pow (.int 10 t) (.int 30 u)) Q E s := pow_int_small (by decide) (by decide) (by decide) (h _)
local macro_rules | `(tactic| walk_at "binaryOp Pow int int") => `(tactic| (k_here; (with_reducible show wpAny _ _ (binaryOp Operator.Pow (Value.int 10 _) (Value.int 30 _)) _ _ _); (refine pow_gen ?_); intro i30))
section
variable {w : World} {p : Program} {loose : List PySem.Str} {mean : ExcName → Option Value} {mg mb : PySem.Str → Option Value} {dp un : Nat} {cn : PySem.Str} {cs : Scope} {L a : Addr} {ccd : Value} {cl : List (PySem.Str × Addr)} {outer : List Env}
  {A₀ : Around} {base h₀ : Heap} {m : PySem.Str → Option Value} {s : Shared} {Q E : Value → Shared → Prop} {news : List (Addr × Obj)}
abbrev tupO (vs : List Value) : Obj := { cls := Value.type "tuple", data := Data.seq vs.toArray }
theorem lvers_c
    (Bl : Below A₀ base outer h₀) (F : Fr h₀ L s.heap m) (X : (hd.heap_1 w.params).In h₀)
    (N : News h₀ L s.heap []) (T : Top p loose mean mg mb h₀) (hk : cs.kind = .function) (hdp : dp + 15 < recursionLimit) (hun : un + 80 < cLine)
    (hQ : ∀ h' tk' D vs, Fr h₀ L h' m → News h₀ L h' [(D, tupO vs)] → allInt vs = true → vs.length = 11 → (∀ c o, s.heap.get? c = some o → h'.get? c = some o) → s.heap.get? D = none → Q (.ref D) { s with heap := h', toks := tk' }) :
    wpAny (model PySem.Challenge.rw_fq5014_01.row.prog w) (ktrTop dp un (some []) cn cs L a ccd cl outer) (PySem.call (.ref 1589) []) Q E s := by
  revert X; k_fill; intro X
  w_on
  refine wpAny_call ?_
  walk_at "enterA"
  rename (∀ c o, _ → s.heap.get? c = some o → _) => K12
  k_steps
  rename News h₀ _ _ _ => N11
  exact hQ _ _ _ _ (by assumption) N11 rfl rfl (fun c o e => kept_by (K12 c o (fun z => nomatch z) e) (by assumption)) (fresh_by (by assumption) fun c o e => K12 c o (fun z => nomatch z) e)
theorem lvers_n
    (Bl : Below A₀ base outer h₀) (F : Fr h₀ L s.heap m) (X : (hd.heap_1 w.params).In h₀)
    (N : News h₀ L s.heap news) (T : Top p loose mean mg mb h₀) (hk : cs.kind = .function) (hdp : dp + 15 < recursionLimit) (hun : un + 80 < cLine)
    (hQ : ∀ h' tk' D vs, Fr h₀ L h' m → News h₀ L h' ((D, tupO vs) :: news) → allInt vs = true → vs.length = 11 → (∀ q ∈ news, q.1 ≠ D) → Q (.ref D) { s with heap := h', toks := tk' }) :
    wpAny (model PySem.Challenge.rw_fq5014_01.row.prog w) (ktrTop dp un (some []) cn cs L a ccd cl outer) (PySem.call (.ref 1589) []) Q E s :=
  lvers_c Bl F X (fun _ h => nomatch h) T hk hdp hun fun h' tk' D vs F' N' a1 a2 k f => hQ h' tk' D vs F' (ledger_more N N' k) a1 a2 (ledger_ne N f)
end
end Mine
namespace Mine
open PySem Calls
local macro_rules | `(tactic| k_room) => `(tactic| ktr_room)
def turnR : List Stmt := forBody.drop 3
theorem len5 {l : List Int} (h : l.length = 5) : ∃ a b c d e, l = [a, b, c, d, e] := by
  match l, h with
  | [a, b, c, d, e], _ => exact ⟨a, b, c, d, e, rfl⟩
local macro_rules | `(tactic| walk_at "subscriptTail") => `(tactic| (k_here; (with_reducible show wpAny _ _ (subscriptTail _ _ (Value.ref _) (Value.int (Int.fmod _ _) _)) _ _ _); k_dflt (refine' tup_any ?k1 ?k2 ?k3 ?k4 ?_ ?k5; (case k1 => kun_tup); (case k2 => first | assumption | exact rfl); (case k3 => first | exact rfl | (rw [(show (List.length _ = 11) by assumption)]; rfl)); (case k4 => decide); (case k5 => with_unfolding_all rfl); k_whole); intro i5 t5))
local macro_rules | `(tactic| walk_at "call ref") => `(tactic| (k_here; (with_reducible show wpAny _ _ (call (Value.ref 1589) _) _ _ _); k_dflt (refine' lvers_n ?b ?f ?x ?n ?t ?k ?d ?u ?_; (case b => assumption); (case f => assumption); (case x => assumption); (case n => assumption); (case t => assumption); (case k => exact rfl); (case d => ktr_room); (case u => ktr_units); intro h6 tk6 D6 vs6 F6 N6 a6 b6 ne6)))
section
variable {w : World} {p : Program} {loose : List PySem.Str} {mean : ExcName → Option Value} {mg mb : PySem.Str → Option Value} {dp un : Nat} {L a : Addr} {ccd : Value} {cl : List (PySem.Str × Addr)} {outer : List Env}
  {A₀ : Around} {base h₀ : Heap} {m : PySem.Str → Option Value} {s : Shared} {Q : Flow → Shared → Prop} {E : Value → Shared → Prop} {news : List (Addr × Obj)}
theorem turn_1 {eD : Nat} {D x Lj : Addr} {ys : List Value} {ns : List Int} {j : Int} {uj : Tok}
    (Bl : Below callerA h₀ [] h₀) (F : Fr h₀ L s.heap (fun z => if z = PySem.Str.ofString "j" then some (.int j uj) else if z = PySem.Str.ofString "n" then some (.ref D) else if z = PySem.Str.ofString "f" then some (.ref x) else if z = PySem.Str.ofString "laid" then some (.ref Lj) else m z)) (X : (hd.heap_1 w.params).In h₀)
    (N : News h₀ L s.heap ((D, W.listOf ys.toArray eD) :: news)) (T : Top p loose mean mg mb h₀)
    (hI : IntsAre ys ns) (hn : ns.length = 35) (j0 : 0 ≤ j) (j5 : j ≤ 5) 
    (hQ : ∀ (h' : Heap) (tk' : Nat) (m' : PySem.Str → Option Value) (v f st o i : Int) (u1 u2 u3 u4 u5 : Tok), Fr h₀ L h' (fun z => if z = PySem.Str.ofString "opcode" then some (.int o u4) else if z = PySem.Str.ofString "length" then some (.int i u5) else if z = PySem.Str.ofString "version" then some (.int v u1) else if z = PySem.Str.ofString "flags" then some (.int f u2) else if z = PySem.Str.ofString "stream" then some (.int st u3) else m' z) →
      (m' (PySem.Str.ofString "n") = some (.ref D) ∧ m' (PySem.Str.ofString "f") = some (.ref x) ∧ m' (PySem.Str.ofString "laid") = some (.ref Lj)) → News h₀ L h' ((D, W.listOf ys.toArray eD) :: news) →
      wq (model PySem.Challenge.rw_fq5014_01.row.prog w) (callerA.deeper (envX (sOf "law") lawScope L a ccd cl)) (execs turnR (envX (sOf "law") lawScope L a ccd cl)) Q E { s with heap := h', toks := tk' }) :
    wq (model PySem.Challenge.rw_fq5014_01.row.prog w) (callerA.deeper (envX (sOf "law") lawScope L a ccd cl)) (execs forBody (envX (sOf "law") lawScope L a ccd cl)) Q E s := by
  revert X; k_fill; intro X
  conv in (occs := *) lawScope => all_goals whnf
  conv in forBody => whnf
  dsimp only [sOf]
  w_on
  refine wq_execs_append (pre := [_]) ?_
  k_steps
  rename IntsAre _ (List.take _ _) => hI9
  rename (List.take _ _).length = _ => hC9
  obtain ⟨a0, a1, a2, a3, a4, e9⟩ := len5 (hC9.trans (by omega))
  rw [e9] at hI9
  clear hC9
  rename (List.take _ _).length ≤ _ => hL9
  clear hL9 e9
  dsimp only
  refine wq_execs_append (pre := [_, _]) ?_
  k_steps
  rename Fr h₀ _ _ _ => F9
  rename News _ _ _ _ => N9
  exact hQ _ _ _ _ _ _ _ _ _ _ _ _ _ F9 ⟨rfl, rfl, rfl⟩ fun q hq => N9 q (by repeat (first | exact hq | apply List.mem_cons_of_mem))
end
end Mine
namespace Mine
open PySem Calls
local macro_rules | `(tactic| k_room) => `(tactic| ktr_room)
local macro_rules | `(tactic| walk_at "call type:type") => `(tactic| (k_here; (with_reducible show wpAny _ _ (call (Value.type "type") [Value.bytes _ _]) _ _ _); (refine type_bytes ?_)))
local macro_rules | `(tactic| walk_at "call builtin:len") => `(tactic| (k_here; (with_reducible show wpAny _ _ (call (Value.builtin "len") [Value.ref _]) _ _ _); k_dflt (refine' len_ba_K ?k1 ?k2 ?k3 ?_; (case k1 => k_asm); (case k2 => k_mem); (case k3 => first | exact Nat.zero_le _ | omega | (rw [sizeLine_eq]; omega) | (rw [sizeLine_eq]; simp only [Array.size_append, List.size_toArray, List.length_cons, List.length_nil]; omega)); k_whole)))
local macro_rules | `(tactic| walk_at "call type:bytes") => `(tactic| (k_here; (with_reducible show wpAny _ _ (call (Value.type "bytes") [Value.ref _]) _ _ _); k_dflt (refine' bytes_ba_K ?k1 ?k2 ?k3 ?_; (case k1 => k_asm); (case k2 => k_mem); (case k3 => first | exact Nat.zero_le _ | omega | (rw [sizeLine_eq]; omega) | (rw [sizeLine_eq]; simp only [Array.size_append, List.size_toArray, List.length_cons, List.length_nil]; omega)); k_whole); intro _ _))
local macro_rules | `(tactic| walk_at "enterQ") => `(tactic| (k_dflt (refine' codeQ_defK ?k1 ?k2 ?k3 ?k4 ?k5 ?kA ?kF ?kK ?k6 ?k7 ?k8 ?k9 ?kB ?_ ?c2 ?c3 ?c4 ?c5; (case kA => exact rfl); (case kF => exact rfl); (case kK => assumption); (case k1 => k_asm); (case k2 => k_asm); (case k3 => k_asm); (case k4 => k_asm); (case k5 => k_asm); (case k6 => k_is); (case k7 => k_is); (case k8 => ktr_room); (case k9 => first | exact BindsTo.of_eq rfl | (refine' kp_binds ?kx ?ke; (case kx => k_in); (case ke => exact fun _ => rfl))); (case c5 => decide); (case kB => exact locs rfl); (case c2 => exact rfl); (case c3 => exact rfl); (case c4 => exact rfl); k_whole; intro g' L' h' FG' F' N' B' X' T' KG'; (try dsimp only); (try k_fold))))
local macro_rules | `(tactic| walk_at "call builtin:object.__new__") => `(tactic| (k_here; (with_reducible show wpAny _ _ (call (Value.builtin "object.__new__") [Value.ref 1172]) _ _ _); k_dflt (refine' io_objnew_K ?k1 ?k2 ?k3 ?_; (case k1 => k_asm); (case k2 => k_asm); (case k3 => k_asm); k_whole); intro x' d' h' F' N' l1 l2; (try k_lt l1); (try k_lt2 l2); (try k_sweep)))
local macro_rules | `(tactic| k_all) => `(tactic| assumption)
local macro_rules | `(tactic| walk_at "call builtin:_struct.pack") => `(tactic| (k_here; k_dflt (first
  | (refine' pack1 ?k1 ?k2 ?k3; (case k1 => exact rfl); k_whole)
  | (refine' pack4 ?k1 ?k2 ?k3; (case k1 => exact rfl); k_whole)
  | (refine' pack5 ?k1 ?k2 ?k3; (case k1 => exact rfl); k_whole))))
local macro_rules | `(tactic| walk_at "useMake") => `(tactic| (k_dflt (refine' make_qn ?b ?f ?x ?n ?t ?k ?d ?u ?_; (case b => assumption); (case f => assumption); (case x => assumption); (case n => assumption); (case t => assumption); (case k => exact rfl); (case d => ktr_room); (case u => ktr_units))))
local macro_rules | `(tactic| walk_at "useWh") => `(tactic| (k_dflt (refine' wh_q ?b ?f ?x ?n ?t ?k ?d ?u ?hdb ?hdx ?hbx ?hne ?z ?q ?e0 ?e1; (case b => assumption); (case f => assumption); (case x => assumption); (case n => assumption); (case t => assumption); (case k => exact rfl); (case hdb => assumption); (case hdx => assumption); (case hbx => assumption); (case hne => first | assumption | ((repeat (refine List.forall_mem_cons.mpr ⟨⟨by (show @Ne Nat _ _; omega), by (show @Ne Nat _ _; omega), by (show @Ne Nat _ _; omega)⟩, ?_⟩)); assumption)); (case d => ktr_room); (case u => ktr_units))))
theorem front_get {v f st o : Int} {l : List Int} (h : frontI v f st o = some l) : ∃ C, frontB v f st o = some C ∧ l = KBw.bInts C ∧ C.size ≤ 5 := by
  rw [front_ints] at h
  obtain ⟨C, hC, e⟩ := Option.map_eq_some_iff.mp h
  exact ⟨C, hC, e.symm, frontB_size hC⟩
theorem fr_two {h₀ h : Heap} {L : Addr} {m : PySem.Str → Option Value} {x y : PySem.Str} {vx vy : Value} (F : Fr h₀ L h m) (hx : m x = some vx) (hy : m y = some vy) : Fr h₀ L h (fun z => if z = x then some vx else if z = y then some vy else m z) := by
  have e : (fun z => if z = x then some vx else if z = y then some vy else m z) = m := by
    funext z
    split
    · rename_i e; subst e; exact hx.symm
    · split
      · rename_i e; subst e; exact hy.symm
      · rfl
  rw [e]; exact F
theorem news_up {h₀ h : Heap} {L : Addr} {pre rest : List (Addr × Obj)} {q1 q2 q3 : Addr × Obj} (N : News h₀ L h (pre ++ q1 :: q2 :: q3 :: rest)) : News h₀ L h (q1 :: q2 :: q3 :: (pre ++ rest)) := fun q hq => N q (by
  simp only [List.mem_cons, List.mem_append] at hq ⊢
  rcases hq with h | h | h | h | h
  · exact .inr (.inl h)
  · exact .inr (.inr (.inl h))
  · exact .inr (.inr (.inr (.inl h)))
  · exact .inl h
  · exact .inr (.inr (.inr (.inr h))))
theorem pow_31 {prog : Program} {w : World} {A : Around} {E : Value → Shared → Prop} {s : Shared} {t u : Tok} {Q : Value → Shared → Prop} (h : Q (.int 2147483648 s.toks) { s with toks := s.toks + 1 }) :
    wpAny (model prog w) A (binaryOp .Pow (.int 2 t) (.int 31 u)) Q E s := pow_int_small (by decide) (by decide) (by decide) h
local macro_rules | `(tactic| walk_at "binaryOp Pow int int") => `(tactic| (k_here; (with_reducible show wpAny _ _ (binaryOp Operator.Pow (Value.int 2 _) (Value.int 31 _)) _ _ _); (refine pow_31 ?_)))
local macro_rules | `(tactic| walk_at "useFront") => `(tactic| (k_dflt (refine' lfront_n ?b ?f ?x ?n ?t ?k ?d ?u ?hn ?hq; (case b => assumption); (case f => assumption); (case x => assumption); (case n => assumption); (case t => assumption); (case k => exact rfl); (case d => ktr_room); (case u => ktr_units); (case' hn => intro e6 h6 tk6 F6 N6); (case' hq => intro C6 e6 h6 tk6 D6 ys6 F6 N6 ne6 hi6))))
local macro_rules | `(tactic| walk_at "call ref") => `(tactic| (k_here; (with_reducible show wpAny _ _ (call (Value.ref 1605) [Value.int _ _, Value.int _ _, Value.int _ _, Value.int _ _]) _ _ _); walk_at "useFront"))
local macro_rules | `(tactic| walk_at "enterA") => `(tactic| (k_dflt (refine' codeA_defK ?k1 ?k2 ?k3 ?k4 ?k5 ?kA ?kF ?kK ?k6 ?k7 ?k8 ?k9 ?kB ?_ ?c2 ?c3 ?c4 ?c5; (case kA => exact rfl); (case kF => exact rfl); (case kK => assumption); (case k1 => k_asm); (case k2 => k_asm); (case k3 => k_asm); (case k4 => k_asm); (case k5 => k_asm); (case k6 => k_is); (case k7 => k_is); (case k8 => ktr_room); (case k9 => first | exact BindsTo.of_eq rfl | (refine' kp_binds ?kx ?ke; (case kx => k_in); (case ke => exact fun _ => rfl))); (case c5 => decide); (case kB => exact locs rfl); (case c2 => exact rfl); (case c3 => exact rfl); (case c4 => exact rfl); k_whole; intro g' L' h' FG' F' N' B' X' T' KG'; (try dsimp only); (try k_fold))))
local macro_rules | `(tactic| walk_at "useNum") => `(tactic| (k_dflt (first
  | (refine' lnum_1 ?b ?f ?x ?n ?t ?k ?d ?u ?_; (case b => assumption); (case f => assumption); (case x => assumption); (case n => assumption); (case t => assumption); (case k => exact rfl); (case d => ktr_room); (case u => ktr_units); intro h6 tk6 D6 ys6 F6 N6 ne6 hi6)
  | (refine' lnum_2 ?b ?f ?x ?n ?t ?k ?d ?u ?_; (case b => assumption); (case f => assumption); (case x => assumption); (case n => assumption); (case t => assumption); (case k => exact rfl); (case d => ktr_room); (case u => ktr_units); intro h6 tk6 D6 ys6 F6 N6 ne6 hi6)
  | (refine' lnum_4 ?b ?f ?x ?n ?t ?k ?d ?u ?_; (case b => assumption); (case f => assumption); (case x => assumption); (case n => assumption); (case t => assumption); (case k => exact rfl); (case d => ktr_room); (case u => ktr_units); intro h6 tk6 D6 ys6 F6 N6 ne6 hi6))))
local macro_rules | `(tactic| walk_at "call ref") => `(tactic| (k_here; (with_reducible show wpAny _ _ (call (Value.ref 1598) [Value.int _ _, Value.int _ _]) _ _ _); walk_at "useNum"))
local macro_rules | `(tactic| walk_at "call ref") => `(tactic| (k_here; (with_reducible show wpAny _ _ (call (Value.ref 1612) [Value.int _ _]) _ _ _); k_dflt (refine' lasked_n ?b ?f ?x ?n ?t ?k ?d ?u ?_; (case b => assumption); (case f => assumption); (case x => assumption); (case n => assumption); (case t => assumption); (case k => exact rfl); (case d => ktr_room); (case u => ktr_units); intro h6 tk6 F6 N6)))
local macro_rules | `(tactic| walk_at "call type:list") => `(tactic| (k_here; (with_reducible show wpAny _ _ (call (Value.type "list") [Value.bytes _ _]) _ _ _); k_dflt (refine' list_bytes_K ?k1 ?k2 ?k3 ?k4 ?_; (case k1 => k_asm); (case k2 => k_asm); (case k3 => exact rfl); (case k4 => assumption); k_whole); intro D' ys' c' h' tk' F' N' l1 hi'; (try k_lt l1); (try k_sweep)))
local macro_rules | `(tactic| walk_at "binaryOp Add ref ref") => `(tactic| (k_here; (with_reducible show wpAny _ _ (binaryOp _ (Value.ref _) (Value.ref _)) _ _ _); k_dflt (refine' kmk_add_ints ?F ?N ?a ?b ?i ?j ?_ ?z; (case F => k_asm); (case N => k_asm); (case a => kmk_list); (case b => kmk_list); (case i => l_ints); (case j => l_ints); (case z => (simp only [sizeLine_eq, List.length_cons, List.length_nil, List.length_append]; omega))); intro D' ws' h' F' N' l1 hI'; (try k_lt l1); (try k_sweep)))
section
variable {w : World} {p : Program} {loose : List PySem.Str} {mean : ExcName → Option Value} {mg mb : PySem.Str → Option Value} {L a : Addr} {ccd : Value} {cl : List (PySem.Str × Addr)}
  {base h₀ : Heap} {m : PySem.Str → Option Value} {s : Shared} {Q : Flow → Shared → Prop} {E : Value → Shared → Prop} {news : List (Addr × Obj)}
theorem turn_2 {eD : Nat} {D x d b Lj : Addr} {B : Array UInt8} {ys ysl : List Value} {t1 t2 t3 u1 u2 u3 u4 u5 : Tok} {v f st o i : Int}
    (Bl : Below callerA h₀ [] h₀) (F : Fr h₀ L s.heap (fun z => if z = PySem.Str.ofString "opcode" then some (.int o u4) else if z = PySem.Str.ofString "length" then some (.int i u5) else if z = PySem.Str.ofString "version" then some (.int v u1) else if z = PySem.Str.ofString "flags" then some (.int f u2) else if z = PySem.Str.ofString "stream" then some (.int st u3) else if z = PySem.Str.ofString "n" then some (.ref D) else if z = PySem.Str.ofString "f" then some (.ref x) else if z = PySem.Str.ofString "laid" then some (.ref Lj) else m z)) (X : (hd.heap_1 w.params).In h₀)
    (N : News h₀ L s.heap ((d, ioD w.params b B.size t1 t2 t3) :: (b, baO B) :: (x, instObj 1172 d) :: (D, W.listOf ys.toArray eD) :: (Lj, W.listOf ysl.toArray 0) :: news)) (T : Top p loose mean mg mb h₀)
    (hdb : @Ne Nat d b) (hdx : @Ne Nat d x) (hbx : @Ne Nat b x) (hne : ∀ q ∈ (D, W.listOf ys.toArray eD) :: (Lj, W.listOf ysl.toArray 0) :: news, q.1 ≠ d ∧ q.1 ≠ b ∧ q.1 ≠ x)
    (hL : IntsAre ysl (KBw.bInts B)) (hz : B.size ≤ 1000)
    (hQ : ∀ (C : Array UInt8), C.size ≤ 9 → ∀ (h' : Heap) (tk' : Nat) (m' : PySem.Str → Option Value) (Lj' : Addr) (ysl' : List Value) (t1' t2' t3' : Tok), Fr h₀ L h' m' →
      (m' (PySem.Str.ofString "n") = some (.ref D) ∧ m' (PySem.Str.ofString "f") = some (.ref x) ∧ m' (PySem.Str.ofString "laid") = some (.ref Lj')) →
      News h₀ L h' ((d, ioD w.params b (B ++ C).size t1' t2' t3') :: (b, baO (B ++ C)) :: (x, instObj 1172 d) :: (D, W.listOf ys.toArray eD) :: (Lj', W.listOf ysl'.toArray 0) :: news) →
      (Lj' ≠ d ∧ Lj' ≠ b ∧ Lj' ≠ x) → IntsAre ysl' (KBw.bInts (B ++ C)) → Q .next { s with heap := h', toks := tk' }) :
    wq (model PySem.Challenge.rw_fq5014_01.row.prog w) (callerA.deeper (envX (sOf "law") lawScope L a ccd cl)) (execs turnR (envX (sOf "law") lawScope L a ccd cl)) Q E s := by
  revert X; k_fill; intro X
  conv in (occs := *) lawScope => all_goals whnf
  conv in turnR => whnf
  dsimp only [sOf]
  w_on
  refine wq_execs_append (pre := [_]) ?_
  k_steps
  · rename frontI _ _ _ _ = some _ => e9
    rename List Int => C6
    obtain ⟨C, hC, rfl, hz5⟩ := front_get e9
    have zB : (KBw.bInts B).length ≤ 1000 := by rw [KBw.ints_length]; exact hz
    have zC : (KBw.bInts C).length ≤ 5 := by rw [KBw.ints_length]; exact hz5
    dsimp only
    refine wq_execs_append (pre := [_, _, _, _]) ?_
    k_steps
    · rename Fr h₀ _ _ _ => F9
      simp only [decide_eq_true (show i < 2147483648 by assumption), Bool.not_true] at F9
      dsimp only
      refine wq_execs_cons (wq_Try ?_)
      refine wq_execs_cons (wq_Expr (wq_MethodCall ?_))
      k_steps
      refine wq_callWith_K (by assumption) (by k_is) ?_
      k_steps
      rename News _ _ _ _ => N9
      rename ∀ q : Addr × Obj, q ∈ (d, _) :: _ → q.1 ≠ _ => n9
      rename ∀ q : Addr × Obj, q ∈ _ :: _ :: (d, _) :: _ → q.1 ≠ _ => m9
      have N10 := news_up (pre := [_, _, _, _]) N9
      simp only [List.cons_append, List.nil_append] at N10
      have o1 : @Ne Nat d _ := n9 _ (.head _)
      have o2 : @Ne Nat b _ := n9 _ (.tail _ (.head _))
      have o3 : @Ne Nat x _ := n9 _ (.tail _ (.tail _ (.head _)))
      have o4 : @Ne Nat d _ := m9 _ (.tail _ (.tail _ (.head _)))
      have o5 : @Ne Nat b _ := m9 _ (.tail _ (.tail _ (.tail _ (.head _))))
      have o6 : @Ne Nat x _ := m9 _ (.tail _ (.tail _ (.tail _ (.tail _ (.head _)))))
      clear n9 m9 N9
      walk_at "useWh"
      case z => omega
      case q =>
        intro C' hC' hi h7 tk7 w1 w2 w3 F7 N7
        obtain rfl : C = C' := Option.some.inj (hC.symm.trans hC')
        simp only [Array.append_assoc] at N7
        have e10 : KBw.bInts (B ++ (C ++ be4 i)) = KBw.bInts B ++ KBw.bInts C ++ [oct i 3, oct i 2, oct i 1, oct i 0] := by rw [bInts_append, bInts_append, be4_ints, List.append_assoc]
        have z7 : (C ++ be4 i).size ≤ 9 := by rw [Array.size_append, show (be4 i).size = 4 from rfl]; omega
        have z9 : (B ++ (C ++ be4 i)).size ≤ sizeLine := by rw [sizeLine_eq, Array.size_append]; omega
        k_steps
        dsimp only
        refine wq_execs_nil ?_
        dsimp only
        refine wq_execs_append (pre := [_]) ?_
        k_steps
        dsimp only
        rename Fr h₀ _ _ _ => F9
        rename News _ _ _ _ => N9
        refine turn_b Bl (fr_two F9 rfl rfl) X N9 T ?_
        intro h9 tk9 m9 F10 e11 N11
        refine hQ (C ++ be4 i) z7 h9 tk9 m9 _ _ w1 w2 w3 F10 ⟨e11.1.trans rfl, e11.2.1.trans rfl, e11.2.2.trans rfl⟩ (fun q hq => N11 q ?_) ⟨by (show @Ne Nat _ _; omega), by (show @Ne Nat _ _; omega), by (show @Ne Nat _ _; omega)⟩ (by rw [e10]; assumption)
        simp only [List.mem_cons] at hq ⊢
        rcases hq with h | h | h | h | h | h <;> simp only [h, true_or, or_true]
      case e0 =>
        intro h0
        exact absurd (hC.symm.trans h0) (fun z => nomatch z)
      case e1 =>
        intro C' hC' hi
        exact absurd ⟨by assumption, by omega⟩ hi
    · rename Fr h₀ _ _ _ => F9
      simp only [decide_eq_false (show ¬ i < 2147483648 by assumption), Bool.not_false] at F9
      dsimp only
      refine wq_execs_cons (wq_Try ?_)
      refine wq_execs_cons (wq_Expr (wq_MethodCall ?_))
      k_steps
      refine wq_callWith_K (by assumption) (by k_is) ?_
      k_steps
      rename News _ _ _ _ => N9
      rename ∀ q : Addr × Obj, q ∈ (d, _) :: _ → q.1 ≠ _ => n9
      have N10 := news_up (pre := [_, _]) N9
      simp only [List.cons_append, List.nil_append] at N10
      have o1 : @Ne Nat d _ := n9 _ (.head _)
      have o2 : @Ne Nat b _ := n9 _ (.tail _ (.head _))
      have o3 : @Ne Nat x _ := n9 _ (.tail _ (.tail _ (.head _)))
      clear n9 N9
      walk_at "useWh"
      case z => omega
      case q =>
        intro C' hC' hi
        exact absurd hi (fun z => by have := z.1; have := z.2; omega)
      case e0 =>
        intro h0
        exact absurd (hC.symm.trans h0) (fun z => nomatch z)
      case e1 =>
        intro C' hC' hi g7 h7 tk7 e7 w1 w2 w3 F7 R7 U7
        obtain rfl : C = C' := Option.some.inj (hC.symm.trans hC')
        have e10 : KBw.bInts (B ++ C) = KBw.bInts B ++ KBw.bInts C := bInts_append _ _
        have z7 : C.size ≤ 9 := by omega
        have z9 : (B ++ C).size ≤ sizeLine := by rw [sizeLine_eq, Array.size_append]; omega
        refine caught_X (T' := "Exception") (X := "struct.error") Bl F7 U7 R7 T.g (mg_none_of X T.g (by k_is)) T.b ((T.builtins _ (by decide)).trans PyProof.Rows.Boot.«Exception») PySem.F.isExc_Exception PySem.F.notTuple_Exception (by rw [isSubtype_type]; kernel_rfl) ?_ rfl rfl (by decide)
        intro h8 F8 N8
        k_steps
        dsimp only
        refine wq_execs_append (pre := [_]) ?_
        k_steps
        dsimp only
        rename Fr h₀ _ _ _ => F9
        rename News _ _ _ _ => N9
        refine turn_b Bl (fr_two F9 rfl rfl) X N9 T ?_
        intro h9 tk9 m9 F10 e11 N11
        refine hQ C z7 h9 tk9 m9 _ _ w1 w2 w3 F10 ⟨e11.1.trans rfl, e11.2.1.trans rfl, e11.2.2.trans rfl⟩ (fun q hq => N11 q ?_) ⟨by (show @Ne Nat _ _; omega), by (show @Ne Nat _ _; omega), by (show @Ne Nat _ _; omega)⟩ (by rw [e10]; assumption)
        simp only [List.mem_cons] at hq ⊢
        rcases hq with h | h | h | h | h | h <;> simp only [h, true_or, or_true]
    · rename Fr h₀ _ _ _ => F9
      simp only [decide_eq_false (show ¬ -2147483648 ≤ i by assumption), Bool.not_false] at F9
      dsimp only
      refine wq_execs_cons (wq_Try ?_)
      refine wq_execs_cons (wq_Expr (wq_MethodCall ?_))
      k_steps
      refine wq_callWith_K (by assumption) (by k_is) ?_
      k_steps
      rename News _ _ _ _ => N9
      rename ∀ q : Addr × Obj, q ∈ (d, _) :: _ → q.1 ≠ _ => n9
      have N10 := news_up (pre := [_, _]) N9
      simp only [List.cons_append, List.nil_append] at N10
      have o1 : @Ne Nat d _ := n9 _ (.head _)
      have o2 : @Ne Nat b _ := n9 _ (.tail _ (.head _))
      have o3 : @Ne Nat x _ := n9 _ (.tail _ (.tail _ (.head _)))
      clear n9 N9
      walk_at "useWh"
      case z => omega
      case q =>
        intro C' hC' hi
        exact absurd hi (fun z => by have := z.1; have := z.2; omega)
      case e0 =>
        intro h0
        exact absurd (hC.symm.trans h0) (fun z => nomatch z)
      case e1 =>
        intro C' hC' hi g7 h7 tk7 e7 w1 w2 w3 F7 R7 U7
        obtain rfl : C = C' := Option.some.inj (hC.symm.trans hC')
        have e10 : KBw.bInts (B ++ C) = KBw.bInts B ++ KBw.bInts C := bInts_append _ _
        have z7 : C.size ≤ 9 := by omega
        have z9 : (B ++ C).size ≤ sizeLine := by rw [sizeLine_eq, Array.size_append]; omega
        refine caught_X (T' := "Exception") (X := "struct.error") Bl F7 U7 R7 T.g (mg_none_of X T.g (by k_is)) T.b ((T.builtins _ (by decide)).trans PyProof.Rows.Boot.«Exception») PySem.F.isExc_Exception PySem.F.notTuple_Exception (by rw [isSubtype_type]; kernel_rfl) ?_ rfl rfl (by decide)
        intro h8 F8 N8
        k_steps
        dsimp only
        refine wq_execs_append (pre := [_]) ?_
        k_steps
        dsimp only
        rename Fr h₀ _ _ _ => F9
        rename News _ _ _ _ => N9
        refine turn_b Bl (fr_two F9 rfl rfl) X N9 T ?_
        intro h9 tk9 m9 F10 e11 N11
        refine hQ C z7 h9 tk9 m9 _ _ w1 w2 w3 F10 ⟨e11.1.trans rfl, e11.2.1.trans rfl, e11.2.2.trans rfl⟩ (fun q hq => N11 q ?_) ⟨by (show @Ne Nat _ _; omega), by (show @Ne Nat _ _; omega), by (show @Ne Nat _ _; omega)⟩ (by rw [e10]; assumption)
        simp only [List.mem_cons] at hq ⊢
        rcases hq with h | h | h | h | h | h <;> simp only [h, true_or, or_true]
  · have hC := front_none.mp (by assumption)
    dsimp only
    refine wq_execs_append (pre := [_, _, _, _]) ?_
    k_steps
    dsimp only
    refine wq_execs_cons (wq_Try ?_)
    refine wq_execs_cons (wq_Expr (wq_MethodCall ?_))
    k_steps
    refine wq_callWith_K (by assumption) (by k_is) ?_
    k_steps
    walk_at "useWh"
    case z => omega
    case q =>
      intro C' hC'
      exact absurd (hC.symm.trans hC') (fun z => nomatch z)
    case e1 =>
      intro C' hC'
      exact absurd (hC.symm.trans hC') (fun z => nomatch z)
    case e0 =>
      intro h0 g7 h7 tk7 e7 F7 R7 U7
      have z9 : B.size ≤ sizeLine := by rw [sizeLine_eq]; omega
      have hQ0 := hQ #[] (Nat.zero_le _)
      simp only [Array.append_empty] at hQ0
      refine caught_X (T' := "Exception") (X := "struct.error") Bl F7 U7 R7 T.g (mg_none_of X T.g (by k_is)) T.b ((T.builtins _ (by decide)).trans PyProof.Rows.Boot.«Exception») PySem.F.isExc_Exception PySem.F.notTuple_Exception (by rw [isSubtype_type]; kernel_rfl) ?_ rfl rfl (by decide)
      intro h8 F8 N8
      k_steps
      dsimp only
      refine wq_execs_append (pre := [_]) ?_
      k_steps
      dsimp only
      rename Fr h₀ _ _ _ => F9
      rename News _ _ _ _ => N9
      refine turn_b Bl (fr_two F9 rfl rfl) X N9 T ?_
      intro h9 tk9 m9 F10 e11 N11
      refine hQ0 h9 tk9 m9 _ _ t1 t2 t3 F10 ⟨e11.1.trans rfl, e11.2.1.trans rfl, e11.2.2.trans rfl⟩ (fun q hq => N11 q ?_) (hne _ (.tail _ (.head _))) hL
      simp only [List.mem_cons] at hq ⊢
      rcases hq with h | h | h | h | h | h <;> simp only [h, true_or, or_true]
end
end Mine
namespace Mine
open PySem Calls
theorem fr_one {h₀ h : Heap} {L : Addr} {m : PySem.Str → Option Value} {x : PySem.Str} {vx : Value} (F : Fr h₀ L h m) (hx : m x = some vx) : Fr h₀ L h (fun z => if z = x then some vx else m z) := by
  have e : (fun z => if z = x then some vx else m z) = m := by
    funext z
    split
    · rename_i e; subst e; exact hx.symm
    · rfl
  rw [e]; exact F
theorem three_same {m : PySem.Str → Option Value} {x y w : PySem.Str} {vx vy vw : Value} (hx : m x = some vx) (hy : m y = some vy) (hw : m w = some vw) (z : PySem.Str) :
    (if z = x then some vx else if z = y then some vy else if z = w then some vw else m z) = m z := by
  split
  · rename_i e; subst e; exact hx.symm
  · split
    · rename_i e; subst e; exact hy.symm
    · split
      · rename_i e; subst e; exact hw.symm
      · rfl
theorem news_diff {h₀ h : Heap} {L a b : Addr} {o o' : Obj} {l : List (Addr × Obj)} (N : News h₀ L h l) (ha : (a, o) ∈ l) (hb : (b, o') ∈ l) (hne : o.cls ≠ o'.cls) : a ≠ b := fun e => by
  have h1 := (N _ ha).1
  have h2 := (N _ hb).1
  dsimp only at h1 h2
  rw [e, h2] at h1
  exact hne (congrArg Obj.cls (Option.some.inj h1)).symm
theorem it_dict : Value.type "range_iterator" ≠ Value.type "dict" := by decide
theorem it_ba : Value.type "range_iterator" ≠ Value.type "bytearray" := by decide
theorem it_inst : Value.type "range_iterator" ≠ Value.ref 1172 := by decide
theorem li_dict : Value.type "list" ≠ Value.type "dict" := by decide
theorem li_ba : Value.type "list" ≠ Value.type "bytearray" := by decide
theorem li_inst : Value.type "list" ≠ Value.ref 1172 := by decide
theorem it_list : Value.type "range_iterator" ≠ Value.type "list" := by decide
section
variable {w : World} {p : Program} {loose : List PySem.Str} {mean : ExcName → Option Value} {mg mb : PySem.Str → Option Value} {L a : Addr} {ccd : Value} {cl : List (PySem.Str × Addr)}
  {base h₀ : Heap} {s : Shared} {R : Result → Shared → Prop} {news : List (Addr × Obj)}
theorem loop_q {eD : Nat} {D x d b I : Addr} {ys : List Value} {ns : List Int} {jp : Pos}
    (Bl : Below callerA h₀ [] h₀) (X : (hd.heap_1 w.params).In h₀) (T : Top p loose mean mg mb h₀)
    (hdb : @Ne Nat d b) (hdx : @Ne Nat d x) (hbx : @Ne Nat b x) (hnews : ∀ q ∈ news, (q.1 ≠ d ∧ q.1 ≠ b ∧ q.1 ≠ x) ∧ q.1 ≠ I)
    (hIs : IntsAre ys ns) (hn : ns.length = 35)
    (hQ : ∀ (B : Array UInt8) (h' : Heap) (tk' : Nat) (m' : PySem.Str → Option Value) (Lj' : Addr) (ysl' : List Value) (t1' t2' t3' : Tok), B.size ≤ 1000 → Fr h₀ L h' m' →
      (m' (PySem.Str.ofString "n") = some (.ref D) ∧ m' (PySem.Str.ofString "f") = some (.ref x) ∧ m' (PySem.Str.ofString "laid") = some (.ref Lj')) →
      News h₀ L h' ((d, ioD w.params b B.size t1' t2' t3') :: (b, baO B) :: (x, instObj 1172 d) :: (D, W.listOf ys.toArray eD) :: (Lj', W.listOf ysl'.toArray 0) :: news) →
      IntsAre ysl' (KBw.bInts B) → R (.ok .next) { s with heap := h', toks := tk' }) :
    ∀ (k : Nat), k ≤ 6 → ∀ (B : Array UInt8) (h : Heap) (tk : Nat) (m : PySem.Str → Option Value) (Lj : Addr) (ysl : List Value) (t1 t2 t3 : Tok), B.size + 9 * k ≤ 1000 → Fr h₀ L h m →
      (m (PySem.Str.ofString "n") = some (.ref D) ∧ m (PySem.Str.ofString "f") = some (.ref x) ∧ m (PySem.Str.ofString "laid") = some (.ref Lj)) →
      News h₀ L h ((I, itR (6 - (k : Int)) k) :: (d, ioD w.params b B.size t1 t2 t3) :: (b, baO B) :: (x, instObj 1172 d) :: (D, W.listOf ys.toArray eD) :: (Lj, W.listOf ysl.toArray 0) :: news) →
      IntsAre ysl (KBw.bInts B) →
      codeQ (model PySem.Challenge.rw_fq5014_01.row.prog w) (callerA.deeper (envX (sOf "law") lawScope L a ccd cl)) (.forLoop (.Name (PySem.Str.ofString "j") jp) (.ref I) forBody [] (envX (sOf "law") lawScope L a ccd cl)) R { s with heap := h, toks := tk }
  | 0, _, B, h, tk, m, Lj, ysl, t1, t2, t3, hz, F, hm, N, hL => by
    have hIt : IsRangeIter h I (6 - ((0 : Nat) : Int)) ((0 : Nat) : Int) 1 := (N _ (.head _)).1
    refine codeQ_forLoop (wpAny_pyNext_range_end rfl hIt (Int.le_refl _) fun h' hs => ?_)
    have I0 := (N _ (.head _)).2
    have hk : ∀ c x, c ≠ I → h.get? c = some x → h'.get? c = some x := fun c x hc e => hs c x hc e
    refine hQ B h' tk m Lj ysl t1 t2 t3 (by omega) (fr_but F I0.2 I0.1 hk) hm (fun q hq => ⟨hk _ _ ?_ (N q (.tail _ hq)).1, (N q (.tail _ hq)).2⟩) hL
    simp only [List.mem_cons] at hq
    rcases hq with rfl | rfl | rfl | rfl | rfl | hq
    · exact (news_diff N (.head _) (.tail _ (.head _)) it_dict).symm
    · exact (news_diff N (.head _) (.tail _ (.tail _ (.head _))) it_ba).symm
    · exact (news_diff N (.head _) (.tail _ (.tail _ (.tail _ (.head _)))) it_inst).symm
    · exact (news_diff N (.head _) (.tail _ (.tail _ (.tail _ (.tail _ (.head _))))) it_list).symm
    · exact (news_diff N (.head _) (.tail _ (.tail _ (.tail _ (.tail _ (.tail _ (.head _)))))) it_list).symm
    · exact (hnews q hq).2
  | k + 1, hk6, B, h, tk, m, Lj, ysl, t1, t2, t3, hz, F, hm, N, hL => by
    have hIt : IsRangeIter h I (6 - ((k + 1 : Nat) : Int)) ((k + 1 : Nat) : Int) 1 := (N _ (.head _)).1
    refine codeQ_forLoop (wpAny_pyNext_range_item hIt (by omega) fun h' hI' hs => ?_)
    have I0 := (N _ (.head _)).2
    have hk : ∀ c x, c ≠ I → h.get? c = some x → h'.get? c = some x := fun c x hc e => hs.extBut c x hc e
    have nI : ∀ q ∈ (d, ioD w.params b B.size t1 t2 t3) :: (b, baO B) :: (x, instObj 1172 d) :: (D, W.listOf ys.toArray eD) :: (Lj, W.listOf ysl.toArray 0) :: news, q.1 ≠ I := by
      intro q hq
      simp only [List.mem_cons] at hq
      rcases hq with rfl | rfl | rfl | rfl | rfl | hq
      · exact (news_diff N (.head _) (.tail _ (.head _)) it_dict).symm
      · exact (news_diff N (.head _) (.tail _ (.tail _ (.head _))) it_ba).symm
      · exact (news_diff N (.head _) (.tail _ (.tail _ (.tail _ (.head _)))) it_inst).symm
      · exact (news_diff N (.head _) (.tail _ (.tail _ (.tail _ (.tail _ (.head _))))) it_list).symm
      · exact (news_diff N (.head _) (.tail _ (.tail _ (.tail _ (.tail _ (.tail _ (.head _)))))) it_list).symm
      · exact (hnews q hq).2
    have F1 := fr_but F I0.2 I0.1 hk
    have hI1 : h'.get? I = some (itR (6 - (k : Int)) k) := by
      have e1 : (6 - ((k + 1 : Nat) : Int) + 1) = 6 - (k : Int) := by omega
      have e2 : (((k + 1 : Nat) : Int) - 1) = (k : Int) := by omega
      rw [e1, e2] at hI'
      exact hI'
    have N1 := news_but (pre := []) N nI hk hI1
    simp only [List.nil_append] at N1
    dsimp only
    refine wpAny_of_eq (a := ()) rfl ?_
    refine wpAny_assign_Name (storeX_L F1 N1 fun h2 F2 N2 => ?_)
    obtain ⟨m1, m2, m3⟩ := hm
    have F3 := fr_one (x := PySem.Str.ofString "j") (fr_one (x := PySem.Str.ofString "n") (fr_one (x := PySem.Str.ofString "f") (fr_one (x := PySem.Str.ofString "laid") F2 m3) m2) m1) rfl
    have N3 : News h₀ L h2 ((D, W.listOf ys.toArray eD) :: (I, itR (6 - (k : Int)) k) :: (d, ioD w.params b B.size t1 t2 t3) :: (b, baO B) :: (x, instObj 1172 d) :: (Lj, W.listOf ysl.toArray 0) :: news) := fun q hq => N2 q (by
      simp only [List.mem_cons] at hq ⊢
      rcases hq with h | h | h | h | h | h | h <;> simp only [h, true_or, or_true])
    refine wq_mono (Q := fun f s₃ => f = .next ∧ codeQ (model PySem.Challenge.rw_fq5014_01.row.prog w) (callerA.deeper (envX (sOf "law") lawScope L a ccd cl)) (.forLoop (.Name (PySem.Str.ofString "j") jp) (.ref I) forBody [] (envX (sOf "law") lawScope L a ccd cl)) R s₃) (E := fun _ _ => False) ?_ (fun f s₃ h => by obtain ⟨rfl, h⟩ := h; exact h) (fun _ _ h => h)
    refine turn_1 Bl F3 X N3 T hIs hn (by omega) (by omega) fun h4 tk4 m4 v f st o i u1 u2 u3 u4 u5 F4 e4 N4 => ?_
    have N5 : News h₀ L h4 ((d, ioD w.params b B.size t1 t2 t3) :: (b, baO B) :: (x, instObj 1172 d) :: (D, W.listOf ys.toArray eD) :: (Lj, W.listOf ysl.toArray 0) :: (I, itR (6 - (k : Int)) k) :: news) := fun q hq => N4 q (by
      simp only [List.mem_cons] at hq ⊢
      rcases hq with h | h | h | h | h | h | h <;> simp only [h, true_or, or_true])
    have F5 : Fr h₀ L h4 (fun z => if z = PySem.Str.ofString "opcode" then some (.int o u4) else if z = PySem.Str.ofString "length" then some (.int i u5) else if z = PySem.Str.ofString "version" then some (.int v u1) else if z = PySem.Str.ofString "flags" then some (.int f u2) else if z = PySem.Str.ofString "stream" then some (.int st u3) else if z = PySem.Str.ofString "n" then some (.ref D) else if z = PySem.Str.ofString "f" then some (.ref x) else if z = PySem.Str.ofString "laid" then some (.ref Lj) else m4 z) := by
      simp only [three_same e4.1 e4.2.1 e4.2.2]
      exact F4
    refine turn_2 Bl F5 X N5 T hdb hdx hbx ?_ hL (by omega) fun C hC h6 tk6 m6 Lj6 ysl6 t4 t5 t6 F6 e6 N6 ne6 hL6 => ⟨rfl, ?_⟩
    · intro q hq
      simp only [List.mem_cons] at hq
      rcases hq with rfl | rfl | rfl | hq
      · exact ⟨news_diff N5 (.tail _ (.tail _ (.tail _ (.head _)))) (.head _) li_dict, news_diff N5 (.tail _ (.tail _ (.tail _ (.head _)))) (.tail _ (.head _)) li_ba, news_diff N5 (.tail _ (.tail _ (.tail _ (.head _)))) (.tail _ (.tail _ (.head _))) li_inst⟩
      · exact ⟨news_diff N5 (.tail _ (.tail _ (.tail _ (.tail _ (.head _))))) (.head _) li_dict, news_diff N5 (.tail _ (.tail _ (.tail _ (.tail _ (.head _))))) (.tail _ (.head _)) li_ba, news_diff N5 (.tail _ (.tail _ (.tail _ (.tail _ (.head _))))) (.tail _ (.tail _ (.head _))) li_inst⟩
      · exact ⟨news_diff N5 (.tail _ (.tail _ (.tail _ (.tail _ (.tail _ (.head _)))))) (.head _) it_dict, news_diff N5 (.tail _ (.tail _ (.tail _ (.tail _ (.tail _ (.head _)))))) (.tail _ (.head _)) it_ba, news_diff N5 (.tail _ (.tail _ (.tail _ (.tail _ (.tail _ (.head _)))))) (.tail _ (.tail _ (.head _))) it_inst⟩
      · exact (hnews q hq).1
    · refine loop_q Bl X T hdb hdx hbx hnews hIs hn hQ k (by omega) (B ++ C) h6 tk6 m6 Lj6 ysl6 t4 t5 t6 (by rw [Array.size_append]; omega) F6 e6 (fun q hq => N6 q ?_) hL6
      simp only [List.mem_cons] at hq ⊢
      rcases hq with h | h | h | h | h | h | h <;> simp only [h, true_or, or_true]
end
end Mine
namespace Mine
open PySem Calls
local macro_rules | `(tactic| k_room) => `(tactic| ktr_room)
local macro_rules | `(tactic| walk_at "call type:type") => `(tactic| (k_here; (with_reducible show wpAny _ _ (call (Value.type "type") [Value.bytes _ _]) _ _ _); (refine type_bytes ?_)))
local macro_rules | `(tactic| walk_at "call builtin:len") => `(tactic| (k_here; (with_reducible show wpAny _ _ (call (Value.builtin "len") [Value.ref _]) _ _ _); k_dflt (refine' len_ba_K ?k1 ?k2 ?k3 ?_; (case k1 => k_asm); (case k2 => k_mem); (case k3 => first | exact Nat.zero_le _ | omega | (rw [sizeLine_eq]; omega) | (rw [sizeLine_eq]; simp only [Array.size_append, List.size_toArray, List.length_cons, List.length_nil]; omega)); k_whole)))
local macro_rules | `(tactic| walk_at "call type:bytes") => `(tactic| (k_here; (with_reducible show wpAny _ _ (call (Value.type "bytes") [Value.ref _]) _ _ _); k_dflt (refine' bytes_ba_K ?k1 ?k2 ?k3 ?_; (case k1 => k_asm); (case k2 => k_mem); (case k3 => first | exact Nat.zero_le _ | omega | (rw [sizeLine_eq]; omega) | (rw [sizeLine_eq]; simp only [Array.size_append, List.size_toArray, List.length_cons, List.length_nil]; omega)); k_whole); intro _ _))
local macro_rules | `(tactic| walk_at "enterQ") => `(tactic| (k_dflt (refine' codeQ_defK ?k1 ?k2 ?k3 ?k4 ?k5 ?kA ?kF ?kK ?k6 ?k7 ?k8 ?k9 ?kB ?_ ?c2 ?c3 ?c4 ?c5; (case kA => exact rfl); (case kF => exact rfl); (case kK => assumption); (case k1 => k_asm); (case k2 => k_asm); (case k3 => k_asm); (case k4 => k_asm); (case k5 => k_asm); (case k6 => k_is); (case k7 => k_is); (case k8 => ktr_room); (case k9 => first | exact BindsTo.of_eq rfl | (refine' kp_binds ?kx ?ke; (case kx => k_in); (case ke => exact fun _ => rfl))); (case c5 => decide); (case kB => exact locs rfl); (case c2 => exact rfl); (case c3 => exact rfl); (case c4 => exact rfl); k_whole; intro g' L' h' FG' F' N' B' X' T' KG'; (try dsimp only); (try k_fold))))
local macro_rules | `(tactic| walk_at "call builtin:object.__new__") => `(tactic| (k_here; (with_reducible show wpAny _ _ (call (Value.builtin "object.__new__") [Value.ref 1172]) _ _ _); k_dflt (refine' io_objnew_K ?k1 ?k2 ?k3 ?_; (case k1 => k_asm); (case k2 => k_asm); (case k3 => k_asm); k_whole); intro x' d' h' F' N' l1 l2; (try k_lt l1); (try k_lt2 l2); (try k_sweep)))
local macro_rules | `(tactic| k_all) => `(tactic| assumption)
local macro_rules | `(tactic| walk_at "call builtin:_struct.pack") => `(tactic| (k_here; k_dflt (first
  | (refine' pack1 ?k1 ?k2 ?k3; (case k1 => exact rfl); k_whole)
  | (refine' pack4 ?k1 ?k2 ?k3; (case k1 => exact rfl); k_whole)
  | (refine' pack5 ?k1 ?k2 ?k3; (case k1 => exact rfl); k_whole))))
local macro_rules | `(tactic| walk_at "call type:list") => `(tactic| (k_here; (with_reducible show wpAny _ _ (call (Value.type "list") [Value.bytes _ _]) _ _ _); k_dflt (refine' list_bytes_K ?k1 ?k2 ?k3 ?k4 ?_; (case k1 => k_asm); (case k2 => k_asm); (case k3 => exact rfl); (case k4 => assumption); k_whole); intro D' ys' c' h' tk' F' N' l1 hi'; (try k_lt l1); (try k_sweep)))
def lawF : List Stmt := lawBody.drop 6
section
variable {w : World} {p : Program} {loose : List PySem.Str} {mean : ExcName → Option Value} {mg mb : PySem.Str → Option Value} {L a : Addr} {ccd : Value} {cl : List (PySem.Str × Addr)}
  {base h₀ : Heap} {m : PySem.Str → Option Value} {s : Shared} {Q : Flow → Shared → Prop} {E : Value → Shared → Prop}
theorem law_2 {eD : Nat} {D x d b Lj : Addr} {ys ysl : List Value} {ns : List Int} {B : Array UInt8} {t1 t2 t3 : Tok}
    (Bl : Below callerA h₀ [] h₀) (F : Fr h₀ L s.heap m) (hm : m (PySem.Str.ofString "n") = some (.ref D) ∧ m (PySem.Str.ofString "f") = some (.ref x) ∧ m (PySem.Str.ofString "laid") = some (.ref Lj)) (X : (hd.heap_1 w.params).In h₀)
    (N : News h₀ L s.heap [(d, ioD w.params b B.size t1 t2 t3), (b, baO B), (x, instObj 1172 d), (D, W.listOf ys.toArray eD), (Lj, W.listOf ysl.toArray 0)]) (T : Top p loose mean mg mb h₀)
    (hdb : @Ne Nat d b) (hdx : @Ne Nat d x) (hbx : @Ne Nat b x) (hI : IntsAre ys ns) (hn : ns.length = 35) (hL : IntsAre ysl (KBw.bInts B)) (hz : B.size ≤ 9)
    (hQ : ∀ (h' : Heap) (tk' : Nat) (m' : PySem.Str → Option Value), Fr h₀ L h' m' → Q (.ret (.bool true)) { s with heap := h', toks := tk' }) :
    wq (model PySem.Challenge.rw_fq5014_01.row.prog w) (callerA.deeper (envX (sOf "law") lawScope L a ccd cl)) (execs lawF (envX (sOf "law") lawScope L a ccd cl)) Q E s := by
  revert X; k_fill; intro X
  conv in (occs := *) lawScope => all_goals whnf
  conv in lawF => whnf
  dsimp only [sOf]
  w_on
  refine wq_execs_cons (wq_For ?_)
  k_steps
  rename Fr _ _ _ _ => F9
  rename News _ _ _ _ => N9
  rename IsRange _ _ _ _ _ _ _ _ => r9
  refine wpAny_pyIter_range r9 (by decide) ?_
  have NI := N9.push F9 (itR (6 - ((6 : Nat) : Int)) ((6 : Nat) : Int))
  have FI := F9.push (itR (6 - ((6 : Nat) : Int)) ((6 : Nat) : Int))
  refine loop_q (news := []) Bl X T hdb hdx hbx (fun _ h => nomatch h) hI hn ?_ 6 (Nat.le_refl _) B _ _ m Lj ysl t1 t2 t3 (by omega) FI hm NI hL
  intro B2 h2 tk2 m2 Lj2 ysl2 v1 v2 v3 hz2 F2 e2 N2 hL2
  have z9 : B2.size ≤ sizeLine := by rw [sizeLine_eq]; omega
  have F3 := fr_one (x := PySem.Str.ofString "n") (fr_one (x := PySem.Str.ofString "f") (fr_one (x := PySem.Str.ofString "laid") F2 e2.2.2) e2.2.1) e2.1
  clear F2
  dsimp only
  refine wq_any ?_
  k_steps
  rename Fr h₀ _ _ _ => F10
  exact hQ _ _ _ F10
end
end Mine
namespace Mine
open PySem Calls
local macro_rules | `(tactic| k_room) => `(tactic| ktr_room)
local macro_rules | `(tactic| walk_at "call type:type") => `(tactic| (k_here; (with_reducible show wpAny _ _ (call (Value.type "type") [Value.bytes _ _]) _ _ _); (refine type_bytes ?_)))
local macro_rules | `(tactic| walk_at "call builtin:len") => `(tactic| (k_here; (with_reducible show wpAny _ _ (call (Value.builtin "len") [Value.ref _]) _ _ _); k_dflt (refine' len_ba_K ?k1 ?k2 ?k3 ?_; (case k1 => k_asm); (case k2 => k_mem); (case k3 => first | exact Nat.zero_le _ | omega | (rw [sizeLine_eq]; omega) | (rw [sizeLine_eq]; simp only [Array.size_append, List.size_toArray, List.length_cons, List.length_nil]; omega)); k_whole)))
local macro_rules | `(tactic| walk_at "call type:bytes") => `(tactic| (k_here; (with_reducible show wpAny _ _ (call (Value.type "bytes") [Value.ref _]) _ _ _); k_dflt (refine' bytes_ba_K ?k1 ?k2 ?k3 ?_; (case k1 => k_asm); (case k2 => k_mem); (case k3 => first | exact Nat.zero_le _ | omega | (rw [sizeLine_eq]; omega) | (rw [sizeLine_eq]; simp only [Array.size_append, List.size_toArray, List.length_cons, List.length_nil]; omega)); k_whole); intro _ _))
local macro_rules | `(tactic| walk_at "enterQ") => `(tactic| (k_dflt (refine' codeQ_defK ?k1 ?k2 ?k3 ?k4 ?k5 ?kA ?kF ?kK ?k6 ?k7 ?k8 ?k9 ?kB ?_ ?c2 ?c3 ?c4 ?c5; (case kA => exact rfl); (case kF => exact rfl); (case kK => assumption); (case k1 => k_asm); (case k2 => k_asm); (case k3 => k_asm); (case k4 => k_asm); (case k5 => k_asm); (case k6 => k_is); (case k7 => k_is); (case k8 => ktr_room); (case k9 => first | exact BindsTo.of_eq rfl | (refine' kp_binds ?kx ?ke; (case kx => k_in); (case ke => exact fun _ => rfl))); (case c5 => decide); (case kB => exact locs rfl); (case c2 => exact rfl); (case c3 => exact rfl); (case c4 => exact rfl); k_whole; intro g' L' h' FG' F' N' B' X' T' KG'; (try dsimp only); (try k_fold))))
local macro_rules | `(tactic| walk_at "call builtin:object.__new__") => `(tactic| (k_here; (with_reducible show wpAny _ _ (call (Value.builtin "object.__new__") [Value.ref 1172]) _ _ _); k_dflt (refine' io_objnew_K ?k1 ?k2 ?k3 ?_; (case k1 => k_asm); (case k2 => k_asm); (case k3 => k_asm); k_whole); intro x' d' h' F' N' l1 l2; (try k_lt l1); (try k_lt2 l2); (try k_sweep)))
local macro_rules | `(tactic| k_all) => `(tactic| assumption)
local macro_rules | `(tactic| walk_at "call builtin:_struct.pack") => `(tactic| (k_here; k_dflt (first
  | (refine' pack1 ?k1 ?k2 ?k3; (case k1 => exact rfl); k_whole)
  | (refine' pack4 ?k1 ?k2 ?k3; (case k1 => exact rfl); k_whole)
  | (refine' pack5 ?k1 ?k2 ?k3; (case k1 => exact rfl); k_whole))))
local macro_rules | `(tactic| walk_at "useMake") => `(tactic| (k_dflt (refine' make_qn ?b ?f ?x ?n ?t ?k ?d ?u ?_; (case b => assumption); (case f => assumption); (case x => assumption); (case n => assumption); (case t => assumption); (case k => exact rfl); (case d => ktr_room); (case u => ktr_units))))
local macro_rules | `(tactic| walk_at "useWh") => `(tactic| (k_dflt (refine' wh_q ?b ?f ?x ?n ?t ?k ?d ?u ?hdb ?hdx ?hbx ?hne ?z ?q ?e0 ?e1; (case b => assumption); (case f => assumption); (case x => assumption); (case n => assumption); (case t => assumption); (case k => exact rfl); (case hdb => assumption); (case hdx => assumption); (case hbx => assumption); (case hne => first | assumption | ((repeat (refine List.forall_mem_cons.mpr ⟨⟨by (show @Ne Nat _ _; omega), by (show @Ne Nat _ _; omega), by (show @Ne Nat _ _; omega)⟩, ?_⟩)); assumption)); (case d => ktr_room); (case u => ktr_units))))
local macro_rules | `(tactic| walk_at "binaryOp Pow int int") => `(tactic| (k_here; (with_reducible show wpAny _ _ (binaryOp Operator.Pow (Value.int 2 _) (Value.int 31 _)) _ _ _); (refine pow_31 ?_)))
theorem lfront_s {w : World} {p : Program} {loose : List PySem.Str} {mean : ExcName → Option Value} {mg mb : PySem.Str → Option Value} {dp un : Nat} {cn : PySem.Str} {cs : Scope} {L a : Addr} {ccd : Value} {cl : List (PySem.Str × Addr)} {outer : List Env}
  {A₀ : Around} {base h₀ : Heap} {m : PySem.Str → Option Value} {s : Shared} {Q E : Value → Shared → Prop} {news : List (Addr × Obj)} {v f st o : Int} {u1 u2 u3 u4 : Tok} {C : Array UInt8} (hC : frontB v f st o = some C)
    (Bl : Below A₀ base outer h₀) (F : Fr h₀ L s.heap m) (X : (hd.heap_1 w.params).In h₀)
    (N : News h₀ L s.heap news) (T : Top p loose mean mg mb h₀) (hk : cs.kind = .function) (hdp : dp + 15 < recursionLimit) (hun : un + 80 < cLine)
    (hQ : ∀ h' tk' D ys, Fr h₀ L h' m → News h₀ L h' ((D, W.listOf ys.toArray 0) :: news) → (∀ q ∈ news, q.1 ≠ D) → IntsAre ys (KBw.bInts C) → Q (.ref D) { s with heap := h', toks := tk' }) :
    wpAny (model PySem.Challenge.rw_fq5014_01.row.prog w) (ktrTop dp un (some []) cn cs L a ccd cl outer) (PySem.call (.ref 1605) [.int v u1, .int f u2, .int st u3, .int o u4]) Q E s :=
  lfront_n Bl F X N T hk hdp hun (fun e => absurd (e.symm.trans (front_some hC)) (fun z => nomatch z)) fun C' e h' tk' D ys F' N' ne hi => by
    obtain rfl : KBw.bInts C = C' := Option.some.inj ((front_some hC).symm.trans e)
    exact hQ h' tk' D ys F' N' ne hi
local macro_rules | `(tactic| walk_at "useFront") => `(tactic| (k_dflt (refine' lfront_s ?c ?b ?f ?x ?n ?t ?k ?d ?u ?_; (case c => assumption); (case b => assumption); (case f => assumption); (case x => assumption); (case n => assumption); (case t => assumption); (case k => exact rfl); (case d => ktr_room); (case u => ktr_units); intro h6 tk6 D6 ys6 F6 N6 ne6 hi6)))
local macro_rules | `(tactic| walk_at "call ref") => `(tactic| (k_here; (with_reducible show wpAny _ _ (call (Value.ref 1605) [Value.int _ _, Value.int _ _, Value.int _ _, Value.int _ _]) _ _ _); walk_at "useFront"))
local macro_rules | `(tactic| walk_at "enterA") => `(tactic| (k_dflt (refine' codeA_defK ?k1 ?k2 ?k3 ?k4 ?k5 ?kA ?kF ?kK ?k6 ?k7 ?k8 ?k9 ?kB ?_ ?c2 ?c3 ?c4 ?c5; (case kA => exact rfl); (case kF => exact rfl); (case kK => assumption); (case k1 => k_asm); (case k2 => k_asm); (case k3 => k_asm); (case k4 => k_asm); (case k5 => k_asm); (case k6 => k_is); (case k7 => k_is); (case k8 => ktr_room); (case k9 => first | exact BindsTo.of_eq rfl | (refine' kp_binds ?kx ?ke; (case kx => k_in); (case ke => exact fun _ => rfl))); (case c5 => decide); (case kB => exact locs rfl); (case c2 => exact rfl); (case c3 => exact rfl); (case c4 => exact rfl); k_whole; intro g' L' h' FG' F' N' B' X' T' KG'; (try dsimp only); (try k_fold))))
local macro_rules | `(tactic| walk_at "useNum") => `(tactic| (k_dflt (first
  | (refine' lnum_1 ?b ?f ?x ?n ?t ?k ?d ?u ?_; (case b => assumption); (case f => assumption); (case x => assumption); (case n => assumption); (case t => assumption); (case k => exact rfl); (case d => ktr_room); (case u => ktr_units); intro h6 tk6 D6 ys6 F6 N6 ne6 hi6)
  | (refine' lnum_2 ?b ?f ?x ?n ?t ?k ?d ?u ?_; (case b => assumption); (case f => assumption); (case x => assumption); (case n => assumption); (case t => assumption); (case k => exact rfl); (case d => ktr_room); (case u => ktr_units); intro h6 tk6 D6 ys6 F6 N6 ne6 hi6)
  | (refine' lnum_4 ?b ?f ?x ?n ?t ?k ?d ?u ?_; (case b => assumption); (case f => assumption); (case x => assumption); (case n => assumption); (case t => assumption); (case k => exact rfl); (case d => ktr_room); (case u => ktr_units); intro h6 tk6 D6 ys6 F6 N6 ne6 hi6))))
local macro_rules | `(tactic| walk_at "call ref") => `(tactic| (k_here; (with_reducible show wpAny _ _ (call (Value.ref 1598) [Value.int _ _, Value.int _ _]) _ _ _); walk_at "useNum"))
local macro_rules | `(tactic| walk_at "call ref") => `(tactic| (k_here; (with_reducible show wpAny _ _ (call (Value.ref 1612) [Value.int _ _]) _ _ _); k_dflt (refine' lasked_n ?b ?f ?x ?n ?t ?k ?d ?u ?_; (case b => assumption); (case f => assumption); (case x => assumption); (case n => assumption); (case t => assumption); (case k => exact rfl); (case d => ktr_room); (case u => ktr_units); intro h6 tk6 F6 N6)))
local macro_rules | `(tactic| walk_at "call type:list") => `(tactic| (k_here; (with_reducible show wpAny _ _ (call (Value.type "list") [Value.bytes _ _]) _ _ _); k_dflt (refine' list_bytes_K ?k1 ?k2 ?k3 ?k4 ?_; (case k1 => k_asm); (case k2 => k_asm); (case k3 => exact rfl); (case k4 => assumption); k_whole); intro D' ys' c' h' tk' F' N' l1 hi'; (try k_lt l1); (try k_sweep)))
local macro_rules | `(tactic| walk_at "binaryOp Add ref ref") => `(tactic| (k_here; (with_reducible show wpAny _ _ (binaryOp _ (Value.ref _) (Value.ref _)) _ _ _); k_dflt (refine' kmk_add_ints ?F ?N ?a ?b ?i ?j ?_ ?z; (case F => k_asm); (case N => k_asm); (case a => kmk_list); (case b => kmk_list); (case i => l_ints); (case j => l_ints); (case z => (simp only [sizeLine_eq, List.length_cons, List.length_nil, List.length_append]; omega))); intro D' ws' h' F' N' l1 hI'; (try k_lt l1); (try k_sweep)))
theorem fmod_b (a : Int) {n : Int} (h : 0 < n) : 0 ≤ a.fmod n ∧ a.fmod n < n := by
  rw [Int.fmod_eq_emod_of_nonneg _ (Int.le_of_lt h)]
  exact ⟨Int.emod_nonneg a (Int.ne_of_gt h), Int.emod_lt_of_pos a h⟩
theorem front_good {v f st o : Int} (h1 : 3 ≤ v ∧ v ≤ 5) (h2 : 0 ≤ f ∧ f ≤ 255) (h3 : -32768 ≤ st ∧ st ≤ 32767) (h4 : 0 ≤ o ∧ o ≤ 255) : ∃ C, frontB v f st o = some C := by
  unfold frontB
  rw [if_pos h1.1, if_pos ⟨⟨by omega, by omega⟩, h2, h3, h4⟩]
  exact ⟨_, rfl⟩
theorem five_of {h₀ h : Heap} {L l : Addr} {x0 x1 x2 x3 x4 : Int} {k1 k2 k3 k4 k5 : Tok} {rest : List (Addr × Obj)}
    (N : News h₀ L h ((l, W.listOf #[Value.int (3 + x0.fmod 3) k1, Value.int (x1.fmod 256) k2, Value.int (x2.fmod 65536 - 32768) k3, Value.int (x3.fmod 256) k4, Value.int (x4.fmod 2147483648) k5] 0) :: rest)) :
    ∃ (v f st o i : Int), ((3 ≤ v ∧ v ≤ 5) ∧ (0 ≤ f ∧ f ≤ 255) ∧ (-32768 ≤ st ∧ st ≤ 32767) ∧ (0 ≤ o ∧ o ≤ 255) ∧ (0 ≤ i ∧ i ≤ 2147483647)) ∧ News h₀ L h ((l, W.listOf #[Value.int v k1, Value.int f k2, Value.int st k3, Value.int o k4, Value.int i k5] 0) :: rest) := by
  refine ⟨_, _, _, _, _, ?_, N⟩
  have g0 := fmod_b x0 (n := 3) (by decide)
  have g1 := fmod_b x1 (n := 256) (by decide)
  have g2 := fmod_b x2 (n := 65536) (by decide)
  have g3 := fmod_b x3 (n := 256) (by decide)
  have g4 := fmod_b x4 (n := 2147483648) (by decide)
  exact ⟨⟨by omega, by omega⟩, ⟨by omega, by omega⟩, ⟨by omega, by omega⟩, ⟨by omega, by omega⟩, ⟨by omega, by omega⟩⟩
theorem item_lit {prog : Program} {w : World} {A : Around} {E : Value → Shared → Prop} {s : Shared} {value slice : PySem.Expr} {l : Addr} {items : Array Value} {k : Int} {u : Tok} {v : Value} {Q : Value → Shared → Prop}
    (hl : s.heap.IsList l items) (h0 : 0 ≤ k) (hhi : k < 2 ^ 63) {r : List Value} (hx : items.toList.drop k.toNat = v :: r) (h : Q v s)
    (hs : subscripted slice false (.ref l) (.int k u) = operate [.ref l, .int k u] (getItem (.ref l) (.int k u))) :
    wpAny (model prog w) A (subscriptTail value slice (.ref l) (.int k u)) Q E s :=
  tail_any hl.typeIs slot_list_getitem.lookup (wpAny_getItem_list hl h0 hhi (by
    have e := congrArg (fun l => l[0]?) hx
    simpa using e) h) hs
local macro_rules | `(tactic| walk_at "subscriptTail Name Constant ref int") => `(tactic| (k_here; (with_reducible show wpAny _ _ (subscriptTail _ _ (Value.ref _) (Value.int _ _)) _ _ _); k_dflt (refine' item_lit ?k1 ?k2 ?k3 ?k4 ?_ ?k6; (case k1 => kmk_list); (case k2 => decide); (case k3 => decide); (case k4 => exact rfl); (case k6 => with_unfolding_all rfl); k_whole)))
theorem five_k {h₀ h : Heap} {L l : Addr} {x0 x1 x2 x3 x4 : Int} {k1 k2 k3 k4 k5 : Tok} {rest : List (Addr × Obj)}
    (N : News h₀ L h ((l, W.listOf #[Value.int (3 + x0.fmod 3) k1, Value.int (x1.fmod 256) k2, Value.int (x2.fmod 65536 - 32768) k3, Value.int (x3.fmod 256) k4, Value.int (x4.fmod 2147483648) k5] 0) :: rest)) (P : Prop)
    (K : ∀ (v f st o i : Int) (k1 k2 k3 k4 k5 : Tok) (C : Array UInt8), frontB v f st o = some C → fits4 i → News h₀ L h ((l, W.listOf #[Value.int v k1, Value.int f k2, Value.int st k3, Value.int o k4, Value.int i k5] 0) :: rest) → P) : P := by
  obtain ⟨v, f, st, o, i, ⟨b1, b2, b3, b4, b5⟩, M9⟩ := five_of N
  obtain ⟨C, hC⟩ := front_good b1 b2 b3 b4
  exact K v f st o i _ _ _ _ _ C hC ⟨by omega, by omega⟩ M9
def lawR : List Stmt := lawBody.drop 1
section
variable {w : World} {p : Program} {loose : List PySem.Str} {mean : ExcName → Option Value} {mg mb : PySem.Str → Option Value} {L a : Addr} {ccd : Value} {cl : List (PySem.Str × Addr)}
  {base h₀ : Heap} {m : PySem.Str → Option Value} {s : Shared} {Q : Flow → Shared → Prop} {E : Value → Shared → Prop} {news : List (Addr × Obj)}
theorem law_1 {eD : Nat} {D : Addr} {ys : List Value} {ns : List Int}
    (Bl : Below callerA h₀ [] h₀) (F : Fr h₀ L s.heap (fun z => if z = PySem.Str.ofString "n" then some (.ref D) else m z)) (X : (hd.heap_1 w.params).In h₀)
    (N : News h₀ L s.heap [(D, W.listOf ys.toArray eD)]) (T : Top p loose mean mg mb h₀)
    (hI : IntsAre ys ns) (hn : ns.length = 35)
    (hQ : ∀ (h' : Heap) (tk' : Nat) (m' : PySem.Str → Option Value), Fr h₀ L h' m' → Q (.ret (.bool true)) { s with heap := h', toks := tk' }) :
    wq (model PySem.Challenge.rw_fq5014_01.row.prog w) (callerA.deeper (envX (sOf "law") lawScope L a ccd cl)) (execs lawR (envX (sOf "law") lawScope L a ccd cl)) Q E s := by
  revert X; k_fill; intro X
  conv in (occs := *) lawScope => all_goals whnf
  conv in lawR => whnf
  dsimp only [sOf]
  w_on
  refine wq_execs_cons (wq_Assign_Name (wq_Call_Name ?_))
  k_steps
  refine wq_callWith_K0 (by k_in) (by k_is) ?_
  walk_at "useMake"
  intro h4 tk4 x d b t1 t2 t3 F4 N4 n1 n2 n3 n4
  k_steps
  dsimp only
  refine wq_execs_append (pre := [_]) ?_
  k_steps
  rename News _ _ _ _ => N9
  refine five_k N9 _ ?_
  clear N9
  intro v f st o i k1 k2 k3 k4 k5 C hC hi M9
  dsimp only
  refine wq_execs_cons (wq_Expr (wq_MethodCall ?_))
  k_steps
  refine wq_callWith_K (by assumption) (by k_is) ?_
  k_steps
  rename News _ _ _ _ => N11
  have N10 := news_up (pre := [_]) N11
  simp only [List.cons_append, List.nil_append] at N10
  clear N11
  walk_at "useWh"
  case z => exact Nat.le_of_ble_eq_true rfl
  case e0 =>
    intro h0
    exact absurd (hC.symm.trans h0) (fun z => nomatch z)
  case e1 =>
    intro C' hC' hi'
    exact absurd hi hi'
  case q =>
    intro C' hC' hi7 h7 tk7 w1 w2 w3 F7 N7
    obtain rfl : C = C' := Option.some.inj (hC.symm.trans hC')
    have e6 : (#[] ++ C ++ be4 i) = C ++ be4 i := by rw [Array.empty_append]
    rw [e6] at N7
    have hz5 := frontB_size hC
    have z7 : (C ++ be4 i).size ≤ 9 := by rw [Array.size_append, show (be4 i).size = 4 from rfl]; omega
    have zC : (KBw.bInts C).length ≤ 5 := by rw [KBw.ints_length]; exact hz5
    have e10 : KBw.bInts (C ++ be4 i) = KBw.bInts C ++ [oct i 3, oct i 2, oct i 1, oct i 0] := by rw [bInts_append, be4_ints]
    have z9 : (C ++ be4 i).size ≤ sizeLine := by rw [sizeLine_eq]; omega
    dsimp only
    refine wq_execs_append (pre := [_, _]) ?_
    k_steps
    dsimp only
    rename Fr h₀ _ _ _ => F9
    rename News h₀ _ _ _ => N9
    rename IntsAre _ (_ ++ _) => hL9
    rw [← e10] at hL9
    refine law_2 (eD := eD) (t1 := w1) (t2 := w2) (t3 := w3) Bl F9 ⟨rfl, rfl, rfl⟩ X (fun q hq => N9 q ?_) T n1 n2 n3 hI hn hL9 z7 hQ
    simp only [List.mem_cons, List.not_mem_nil, or_false] at hq ⊢
    rcases hq with h | h | h | h | h <;> simp only [h, true_or, or_true]
end
end Mine
namespace Mine
theorem news_head {h₀ h : Heap} {L : Addr} {q : Addr × Obj} {l : List (Addr × Obj)} (N : News h₀ L h (q :: l)) : News h₀ L h [q] := fun r hr => by rw [List.mem_singleton.mp hr]; exact N q (.head _)
theorem walk0 : hd.1.2 := by
  unfold hd
  dsimp only
  k_fill
  intro w s₀ s₁ mg mb G Y fa o pm cd doc dV kV ho hd hcd hD hmg hg args vals as hpre hlay hrd hwl hlo
  have KX := kIn_of Y
  refine Ground.open G ?_
  intro T B D TE TW
  try (refine guard_noD D (by decide +kernel) ?_; clear D)
  obtain ⟨_, _, M⟩ := bmod_of_top T
  try (obtain ⟨_, _, he, B0⟩ := based_of_top T rfl hmg ho hd; have he' : cd = _ := he; subst he'; clear he)
  have TA := at_of_top T
  clear hmg
  wrow_args hpre hlay hrd hwl hlo
  have K0 := below_caller (Top.heap T)
  have he := Dflts.none hD rfl; subst he; have he := Dflts.noKw hD; subst he
  refine codeQ_cells (by decide) ho (fd_plain hd) (Top.nolimit T) hcd rfl (kinds_of (by kinds_ok)) (by decide) fun h₁ tk₁ cells F N0 X0 => ?_
  cells_open X0
  clear hd TA
  k_drop
  refine wq_execs_append (pre := [_]) ?_
  w_on
  w_top on
  try k_fold
  k_steps
  rename Fr _ _ _ _ => F9
  rename News _ _ _ _ => N9
  rename IntsAre _ (List.map _ _) => I9
  refine law_1 (p := QV) K0 F9 KX (news_head N9) T I9 ?_ fun h9 tk9 m9 F10 => ?_
  · rw [List.length_map, rangeKs_length]; rfl
  · (try dsimp only)
    refine GoodW.toG ?_
    k_steps
end Mine

theorem PySem.Challenge.cw_fq5014_01_holds : PySem.Challenge.rw_fq5014_01.Holds := by
  w_on
  o_law
  exact Mine.H.row ⟨Mine.walk0, by assumption⟩
