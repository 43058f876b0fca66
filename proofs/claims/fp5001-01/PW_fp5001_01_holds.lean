import PyProof.Rows.All
import Wide.All
import OpenK.AllK
import Wide.FinOn
import OpenK.KInv2
import KE.KOwn
import KE.BitLaws
import Lean
import PySem.Challenge.RW_fp5001_01
set_option Elab.async false
set_option maxRecDepth 1000000
set_option maxHeartbeats 8000000
set_option linter.unusedVariables false
set_option linter.unusedSimpArgs false
set_option pp.deepTerms false
set_option pp.maxSteps 300
section
open PySem PySem.W PyProof.Rows PySem.Calls
namespace Mine
/-! The wpAny logic speaks of every stack with the right frames; a bytearray's first filling looks at the whole stack for
codes that hold its memory. So: the same logic over the stacks that hold no such code. -/
def heldId (id : String) : Bool := Builtin.Bytes.decodersThatHold.contains id || ["bytearray.__contains__", "bytearray.__mod__", "bytearray.__rmod__", "_struct.pack_into.held", "bytearray.find.held"].contains id
def holder : Code → Bool
  | .builtin id _ => heldId id
  | _ => false
def CleanL (l : List (Code × Pos)) : Prop := ∀ x ∈ l, holder x.1 = false
def wpS {α : Type} (M : Model) (A : Around) (t : Sem α) (Q : α → Shared → Prop) (E : Value → Shared → Prop) (s : Shared) : Prop :=
  ∀ Γ p, Γ.In A → holder Γ.code = false → CleanL Γ.below → Sem.wp M Γ t (fun a _ s' => Q a s') (fun e _ s' => E e s') p s
def codeS (M : Model) (A : Around) (c : Code) (R : Result → Shared → Prop) (s : Shared) : Prop :=
  ∀ Γ p, Γ.code = c → Γ.Below A → CleanL Γ.below → wpCode M Γ R p s
section
variable {α β : Type} {M : Model} {A : Around} {E : Value → Shared → Prop} {s : Shared}
theorem S_any {t : Sem α} {Q : α → Shared → Prop} (h : wpAny M A t Q E s) : wpS M A t Q E s := fun Γ p hΓ _ _ => h Γ p hΓ
theorem S_pure {a : α} {Q : α → Shared → Prop} (h : Q a s) : wpS M A (pure a) Q E s := fun _ _ _ _ _ => h
theorem S_mono {t : Sem α} {Q Q' : α → Shared → Prop} {E' : Value → Shared → Prop} (h : wpS M A t Q E s)
    (hQ : ∀ a s, Q a s → Q' a s) (hE : ∀ e s, E e s → E' e s) : wpS M A t Q' E' s :=
  fun Γ p hΓ h1 h2 => Sem.wp_mono M Γ t (fun a _ s => hQ a s) (fun e _ s => hE e s) p s (h Γ p hΓ h1 h2)
theorem S_bind {m : Sem α} {f : α → Sem β} {Q : β → Shared → Prop} (h : wpS M A m (fun a s' => wpS M A (f a) Q E s') E s) :
    wpS M A (m >>= f) Q E s := fun Γ p hΓ h1 h2 => by
  rw [Sem.wp_bind']
  exact Sem.wp_mono M Γ m (fun a p' s' h' => h' Γ p' hΓ h1 h2) (fun _ _ _ h' => h') p s (h Γ p hΓ h1 h2)
theorem S_bindA {m : Sem α} {f : α → Sem β} {Q : β → Shared → Prop} (h : wpAny M A m (fun a s' => wpS M A (f a) Q E s') E s) :
    wpS M A (m >>= f) Q E s := S_bind (S_any h)
theorem S_tryCatch {m : Sem α} {k : Value → Sem α} {Q : α → Shared → Prop} (h : wpS M A m Q (fun e s' => wpS M A (k e) Q E s') s) :
    wpS M A (tryCatch m k) Q E s := fun Γ p hΓ h1 h2 => by
  rw [Sem.wp_tryCatch']
  exact Sem.wp_mono M Γ m (fun _ _ _ h' => h') (fun e p' s' h' => h' Γ p' hΓ h1 h2) p s (h Γ p hΓ h1 h2)
theorem S_attempt {m : Sem α} {Q : Except Value α → Shared → Prop} (h : wpS M A m (fun a => Q (.ok a)) (fun e => Q (.error e)) s) :
    wpS M A m.attempt Q E s := fun Γ p hΓ h1 h2 => by rw [Sem.wp_attempt]; exact h Γ p hΓ h1 h2
theorem S_onRaise {m : Sem α} {k : Value → Sem Unit} {Q : α → Shared → Prop}
    (h : wpS M A m Q (fun e s' => wpS M A (k e) (fun _ s'' => E e s'') E s') s) : wpS M A (m.onRaise k) Q E s := fun Γ p hΓ h1 h2 => by
  rw [Sem.wp_onRaise]
  exact Sem.wp_mono M Γ m (fun _ _ _ h' => h') (fun e p' s' h' => h' Γ p' hΓ h1 h2) p s (h Γ p hΓ h1 h2)
theorem S_holding {vs : List Value} {m : Sem α} {Q : α → Shared → Prop} (h : wpS M A m Q E s) : wpS M A (holding vs m) Q E s :=
  fun Γ p hΓ h1 h2 => by rw [Sem.wp_holding]; exact h Γ p hΓ h1 h2
theorem S_standAt {pos : Pos} {Q : Unit → Shared → Prop} (h : Q () s) : wpS M A (standAt pos) Q E s := fun _ _ _ _ _ => h
theorem S_point {Q : Unit → Shared → Prop} (h : Q () s) : wpS M A point Q E s := fun _ _ _ _ _ => h
theorem S_in {c : Code} {h : Option Value} {Γ : Ctx} {p : Pos} (h1 : holder Γ.code = false) (h2 : CleanL Γ.below) : CleanL (Γ.enter c h p).below := fun x hx => by
  rcases List.mem_cons.mp hx with rfl | hx
  · exact h1
  · exact h2 x hx
theorem S_runValue {c : Code} {Q : Value → Shared → Prop}
    (hc : codeS M A c (fun r s' => match r with | .ok (.ret v) => Q v s' | .ok _ => False | .error e => E e s') s) :
    wpS M A (runValue c) Q E s := fun Γ p hΓ h1 h2 => by rw [Sem.wp_runValue]; exact hc _ p rfl (hΓ.enter c none p (by intro x; cases x)) (S_in h1 h2)
theorem S_call {f : Value} {pos : List Value} {kw : List (Str × Value)} {Q : Value → Shared → Prop}
    (hc : codeS M A (.call f ⟨pos, kw⟩) (fun r s' => match r with | .ok (.ret v) => Q v s' | .ok _ => False | .error e => E e s') s) :
    wpS M A (call f pos kw) Q E s := S_runValue hc
theorem S_run {c : Code} {h : Option Value} {Q : Flow → Shared → Prop}
    (hc : codeS M (A.mark h) c (fun r s' => match r with | .ok f => Q f s' | .error e => E e s') s) (hnb : h ≠ some byPass := by intro x; cases x) :
    wpS M A (run c h) Q E s :=
  fun Γ p hΓ h1 h2 => by rw [Sem.wp_run]; exact hc _ p rfl (hΓ.enter c h p hnb) (S_in h1 h2)
theorem codeS_any {c : Code} {R : Result → Shared → Prop} (h : codeAny M A c R s) : codeS M A c R s := fun Γ p hc hΓ _ => h Γ p hc hΓ
theorem codeS_mono {c : Code} {R R' : Result → Shared → Prop} (h : codeS M A c R s) (hR : ∀ r s, R r s → R' r s) : codeS M A c R' s :=
  fun Γ p hc hΓ h2 => wpCode_mono hR (h Γ p hc hΓ h2)
theorem codeS_of_tree {c : Code} {R : Result → Shared → Prop} (hh : holder c = false)
    (h : wpS M (A.under c) (M.den c) (fun fin s' => match fin with | .done f => R (.ok f) s' | .again c' => c'.quiet = true ∧ codeS M A c' R s')
      (fun e s' => R (.error e) s') s) : codeS M A c R s := fun Γ p hc hΓ h2 => by
  rw [wpCode_iff_wp, hc]
  refine Sem.wp_mono M Γ _ (fun fin p' s' h' => ?_) (fun _ _ _ h' => h') p s (h Γ p (hc ▸ hΓ.in) (hc ▸ hh) h2)
  cases fin with
  | done f => exact h'
  | again c' => exact ⟨h'.1, h'.2 (Γ.goto c') p' rfl (hΓ.goto c') h2⟩
theorem not_held {self : Value} : ∀ {l : List (Code × Pos)}, CleanL l → (l.any fun
    | (.builtin "bytearray.__contains__" ⟨v :: _, _⟩, _) | (.builtin "bytearray.__mod__" ⟨v :: _, _⟩, _)
    | (.builtin "bytearray.__rmod__" ⟨_ :: v :: _, _⟩, _) | (.builtin "_struct.pack_into.held" ⟨v :: _, _⟩, _) => Builtin.Bytes.sameRef v self
    | (.builtin "bytearray.find.held" ⟨_ :: _ :: held, _⟩, _) => held.any (Builtin.Bytes.sameRef self)
    | (.builtin id ⟨v :: _, _⟩, _) => Builtin.Bytes.sameRef v self && Builtin.Bytes.decodersThatHold.contains id
    | _ => false) = false
  | [], _ => rfl
  | (c, p) :: l, h => by
    rw [List.any_cons, not_held (fun x hx => h x (List.mem_cons_of_mem _ hx)), Bool.or_false]
    have h1 := h (c, p) (List.mem_cons_self ..)
    unfold holder heldId at h1
    split <;> first | (simp_all; done) | rfl | skip
    all_goals (simp only [Bool.or_eq_false_iff] at h1; first | (exfalso; revert h1; decide) | (obtain ⟨h3, h4⟩ := h1; rw [h3, Bool.and_false]))
theorem S_exported {self : Value} {Q : Bool → Shared → Prop} (h : Q false s) : wpS M A (Builtin.Bytes.exported self) Q E s := fun Γ p hΓ h1 h2 => by
  have hc : CleanL ((Γ.code, p) :: Γ.below) := fun x hx => by
    rcases List.mem_cons.mp hx with rfl | hx
    · exact h1
    · exact h2 x hx
  have e := not_held (self := self) hc
  show Q (List.any ((Γ.code, p) :: Γ.below) _) s
  rw [← e] at h
  exact h
end
section
variable {prog : Program} {w : World} {A : Around} {s : Shared} {R : Result → Shared → Prop}
theorem codeS_builtin {id : String} {args : Args} {b : Builtin} (hh : heldId id = false) (hb : entryFor table id = some b)
    (h : wpS (model prog w) (A.under (.builtin id args)) (b args)
      (fun fin s' => match fin with | .done f => R (.ok f) s' | .again c' => c'.quiet = true ∧ codeS (model prog w) A c' R s') (fun e s' => R (.error e) s') s) :
    codeS (model prog w) A (.builtin id args) R s := by
  refine codeS_of_tree hh ?_
  show wpS _ _ (match entryFor table id with | some b => b args | none => unsupported ((withoutEnding? id "#data").getD id)) _ _ s
  rw [hb]; exact h
theorem codeS_call_builtin {id : String} {args : Args} {b : Builtin} (hq : plainId id = true) (hh : heldId id = false) (hb : entryFor table id = some b)
    (h : wpAny (model prog w) A.in1 (checkBuiltinCall id args) (fun _ s₁ => wpS (model prog w) A.in1 (b args)
      (fun fin s' => match fin with | .done f => R (.ok f) s' | .again c' => c'.quiet = true ∧ codeS (model prog w) A c' R s') (fun e s' => R (.error e) s') s₁)
      (fun e s' => R (.error e) s') s) :
    codeS (model prog w) A (.call (.builtin id) args) R s := by
  refine codeS_of_tree rfl ?_
  show wpS _ A.in1 (do checkBuiltinCall id args; again (.builtin id args)) _ _ s
  refine S_bindA (wpAny_mono h (fun _ s₁ h₁ => S_pure (And.intro (plainId_quiet hq args) (codeS_builtin hh hb ?_))) fun _ _ h' => h')
  rw [Around.under_plainId hq args]; exact h₁
end
end Mine
end
section
open PySem PySem.W PyProof.Rows PySem.Calls
namespace Mine
theorem ba_mro : mroOf (.type "bytearray") = pure [.type "bytearray", .type "object"] := by rw [mroOf_type]; kernel_rfl
theorem ba_new : typeLookup (.type "bytearray") "__new__" = pure (some (.builtin "bytearray.__new__")) := by rw [typeLookup_type, builtinLookup_eq_fast]; kernel_rfl
theorem ba_init : Slot "bytearray" "__init__" "bytearray.__init__" :=
  .of (owner := "bytearray") (n := "__init__") (by rw [typeLookup_type, builtinLookup_eq_fast]; kernel_rfl) (by decide +kernel) (by decide +kernel) (by decide +kernel)
    (by first | exact .inl (by decide +kernel) | exact .inr (by decide +kernel)) (by rw [isSubtype_type]; kernel_rfl)
theorem ba_sub : isSubtype (.type "bytearray") (.type "bytearray") = pure true := by rw [isSubtype_type]; kernel_rfl
theorem ba_called : TypeCalled "bytearray" "bytearray.__new__" "bytearray.__init__" :=
  ⟨by decide +kernel, by decide +kernel, ⟨_, _, ba_mro⟩, madeBy_type ba_mro ba_new (by decide +kernel), by decide +kernel, ba_sub, ba_init⟩
theorem ba_typeCall (a : Value) : checkTypeCall "bytearray" ⟨[a], []⟩ = pure () := by kernel_rfl
theorem ba_newCall (a : Value) : checkBuiltinCall "bytearray.__new__" ⟨[.type "bytearray", a], []⟩ = pure () := by kernel_rfl
theorem ba_newEntry : entryFor table "bytearray.__new__" = some Builtin.«list.__new__» := entryFor_alias (id' := "list.__new__") (by rw [fastTable_eq_tree]; kernel_rfl) (by first | rfl | decide +kernel) (by decide +kernel) (by rw [fastTable_eq_tree]; kernel_rfl)
theorem ba_initEntry : entryFor table "bytearray.__init__" = some Builtin.«bytearray.__init__» := by first | exact entryFor_of_tree (by kernel_rfl) | exact entryFor_of_fast (by kernel_rfl)
theorem ba_newPlain : plainId "bytearray.__new__" = true := by decide +kernel
theorem ba_owner : ("bytearray.__new__".splitOn ".__new__").headD "" = "bytearray" := by simp +decide [String.splitOn, String.splitOnAux]
theorem ba_argsOk (a b : Value) : argsOk "bytearray.__init__" ⟨[a, b], []⟩ := by unfold argsOk; kernel_rfl
theorem ba_bind (v : Value) : Builtin.Bytes.bindOptional "bytearray.__init__" "bytearray" ["source", "encoding", "errors"] [v] [] = pure [some v, none, none] := by kernel_rfl
theorem ba_release : typeLookup (.type "bytearray") "__release_buffer__" = pure (some (.builtin "bytearray.__release_buffer__")) := by rw [typeLookup_type, builtinLookup_eq_fast]; kernel_rfl
theorem by_index : typeLookup (.type "bytes") "__index__" = pure none := by rw [typeLookup_type, builtinLookup_eq_fast]; kernel_rfl
theorem by_buffer : typeLookup (.type "bytes") "__buffer__" = pure (some (.builtin "bytes.__buffer__")) := by rw [typeLookup_type, builtinLookup_eq_fast]; kernel_rfl
theorem by_release : typeLookup (.type "bytes") "__release_buffer__" = pure none := by rw [typeLookup_type, builtinLookup_eq_fast]; kernel_rfl
theorem by_sub : isSubtype (.type "bytes") (.type "bytes") = pure true := by rw [isSubtype_type]; kernel_rfl
theorem ba_ends : "bytearray.__release_buffer__".endsWith ("." ++ "__release_buffer__") = true := by decide +kernel
theorem ba_drop : ("bytearray.__release_buffer__".dropRight ("__release_buffer__".length + 1)) = "bytearray" := by decide +kernel
theorem by_ends : "bytes.__buffer__".endsWith ("." ++ "__buffer__") = true := by decide +kernel
theorem by_drop : ("bytes.__buffer__".dropRight ("__buffer__".length + 1)) = "bytes" := by decide +kernel

section
variable {prog : Program} {w : World} {A : Around} {E : Value → Shared → Prop} {s : Shared}
theorem ba_code_new (a : Value) {Q₁ : Value → Shared → Prop}
    (h : Q₁ (.ref s.heap.objs.size) { s with heap := s.heap.push { cls := .type "bytearray", data := .bytearray #[] } }) :
    codeAny (model prog w) A (.call (.builtin "bytearray.__new__") ⟨[.type "bytearray", a], []⟩) (wants Q₁ E) s := by
  refine codeAny_of_tree ?_
  show wpAny _ A.in1 (do checkBuiltinCall "bytearray.__new__" ⟨[.type "bytearray", a], []⟩; again (.builtin "bytearray.__new__" ⟨[.type "bytearray", a], []⟩)) _ _ s
  refine wpAny_bind (wpAny_of_eq (ba_newCall a) (wpAny_pure ⟨plainId_quiet ba_newPlain _, codeAny_builtin_stack ba_newEntry rfl fun p st => ?_⟩))
  rw [Around.under_plainId ba_newPlain _]
  have hsub := ba_sub
  have hown := ba_owner
  obtain ⟨hp, g, d, tk, os⟩ := s
  simp only [hown]
  wp_walk
  exact h
/-- the mark «nobody lends this memory out», and the filling -/
theorem ba_slotOwn {a : Addr} {o : Obj} {Q : Bool → Shared → Prop} (ho : s.heap.get? a = some o) (hc : o.cls = .type "bytearray") (h : Q true s) :
    wpAny (model prog w) A (Builtin.Bytes.slotIsOwn (.ref a) "__release_buffer__") Q E s := by
  have hT : s.TypeIs (.ref a) "bytearray" := ⟨_, ho, hc⟩
  unfold Builtin.Bytes.slotIsOwn
  refine wpAny_bind (wpAny_specialOf hT ba_release ?_)
  dsimp only
  rw [ba_ends]
  simp only [Bool.not_true, Bool.false_eq_true, if_false]
  rw [ba_drop]
  exact wpAny_isInstance hT ba_sub h

theorem by_slotOwn {b : Array UInt8} {t : Tok} {Q : Bool → Shared → Prop} (h : Q true s) :
    wpAny (model prog w) A (Builtin.Bytes.slotIsOwn (.bytes b t) "__buffer__") Q E s := by
  have hT : s.TypeIs (.bytes b t) "bytes" := PySem.W.typeIs_bytes _ _ _
  unfold Builtin.Bytes.slotIsOwn
  refine wpAny_bind (wpAny_specialOf hT by_buffer ?_)
  dsimp only
  rw [by_ends]
  simp only [Bool.not_true, Bool.false_eq_true, if_false]
  rw [by_drop]
  exact wpAny_isInstance hT by_sub h
theorem by_slotOwnR {b : Array UInt8} {t : Tok} {Q : Bool → Shared → Prop} (h : Q true s) :
    wpAny (model prog w) A (Builtin.Bytes.slotIsOwn (.bytes b t) "__release_buffer__") Q E s := by
  have hT : s.TypeIs (.bytes b t) "bytes" := PySem.W.typeIs_bytes _ _ _
  unfold Builtin.Bytes.slotIsOwn
  refine wpAny_bind (wpAny_specialOf hT by_release ?_)
  exact wpAny_pure h
theorem by_take {b : Array UInt8} {t : Tok} {id : String} {full : Bool} {Q : Option (Array UInt8) → Shared → Prop} (h : Q (some b) s) :
    wpAny (model prog w) A (Builtin.Bytes.buffer? id (.bytes b t) full) Q E s := by
  have hT : s.TypeIs (.bytes b t) "bytes" := PySem.W.typeIs_bytes _ _ _
  unfold Builtin.Bytes.buffer?
  refine wpAny_bind (wpAny_specialOf hT by_buffer ?_)
  refine wpAny_bind (by_slotOwn ?_)
  simp only [Bool.not_true, Bool.false_eq_true, if_false]
  refine wpAny_bind (wpAny_specialOf hT by_buffer ?_)
  unfold Builtin.Bytes.ownRelease
  refine wpAny_bind (wpAny_bind (by_slotOwnR (wpAny_pure ?_)))
  simp only [Bool.not_true, Bool.false_eq_true, if_false]
  exact wpAny_bind (wpAny_pure (wpAny_pure h))
theorem ba_write {a : Addr} {b c : Array UInt8} {n : Nat} {f : Array UInt8 → Array UInt8} {Q : Unit → Shared → Prop} (ho : s.heap.get? a = some { cls := .type "bytearray", data := .bytearray b n }) (hf : f b = c) (hz : c.size ≤ sizeLine)
    (h : ∀ h', (∀ x o, x ≠ a → s.heap.get? x = some o → h'.get? x = some o) → h'.get? a = some { cls := .type "bytearray", data := .bytearray c n } → Q () { s with heap := h' }) :
    wpAny (model prog w) A (Builtin.Bytes.write (.ref a) f) Q E s := by
  show wpAny _ _ (updateBytearray a f) _ _ _
  unfold updateBytearray
  refine wpAny_bind (wpAny_load ho ?_)
  show wpAny _ _ (update a (Obj.mapBytearray f) >>= fun _ => lookBehind a) _ _ _
  refine wpAny_bind (wpAny_update ho ?_)
  have e : (s.heap.update a (Obj.mapBytearray f)).get? a = some { cls := .type "bytearray", data := .bytearray c n } := by
    rw [← hf]
    exact Heap.get?_update_self (Obj.mapBytearray f) ho rfl
  refine wpAny_lookBehind e ?_ (h _ (fun x o hx he => (Heap.get?_update_other _ _ (Ne.symm hx)).trans he) e)
  show (if c.size > sizeLine then some "bytearray:memory" else none) = none
  rw [if_neg (Nat.not_lt.mpr hz)]
theorem ba_initS {a : Addr} {b : Array UInt8} {t : Tok} {Q : Fin → Shared → Prop} (ho : s.heap.get? a = some { cls := .type "bytearray", data := .bytearray #[] }) (hz : b.size ≤ sizeLine)
    (h : ∀ h', (∀ x o, x ≠ a → s.heap.get? x = some o → h'.get? x = some o) → h'.get? a = some { cls := .type "bytearray", data := .bytearray b } → Q (.done (.ret .none)) { s with heap := h' }) :
    wpS (model prog w) A (Builtin.«bytearray.__init__» ⟨[.ref a, .bytes b t], []⟩) Q E s := by
  unfold Builtin.«bytearray.__init__»
  dsimp only
  unfold Builtin.Bytes.ownRelease
  refine S_bindA (wpAny_bind (ba_slotOwn ho rfl (wpAny_pure ?_)))
  simp only [Bool.not_true, Bool.false_eq_true, if_false]
  refine S_bindA (wpAny_of_eq (ba_bind _) ?_)
  dsimp only
  refine S_bindA (wpAny_of_eq (a := ()) rfl ?_)
  refine S_bindA (wpAny_of_eq (a := ()) rfl ?_)
  refine S_bind ?_
  unfold orM
  refine S_bind (S_exported ?_)
  simp only [toBool]
  refine S_any (wpAny_bind ?_)
  refine wpAny_bind (wpAny_load ho (wpAny_pure (wpAny_pure ?_)))
  simp only [gt_iff_lt, Nat.lt_irrefl, decide_false, Bool.false_eq_true, if_false]
  refine S_any ?_
  refine wpAny_bind (ba_write (f := fun _ => #[]) (c := #[]) ho rfl (Nat.zero_le _) fun h₁ k₁ e₁ => ?_)
  refine wpAny_bind (wpAny_of_eq (a := none) rfl ?_)
  simp only [Option.isSome_none, Bool.false_eq_true, if_false]
  refine wpAny_bind (wpAny_pure ?_)
  have hT : ({ s with heap := h₁ } : Shared).TypeIs (.bytes b t) "bytes" := PySem.W.typeIs_bytes _ _ _
  refine wpAny_bind (wpAny_specialOf hT by_index ?_)
  simp only [Option.isSome_none, Bool.false_eq_true, if_false]
  refine wpAny_bind (by_take ?_)
  dsimp only
  refine wpAny_bind (wpAny_rule ?_)
  refine wpAny_bind (ba_write (f := fun _ => b) (c := b) e₁ rfl hz fun h₂ k₂ e₂ => ?_)
  exact wpAny_pure (h h₂ (fun x o hx e => k₂ x o hx (k₁ x o hx e)) e₂)

theorem ba_call {b : Array UInt8} {t : Tok} {Q : Value → Shared → Prop} (hz : b.size ≤ sizeLine)
    (h : ∀ h', (∀ x o, s.heap.get? x = some o → h'.get? x = some o) → h'.get? s.heap.objs.size = some { cls := .type "bytearray", data := .bytearray b } → Q (.ref s.heap.objs.size) { s with heap := h' }) :
    wpS (model prog w) A (call (.type "bytearray") [.bytes b t]) Q E s := by
  have hmade := ba_called.made
  refine S_call (codeS_of_tree rfl ?_)
  show wpS _ _ (callAny (.type "bytearray") _) _ _ _
  refine S_pure ⟨Code.quiet_builtin _ (by decide +kernel), codeS_builtin (by decide +kernel) F.entry_type_call ?_⟩
  rw [Around.under_plain (weight_type_call_type "bytearray" _ []) rfl]
  unfold Builtin.«type.__call__»
  simp only [ba_called.notType, ba_called.canCreate, Bool.false_eq_true, if_false]
  refine S_bindA (wpAny_of_eq (ba_typeCall _) ?_)
  refine S_bindA (wpAny_of_eq ba_mro ?_)
  simp only [List.isEmpty_cons, Bool.false_eq_true, if_false]
  refine S_bindA (wpAny_of_eq hmade ?_)
  dsimp only
  refine S_bindA (wpAny_pure ?_)
  refine S_bindA (wpAny_holding (wpAny_call (codeAny_mono (ba_code_new (Q₁ := fun v s₁ => v = .ref s.heap.objs.size ∧ s₁ = { s with heap := s.heap.push { cls := .type "bytearray", data := .bytearray #[] } }) (E := fun _ _ => False) (.bytes b t) ⟨rfl, rfl⟩) ?_)))
  intro r s₁ hr
  rcases r with e | f
  · exact hr.elim
  · rcases f with v | _ | _ | _ <;> first | exact hr.elim | skip
    obtain ⟨rfl, rfl⟩ := hr
    dsimp only
    have ho : ({ s with heap := s.heap.push { cls := .type "bytearray", data := .bytearray #[] } } : Shared).heap.get? s.heap.objs.size = some { cls := .type "bytearray", data := .bytearray #[] } := Heap.get?_push_size _ rfl
    have hT : ({ s with heap := s.heap.push { cls := .type "bytearray", data := .bytearray #[] } } : Shared).TypeIs (.ref s.heap.objs.size) "bytearray" := ⟨_, ho, rfl⟩
    refine S_bindA (wpAny_isInstance hT ba_sub ?_)
    simp only [Bool.not_true, Bool.false_eq_true, if_false]
    refine S_bind (S_holding ?_)
    unfold callSpecial?
    refine S_bindA (wpAny_specialOf hT ba_init.lookup ?_)
    refine S_holding (S_bindA (wpAny_of_eq (ba_init.bind _) ?_))
    refine S_bind (S_call (codeS_call_builtin ba_init.plain (by decide +kernel) ba_initEntry (ba_init.check _ _ _ _ _ _ _ _ hT (ba_argsOk _ _) (ba_initS ho hz fun h₂ k₂ e₂ => ?_))))
    refine S_pure (S_pure ?_)
    exact h h₂ (fun x o e => k₂ x o (Nat.ne_of_lt (Heap.lt_size e)) (Heap.get?_push_of_some _ e)) e₂
end
end Mine
end
section
open PySem PySem.W PyProof.Rows PySem.Calls PySem.Spec
namespace Mine
abbrev baObj (b : Array UInt8) : Obj := { cls := .type "bytearray", data := .bytearray b }
theorem ba_slot_len : Slot "bytearray" "__len__" "bytearray.__len__" :=
  .of (owner := "bytearray") (n := "__len__") (by rw [typeLookup_type, builtinLookup_eq_fast]; kernel_rfl) (by decide +kernel) (by decide +kernel) (by decide +kernel)
    (by first | exact .inl (by decide +kernel) | exact .inr (by decide +kernel)) (by rw [isSubtype_type]; kernel_rfl)
theorem ba_slot_get : Slot "bytearray" "__getitem__" "bytearray.__getitem__" :=
  .of (owner := "bytearray") (n := "__getitem__") (by rw [typeLookup_type, builtinLookup_eq_fast]; kernel_rfl) (by decide +kernel) (by decide +kernel) (by decide +kernel)
    (by first | exact .inl (by decide +kernel) | exact .inr (by decide +kernel)) (by rw [isSubtype_type]; kernel_rfl)
theorem ba_entry_len : entryFor table "bytearray.__len__" = some Builtin.«bytearray.__len__» := by first | exact entryFor_of_tree (by kernel_rfl) | exact entryFor_of_fast (by kernel_rfl)
theorem ba_entry_get : entryFor table "bytearray.__getitem__" = some Builtin.«bytearray.__getitem__» := by first | exact entryFor_of_tree (by kernel_rfl) | exact entryFor_of_fast (by kernel_rfl)
theorem ba_args_len (a : Value) : argsOk "bytearray.__len__" ⟨[a], []⟩ := by unfold argsOk; kernel_rfl
theorem ba_args_get (a b : Value) : argsOk "bytearray.__getitem__" ⟨[a, b], []⟩ := by unfold argsOk; kernel_rfl
theorem clip_nn {n : Nat} {i : Int} (h : 0 ≤ i) : clipAt n i = min i.toNat n := by
  have e := clipAt_cast n i
  rw [if_neg (by omega)] at e
  omega
theorem take_clip (b : Array UInt8) (i j : Nat) : List.take (min j b.size - min i b.size) (List.drop (min i b.size) b.toList) = List.take (j - i) (List.drop i b.toList) := by
  apply List.ext_getElem?
  intro k
  simp only [List.getElem?_take, List.getElem?_drop]
  have hl : b.toList.length = b.size := by simp
  split <;> split <;> try rfl
  · by_cases hi : i ≤ b.size
    · rw [Nat.min_eq_left hi]
    · rw [List.getElem?_eq_none (by omega), List.getElem?_eq_none (by omega)]
  · omega
  · rw [List.getElem?_eq_none (by omega)]
theorem picked_extract {b : Array UInt8} {i j : Int} (h0 : 0 ≤ i) (h1 : 0 ≤ j) : KBy.picked b (some i) (some j) = b.extract i.toNat j.toNat := by
  rw [KBc.picked_eq b (some i) (some j)]
  simp only [Option.elim, clip_nn h0, clip_nn h1]
  apply Array.ext'
  rw [Array.toList_extract, List.extract]
  exact take_clip b _ _
theorem extract_len {b : Array UInt8} {i j : Int} (h0 : 0 ≤ i) (h1 : 0 ≤ j) : ((b.extract i.toNat j.toNat).size : Int) = max 0 (min j b.size - i) := by
  rw [Array.size_extract]
  omega
section
variable {prog : Program} {w : World} {A : Around} {E : Value → Shared → Prop} {s : Shared} {h₀ : Heap} {L : Addr} {m : Str → Option Value} {news : List (Addr × Obj)}
theorem ba_payload {M : Model} {a : Addr} {b : Array UInt8} {Q : Array UInt8 → Shared → Prop} (ho : s.heap.get? a = some (baObj b)) (h : Q b s) : wpAny M A (Builtin.Bytes.payload (.ref a)) Q E s := by
  unfold Builtin.Bytes.payload Builtin.Bytes.payload?
  exact wpAny_bind (wpAny_bind (wpAny_load ho (wpAny_pure (wpAny_pure h))))
theorem ba_len {a : Addr} {b : Array UInt8} {Q : Value → Shared → Prop} (ho : s.heap.get? a = some (baObj b)) (hz : b.size ≤ sizeLine)
    (h : ∀ t k, Q (.int b.size t) { s with toks := k }) : wpAny (model prog w) A (call (.builtin "len") [.ref a]) Q E s := by
  have hT : s.TypeIs (.ref a) "bytearray" := ⟨_, ho, rfl⟩
  have hz' : b.size ≤ 16777216 := by rw [sizeLine_eq] at hz; exact hz
  refine call_function_entry kind_len plain_len entry_len (args_len1 _) ?_
  unfold Builtin.«len»
  refine wpAny_bind (m := oneArg "len" _) (wpAny_pure ?_)
  refine wpAny_bind (m := callSpecial? (.ref a) (Str.ofString "__len__")) (wpAny_callSpecial?_slot (name := Str.ofString "__len__") hT ba_slot_len
    (wpAny_call_entry ba_slot_len hT ba_entry_len ?_ (ba_args_len _)))
  show wpAny _ _ (Builtin.Bytes.payload (.ref a) >>= fun r => retInt r.size) _ _ s
  refine wpAny_bind (ba_payload ho (wpAny_bind (wpAny_mkInt (wpAny_pure ⟨_, rfl, ?_⟩))))
  refine wpAny_bind (wpAny_holding (wpAny_pure ?_))
  refine wpAny_bind (wpAny_letGo ?_)
  show wpAny _ _ (if ((b.size : Nat) : Int) < 0 then _ else _) _ _ _
  rw [if_neg (by omega)]
  show wpAny _ _ (if ((b.size : Nat) : Int) ≥ 2 ^ 63 then _ else _) _ _ _
  rw [if_neg (by omega)]
  exact wpAny_bind (wpAny_mkInt (wpAny_pure ⟨_, rfl, h _ _⟩))
theorem by_slot_len : Slot "bytes" "__len__" "bytes.__len__" :=
  .of (owner := "bytes") (n := "__len__") (by rw [typeLookup_type, builtinLookup_eq_fast]; kernel_rfl) (by decide +kernel) (by decide +kernel) (by decide +kernel)
    (by first | exact .inl (by decide +kernel) | exact .inr (by decide +kernel)) (by rw [isSubtype_type]; kernel_rfl)
theorem by_entry_len : entryFor table "bytes.__len__" = some Builtin.«bytes.__len__» := by first | exact entryFor_of_tree (by kernel_rfl) | exact entryFor_of_fast (by kernel_rfl)
theorem by_args_len (a : Value) : argsOk "bytes.__len__" ⟨[a], []⟩ := by unfold argsOk; kernel_rfl
theorem by_len {b : Array UInt8} {t : Tok} {Q : Value → Shared → Prop} (hz : b.size ≤ sizeLine)
    (h : ∀ t k, Q (.int b.size t) { s with toks := k }) : wpAny (model prog w) A (call (.builtin "len") [.bytes b t]) Q E s := by
  have hT : s.TypeIs (.bytes b t) "bytes" := PySem.W.typeIs_bytes _ _ _
  have hz' : b.size ≤ 16777216 := by rw [sizeLine_eq] at hz; exact hz
  refine call_function_entry kind_len plain_len entry_len (args_len1 _) ?_
  unfold Builtin.«len»
  refine wpAny_bind (m := oneArg "len" _) (wpAny_pure ?_)
  refine wpAny_bind (m := callSpecial? (.bytes b t) (Str.ofString "__len__")) (wpAny_callSpecial?_slot (name := Str.ofString "__len__") hT by_slot_len
    (wpAny_call_entry by_slot_len hT by_entry_len ?_ (by_args_len _)))
  show wpAny _ _ (Builtin.Bytes.payload (.bytes b t) >>= fun r => retInt r.size) _ _ s
  refine wpAny_bind (wpAny_of_eq (a := b) rfl (wpAny_bind (wpAny_mkInt (wpAny_pure ⟨_, rfl, ?_⟩))))
  refine wpAny_bind (wpAny_holding (wpAny_pure ?_))
  refine wpAny_bind (wpAny_letGo ?_)
  show wpAny _ _ (if ((b.size : Nat) : Int) < 0 then _ else _) _ _ _
  rw [if_neg (by omega)]
  show wpAny _ _ (if ((b.size : Nat) : Int) ≥ 2 ^ 63 then _ else _) _ _ _
  rw [if_neg (by omega)]
  exact wpAny_bind (wpAny_mkInt (wpAny_pure ⟨_, rfl, h _ _⟩))
theorem ba_meets {a x : Addr} {b : Array UInt8} {i j : Int} {ti tj : Tok} :
    Meets (Builtin.«bytearray.__getitem__» ⟨[.ref a, .ref x], []⟩) (fun _ R s => s.heap.IsSliceOf x (.int i ti) (.int j tj) .none ∧ s.heap.get? a = some (baObj b) ∧ (KBy.picked b (some i) (some j)).size ≤ sizeLine ∧
      R (.ok (.ret (.ref s.heap.objs.size))) { s with heap := s.heap.push (baObj (KBy.picked b (some i) (some j))) }) := by
  refine .of_wp fun prog w A R s hS => ?_
  obtain ⟨⟨o, ho, hc, hd⟩, hb, hsz, h⟩ := hS
  have hT : s.TypeIs (.ref x) "slice" := ⟨o, ho, hc⟩
  show wpAny _ _ (Builtin.Bytes.subscript? (.ref x) >>= fun r => _) _ _ s
  refine wpAny_bind ?_
  unfold Builtin.Bytes.subscript?
  refine wpAny_bind (wpAny_specialOf hT slice_no_index (wpAny_pure ?_))
  refine wpAny_bind (wpAny_typeOf hT ?_)
  rw [if_neg (by decide)]
  show wpAny _ _ (Builtin.Bytes.sliceParts (.ref x) >>= fun r => _) _ _ s
  refine wpAny_bind ?_
  unfold Builtin.Bytes.sliceParts
  refine wpAny_bind (wpAny_field (x := .none) ho hd rfl ?_)
  kby_none
  refine wpAny_ite (KBy.ite_no (show ¬ ((Value.none == rawInt 0) = true) from Bool.false_ne_true) ?_)
  refine wpAny_bind (wpAny_field (x := .int i ti) ho hd rfl ?_)
  kby_int
  refine wpAny_bind (wpAny_field (x := .int j tj) ho hd rfl ?_)
  kby_int
  refine wpAny_pure ?_
  dsimp only
  refine wpAny_bind (ba_payload hb ?_)
  have go : wpAny (model prog w) A.in1 (sliceIndices (rawPart (some i)) (rawPart (some j)) (rawPart none) b.size) (fun r s' => r = sliceBounds (some i) (some j) none b.size ∧ s' = s) (fun _ _ => False) s :=
    wpAny_of_eq (sliceIndices_raw (some i) (some j) none b.size (fun e => nomatch e)) ⟨rfl, rfl⟩
  refine wpAny_bind (wpAny_mono go (fun r s' hr => ?_) fun _ _ e => e.elim)
  obtain ⟨rfl, rfl⟩ := hr
  refine wpAny_bind ?_
  unfold Builtin.Bytes.newBytearray
  exact wpAny_newObj_type (wpAny_pure ⟨_, rfl, h⟩) hsz
theorem ba_slice {value slice : PySem.Expr} {a : Addr} {b : Array UInt8} {i j : Int} {ti tj : Tok} {Q : Value → Shared → Prop} (hF : Fr h₀ L s.heap m) (hN : News h₀ L s.heap news) (hb : (a, baObj b) ∈ news) (hz : b.size ≤ sizeLine) (hi : 0 ≤ i) (hj : 0 ≤ j)
    (h : ∀ x h', (((b.extract i.toNat j.toNat).size : Nat) : Int) = max 0 (min j b.size - i) → (b.extract i.toNat j.toNat).size ≤ sizeLine → Fr h₀ L h' m → News h₀ L h' ((x, baObj (b.extract i.toNat j.toNat)) :: news) → (∀ p ∈ news, p.1 < x) → Q (.ref x) { s with heap := h' })
    (hs : subscripted slice false (.ref a) (.ref s.heap.objs.size) = operate [.ref s.heap.objs.size, .ref a] (getItem (.ref a) (.ref s.heap.objs.size)) := by with_unfolding_all rfl)
    (ht : ∀ r, letTemporaryGo value (.ref a) r = pure () := by intro _; with_unfolding_all rfl) :
    wpAny (model prog w) A (subscriptTail value slice (.ref a) (.ref s.heap.objs.size)) Q E { s with heap := s.heap.push { cls := .type "slice", data := .fields #[.int i ti, .int j tj, .none] } } := by
  have hb' := (hN _ hb).1
  have hT : ({ s with heap := s.heap.push { cls := .type "slice", data := .fields #[.int i ti, .int j tj, .none] } } : Shared).TypeIs (.ref a) "bytearray" := ⟨_, Heap.get?_push_of_some _ hb', rfl⟩
  refine tail_of_ItemOn ⟨"bytearray", _, ba_slot_get.lookup, hT, getItem_meets hT (by decide) ba_slot_get ba_entry_get (ba_args_get _ _) (ba_meets (b := b) (i := i) (j := j) (ti := ti) (tj := tj))
    ⟨Heap.IsSliceOf.new _ _ _ _, Heap.get?_push_of_some _ hb', Nat.le_trans (KBc.size_picked_le b _ _) hz, ?_⟩⟩ hs ht
  rw [picked_extract hi hj]
  refine h _ _ (extract_len hi hj) (by rw [← picked_extract hi hj]; exact Nat.le_trans (KBc.size_picked_le b _ _) hz) ((hF.push _).push _) (fun p hp => ?_) (fun p hp => ?_)
  · rcases List.mem_cons.mp hp with rfl | hp
    · exact ⟨Heap.get?_push_size _ rfl, Nat.ne_of_gt ((hF.push _).ns.lt), none_at_size (hF.push _)⟩
    · exact ⟨Heap.get?_push_of_some _ (Heap.get?_push_of_some _ (hN p hp).1), (hN p hp).2⟩
  · show p.1 < (s.heap.push _).objs.size
    rw [Heap.size_push]
    exact Nat.lt_succ_of_lt (Heap.lt_size (hN p hp).1)
theorem ba_nobytes : typeLookup (.type "bytearray") "__bytes__" = pure none := by rw [typeLookup_type, builtinLookup_eq_fast]; kernel_rfl
theorem ba_noindex : typeLookup (.type "bytearray") "__index__" = pure none := by rw [typeLookup_type, builtinLookup_eq_fast]; kernel_rfl
theorem ba_buffer : typeLookup (.type "bytearray") "__buffer__" = pure (some (.builtin "bytearray.__buffer__")) := by rw [typeLookup_type, builtinLookup_eq_fast]; kernel_rfl
theorem bab_ends : "bytearray.__buffer__".endsWith ("." ++ "__buffer__") = true := by decide +kernel
theorem bab_drop : ("bytearray.__buffer__".dropRight ("__buffer__".length + 1)) = "bytearray" := by decide +kernel
theorem bab_slotOwn {a : Addr} {b : Array UInt8} {Q : Bool → Shared → Prop} (ho : s.heap.get? a = some (baObj b)) (h : Q true s) :
    wpAny (model prog w) A (Builtin.Bytes.slotIsOwn (.ref a) "__buffer__") Q E s := by
  have hT : s.TypeIs (.ref a) "bytearray" := ⟨_, ho, rfl⟩
  unfold Builtin.Bytes.slotIsOwn
  refine wpAny_bind (wpAny_specialOf hT ba_buffer ?_)
  dsimp only
  rw [bab_ends]
  simp only [Bool.not_true, Bool.false_eq_true, if_false]
  rw [bab_drop]
  exact wpAny_isInstance hT ba_sub h
theorem bab_take {a : Addr} {b : Array UInt8} {id : String} {full : Bool} {Q : Option (Array UInt8) → Shared → Prop} (ho : s.heap.get? a = some (baObj b)) (h : Q (some b) s) :
    wpAny (model prog w) A (Builtin.Bytes.buffer? id (.ref a) full) Q E s := by
  have hT : s.TypeIs (.ref a) "bytearray" := ⟨_, ho, rfl⟩
  unfold Builtin.Bytes.buffer?
  refine wpAny_bind (wpAny_specialOf hT ba_buffer ?_)
  refine wpAny_bind (bab_slotOwn ho ?_)
  simp only [Bool.not_true, Bool.false_eq_true, if_false]
  refine wpAny_bind (wpAny_specialOf hT ba_buffer ?_)
  unfold Builtin.Bytes.ownRelease
  refine wpAny_bind (wpAny_bind (ba_slotOwn ho rfl (wpAny_pure ?_)))
  simp only [Bool.not_true, Bool.false_eq_true, if_false]
  exact wpAny_bind (ba_payload ho (wpAny_pure h))
theorem ba_toBytes {a : Addr} {b : Array UInt8} {Q : Value → Shared → Prop} (ho : s.heap.get? a = some (baObj b)) (hz : b.size ≤ sizeLine)
    (h : ∀ t k, Q (.bytes b t) { s with toks := k }) : wpAny (model prog w) A (call (.type "bytes") [.ref a]) Q E s := by
  refine callType_codes (Q₁ := fun obj s₁ => s₁.TypeIs obj "bytes" ∧ Q obj s₁) F.bm_called (F.bm_typeCall _) F.entry_object_init ?_ fun obj s₁ h₁ => ?_
  · refine codeAny_of_tree ?_
    show wpAny _ A.in1.in1 (do checkBuiltinCall "bytes.__new__" ⟨[.type "bytes", .ref a], []⟩; again (.builtin "bytes.__new__" ⟨[.type "bytes", .ref a], []⟩)) _ _ s
    refine wpAny_bind (wpAny_of_eq (F.bm_newCall _) (wpAny_pure ⟨plainId_quiet F.bm_plain _, codeAny_builtin F.bm_entry ?_⟩))
    rw [Around.under_plainId F.bm_plain _]
    have hT : s.TypeIs (.ref a) "bytearray" := ⟨_, ho, rfl⟩
    unfold Builtin.«bytes.__new__»
    refine wpAny_bind (wpAny_of_eq (a := true) rfl ?_)
    refine bm_if_false rfl ?_
    refine wpAny_bind (wpAny_of_eq F.bm_sub ?_)
    refine bm_if_false rfl ?_
    refine wpAny_bind (wpAny_of_eq (F.bm_bind _) ?_)
    refine wpAny_bind (wpAny_of_eq (a := ()) rfl ?_)
    refine wpAny_bind (wpAny_of_eq (a := ()) rfl ?_)
    refine bm_if_false rfl ?_
    refine wpAny_bind (wpAny_specialOf hT ba_nobytes ?_)
    refine wpAny_bind (wpAny_bind ?_)
    show wpAny _ _ (load a >>= _) _ _ _
    refine wpAny_bind (wpAny_load ho ?_)
    refine wpAny_pure (wpAny_pure ?_)
    refine bm_if_false rfl ?_
    refine wpAny_bind (wpAny_specialOf hT ba_noindex ?_)
    refine bm_if_true rfl ?_
    refine wpAny_bind ?_
    refine bab_take ho ?_
    refine wpAny_bind (wpAny_rule ?_)
    refine wpAny_bind (wpAny_mkBytes ?_ hz)
    show wpAny _ _ (if (Value.type "bytes" == Value.type "bytes") = true then _ else _) _ _ _
    refine bm_if_true (by decide) ?_
    first
      | exact wpAny_pure ⟨PySem.W.typeIs_bytes _ _ _, h _ _⟩
      | exact wpAny_bind (wpAny_pure (wpAny_pure ⟨PySem.W.typeIs_bytes _ _ _, h _ _⟩))
  · exact ⟨h₁.1, F.args_object_init_2 obj _, object_init_meets F.bm_called.init.lookup F.bm_called.made (by decide) prog w A.in1 _ s₁ ⟨h₁.1, rfl, h₁.2⟩⟩
theorem by_lenv {b : Array UInt8} {t : Tok} {Q : Value → Shared → Prop} (hz : b.size ≤ sizeLine)
    (h : ∀ (n : Int) t k, n = b.size → 0 ≤ n → n ≤ 16777216 → Q (.int n t) { s with toks := k }) : wpAny (model prog w) A (call (.builtin "len") [.bytes b t]) Q E s :=
  by_len hz fun t k => h _ t k rfl (Int.natCast_nonneg _) (by rw [sizeLine_eq] at hz; omega)
theorem ba_lenv {a : Addr} {b : Array UInt8} {Q : Value → Shared → Prop} (ho : s.heap.get? a = some (baObj b)) (hz : b.size ≤ sizeLine)
    (h : ∀ (n : Int) t k, n = b.size → 0 ≤ n → n ≤ 16777216 → Q (.int n t) { s with toks := k }) : wpAny (model prog w) A (call (.builtin "len") [.ref a]) Q E s :=
  ba_len ho hz fun t k => h _ t k rfl (Int.natCast_nonneg _) (by rw [sizeLine_eq] at hz; omega)
end
end Mine
end
section
open PySem PySem.W PyProof.Rows PySem.Calls
namespace Mine
section
variable {prog : Program} {w : World} {A A₀ : Around} {s : Shared} {R : Result → Shared → Prop}
theorem codeS_func {body : List Stmt} {env : Env}
    (h : wpS (model prog w) (A.deeper env) (execs body env) (fun f s' => R (.ok (.ret (match f with | .ret v => v | _ => .none))) s')
      (fun e s' => wpAny (model prog w) (A.deeper env) (leaving env e) (fun _ s'' => R (.error e) s'') (fun e' s'' => R (.error e') s'') s') s) :
    codeS (model prog w) A (.func body env) R s := by
  refine codeS_of_tree rfl ?_
  show wpS _ (A.deeper env) (do point; match ← (execs body env).onRaise (leaving env) with | .ret v => ret v | _ => ret .none) _ _ s
  refine S_bind (S_point (S_bind (S_onRaise (S_mono h (fun f s' h' => ?_) fun _ _ h' => S_any h'))))
  cases f <;> exact S_pure h'
theorem codeS_def {base h₀ : Heap} {K : Frag} {L : Addr} {m mg mb : Str → Option Value} {news : List (Addr × Obj)} {p : Program} {loose : List Str} {mean : ExcName → Option Value}
    {env : Env} {outer : List Env} {name qual : Str} {params : Arguments} {body : List Stmt} {scope : Scope} {dV kV doc pm cdv ct oc : Value} {an od : Option Addr} {osl : Array (Option Value)} {f : Addr} {args : Args} {binds : List (Str × Value)}
    (B : Below A₀ base outer h₀) (F : Fr h₀ L s.heap m) (X₀ : K.In h₀) (N : News h₀ L s.heap news) (T : Top p loose mean mg mb h₀) (hA : A.frames = some (env :: outer)) (hf : env.frame = some L) (hke : env.scope.kind = .function)
    (ho : K.lookup f = some ⟨oc, od, .func (fnOf name qual params body scope dV kV doc pm an cdv ct), osl⟩) (hcd : codeIn K cdv qual = true) (hroom : A.depth < recursionLimit)
    (hbind : BindsTo s (fnOf name qual params body scope dV kV doc pm an cdv ct) args binds) (hloc : ∀ y ∈ binds, scope.names.lookup y.1 = some .local)
    (h : ∀ g L' h₁, Fr h₀ L g m → Fr g L' h₁ (fun y => binds.reverse.lookup y) → News g L' h₁ news → Below A base (env :: outer) g → K.In g → Top p loose mean mg mb g → (∀ p ∈ news, p.1 < L') →
      wpS (model prog w) (A.deeper (envOf qual scope L' f cdv)) (execs body (envOf qual scope L' f cdv))
        (fun fl s' => LeaveK h₀ L m g R (match fl with | .ret v => v | _ => .none) s')
        (fun e s' => wpAny (model prog w) (A.deeper (envOf qual scope L' f cdv)) (leaving (envOf qual scope L' f cdv) e) (fun _ s'' => R (.error e) s'') (fun e' s'' => R (.error e') s'') s')
        { s with heap := h₁, toks := s.toks + binds.length })
    (hcell : ∀ x ∈ scope.names, x.2 ≠ .cell) (hco : scope.isCoroutine = false := by rfl) (hgen : scope.isGenerator = false := by rfl) (hk : scope.kind = .function := by rfl) :
    codeS (model prog w) A (.call (.ref f) args) R s := by
  obtain ⟨FG, BG, st, lv⟩ := groundX (R := R) B F N hA hf hke
  have hof := (X₀.keeps F.keep) _ _ ho
  obtain ⟨c, ocd, vs, tq, hc, hoc, hdc, hq⟩ := codeRec_of (X₀.keeps F.keep) hcd
  refine codeS_of_tree rfl (S_any ?_)
  show wpAny _ A.in1 (callAny (.ref f) args) _ _ s
  simp only [callAny]
  refine wpAny_bind (wpAny_load hof ?_)
  subst hc
  simp only [callFunction, fnOf, hco, hgen]
  refine wpAny_bind (m := field (.ref c) 1) (wpAny_field hoc hdc hq (wpAny_bind (wpAny_pure ?_)))
  refine wpAny_bind (hbind _ _ _ _ ?_)
  refine wpAny_bind (wpAny_newFunctionEnv hcell hloc (fun h₁ hns₀ hsb₀ => ?_) hk)
  have hk₁ : ∀ b o, s.heap.get? b = some o → h₁.get? b = some o := fun b o e => hsb₀.extBut b o (Nat.ne_of_lt (Heap.lt_size e)) (Heap.get?_push_of_some _ e)
  refine wpAny_bind (wpAny_enterFrame ((T.nolimit.keeps F.keep).fresh _ hsb₀) hroom (wpAny_pure (And.intro rfl (codeS_func ?_))))
  refine S_mono (h _ s.heap.objs.size h₁ FG ⟨hns₀, fun b o e => hk₁ b o (of_hideAll _ e), Nat.le_of_eq (hideAll_size _ _)⟩
    (fun p hp => ⟨hk₁ _ _ (N p hp).1, Nat.ne_of_lt (Heap.lt_size (N p hp).1), hideAll_none _ (List.mem_map_of_mem hp)⟩) BG (X₀.keeps st) (T.keeps st) (fun p hp => Heap.lt_size (N p hp).1)) (fun fl s' hl => lv _ _ hl) fun _ _ y => y
end
end Mine
end
section
open PySem PySem.W PyProof.Rows PySem.Calls
namespace Mine
section
variable {M : Model} {A : Around} {E : Value → Shared → Prop} {s : Shared} {env : Env}
theorem S_execs {st : Stmt} {rest : List Stmt} {Q : Flow → Shared → Prop} (h : wpS M A (exec st env) (fun f s' => match f with | .next => wpS M A (execs rest env) Q E s' | f => Q f s') E s) :
    wpS M A (execs (st :: rest) env) Q E s := by
  show wpS M A (exec st env >>= fun f => match f with | .next => execs rest env | f => pure f) Q E s
  refine S_bind (S_mono h (fun f s' h' => ?_) fun _ _ x => x)
  cases f <;> first | exact h' | exact S_pure h'
/-- the statements ahead by the library's walk, the rest over clean stacks -/
theorem S_execsA {st : Stmt} {rest : List Stmt} {Q : Flow → Shared → Prop} (h : wpAny M A (exec st env) (fun f s' => match f with | .next => wpS M A (execs rest env) Q E s' | f => Q f s') E s) :
    wpS M A (execs (st :: rest) env) Q E s := S_execs (S_any h)
theorem S_nil {Q : Flow → Shared → Prop} (h : Q .next s) : wpS M A (execs [] env) Q E s := S_pure h
theorem S_return {e : Expr} {pos : Pos} {Q : Flow → Shared → Prop} (h : wpS M A (eval e env) (fun v => Q (.ret v)) E s) : wpS M A (exec (.Return (some e) pos) env) Q E s := by
  show wpS M A (standAt pos >>= fun _ => eval e env >>= fun v => pure (Flow.ret v)) Q E s
  exact S_bind (S_standAt (S_bind (S_mono h (fun _ _ x => S_pure x) fun _ _ x => x)))
theorem S_assign {x : Str} {pos' pos : Pos} {value : Expr} {Q : Flow → Shared → Prop}
    (h : wpS M A (eval value env) (fun v s₁ => wpAny M A (storeName env x v) (fun _ => Q .next) E s₁) E s)
    (hs : swapsWith value (some (.Name x pos')) pos.line env = pure false := by rfl) :
    wpS M A (exec (.Assign [.Name x pos'] value pos) env) Q E s := fun Γ p hΓ h1 h2 => by
  simp only [exec_Assign_Name env x pos' value pos hs, Sem.wp_bind', Sem.wp_cmd_standAt, Sem.wp_bindName, Sem.wp_pure']
  exact Sem.wp_mono M Γ _ (fun v _ s₁ h₁ => h₁ Γ _ hΓ) (fun _ _ _ h' => h') _ _ (h Γ _ hΓ h1 h2)
theorem S_if {test : Expr} {body orelse : List Stmt} {pos : Pos} {Q : Flow → Shared → Prop}
    (h : wpS M A (isTrue test env (eval test env)) (fun b s₁ => wpS M A (if b = true then execs body env else execs orelse env) Q E s₁) E s) :
    wpS M A (exec (.If test body orelse pos) env) Q E s := by
  show wpS M A (standAt pos >>= fun _ => isTrue test env (eval test env) >>= fun b => if b = true then execs body env else execs orelse env) Q E s
  exact S_bind (S_standAt (S_bind h))
theorem S_not {x : Expr} {pos : Pos} {t : Sem Value} {Q : Bool → Shared → Prop} (h : wpS M A (isTrue x env (eval x env)) (fun b => Q (!b)) E s) : wpS M A (isTrue (.UnaryOp .Not x pos) env t) Q E s := by
  show wpS M A (isTrue x env (eval x env) >>= fun b => pure (!b)) Q E s
  exact S_bind (S_mono h (fun _ _ x => S_pure x) fun _ _ x => x)
theorem S_orT {vs : List Expr} {op : BoolOp} {pos : Pos} {t : Sem Value} {Q : Bool → Shared → Prop} (h : wpS M A (allTrue op vs env) Q E s) : wpS M A (isTrue (.BoolOp op vs pos) env t) Q E s := h
theorem S_allNil {op : BoolOp} {Q : Bool → Shared → Prop} (h : Q (op == .And) s) : wpS M A (allTrue op [] env) Q E s := S_pure h
theorem S_all {op : BoolOp} {x : Expr} {rest : List Expr} {Q : Bool → Shared → Prop}
    (h : wpS M A (isTrue x env (eval x env)) (fun b s₁ => match op, b with | .And, false => Q false s₁ | .Or, true => Q true s₁ | _, _ => wpS M A (allTrue op rest env) Q E s₁) E s) :
    wpS M A (allTrue op (x :: rest) env) Q E s := by
  show wpS M A (isTrue x env (eval x env) >>= fun b => match op, b with | .And, false => pure false | .Or, true => pure true | _, _ => allTrue op rest env) Q E s
  refine S_bind (S_mono h (fun b s' h' => ?_) fun _ _ x => x)
  cases op <;> cases b <;> first | exact h' | exact S_pure h'
/-- a comparison whose left side is reckoned over clean stacks -/
theorem S_cmpT {l r : Expr} {op : CmpOp} {pos : Pos} {t : Sem Value} {Q : Bool → Shared → Prop}
    (h : wpS M A (eval l env) (fun v s₁ => wpAny M A (testChain pos v [op] (markedEach [op] [r] (evalEach [r] env))) Q E s₁) E s) :
    wpS M A (isTrue (.Compare l [op] [r] pos) env t) Q E s := by
  show wpS M A (eval l env >>= fun v => testChain pos v [op] (markedEach [op] [r] (evalEach [r] env))) Q E s
  exact S_bind (S_mono h (fun _ _ x => S_any x) fun _ _ x => x)
theorem S_cmp {l r : Expr} {op : CmpOp} {pos : Pos} {Q : Value → Shared → Prop}
    (h : wpS M A (eval l env) (fun v s₁ => wpAny M A (compareChain pos v [op] (markedEach [op] [r] (evalEach [r] env))) Q E s₁) E s) :
    wpS M A (eval (.Compare l [op] [r] pos) env) Q E s := by
  show wpS M A (eval l env >>= fun v => compareChain pos v [op] (markedEach [op] [r] (evalEach [r] env))) Q E s
  exact S_bind (S_mono h (fun _ _ x => S_any x) fun _ _ x => x)
theorem S_truthE {x : Str} {np cpos : Pos} {as : List Expr} {ks : List Keyword} {t : Sem Value} {Q : Bool → Shared → Prop} (h : wpS M A t (fun v s₁ => wpAny M A (truthy v) Q E s₁) E s) :
    wpS M A (isTrue (.Call (.Name x np) as ks cpos) env t) Q E s := by
  show wpS M A (t >>= fun v => standAt cpos >>= fun _ => holding [v] (truthy v)) Q E s
  exact S_bind (S_mono h (fun v _ x => S_any (wpAny_bind (wpAny_standAt (wpAny_holding x)))) fun _ _ x => x)
theorem S_boolCons {op : BoolOp} {pos : Pos} {x y : Sem Value} {rest : List (Sem Value)} {Q : Value → Shared → Prop}
    (h : wpS M A x (fun v s₁ => wpAny M A (truthy v) (fun b s₂ => match op, b with | .And, false => Q v s₂ | .Or, true => Q v s₂ | _, _ => wpS M A (boolOp pos op (y :: rest)) Q E s₂) E s₁) E s) :
    wpS M A (boolOp pos op (x :: y :: rest)) Q E s := by
  show wpS M A (x >>= fun v => standAt pos >>= fun _ => holding [v] (truthy v) >>= fun t => match op, t with | .And, false => pure v | .Or, true => pure v | _, _ => boolOp pos op (y :: rest)) Q E s
  refine S_bind (S_mono h (fun v s₁ h₁ => S_bind (S_standAt (S_bindA (wpAny_holding (wpAny_mono h₁ (fun b s₂ h₂ => ?_) fun _ _ x => x))))) fun _ _ x => x)
  cases op <;> cases b <;> first | exact h₂ | exact S_pure h₂
theorem S_boolLast {op : BoolOp} {pos : Pos} {x : Sem Value} {Q : Value → Shared → Prop} (h : wpS M A x Q E s) : wpS M A (boolOp pos op [x]) Q E s := h
theorem S_boolE {op : BoolOp} {pos : Pos} {vs : List Expr} {Q : Value → Shared → Prop} (h : wpS M A (boolOp pos op (evalEach vs env)) Q E s) : wpS M A (eval (.BoolOp op vs pos) env) Q E s := h
theorem S_keep {vs : List Value} {α : Type} {m : Sem α} {Q : α → Shared → Prop} (h : wpS M A m Q E s) : wpS M A (m.keep vs) Q E s :=
  fun Γ p hΓ h1 h2 => by rw [Sem.wp_keep]; exact h Γ p hΓ h1 h2
theorem S_callMarked {mk f : Value} {pos : List Value} {kw : List (Str × Value)} {Q : Value → Shared → Prop} (h : wpS M A (call f pos kw) Q E s) : wpS M A (callMarked mk f pos kw) Q E s := by
  unfold callMarked
  exact S_keep h
theorem S_callWith {K : Frag} {f : Value} {pos : Pos} {e : Expr} {rest : List Expr} {Q : Value → Shared → Prop} (hk : keepIn K f = true)
    (h : wpAny M A (spliced (backTo pos (starEach (e :: rest) env))) (fun vs s₁ => K.In s₁.heap ∧ wpS M A (call f vs) Q E s₁) E s)
    (he : starEach (e :: rest) env = (false, eval e env) :: starEach rest env := by rfl) (hplain : (backTo pos (starEach rest env)).any (·.1) = false := by rfl) :
    wpS M A (callWith pos f [] (backTo pos (starEach (e :: rest) env)) []) Q E s := by
  rw [he] at h ⊢
  unfold callWith
  have hx : wpAny M A (evalArgs f true (backTo pos ((false, eval e env) :: starEach rest env)) []) (fun (a : Args) s₁ => K.In s₁.heap ∧ wpS M A (call f a.pos a.kw) Q E s₁) E s := evalArgs_plain h
  refine S_bindA (wpAny_holding (wpAny_mono hx (fun a s₁ h₁ => S_bind (S_standAt ?_)) fun _ _ x => x))
  obtain ⟨hX, hc⟩ := h₁
  obtain ⟨k, hk', L⟩ := keeps_K (M := M) hk _ hX
  have hp : ((backTo pos ((false, eval e env) :: starEach rest env)).any (·.1) || ([] : List (Option Str × Sem Value)).any (·.1.isNone)) = false := by
    show ((false || (backTo pos (starEach rest env)).any (·.1)) || false) = false
    rw [hplain]; rfl
  simp only [hp]
  refine S_bindA (L.here ?_)
  have tail : ∀ {t : Sem Value}, wpS M A t Q E s₁ → wpS M A (t >>= fun r => holding [r] point >>= fun _ => pure r) Q E s₁ :=
    fun ht => S_bind (S_mono ht (fun r s₂ hr => S_bind (S_holding (S_point (S_pure hr)))) fun _ _ x => x)
  rcases hk' with rfl | rfl | rfl <;> dsimp only <;> first | exact tail hc | (split <;> first | exact tail hc | exact tail (S_callMarked hc))
theorem S_callE {x : Str} {np pos : Pos} {e : Expr} {rest : List Expr} {Q : Value → Shared → Prop}
    (h : wpAny M A (eval (.Name x np) env) (fun f s₁ => wpS M A (callWith pos f [] (backTo pos (starEach (e :: rest) env)) []) Q E s₁) E s) :
    wpS M A (eval (.Call (.Name x np) (e :: rest) [] pos) env) Q E s := by
  show wpS M A (eval (.Name x np) env >>= fun f => callWith pos f [] (backTo pos (starEach (e :: rest) env)) (backToKw pos (keywordEach [] env))) Q E s
  exact S_bindA h
/-- an expression that stands as a statement, its value none -/
theorem S_exprStmt {x : Str} {np cpos pos : Pos} {as : List Expr} {Q : Flow → Shared → Prop} (hi : interactive env = false)
    (h : wpS M A (eval (.Call (.Name x np) as [] cpos) env) (fun v s₁ => wpAny M A (dropValue (.Call (.Name x np) as [] cpos) pos v) Q E s₁) E s) :
    wpS M A (exec (.Expr (.Call (.Name x np) as [] cpos) pos) env) Q E s := by
  show wpS M A (standAt pos >>= fun _ => if interactive env = true then printExpr (eval (.Call (.Name x np) as [] cpos) env)
    else swapsWith (.Call (.Name x np) as [] cpos) none pos.line env >>= fun b => if b = true then (evalThenUse (.Call (.Name x np) as [] cpos) env fun _ => point) >>= fun _ => pure .next else eval (.Call (.Name x np) as [] cpos) env >>= fun v => dropValue (.Call (.Name x np) as [] cpos) pos v) Q E s
  refine S_bind (S_standAt ?_)
  rw [hi]
  simp only [Bool.false_eq_true, if_false]
  refine S_bindA (wpAny_pure (a := false) ?_)
  simp only [Bool.false_eq_true, if_false]
  exact S_bind (S_mono h (fun _ _ x => S_any x) fun _ _ x => x)
/-- try with handlers and no finally: the handlers by the library's walk -/
theorem S_try {body orelse : List Stmt} {hd : ExceptHandler} {hs : List ExceptHandler} {pos : Pos} {Q : Flow → Shared → Prop}
    (h : wpS M A (execs body env) (fun f s₁ => match f with | .next => wpAny M A (execs orelse env) Q E s₁ | f => Q f s₁)
      (fun e s₁ => wpAny M A (noteFrame e env) (fun _ s₂ => wpAny M A (setFlight e none) (fun _ s₃ => wpAny M A (handleBy e env (hd :: hs)) Q E s₃) E s₂) E s₁) s) :
    wpS M A (exec (.Try body (hd :: hs) orelse [] pos) env) Q E s := by
  show wpS M A (standAt pos >>= fun _ => tryStmt false (execs body env) (hd :: hs) (execs orelse env) [] env) Q E s
  refine S_bind (S_standAt ?_)
  unfold tryStmt
  simp only [List.isEmpty_nil, if_true]
  refine S_bind (S_attempt (S_mono h (fun f s₁ h₁ => ?_) fun e s₁ h₁ => ?_))
  · cases f <;> first | exact S_any h₁ | exact S_pure h₁
  · refine S_bindA (wpAny_mono h₁ (fun _ s₂ h₂ => ?_) fun _ _ x => x)
    simp only [List.isEmpty_cons, Bool.false_eq_true, if_false]
    refine S_bindA (wpAny_mono h₂ (fun _ s₃ h₃ => ?_) fun _ _ x => x)
    simp only [Bool.false_and, Bool.false_eq_true, if_false]
    exact S_any h₃
theorem S_assignAttr {o : Expr} {attr : Str} {pos' pos : Pos} {value : Expr} {Q : Flow → Shared → Prop}
    (h : wpS M A (eval value env) (fun v s₁ => wpAny M A (eval o env) (fun ov s₂ => wpAny M A (setAttr ov attr v) (fun _ => Q .next) E s₂) E s₁) E s)
    (hs : swapsWith value (some (.Attribute o attr pos')) pos.line env = pure false := by rfl) :
    wpS M A (exec (.Assign [.Attribute o attr pos'] value pos) env) Q E s := fun Γ p hΓ h1 h2 => by
  simp only [plainObj_exec_Assign_Attribute o attr pos' value pos hs, assign_Attribute, Sem.wp_bind', Sem.wp_holding, Sem.wp_cmd_standAt, Sem.wp_release, Sem.wp_pure']
  exact Sem.wp_mono M Γ _ (fun v p₁ s₁ h₁ => Sem.wp_mono M Γ _ (fun ov _ s₂ h₂ => h₂ Γ _ hΓ) (fun _ _ _ h' => h') _ _ (h₁ Γ p₁ hΓ)) (fun _ _ _ h' => h') _ _ (h Γ _ hΓ h1 h2)
theorem S_ifE {test body orelse : Expr} {pos : Pos} {Q : Value → Shared → Prop}
    (h : wpAny M A (isTrue test env (eval test env)) (fun b s₁ => wpS M A (if b = true then eval body env else eval orelse env) Q E s₁) E s) :
    wpS M A (eval (.IfExp test body orelse pos) env) Q E s := by
  show wpS M A (isTrue test env (eval test env) >>= fun b => if b = true then eval body env else eval orelse env) Q E s
  exact S_bindA h
theorem S_callWithT {n : String} {pos : Pos} {e : Expr} {rest : List Expr} {Q : Value → Shared → Prop}
    (h : wpAny M A (spliced (backTo pos (starEach (e :: rest) env))) (fun vs s₁ => wpS M A (call (.type n) vs) Q E s₁) E s)
    (he : starEach (e :: rest) env = (false, eval e env) :: starEach rest env := by rfl) (hplain : (backTo pos (starEach rest env)).any (·.1) = false := by rfl) :
    wpS M A (callWith pos (.type n) [] (backTo pos (starEach (e :: rest) env)) []) Q E s := by
  rw [he] at h ⊢
  unfold callWith
  have hx : wpAny M A (evalArgs (.type n) true (backTo pos ((false, eval e env) :: starEach rest env)) []) (fun (a : Args) s₁ => wpS M A (call (.type n) a.pos a.kw) Q E s₁) E s := evalArgs_plain h
  refine S_bindA (wpAny_holding (wpAny_mono hx (fun a s₁ hc => S_bind (S_standAt ?_)) fun _ _ x => x))
  have hp : ((backTo pos ((false, eval e env) :: starEach rest env)).any (·.1) || ([] : List (Option Str × Sem Value)).any (·.1.isNone)) = false := by
    show ((false || (backTo pos (starEach rest env)).any (·.1)) || false) = false
    rw [hplain]; rfl
  simp only [hp]
  refine S_bindA (wpAny_of_eq (a := Keeper.machine) rfl ?_)
  exact S_bind (S_mono hc (fun r s₂ hr => S_bind (S_holding (S_point (S_pure hr)))) fun _ _ x => x)
end
end Mine
end
section
open PySem PySem.W PyProof.Rows PySem.Calls
namespace Mine
abbrev bmV : List Value := [.type "ValueError", .type "Exception", .type "BaseException", .type "object"]
abbrev bmT : List Value := [.type "TypeError", .type "Exception", .type "BaseException", .type "object"]
section
variable {prog : Program} {w : World} {A : Around} {E : Value → Shared → Prop} {s : Shared} {h₀ : Heap} {L a : Addr} {m mg mb : Str → Option Value} {name : Str} {scope : Scope} {cd : Value}
/-- raise of an own class whose first base is an own one over Exception and whose second is a built-in one -/
theorem Raise_ownU {x : Str} {C : Addr} {bmB bmN : List Value} {np cpos pos : Pos} {B nid initId Bn newId inN : String} {Q : Flow → Shared → Prop} {e₀ : Expr} {rest : List Expr} (F : Fr h₀ L s.heap m) (hg : h₀.Ns mainGlobals mg) (O : OwnCls x C bmB newId mg h₀)
    (Fn : ExcBaseFacts Bn newId inN bmN) (hBn : bmB.contains (.type Bn) = true) (FB : ExcBaseFacts B nid initId bmB) (hh : A.handled = none)
    (h : wpAny (model prog w) A (spliced (backTo cpos (starEach (e₀ :: rest) (envOf name scope L a cd)))) (fun vs s₂ => vs.length ≤ sizeLine ∧ (∀ b o, h₀.get? b = some o → s₂.heap.get? b = some o) ∧
      ∀ h' e, Heap.MadeExcOf s₂.heap h' e (.ref C) vs → E (.ref e) { s₂ with heap := h' }) E s)
    (he : starEach (e₀ :: rest) (envOf name scope L a cd) = (false, eval e₀ (envOf name scope L a cd)) :: starEach rest (envOf name scope L a cd) := by rfl)
    (hplain : (backTo cpos (starEach rest (envOf name scope L a cd))).any (·.1) = false := by rfl)
    (hk : scope.kind = .function := by rfl) (hx : (envOf name scope L a cd).kindOf x = some .globalImplicit := by rfl) (hd : (x == ("__debug__" : Str)) = false := by decide) :
    wpAny (model prog w) A (exec (.Raise (some (.Call (.Name x np) (e₀ :: rest) [] cpos)) none pos) (envOf name scope L a cd)) Q E s := by
  obtain ⟨tl, N, nm, q, bs, hdct, sn, sub, ab, col, dd, k0, k1, k2, k3, k5, mN, hC, hN, hni, T⟩ := O.obj
  refine wpAny_Raise_call_subU (C := C) (nm := nm) (q := q) (N := N) (bs := bs) (bm := tl) (hdct := hdct) (sn := sn) (sub := sub) (ab := ab) (col := col) (dd := dd) (k0 := k0) (k1 := k1) (k2 := k2) (k3 := k3) (k5 := k5)
    Fn hBn FB (mN := mN) (T.hasType FB.hasBase) hh (by rw [he]; show (false || (backTo cpos (starEach rest (envOf name scope L a cd))).any (·.1)) = false; rw [hplain]; rfl) hni (ld_own F hg O ⟨rfl, ?_⟩ hk hx hd)
  rw [he] at h ⊢
  exact Calls.evalArgs_plain (wpAny_mono h (fun vs s₂ h₂ => ⟨rfl, h₂.1, h₂.2.1 _ _ hC, hN.keeps h₂.2.1, T.keeps h₂.2.1, h₂.2.2⟩) fun _ _ y => y)
end
section
variable {M : Model} {A : Around} {E : Value → Shared → Prop} {s : Shared}
theorem jp_cons {out : Str} {x : Sem Value} {rest : List (Sem Value)} {B : Nat} {Q : Value → Shared → Prop} (hb : out.length ≤ B) (hB : B + 200 ≤ 16777216)
    (h : wpAny M A x (fun v s₁ => match v with | .str y _ => y.length ≤ 200 ∧ ∀ o' : Str, o'.length ≤ B + 200 → wpAny M A (joinParts o' rest) Q E s₁ | _ => False) E s) : wpAny M A (joinParts out (x :: rest)) Q E s := by
  refine joinParts_cons (wpAny_mono h (fun v s₁ h₁ => ?_) fun _ _ e => e)
  cases v <;> first | exact h₁ | skip
  rename_i y t
  obtain ⟨hy, h₂⟩ := h₁
  have hl : (out ++ y).length ≤ B + 200 := by rw [Str.length_append]; omega
  exact ⟨by rw [sizeLine_eq]; omega, h₂ _ hl⟩
theorem jp_nil {out : Str} {B : Nat} {Q : Value → Shared → Prop} (hb : out.length ≤ B) (hB : B ≤ 16777216) (h : ∀ t k, Q (.str out t) { s with toks := k }) : wpAny M A (joinParts out []) Q E s :=
  joinParts_nil (h _ _) (by rw [sizeLine_eq]; omega)
theorem int_len (n : Int) (h0 : -(10 ^ 100) < n) (h1 : n < 10 ^ 100) : (Str.ofString (toString n)).length ≤ 200 := by
  have h : n.natAbs < 10 ^ 100 := by omega
  have := int_text_length_le10 (k := 100) (by decide) h
  rw [PySem.ofString_length]
  omega
theorem len0 : (Str.empty : Str).length ≤ 0 := Nat.le_refl 0
end
theorem raisedS_nil {base G h : Heap} {l : List Env} {e t : Addr} {cls : Value} {vs : List Value} {news : List (Addr × Obj)} (R : RaisedS base G l e cls t vs news h) : RaisedS base G l e cls t vs [] h := by
  obtain ⟨⟨B, h1, h2, _, h4⟩, h5⟩ := R
  exact ⟨⟨B, h1, h2, (fun _ q => nomatch q), h4⟩, h5⟩
end Mine
end
section
open PySem PySem.W PyProof.Rows PySem.Calls
namespace Mine
/-- what a def that may have caught something gives back to its caller: the caller's base, its frames turned; what the caller had made stands -/
def LeaveM (fs : List Addr) (A₀ : Around) (base : Heap) (outer : List Env) (K : Frag) (p : Program) (loose : List Str) (mean : ExcName → Option Value) (mg mb : Str → Option Value) (g₀ : Heap) (L : Addr) (m : Str → Option Value) (g : Heap) (more : List (Addr × Obj)) (R : Result → Shared → Prop) (v : Value) (s' : Shared) : Prop :=
  ∃ g' L' m' news', KtsTurn fs g g' ∧ Fr g' L' s'.heap m' ∧ News g' L' s'.heap news' ∧ ∀ h₀', KtsTurn (outer.filterMap (·.frame)) g₀ h₀' → Fr h₀' L s'.heap m → News h₀' L s'.heap (news' ++ more) → Below A₀ base outer h₀' → K.In h₀' → Top p loose mean mg mb h₀' →
    KtsDicts (outer.filterMap (·.frame)) h₀' → R (.ok (.ret v)) s'
section
variable {prog : Program} {w : World} {A A₀ : Around} {s : Shared} {R : Result → Shared → Prop}
theorem codeS_defS {base h₀ g₀ : Heap} {K : Frag} {L a : Addr} {m mg mb : Str → Option Value} {more : List (Addr × Obj)} {p : Program} {loose : List Str} {mean : ExcName → Option Value}
    {cn : Str} {cs : Scope} {ccd : Value} {outer : List Env} {name qual : Str} {params : Arguments} {body : List Stmt} {scope : Scope} {dV kV doc pm cdv ct oc : Value} {an od : Option Addr} {osl : Array (Option Value)} {f : Addr} {args : Args} {binds : List (Str × Value)}
    (B : Below A₀ base outer h₀) (F : Fr h₀ L s.heap m) (X₀ : K.In h₀) (N : News h₀ L s.heap more) (T : Top p loose mean mg mb h₀) (XB : K.In base) (TB : Top p loose mean mg mb base) (D : KtsDicts (outer.filterMap (·.frame)) h₀)
    (T0 : KtsTurn (outer.filterMap (·.frame)) g₀ h₀) (hA : A.frames = some (envOf cn cs L a ccd :: outer))
    (ho : K.lookup f = some ⟨oc, od, .func (fnOf name qual params body scope dV kV doc pm an cdv ct), osl⟩) (hcd : codeIn K cdv qual = true) (hroom : A.depth < recursionLimit)
    (hbind : BindsTo s (fnOf name qual params body scope dV kV doc pm an cdv ct) args binds) (hloc : ∀ y ∈ binds, scope.names.lookup y.1 = some .local)
    (h : ∀ g L' h₁, Fr h₀ L g m → Fr g L' h₁ (fun y => binds.reverse.lookup y) → News g L' h₁ [] → Below A base (envOf cn cs L a ccd :: outer) g → K.In g → Top p loose mean mg mb g → KtsDicts ((envOf cn cs L a ccd :: outer).filterMap (·.frame)) g →
      wpS (model prog w) (A.deeper (envOf qual scope L' f cdv)) (execs body (envOf qual scope L' f cdv))
        (fun fl s' => LeaveM ((envOf cn cs L a ccd :: outer).filterMap (·.frame)) A₀ base outer K p loose mean mg mb g₀ L m g more R (match fl with | .ret v => v | _ => .none) s')
        (fun e s' => wpAny (model prog w) (A.deeper (envOf qual scope L' f cdv)) (leaving (envOf qual scope L' f cdv) e) (fun _ s'' => R (.error e) s'') (fun e' s'' => R (.error e') s'') s')
        { s with heap := h₁, toks := s.toks + binds.length })
    (hcell : ∀ x ∈ scope.names, x.2 ≠ .cell) (hck : cs.kind = .function := by rfl) (hco : scope.isCoroutine = false := by rfl) (hgen : scope.isGenerator = false := by rfl) (hk : scope.kind = .function := by rfl) :
    codeS (model prog w) A (.call (.ref f) args) R s := by
  have hof := (X₀.keeps F.keep) _ _ ho
  obtain ⟨c, ocd, vs, tq, hc, hoc, hdc, hq⟩ := codeRec_of (X₀.keeps F.keep) hcd
  refine codeS_of_tree rfl (S_any ?_)
  show wpAny _ A.in1 (callAny (.ref f) args) _ _ s
  simp only [callAny]
  refine wpAny_bind (wpAny_load hof ?_)
  subst hc
  simp only [callFunction, fnOf, hco, hgen]
  refine wpAny_bind (m := field (.ref c) 1) (wpAny_field hoc hdc hq (wpAny_bind (wpAny_pure ?_)))
  refine wpAny_bind (hbind _ _ _ _ ?_)
  refine wpAny_bind (wpAny_newFunctionEnv hcell hloc (fun h₁ hns₀ hsb₀ => ?_) hk)
  have hk₁ : ∀ b o, s.heap.get? b = some o → h₁.get? b = some o := fun b o e => hsb₀.extBut b o (Nat.ne_of_lt (Heap.lt_size e)) (Heap.get?_push_of_some _ e)
  refine wpAny_bind (wpAny_enterFrame ((T.nolimit.keeps F.keep).fresh _ hsb₀) hroom (wpAny_pure (And.intro rfl (codeS_func ?_))))
  obtain ⟨oL, es, ep, hLg, hLd, hN, hNs, st, B₂⟩ := kts_enter (news := []) B F (fun _ q => nomatch q) hA hck
  refine S_mono (h _ s.heap.objs.size h₁ ⟨hN _ hLg, st, F.above⟩ ⟨hns₀, fun b o e => hk₁ b o (of_hideAll _ e), Nat.le_of_eq (hideAll_size _ _)⟩
    (fun _ q => nomatch q) B₂ (X₀.keeps st) (T.keeps st) (fun b hb => by
      rcases kts_mem hb with rfl | hb
      · exact ⟨oL, es, ep, hLg, hLd⟩
      · obtain ⟨o, es', n', ho', hd'⟩ := D b hb
        exact ⟨o, es', n', st b o ho', hd'⟩)) (fun fl s' hl => ?_) fun _ _ y => y
  have nL₀ : h₀.get? L = none := kts_self F
  obtain ⟨g', L', m', news', T', F', N', k⟩ := hl
  obtain ⟨sl, hs⟩ := T'.up hLg
  obtain ⟨T₁, S₁⟩ := kts_turn_at (h := s'.heap) (fs := outer.filterMap (·.frame)) (g := h₀)
    (fun b hb => by
      obtain ⟨_, o, ho', _⟩ := B.frames.mem hb
      exact ⟨o, ho'⟩)
    (fun b o e nmem => F'.keep b o (T'.other b o (st b o e) (fun q => by
      rcases kts_mem q with z | z
      · rw [z, nL₀] at e
        cases e
      · exact nmem z)))
    (fun b o e hm => by
      obtain ⟨sl', hs'⟩ := T'.up (st b o e)
      exact ⟨sl', F'.keep _ _ hs'⟩)
  have B₃ : Below A₀ base outer (ktsHeap s'.heap (outer.filterMap (·.frame)) h₀) := ⟨B.stack, fun b o e => T₁.other b o (B.stays b o e) (fun hm => by
    rw [(B.frames.mem hm).1] at e
    cases e), B.frames.of_keeps fun b o e _ => by
    obtain ⟨sl', hs'⟩ := T₁.up e
    exact ⟨_, hs', rfl⟩⟩
  refine k _ (T0.trans T₁) ⟨hNs sl _ (F'.keep _ _ hs), S₁, by rw [T₁.size]; exact F.above⟩ (fun p hp => ?_) B₃ (XB.keeps B₃.stays) (TB.keeps B₃.stays) (D.turn T₁)
  rcases List.mem_append.mp hp with hp | hp
  · refine ⟨(N' p hp).1, fun q => ?_, ?_⟩
    · have := (N' p hp).2.2; rw [q, hs] at this; cases this
    · refine T₁.none_ _ ?_
      cases q : h₀.get? p.1 with
      | none => rfl
      | some o =>
        obtain ⟨sl', hs'⟩ := T'.up (st _ _ q)
        have := (N' p hp).2.2
        rw [hs'] at this
        cases this
  · obtain ⟨n1, n2, n3⟩ := N p hp
    refine ⟨F'.keep _ _ (T'.other _ _ (hideAll_get _ n1 (fun q => nomatch q)) (fun q => ?_)), n2, T₁.none_ _ n3⟩
    rcases kts_mem q with z | z
    · exact n2 z
    · obtain ⟨_, o, ho', _⟩ := B.frames.mem z
      rw [n3] at ho'; cases ho'
end
end Mine
end
section
open PySem PySem.W PyProof.Rows PySem.Calls
namespace Mine
abbrev WalkS (q : Program) (loose : List Str) (XP : (Str → Option Value) → Heap → Prop) (YP : World → Heap → Prop) (r : RowW) (d : DefRec) (kwd : List (Str × Expr)) (run : Value → List Value → Sem Value) : Prop :=
  ∀ (w : World) (s₀ s₁ : Shared) (mg mb : Str → Option Value), Ground q loose r.records XP w s₀ mg mb s₁.heap → YP w s₁.heap → ∀ (a : Addr) (o : Obj) (pm cd doc dV kV : Value), s₁.heap.get? a = some o →
    o.data = .func { docDef d.name d.params d.body d.scope pm cd doc with defaults := dV, kwdefaults := kV } → s₁.heap.CodeRec cd d.name → Dflts mg s₁.heap d.params kwd dV kV → mg d.name = some (.ref a) → s₁.gens = #[] →
    ∀ (args : List WData) (vals : List Value) (as : List Addr), r.claim.pre args = true → WData.layableAll args = true → ReadsAllW r.records (classAt s₀.heap) s₁.heap vals args as → WellAll w.params s₁.heap vals args → (∀ a ∈ as, (a == sysModules) = false) →
      wpS (model r.prog w) callerA (run (.ref a) vals) (fun v s' => GoodWG r.claim (classAt s₀.heap) (ExcName.means s₀.heap) args s₁ (.ok (.ret v)) s')
        (fun e s' => GoodWG r.claim (classAt s₀.heap) (ExcName.means s₀.heap) args s₁ (.error e) s') s₁

theorem thread_S {prog : Program} {w : World} {t : Sem Fin} {s : Shared} {R : Result → Shared → Prop} (hreg : s.asleep)
    (h : wpS (model prog w) callerA t (fun fin s' => ∃ f, fin = .done f ∧ (R (.ok f) s' ∧ leftWithCleanup s'.gens = false)) (fun e s' => R (.error e) s' ∧ leftWithCleanup s'.gens = false) s) :
    ∃ n r s' s'', runN (denote table) prog w n s ⟨t, .builtin "claim.caller" {}, default, []⟩ = .halted (outcomeOf r) s' ∧
      schedN (denote table) prog w n (.single s ⟨t, .builtin "claim.caller" {}, default, []⟩) = .halted (outcomeOf r) s' ∧ s'.forget = s''.forget ∧ R r s'' := by
  have h0 := h ⟨.builtin "claim.caller" {}, none, none, [], none⟩ default caller_in (by decide +kernel) (fun x hx => nomatch hx)
  have h1 : Sem.wp (model prog w) ⟨.builtin "claim.caller" {}, none, none, [], none⟩ t (Sem.finPost (model prog w) ⟨.builtin "claim.caller" {}, none, none, [], none⟩ fun r s' => R r s' ∧ leftWithCleanup s'.gens = false)
      (fun e _ s' => R (.error e) s' ∧ leftWithCleanup s'.gens = false) default s := by
    refine Sem.wp_mono _ _ t (fun fin p' s' h' => ?_) (fun _ _ _ h' => h') default s h0
    obtain ⟨f, rfl, hf⟩ := h'
    exact hf
  obtain ⟨n, r, s₁, s₂, hs, hn, hfo, hR⟩ := wp_halts_full (M := model prog w) (R := R) hreg h1
  exact ⟨n, r, s₂, s₁, hn, hs, hfo, hR⟩

/-- the library's head, its walk asked over clean stacks alone -/
theorem PySem.W.holds_open {r : OpenRow} {q : Program} {loose : List Str} {Xt : Shared → Bool} {XP : (Str → Option Value) → Heap → Prop} {α : Type} {Yf : Shared → α} {Ya : World → α} {YP : World → Heap → Prop} {d : DefRec} {kwd : List (Str × Expr)} {N : Nat}
    (left : LeftO r.prog q loose Xt Yf Ya N) (hY : ∀ w s, Yf s = Ya w → YP w s.heap) (hYk : ∀ w h h', YP w h → (∀ b o, h.get? b = some o → h'.get? b = some o) → YP w h')
    (hX : ∀ s, Xt s = true → XP (s.heap.nsMap mainGlobals) s.heap) (hXk : ∀ mg h h', XP mg h → (∀ b o, h.get? b = some o → h'.get? b = some o) → XP mg h')
    (hdef : defOf q r.name = some (d, kwd)) (hp : r.prog.theDef r.name = some (d.params, d.body, d.scope)) (hk : kwWritten? d.params.kwonlyargs d.params.kw_defaults = some kwd) (hRf : ∀ s, Xt s = true → RecFacts r.records s.heap) (hwr : (!r.writes || r.records.isEmpty) = true)
    (k1 : r.wellSaid = true) (ok : (chainsOk q && opensWell r.prog && (frees r.toRowW && r.within.isEmpty)) = true) (hb : r.prog.bare) (hw : r.toRowW.promised)
    (call : WalkS q loose XP YP r.toRowW d kwd fun f vs => PySem.call f vs) : r.Holds := by
  obtain ⟨ok, k5⟩ := Bool.and_eq_true_iff.mp ok
  obtain ⟨hch, o1⟩ := Bool.and_eq_true_iff.mp ok
  obtain ⟨k5, k6⟩ := Bool.and_eq_true_iff.mp k5
  obtain ⟨hsame, hu, ha, hap, hm⟩ := frees_parts k5
  refine ⟨k1, hw, ⟨hb, o1, by show r.toRowW.makers.map _ = []; rw [hm]; rfl⟩, hw.witness, fun w => ⟨(left.behind hX hch w).1, fun s' hs' => ?_⟩⟩
  obtain ⟨s₀, hf, hg0, s, hT, hz, hgens, hg, G00, y⟩ := (left.behind (XP := fun mg h => XP mg h ∧ RecFacts r.records h) (fun s hs => ⟨hX s hs, hRf s hs⟩) hch w).2 s' hs'
  have G0 : Ground q loose [] XP w s (s.heap.nsMap mainGlobals) (s.heap.nsMap builtinsNs) s.heap := ⟨G00.T, G00.B, G00.D, G00.TE, G00.TD, G00.W, G00.X.1, G00.cls, G00.has, G00.apart, G00.once, G00.K⟩
  have RF := G00.X.2
  have hT' := hT
  refine ⟨s₀, hf, hg0, s, hT, fun n hn => ?_, RF.1, RF.2.1, ?_⟩
  · obtain rfl : n = r.name := by split at hn <;> simp_all
    exact pinned_of_view hg G0 hdef hp hk
  have hgens : s.gens = #[] := Array.eq_empty_of_size_eq_zero (beq_iff_eq.mp hgens)
  have G : Ground q loose r.records XP w s _ _ s.heap := RF.ground G0
  intro args hpre hlay ord hord
  obtain ⟨⟨vs, s₁⟩, hlaid⟩ := Option.isSome_iff_exists.mp (layAllW_isSome (P := w.params) (ord := ord) G.has args r.args s (pre_splitW hpre).1)
  have keeps := layAllW_keeps _ _ _ hlaid
  have hal := layAllW_rest _ _ _ hlaid
  obtain ⟨as, hrd, hin, hold⟩ := reads_layAllW hord _ _ _ hlaid hlay s₁.heap (fun _ _ e => e)
  have L : Laid r.records w s s₁ args vs as := ⟨⟨ord, hord, hlaid⟩, hrd, hin, hold, keeps, hal.1.trans hgens, hal.2.2.1⟩
  have G₁ := G.keeps hXk keeps
  obtain ⟨a, o, pm, cd, doc, dV, kV, h1, h2, h3, h4, h5⟩ := G₁.fn hdef
  have h := call w s s₁ _ _ G₁ (hYk _ _ _ (hY w s y) keeps) a o pm cd doc dV kV h2 h3 h4 h5 (defOf_name hdef ▸ h1) L.gens args vs as hpre hlay L.reads L.well (L.low G.low)
  have hi := ident_freeW hu ha hap
  have hwi : r.toRowW.claim.within = [] := List.isEmpty_iff.mp k6
  have hr : wpS (model r.prog w) callerA (do match ← nsGet mainNs r.name with
      | some f => do ret (← PySem.call f vs)
      | none => unsupported "claim.caller:no-such-global")
      (fun fin s' => ∃ f, fin = .done f ∧ ((r.toRowW.claim.Ends s args vs s₁ (.ok f) s' ∧ s'.os = s.os ∧ namesKept r.prog r.keeps s.heap s'.heap) ∧ leftWithCleanup s'.gens = false))
      (fun e s' => (r.toRowW.claim.Ends s args vs s₁ (.error e) s' ∧ s'.os = s.os ∧ namesKept r.prog r.keeps s.heap s'.heap) ∧ leftWithCleanup s'.gens = false) s₁ := by
    refine S_bindA (wpAny_nsGet G₁.T.g ?_)
    rw [show (s.heap.nsMap mainGlobals) r.name = some (.ref a) from h1]
    refine S_bind (S_mono h (fun v s' g => ?_) fun e s' g => ?_)
    · have z := g.laid (c := r.toRowW.claim) hsame hwi hi L
      exact S_pure ⟨_, rfl, ⟨z.1, z.2.1, namesKept_of hT' hg r.keeps keeps g.2.1.old⟩, leftWithCleanup_false_of_bare z.2.2⟩
    · have z := g.laid (c := r.toRowW.claim) hsame hwi hi L
      exact ⟨⟨z.1, z.2.1, namesKept_of hT' hg r.keeps keeps g.2.1.old⟩, leftWithCleanup_false_of_bare z.2.2⟩
  obtain ⟨k, r', s', s'', hrun, hsched, hfo, hcase, hos, hkp⟩ := thread_S (s := s₁) (R := fun x s' => r.toRowW.claim.Ends s args vs s₁ x s' ∧ s'.os = s.os ∧ namesKept r.prog r.keeps s.heap s'.heap) (Shared.asleep_of_life hal.2.2.2 hz) hr
  obtain ⟨eh, _, _, eo, _⟩ := Shared.forget_eq hfo
  have hcase := hcase.congr eh
  rw [← eh] at hkp
  rw [← eo] at hos
  have hlife : s'.heap.life = s.heap.life := (runN_life _ _ _ hrun).trans hal.2.2.2
  refine ⟨vs, s₁, hlaid, k, _, s', hsched, ?_, (fun _ i x hx => by rw [hgens] at hx; simp at hx), fun q => ⟨hkp, noTable hwr q⟩, by rw [hlife], Shared.rest_eq hos⟩
  rcases hcase with ⟨v, rfl, d1, d2, d3, d4, d5⟩ | ⟨e, ob, cls, rfl, d1, d2, d3, d4, d5⟩
  · exact .inl ⟨v, rfl, d1, d2, d3, fun b o y _ => d4 b o y, d5⟩
  · exact .inr ⟨e, ob, cls, rfl, d1, d2, d3, d4, fun b o y _ => d5 b o y⟩
end Mine
end
section
open PySem PySem.W PyProof.Rows
set_option maxRecDepth 100000
namespace Mine
open_top hd for PySem.Challenge.rw_fp5001_01
theorem top_off : True := by
  w_top off
  trivial
end Mine
end
section
open PySem PySem.W PyProof.Rows PySem.Calls
namespace Mine
/-- what parse_varint reads: the number and the place behind it -/
def pvP (mx : Int) : List Int → Nat → Int → Option (Int × Nat)
  | [], _, _ => none
  | c :: r, pos, num =>
    if num > mx / 128 then none
    else if num * 128 + c % 128 > mx then none
    else if c < 128 then some (num * 128 + c % 128, pos + 1)
    else if num * 128 + c % 128 = mx then none
    else pvP mx r (pos + 1) (num * 128 + c % 128 + 1)
def fdOf : Option Obj → FuncData
  | some ⟨_, _, .func fd, _⟩ => fd
  | _ => fnOf Str.empty Str.empty { posonlyargs := [], args := [], vararg := none, kwonlyargs := [], kw_defaults := [], kwarg := none, defaults := [] } [] { kind := .function, names := [], isGenerator := false, isCoroutine := false } .none .none .none .none none .none .none
def stOf (o : Option Obj) (i : Nat) : Stmt := match (fdOf o).body with
  | .stmts b => b.getD i (.Pass ⟨0, 0, 0, 0⟩)
  | _ => .Pass ⟨0, 0, 0, 0⟩
def enOf (o : Option Obj) (L f : Addr) : Env := envOf (fdOf o).qualname (fdOf o).scope L f (fdOf o).code
end Mine
namespace Mine
theorem one_ints {b c : Array UInt8} {p : Nat} (hc : c = b.extract ((p : Nat) : Int).toNat (((p : Nat) : Int) + 1).toNat) (h : p < b.size) : ∃ k : Int, KBw.bInts c = [k] ∧ 0 ≤ k ∧ k < 256 ∧ (KBw.bInts b).drop p = k :: (KBw.bInts b).drop (p + 1) := by
  have e1 : ((p : Nat) : Int).toNat = p := by omega
  have e2 : (((p : Nat) : Int) + 1).toNat = p + 1 := by omega
  rw [e1, e2] at hc
  have hl : b.toList.length = b.size := by simp
  refine ⟨(b[p].toNat : Int), ?_, by omega, by have := b[p].toNat_lt; omega, ?_⟩
  · subst hc
    unfold KBw.bInts
    rw [Array.toList_extract, List.extract]
    have : List.take (p + 1 - p) (List.drop p b.toList) = [b[p]] := by
      rw [List.drop_eq_getElem_cons (by omega)]
      simp
    rw [this]
    rfl
  · unfold KBw.bInts
    rw [← List.map_drop, ← List.map_drop, List.drop_eq_getElem_cons (by omega : p < b.toList.length)]
    simp
end Mine
namespace Mine
theorem item_one {prog : Program} {w : World} {A : Around} {E : Value → Shared → Prop} {s : Shared} {value slice : PySem.Expr} {b : Array UInt8} {t ui : Tok} {k : Int} {Q : Value → Shared → Prop} (hk : KBw.bInts b = [k])
    (h : ∀ t' k', Q (.int k t') { s with toks := k' })
    (hs : subscripted slice false (.bytes b t) (.int 0 ui) = operate [.bytes b t, .int 0 ui] (getItem (.bytes b t) (.int 0 ui)) := by with_unfolding_all rfl)
    (ht : ∀ r, letTemporaryGo value (.bytes b t) r = pure () := by intro _; with_unfolding_all rfl) : wpAny (model prog w) A (subscriptTail value slice (.bytes b t) (.int 0 ui)) Q E s :=
  KBw.item_K hk (by simp) (by decide) (by simp) (fun t' k' _ _ => h t' k') hs ht
end Mine
end
section
open PySem PySem.W
namespace Mine
theorem bAnd_nat (a b : Nat) : Builtin.bitAnd (a : Int) (b : Int) = ((a &&& b : Nat) : Int) := by
  unfold Builtin.bitAnd
  simp
theorem bOr_nat (a b : Nat) : Builtin.bitOr (a : Int) (b : Int) = ((a ||| b : Nat) : Int) := by
  have h1 : decide (0 ≤ Builtin.bitNot (a : Int)) = false := decide_eq_false (by unfold Builtin.bitNot; omega)
  have h2 : decide (0 ≤ Builtin.bitNot (b : Int)) = false := decide_eq_false (by unfold Builtin.bitNot; omega)
  unfold Builtin.bitOr Builtin.bitAnd
  rw [h1, h2]
  have n : ∀ k : Nat, Builtin.bitNot (Builtin.bitNot (k : Int)) = (k : Int) := fun k => by unfold Builtin.bitNot; omega
  show Builtin.bitNot (Builtin.bitNot _) = _
  rw [n a, n b, n]
  rfl
theorem and128 : ∀ c : Nat, c < 256 → c &&& 128 = if c < 128 then 0 else 128 := by decide +kernel
theorem bAnd128 {c : Int} (h0 : 0 ≤ c) (h1 : c < 256) : Builtin.bitAnd c 128 = if c < 128 then 0 else 128 := by
  obtain ⟨n, rfl⟩ := Int.eq_ofNat_of_zero_le h0
  have := bAnd_nat n 128
  rw [show ((128 : Nat) : Int) = 128 from rfl] at this
  rw [this, and128 n (by omega)]
  split <;> split <;> omega
theorem bOr_low {n r : Int} (hn : 0 ≤ n) (h0 : 0 ≤ r) (h1 : r < 128) : Builtin.bitOr (n * 2 ^ Int.toNat 7) r = n * 128 + r := by
  obtain ⟨a, rfl⟩ := Int.eq_ofNat_of_zero_le hn
  obtain ⟨c, rfl⟩ := Int.eq_ofNat_of_zero_le h0
  have e : ((a : Int) * 2 ^ Int.toNat 7) = ((a * 128 : Nat) : Int) := by
    show (a : Int) * 2 ^ 7 = _
    omega
  have e2 : a * 128 ||| c = a * 128 + c := by
    have := Nat.two_pow_add_eq_or_of_lt (i := 7) (b := c) (by omega) a
    rw [Nat.mul_comm a 128]
    exact this.symm
  rw [e, bOr_nat, e2]
  omega
theorem fdiv128 {mx : Int} : mx.fdiv (2 ^ Int.toNat 7) = mx / 128 := by
  show mx.fdiv (2 ^ 7) = _
  rw [Int.fdiv_eq_ediv_of_nonneg _ (by decide)]
  rfl
theorem step_is {n c : Int} (hn : 0 ≤ n) (h0 : 0 ≤ c) : Builtin.bitOr (n * 2 ^ Int.toNat 7) (Builtin.bitAnd c 127) = n * 128 + c % 128 := by
  rw [PyProof.Rows.bitAnd_m7, bOr_low hn (by omega) (by omega)]
theorem pvP_cons (mx : Int) (c : Int) (r : List Int) (pos : Nat) (num : Int) : pvP mx (c :: r) pos num = if num > mx / 128 then none
    else if num * 128 + c % 128 > mx then none
    else if c < 128 then some (num * 128 + c % 128, pos + 1)
    else if num * 128 + c % 128 = mx then none
    else pvP mx r (pos + 1) (num * 128 + c % 128 + 1) := rfl
structure ByteAt (b c : Array UInt8) (p : Nat) (k : Int) : Prop where
  is1 : KBw.bInts c = [k]
  lo : 0 ≤ k
  hi : k < 256
  drop : (KBw.bInts b).drop p = k :: (KBw.bInts b).drop (p + 1)
theorem byteAt {b c : Array UInt8} {p : Nat} (hc : c = b.extract ((p : Nat) : Int).toNat (((p : Nat) : Int) + 1).toNat) (h : p < b.size) : ∃ k, ByteAt b c p k :=
  let ⟨k, a, b, c, d⟩ := one_ints hc h
  ⟨k, a, b, c, d⟩
/-- what the loop's ways mean for pvP -/
theorem pv_big {b c : Array UInt8} {p : Nat} {k mx num : Int} {res : Option (Int × Nat)} (B : ByteAt b c p k) (h : pvP mx ((KBw.bInts b).drop p) p num = res) (h1 : mx.fdiv (2 ^ Int.toNat 7) < num) : res = none := by
  rw [B.drop, pvP_cons, if_pos (by rw [fdiv128] at h1; omega)] at h
  exact h.symm
theorem pv_over {b c : Array UInt8} {p : Nat} {k mx num : Int} {res : Option (Int × Nat)} (B : ByteAt b c p k) (hn : 0 ≤ num) (h : pvP mx ((KBw.bInts b).drop p) p num = res) (h1 : mx < Builtin.bitOr (num * 2 ^ Int.toNat 7) (Builtin.bitAnd k 127)) : res = none := by
  rw [step_is hn B.lo] at h1
  rw [B.drop, pvP_cons] at h
  split at h
  · exact h.symm
  · first | exact h.symm | (rw [if_pos (by omega)] at h; exact h.symm)
theorem pv_full {b c : Array UInt8} {p : Nat} {k mx num : Int} {res : Option (Int × Nat)} (B : ByteAt b c p k) (hn : 0 ≤ num) (h : pvP mx ((KBw.bInts b).drop p) p num = res) (h1 : Builtin.bitAnd k 128 ≠ 0) (h2 : Builtin.bitOr (num * 2 ^ Int.toNat 7) (Builtin.bitAnd k 127) = mx) : res = none := by
  rw [step_is hn B.lo] at h2
  rw [bAnd128 B.lo B.hi] at h1
  rw [B.drop, pvP_cons] at h
  split at h
  · exact h.symm
  split at h
  · exact h.symm
  split at h
  · rename_i h9; rw [if_pos h9] at h1; exact absurd rfl h1
  · first | exact h.symm | (rw [if_pos h2] at h; exact h.symm)
theorem pv_done {b c : Array UInt8} {p : Nat} {k mx num : Int} {res : Option (Int × Nat)} (B : ByteAt b c p k) (hn : 0 ≤ num) (h : pvP mx ((KBw.bInts b).drop p) p num = res) (h0 : ¬ mx.fdiv (2 ^ Int.toNat 7) < num) (h1 : ¬ mx < Builtin.bitOr (num * 2 ^ Int.toNat 7) (Builtin.bitAnd k 127)) (h2 : Builtin.bitAnd k 128 = 0) :
    res = some (Builtin.bitOr (num * 2 ^ Int.toNat 7) (Builtin.bitAnd k 127), p + 1) := by
  rw [step_is hn B.lo] at h1 ⊢
  rw [bAnd128 B.lo B.hi] at h2
  rw [fdiv128] at h0
  rw [B.drop, pvP_cons, if_neg (by omega), if_neg (by omega)] at h
  split at h
  · exact h.symm
  · rename_i h9; rw [if_neg h9] at h2; omega
theorem pv_more {b c : Array UInt8} {p : Nat} {k mx num : Int} {res : Option (Int × Nat)} (B : ByteAt b c p k) (hn : 0 ≤ num) (h : pvP mx ((KBw.bInts b).drop p) p num = res) (h0 : ¬ mx.fdiv (2 ^ Int.toNat 7) < num) (h1 : ¬ mx < Builtin.bitOr (num * 2 ^ Int.toNat 7) (Builtin.bitAnd k 127)) (h2 : Builtin.bitAnd k 128 ≠ 0)
    (h3 : Builtin.bitOr (num * 2 ^ Int.toNat 7) (Builtin.bitAnd k 127) ≠ mx) :
    pvP mx ((KBw.bInts b).drop (p + 1)) (p + 1) (Builtin.bitOr (num * 2 ^ Int.toNat 7) (Builtin.bitAnd k 127) + 1) = res ∧ 0 ≤ Builtin.bitOr (num * 2 ^ Int.toNat 7) (Builtin.bitAnd k 127) + 1 ∧ Builtin.bitOr (num * 2 ^ Int.toNat 7) (Builtin.bitAnd k 127) + 1 ≤ mx := by
  rw [step_is hn B.lo] at h1 h3 ⊢
  rw [bAnd128 B.lo B.hi] at h2
  rw [fdiv128] at h0
  have hb := B.lo
  rw [B.drop, pvP_cons, if_neg (by omega), if_neg (by omega)] at h
  split at h
  · rename_i h9; rw [if_pos h9] at h2; exact absurd rfl h2
  · (try rw [if_neg h3] at h)
    exact ⟨h, by omega, by omega⟩
theorem pv_end {b : Array UInt8} {p : Nat} {mx num : Int} {res : Option (Int × Nat)} (h : pvP mx ((KBw.bInts b).drop p) p num = res) (h1 : b.size ≤ p) : res = none := by
  rw [List.drop_eq_nil_of_le (by rw [KBw.ints_length]; exact h1)] at h
  exact h.symm
end Mine
end
section
open PySem PySem.W PyProof.Rows PySem.Calls
namespace Mine
abbrev LL : List Str := [Str.ofString "BTClibValueError", Str.ofString "BTClibTypeError", Str.ofString "bytes_from_octets",
      Str.ofString "UnsupportedOperation", Str.ofString "IOBase", Str.ofString "BufferedIOBase",
      Str.ofString "TextIOBase", Str.ofString "BytesIO", Str.ofString "StringIO", Str.ofString "serialize_varint",
      Str.ofString "parse_varint"]
abbrev A0 (dp un : Nat) (gd : Option (List Code)) (outer : List Env) : Around := { handled := none, depth := dp, frames := some outer, guards := gd, units := un }
abbrev fnv (cn : Str) (nms : List (Str × NameKind)) (L a : Addr) (ccd : Value) : Env := envOf cn { kind := .function, names := nms, isGenerator := false, isCoroutine := false } L a ccd
theorem allLt_ne {d : Addr} {l : List (Addr × Obj)} (h : AllLt d l) : ∀ p ∈ l, p.1 ≠ d := by
  induction l with
  | nil => exact fun _ h => nomatch h
  | cons q r ih =>
    intro p hp
    rcases List.mem_cons.mp hp with rfl | hp
    · exact Nat.ne_of_lt h.1
    · exact ih h.2 p hp
abbrev bufN : Str := Str.ofString "_BytesIO__buf"
abbrev posN : Str := Str.ofString "_BytesIO__pos"
abbrev bioD (P : Params) (ba : Addr) (pos : Int) (t1 t2 t3 : Tok) : Obj := dictOf [⟨PyData.keyHash P bufN, .str bufN t1, .ref ba⟩, ⟨PyData.keyHash P posN, .str posN t2, .int pos t3⟩] 2
end Mine
end
section
open PySem PySem.W PyProof.Rows PySem.Calls
namespace Mine
theorem kd_fr {A : Around} {base : Heap} {outer : List Env} {h₀ g : Heap} {L : Addr} {m : Str → Option Value} {cn : Str} {cs : Scope} {a : Addr} {ccd : Value} (_B : Below A base (envOf cn cs L a ccd :: outer) g) (D : KtsDicts (outer.filterMap (·.frame)) h₀) (F : Fr h₀ L g m) : KtsDicts ((envOf cn cs L a ccd :: outer).filterMap (·.frame)) g := fun b hb => by
  obtain ⟨oL, es, ep, hL, hLd, _⟩ := F.ns
  rcases List.mem_cons.mp hb with rfl | hb
  · exact ⟨oL, es, ep, hL, hLd⟩
  · obtain ⟨o, es', n', ho', hd'⟩ := D b hb
    exact ⟨o, es', n', F.keep b o ho', hd'⟩
end Mine
namespace Mine
theorem pow_lo {bits : Int} (h1 : 1 ≤ bits) : (2 : Int) ≤ 2 ^ bits.toNat := by
  obtain ⟨n, rfl⟩ := Int.eq_ofNat_of_zero_le (show 0 ≤ bits by omega)
  show (2 : Int) ≤ 2 ^ n
  have : (2 : Nat) ^ 1 ≤ 2 ^ n := Nat.pow_le_pow_right (by decide) (by omega)
  have h := Int.ofNat_le.mpr this
  simpa using h
theorem pow_hi {bits : Int} (h1 : 1 ≤ bits) (h2 : bits ≤ 64) : (2 : Int) ^ bits.toNat ≤ 18446744073709551616 := by
  obtain ⟨n, rfl⟩ := Int.eq_ofNat_of_zero_le (show 0 ≤ bits by omega)
  show (2 : Int) ^ n ≤ 18446744073709551616
  have : (2 : Nat) ^ n ≤ 2 ^ 64 := Nat.pow_le_pow_right (by decide) (by omega)
  have h := Int.ofNat_le.mpr this
  simpa using h
end Mine
end
section
open PySem PySem.W PyProof.Rows PySem.Calls
namespace Mine
theorem by_bytes : typeLookup (.type "bytes") "__bytes__" = pure (some (.builtin "bytes.__bytes__")) := by rw [typeLookup_type, builtinLookup_eq_fast]; kernel_rfl
theorem by_toBytes {prog : Program} {w : World} {A : Around} {E Q : Value → Shared → Prop} {s : Shared} {b : Array UInt8} {t : Tok}
    (h : Q (.bytes b t) s) : wpAny (model prog w) A (call (.type "bytes") [.bytes b t]) Q E s := by
  refine callType_codes (Q₁ := fun obj s₁ => s₁.TypeIs obj "bytes" ∧ Q obj s₁) F.bm_called (F.bm_typeCall _) F.entry_object_init ?_ fun obj s₁ h₁ => ?_
  · refine codeAny_of_tree ?_
    show wpAny _ A.in1.in1 (do checkBuiltinCall "bytes.__new__" ⟨[.type "bytes", .bytes b t], []⟩; again (.builtin "bytes.__new__" ⟨[.type "bytes", .bytes b t], []⟩)) _ _ s
    refine wpAny_bind (wpAny_of_eq (F.bm_newCall _) (wpAny_pure ⟨plainId_quiet F.bm_plain _, codeAny_builtin F.bm_entry ?_⟩))
    rw [Around.under_plainId F.bm_plain _]
    have hT : s.TypeIs (.bytes b t) "bytes" := typeIs_bytes _ _ _
    unfold Builtin.«bytes.__new__»
    refine wpAny_bind (wpAny_of_eq (a := true) rfl ?_)
    refine bm_if_false rfl ?_
    refine wpAny_bind (wpAny_of_eq F.bm_sub ?_)
    refine bm_if_false rfl ?_
    refine wpAny_bind (wpAny_of_eq (F.bm_bind _) ?_)
    refine wpAny_bind (wpAny_of_eq (a := ()) rfl ?_)
    refine wpAny_bind (wpAny_of_eq (a := ()) rfl ?_)
    refine bm_if_false rfl ?_
    refine wpAny_bind (wpAny_specialOf hT by_bytes ?_)
    refine wpAny_bind (wpAny_rule ?_)
    refine wpAny_bind (wpAny_typeOf hT ?_)
    show wpAny _ _ (if (Value.type "bytes" == Value.type "bytes") = true then _ else _) _ _ _
    refine bm_if_true (by decide) ?_
    show wpAny _ _ (if (Value.type "bytes" == Value.type "bytes") = true then _ else _) _ _ _
    refine bm_if_true (by decide) ?_
    first
      | exact wpAny_pure ⟨typeIs_bytes _ _ _, h⟩
      | exact wpAny_bind (wpAny_pure (wpAny_pure ⟨typeIs_bytes _ _ _, h⟩))
  · exact ⟨h₁.1, F.args_object_init_2 obj _, object_init_meets F.bm_called.init.lookup F.bm_called.made (by decide) prog w A.in1 _ s₁ ⟨h₁.1, rfl, h₁.2⟩⟩
end Mine
end
section
open PySem PySem.W PyProof.Rows PySem.Calls PySem.Spec
namespace Mine
/-- the end of a turn of a loop whose state is told by J -/
def RgPost (h₀ : Heap) (L : Addr) (J : (Str → Option Value) → Prop) (led : List (Addr × Obj)) (s₁ : Shared) (Q : Flow → Shared → Prop) (f : Flow) (s₂ : Shared) : Prop :=
  match f with
  | .ret v => Q (.ret v) s₂
  | .brk => Q .next s₂
  | _ => ∃ h' tk' m₂ led', s₂ = { s₁ with heap := h', toks := tk' } ∧ Fr h₀ L h' m₂ ∧ News h₀ L h' led' ∧ (∀ p ∈ led, p ∈ led') ∧ J m₂
section
variable {prog : Program} {w : World} {A : Around} {E : Value → Shared → Prop} {s : Shared} {env : Env} {h₀ : Heap} {x : Str} {body : List Stmt} {Q : Flow → Shared → Prop}
theorem rg_law {I : Addr} {n : Nat} {P : Nat → Value → Prop} {St : Nat → Heap → Prop} {m₀ : Str → Option Value} {news : List (Addr × Obj)} (J : Nat → (Str → Option Value) → Prop)
    (W : Walks prog w A I [I] [I] n P St) (hLf : env.locals ∉ [I]) (hI₀ : h₀.get? I = none) (hnw : ∀ p ∈ news, p.1 < I) (hSt : ∀ i h, St i h → ∃ o, h.get? I = some o) (hst : St 0 s.heap) (F : Fr h₀ env.locals s.heap m₀) (N : News h₀ env.locals s.heap news) (hj : J 0 m₀)
    (turn : ∀ i v m₁ h tk oI, i < n → P i v → J i m₁ → Fr h₀ env.locals h (fun y => if y = x then some v else m₁ y) → News h₀ env.locals h ((I, oI) :: news) → (∀ p ∈ news, p.1 < I) →
      wpAny (model prog w) A (execs body env) (RgPost h₀ env.locals (J (i + 1)) ((I, oI) :: news) s Q) E { s with heap := h, toks := tk })
    (done : ∀ m₁ h tk, J n m₁ → Fr h₀ env.locals h m₁ → News h₀ env.locals h news → Q .next { s with heap := h, toks := tk }) :
    LoopAtV prog w A h₀ env x body Q E (.ref I) s := by
  let J' : Nat → (Str → Option Value) → List (Addr × Obj) → Prop := fun i m₁ news₁ => news₁ = news ∧ J i m₁
  refine ⟨I, [I], [I], n, P, St, m₀, news, J', rfl, W, hLf, ?_, ?_, hst, F, N, ⟨rfl, hj⟩, ?_, ?_⟩
  · intro b hb
    rw [List.mem_singleton.mp hb]
    exact hI₀
  · intro p hp hI
    exact absurd (hnw p hp) ((List.mem_singleton.mp hI) ▸ Nat.lt_irrefl _)
  · rintro i v m₁ news₁ s₁ own ⟨hh', tk', rfl⟩ hin hP ⟨rfl, hJ⟩ hoff h5 _ h7 hs F₁ N₁
    obtain ⟨oI, hoI⟩ := hSt _ _ hs
    have own1 : ∀ p ∈ own, p = (I, oI) := fun p hp => by
      have a := N₁ p (List.mem_append.mpr (.inl hp))
      have b : p.1 = I := List.mem_singleton.mp (h5 p hp)
      have c := a.1
      rw [b] at c
      exact Prod.ext b (Option.some.inj (c.symm.trans hoI))
    have NI : News h₀ env.locals hh' ((I, oI) :: news₁) := fun p hp => by
      rcases List.mem_cons.mp hp with rfl | hp
      · exact N₁ _ (List.mem_append.mpr (.inl (h7 I (.head _) hI₀ oI hoI)))
      · exact N₁ p (List.mem_append.mpr (.inr hp))
    refine wpAny_mono (turn i v m₁ hh' tk' oI hin hP hJ F₁ NI hnw) (fun f s₂ p => ?_) fun _ _ e => e
    have fin : (∃ h' tk' m₂ led', s₂ = { s with heap := h', toks := tk' } ∧ Fr h₀ env.locals h' m₂ ∧ News h₀ env.locals h' led' ∧ (∀ p ∈ (I, oI) :: news₁, p ∈ led') ∧ J (i + 1) m₂) → LoopStepU h₀ env.locals [I] own (J' (i + 1)) { s with heap := hh', toks := tk' } .next s₂ := by
      rintro ⟨h', tk, m', news', e, F', N', hn, hm⟩
      refine ⟨rfl, h', tk, m', news₁, e, F', fun p hp => ?_, hoff, rfl, hm⟩
      rcases List.mem_append.mp hp with hp | hp
      · obtain rfl := own1 p hp
        exact N' _ (hn _ List.mem_cons_self)
      · exact N' p (hn p (List.mem_cons_of_mem _ hp))
    cases f with
    | ret v => exact .ret p
    | brk => exact .brk p
    | next => exact .next (fin p)
    | cont => exact .cont (fin p)
  · rintro h' tk m' news' F' N' _ ⟨rfl, hJ⟩
    exact done m' h' tk hJ F' N'
theorem rg_range {r : Addr} {a₀ b₀ : Int} {t₀ u₀ v₀ : Tok} {n : Nat} {m₀ : Str → Option Value} {news : List (Addr × Obj)} (J : Nat → (Str → Option Value) → Prop)
    (hh : A.handled = none) (hr : IsRange s.heap r a₀ b₀ 1 t₀ u₀ v₀) (hsmall : Builtin.Range.small a₀ b₀ 1 = true) (hn : Builtin.Range.rangeSize a₀ b₀ 1 = (n : Int)) (F : Fr h₀ env.locals s.heap m₀) (N : News h₀ env.locals s.heap news) (hj : J 0 m₀)
    (turn : ∀ (i : Nat) k t m₁ h tk I oI, i < n → k = a₀ + (i : Int) → J i m₁ → Fr h₀ env.locals h (fun y => if y = x then some (.int k t) else m₁ y) → News h₀ env.locals h ((I, oI) :: news) → (∀ p ∈ news, p.1 < I) →
      wpAny (model prog w) A (execs body env) (RgPost h₀ env.locals (J (i + 1)) ((I, oI) :: news) s Q) E { s with heap := h, toks := tk })
    (done : ∀ m₁ h tk, J n m₁ → Fr h₀ env.locals h m₁ → News h₀ env.locals h news → Q .next { s with heap := h, toks := tk }) :
    wpAny (model prog w) A (pyIter (.ref r)) (fun it s₂ => LoopAtV prog w A h₀ env x body Q E it s₂) E s := by
  refine wpAny_pyIter_range hr hsmall ?_
  have W : Walks prog w A s.heap.objs.size [s.heap.objs.size] [s.heap.objs.size] n (fun i v => i < n ∧ ∃ t, v = .int (a₀ + i * 1) t)
      (fun i h => IsRangeIter h s.heap.objs.size (a₀ + (i : Nat) * 1) ((n : Int) - (i : Nat)) 1) := (Walks.range hh _ a₀ 1 n).bound
  refine rg_law J W ?_ (next_is_new F) (fun p hp => Heap.lt_size (N p hp).1) (fun i h st => ⟨_, st⟩) (by show IsRangeIter _ _ _ _ _; rw [hn]; simpa using Heap.get?_push_size _ rfl) (F.push _) (fun p hp => ⟨Heap.get?_push_of_some _ (N p hp).1, (N p hp).2⟩) hj ?_ ?_
  · intro hm
    exact absurd F.ns.lt ((List.mem_singleton.mp hm) ▸ Nat.lt_irrefl _)
  · rintro i v m₁ h tk oI hi ⟨_, t, rfl⟩ hJ F₁ N₁ l₁
    exact turn i _ t m₁ h tk _ oI hi (by omega) hJ F₁ N₁ l₁
  · exact done
end
end Mine
end
section
open PySem PySem.W PyProof.Rows PySem.Calls PySem.Spec
namespace Mine
/-- what the law reckons: the number and the count of its octets -/
def rkP : List Int → Nat → Int → Option (Int × Nat)
  | [], _, _ => none
  | c :: r, j, f => if c < 128 then some (f * 128 + c % 128, j + 1) else rkP r (j + 1) (f * 128 + c % 128 + 1)
theorem range_size (n : Nat) : Builtin.Range.rangeSize 0 n 1 = (n : Int) := by
  unfold Builtin.Range.rangeSize
  split <;> omega
theorem range_small {n : Nat} (hz : n ≤ sizeLine) : Builtin.Range.small 0 n 1 = true := by
  rw [sizeLine_eq] at hz
  exact small_one (by omega) (by omega) (by omega) (by omega)
theorem item_at {prog : Program} {w : World} {A : Around} {E : Value → Shared → Prop} {s : Shared} {value slice : PySem.Expr} {b : Array UInt8} {t ui : Tok} {j : Nat} {Q : Value → Shared → Prop} (hz : b.size ≤ sizeLine) (hj : j < b.size)
    (h : ∀ c t' k, (KBw.bInts b).drop j = c :: (KBw.bInts b).drop (j + 1) → 0 ≤ c → c < 256 → Q (.int c t') { s with toks := k })
    (hs : subscripted slice false (.bytes b t) (.int j ui) = operate [.bytes b t, .int j ui] (getItem (.bytes b t) (.int j ui)) := by with_unfolding_all rfl)
    (ht : ∀ r, letTemporaryGo value (.bytes b t) r = pure () := by intro _; with_unfolding_all rfl) : wpAny (model prog w) A (subscriptTail value slice (.bytes b t) (.int j ui)) Q E s := by
  have hl : (KBw.bInts b).length = b.size := KBw.ints_length b
  rw [sizeLine_eq] at hz
  refine KBw.item_K rfl (by omega) (by omega) (by omega) (fun t' k h1 h2 => h _ t' k ?_ h1 h2) hs ht
  have e : ((j : Nat) : Int).toNat = j := by omega
  rw [e, List.getD_eq_getElem?_getD, List.getElem?_eq_getElem (by omega)]
  rw [List.drop_eq_getElem_cons (by omega : j < (KBw.bInts b).length)]
  rfl
end Mine
namespace Mine
theorem rk_ret {b : Array UInt8} {i : Nat} {c1 c2 f : Int} {res : Option (Int × Nat)} (h1 : (KBw.bInts b).drop i = c1 :: (KBw.bInts b).drop (i + 1)) (h : c2 < 128) (h2 : (KBw.bInts b).drop i = c2 :: (KBw.bInts b).drop (i + 1)) (hr : rkP ((KBw.bInts b).drop i) i f = res) :
    res = some (f * 128 + c1.fmod 128, i + 1) := by
  have e : c1 = c2 := by rw [h1] at h2; exact (List.cons.inj h2).1
  subst e
  rw [h1] at hr
  unfold rkP at hr
  rw [if_pos h] at hr
  rw [Int.fmod_eq_emod_of_nonneg _ (by decide)]
  exact hr.symm
theorem rk_next {b : Array UInt8} {i : Nat} {c1 c2 f : Int} {res : Option (Int × Nat)} (h1 : (KBw.bInts b).drop i = c1 :: (KBw.bInts b).drop (i + 1)) (h : ¬ c2 < 128) (h2 : (KBw.bInts b).drop i = c2 :: (KBw.bInts b).drop (i + 1)) (hr : rkP ((KBw.bInts b).drop i) i f = res) :
    rkP ((KBw.bInts b).drop (i + 1)) (i + 1) (f * 128 + c1.fmod 128 + 1) = res := by
  have e : c1 = c2 := by rw [h1] at h2; exact (List.cons.inj h2).1
  subst e
  rw [h1] at hr
  unfold rkP at hr
  rw [if_neg h] at hr
  rw [Int.fmod_eq_emod_of_nonneg _ (by decide)]
  exact hr
end Mine
namespace Mine
theorem allLt_lt {d : Addr} {l : List (Addr × Obj)} (h : AllLt d l) : ∀ p ∈ l, p.1 < d := by
  induction l with
  | nil => exact fun _ h => nomatch h
  | cons q r ih =>
    intro p hp
    rcases List.mem_cons.mp hp with rfl | hp
    · exact h.1
    · exact ih h.2 p hp
end Mine
end
section
open PySem PySem.W PyProof.Rows PySem.Calls
namespace Mine
theorem kts_memE {ev : Env} {L b : Addr} {outer : List Env} (hf : ev.frame = some L) (hm : b ∈ (ev :: outer).filterMap (·.frame)) : b = L ∨ b ∈ outer.filterMap (·.frame) := by
  obtain ⟨env, he, hfe⟩ := List.mem_filterMap.mp hm
  rcases List.mem_cons.mp he with rfl | he
  · exact .inl (Option.some.inj (hf.symm.trans hfe)).symm
  · exact .inr (List.mem_filterMap.mpr ⟨env, he, hfe⟩)
theorem kts_inE {ev : Env} {L : Addr} {outer : List Env} (hf : ev.frame = some L) : L ∈ (ev :: outer).filterMap (·.frame) := List.mem_filterMap.mpr ⟨ev, .head _, hf⟩
theorem kd_frE {A : Around} {base : Heap} {outer : List Env} {h₀ g : Heap} {L : Addr} {m : Str → Option Value} {ev : Env} (_B : Below A base (ev :: outer) g) (D : KtsDicts (outer.filterMap (·.frame)) h₀) (F : Fr h₀ L g m) (hf : ev.frame = some L) : KtsDicts ((ev :: outer).filterMap (·.frame)) g := fun b hb => by
  obtain ⟨oL, es, ep, hL, hLd, _⟩ := F.ns
  rcases kts_memE hf hb with rfl | hb
  · exact ⟨oL, es, ep, hL, hLd⟩
  · obtain ⟨o, es', n', ho', hd'⟩ := D b hb
    exact ⟨o, es', n', F.keep b o ho', hd'⟩
section
variable {A₀ A : Around} {base h₀ : Heap} {outer : List Env} {s : Shared} {L : Addr} {m : Str → Option Value} {news : List (Addr × Obj)} {ev : Env}
theorem kts_enterE (B : Below A₀ base outer h₀) (F : Fr h₀ L s.heap m) (N : News h₀ L s.heap news) (hA : A.frames = some (ev :: outer)) (hf : ev.frame = some L) (hke : ev.scope.kind = .function) :
    ∃ oL es ep, (hideAll s.heap (news.map (·.1))).get? L = some oL ∧ oL.data = .dict es ep ∧ (∀ h', h'.get? L = some oL → Heap.Ns h' L m) ∧ (∀ (sl : Array (Option Value)) h', h'.get? L = some { oL with slots := sl } → Heap.Ns h' L m) ∧
      h₀.StaysIn (hideAll s.heap (news.map (·.1))) ∧ Below A base (ev :: outer) (hideAll s.heap (news.map (·.1))) := by
  have nm : ∀ b o, h₀.get? b = some o → b ∉ news.map (·.1) := fun b o e q => by
    obtain ⟨p, hp, rfl⟩ := List.mem_map.mp q
    rw [(N p hp).2.2] at e; cases e
  have st : h₀.StaysIn (hideAll s.heap (news.map (·.1))) := fun b o e => hideAll_get _ (F.keep b o e) (nm b o e)
  obtain ⟨oL, es, ep, hL, hLd, hLk, hLf⟩ := F.ns
  have nL : L ∉ news.map (·.1) := fun q => by
    obtain ⟨p, hp, e⟩ := List.mem_map.mp q
    exact (N p hp).2.1 e
  have hLg := hideAll_get (news.map (·.1)) hL nL
  have B₁ := pushX B F hf hke
  exact ⟨oL, es, ep, hLg, hLd, fun h' e => ⟨oL, es, ep, e, hLd, hLk, hLf⟩, fun sl h' e => ⟨_, es, ep, e, hLd, hLk, hLf⟩, st, ⟨hA, fun b o e => st b o (B.stays b o e), funFrames_hideAll B₁.frames fun env he b hb hf' => by
    cases he with
    | head => exact nL ((Option.some.inj (hf.symm.trans hf') : L = b) ▸ hb)
    | tail _ he =>
      obtain ⟨L₁, o₁, hf₁, ho₁⟩ := funFrames_in B.frames env he
      rw [hf₁] at hf'
      exact nm L₁ o₁ ho₁ ((Option.some.inj hf' : L₁ = b) ▸ hb)⟩⟩
end
section
variable {prog : Program} {w : World} {A A₀ : Around} {s : Shared} {R : Result → Shared → Prop} {base h₀ g₀ : Heap} {K : Frag} {L : Addr} {m mg mb : Str → Option Value} {more : List (Addr × Obj)} {p : Program} {loose : List Str} {mean : ExcName → Option Value}
  {ev : Env} {outer : List Env} {name qual : Str} {params : Arguments} {body : List Stmt} {scope : Scope} {dV kV doc pm cdv ct oc : Value} {an od : Option Addr} {osl : Array (Option Value)} {f : Addr} {args : Args} {binds : List (Str × Value)}
/-- what a def gives back to its caller, whatever the caller's frame is -/
theorem leaveE (B : Below A₀ base outer h₀) (F : Fr h₀ L s.heap m) (N : News h₀ L s.heap more) (XB : K.In base) (TB : Top p loose mean mg mb base) (D : KtsDicts (outer.filterMap (·.frame)) h₀)
    (T0 : KtsTurn (outer.filterMap (·.frame)) g₀ h₀) (hA : A.frames = some (ev :: outer)) (hf : ev.frame = some L) (hke : ev.scope.kind = .function) {v : Value} {s' : Shared}
    (hl : LeaveM ((ev :: outer).filterMap (·.frame)) A₀ base outer K p loose mean mg mb g₀ L m (hideAll s.heap (([] : List (Addr × Obj)).map (·.1))) more R v s') : R (.ok (.ret v)) s' := by
  obtain ⟨oL, es, ep, hLg, hLd, hN, hNs, st, B₂⟩ := kts_enterE (news := []) B F (fun _ q => nomatch q) hA hf hke
  have nL₀ : h₀.get? L = none := kts_self F
  obtain ⟨g', L', m', news', T', F', N', k⟩ := hl
  obtain ⟨sl, hs⟩ := T'.up hLg
  obtain ⟨T₁, S₁⟩ := kts_turn_at (h := s'.heap) (fs := outer.filterMap (·.frame)) (g := h₀)
    (fun b hb => by
      obtain ⟨_, o, ho', _⟩ := B.frames.mem hb
      exact ⟨o, ho'⟩)
    (fun b o e nmem => F'.keep b o (T'.other b o (st b o e) (fun q => by
      rcases kts_memE hf q with z | z
      · rw [z, nL₀] at e
        cases e
      · exact nmem z)))
    (fun b o e hm => by
      obtain ⟨sl', hs'⟩ := T'.up (st b o e)
      exact ⟨sl', F'.keep _ _ hs'⟩)
  have B₃ : Below A₀ base outer (ktsHeap s'.heap (outer.filterMap (·.frame)) h₀) := ⟨B.stack, fun b o e => T₁.other b o (B.stays b o e) (fun hm => by
    rw [(B.frames.mem hm).1] at e
    cases e), B.frames.of_keeps fun b o e _ => by
    obtain ⟨sl', hs'⟩ := T₁.up e
    exact ⟨_, hs', rfl⟩⟩
  refine k _ (T0.trans T₁) ⟨hNs sl _ (F'.keep _ _ hs), S₁, by rw [T₁.size]; exact F.above⟩ (fun p hp => ?_) B₃ (XB.keeps B₃.stays) (TB.keeps B₃.stays) (D.turn T₁)
  rcases List.mem_append.mp hp with hp | hp
  · refine ⟨(N' p hp).1, fun q => ?_, ?_⟩
    · have := (N' p hp).2.2; rw [q, hs] at this; cases this
    · refine T₁.none_ _ ?_
      cases q : h₀.get? p.1 with
      | none => rfl
      | some o =>
        obtain ⟨sl', hs'⟩ := T'.up (st _ _ q)
        have := (N' p hp).2.2
        rw [hs'] at this
        cases this
  · obtain ⟨n1, n2, n3⟩ := N p hp
    refine ⟨F'.keep _ _ (T'.other _ _ (hideAll_get _ n1 (fun q => nomatch q)) (fun q => ?_)), n2, T₁.none_ _ n3⟩
    rcases kts_memE hf q with z | z
    · exact n2 z
    · obtain ⟨_, o, ho', _⟩ := B.frames.mem z
      rw [n3] at ho'; cases ho'
theorem codeS_defSE (B : Below A₀ base outer h₀) (F : Fr h₀ L s.heap m) (X₀ : K.In h₀) (N : News h₀ L s.heap more) (T : Top p loose mean mg mb h₀) (XB : K.In base) (TB : Top p loose mean mg mb base) (D : KtsDicts (outer.filterMap (·.frame)) h₀)
    (T0 : KtsTurn (outer.filterMap (·.frame)) g₀ h₀) (hA : A.frames = some (ev :: outer)) (hf : ev.frame = some L) (hke : ev.scope.kind = .function)
    (ho : K.lookup f = some ⟨oc, od, .func (fnOf name qual params body scope dV kV doc pm an cdv ct), osl⟩) (hcd : codeIn K cdv qual = true) (hroom : A.depth < recursionLimit)
    (hbind : BindsTo s (fnOf name qual params body scope dV kV doc pm an cdv ct) args binds) (hloc : ∀ y ∈ binds, scope.names.lookup y.1 = some .local)
    (h : ∀ g L' h₁, Fr h₀ L g m → Fr g L' h₁ (fun y => binds.reverse.lookup y) → News g L' h₁ [] → Below A base (ev :: outer) g → K.In g → Top p loose mean mg mb g → KtsDicts ((ev :: outer).filterMap (·.frame)) g →
      wpS (model prog w) (A.deeper (envOf qual scope L' f cdv)) (execs body (envOf qual scope L' f cdv))
        (fun fl s' => LeaveM ((ev :: outer).filterMap (·.frame)) A₀ base outer K p loose mean mg mb g₀ L m g more R (match fl with | .ret v => v | _ => .none) s')
        (fun e s' => wpAny (model prog w) (A.deeper (envOf qual scope L' f cdv)) (leaving (envOf qual scope L' f cdv) e) (fun _ s'' => R (.error e) s'') (fun e' s'' => R (.error e') s'') s')
        { s with heap := h₁, toks := s.toks + binds.length })
    (hcell : ∀ x ∈ scope.names, x.2 ≠ .cell) (hco : scope.isCoroutine = false := by rfl) (hgen : scope.isGenerator = false := by rfl) (hk : scope.kind = .function := by rfl) :
    codeS (model prog w) A (.call (.ref f) args) R s := by
  have hof := (X₀.keeps F.keep) _ _ ho
  obtain ⟨c, ocd, vs, tq, hc, hoc, hdc, hq⟩ := codeRec_of (X₀.keeps F.keep) hcd
  refine codeS_of_tree rfl (S_any ?_)
  show wpAny _ A.in1 (callAny (.ref f) args) _ _ s
  simp only [callAny]
  refine wpAny_bind (wpAny_load hof ?_)
  subst hc
  simp only [callFunction, fnOf, hco, hgen]
  refine wpAny_bind (m := field (.ref c) 1) (wpAny_field hoc hdc hq (wpAny_bind (wpAny_pure ?_)))
  refine wpAny_bind (hbind _ _ _ _ ?_)
  refine wpAny_bind (wpAny_newFunctionEnv hcell hloc (fun h₁ hns₀ hsb₀ => ?_) hk)
  have hk₁ : ∀ b o, s.heap.get? b = some o → h₁.get? b = some o := fun b o e => hsb₀.extBut b o (Nat.ne_of_lt (Heap.lt_size e)) (Heap.get?_push_of_some _ e)
  refine wpAny_bind (wpAny_enterFrame ((T.nolimit.keeps F.keep).fresh _ hsb₀) hroom (wpAny_pure (And.intro rfl (codeS_func ?_))))
  obtain ⟨oL, es, ep, hLg, hLd, hN, hNs, st, B₂⟩ := kts_enterE (news := []) B F (fun _ q => nomatch q) hA hf hke
  refine S_mono (h _ s.heap.objs.size h₁ ⟨hN _ hLg, st, F.above⟩ ⟨hns₀, fun b o e => hk₁ b o (of_hideAll _ e), Nat.le_of_eq (hideAll_size _ _)⟩
    (fun _ q => nomatch q) B₂ (X₀.keeps st) (T.keeps st) (fun b hb => by
      rcases kts_memE hf hb with rfl | hb
      · exact ⟨oL, es, ep, hLg, hLd⟩
      · obtain ⟨o, es', n', ho', hd'⟩ := D b hb
        exact ⟨o, es', n', st b o ho', hd'⟩)) (fun fl s' hl => leaveE B F N XB TB D T0 hA hf hke hl) fun _ _ y => y
/-- the same for a def whose frame has cells -/
theorem codeS_defSC (B : Below A₀ base outer h₀) (F : Fr h₀ L s.heap m) (X₀ : K.In h₀) (N : News h₀ L s.heap more) (T : Top p loose mean mg mb h₀) (XB : K.In base) (TB : Top p loose mean mg mb base) (D : KtsDicts (outer.filterMap (·.frame)) h₀)
    (T0 : KtsTurn (outer.filterMap (·.frame)) g₀ h₀) (hA : A.frames = some (ev :: outer)) (hf : ev.frame = some L) (hke : ev.scope.kind = .function)
    (ho : K.lookup f = some ⟨oc, od, .func (fnOf name qual params body scope dV kV doc pm an cdv ct), osl⟩) (hcd : codeIn K cdv qual = true) (hroom : A.depth < recursionLimit)
    (hbind : BindsTo s (fnOf name qual params body scope dV kV doc pm an cdv ct) args binds) (hkind : (binds.all fun y => scope.names.lookup y.1 == some .local || scope.names.lookup y.1 == some .cell) = true)
    (hnd : ((cellsFrom 0 scope.names []).map (·.1)).Nodup)
    (h : ∀ g L' h₁ tk cells, Fr h₀ L g m → Fr g L' h₁ (bindL (envOfC qual scope L' f cdv).kindOf binds fun _ => none) → News g L' h₁ (cells ++ []) → CellsAre (bindC (envOfC qual scope L' f cdv).kindOf binds fun _ => none) (cellsFrom (L' + 1) scope.names []) cells →
      Below A base (ev :: outer) g → K.In g → Top p loose mean mg mb g → KtsDicts ((ev :: outer).filterMap (·.frame)) g →
      wpS (model prog w) (A.deeper (envOfC qual scope L' f cdv)) (execs body (envOfC qual scope L' f cdv))
        (fun fl s' => LeaveM ((ev :: outer).filterMap (·.frame)) A₀ base outer K p loose mean mg mb g₀ L m g more R (match fl with | .ret v => v | _ => .none) s')
        (fun e s' => wpAny (model prog w) (A.deeper (envOfC qual scope L' f cdv)) (leaving (envOfC qual scope L' f cdv) e) (fun _ s'' => R (.error e) s'') (fun e' s'' => R (.error e') s'') s')
        { s with heap := h₁, toks := tk })
    (hco : scope.isCoroutine = false := by rfl) (hgen : scope.isGenerator = false := by rfl) (hk : scope.kind = .function := by rfl) :
    codeS (model prog w) A (.call (.ref f) args) R s := by
  have hof := (X₀.keeps F.keep) _ _ ho
  obtain ⟨c, ocd, vs, tq, hc, hoc, hdc, hq⟩ := codeRec_of (X₀.keeps F.keep) hcd
  refine codeS_of_tree rfl (S_any ?_)
  show wpAny _ A.in1 (callAny (.ref f) args) _ _ s
  simp only [callAny]
  refine wpAny_bind (wpAny_load hof ?_)
  subst hc
  simp only [callFunction, fnOf, hco, hgen]
  refine wpAny_bind (m := field (.ref c) 1) (wpAny_field hoc hdc hq (wpAny_bind (wpAny_pure ?_)))
  refine wpAny_bind (hbind _ _ _ _ ?_)
  refine wpAny_bind (wpAny_newFunctionEnv_cells hk (kindsX hkind _) fun env' he s' x => ?_)
  subst he
  obtain ⟨h₁, tk, rfl, _⟩ := x.done
  have hk₁ := x.toInCall.keep
  refine wpAny_bind (wpAny_enterFrame ((T.nolimit.keeps F.keep).keeps hk₁) hroom (wpAny_pure (And.intro rfl (codeS_func ?_))))
  obtain ⟨oL, es, ep, hLg, hLd, hN, hNs, st, B₂⟩ := kts_enterE (news := []) B F (fun _ q => nomatch q) hA hf hke
  obtain ⟨cells, NC, Y⟩ := Cl.news (h₀ := s.heap) (Nat.le_refl _) fun n c hm => ⟨x.cell n c (lookup_of_mem_nodup (cellsFrom_names scope.names 0 (s.heap.objs.size + 1) [] [] rfl ▸ hnd) hm), x.above n c hm⟩
  refine S_mono (h _ s.heap.objs.size h₁ tk cells ⟨hN _ hLg, st, F.above⟩ ⟨x.toInCall.ns, fun b o e => hk₁ b o (of_hideAll _ e), Nat.le_of_eq (hideAll_size _ _)⟩
    (fun p hp => ?_) Y B₂ (X₀.keeps st) (T.keeps st) (fun b hb => by
      rcases kts_memE hf hb with rfl | hb
      · exact ⟨oL, es, ep, hLg, hLd⟩
      · obtain ⟨o, es', n', ho', hd'⟩ := D b hb
        exact ⟨o, es', n', st b o ho', hd'⟩)) (fun fl s' hl => leaveE B F N XB TB D T0 hA hf hke hl) fun _ _ y => y
  rw [List.append_nil] at hp
  refine ⟨(NC p hp).1, (NC p hp).2.1, ?_⟩
  cases q : (hideAll s.heap (([] : List (Addr × Obj)).map (·.1))).get? p.1 with
  | none => rfl
  | some o => have := of_hideAll _ q; rw [(NC p hp).2.2] at this; cases this
end
end Mine
end
section
open PySem PySem.W PyProof.Rows PySem.Calls PySem.Spec
namespace Mine
theorem br_nobytes : typeLookup (.type "list_reverseiterator") "__bytes__" = pure none := by rw [typeLookup_type, builtinLookup_eq_fast]; kernel_rfl
theorem br_noindex : typeLookup (.type "list_reverseiterator") "__index__" = pure none := by rw [typeLookup_type, builtinLookup_eq_fast]; kernel_rfl
theorem br_nobuffer : typeLookup (.type "list_reverseiterator") "__buffer__" = pure none := by rw [typeLookup_type, builtinLookup_eq_fast]; kernel_rfl
theorem br_nolen : typeLookup (.type "list_reverseiterator") "__len__" = pure none := by rw [typeLookup_type, builtinLookup_eq_fast]; kernel_rfl
theorem br_hint : typeLookup (.type "list_reverseiterator") "__length_hint__" = pure (some (.builtin "list_reverseiterator.__length_hint__")) := by rw [typeLookup_type, builtinLookup_eq_fast]; kernel_rfl
theorem br_split : splitId "list_reverseiterator.__length_hint__" = some ("list_reverseiterator", "__length_hint__") := by decide +kernel
theorem br_sub : isSubtype (.type "list_reverseiterator") (.type "list_reverseiterator") = pure true := by rw [isSubtype_type]; kernel_rfl
section
variable {prog : Program} {w : World} {A : Around} {E : Value → Shared → Prop} {s : Shared}
theorem br_loop {R : Result → Shared → Prop} {l I S : Addr} {vs : List Value} {ns : List Int} (hh : A.handled = none) (hi : IntsAre vs ns) (hr : ∀ n ∈ ns, 0 ≤ n ∧ n < 256) (hz : ns.length ≤ sizeLine) (hIS : I ≠ S) (hlI : l ≠ I) (hlS : l ≠ S) :
    ∀ (k i : Nat) (s : Shared), ns.length - i = k → i ≤ ns.length → s.heap.IsList l vs.toArray → s.heap.IsRevIter I l ((ns.length : Int) - 1 - (i : Int)) → s.heap.get? S = some { cls := .type "bytearray", data := .bytearray (byteArr (ns.reverse.take i)) } →
      (∀ h' t k', (∀ b o, b ≠ I → b ≠ S → s.heap.get? b = some o → h'.get? b = some o) → R (.ok (.ret (.bytes (byteArr ns.reverse) t))) { s with heap := h', toks := k' }) →
      codeAny (model prog w) A (.builtin "bytes.__new__.loop" ⟨[.type "bytes", .ref I, .ref S], []⟩) R s := by
  have hlen : vs.length = ns.length := hi.length
  have hrl : ns.reverse.length = ns.length := List.length_reverse
  intro k
  induction k with
  | zero =>
    intro i s hk hle hl hit hS hR
    have hin : i = ns.length := by omega
    subst hin
    have e0 : (ns.length : Int) - 1 - (ns.length : Int) = -1 := by omega
    rw [e0] at hit
    refine codeAny_builtin F.bm_entry_loop ?_
    rw [Around.under_plainId F.bm_plain_loop _]
    show wpAny _ A.in1 (pyNext (.ref I) >>= _) _ _ s
    refine wpAny_bind (wpAny_pyNext_rev_end hh hit fun h' he => ?_)
    have hS' : h'.get? S = some { cls := .type "bytearray", data := .bytearray (byteArr (ns.reverse.take ns.length)) } := he S _ (Ne.symm hIS) hS
    refine wpAny_bind ?_
    unfold Builtin.Bytes.payload Builtin.Bytes.payload?
    refine wpAny_bind (wpAny_bind (wpAny_load hS' ?_))
    refine wpAny_pure (wpAny_pure ?_)
    rw [List.take_of_length_le (Nat.le_of_eq hrl)]
    refine wpAny_bind (wpAny_mkBytes ?_ (by rw [byteArr_size, hrl]; exact hz))
    show wpAny _ _ (if (Value.type "bytes" == Value.type "bytes") = true then _ else _) _ _ _
    refine bm_if_true (by decide) ?_
    first
      | exact wpAny_pure (hR h' _ _ fun b o hb _ e => he b o hb e)
      | exact wpAny_bind (wpAny_pure (wpAny_pure (hR h' _ _ fun b o hb _ e => he b o hb e)))
  | succ k ih =>
    intro i s hk hle hl hit hS hR
    have hlt : i < ns.length := by omega
    have e1 : (ns.length : Int) - 1 - (i : Int) = ((ns.length - 1 - i : Nat) : Int) := by omega
    rw [e1] at hit
    obtain ⟨x, hx⟩ : ∃ x, vs[ns.length - 1 - i]? = some x := ⟨vs[ns.length - 1 - i]'(by omega), List.getElem?_eq_getElem (by omega)⟩
    obtain ⟨n, t, rfl, hn'⟩ := IntsAre.at hi _ x hx
    have hn : ns.reverse[i]? = some n := by rw [List.getElem?_reverse (by omega)]; exact hn'
    obtain ⟨h0, h1⟩ := hr n (List.mem_of_getElem? hn')
    refine codeAny_builtin F.bm_entry_loop ?_
    rw [Around.under_plainId F.bm_plain_loop _]
    show wpAny _ A.in1 (pyNext (.ref I) >>= _) _ _ s
    refine wpAny_bind (wpAny_pyNext_rev_item (x := .int n t) hit hl (by simpa using hx) fun h' hit' hs => ?_)
    have hS' : h'.get? S = some { cls := .type "bytearray", data := .bytearray (byteArr (ns.reverse.take i)) } := (hs.2 S (Ne.symm hIS)).trans hS
    refine wpAny_bind (wpAny_holding (wpAny_of_eq (rfl : asIndex (.int n t) = pure n) ?_))
    refine wpAny_bind (wpAny_letGo ?_)
    refine bm_if_false (by simp only [Bool.or_eq_false_iff, decide_eq_false_iff_not]; omega) ?_
    refine wpAny_bind ?_
    show wpAny _ _ (updateBytearray S (·.push n.toNat.toUInt8)) _ _ _
    unfold updateBytearray
    refine wpAny_bind (wpAny_load hS' ?_)
    show wpAny _ _ (update S (Obj.mapBytearray (·.push n.toNat.toUInt8)) >>= fun _ => lookBehind S) _ _ _
    refine wpAny_bind (wpAny_update hS' ?_)
    have hS₂ : (h'.update S (Obj.mapBytearray (·.push n.toNat.toUInt8))).get? S = some { cls := .type "bytearray", data := .bytearray (byteArr (ns.reverse.take (i + 1))) } := by
      rw [byteArr_take hn]
      exact Heap.get?_update_self (Obj.mapBytearray (·.push n.toNat.toUInt8)) hS' rfl
    refine wpAny_lookBehind hS₂ ?_ ?_
    · show (if (byteArr (ns.reverse.take (i + 1))).size > sizeLine then some "bytearray:memory" else none) = none
      rw [if_neg]
      rw [byteArr_size, List.length_take]
      omega
    · have e2 : ((ns.length - 1 - i : Nat) : Int) - 1 = (ns.length : Int) - 1 - ((i + 1 : Nat) : Int) := by omega
      rw [e2] at hit'
      refine wpAny_pure ⟨plainId_quiet F.bm_plain_loop _, ih (i + 1) { s with heap := h'.update S (Obj.mapBytearray (·.push n.toNat.toUInt8)) } (by omega) hlt ?_ ?_ hS₂ fun h3 t' k' hk3 => ?_⟩
      · exact (hl.extBut hs.extBut hlI).extBut (Heap.SameBut.update ..).extBut hlS
      · exact hit'.at fun o e => (Heap.get?_update_other _ _ (Ne.symm hIS)).trans e
      · exact hR h3 t' k' fun b o hbI hbS e => hk3 b o hbI hbS ((Heap.get?_update_other _ _ (Ne.symm hbS)).trans (hs.extBut b o hbI e))
theorem br_new {I l : Addr} {vs : List Value} {ns : List Int} {Q : Value → Shared → Prop} (hh : A.handled = none) (hl : s.heap.IsList l vs.toArray) (hi : IntsAre vs ns) (hr : ∀ n ∈ ns, 0 ≤ n ∧ n < 256) (hz : ns.length ≤ sizeLine) (hlI : l ≠ I) (hit : s.heap.IsRevIter I l ((ns.length : Int) - 1))
    (hQ : ∀ h' t k, (∀ b o, b ≠ I → s.heap.get? b = some o → h'.get? b = some o) → Q (.bytes (byteArr ns.reverse) t) { s with heap := h', toks := k }) :
    codeAny (model prog w) A (.call (.builtin "bytes.__new__") ⟨[.type "bytes", .ref I], []⟩) (wants Q E) s := by
  refine codeAny_of_tree ?_
  show wpAny _ A.in1 (do checkBuiltinCall "bytes.__new__" ⟨[.type "bytes", .ref I], []⟩; again (.builtin "bytes.__new__" ⟨[.type "bytes", .ref I], []⟩)) _ _ s
  refine wpAny_bind (wpAny_of_eq (F.bm_newCall _) (wpAny_pure ⟨plainId_quiet F.bm_plain _, codeAny_builtin F.bm_entry ?_⟩))
  rw [Around.under_plainId F.bm_plain _]
  have hT : s.TypeIs (.ref I) "list_reverseiterator" := hit.typeIs
  obtain ⟨oi, hoi, hoc, hod⟩ := id hit
  unfold Builtin.«bytes.__new__»
  refine wpAny_bind (wpAny_of_eq (a := true) rfl ?_)
  refine bm_if_false rfl ?_
  refine wpAny_bind (wpAny_of_eq F.bm_sub ?_)
  refine bm_if_false rfl ?_
  refine wpAny_bind (wpAny_of_eq (F.bm_bind _) ?_)
  refine wpAny_bind (wpAny_of_eq (a := ()) rfl ?_)
  refine wpAny_bind (wpAny_of_eq (a := ()) rfl ?_)
  refine bm_if_false rfl ?_
  refine wpAny_bind (wpAny_specialOf hT br_nobytes ?_)
  refine wpAny_bind (wpAny_bind ?_)
  show wpAny _ _ (load I >>= _) _ _ _
  refine wpAny_bind (wpAny_load hoi ?_)
  rw [hod]
  refine wpAny_pure (wpAny_pure ?_)
  refine bm_if_false rfl ?_
  refine wpAny_bind (wpAny_specialOf hT br_noindex ?_)
  refine bm_if_true rfl ?_
  first
    | show wpAny _ _ (Builtin.Bytes.buffer? "bytes.__new__" (.ref I) true >>= _) _ _ _
    | (refine wpAny_bind ?_; show wpAny _ _ (Builtin.Bytes.buffer? "bytes.__new__" (.ref I) true >>= _) _ _ _)
  refine wpAny_bind ?_
  unfold Builtin.Bytes.buffer?
  refine wpAny_bind (wpAny_specialOf hT br_nobuffer ?_)
  refine wpAny_bind (wpAny_specialOf hT br_nobuffer ?_)
  refine wpAny_pure ?_
  refine wpAny_bind (wpAny_tryCatch (wpAny_pyIter_revIter hit ?_))
  refine wpAny_bind (wpAny_holding ?_)
  unfold Builtin.Bytes.lengthHint
  refine wpAny_bind (wpAny_specialOf hT br_nolen ?_)
  dsimp only
  refine bm_if_false (by decide +kernel) ?_
  refine bm_if_false (by decide +kernel) ?_
  refine wpAny_bind (wpAny_specialOf hT br_hint ?_)
  dsimp only
  rw [br_split]
  dsimp only
  refine wpAny_bind (wpAny_isInstance hT br_sub ?_)
  refine bm_if_false rfl ?_
  refine bm_if_true (by decide +kernel) ?_
  refine bm_if_false (by decide +kernel) ?_
  refine wpAny_pure ?_
  refine wpAny_bind ?_
  unfold Builtin.Bytes.newBytearray
  refine wpAny_newObj_type ?_ (Nat.zero_le _)
  have hlI' : I < s.heap.objs.size := Heap.lt_size hoi
  obtain ⟨ol, hol, _⟩ := id hl
  have hll : l < s.heap.objs.size := Heap.lt_size hol
  have main := br_loop (prog := prog) (w := w) (A := A) (R := wants Q E) (l := l) (I := I) (S := s.heap.objs.size) hh hi hr hz (Nat.ne_of_lt hlI') hlI (Nat.ne_of_lt hll)
    ns.length 0 { s with heap := s.heap.push { cls := .type "bytearray", data := .bytearray #[] } } rfl (Nat.zero_le _) (hl.push _) (by
      have e : (ns.length : Int) - 1 - ((0 : Nat) : Int) = (ns.length : Int) - 1 := by omega
      rw [e]; exact hit.at fun o e => Heap.get?_push_of_some _ e) (Heap.get?_push_size _ rfl)
    fun h' t k hk => hQ h' t k fun b o hb e => hk b o hb (Nat.ne_of_lt (Heap.lt_size e)) (Heap.get?_push_of_some _ e)
  first
    | exact wpAny_pure ⟨plainId_quiet F.bm_plain_loop _, main⟩
    | exact wpAny_pure (wpAny_pure ⟨plainId_quiet F.bm_plain_loop _, main⟩)
theorem br_call {I l : Addr} {vs : List Value} {ns : List Int} {Q : Value → Shared → Prop} (hl : s.heap.IsList l vs.toArray) (hi : IntsAre vs ns) (hr : ∀ n ∈ ns, 0 ≤ n ∧ n < 256) (hz : ns.length ≤ sizeLine) (hh : A.handled = none) (hlI : l ≠ I) (hit : s.heap.IsRevIter I l ((ns.length : Int) - 1))
    (hQ : ∀ h' t k, (∀ b o, b ≠ I → s.heap.get? b = some o → h'.get? b = some o) → Q (.bytes (byteArr ns.reverse) t) { s with heap := h', toks := k }) : wpAny (model prog w) A (call (.type "bytes") [.ref I]) Q E s := by
  refine callType_codes (Q₁ := fun obj s₁ => s₁.TypeIs obj "bytes" ∧ Q obj s₁) F.bm_called (F.bm_typeCall _) F.entry_object_init
    (br_new hh hl hi hr hz hlI hit fun h' t k hk => ⟨PySem.W.typeIs_bytes _ _ _, hQ h' t k hk⟩) fun obj s₁ h₁ => ?_
  exact ⟨h₁.1, F.args_object_init_2 obj _, object_init_meets F.bm_called.init.lookup F.bm_called.made (by decide) prog w A.in1 _ s₁ ⟨h₁.1, rfl, h₁.2⟩⟩
end
end Mine
end
section
open PySem PySem.W PyProof.Rows PySem.Calls PySem.Spec
namespace Mine
/-- the list that serialize_varint fills, from its lowest group on -/
def svL (num : Int) (acc : List Int) : List Int := if num > 127 then svL (num / 128 - 1) (acc ++ [(num / 128 - 1) % 128 + 128]) else acc
termination_by num.toNat
decreasing_by omega
theorem svL_more {num : Int} {acc : List Int} (h : 127 < num) : svL num acc = svL (num / 128 - 1) (acc ++ [(num / 128 - 1) % 128 + 128]) := by
  rw [svL, if_pos h]
theorem svL_done {num : Int} {acc : List Int} (h : ¬ 127 < num) : svL num acc = acc := by
  rw [svL, if_neg h]
theorem bOr128 {r : Int} (h0 : 0 ≤ r) (h1 : r < 128) : Builtin.bitOr r 128 = r + 128 := by
  obtain ⟨c, rfl⟩ := Int.eq_ofNat_of_zero_le h0
  have := bOr_nat c 128
  rw [show ((128 : Nat) : Int) = 128 from rfl] at this
  rw [this]
  have e : ∀ c : Nat, c < 128 → c ||| 128 = c + 128 := by decide +kernel
  rw [e c (by omega)]
  omega
theorem sv_item {z : Int} (h : 0 ≤ z) : Builtin.bitOr (Builtin.bitAnd z 127) 128 = z % 128 + 128 := by
  rw [PyProof.Rows.bitAnd_m7, bOr128 (by omega) (by omega)]
theorem sv_map {m₀ : Str → Option Value} {v1 v2 : Option Value} : (fun y => if y = Str.ofString "number" then v1 else if y = Str.ofString "number" then v2 else m₀ y) = (fun y => if y = Str.ofString "number" then v1 else m₀ y) := by
  funext y
  by_cases h : y = Str.ofString "number"
  · simp only [if_pos h]
  · simp only [if_neg h]
theorem sv_bound {num : Int} {k : Nat} (h : 127 < num) (hk : num < 128 ^ k) : ∃ j, k = j + 1 ∧ num / 128 - 1 < 128 ^ j := by
  cases k with
  | zero => simp at hk; omega
  | succ j =>
    refine ⟨j, rfl, ?_⟩
    rw [Int.pow_succ] at hk
    have : num / 128 < 128 ^ j := Int.ediv_lt_of_lt_mul (by decide) hk
    omega
end Mine
end
section
open PySem PySem.W PyProof.Rows PySem.Calls PySem.Spec
namespace Mine
theorem br_K {prog : Program} {w : World} {A : Around} {E Q : Value → Shared → Prop} {s : Shared} {h₀ : Heap} {L D l : Addr} {m : Str → Option Value} {rest : List (Addr × Obj)} {vs : List Value} {ns : List Int} {c : Nat} (F : Fr h₀ L s.heap m)
    (N : News h₀ L s.heap ((D, revObj l ((vs.length : Int) - 1)) :: rest)) (hm : (l, listOf vs.toArray c) ∈ rest) (hlt : AllLt D rest) (hh : A.handled = none) (hi : IntsAre vs ns) (hr : ∀ n ∈ ns, 0 ≤ n ∧ n < 256) (hz : ns.length ≤ sizeLine)
    (h : ∀ h' t k, Fr h₀ L h' m → News h₀ L h' rest → Q (.bytes (byteArr ns.reverse) t) { s with heap := h', toks := k }) : wpAny (model prog w) A (call (.type "bytes") [.ref D]) Q E s := by
  have hlt' := allLt_lt hlt
  have nD := N _ (.head _)
  have nl := N _ (.tail _ hm)
  refine br_call (l := l) (vs := vs) ⟨_, nl.1, rfl, c, rfl⟩ hi hr hz hh (Nat.ne_of_lt (hlt' _ hm)) ⟨_, nD.1, rfl, by rw [← hi.length]; rfl⟩ fun h' t k hk => h h' t k ?_ ?_
  · exact ⟨F.ns.at' fun o e => hk L o (fun q => nD.2.1 q.symm) e, fun b o e => hk b o (fun q => by rw [q, nD.2.2] at e; cases e) (F.keep b o e), F.above⟩
  · exact fun p hp => ⟨hk _ _ (Nat.ne_of_lt (hlt' p hp)) (N p (.tail _ hp)).1, (N p (.tail _ hp)).2⟩
end Mine
namespace Mine
theorem sv_fr {g h : Heap} {L : Addr} {m : Str → Option Value} {v : Value} (F : Fr g L h m) (hv : m (Str.ofString "number") = some v) : Fr g L h (fun y => if y = Str.ofString "number" then some v else m y) := by
  have e : (fun y => if y = Str.ofString "number" then some v else m y) = m := by
    funext y
    by_cases q : y = Str.ofString "number"
    · rw [if_pos q, q, hv]
    · rw [if_neg q]
  rw [e]; exact F
theorem lt_ne {D : Addr} {l : List (Addr × Obj)} (h : ∀ p ∈ l, p.1 < D) : ∀ p ∈ l, p.1 ≠ D := fun p hp => Nat.ne_of_lt (h p hp)
theorem sv_first {num : Int} : ∀ n ∈ [Builtin.bitAnd num 127], 0 ≤ n ∧ n < 256 := by
  intro n hn
  rw [List.mem_singleton.mp hn, PyProof.Rows.bitAnd_m7]
  omega
end Mine
end
section
open PySem PySem.W PyProof.Rows PySem.Calls PySem.Spec
namespace Mine
/-! the plain laws: what parse_varint reads, what the law reckons, what serialize_varint writes -/
theorem rkP_cons (c : Int) (r : List Int) (j : Nat) (f : Int) : rkP (c :: r) j f = if c < 128 then some (f * 128 + c % 128, j + 1) else rkP r (j + 1) (f * 128 + c % 128 + 1) := rfl
theorem rkP_ge : ∀ (l : List Int) (j : Nat) (f v : Int) (p : Nat), 0 ≤ f → rkP l j f = some (v, p) → f * 128 ≤ v
  | [], _, _, _, _, _, h => nomatch h
  | c :: r, j, f, v, p, hf, h => by
    rw [rkP_cons] at h
    split at h
    · have := (Prod.mk.inj (Option.some.inj h)).1
      omega
    · have := rkP_ge r (j + 1) (f * 128 + c % 128 + 1) v p (by omega) h
      omega
theorem rkP_ge' (c : Int) (r : List Int) (j : Nat) (f v : Int) (p : Nat) (hf : 0 ≤ f) (h : rkP (c :: r) j f = some (v, p)) : f * 128 + c % 128 ≤ v := by
  rw [rkP_cons] at h
  split at h
  · have := (Prod.mk.inj (Option.some.inj h)).1
    omega
  · have := rkP_ge r (j + 1) (f * 128 + c % 128 + 1) v p (by omega) h
    omega
/-- parse_varint is the reckoning with what is above the bound refused -/
theorem pv_none_of_big {mx : Int} {o : Option (Int × Nat)} (h : ∀ v p, o = some (v, p) → mx < v) : o.filter (fun r => decide (r.1 ≤ mx)) = none := by
  cases o with
  | none => rfl
  | some r =>
    have := h r.1 r.2 rfl
    rw [Option.filter_some, if_neg (by simpa using this)]
theorem pvP_eq (mx : Int) : ∀ (l : List Int) (j : Nat) (f : Int), 0 ≤ f → pvP mx l j f = (rkP l j f).filter (fun r => decide (r.1 ≤ mx))
  | [], _, _, _ => rfl
  | c :: r, j, f, hf => by
    rw [pvP_cons]
    split
    · rename_i h
      refine (pv_none_of_big fun v p e => ?_).symm
      have := rkP_ge' c r j f v p hf e
      omega
    · split
      · refine (pv_none_of_big fun v p e => ?_).symm
        have := rkP_ge' c r j f v p hf e
        omega
      · rename_i h1 h2
        rw [rkP_cons]
        split
        · rw [Option.filter_some, if_pos (by simpa using h2)]
        · split
          · refine (pv_none_of_big fun v p e => ?_).symm
            have := rkP_ge r _ _ v p (by omega) e
            omega
          · exact pvP_eq mx r _ _ (by omega)
/-- the state behind marked groups, the last one first -/
def stR : List Int → Int
  | [] => 0
  | g :: r => stR r * 128 + g % 128 + 1
theorem stR_nn : ∀ l, 0 ≤ stR l
  | [] => Int.le_refl 0
  | g :: r => by have := stR_nn r; unfold stR; omega
theorem svL_st : ∀ (rs : List Int) (x : Int) (acc : List Int), 0 ≤ x → x < 128 → (∀ g ∈ rs, 128 ≤ g ∧ g < 256) → svL (stR rs * 128 + x) acc = acc ++ rs
  | [], x, acc, h0, h1, _ => by
    unfold stR
    rw [svL_done (by omega)]
    simp
  | g :: r, x, acc, h0, h1, h => by
    have hn := stR_nn r
    have hg := h g (List.mem_cons_self ..)
    have e : stR (g :: r) = stR r * 128 + g % 128 + 1 := rfl
    rw [e, svL_more (by omega)]
    have e1 : ((stR r * 128 + g % 128 + 1) * 128 + x) / 128 - 1 = stR r * 128 + g % 128 := by omega
    have e2 : (stR r * 128 + g % 128) % 128 + 128 = g := by omega
    rw [e1, e2, svL_st r (g % 128) _ (by omega) (by omega) (fun g' hg' => h g' (List.mem_cons_of_mem _ hg'))]
    simp
theorem rkP_rev : ∀ (rs l : List Int), (∀ g ∈ rs, 128 ≤ g) → rkP (rs.reverse ++ l) 0 0 = rkP l rs.length (stR rs)
  | [], l, _ => rfl
  | g :: r, l, h => by
    rw [List.reverse_cons, List.append_assoc, List.singleton_append, rkP_rev r (g :: l) (fun x hx => h x (List.mem_cons_of_mem _ hx)), rkP_cons,
      if_neg (by have := h g (List.mem_cons_self ..); omega)]
    rfl
theorem rkP_parts : ∀ (l : List Int) (j : Nat) (rs : List Int) (v : Int) (p : Nat), rkP l j (stR rs) = some (v, p) →
    ∃ ms c t, l = ms ++ c :: t ∧ (∀ g ∈ ms, 128 ≤ g) ∧ c < 128 ∧ p = j + ms.length + 1 ∧ v = stR (ms.reverse ++ rs) * 128 + c % 128
  | [], _, _, _, _, h => nomatch h
  | c :: r, j, rs, v, p, h => by
    rw [rkP_cons] at h
    split at h
    · rename_i hc
      obtain ⟨h1, h2⟩ := Prod.mk.inj (Option.some.inj h)
      exact ⟨[], c, r, rfl, (fun _ q => nomatch q), hc, h2.symm, h1.symm⟩
    · rename_i hc
      obtain ⟨ms, c', t, e, hm, hc', hp, hv⟩ := rkP_parts r (j + 1) (c :: rs) v p h
      refine ⟨c :: ms, c', t, by rw [e]; rfl, fun g hg => ?_, hc', by rw [List.length_cons]; omega, ?_⟩
      · rcases List.mem_cons.mp hg with rfl | hg
        · omega
        · exact hm g hg
      · rw [hv]
        congr 3
        simp
/-- what was read, written again -/
theorem sv_of_rk {l : List Int} {v : Int} {p : Nat} (hl : ∀ c ∈ l, 0 ≤ c ∧ c < 256) (h : rkP l 0 0 = some (v, p)) : (svL v [v % 128]).reverse = l.take p ∧ 0 < p ∧ p ≤ l.length ∧ 0 ≤ v := by
  obtain ⟨ms, c, t, e, hm, hc, hp, hv⟩ := rkP_parts l 0 [] v p h
  rw [List.append_nil] at hv
  have hcr := hl c (by rw [e]; simp)
  have hmr : ∀ g ∈ ms.reverse, 128 ≤ g ∧ g < 256 := fun g hg => by
    have hg' := List.mem_reverse.mp hg
    exact ⟨hm g hg', (hl g (by rw [e]; exact List.mem_append_left _ hg')).2⟩
  have hn := stR_nn ms.reverse
  have e1 : v % 128 = c := by omega
  have e2 : v = stR ms.reverse * 128 + c := by omega
  have e3 : p = ms.length + 1 := by omega
  refine ⟨?_, by omega, by rw [e, List.length_append, List.length_cons]; omega, by omega⟩
  rw [e1, e2, svL_st _ c [c] hcr.1 hc hmr, e, e3]
  simp only [List.reverse_append, List.reverse_reverse, List.reverse_cons, List.reverse_nil, List.nil_append]
  rw [show ms ++ c :: t = (ms ++ [c]) ++ t by simp, List.take_left' (by simp)]
theorem st_form : ∀ (n : Nat) (v : Int), v.toNat ≤ n → 0 ≤ v → ∃ rs x, v = stR rs * 128 + x ∧ 0 ≤ x ∧ x < 128 ∧ (∀ g ∈ rs, 128 ≤ g ∧ g < 256)
  | 0, v, h, h0 => ⟨[], v, by unfold stR; omega, h0, by omega, fun _ q => nomatch q⟩
  | n + 1, v, h, h0 => by
    by_cases hv : v < 128
    · exact ⟨[], v, by unfold stR; omega, h0, hv, fun _ q => nomatch q⟩
    · obtain ⟨rs, x, e, hx0, hx1, hr⟩ := st_form n (v / 128 - 1) (by omega) (by omega)
      refine ⟨(x + 128) :: rs, v % 128, ?_, by omega, by omega, fun g hg => ?_⟩
      · have : stR ((x + 128) :: rs) = stR rs * 128 + (x + 128) % 128 + 1 := rfl
        rw [this]
        omega
      · rcases List.mem_cons.mp hg with rfl | hg
        · omega
        · exact hr g hg
/-- what was written, read again -/
theorem rk_of_sv {v : Int} (h0 : 0 ≤ v) : rkP (svL v [v % 128]).reverse 0 0 = some (v, (svL v [v % 128]).reverse.length) := by
  obtain ⟨rs, x, e, hx0, hx1, hr⟩ := st_form v.toNat v (Nat.le_refl _) h0
  have hn := stR_nn rs
  have e1 : v % 128 = x := by omega
  rw [e1, e, svL_st rs x [x] hx0 hx1 hr]
  have e2 : ([x] ++ rs).reverse = rs.reverse ++ [x] := by simp
  rw [e2, rkP_rev rs [x] (fun g hg => (hr g hg).1), rkP_cons, if_pos hx1, List.length_append, List.length_reverse]
  have : x % 128 = x := by omega
  rw [this]
  rfl
theorem svL_length : ∀ (n : Nat) (v : Int) (acc : List Int), 0 ≤ v → v < 128 ^ n → (svL v acc).length ≤ acc.length + n
  | 0, v, acc, h0, h => by
    rw [svL_done (by simp at h; omega)]
    exact Nat.le_refl _
  | n + 1, v, acc, h0, h => by
    by_cases hv : 127 < v
    · obtain ⟨j, hj, hb⟩ := sv_bound hv h
      obtain rfl : n = j := by omega
      rw [svL_more hv]
      have := svL_length n (v / 128 - 1) (acc ++ [(v / 128 - 1) % 128 + 128]) (by omega) hb
      rw [List.length_append] at this
      simp only [List.length_cons, List.length_nil] at this
      omega
    · rw [svL_done hv]
      omega
/-- a number that is read whole is read so whatever stands behind it, and when it is cut behind it -/
theorem rkP_app : ∀ (l r : List Int) (j : Nat) (f v : Int) (p : Nat), rkP l j f = some (v, p) → rkP (l ++ r) j f = some (v, p)
  | [], _, _, _, _, _, h => nomatch h
  | c :: l, r, j, f, v, p, h => by
    rw [List.cons_append, rkP_cons]
    rw [rkP_cons] at h
    split at h
    · rename_i hc
      rw [if_pos hc]
      exact h
    · rename_i hc
      rw [if_neg hc]
      exact rkP_app l r _ _ v p h
theorem rkP_take {l : List Int} {v : Int} {p : Nat} (h : rkP l 0 0 = some (v, p)) : rkP (l.take p) 0 0 = some (v, p) := by
  obtain ⟨ms, c, t, e, hm, hc, hp, hv⟩ := rkP_parts l 0 [] v p h
  rw [List.append_nil] at hv
  have e3 : p = ms.length + 1 := by omega
  rw [e, e3, show ms ++ c :: t = (ms ++ [c]) ++ t by simp, List.take_left' (by simp)]
  have := rkP_rev ms.reverse [c] (fun g hg => hm g (List.mem_reverse.mp hg))
  rw [List.reverse_reverse] at this
  rw [this, rkP_cons, if_pos hc, hv]
  simp
theorem pv_someR {l : List Int} {v : Int} {p n : Nat} (h : rkP l 0 0 = some (v, p)) (hb : v < 2 ^ n) : pvP (2 ^ n - 1) l 0 0 = some (v, p) := by
  rw [pvP_eq _ _ _ _ (Int.le_refl 0), h, Option.filter_some, if_pos (by simp; omega)]
theorem pv_bigR {l : List Int} {v : Int} {p n : Nat} (h : rkP l 0 0 = some (v, p)) (hb : ¬ v < 2 ^ n) : pvP (2 ^ n - 1) l 0 0 = none := by
  rw [pvP_eq _ _ _ _ (Int.le_refl 0), h, Option.filter_some, if_neg (by simp; omega)]
theorem pv_noR {l : List Int} {n : Nat} (h : rkP l 0 0 = none) : pvP (2 ^ n - 1) l 0 0 = none := by
  rw [pvP_eq _ _ _ _ (Int.le_refl 0), h]
  rfl
end Mine
end
section
open PySem PySem.W PyProof.Rows PySem.Calls
namespace Mine
section
variable {prog : Program} {w : World} {A : Around} {E Q : Value → Shared → Prop} {s : Shared} {x : Str} {b c : Array UInt8} {t u : Tok}
theorem eq_str_same (h : Q (.bool true) s) : wpAny (model prog w) A (compareOp .Eq (.str x t) (.str x u)) Q E s :=
  PyProof.Rows.eq_str (by rw [show (x == x) = true by simp]; exact h)
theorem ne_str_same (h : Q (.bool false) s) : wpAny (model prog w) A (compareOp .NotEq (.str x t) (.str x u)) Q E s :=
  PyProof.Rows.ne_str (by rw [show (x != x) = false by simp]; exact h)
theorem eq_by_same (e : b = c) (h : Q (.bool true) s) : wpAny (model prog w) A (compareOp .Eq (.bytes b t) (.bytes c u)) Q E s :=
  eq_bytes (by subst e; rw [show (b.toList == b.toList) = true by simp]; exact h)
theorem ne_by_same (e : b = c) (h : Q (.bool false) s) : wpAny (model prog w) A (compareOp .NotEq (.bytes b t) (.bytes c u)) Q E s :=
  ne_bytes (by subst e; rw [show (b.toList != b.toList) = false by simp]; exact h)
theorem app_same {p p' b q q' : Array UInt8} (h1 : p = p') (h2 : q = q') : p ++ b ++ q = p' ++ b ++ q' := by rw [h1, h2]
end
theorem drop1 {g h : Heap} {L : Addr} {p : Addr × Obj} {l : List (Addr × Obj)} (N : News g L h (p :: l)) : News g L h l := fun q hq => N q (.tail _ hq)
theorem drop2 {g h : Heap} {L : Addr} {p q : Addr × Obj} {l : List (Addr × Obj)} (N : News g L h (p :: q :: l)) : News g L h l := drop1 (drop1 N)
theorem drop3 {g h : Heap} {L : Addr} {p q r : Addr × Obj} {l : List (Addr × Obj)} (N : News g L h (p :: q :: r :: l)) : News g L h l := drop1 (drop2 N)
theorem drop4 {g h : Heap} {L : Addr} {p q r t : Addr × Obj} {l : List (Addr × Obj)} (N : News g L h (p :: q :: r :: t :: l)) : News g L h l := drop1 (drop3 N)
theorem drop5 {g h : Heap} {L : Addr} {p q r t u : Addr × Obj} {l : List (Addr × Obj)} (N : News g L h (p :: q :: r :: t :: u :: l)) : News g L h l := drop1 (drop4 N)
theorem drop6 {g h : Heap} {L : Addr} {p q r t u v : Addr × Obj} {l : List (Addr × Obj)} (N : News g L h (p :: q :: r :: t :: u :: v :: l)) : News g L h l := drop1 (drop5 N)
end Mine
end
section
open PySem PySem.W PyProof.Rows PySem.Calls PySem.Spec
namespace Mine
/-! a for over clean stacks, turn by turn: nothing that a turn raises may leave it -/
def NoE : Value → Shared → Prop := fun _ _ => False
def UpTo (P : Value → Shared → Prop) (v : Value) (s : Shared) : Prop := P v s
/-- where a loop goes on behind a turn -/
def Turned (C : Shared → Prop) (R : Flow → Shared → Prop) (f : Flow) (s : Shared) : Prop := match f with
  | .next | .cont => C s
  | .brk => R .next s
  | .ret v => R (.ret v) s
section
variable {prog : Program} {w : World} {A : Around} {s : Shared} {env : Env}
abbrev LoopS (prog : Program) (w : World) (A : Around) (env : Env) (x : Str) (px : Pos) (body : List Stmt) (it : Value) (R : Flow → Shared → Prop) (s : Shared) : Prop :=
  codeS (model prog w) A (.forLoop (.Name x px) it body [] env) (fun r s' => match r with | .ok f => R f s' | .error _ => False) s
theorem S_For {x : Str} {px pos : Pos} {iter : Expr} {body : List Stmt} {Q : Flow → Shared → Prop} {E : Value → Shared → Prop}
    (h : wpAny (model prog w) A (eval iter env) (UpTo fun xv s₁ => wpAny (model prog w) A (pyIter xv) (UpTo fun it s₂ => LoopS prog w A env x px body it Q s₂) E s₁) E s)
    (hs : ∀ x, foldedSetIterable iter env x = pure x := by intro _; rfl) :
    wpS (model prog w) A (exec (.For (.Name x px) iter body [] pos) env) Q E s := by
  rw [exec_For]
  refine S_bind (S_standAt (S_bindA (wpAny_mono h (fun xv s₁ h₁ => ?_) fun _ _ x => x)))
  refine S_bindA (wpAny_of_eq (hs xv) (S_bind (S_standAt (S_bindA (wpAny_holding (wpAny_mono h₁ (fun it s₂ h₂ => ?_) fun _ _ x => x))))))
  unfold runOwn
  refine S_onRaise (S_run ?_ (by intro q; cases q))
  refine codeS_mono h₂ (fun r s' h' => ?_)
  cases r with
  | ok f => exact h'
  | error e => exact h'.elim
theorem S_forStep {x : Str} {px : Pos} {it : Value} {body : List Stmt} {R : Flow → Shared → Prop}
    (h : wpAny (model prog w) A (pyNext it) (fun r s₁ => match r with
      | none => R .next s₁
      | some v => wpAny (model prog w) A (storeName env x v) (fun _ s₂ => wpS (model prog w) A (execs body env) (Turned (LoopS prog w A env x px body it R) R) NoE s₂) NoE s₁) NoE s) :
    LoopS prog w A env x px body it R s := by
  refine codeS_of_tree rfl ?_
  show wpS _ _ ((forTurn (.Name x px) it body [] env).onRaise _) _ _ s
  refine S_onRaise (S_mono (Q := fun fin s' => match fin with | .done f => R f s' | .again c' => c'.quiet = true ∧ codeS (model prog w) A c' (fun r s' => match r with | .ok f => R f s' | .error _ => False) s') (E := NoE) ?_ (fun fin _ x => by cases fin <;> exact x) (fun _ _ x => x.elim))
  simp only [forTurn]
  refine S_bind (S_standAt (S_bindA (wpAny_onRaise (wpAny_mono h (fun r s₁ h₁ => ?_) fun _ _ x => x.elim))))
  cases r with
  | none =>
    refine S_pure ⟨rfl, codeS_of_tree rfl ?_⟩
    show wpS _ _ (do return Fin.done (← (execs [] env).onRaise (fun x => do noteFrame x env; theTreesLotGoes x))) _ _ s₁
    exact S_bind (S_onRaise (S_nil (S_pure h₁)))
  | some v =>
    refine S_bindA (wpAny_of_eq (a := ()) rfl ?_)
    refine S_bindA (wpAny_assign_Name (wpAny_mono h₁ (fun _ s₂ h₂ => S_bind (S_mono h₂ (fun f s₃ h₃ => ?_) fun _ _ x => x)) fun _ _ x => x))
    cases f with
    | next => exact S_pure ⟨rfl, h₃⟩
    | cont => exact S_pure ⟨rfl, h₃⟩
    | brk => exact S_pure h₃
    | ret v => exact S_pure h₃
/-! over a list that the call has made -/
structure LIt (oI : Obj) (l : Addr) (i : Nat) : Prop where
  cls : oI.cls = .type "list_iterator"
  dat : oI.data = .fields #[.ref l, .int i 0]
theorem LIt.iter {g h : Heap} {L I l : Addr} {oI : Obj} {i : Nat} {news : List (Addr × Obj)} (N : News g L h ((I, oI) :: news)) (H : LIt oI l i) : h.IsListIter I l i := ⟨oI, (N _ (.head _)).1, H.cls, H.dat⟩
theorem iterL {g : Heap} {L l : Addr} {m : Str → Option Value} {vs : List Value} {c : Nat} {news : List (Addr × Obj)} {Q : Value → Shared → Prop} {E : Value → Shared → Prop} (F : Fr g L s.heap m) (N : News g L s.heap news) (hl : (l, listOf vs.toArray c) ∈ news)
    (h : ∀ I oI h', LIt oI l 0 → (∀ p ∈ news, p.1 < I) → Fr g L h' m → News g L h' ((I, oI) :: news) → Q (.ref I) { s with heap := h' }) : wpAny (model prog w) A (pyIter (.ref l)) Q E s := by
  refine wpAny_pyIter_list (items := vs.toArray) ⟨_, (N _ hl).1, rfl, c, rfl⟩ ?_
  exact h _ { cls := .type "list_iterator", data := .fields #[.ref l, .int 0 0] } _ ⟨rfl, rfl⟩ (fun p hp => Heap.lt_size (N p hp).1) (F.push _) (N.push F _)
theorem S_turnL {g : Heap} {l I : Addr} {oI : Obj} {i c : Nat} {m : Str → Option Value} {vs : List Value} {news : List (Addr × Obj)} {v : Value} {x : Str} {px : Pos} {body : List Stmt} {R : Flow → Shared → Prop}
    (F : Fr g env.locals s.heap m) (N : News g env.locals s.heap ((I, oI) :: news)) (hlt : ∀ p ∈ news, p.1 < I) (H : LIt oI l i) (hl : (l, listOf vs.toArray c) ∈ news) (hx : vs[i]? = some v)
    (h : ∀ h' tk oI', LIt oI' l (i + 1) → Fr g env.locals h' (fun y => if y = x then some v else m y) → News g env.locals h' ((I, oI') :: news) →
      wpS (model prog w) A (execs body env) (Turned (LoopS prog w A env x px body (.ref I) R) R) NoE { s with heap := h', toks := tk })
    (hk : env.kindOf x = some .local := by rfl) (hp : (env.scope.kind == .class || (env.scope.kind == .module && env.locals != env.globals)) = false := by rfl) :
    LoopS prog w A env x px body (.ref I) R s := by
  refine S_forStep ?_
  refine wpAny_pyNext_list_item (items := vs.toArray) (H.iter N) ⟨_, (N _ (.tail _ hl)).1, rfl, c, rfl⟩ (by simpa using hx) fun h' hit hsb => ?_
  have N1 := N _ (.head _)
  obtain ⟨o', ho', hc', hd'⟩ := hit
  have hIL : I ≠ env.locals := N1.2.1
  have F1 : Fr g env.locals h' m := ⟨F.ns.at' fun o e => (hsb.2 _ hIL.symm).trans e, fun b o e => (hsb.2 b (fun q => by rw [q, N1.2.2] at e; cases e)).trans (F.keep b o e), F.above⟩
  have NN : News g env.locals h' ((I, o') :: news) := fun p hp => by
    rcases List.mem_cons.mp hp with rfl | hp
    · exact ⟨ho', N1.2⟩
    · exact ⟨(hsb.2 _ (Nat.ne_of_lt (hlt p hp))).trans (N p (.tail _ hp)).1, (N p (.tail _ hp)).2⟩
  refine wpAny_storeName_local hk F1.ns (fun h₂ hn₂ hs₂ => ?_) hp
  exact h h₂ _ o' ⟨hc', hd'⟩ (F1.set hn₂ hs₂) (NN.set hs₂)
theorem S_doneL {g : Heap} {L l I : Addr} {oI : Obj} {i c : Nat} {m : Str → Option Value} {vs : List Value} {news : List (Addr × Obj)} {x : Str} {px : Pos} {body : List Stmt} {R : Flow → Shared → Prop}
    (F : Fr g L s.heap m) (N : News g L s.heap ((I, oI) :: news)) (hlt : ∀ p ∈ news, p.1 < I) (H : LIt oI l i) (hl : (l, listOf vs.toArray c) ∈ news) (hx : vs[i]? = none) (hh : A.handled = none)
    (h : ∀ h', Fr g L h' m → News g L h' news → R .next { s with heap := h' }) : LoopS prog w A env x px body (.ref I) R s := by
  refine S_forStep ?_
  refine wpAny_pyNext_list_end (items := vs.toArray) hh (H.iter N) ⟨_, (N _ (.tail _ hl)).1, rfl, c, rfl⟩ (by simpa using hx) fun h' hk => ?_
  have N1 := N _ (.head _)
  refine h h' ⟨F.ns.at' fun o e => hk _ o N1.2.1.symm e, fun b o e => hk b o (fun q => by rw [q, N1.2.2] at e; cases e) (F.keep b o e), F.above⟩ fun p hp => ?_
  exact ⟨hk _ _ (Nat.ne_of_lt (hlt p hp)) (N p (.tail _ hp)).1, (N p (.tail _ hp)).2⟩
/-! over a range -/
abbrev rgIt (a left : Int) : Obj := { cls := .type "range_iterator", dict := none, data := .fields #[rawInt a, rawInt left, rawInt 1], slots := #[] }
theorem iterR {g : Heap} {L r : Addr} {m : Str → Option Value} {a b : Int} {t₀ u₀ v₀ : Tok} {news : List (Addr × Obj)} {Q : Value → Shared → Prop} {E : Value → Shared → Prop} (F : Fr g L s.heap m) (N : News g L s.heap news) (hr : IsRange s.heap r a b 1 t₀ u₀ v₀)
    (hsmall : Builtin.Range.small a b 1 = true)
    (h : ∀ I h', (∀ p ∈ news, p.1 < I) → Fr g L h' m → News g L h' ((I, rgIt a (Builtin.Range.rangeSize a b 1)) :: news) → Q (.ref I) { s with heap := h' }) : wpAny (model prog w) A (pyIter (.ref r)) Q E s := by
  refine wpAny_pyIter_range hr hsmall ?_
  exact h _ _ (fun p hp => Heap.lt_size (N p hp).1) (F.push _) (N.push F _)
theorem S_turnR {g : Heap} {I : Addr} {a left : Int} {m : Str → Option Value} {news : List (Addr × Obj)} {x : Str} {px : Pos} {body : List Stmt} {R : Flow → Shared → Prop}
    (F : Fr g env.locals s.heap m) (N : News g env.locals s.heap ((I, rgIt a left) :: news)) (hlt : ∀ p ∈ news, p.1 < I) (hleft : 0 < left)
    (h : ∀ h' t tk, Fr g env.locals h' (fun y => if y = x then some (.int a t) else m y) → News g env.locals h' ((I, rgIt (a + 1) (left - 1)) :: news) →
      wpS (model prog w) A (execs body env) (Turned (LoopS prog w A env x px body (.ref I) R) R) NoE { s with heap := h', toks := tk })
    (hk : env.kindOf x = some .local := by rfl) (hp : (env.scope.kind == .class || (env.scope.kind == .module && env.locals != env.globals)) = false := by rfl) :
    LoopS prog w A env x px body (.ref I) R s := by
  refine S_forStep ?_
  have N1 := N _ (.head _)
  refine wpAny_pyNext_range_item N1.1 hleft fun h' hit hsb => ?_
  have hIL : I ≠ env.locals := N1.2.1
  have F1 : Fr g env.locals h' m := ⟨F.ns.at' fun o e => (hsb.2 _ hIL.symm).trans e, fun b o e => (hsb.2 b (fun q => by rw [q, N1.2.2] at e; cases e)).trans (F.keep b o e), F.above⟩
  have NN : News g env.locals h' ((I, rgIt (a + 1) (left - 1)) :: news) := fun p hp => by
    rcases List.mem_cons.mp hp with rfl | hp
    · exact ⟨hit, N1.2⟩
    · exact ⟨(hsb.2 _ (Nat.ne_of_lt (hlt p hp))).trans (N p (.tail _ hp)).1, (N p (.tail _ hp)).2⟩
  refine wpAny_storeName_local hk F1.ns (fun h₂ hn₂ hs₂ => ?_) hp
  exact h h₂ _ _ (F1.set hn₂ hs₂) (NN.set hs₂)
theorem S_doneR {g : Heap} {L I : Addr} {a left : Int} {m : Str → Option Value} {news : List (Addr × Obj)} {x : Str} {px : Pos} {body : List Stmt} {R : Flow → Shared → Prop}
    (F : Fr g L s.heap m) (N : News g L s.heap ((I, rgIt a left) :: news)) (hlt : ∀ p ∈ news, p.1 < I) (hleft : left ≤ 0) (hh : A.handled = none)
    (h : ∀ h', Fr g L h' m → News g L h' news → R .next { s with heap := h' }) : LoopS prog w A env x px body (.ref I) R s := by
  refine S_forStep ?_
  have N1 := N _ (.head _)
  refine wpAny_pyNext_range_end hh N1.1 hleft fun h' hk => ?_
  refine h h' ⟨F.ns.at' fun o e => hk _ o N1.2.1.symm e, fun b o e => hk b o (fun q => by rw [q, N1.2.2] at e; cases e) (F.keep b o e), F.above⟩ fun p hp => ?_
  exact ⟨hk _ _ (Nat.ne_of_lt (hlt p hp)) (N p (.tail _ hp)).1, (N p (.tail _ hp)).2⟩
theorem S_rangeInv {a b : Int} {I : Addr} {news : List (Addr × Obj)} {x : Str} {px : Pos} {body : List Stmt} {R : Flow → Shared → Prop} (J : Heap → (Str → Option Value) → Prop) (hlt : ∀ p ∈ news, p.1 < I) (hh : A.handled = none)
    (turn : ∀ (i : Int) g m h tk t, a ≤ i → i < b → J g m → Fr g env.locals h (fun y => if y = x then some (.int i t) else m y) → (∀ left, 0 < left → News g env.locals h ((I, rgIt (i + 1) (left - 1)) :: news) →
      (∀ (C : Flow → Shared → Prop), (∀ g' m' h' tk', J g' m' → Fr g' env.locals h' m' → News g' env.locals h' ((I, rgIt (i + 1) (left - 1)) :: news) → C .next { s with heap := h', toks := tk' }) → wpS (model prog w) A (execs body env) C NoE { s with heap := h, toks := tk })))
    (hk : env.kindOf x = some .local := by rfl) (hp : (env.scope.kind == .class || (env.scope.kind == .module && env.locals != env.globals)) = false := by rfl) :
    ∀ (n : Nat) (i : Int) g m h tk, a ≤ i → i + n = b → J g m → Fr g env.locals h m → News g env.locals h ((I, rgIt i n) :: news) →
      (∀ g m h tk, J g m → Fr g env.locals h m → News g env.locals h news → R .next { s with heap := h, toks := tk }) → LoopS prog w A env x px body (.ref I) R { s with heap := h, toks := tk }
  | 0, i, g, m, h, tk, hi, _, hJ, F, N, done => S_doneR (s := { s with heap := h, toks := tk }) F N hlt (Int.le_refl _) hh fun h' F' N' => done g m h' tk hJ F' N'
  | n + 1, i, g, m, h, tk, hi, hb, hJ, F, N, done => by
    refine S_turnR (s := { s with heap := h, toks := tk }) F N hlt (by omega) (fun h' t tk' F' N' => ?_) hk hp
    refine turn i g m h' tk' t hi (by omega) hJ F' ((n + 1 : Nat) : Int) (by omega) N' _ fun g' m' h'' tk'' hJ' F'' N'' => ?_
    have e : (((n + 1 : Nat) : Int) - 1) = (n : Int) := by omega
    rw [e] at N''
    exact S_rangeInv J hlt hh turn hk hp n (i + 1) g' m' h'' tk'' (by omega) (by omega) hJ' F'' N'' done
end
end Mine
end
section
open PySem PySem.W PyProof.Rows PySem.Calls PySem.Spec
namespace Mine
/-- an item of a made list of ints at a place within it: only its bounds are kept -/
theorem menu_item {prog : Program} {w : World} {A : Around} {E : Value → Shared → Prop} {s : Shared} {value slice : PySem.Expr} {g : Heap} {L l : Addr} {vs : List Value} {ns : List Int} {c : Nat} {i : Int} {u : Tok} {lo hi : Int} {news : List (Addr × Obj)} {Q : Value → Shared → Prop}
    (N : News g L s.heap news) (hm : (l, listOf vs.toArray c) ∈ news) (hi' : IntsAre vs ns) (hr : ∀ k ∈ ns, lo ≤ k ∧ k ≤ hi) (h0 : 0 ≤ i) (h1 : i < (ns.length : Int)) (hz : ns.length ≤ 1000)
    (h : ∀ k t, lo ≤ k → k ≤ hi → Q (.int k t) s)
    (hs : subscripted slice false (.ref l) (.int i u) = operate [.ref l, .int i u] (getItem (.ref l) (.int i u)) := by with_unfolding_all rfl) :
    wpAny (model prog w) A (subscriptTail value slice (.ref l) (.int i u)) Q E s := by
  have hl : s.heap.IsList l vs.toArray := ⟨_, (N _ hm).1, rfl, c, rfl⟩
  have hlen := hi'.length
  have hn : i.toNat < ns.length := by omega
  have hx : ∃ t, vs[i.toNat]? = some (.int (ns[i.toNat]) t) := by
    have hv : i.toNat < vs.length := by omega
    obtain ⟨t, ht⟩ := hi'.get i.toNat (ns[i.toNat]) (by simp [hn])
    exact ⟨t, ht⟩
  obtain ⟨t, hx⟩ := hx
  have hb := hr _ (List.getElem_mem hn)
  exact tail_any hl.typeIs slot_list_getitem.lookup (wpAny_getItem_list hl h0 (by omega) (by simpa using hx) (h _ t hb.1 hb.2)) hs
theorem menu_value {prog : Program} {w : World} {A : Around} {E : Value → Shared → Prop} {s : Shared} {value slice : PySem.Expr} {g : Heap} {L l : Addr} {vs : List Value} {most x : Int} {c : Nat} {i : Int} {u : Tok} {news : List (Addr × Obj)} {Q : Value → Shared → Prop}
    (N : News g L s.heap news) (hm : (l, listOf vs.toArray c) ∈ news) (hi' : IntsAre vs [most, most + 1, most.fdiv 2, 0, most - x]) (hm1 : 1 ≤ most) (hx0 : 0 ≤ x) (hx1 : x < 3) (h0 : 0 ≤ i) (h1 : i < 5)
    (h : ∀ k t, -1 ≤ k → k ≤ most + 1 → Q (.int k t) s)
    (hs : subscripted slice false (.ref l) (.int i u) = operate [.ref l, .int i u] (getItem (.ref l) (.int i u)) := by with_unfolding_all rfl) :
    wpAny (model prog w) A (subscriptTail value slice (.ref l) (.int i u)) Q E s := by
  refine menu_item (lo := -1) (hi := most + 1) N hm hi' ?_ h0 (by simpa using h1) (by simp) h hs
  have e : most.fdiv 2 = most / 2 := Int.fdiv_eq_ediv_of_nonneg _ (by decide)
  intro k hk
  simp only [List.mem_cons, List.not_mem_nil, or_false] at hk
  rcases hk with rfl | rfl | rfl | rfl | rfl <;> omega
/-- bytes of a made list of ints: only their count is kept -/
theorem make_any {prog : Program} {w : World} {A : Around} {E : Value → Shared → Prop} {s : Shared} {g : Heap} {L D : Addr} {m : Str → Option Value} {news : List (Addr × Obj)} {vs : List Value} {ns : List Int} {Q : Value → Shared → Prop} (F : Fr g L s.heap m) (N : News g L s.heap news) (hh : A.handled = none)
    (hl : s.heap.IsList D vs.toArray) (hi : IntsAre vs ns) (hr : KBa.In ns) (hn : ns.length ≤ 1000)
    (h : ∀ (b : Array UInt8) h' t' k, b.size ≤ 1000 → Fr g L h' m → News g L h' news → Q (.bytes b t') { s with heap := h', toks := k }) : wpAny (model prog w) A (call (.type "bytes") [.ref D]) Q E s :=
  KBa.make_K F N hh hl hi hr (by omega) fun h' t' k F' N' _ => h _ h' t' k (by rw [byteArr_size]; exact hn) F' N'
end Mine
namespace Mine
/-- any item of a list of ints that stands below -/
theorem item_any {prog : Program} {w : World} {A : Around} {E : Value → Shared → Prop} {s : Shared} {value slice : PySem.Expr} {g : Heap} {L l : Addr} {m : Str → Option Value} {vs : List Value} {ns : List Int} {i : Int} {u : Tok} {Q : Value → Shared → Prop}
    (F : Fr g L s.heap m) (hl : g.IsList l vs.toArray) (hi' : IntsAre vs ns) (h0 : 0 ≤ i) (h1 : i < (ns.length : Int)) (hz : ns.length ≤ 1000)
    (h : ∀ k t, Q (.int k t) s)
    (hs : subscripted slice false (.ref l) (.int i u) = operate [.ref l, .int i u] (getItem (.ref l) (.int i u)) := by with_unfolding_all rfl) :
    wpAny (model prog w) A (subscriptTail value slice (.ref l) (.int i u)) Q E s := by
  have hls : s.heap.IsList l vs.toArray := let ⟨o, ho, r⟩ := hl; ⟨o, F.keep _ _ ho, r⟩
  have hn : i.toNat < ns.length := by omega
  obtain ⟨t, hx⟩ := hi'.get i.toNat (ns[i.toNat]) (by simp [hn])
  exact tail_any hls.typeIs slot_list_getitem.lookup (wpAny_getItem_list hls h0 (by omega) (by simpa using hx) (h _ t)) hs
theorem list_up {g h : Heap} {l : Addr} {vs : Array Value} (hl : g.IsList l vs) (k : ∀ b o, g.get? b = some o → h.get? b = some o) : h.IsList l vs := let ⟨o, ho, r⟩ := hl; ⟨o, k _ _ ho, r⟩
end Mine
end
section
open PySem PySem.W PyProof.Rows PySem.Calls
namespace Mine
section
variable {M : Model} {A : Around} {E : Value → Shared → Prop} {s : Shared} {env : Env}
theorem S_cmp1T {l r : Expr} {op : CmpOp} {pos : Pos} {t : Sem Value} {Q : Bool → Shared → Prop}
    (h : wpS M A (eval l env) (fun v s₁ => wpAny M A (eval r env) (fun b s₂ => wpAny M A (compareOp op v b) (fun c s₃ => wpAny M A (truthy c) Q E s₃) E s₂) E s₁) E s) (hb : behindInMarks op r = false := by rfl) :
    wpS M A (isTrue (.Compare l [op] [r] pos) env t) Q E s := by
  refine S_cmpT (S_mono h (fun v s₁ h₁ => ?_) fun _ _ x => x)
  show wpAny M A (testChain pos v [op] [markedBehindIn op r (eval r env)]) Q E s₁
  have e : markedBehindIn op r (eval r env) = eval r env := by unfold markedBehindIn; rw [hb]
  rw [e]
  exact test_last h₁
theorem S_iteB {α : Type} {b : Bool} {t₁ t₂ : Sem α} {Q : α → Shared → Prop} (h1 : b = true → wpS M A t₁ Q E s) (h2 : b = false → wpS M A t₂ Q E s) : wpS M A (if b = true then t₁ else t₂) Q E s := by
  cases b with
  | true => exact h1 rfl
  | false => exact h2 rfl
theorem S_cmp1 {l r : Expr} {op : CmpOp} {pos : Pos} {Q : Value → Shared → Prop}
    (h : wpS M A (eval l env) (fun v s₁ => wpAny M A (eval r env) (fun b s₂ => wpAny M A (compareOp op v b) Q E s₂) E s₁) E s) (hb : behindInMarks op r = false := by rfl) :
    wpS M A (eval (.Compare l [op] [r] pos) env) Q E s := by
  refine S_cmp (S_mono h (fun v s₁ h₁ => ?_) fun _ _ x => x)
  show wpAny M A (compareChain pos v [op] [markedBehindIn op r (eval r env)]) Q E s₁
  have e : markedBehindIn op r (eval r env) = eval r env := by unfold markedBehindIn; rw [hb]
  rw [e]
  show wpAny M A (holding [v] (eval r env) >>= fun rv => standAt pos >>= fun _ => operate [v, rv] (compareOp op v rv)) Q E s₁
  exact wpAny_bind (wpAny_holding (wpAny_mono h₁ (fun b s₂ h₂ => wpAny_bind (wpAny_standAt fun Γ p hΓ => by rw [Sem.wp_operate]; exact h₂ Γ p hΓ)) fun _ _ x => x))
end
end Mine
end
section
open PySem PySem.W PyProof.Rows PySem.Calls PySem.Spec
namespace Mine
theorem ints_inj {a b : Array UInt8} (h : KBw.bInts a = KBw.bInts b) : a = b := by
  apply Array.ext'
  unfold KBw.bInts at h
  refine (List.map_inj_right fun x y e => ?_).mp h
  exact UInt8.toNat_inj.mp (Int.ofNat.inj e)
section
variable {prog : Program} {w : World} {A : Around} {E : Value → Shared → Prop} {s : Shared} {value slice : PySem.Expr} {b : Array UInt8} {t : Tok} {g : Heap} {L : Addr} {m : PySem.Str → Option Value} {news : List (Addr × Obj)} {Q : Value → Shared → Prop} {j : Int} {tj : Tok}
theorem by_cutL (hF : Fr g L s.heap m) (hN : News g L s.heap news) (hz : b.size ≤ 16777216) (hj : 0 ≤ j)
    (h : ∀ c h' t' k, KBw.bInts c = (KBw.bInts b).take j.toNat → c.size ≤ b.size → Fr g L h' m → News g L h' news → Q (.bytes c t') { s with heap := h', toks := k })
    (hs : subscripted slice false (.bytes b t) (.ref s.heap.objs.size) = operate [.ref s.heap.objs.size, .bytes b t] (getItem (.bytes b t) (.ref s.heap.objs.size)) := by with_unfolding_all rfl)
    (ht : ∀ r, letTemporaryGo value (.bytes b t) r = pure () := by intro _; with_unfolding_all rfl) :
    wpAny (model prog w) A (subscriptTail value slice (.bytes b t) (.ref s.heap.objs.size)) Q E { s with heap := s.heap.push { cls := .type "slice", data := .fields #[.none, .int j tj, .none] } } := by
  refine KBc.slice_K (lo := none) (hi := some j) hF hN rfl (by constructor) (by constructor) (by rw [KBw.ints_length]; exact hz) (fun h' t' k F N e => h _ h' t' k ?_ (KBc.size_picked_le b _ _) F N) hs ht
  rw [e]
  simp only [Option.elim, List.drop_zero, Nat.sub_zero]
  rw [clip_nn hj]
  rcases Nat.le_total j.toNat (KBw.bInts b).length with q | q
  · rw [Nat.min_eq_left q]
  · rw [Nat.min_eq_right q, List.take_of_length_le (Nat.le_refl _), List.take_of_length_le q]
theorem by_cutR (hF : Fr g L s.heap m) (hN : News g L s.heap news) (hz : b.size ≤ 16777216) (hj : 0 ≤ j)
    (h : ∀ c h' t' k, KBw.bInts c = (KBw.bInts b).drop j.toNat → c.size ≤ b.size → Fr g L h' m → News g L h' news → Q (.bytes c t') { s with heap := h', toks := k })
    (hs : subscripted slice false (.bytes b t) (.ref s.heap.objs.size) = operate [.ref s.heap.objs.size, .bytes b t] (getItem (.bytes b t) (.ref s.heap.objs.size)) := by with_unfolding_all rfl)
    (ht : ∀ r, letTemporaryGo value (.bytes b t) r = pure () := by intro _; with_unfolding_all rfl) :
    wpAny (model prog w) A (subscriptTail value slice (.bytes b t) (.ref s.heap.objs.size)) Q E { s with heap := s.heap.push { cls := .type "slice", data := .fields #[.int j tj, .none, .none] } } := by
  refine KBc.slice_K (lo := some j) (hi := none) hF hN rfl (by constructor) (by constructor) (by rw [KBw.ints_length]; exact hz) (fun h' t' k F N e => h _ h' t' k ?_ (KBc.size_picked_le b _ _) F N) hs ht
  rw [e]
  simp only [Option.elim]
  rw [clip_nn hj]
  rcases Nat.le_total j.toNat (KBw.bInts b).length with q | q
  · rw [Nat.min_eq_left q, List.take_of_length_le (by rw [List.length_drop]; exact Nat.le_refl _)]
  · rw [Nat.min_eq_right q, List.drop_eq_nil_of_le (Nat.le_refl _), List.drop_eq_nil_of_le q]
    simp
end
theorem wrote_same {oct c : Array UInt8} {f : Int} {p : Nat} (hrk : rkP (KBw.bInts oct) 0 0 = some (f, p)) (hA : ∀ n ∈ svL f [Builtin.bitAnd f 127], 0 ≤ n ∧ n < 256) (hc : KBw.bInts c = (KBw.bInts oct).take ((p : Nat) : Int).toNat) :
    byteArr (svL f [Builtin.bitAnd f 127]).reverse = c := by
  refine ints_inj ?_
  rw [KBa.ints_make (fun n hn => hA n (List.mem_reverse.mp hn)), hc, Int.toNat_natCast, PyProof.Rows.bitAnd_m7]
  exact (sv_of_rk (fun k hk => KBw.ints_in hk) hrk).1
theorem rk_nn {oct : Array UInt8} {f : Int} {p : Nat} (hrk : rkP (KBw.bInts oct) 0 0 = some (f, p)) : 0 ≤ f := (sv_of_rk (fun k hk => KBw.ints_in hk) hrk).2.2.2
theorem told_facts {v : Int} {n : Nat} (h0 : 0 ≤ v) (h1 : v < 2 ^ n) (hn : n ≤ 64) (hA : ∀ k ∈ svL v [Builtin.bitAnd v 127], 0 ≤ k ∧ k < 256) :
    rkP (KBw.bInts (byteArr (svL v [Builtin.bitAnd v 127]).reverse)) 0 0 = some (v, (byteArr (svL v [Builtin.bitAnd v 127]).reverse).size) ∧ (byteArr (svL v [Builtin.bitAnd v 127]).reverse).size ≤ 20 := by
  rw [KBa.ints_make (fun k hk => hA k (List.mem_reverse.mp hk)), byteArr_size, PyProof.Rows.bitAnd_m7]
  refine ⟨rk_of_sv h0, ?_⟩
  rw [List.length_reverse]
  have hb : v < 128 ^ 10 := by
    have : (2 : Int) ^ n ≤ 2 ^ 64 := by
      have h := Int.ofNat_le.mpr (Nat.pow_le_pow_right (show 0 < 2 by decide) hn)
      simpa using h
    omega
  have := svL_length 10 v [v % 128] h0 hb
  simp only [List.length_cons, List.length_nil] at this
  omega
end Mine
namespace Mine
theorem long_pv {head body u : Array UInt8} {f : Int} (hrk : rkP (KBw.bInts head) 0 0 = some (f, head.size)) (hz : f < 2 ^ (32 : Int).toNat) :
    pvP (2 ^ (32 : Int).toNat - 1) ((KBw.bInts (head ++ body ++ u)).drop 0) 0 0 = some (f, head.size) := by
  rw [List.drop_zero, KBw.ints_app (KBw.ints_app rfl rfl) rfl, List.append_assoc]
  exact pv_someR (rkP_app _ _ _ _ _ _ hrk) hz
theorem ints_extract (b : Array UInt8) (i j : Nat) : KBw.bInts (b.extract i j) = ((KBw.bInts b).drop i).take (j - i) := by
  unfold KBw.bInts
  rw [Array.toList_extract, List.extract, List.map_take, List.map_drop]
theorem long_cut {wire u c c2 : Array UInt8} {p : Nat} {z n : Int} (hc : c = (wire ++ u).extract ((p : Nat) : Int).toNat (((p : Nat) : Int) + (z + 6 - 6)).toNat) (hc2 : KBw.bInts c2 = (KBw.bInts wire).drop n.toNat) (hn : n = ((p : Nat) : Int)) (hw : wire.size = p + z.toNat) (h0 : 0 ≤ z) : c = c2 := by
  subst hn
  refine ints_inj ?_
  rw [hc, ints_extract, hc2, KBw.ints_app rfl rfl]
  have hl : (KBw.bInts wire).length = p + z.toNat := by rw [KBw.ints_length, hw]
  have e1 : (((p : Nat) : Int) + (z + 6 - 6)).toNat - ((p : Nat) : Int).toNat = z.toNat := by omega
  rw [e1, Int.toNat_natCast, List.drop_append_of_le_length (by omega), List.take_append_of_le_length (by rw [List.length_drop]; omega), List.take_of_length_le (by rw [List.length_drop]; omega)]
theorem long_end {wire u c : Array UInt8} {i j : Nat} (hi : i = wire.size) (hj : j = wire.size + u.size) (hc : c = (wire ++ u).extract i j) : c = u := by
  subst hi hj
  refine ints_inj ?_
  rw [hc, ints_extract, KBw.ints_app rfl rfl]
  have hl : (KBw.bInts wire).length = wire.size := KBw.ints_length _
  have hu : (KBw.bInts u).length = u.size := KBw.ints_length _
  rw [← hl, List.drop_left, Nat.add_sub_cancel_left, ← hu, List.take_length]
theorem long_short {head body wire c : Array UInt8} {f j : Int} (hrk : rkP (KBw.bInts head) 0 0 = some (f, head.size)) (hz : f < 2 ^ (32 : Int).toNat) (hw : head ++ body = wire) (hc : KBw.bInts c = (KBw.bInts wire).take j.toNat) (hj : head.size ≤ j) :
    pvP (2 ^ (32 : Int).toNat - 1) ((KBw.bInts c).drop 0) 0 0 = some (f, head.size) := by
  have hl : (KBw.bInts head).length = head.size := KBw.ints_length _
  rw [List.drop_zero, hc, ← hw, KBw.ints_app rfl rfl, List.take_append, List.take_of_length_le (by omega)]
  exact pv_someR (rkP_app _ _ _ _ _ _ hrk) hz
theorem cut_size {c b : Array UInt8} {j : Int} (hc : KBw.bInts c = (KBw.bInts b).take j.toNat) (h0 : 0 ≤ j) (hj : j ≤ b.size) : (c.size : Int) = j := by
  have h := congrArg List.length hc
  rw [KBw.ints_length, List.length_take, KBw.ints_length] at h
  omega
end Mine
end
section
open PySem PySem.W PyProof.Rows PySem.Calls PySem.Spec
namespace Mine
section
variable {prog : Program} {w : World} {A : Around} {E Q : Value → Shared → Prop} {s : Shared} {a : Int} {t u : Tok}
theorem mul_abs (h0 : 0 ≤ a) (h1 : a ≤ 2000000) (h : ∀ r t k, 0 ≤ r → r < 18014398509481984 → Q (.int r t) { s with toks := k }) : wpAny (model prog w) A (binaryOp .Mult (.int a t) (.int 2654435761 u)) Q E s :=
  PyProof.Rows.mul_int (h _ _ _ (by omega) (by omega))
theorem div_abs {d : Int} (hd : 0 < d ∧ d < 1000) (h0 : 0 ≤ a) (h1 : a < 18014398509481984) (h : ∀ r t k, 0 ≤ r → r < 18014398509481984 → Q (.int r t) { s with toks := k }) : wpAny (model prog w) A (binaryOp .FloorDiv (.int a t) (.int d u)) Q E s := by
  refine floordiv_int (by omega) (h _ _ _ ?_ ?_)
  · rw [Int.fdiv_eq_ediv_of_nonneg _ (by omega)]; exact Int.ediv_nonneg h0 (by omega)
  · rw [Int.fdiv_eq_ediv_of_nonneg _ (by omega)]
    exact Int.lt_of_le_of_lt (Int.ediv_le_self _ h0) h1
end
end Mine
end
section
open PySem PySem.W PyProof.Rows PySem.Calls PySem.Spec
namespace Mine
theorem S_enter {M : Model} {A : Around} {s : Shared} {f : Value} {pos : List Value} {kw : List (Str × Value)} {c : ClaimW} {cl : Str → Option Addr} {mean : ExcName → Option Value} {args : List WData} {s₁ : Shared}
    (h : codeS M A (.call f ⟨pos, kw⟩) (GoodWG c cl mean args s₁) s) : wpS M A (PySem.call f pos kw) (fun v s' => GoodWG c cl mean args s₁ (.ok (.ret v)) s') (fun e s' => GoodWG c cl mean args s₁ (.error e) s') s :=
  S_call (codeS_mono h fun res s' g => by rcases g.1 with ⟨v, _, _, rfl, _⟩ | ⟨e, _, _, rfl, _⟩ <;> exact g)
theorem codeS_call_def {prog : Program} {w : World} {A : Around} {s : Shared} {R : Result → Shared → Prop} {a : Addr} {o : Obj} {fd : FuncData} {body : List Stmt} {args : Args} {binds : List (Str × Value)}
    (hroom : A.depth < recursionLimit) (ho : s.heap.get? a = some o) (hdata : o.data = .func fd) (hlim : s.heap.NoLimit) (hcd : s.heap.CodeRec fd.code fd.qualname)
    (hbody : fd.body = .stmts body) (hbind : BindsTo s fd args binds)
    (hcell : ∀ x ∈ fd.scope.names, x.2 ≠ .cell) (hloc : ∀ x ∈ binds, fd.scope.names.lookup x.1 = some .local)
    (h : ∀ h₀, h₀.Ns s.heap.objs.size (fun x => binds.reverse.lookup x) → (∀ b o, s.heap.get? b = some o → h₀.get? b = some o) →
      wpS (model prog w) (A.deeper (callEnv fd s.heap.objs.size a)) (execs body (callEnv fd s.heap.objs.size a)) (fun f s' => R (.ok (.ret (match f with | .ret v => v | _ => .none))) s')
        (fun e s' => wpAny (model prog w) (A.deeper (callEnv fd s.heap.objs.size a)) (leaving (callEnv fd s.heap.objs.size a) e) (fun _ s'' => R (.error e) s'') (fun e' s'' => R (.error e') s'') s')
        { s with heap := h₀, toks := s.toks + binds.length })
    (hco : fd.scope.isCoroutine = false := by rfl) (hgen : fd.scope.isGenerator = false := by rfl) (hk : fd.scope.kind = .function := by rfl) :
    codeS (model prog w) A (.call (.ref a) args) R s := by
  refine codeS_of_tree rfl (S_any ?_)
  show wpAny _ A.in1 (callAny (.ref a) args) _ _ s
  simp only [callAny]
  refine wpAny_bind (wpAny_load ho ?_)
  obtain ⟨c, oc, vs, tq, hc, hoc, hdc, hq⟩ := hcd
  simp only [hdata, callFunction, hco, hgen, hbody, hc]
  refine wpAny_bind (m := field (.ref c) 1) (wpAny_field hoc hdc hq (wpAny_bind (wpAny_pure ?_)))
  rw [← hc]
  refine wpAny_bind (hbind _ _ _ _ ?_)
  refine wpAny_bind (wpAny_newFunctionEnv hcell hloc (fun h₁ hns₀ hsb₀ => ?_) hk)
  have hk₁ : ∀ b o, s.heap.get? b = some o → h₁.get? b = some o := fun b o e => hsb₀.extBut b o (Nat.ne_of_lt (Heap.lt_size e)) (Heap.get?_push_of_some _ e)
  exact wpAny_bind (wpAny_enterFrame (hlim.fresh _ hsb₀) hroom (wpAny_pure (And.intro rfl (codeS_func (h h₁ hns₀ hk₁)))))
theorem codeS_full {prog : Program} {w : World} {A : Around} {R : Result → Shared → Prop} {s : Shared} {name : Str} {params : Arguments} {body : List Stmt} {scope : Scope}
    {dV kV pm cd doc : Value} {a : Addr} {o : Obj} {args : Args} {binds : List (Str × Value)}
    (hroom : A.depth < recursionLimit) (ho : s.heap.get? a = some o) (hdata : o.data = .func { docDef name params body scope pm cd doc with defaults := dV, kwdefaults := kV }) (hlim : s.heap.NoLimit) (hcd : s.heap.CodeRec cd name)
    (hbind : BindsTo s { docDef name params body scope pm cd doc with defaults := dV, kwdefaults := kV } args binds)
    (hloc : ∀ x ∈ binds, scope.names.lookup x.1 = some .local)
    (h : ∀ h₁, Fr s.heap s.heap.objs.size h₁ (fun x => binds.reverse.lookup x) →
      wpS (model prog w) (A.deeper (envOf name scope s.heap.objs.size a cd)) (execs body (envOf name scope s.heap.objs.size a cd))
        (fun f s' => R (.ok (.ret (match f with | .ret v => v | _ => .none))) s')
        (fun e s' => wpAny (model prog w) (A.deeper (envOf name scope s.heap.objs.size a cd)) (leaving (envOf name scope s.heap.objs.size a cd) e)
          (fun _ s'' => R (.error e) s'') (fun e' s'' => R (.error e') s'') s')
        { s with heap := h₁, toks := s.toks + binds.length })
    (hco : scope.isCoroutine = false := by rfl) (hgen : scope.isGenerator = false := by rfl) (hk : scope.kind = .function := by rfl)
    (hcell : ∀ x ∈ scope.names, x.2 ≠ .cell := by decide) :
    codeS (model prog w) A (.call (.ref a) args) R s :=
  codeS_call_def hroom ho hdata hlim hcd rfl hbind hcell hloc (fun h₁ hns hkeep => h h₁ ⟨hns, hkeep, Nat.le_refl _⟩) hco hgen hk
end Mine
end
section
open PySem PySem.W PyProof.Rows PySem.Calls
namespace Mine
local macro_rules | `(tactic| walk_at "std") => `(tactic| ((case hB => k_asm); (case hF => k_asm); (case hK => k_asm); (case hN => k_asm); (case hT => k_asm); (case hD => k_asm); (case hdp => k_room); (case hun => ((try simp only [units_in1, units_deeper, Around.mark_units]); omega))))
local macro_rules | `(tactic| walk_at "stdc") => `(tactic| (walk_at "std"; (case hKb => assumption); (case hTb => assumption); (case hT0 => first | assumption | exact KtsTurn.refl)))
local macro_rules | `(tactic| walk_at "exec Raise some none") => `(tactic| (k_here; (with_reducible show wpAny _ _ (exec (Stmt.Raise (some (Expr.Call (Expr.Name _ _) (_ :: _) [] _)) none _) _) _ _ _); k_dflt (first
  | (refine' Raise_ownU (bmB := bmV) (newId := "Exception.__new__") ?F ?g ?O PySem.F.excBase_Exception ?n PySem.F.excBase_ValueError ?h ?_ ?a ?b ?c ?d ?e; (case F => k_asm); (case g => exact TopRead.g (by k_asm)); (case O => exact own_of_in (by k_asm) (by k_asm) (by k_is) (by k_exc)); (case n => decide); (case h => first | rfl | assumption); (case a => rfl); (case b => rfl); (case c => rfl); (case d => rfl); (case e => decide); k_whole)
  | (refine' Raise_ownU (bmB := bmT) (newId := "Exception.__new__") ?F ?g ?O PySem.F.excBase_Exception ?n PySem.F.excBase_TypeError ?h ?_ ?a ?b ?c ?d ?e; (case F => k_asm); (case g => exact TopRead.g (by k_asm)); (case O => exact own_of_in (by k_asm) (by k_asm) (by k_is) (by k_exc)); (case n => decide); (case h => first | rfl | assumption); (case a => rfl); (case b => rfl); (case c => rfl); (case d => rfl); (case e => decide); k_whole))))
local macro_rules | `(tactic| walk_at "noteFrame ref") => `(tactic| (k_here; (rename RaisedK _ _ _ _ _ _ _ _ => rkX); (with_reducible show wpAny _ _ (noteFrame _ _) (fun _ s₂ => wpAny _ _ (setFlight _ none) (fun _ s₃ => wpAny _ _ (handleBy _ _ (ExceptHandler.ExceptHandler (some (Expr.Name _ _)) none _ _ :: _)) _ _ s₃) _ s₂) _ _); k_dflt (first
  | (refine' caught_O0 (bmB := bmV) (newId := "Exception.__new__") ?K ?F ?U ?R ?X ?T ?ex ?q ?hb ?_; (case K => assumption); (case F => assumption); (case U => assumption); (case R => exact rkX); (case X => k_asm); (case T => k_asm); (case ex => k_is); (case q => k_exc); (case hb => rfl); k_whole)
  | (refine' caught_O0 (bmB := bmT) (newId := "Exception.__new__") ?K ?F ?U ?R ?X ?T ?ex ?q ?hb ?_; (case K => assumption); (case F => assumption); (case U => assumption); (case R => exact rkX); (case X => k_asm); (case T => k_asm); (case ex => k_is); (case q => k_exc); (case hb => rfl); k_whole)); intro h' n₂ F' N₂ G' N'; (try k_sweep)))
local macro_rules | `(tactic| k_room) => `(tactic| ktr_room)
local macro_rules | `(tactic| walk_at "S_def") => `(tactic| k_dflt (refine' codeS_def ?k1 ?k2 ?k3 ?k4 ?k5 ?kA ?kF ?kK ?k6 ?k7 ?k8 ?k9 ?kB ?_ ?c5 ?c2 ?c3 ?c4; (case kA => exact rfl); (case kF => exact rfl); (case kK => exact rfl); (case k1 => k_asm); (case k2 => k_asm); (case k3 => k_asm); (case k4 => k_asm); (case k5 => k_asm); (case k6 => k_is); (case k7 => k_is); (case k8 => ktr_room); (case k9 => first | exact binds_K (by k_in) rfl (by k_is) rfl rfl rfl | exact BindsTo.of_eq rfl); (case c5 => decide); (case kB => exact locs rfl); (case c2 => exact rfl); (case c3 => exact rfl); (case c4 => exact rfl); k_whole; intro g' L' h' FG' F' N' B' X' T' l1'; (try k_lt l1'); (try dsimp only); (try k_lift B')))
local macro_rules | `(tactic| walk_at "S_defS") => `(tactic| k_dflt (refine' codeS_defS ?k1 ?k2 ?k3 ?k4 ?k5 ?XB ?TB ?D ?T0 ?kA ?k6 ?k7 ?k8 ?k9 ?kB ?_ ?c5 ?cK ?c2 ?c3 ?c4; (case kA => exact rfl); (case k2 => k_asm); (case k1 => k_asm); (case XB => assumption); (case TB => assumption); (case D => assumption); (case T0 => first | assumption | exact KtsTurn.refl); (case k3 => k_asm); (case k4 => k_asm); (case k5 => k_asm); (case k6 => k_is); (case k7 => k_is); (case k8 => ktr_room); (case k9 => first | exact binds_K (by k_in) rfl (by k_is) rfl rfl rfl | exact BindsTo.of_eq rfl); (case kB => exact locs rfl); (case cK => exact rfl); (case c2 => exact rfl); (case c3 => exact rfl); (case c4 => exact rfl); (case c5 => decide); k_whole; intro g' L' h' FG' F' N' B' X' T' D'; (try dsimp only); (try k_lift B')))
local macro_rules | `(tactic| walk_at "call type:type") => `(tactic| ((with_reducible show wpAny _ _ (call _ [Value.bytes _ _]) _ _ _); refine call_type_of (Tx := "bytes") (PySem.W.typeIs_bytes _ _ _) (by decide +kernel) ?_))
local macro_rules | `(tactic| k_all) => `(tactic| assumption)
local macro_rules | `(tactic| walk_at "call builtin:len") => `(tactic| (k_here; (with_reducible show wpAny _ _ (call (Value.builtin _) [Value.ref _]) _ _ _); (refine' ba_lenv ?k1 ?k2 ?_; (case k1 => exact News.get (by assumption) (by k_mem)); (case k2 => assumption); k_whole); intro _ _ _ _ _ _))
local macro_rules | `(tactic| walk_at "call type:bytes") => `(tactic| (k_here; (with_reducible show wpAny _ _ (call (Value.type _) [Value.ref _]) _ _ _); (refine' ba_toBytes ?k1 ?k2 ?_; (case k1 => exact News.get (by assumption) (by k_mem)); (case k2 => assumption); k_whole); intro _ _))
local macro_rules | `(tactic| walk_at "subscriptTail") => `(tactic| (k_here; (with_reducible show wpAny _ _ (subscriptTail _ (Expr.Slice _ _ none _) (Value.ref _) (Value.ref _)) _ _ _); (with_reducible rename Fr _ _ _ _ => F'); (with_reducible rename News _ _ _ _ => N'); (refine ba_slice (s := ⟨_, _, _, _, _⟩) F' N' (by k_mem) (by assumption) (by first | omega | l_fact) (by first | omega | l_fact) ?_); intro xs' hs' hsz' hle' F' N' l1'; (try k_lt l1')))
local macro_rules | `(tactic| walk_at "call builtin:len") => `(tactic| (k_here; (with_reducible show wpAny _ _ (call (Value.builtin _) [Value.bytes _ _]) _ _ _); (refine' by_lenv ?k2 ?_; (case k2 => first | assumption | with_unfolding_all exact Nat.zero_le _); k_whole); intro _ _ _ hn' _ _; (try (with_unfolding_all change _ = ((0 : Nat) : Int) at hn')); (try (rename ((Nat.cast (Array.size (Array.extract _ _ _)) : Int) = _) => hz'; rw [hz'] at hn'; clear hz'))))
local macro_rules | `(tactic| walk_at "joinParts") => `(tactic| (k_here; first
  | ((with_reducible show wpAny _ _ (joinParts _ (evalEach [] _)) _ _ _); refine joinParts_nilE ?_; refine' jp_nil ?b ?c ?_; (case b => first | exact len0 | assumption); (case c => decide); intro _ _)
  | ((with_reducible show wpAny _ _ (joinParts _ []) _ _ _); refine' jp_nil ?b ?c ?_; (case b => first | exact len0 | assumption); (case c => decide); intro _ _)
  | ((with_reducible show wpAny _ _ (joinParts _ (evalEach (_ :: _) _)) _ _ _); refine joinParts_consE ?_; refine' jp_cons ?b ?c ?_; (case b => first | exact len0 | assumption); (case c => decide))
  | ((with_reducible show wpAny _ _ (joinParts _ (_ :: _)) _ _ _); refine' jp_cons ?b ?c ?_; (case b => first | exact len0 | assumption); (case c => decide))))
local macro_rules | `(tactic| walk_at "And") => `(tactic| ((with_reducible show (Str.length _ ≤ 200) ∧ _); refine ⟨by first | assumption | (exact int_len _ (by omega) (by omega)) | decide +kernel | omega, ?_⟩; intro o' ho'))
section
local macro_rules | `(tactic| k_room) => `(tactic| (simp only [depth_under_make, depth_under_kw, depth_in1, depth_deeper]; omega))
theorem madeBy_own {M : Model} {A : Around} {E : Value → Shared → Prop} {h : Heap} {g : Array GenState} {d : Drawn} {t : Nat} {os : OsState} {C : Addr} {dd : Option Addr} {cd : ClassData} {c : Value} {tl : List Value} {k0 k1 k2 k3 k5 : Option Value} {Q : Option String → Shared → Prop}
    (hC : h.get? C = some ⟨.type "type", dd, .cls cd, #[k0, k1, k2, k3, some .none, k5]⟩) (hm : cd.mro = c :: tl) (hq : Q none ⟨h, g, d, t, os⟩) : wpAny M A (Bind.madeBy (.ref C)) Q E ⟨h, g, d, t, os⟩ := by
  unfold Bind.madeBy
  have e : wpAny M A (mroOf (.ref C)) (fun l s' => l = c :: tl ∧ s' = ⟨h, g, d, t, os⟩) E ⟨h, g, d, t, os⟩ := by
    unfold mroOf classData
    refine wpAny_bind (wpAny_bind (wpAny_load hC (wpAny_pure (wpAny_pure ⟨hm, rfl⟩))))
  refine wpAny_bind (wpAny_mono e (fun l s' x => ?_) fun _ _ x => x)
  obtain ⟨rfl, rfl⟩ := x
  repeat (first | refine wpAny_loadPart_at hC ?_ | wp_step)
  exact hq
theorem objNew : ∀ {w : World} {A : Around} {R : Result → Shared → Prop} {h : Heap} {g : Array GenState} {d : Drawn} {t : Nat} {os : OsState} (X : (hd.heap_39 w.params).In h)
    (hq : R (.ok (.ret (.ref (h.objs.size + 1)))) ⟨(h.push (dictOf [] 0)).push (instObj 394 h.objs.size), g, d, t, os⟩),
    codeAny (model PySem.Challenge.rw_fp5001_01.prog w) A (.call (.builtin "object.__new__") ⟨[.ref 394], []⟩) R ⟨h, g, d, t, os⟩ := by
  k_fill
  intro w A R h g d t os X hq
  have here : Looks (model PySem.Challenge.rw_fp5001_01.prog w) h (Bind.madeHere "object.__new__" (.ref 394)) () := Looks.of_peek X (by kernel_rfl)
  have top : Looks (model PySem.Challenge.rw_fp5001_01.prog w) h (isSubtype (.ref 394) (.type "object")) true := looks_subIn X (by k_is)
  have F := PySem.F.objNew
  have hC := X 394 _ (by k_is)
  have chk : Looks (model PySem.Challenge.rw_fp5001_01.prog w) h (checkBuiltinCall "object.__new__" ⟨[.ref 394], []⟩) () := Looks.of_peek X (by kernel_rfl)
  refine codeAny_call_builtin_code (Code.quiet_builtin _ F.quiet) (chk.at ?_)
  refine codeAny_builtin F.entry ?_
  have isT : Looks (model PySem.Challenge.rw_fp5001_01.prog w) h (isType (.ref 394)) true := Looks.of_peek X (by kernel_rfl)
  have cdt : Looks (model PySem.Challenge.rw_fp5001_01.prog w) h (classData 394) _ := (Looks.ld (part := none) hC).andThen .now
  unfold Builtin.«object.__new__»
  dsimp only
  refine wpAny_bind (isT.at ?_)
  simp only [Bool.not_true, Bool.false_eq_true, if_false]
  refine wpAny_bind (here.at ?_)
  simp only [List.isEmpty_nil, Bool.not_true, Bool.or_false, Bool.false_eq_true, if_false]
  refine wpAny_bind (cdt.at ?_)
  simp only [Bool.false_eq_true, if_false]
  show wpAny _ _ ((alloc (dictOf [] 0) >>= fun x => pure (some x)) >>= _) _ _ _
  refine wpAny_bind (wpAny_bind (wpAny_alloc (wpAny_pure (wpAny_bind ?_))))
  show wpAny _ _ (newObjAsIs _ _ _) _ _ _
  unfold newObjAsIs classHasDel
  refine wpAny_bind (wpAny_alloc (wpAny_bind (wpAny_bind (wpAny_load (Heap.get?_push_of_some _ (Heap.get?_push_of_some _ hC)) (wpAny_pure ?_)))))
  refine wpAny_pure (wpAny_pure ?_)
  show R _ _
  rw [Heap.size_push]
  exact hq
theorem objNewK {w : World} {A : Around} {E Q : Value → Shared → Prop} {s : Shared} {h₀ : Heap} {L : Addr} {m : Str → Option Value} {news : List (Addr × Obj)} (F : Fr h₀ L s.heap m) (X₀ : (hd.heap_39 w.params).In h₀) (N : News h₀ L s.heap news)
    (h : ∀ x dx h', Fr h₀ L h' m → News h₀ L h' ((x, instObj 394 dx) :: (dx, dictOf [] 0) :: news) → (∀ p ∈ news, p.1 < dx) → dx < x → Q (.ref x) { s with heap := h' }) :
    wpAny (model PySem.Challenge.rw_fp5001_01.prog w) A (call (.builtin "object.__new__") [.ref 394]) Q E s := by
  obtain ⟨hh, g, d, t, os⟩ := s
  refine wpAny_call (objNew (X₀.keeps F.keep) (h _ hh.objs.size _ ((F.push _).push _) ?_ (fun p hp => Heap.lt_size (N p hp).1) (Nat.lt_succ_self _)))
  have := (N.push F (dictOf [] 0)).push (F.push _) (instObj 394 hh.objs.size)
  rwa [Heap.size_push] at this
local macro_rules | `(tactic| walk_at "call builtin:object.__new__") => `(tactic| (k_here; k_dflt (refine' objNewK ?k1 ?k2 ?k3 ?_; (case k1 => k_asm); (case k2 => k_asm); (case k3 => k_asm); k_whole; intro x' d' h' F' N' l1 l2; (try k_lt l1); (try k_lt2 l2); (try k_sweep))))
theorem bio_new : ∀ (w : World) (mean : ExcName → Option Value) (mg mb : Str → Option Value) (b : Array UInt8) (t : Tok) (dp un : Nat) (gd : Option (List Code)) (outer : List Env) (news : List (Addr × Obj))
  (cn : Str) (nms : List (Str × NameKind)) (a : Addr) (ccd : Value) (base h₀ : Heap) (L : Addr) (m : Str → Option Value) (s : Shared) (Q E : Value → Shared → Prop)
  (hB : Below (A0 dp un gd outer) base outer h₀) (hF : Fr h₀ L s.heap m) (hK : (hd.heap_39 w.params).In h₀) (hN : News h₀ L s.heap news) (hT : Top hd.view_39 LL mean mg mb h₀)
  (hdp : dp + 10 < recursionLimit) (hun : un + 100 < cLine) (hz : b.size ≤ sizeLine)
  (hret : ∀ (x dx ba : Addr) (t1 t2 t3 : Tok) (h' : Heap) (tk' : Nat), @LT.lt Nat _ dx x → @LT.lt Nat _ x ba → (∀ p ∈ news, p.1 ≠ dx) → Fr h₀ L h' m → News h₀ L h' ((x, instObj 394 dx) :: (dx, bioD w.params ba 0 t1 t2 t3) :: (ba, { cls := .type "bytearray", data := .bytearray b }) :: news) →
    Q (.ref x) { s with heap := h', toks := tk' }),
  wpS (model PySem.Challenge.rw_fp5001_01.prog w) ((A0 dp un gd outer).deeper (fnv cn nms L a ccd)) (call (.ref 394) [.bytes b t]) Q E s := by
  k_fill
  intro w mean mg mb b t dp un gd outer news cn nms a ccd base h₀ L m s Q E hB hF hK hN hT hdp hun hz hret
  refine S_call (codeS_of_tree rfl ?_)
  show wpS _ _ (callAny (.ref 394) _) _ _ _
  have hX := hK.keeps hF.keep
  have hC := hX 394 _ (by k_is)
  have hcall : Looks (model PySem.Challenge.rw_fp5001_01.prog w) s.heap (specialOf (.ref 394) "__call__") (some (.builtin "type.__call__")) := looks_specialIn hX (by k_is)
  have htyp : Looks (model PySem.Challenge.rw_fp5001_01.prog w) s.heap (isInstance (.ref 394) (.type "type")) true := looks_instIn hX (by k_is)
  have hmro : Looks (model PySem.Challenge.rw_fp5001_01.prog w) s.heap (mroOf (.ref 394)) _ := ((Looks.ld (part := none) hC).andThen .now).andThen .now
  refine S_bindA (wpAny_load hC ?_)
  dsimp only
  show wpS _ _ (callAny.viaDunder (.ref 394) _) _ _ _
  unfold callAny.viaDunder
  refine S_bindA (hcall.here ?_)
  dsimp only
  rw [tc_bind]
  refine S_bind (S_pure (S_bind (S_pure ?_)))
  refine S_pure (a := Fin.again (.call (.builtin "type.__call__") ⟨[.ref 394, .bytes b t], []⟩)) (And.intro rfl ?_)
  refine codeS_of_tree rfl ?_
  show wpS _ _ (do checkBuiltinCall "type.__call__" ⟨[.ref 394, .bytes b t], []⟩; again (.builtin "type.__call__" ⟨[.ref 394, .bytes b t], []⟩)) _ _ _
  refine S_bindA (check_slot tc_kind tc_split htyp (tc_args _ _ _) ?_)
  refine S_pure ⟨Code.quiet_builtin _ (by decide +kernel), codeS_builtin (by decide +kernel) entry_typeCall ?_⟩
  unfold Builtin.«type.__call__»
  dsimp only
  rw [if_neg (by decide)]
  refine S_bindA (hmro.here ?_)
  simp only [List.isEmpty_cons, Bool.false_eq_true, if_false]
  obtain ⟨sh, sg, sd, stk, sos⟩ := s
  refine S_bindA (madeBy_own hC rfl ?_)
  dsimp only
  refine S_bindA ?_
  k_steps
  dsimp only
  refine S_bindA (wpAny_holding ?_)
  k_steps
  rename_i x d h₂ F₂ N₂ l1 l2 kF kN _ _
  have N₃ : News h₀ L h₂ ((x, instObj 394 d) :: (d, dictOf [] 0) :: news) := cb_drop kN (fun p hp => by
    rcases List.mem_cons.mp hp with rfl | hp
    · exact .head _
    rcases List.mem_cons.mp hp with rfl | hp
    · exact .tail _ (.head _)
    · exact .tail _ (.tail _ (.tail _ (.tail _ hp))))
  have F₃ : Fr h₀ L h₂ m := kF
  have l3 : AllLt d news := l1.2.2
  clear l1 kF kN F₂ N₂
  have X₃ := hK.keeps F₃.keep
  have t1 : Looks (model PySem.Challenge.rw_fp5001_01.prog w) h₂ (typeOf (.ref x)) (.ref 394) := (Looks.ld (N₃ _ (.head _)).1).andThen .now
  have i1 : Looks (model PySem.Challenge.rw_fp5001_01.prog w) h₂ (isInstance (.ref x) (.ref 394)) true := t1.andThen (looks_subIn X₃ (by k_is))
  have sp : Looks (model PySem.Challenge.rw_fp5001_01.prog w) h₂ (specialOf (.ref x) "__init__") (some (.ref 181)) := t1.andThen (looks_findIn X₃ (by k_is))
  refine S_bindA (i1.at ?_)
  simp only [Bool.not_true, Bool.false_eq_true, if_false]
  refine S_bind (S_holding ?_)
  unfold callSpecial?
  refine S_bindA (sp.at ?_)
  dsimp only
  refine S_holding (S_bindA ((bind_fn X₃ (.ref x) (by k_is)).at ?_))
  refine S_bind (S_call ?_)
  dsimp only [List.cons_append, List.nil_append]
  clear sp i1 t1 hcall htyp hmro hC
  walk_at "S_def"
  refine S_execsA ?_
  k_steps
  dsimp only
  refine S_execs (S_assignAttr (S_ifE ?_))
  k_steps
  refine S_callE ?_
  k_steps
  refine S_callWithT ?_
  k_steps
  refine ba_call hz fun h₄ k₄ e₄ => ?_
  have F₄ := Fr.keeps (by assumption) k₄
  have N₄ := news_pushed (by assumption) (by assumption) k₄ e₄ rfl
  have hne : ∀ p ∈ news, p.1 ≠ d := allLt_ne l3
  rename News _ _ _ ((x, instObj 394 d) :: _) => Nx
  have lx := Heap.lt_size (Nx _ (.head _)).1
  clear Nx
  generalize hba : Array.size (Heap.objs _) = ba at e₄ lx N₄ ⊢
  replace lx := ltN lx
  k_steps
  refine S_any ?_
  k_steps
  refine S_pure ?_
  dsimp only
  rw [if_neg (by decide)]
  refine S_pure ?_
  show Q (.ref x) _
  rename News _ _ _ ((ba, _) :: _) => NN
  have N₉ := NN
  rename Fr h₀ L _ m => F₉
  exact hret x d ba _ _ _ _ _ l2 lx hne F₉ (cb_drop N₉ (List.forall_mem_cons.mpr ⟨.tail _ (.head _), List.forall_mem_cons.mpr ⟨.tail _ (.tail _ (.head _)), List.forall_mem_cons.mpr ⟨.head _, fun p hp => .tail _ (.tail _ (.tail _ hp))⟩⟩⟩))
end
local macro_rules | `(tactic| k_room) => `(tactic| ((try simp only [depth_under_make, depth_under_kw, depth_in1, depth_deeper]); omega))
section
theorem re_con : ∀ {w : World} {mean : ExcName → Option Value} {mg mb : Str → Option Value} {dp un : Nat} {gd : Option (List Code)} {outer : List Env} {rest : List (Addr × Obj)}
  {cn : Str} {nms : List (Str × NameKind)} {a : Addr} {ccd : Value} {base h₀ : Heap} {L : Addr} {m : Str → Option Value} {s : Shared} {Q E : Value → Shared → Prop} {x d ba : Addr} {t1 t2 t3 t4 t5 : Tok} {b : Array UInt8} {pos n : Int} {wh : Str}
  (hB : Below (A0 dp un gd outer) base outer h₀) (hF : Fr h₀ L s.heap m) (hK : (hd.heap_39 w.params).In h₀) (hN : News h₀ L s.heap ((x, instObj 394 d) :: (d, bioD w.params ba pos t1 t2 t3) :: (ba, baObj b) :: rest)) (hT : Top hd.view_39 LL mean mg mb h₀) (hD : KtsDicts (outer.filterMap (·.frame)) h₀)
  (hdp : dp + 10 < recursionLimit) (hun : un + 100 < cLine) (hz : b.size ≤ sizeLine) (hx : @LT.lt Nat _ d x) (hba : @LT.lt Nat _ x ba) (hne : ∀ p ∈ rest, p.1 ≠ d) (h0 : 0 ≤ pos) (hp : pos ≤ b.size) (hn0 : 1 ≤ n) (hn1 : n ≤ 1000000) (hwh : wh.length ≤ 200)
  (hret : ∀ (h' : Heap) (tk' : Nat) (t1 t2 t3 t : Tok) (c : Array UInt8) (p' : Int), pos + n ≤ b.size → c = b.extract pos.toNat (pos + n).toNat → p' = pos + n → Fr h₀ L h' m → News h₀ L h' ((x, instObj 394 d) :: (d, bioD w.params ba p' t1 t2 t3) :: (ba, baObj b) :: rest) →
    Q (.bytes c t) { s with heap := h', toks := tk' })
  (hrai : ∀ (G h' : Heap) (tk' : Nat) (e t : Addr) (vs : List Value), b.size < pos + n → Fr h₀ L G m → RaisedS base G (fnv cn nms L a ccd :: outer) e (.ref 71) t vs [] h' → G.UpToSlots h' → E (.ref e) { s with heap := h', toks := tk' }),
  wpAny (model PySem.Challenge.rw_fp5001_01.prog w) ((A0 dp un gd outer).deeper (fnv cn nms L a ccd)) (call (.ref 657) [.ref x, .int n t4, .str wh t5]) Q E s := by
  k_fill
  intro w mean mg mb dp un gd outer rest cn nms a ccd base h₀ L m s Q E x d ba t1 t2 t3 t4 t5 b pos n wh hB hF hK hN hT hD hdp hun hz hx hba hne h0 hp hn0 hn1 hwh hret hrai
  k_steps
  all_goals first
    | (rename RaisedS _ _ _ _ _ _ _ _ _ => R₉; have h9 := raisedS_nil R₉; clear R₉; refine hrai _ _ _ _ _ _ (by omega) ?_ h9 ?_ <;> assumption)
    | (exfalso; omega)
    | (exfalso; simp only [List.size_toArray, List.length_nil, Array.size_empty] at *; omega)
    | (rename News h₀ L _ _ => N₉; exact hret _ _ _ _ _ _ _ _ (by omega) (by first | rfl | (congr 1; omega)) (by omega) (by k_asm) (cb_drop N₉ (fun p hp => .tail _ hp)))
    | skip
  all_goals trace_state
end
section
local macro_rules | `(tactic| walk_at "no such key") => `(tactic| fail)
theorem ii_con : ∀ {w : World} {mean : ExcName → Option Value} {mg mb : Str → Option Value} {dp un : Nat} {gd : Option (List Code)} {outer : List Env} {news : List (Addr × Obj)} {cn : Str} {nms : List (Str × NameKind)} {a : Addr} {ccd : Value} {base h₀ : Heap} {L : Addr} {m : Str → Option Value} {s : Shared} {Q E : Value → Shared → Prop} {n : Int} {t : Tok}
  (hB : Below (A0 dp un gd outer) base outer h₀) (hF : Fr h₀ L s.heap m) (hK : (hd.heap_39 w.params).In h₀) (hN : News h₀ L s.heap news) (hT : Top hd.view_39 LL mean mg mb h₀) (hD : KtsDicts (outer.filterMap (·.frame)) h₀) (hdp : dp + 20 < recursionLimit) (hun : un + 200 < cLine)
  
  (hret : ∀ h' tk', Fr h₀ L h' m → News h₀ L h' news → Q (.bool true) { s with heap := h', toks := tk' }),
  wpAny (model PySem.Challenge.rw_fp5001_01.prog w) ((A0 dp un gd outer).deeper (fnv cn nms L a ccd)) (call (.ref 671) [.int n t]) Q E s := by
  k_fill
  intro w mean mg mb dp un gd outer news cn nms a ccd base h₀ L m s Q E n t hB hF hK hN hT hD hdp hun  hret
  k_steps
  all_goals exact hret _ _ (by k_asm) (by k_asm)

theorem ab_con : ∀ {w : World} {mean : ExcName → Option Value} {mg mb : Str → Option Value} {dp un : Nat} {gd : Option (List Code)} {outer : List Env} {news : List (Addr × Obj)} {cn : Str} {nms : List (Str × NameKind)} {a : Addr} {ccd : Value} {base h₀ : Heap} {L : Addr} {m : Str → Option Value} {s : Shared} {Q E : Value → Shared → Prop} {n : Int} {t : Tok}
  (hB : Below (A0 dp un gd outer) base outer h₀) (hF : Fr h₀ L s.heap m) (hK : (hd.heap_39 w.params).In h₀) (hN : News h₀ L s.heap news) (hT : Top hd.view_39 LL mean mg mb h₀) (hD : KtsDicts (outer.filterMap (·.frame)) h₀) (hdp : dp + 20 < recursionLimit) (hun : un + 200 < cLine)
  (h1 : 1 ≤ n) (h2 : n ≤ 64)
  (hret : ∀ h' tk', Fr h₀ L h' m → News h₀ L h' news → Q .none { s with heap := h', toks := tk' }),
  wpAny (model PySem.Challenge.rw_fp5001_01.prog w) ((A0 dp un gd outer).deeper (fnv cn nms L a ccd)) (call (.ref 685) [.int n t]) Q E s := by
  k_fill
  intro w mean mg mb dp un gd outer news cn nms a ccd base h₀ L m s Q E n t hB hF hK hN hT hD hdp hun h1 h2 hret
  k_steps
  all_goals exact hret _ _ (by k_asm) (by k_asm)

end
section
local macro_rules | `(tactic| walk_at "call ref") => `(tactic| (k_here; (with_reducible show wpAny _ _ (call (Value.ref 657) _) _ _ _); k_dflt (refine' re_con ?hB ?hF ?hK ?hN ?hT ?hD ?hdp ?hun ?p0 ?p1 ?p2 ?p3 ?p4 ?p5 ?p6 ?p7 ?p8 ?_ ?_; walk_at "std"; (case p0 => assumption); (case p1 => assumption); (case p2 => assumption); (case p3 => assumption); (case p4 => omega); (case p5 => omega); (case p6 => omega); (case p7 => omega); (case p8 => first | assumption | decide +kernel)); intro h' tk' t1' t2' t3' t' c' p' hle' hc' hp' F' N'; obtain ⟨by', hby⟩ := byteAt hc' (by omega); have hby1 := hby.is1; have hby2 := hby.lo; have hby3 := hby.hi; (try subst hp')))
local macro_rules | `(tactic| walk_at "last subscriptTail") => `(tactic| (k_here; (with_reducible show wpAny _ _ (subscriptTail _ _ (Value.bytes _ _) (Value.int _ _)) _ _ _); (refine item_one (by assumption) ?_); intro _ _))
local macro_rules | `(tactic| walk_at "subscriptTail") => `(tactic| (k_here; (with_reducible show wpAny _ _ (subscriptTail _ _ (Value.bytes _ _) (Value.int _ _)) _ _ _); (refine item_one (by assumption) ?_); intro _ _))
local macro_rules | `(tactic| walk_at "eval Name") => `(tactic| (k_here; k_dflt (refine' ld ?k1 ?k2 ?_; (case k1 => k_asm); (case k2 => assumption); k_whole)))
theorem pv_map {m₀ : Str → Option Value} {v1 v2 v3 v4 v5 : Option Value} : (fun y => if y = Str.ofString "number" then v1 else if y = Str.ofString "number" then v2 else if y = Str.ofString "byte" then v3 else if y = Str.ofString "byte" then v4 else if y = Str.ofString "number" then v5 else m₀ y) =
    (fun y => if y = Str.ofString "byte" then v3 else if y = Str.ofString "number" then v1 else m₀ y) := by
  funext y
  by_cases h1 : y = Str.ofString "byte"
  · subst h1; rfl
  · by_cases h2 : y = Str.ofString "number"
    · subst h2; rfl
    · simp only [if_neg h1, if_neg h2]
theorem pv_loop : ∀ {w : World} {mean : ExcName → Option Value} {mg mb : Str → Option Value} {dp un : Nat} {gd : Option (List Code)} {outer : List Env} {rest : List (Addr × Obj)} {base g : Heap} {L : Addr} {s : Shared} {Q : Flow → Shared → Prop} {E : Value → Shared → Prop}
  {x d ba : Addr} {t1 t2 t3 tn tx : Tok} {b : Array UInt8} {pos : Nat} {num mx : Int} {vb : Option Value} {m₀ : Str → Option Value}
  (hB : Below (A0 dp un gd outer) base outer g) (hF : Fr g L s.heap (fun y => if y = Str.ofString "byte" then vb else if y = Str.ofString "number" then some (.int num tn) else m₀ y)) (hK : (hd.heap_39 w.params).In g) (hN : News g L s.heap ((x, instObj 394 d) :: (d, bioD w.params ba pos t1 t2 t3) :: (ba, baObj b) :: rest)) (hT : Top hd.view_39 LL mean mg mb g) (hD : KtsDicts (outer.filterMap (·.frame)) g) (hdp : dp + 20 < recursionLimit) (hun : un + 200 < cLine)
  (hz : b.size ≤ sizeLine) (hx : @LT.lt Nat _ d x) (hba : @LT.lt Nat _ x ba) (hne : ∀ p ∈ rest, p.1 ≠ d) (hp : pos ≤ b.size) (hn0 : 0 ≤ num) (hn1 : num ≤ mx) (hm1 : 1 ≤ mx) (hm2 : mx < 2 ^ 64)
  (ms : m₀ (Str.ofString "stream") = some (.ref x)) (mm : m₀ (Str.ofString "max_value") = some (.int mx tx))
  (hret : ∀ (h' : Heap) (tk' : Nat) (m' : Str → Option Value) (t1 t2 t3 t : Tok) (f : Int) (p' : Nat), pvP mx ((KBw.bInts b).drop pos) pos num = some (f, p') → p' ≤ b.size → Fr g L h' m' → News g L h' ((x, instObj 394 d) :: (d, bioD w.params ba p' t1 t2 t3) :: (ba, baObj b) :: rest) →
    Q (.ret (.int f t)) { s with heap := h', toks := tk' })
  (hrai : ∀ (h' : Heap) (tk' : Nat) (e t : Addr) (vs : List Value), pvP mx ((KBw.bInts b).drop pos) pos num = none → RaisedS base g outer e (.ref 71) t vs [] h' → g.UpToSlots h' → E (.ref e) { s with heap := h', toks := tk' }),
  wpAny (model PySem.Challenge.rw_fp5001_01.prog w) ((A0 dp un gd outer).deeper (enOf ((hd.heap_39 w.params).lookup 701) L 701)) (exec (stOf ((hd.heap_39 w.params).lookup 701) 4) (enOf ((hd.heap_39 w.params).lookup 701) L 701)) Q
    (fun e s' => wpAny (model PySem.Challenge.rw_fp5001_01.prog w) ((A0 dp un gd outer).deeper (enOf ((hd.heap_39 w.params).lookup 701) L 701)) (leaving (enOf ((hd.heap_39 w.params).lookup 701) L 701) e) (fun _ s'' => E e s'') (fun e' s'' => E e' s'') s') s := by
  k_fill
  intro w mean mg mb dp un gd outer rest base g L s Q E x d ba t1 t2 t3 tn tx b pos num mx vb m₀ hB hF hK hN hT hD hdp hun hz hx hba hne hp hn0 hn1 hm1 hm2 ms mm hret hrai
  rw [show (hd.heap_39 w.params).lookup 701 = some _ from by k_is]
  show wpAny _ _ (exec (.While _ _ [] _) _) _ _ _
  dsimp only [enOf, fdOf, fnOf]
  have hno : (((KBw.bInts b).drop pos).length = b.size - pos) := by rw [List.length_drop, KBw.ints_length]
  refine While_inv2 (J := fun n m₁ news₁ => ∃ (pos' : Nat) (num' : Int) (vb' : Option Value) (t1' t2' t3' tn' : Tok), m₁ = (fun y => if y = Str.ofString "byte" then vb' else if y = Str.ofString "number" then some (.int num' tn') else m₀ y) ∧
      news₁ = ((x, instObj 394 d) :: (d, bioD w.params ba pos' t1' t2' t3') :: (ba, baObj b) :: rest) ∧ pos' ≤ b.size ∧ 0 ≤ num' ∧ num' ≤ mx ∧ n = b.size - pos' ∧ pvP mx ((KBw.bInts b).drop pos') pos' num' = pvP mx ((KBw.bInts b).drop pos) pos num) (n₀ := b.size - pos)
    hF hN ⟨pos, num, vb, t1, t2, t3, tn, rfl, rfl, hp, hn0, hn1, rfl, rfl⟩ ?_
  intro n m₁ news₁ h₁ tk₁ F₁ N₁ hJ
  obtain ⟨pos', num', vb', t1', t2', t3', tn', rfl, rfl, hp', hn0', hn1', hnn, hpv⟩ := hJ
  clear hF hN
  k_steps
  all_goals first
    | (rename RaisedS _ _ _ _ _ _ _ _ _ => R₉
       refine hrai _ _ _ _ _ (hpv.symm.trans ?_) (raisedS_nil R₉) (by assumption)
       first
       | exact pv_big (by assumption) rfl (by assumption)
       | exact pv_over (by assumption) hn0' rfl (by assumption)
       | exact pv_full (by assumption) hn0' rfl (by assumption) (by assumption)
       | exact pv_end rfl (by omega))
    | (rename Fr _ _ _ _ => F₉
       rename News _ _ _ _ => N₉
       have hm := pv_more (by assumption) hn0' rfl (by assumption) (by assumption) (by assumption) (by assumption)
       exact ⟨_, _, _, _, b.size - (pos' + 1), rfl, F₉, N₉, by omega, pos' + 1, _, _, _, _, _, _, pv_map, rfl, by omega, hm.2.1, hm.2.2, rfl, hm.1.trans hpv⟩)
    | (rename Fr _ _ _ _ => F₉
       rename News _ _ _ _ => N₉
       have hm := pv_done (by assumption) hn0' rfl (by assumption) (by assumption) (by assumption)
       exact hret _ _ _ _ _ _ _ _ _ (hpv.symm.trans hm) (by omega) F₉ N₉)
end
local macro_rules | `(tactic| walk_at "S_def") => `(tactic| k_dflt (refine' codeS_def ?k1 ?k2 ?k3 ?k4 ?k5 ?kA ?kF ?kK ?k6 ?k7 ?k8 ?k9 ?kB ?_ ?c5 ?c2 ?c3 ?c4; (case kA => exact rfl); (case kF => first | exact rfl | assumption); (case kK => first | exact rfl | assumption); (case k1 => k_asm); (case k2 => k_asm); (case k3 => k_asm); (case k4 => k_asm); (case k5 => k_asm); (case k6 => k_is); (case k7 => k_is); (case k8 => ktr_room); (case k9 => first | exact binds_K (by k_in) rfl (by k_is) rfl rfl rfl | exact BindsTo.of_eq rfl); (case c5 => decide); (case kB => exact locs rfl); (case c2 => exact rfl); (case c3 => exact rfl); (case c4 => exact rfl); k_whole; intro g' L' h' FG' F' N' B' X' T' l1'; (try k_lt l1'); (try dsimp only); (try k_lift B')))
local macro_rules | `(tactic| walk_at "S_defS") => `(tactic| k_dflt (refine' codeS_defSE ?k1 ?k2 ?k3 ?k4 ?k5 ?XB ?TB ?D ?T0 ?kA ?kF ?kK ?k6 ?k7 ?k8 ?k9 ?kB ?_ ?c5 ?c2 ?c3 ?c4; (case kA => exact rfl); (case kF => first | exact rfl | assumption); (case kK => first | exact rfl | assumption); (case k2 => k_asm); (case k1 => k_asm); (case XB => assumption); (case TB => assumption); (case D => assumption); (case T0 => first | assumption | exact KtsTurn.refl); (case k3 => k_asm); (case k4 => k_asm); (case k5 => k_asm); (case k6 => k_is); (case k7 => k_is); (case k8 => ktr_room); (case k9 => first | exact binds_K (by k_in) rfl (by k_is) rfl rfl rfl | exact BindsTo.of_eq rfl); (case kB => exact locs rfl); (case c2 => exact rfl); (case c3 => exact rfl); (case c4 => exact rfl); (case c5 => decide); k_whole; intro g' L' h' FG' F' N' B' X' T' D'; (try dsimp only); (try k_lift B')))
local macro_rules | `(tactic| k_enter) => `(tactic| ((with_reducible rename KtsDicts _ _ => kdX); (refine' code_def ?k1 ?k2 ?k3 ?k4 ?k5 ?kA ?kF ?kK ?k6 ?k7 ?k8 ?k9 ?kB ?_ ?c2 ?c3 ?c4 ?c5; (case kA => exact rfl); (case kF => first | exact rfl | assumption); (case kK => first | exact rfl | assumption); (case k1 => k_asm); (case k2 => k_asm); (case k3 => k_asm); (case k4 => k_asm); (case k5 => k_asm); (case k6 => k_is); (case k7 => k_is); (case k8 => k_room); (case k9 => first | exact BindsTo.of_eq rfl | exact binds_K (by k_in) rfl (by k_is) rfl rfl rfl); (case c5 => decide); (case kB => exact locs rfl); (case c2 => exact rfl); (case c3 => exact rfl); (case c4 => exact rfl); k_whole; intro g' L' h' FG' F' N' B' X' T'; (have kdY := kd_frE B' kdX FG' (by first | rfl | assumption)); (try dsimp only); (try k_lift B'))))
local macro_rules | `(tactic| walk_at "call type:bytes") => `(tactic| (k_here; (with_reducible show wpAny _ _ (call (Value.type _) [Value.bytes _ _]) _ _ _); (refine by_toBytes ?_)))
section
local macro_rules | `(tactic| walk_at "call ref") => `(tactic| (k_here; (with_reducible show wpAny _ _ (call (Value.ref 685) _) _ _ _); k_dflt (refine' ab_con ?hB ?hF ?hK ?hN ?hT ?hD ?hdp ?hun ?p0 ?p1 ?_; walk_at "std"; (case p0 => omega); (case p1 => omega); k_whole; intro h' tk' F' N')))
theorem pv_map2 {m : Str → Option Value} {v1 : Option Value} : (fun y => if y = Str.ofString "number" then v1 else m y) =
    (fun y => if y = Str.ofString "byte" then m (Str.ofString "byte") else if y = Str.ofString "number" then v1 else m y) := by
  funext y
  by_cases h1 : y = Str.ofString "byte"
  · subst h1; rfl
  · simp only [if_neg h1]
local macro_rules | `(tactic| walk_at "exec") => `(tactic| (k_here; (with_reducible show wpAny _ _ (exec (Stmt.While _ _ [] _) _) _ _ _); (with_reducible rename Fr _ _ _ _ => F'); rw [pv_map2] at F'; k_dflt (refine' pv_loop ?hB ?hF ?hK ?hN ?hT ?hD ?hdp ?hun ?p0 ?p1 ?p2 ?p3 ?p4 ?p5 ?p6 ?p7 ?p8 ?p9 ?p10 ?_ ?_; (case hB => k_asm); (case hF => exact F'); (case hK => k_asm); (case hN => k_asm); (case hT => k_asm); (case hD => k_asm); (case p9 => exact rfl); (case p10 => exact rfl); (case hdp => k_room); (case hun => ((try simp only [units_in1, units_deeper, Around.mark_units]); omega)); (case p0 => assumption); (case p1 => assumption); (case p2 => assumption); (case p3 => assumption); (case p4 => omega); (case p5 => omega); (case p6 => omega); (case p7 => omega); (case p8 => omega))))
theorem pv_con : ∀ {w : World} {mean : ExcName → Option Value} {mg mb : Str → Option Value} {dp un : Nat} {gd : Option (List Code)} {outer : List Env} {rest : List (Addr × Obj)} {cn : Str} {nms : List (Str × NameKind)} {a : Addr} {ccd : Value} {base h₀ : Heap} {L : Addr} {m : Str → Option Value} {s : Shared} {Q E : Value → Shared → Prop} {x d ba : Addr} {t1 t2 t3 t4 : Tok} {b : Array UInt8} {pos : Nat} {bits : Int}
  (hB : Below (A0 dp un gd outer) base outer h₀) (hF : Fr h₀ L s.heap m) (hK : (hd.heap_39 w.params).In h₀) (hN : News h₀ L s.heap ((x, instObj 394 d) :: (d, bioD w.params ba pos t1 t2 t3) :: (ba, baObj b) :: rest)) (hT : Top hd.view_39 LL mean mg mb h₀) (hD : KtsDicts (outer.filterMap (·.frame)) h₀) (hdp : dp + 30 < recursionLimit) (hun : un + 300 < cLine)
  (hz : b.size ≤ sizeLine) (hx : @LT.lt Nat _ d x) (hba : @LT.lt Nat _ x ba) (hne : ∀ p ∈ rest, p.1 ≠ d) (hp : pos ≤ b.size) (hb1 : 1 ≤ bits) (hb2 : bits ≤ 64)
  (hret : ∀ (h' : Heap) (tk' : Nat) (t1 t2 t3 t : Tok) (f : Int) (p' : Nat), pvP (2 ^ bits.toNat - 1) ((KBw.bInts b).drop pos) pos 0 = some (f, p') → p' ≤ b.size → Fr h₀ L h' m → News h₀ L h' ((x, instObj 394 d) :: (d, bioD w.params ba p' t1 t2 t3) :: (ba, baObj b) :: rest) →
    Q (.int f t) { s with heap := h', toks := tk' })
  (hrai : ∀ (G h' : Heap) (tk' : Nat) (e t : Addr) (vs : List Value), pvP (2 ^ bits.toNat - 1) ((KBw.bInts b).drop pos) pos 0 = none → Fr h₀ L G m → RaisedS base G (fnv cn nms L a ccd :: outer) e (.ref 71) t vs [] h' → G.UpToSlots h' → E (.ref e) { s with heap := h', toks := tk' }),
  wpAny (model PySem.Challenge.rw_fp5001_01.prog w) ((A0 dp un gd outer).deeper (fnv cn nms L a ccd)) (call (.ref 701) [.ref x, .int bits t4]) Q E s := by
  k_fill
  intro w mean mg mb dp un gd outer rest cn nms a ccd base h₀ L m s Q E x d ba t1 t2 t3 t4 b pos bits hB hF hK hN hT hD hdp hun hz hx hba hne hp hb1 hb2 hret hrai
  have hP1 := pow_lo hb1
  have hP2 := pow_hi hb1 hb2
  k_steps
  all_goals (rename pvP _ _ _ _ = _ => h₉; rw [Int.one_mul] at h₉)
  · exact hret _ _ _ _ _ _ _ _ h₉ (by assumption) (by k_asm) (by k_asm)
  · rename RaisedS _ _ _ _ _ _ _ _ _ => R₉
    exact hrai _ _ _ _ _ _ h₉ (by assumption) R₉ (by assumption)
end
section
theorem bb_con : ∀ {w : World} {mean : ExcName → Option Value} {mg mb : Str → Option Value} {dp un : Nat} {gd : Option (List Code)} {outer : List Env} {news : List (Addr × Obj)} {cn : Str} {nms : List (Str × NameKind)} {a : Addr} {ccd : Value} {base h₀ : Heap} {L : Addr} {m : Str → Option Value} {s : Shared} {Q E : Value → Shared → Prop} {b : Array UInt8} {t : Tok}
  (hB : Below (A0 dp un gd outer) base outer h₀) (hF : Fr h₀ L s.heap m) (hK : (hd.heap_39 w.params).In h₀) (hN : News h₀ L s.heap news) (hT : Top hd.view_39 LL mean mg mb h₀) (hD : KtsDicts (outer.filterMap (·.frame)) h₀) (hdp : dp + 15 < recursionLimit) (hun : un + 150 < cLine)
  (hz : b.size ≤ sizeLine)
  (hret : ∀ (x d ba : Addr) (t1 t2 t3 : Tok) (h' : Heap) (tk' : Nat), @LT.lt Nat _ d x → @LT.lt Nat _ x ba → (∀ p ∈ news, p.1 ≠ d) → Fr h₀ L h' m → News h₀ L h' ((x, instObj 394 d) :: (d, bioD w.params ba 0 t1 t2 t3) :: (ba, baObj b) :: news) → Q (.ref x) { s with heap := h', toks := tk' }),
  wpS (model PySem.Challenge.rw_fp5001_01.prog w) ((A0 dp un gd outer).deeper (fnv cn nms L a ccd)) (call (.ref 650) [.bytes b t]) Q E s := by
  k_fill
  intro w mean mg mb dp un gd outer news cn nms a ccd base h₀ L m s Q E b t hB hF hK hN hT hD hdp hun hz hret
  refine S_call ?_
  walk_at "S_def"
  refine S_execsA ?_
  k_steps
  dsimp only
  refine S_execs (S_return (S_callE ?_))
  k_steps
  refine S_callWith (K := hd.heap_39 w.params) (by k_is) ?_
  k_steps
  k_dflt (refine' bio_new _ _ _ _ _ _ _ _ _ _ _ _ _ _ _ _ _ _ _ _ _ _ ?hB ?hF ?hK ?hN ?hT ?hdp ?hun hz ?_; (case hB => k_asm); (case hF => k_asm); (case hK => k_asm); (case hN => k_asm); (case hT => k_asm); (case hdp => k_room); (case hun => ((try simp only [units_in1, units_deeper, Around.mark_units]); omega)))
  intro x d ba t1 t2 t3 h' tk' l1 l2 l3 F₈ N₈
  k_steps
  rename News h₀ L _ ((x, _) :: _) => N₉
  have NN := N₉
  rename Fr h₀ L _ m => F₉
  exact hret x d ba _ _ _ _ _ l1 l2 (fun p hp => l3 p (.tail _ hp)) F₉ (cb_drop NN (List.forall_mem_cons.mpr ⟨.head _, List.forall_mem_cons.mpr ⟨.tail _ (.head _), List.forall_mem_cons.mpr ⟨.tail _ (.tail _ (.head _)), fun p hp => .tail _ (.tail _ (.tail _ (.tail _ hp)))⟩⟩⟩))
end
section
local macro_rules | `(tactic| walk_at "subscriptTail") => `(tactic| (k_here; (with_reducible show wpAny _ _ (subscriptTail _ _ (Value.bytes _ _) (Value.int (Nat.cast _) _)) _ _ _); (refine item_at (by assumption) (by assumption) ?_); intro c' t' k' hc' h0' h1'))
local macro_rules | `(tactic| walk_at "last subscriptTail") => `(tactic| (k_here; (with_reducible show wpAny _ _ (subscriptTail _ _ (Value.bytes _ _) (Value.int (Nat.cast _) _)) _ _ _); (refine item_at (by assumption) (by assumption) ?_); intro c' t' k' hc' h0' h1'))
local macro_rules | `(tactic| walk_at "eval Name") => `(tactic| (k_here; k_dflt (refine' ld ?k1 ?k2 ?_; (case k1 => k_asm); (case k2 => assumption); k_whole)))
def RangeUp (g : Heap) (L : Addr) (m₀ : Str → Option Value) (news : List (Addr × Obj)) (s : Shared) (z : Nat) (xv : Value) (s₁ : Shared) : Prop :=
  ∃ r h' tk t1 t2 t3, xv = .ref r ∧ s₁ = { s with heap := h', toks := tk } ∧ IsRange h' r 0 z 1 t1 t2 t3 ∧ Fr g L h' m₀ ∧ News g L h' news
theorem rk_loop : ∀ {w : World} {mean : ExcName → Option Value} {mg mb : Str → Option Value} {dp un : Nat} {gd : Option (List Code)} {outer : List Env} {news : List (Addr × Obj)} {base g : Heap} {L : Addr} {s : Shared} {Q : Flow → Shared → Prop} {E : Value → Shared → Prop}
  {t tf : Tok} {b : Array UInt8} {m₀ : Str → Option Value}
  (hB : Below (A0 dp un gd outer) base outer g) (hF : Fr g L s.heap m₀) (hK : (hd.heap_39 w.params).In g) (hN : News g L s.heap news) (hT : Top hd.view_39 LL mean mg mb g) (hD : KtsDicts (outer.filterMap (·.frame)) g) (hdp : dp + 20 < recursionLimit) (hun : un + 200 < cLine)
  (hz : b.size ≤ sizeLine) (ms : m₀ (Str.ofString "octets") = some (.bytes b t)) (mm : m₀ (Str.ofString "found") = some (.int 0 tf))
  (hnext : ∀ (h' : Heap) (tk' : Nat) (m' : Str → Option Value), rkP (KBw.bInts b) 0 0 = none → Fr g L h' m' → News g L h' news → Q .next { s with heap := h', toks := tk' })
  (hret : ∀ (h' : Heap) (tk' : Nat) (m' : Str → Option Value) (D : Addr) (t1 t2 : Tok) (f : Int) (p' : Nat), rkP (KBw.bInts b) 0 0 = some (f, p') → p' ≤ b.size → Fr g L h' m' → News g L h' ((D, { cls := .type "tuple", data := .seq #[.int f t1, .int p' t2] }) :: news) → (∀ p ∈ news, p.1 < D) →
    Q (.ret (.ref D)) { s with heap := h', toks := tk' }),
  wpAny (model PySem.Challenge.rw_fp5001_01.prog w) ((A0 dp un gd outer).deeper (enOf ((hd.heap_39 w.params).lookup 750) L 750)) (exec (stOf ((hd.heap_39 w.params).lookup 750) 1) (enOf ((hd.heap_39 w.params).lookup 750) L 750)) Q
    (fun e s' => wpAny (model PySem.Challenge.rw_fp5001_01.prog w) ((A0 dp un gd outer).deeper (enOf ((hd.heap_39 w.params).lookup 750) L 750)) (leaving (enOf ((hd.heap_39 w.params).lookup 750) L 750) e) (fun _ s'' => E e s'') (fun e' s'' => E e' s'') s') s := by
  k_fill
  intro w mean mg mb dp un gd outer news base g L s Q E t tf b m₀ hB hF hK hN hT hD hdp hun hz ms mm hnext hret
  rw [show (hd.heap_39 w.params).lookup 750 = some _ from by k_is]
  show wpAny _ _ (exec (.For _ _ _ [] _) _) _ _ _
  dsimp only [enOf, fdOf, fnOf]
  refine For_invV g (by rfl) (by rfl) ?_
  refine wpAny_mono (Q := RangeUp g L m₀ news s b.size) ?_ ?_ (fun _ _ x => x)
  · k_steps
    rename IsRange _ _ _ _ _ _ _ _ => hr
    rename _ = ((b.size : Nat) : Int) => hn
    rw [hn] at hr
    exact ⟨_, _, _, _, _, _, rfl, rfl, hr, by assumption, by assumption⟩
  · rintro xv s₁ ⟨r, h', tk, t1, t2, t3, rfl, rfl, hr, F, N⟩
    refine rg_range (J := fun i m => ∃ (f : Int) (tf : Tok), m (Str.ofString "octets") = some (.bytes b t) ∧ m (Str.ofString "found") = some (.int f tf) ∧ rkP ((KBw.bInts b).drop i) i f = rkP (KBw.bInts b) 0 0) (n := b.size) rfl hr (range_small hz) (range_size b.size) F N ⟨0, tf, ms, mm, rfl⟩ ?_ ?_
    · rintro i k t' m₁ h₁ tk₁ I oI hi hk ⟨f, tf₁, ms₁, mm₁, hrk⟩ F₁ N₁ l₁
      obtain rfl : k = (i : Int) := by omega
      clear hF hN F N hr
      k_steps
      all_goals (rename Fr _ _ _ _ => F₉; rename News _ _ _ _ => N₉)
      · rename _ ∧ AllLt _ news => l9
        exact hret _ _ _ _ _ _ _ _ (hrk.symm.trans (rk_ret (by assumption) (by assumption) (by assumption) rfl)) (by omega) F₉ (cb_drop N₉ (List.forall_mem_cons.mpr ⟨.head _, fun p hp => .tail _ (.tail _ hp)⟩)) (allLt_lt l9.2)
      · exact ⟨_, _, _, _, rfl, F₉, N₉, fun _ h => h, _, _, ms₁, rfl, rk_next (by assumption) (by assumption) (by assumption) hrk⟩
    · rintro m₁ h₁ tk₁ ⟨f, tf₁, ms₁, mm₁, hrk⟩ F₁ N₁
      refine hnext _ _ _ ?_ F₁ N₁
      rw [← hrk, List.drop_eq_nil_of_le (by rw [KBw.ints_length]; exact Nat.le_refl _)]
      rfl
local macro_rules | `(tactic| walk_at "exec For Name Call cons nil") => `(tactic| (k_here; (with_reducible show wpAny _ _ (exec (Stmt.For _ _ _ [] _) _) _ _ _); k_dflt (refine' rk_loop ?hB ?hF ?hK ?hN ?hT ?hD ?hdp ?hun ?p0 ?p1 ?p2 ?_ ?_; (case hB => k_asm); (case hF => k_asm); (case hK => k_asm); (case hN => k_asm); (case hT => k_asm); (case hD => k_asm); (case p1 => exact rfl); (case p2 => exact rfl); (case hdp => k_room); (case hun => ((try simp only [units_in1, units_deeper, Around.mark_units]); omega)); (case p0 => assumption))))
theorem rk_con : ∀ {w : World} {mean : ExcName → Option Value} {mg mb : Str → Option Value} {dp un : Nat} {gd : Option (List Code)} {outer : List Env} {news : List (Addr × Obj)} {ev : Env} {base h₀ : Heap} {L : Addr} {m : Str → Option Value} {s : Shared} {Q E : Value → Shared → Prop} {b : Array UInt8} {t : Tok}
  (hB : Below (A0 dp un gd outer) base outer h₀) (hF : Fr h₀ L s.heap m) (hK : (hd.heap_39 w.params).In h₀) (hN : News h₀ L s.heap news) (hT : Top hd.view_39 LL mean mg mb h₀) (hD : KtsDicts (outer.filterMap (·.frame)) h₀) (hdp : dp + 25 < recursionLimit) (hun : un + 250 < cLine) (hev : ev.frame = some L) (hek : ev.scope.kind = .function)
  (hz : b.size ≤ sizeLine)
  (hnone : ∀ (h' : Heap) (tk' : Nat), rkP (KBw.bInts b) 0 0 = none → Fr h₀ L h' m → News h₀ L h' news → Q .none { s with heap := h', toks := tk' })
  (hret : ∀ (h' : Heap) (tk' : Nat) (D : Addr) (t1 t2 : Tok) (f : Int) (p' : Nat), rkP (KBw.bInts b) 0 0 = some (f, p') → p' ≤ b.size → Fr h₀ L h' m → News h₀ L h' ((D, { cls := .type "tuple", data := .seq #[.int f t1, .int p' t2] }) :: news) → (∀ p ∈ news, p.1 < D) → Q (.ref D) { s with heap := h', toks := tk' }),
  wpAny (model PySem.Challenge.rw_fp5001_01.prog w) ((A0 dp un gd outer).deeper ev) (call (.ref 750) [.bytes b t]) Q E s := by
  k_fill
  intro w mean mg mb dp un gd outer news ev base h₀ L m s Q E b t hB hF hK hN hT hD hdp hun hev hek hz hnone hret
  k_steps
  · exact hnone _ _ (by assumption) (by k_asm) (by k_asm)
  · exact hret _ _ _ _ _ _ _ (by assumption) (by assumption) (by k_asm) (by k_asm) (by assumption)
end
section
local macro_rules | `(tactic| walk_at "call ref") => `(tactic| (k_here; (with_reducible show wpAny _ _ (call (Value.ref 685) _) _ _ _); k_dflt (refine' ab_con ?hB ?hF ?hK ?hN ?hT ?hD ?hdp ?hun ?p0 ?p1 ?_; walk_at "std"; (case p0 => omega); (case p1 => omega); k_whole; intro h' tk' F' N')))
local macro_rules | `(tactic| walk_at "exec") => `(tactic| (k_here; (with_reducible show wpAny _ _ (exec (Stmt.While _ _ [] _) _) _ _ _); (with_reducible rename Fr _ _ _ _ => F'); rw [pv_map2] at F'; k_dflt (refine' pv_loop ?hB ?hF ?hK ?hN ?hT ?hD ?hdp ?hun ?p0 ?p1 ?p2 ?p3 ?p4 ?p5 ?p6 ?p7 ?p8 ?p9 ?p10 ?_ ?_; (case hB => k_asm); (case hF => exact F'); (case hK => k_asm); (case hN => k_asm); (case hT => k_asm); (case hD => k_asm); (case p9 => exact rfl); (case p10 => exact rfl); (case hdp => k_room); (case hun => ((try simp only [units_in1, units_deeper, Around.mark_units]); omega)); (case p0 => assumption); (case p1 => assumption); (case p2 => assumption); (case p3 => assumption); (case p4 => omega); (case p5 => omega); (case p6 => omega); (case p7 => omega); (case p8 => omega))))
theorem pvb_con : ∀ {w : World} {mean : ExcName → Option Value} {mg mb : Str → Option Value} {dp un : Nat} {gd : Option (List Code)} {outer : List Env} {news : List (Addr × Obj)} {ev : Env} {base h₀ : Heap} {L : Addr} {m : Str → Option Value} {s : Shared} {Q E : Value → Shared → Prop} {t t4 : Tok} {b : Array UInt8} {bits : Int}
  (hB : Below (A0 dp un gd outer) base outer h₀) (hF : Fr h₀ L s.heap m) (hK : (hd.heap_39 w.params).In h₀) (hN : News h₀ L s.heap news) (hT : Top hd.view_39 LL mean mg mb h₀) (hD : KtsDicts (outer.filterMap (·.frame)) h₀) (hdp : dp + 35 < recursionLimit) (hun : un + 350 < cLine) (hev : ev.frame = some L) (hek : ev.scope.kind = .function)
  (hz : b.size ≤ sizeLine) (hb1 : 1 ≤ bits) (hb2 : bits ≤ 64)
  (hret : ∀ (h' : Heap) (tk' : Nat) (t : Tok) (f : Int) (p' : Nat), pvP (2 ^ bits.toNat - 1) (KBw.bInts b) 0 0 = some (f, p') → Fr h₀ L h' m → News h₀ L h' news → Q (.int f t) { s with heap := h', toks := tk' })
  (hrai : ∀ (G h' : Heap) (tk' : Nat) (e t : Addr) (vs : List Value), pvP (2 ^ bits.toNat - 1) (KBw.bInts b) 0 0 = none → Fr h₀ L G m → RaisedS base G (ev :: outer) e (.ref 71) t vs [] h' → G.UpToSlots h' → E (.ref e) { s with heap := h', toks := tk' }),
  wpS (model PySem.Challenge.rw_fp5001_01.prog w) ((A0 dp un gd outer).deeper ev) (call (.ref 701) [.bytes b t, .int bits t4]) Q E s := by
  k_fill
  intro w mean mg mb dp un gd outer news ev base h₀ L m s Q E t t4 b bits hB hF hK hN hT hD hdp hun hev hek hz hb1 hb2 hret hrai
  have hP1 := pow_lo hb1
  have hP2 := pow_hi hb1 hb2
  refine S_call ?_
  walk_at "S_def"
  with_reducible rename KtsDicts _ _ => kdX
  rename Below _ _ (_ :: _) _ => B'
  rename Fr _ _ _ m => FG'
  have kdY := kd_frE B' kdX FG' hev
  refine S_execsA ?_
  k_steps
  dsimp only
  refine S_execs (S_assign (S_callE ?_))
  k_steps
  refine S_callWith (K := hd.heap_39 w.params) (by k_is) ?_
  k_steps
  k_dflt (refine' bb_con ?hB ?hF ?hK ?hN ?hT ?hD ?hdp ?hun hz ?_; (case hB => k_asm); (case hF => k_asm); (case hK => k_asm); (case hN => k_asm); (case hT => k_asm); (case hD => k_asm); (case hdp => k_room); (case hun => ((try simp only [units_in1, units_deeper, Around.mark_units]); omega)))
  intro x d ba t1 t2 t3 h' tk' l1 l2 l3 F₈ N₈
  change News _ _ _ (_ :: (d, bioD w.params ba ((0 : Nat) : Int) t1 t2 t3) :: _) at N₈
  k_steps
  refine S_any ?_
  k_steps
  all_goals (rename pvP _ _ _ _ = _ => h₉; rw [Int.one_mul] at h₉)
  · rename News h₀ L _ _ => N₉
    have NN := N₉
    exact hret _ _ _ _ _ h₉ (by k_asm) (cb_drop NN (fun p hp => .tail _ (.tail _ (.tail _ hp))))
  · rename RaisedS _ _ _ _ _ _ _ _ _ => R₉
    exact hrai _ _ _ _ _ _ h₉ (by assumption) R₉ (by assumption)
end
section
local macro_rules | `(tactic| walk_at "call ref") => `(tactic| (k_here; (with_reducible show wpAny _ _ (call (Value.ref 701) _) _ _ _); k_dflt (refine' pv_con ?hB ?hF ?hK ?hN ?hT ?hD ?hdp ?hun ?p0 ?p1 ?p2 ?p3 ?p4 ?p5 ?p6 ?_ ?_; walk_at "std"; (case p0 => assumption); (case p1 => assumption); (case p2 => assumption); (case p3 => assumption); (case p4 => first | exact Nat.zero_le _ | omega); (case p5 => omega); (case p6 => omega))))
theorem lr_con : ∀ {w : World} {mean : ExcName → Option Value} {mg mb : Str → Option Value} {dp un : Nat} {gd : Option (List Code)} {outer : List Env} {news : List (Addr × Obj)} {ev : Env} {base h₀ : Heap} {L : Addr} {m : Str → Option Value} {s : Shared} {Q E : Value → Shared → Prop} {g₀ : Heap} {t t4 : Tok} {b : Array UInt8} {bits : Int}
  (hB : Below (A0 dp un gd outer) base outer h₀) (hF : Fr h₀ L s.heap m) (hK : (hd.heap_39 w.params).In h₀) (hN : News h₀ L s.heap news) (hT : Top hd.view_39 LL mean mg mb h₀) (hD : KtsDicts (outer.filterMap (·.frame)) h₀) (hdp : dp + 40 < recursionLimit) (hun : un + 400 < cLine) (hev : ev.frame = some L) (hek : ev.scope.kind = .function)
  (hKb : (hd.heap_39 w.params).In base) (hTb : Top hd.view_39 LL mean mg mb base) (hT0 : KtsTurn (outer.filterMap (·.frame)) g₀ h₀) (hz : b.size ≤ sizeLine) (hb1 : 1 ≤ bits) (hb2 : bits ≤ 64)
  (hnone : ∀ (kg h' : Heap) (tk' : Nat), pvP (2 ^ bits.toNat - 1) (KBw.bInts b) 0 0 = none → KtsTurn (outer.filterMap (·.frame)) g₀ kg → Fr kg L h' m → News kg L h' news → Below (A0 dp un gd outer) base outer kg → (hd.heap_39 w.params).In kg → Top hd.view_39 LL mean mg mb kg → KtsDicts (outer.filterMap (·.frame)) kg → Q .none { s with heap := h', toks := tk' })
  (hret : ∀ (kg h' : Heap) (tk' : Nat) (D : Addr) (t1 t2 : Tok) (f : Int) (p' : Nat), pvP (2 ^ bits.toNat - 1) (KBw.bInts b) 0 0 = some (f, p') → KtsTurn (outer.filterMap (·.frame)) g₀ kg → Fr kg L h' m → News kg L h' ((D, { cls := .type "tuple", data := .seq #[.int f t1, .int p' t2] }) :: news) → Below (A0 dp un gd outer) base outer kg → (hd.heap_39 w.params).In kg → Top hd.view_39 LL mean mg mb kg → KtsDicts (outer.filterMap (·.frame)) kg → Q (.ref D) { s with heap := h', toks := tk' }),
  wpS (model PySem.Challenge.rw_fp5001_01.prog w) ((A0 dp un gd outer).deeper ev) (call (.ref 757) [.bytes b t, .int bits t4]) Q E s := by
  k_fill
  intro w mean mg mb dp un gd outer news ev base h₀ L m s Q E g₀ t t4 b bits hB hF hK hN hT hD hdp hun hev hek hKb hTb hT0 hz hb1 hb2 hnone hret
  refine S_call ?_
  walk_at "S_defS"
  refine S_execs (S_assign (S_callE ?_))
  k_steps
  refine S_callWith (K := hd.heap_39 w.params) (by k_is) ?_
  k_steps
  k_dflt (refine' bb_con ?hB ?hF ?hK ?hN ?hT ?hD ?hdp ?hun hz ?_; (case hB => k_asm); (case hF => k_asm); (case hK => k_asm); (case hN => k_asm); (case hT => k_asm); (case hD => k_asm); (case hdp => k_room); (case hun => ((try simp only [units_in1, units_deeper, Around.mark_units]); omega)))
  intro x d ba t1 t2 t3 h' tk' l1 l2 l3 F₈ N₈
  change News _ _ _ (_ :: (d, bioD w.params ba ((0 : Nat) : Int) t1 t2 t3) :: _) at N₈
  k_steps
  refine S_any ?_
  k_steps
  · rename Fr _ _ _ _ => F₉
    rename News _ _ _ _ => N₉
    refine ⟨_, _, _, _, KtsTurn.refl, F₉, N₉, fun kg T F N B X P D => hret kg _ _ _ _ _ _ _ (by assumption) T F (cb_drop N (List.forall_mem_cons.mpr ⟨List.mem_append_left _ (.head _), fun p hp => List.mem_append_right _ hp⟩)) B X P D⟩
  · rename Fr _ _ _ _ => F₉
    rename News _ _ _ [] => N₉
    rename KtsTurn _ _ _ => T₉
    refine ⟨_, _, _, _, T₉, F₉, N₉, fun kg T F N B X P D => hnone kg _ _ (by assumption) T F N B X P D⟩
end
section
local macro_rules | `(tactic| walk_at "call builtin:list.append") => `(tactic| (k_here; (with_reducible show wpAny _ _ (call (Value.builtin _) [Value.ref _, _]) _ _ _); k_dflt (refine' append_K ?k1 ?k2 ?k3 ?_ ?z; (case k1 => k_asm); (case k2 => k_asm); (case k3 => k_upd); (case z => assumption); k_whole); intro h' F' N'))
local macro_rules | `(tactic| walk_at "eval Name") => `(tactic| (k_here; k_dflt (refine' ld ?k1 ?k2 ?_; (case k1 => k_asm); (case k2 => assumption); k_whole)))
theorem sv_loop : ∀ {w : World} {mean : ExcName → Option Value} {mg mb : Str → Option Value} {dp un : Nat} {gd : Option (List Code)} {outer : List Env} {rest : List (Addr × Obj)} {base g : Heap} {L : Addr} {s : Shared} {Q : Flow → Shared → Prop} {E : Value → Shared → Prop}
  {l : Addr} {tn : Tok} {num : Int} {vs : List Value} {ns : List Int} {c : Nat} {m₀ : Str → Option Value}
  (hB : Below (A0 dp un gd outer) base outer g) (hF : Fr g L s.heap (fun y => if y = Str.ofString "number" then some (.int num tn) else m₀ y)) (hK : (hd.heap_39 w.params).In g) (hN : News g L s.heap ((l, listOf vs.toArray c) :: rest)) (hT : Top hd.view_39 LL mean mg mb g) (hD : KtsDicts (outer.filterMap (·.frame)) g) (hdp : dp + 20 < recursionLimit) (hun : un + 200 < cLine)
  (hl : ∀ p ∈ rest, p.1 ≠ l) (hi : IntsAre vs ns) (hr : ∀ n ∈ ns, 0 ≤ n ∧ n < 256) (hn0 : 0 ≤ num) (hn1 : num < 2 ^ 64) (hlen : ns.length ≤ 1)
  (mo : m₀ (Str.ofString "out") = some (.ref l))
  (hnext : ∀ (h' : Heap) (tk' : Nat) (m' : Str → Option Value) (vs' : List Value) (c' : Nat), IntsAre vs' (svL num ns) → (svL num ns).length ≤ sizeLine → (∀ n ∈ svL num ns, 0 ≤ n ∧ n < 256) → m' (Str.ofString "out") = some (.ref l) → Fr g L h' m' → News g L h' ((l, listOf vs'.toArray c') :: rest) →
    Q .next { s with heap := h', toks := tk' }),
  wpAny (model PySem.Challenge.rw_fp5001_01.prog w) ((A0 dp un gd outer).deeper (enOf ((hd.heap_39 w.params).lookup 693) L 693)) (exec (stOf ((hd.heap_39 w.params).lookup 693) 3) (enOf ((hd.heap_39 w.params).lookup 693) L 693)) Q
    (fun e s' => wpAny (model PySem.Challenge.rw_fp5001_01.prog w) ((A0 dp un gd outer).deeper (enOf ((hd.heap_39 w.params).lookup 693) L 693)) (leaving (enOf ((hd.heap_39 w.params).lookup 693) L 693) e) (fun _ s'' => E e s'') (fun e' s'' => E e' s'') s') s := by
  k_fill
  intro w mean mg mb dp un gd outer rest base g L s Q E l tn num vs ns c m₀ hB hF hK hN hT hD hdp hun hl hi hr hn0 hn1 hlen mo hnext
  rw [show (hd.heap_39 w.params).lookup 693 = some _ from by k_is]
  show wpAny _ _ (exec (.While _ _ [] _) _) _ _ _
  dsimp only [enOf, fdOf, fnOf]
  refine While_inv2 (J := fun n m₁ news₁ => ∃ (num' : Int) (tn' : Tok) (vs' : List Value) (ns' : List Int) (c' : Nat), m₁ = (fun y => if y = Str.ofString "number" then some (.int num' tn') else m₀ y) ∧
      news₁ = ((l, listOf vs'.toArray c') :: rest) ∧ IntsAre vs' ns' ∧ (∀ n ∈ ns', 0 ≤ n ∧ n < 256) ∧ 0 ≤ num' ∧ num' ≤ num ∧ n = num'.toNat ∧ svL num' ns' = svL num ns ∧ ∃ k, ns'.length + k ≤ 11 ∧ num' < 128 ^ k) (n₀ := num.toNat)
    hF hN ⟨num, tn, vs, ns, c, rfl, rfl, hi, hr, hn0, Int.le_refl _, rfl, rfl, 10, by omega, by omega⟩ ?_
  intro n m₁ news₁ h₁ tk₁ F₁ N₁ hJ
  obtain ⟨num', tn', vs', ns', c', rfl, rfl, hi', hr', hn0', hn1', hnn, hsv, k, hk1, hk2⟩ := hJ
  have hsz : vs'.toArray.size ≤ sizeLine := by rw [List.size_toArray, hi'.length, sizeLine_eq]; omega
  clear hF hN
  k_steps
  · rename Fr _ _ _ _ => F₉
    rename News _ _ _ _ => N₉
    have hb : 127 < num' := by assumption
    obtain ⟨j, rfl, hj⟩ := sv_bound hb hk2
    have e1 : num'.fdiv (2 ^ Int.toNat 7) - 1 = num' / 128 - 1 := by rw [fdiv128]
    rw [e1, sv_map] at F₉
    rw [e1, sv_item (by omega), List.push_toArray] at N₉
    refine ⟨_, _, _, _, (num' / 128 - 1).toNat, rfl, F₉, N₉, by omega, _, _, _, _, _, rfl, rfl, hi'.append (.cons _ _ .nil), ?_, by omega, by omega, rfl, (svL_more hb).symm.trans hsv, j, by rw [List.length_append, List.length_singleton]; omega, hj⟩
    intro n hn
    rcases List.mem_append.mp hn with hn | hn
    · exact hr' n hn
    · rw [List.mem_singleton.mp hn]; omega
  · rw [svL_done (by assumption)] at hsv
    refine hnext _ _ _ _ _ ?_ ?_ ?_ ?_ F₁ N₁
    · exact hsv ▸ hi'
    · rw [← hsv, sizeLine_eq]; omega
    · exact hsv ▸ hr'
    · exact mo
end
section
local macro_rules | `(tactic| walk_at "call ref") => `(tactic| (k_here; (with_reducible show wpAny _ _ (call (Value.ref 685) _) _ _ _); k_dflt (refine' ab_con ?hB ?hF ?hK ?hN ?hT ?hD ?hdp ?hun ?p0 ?p1 ?_; walk_at "std"; (case p0 => omega); (case p1 => omega); k_whole; intro h' tk' F' N')))
local macro_rules | `(tactic| walk_at "exec") => `(tactic| (k_here; (with_reducible show wpAny _ _ (exec (Stmt.While _ _ [] _) _) _ _ _); k_dflt (refine' sv_loop ?hB ?hF ?hK ?hN ?hT ?hD ?hdp ?hun ?p0 ?p1 ?p2 ?p3 ?p4 ?p5 ?p6 ?_; (case hB => k_asm); (case hF => exact sv_fr (by k_asm) rfl); (case hK => k_asm); (case hN => k_asm); (case hT => k_asm); (case hD => k_asm); (case hdp => k_room); (case hun => ((try simp only [units_in1, units_deeper, Around.mark_units]); omega)); (case p0 => exact lt_ne (by assumption)); (case p1 => exact .cons _ _ .nil); (case p2 => exact sv_first); (case p3 => omega); (case p4 => omega); (case p5 => exact Nat.le_refl _); (case p6 => exact rfl))))
local macro_rules | `(tactic| walk_at "call type:bytes") => `(tactic| (k_here; (with_reducible show wpAny _ _ (call (Value.type _) [Value.ref _]) _ _ _); k_dflt (refine' br_K ?F ?N ?m ?l ?h ?i ?r ?z ?_; (case F => k_asm); (case N => k_asm); (case m => k_mem); (case l => assumption); (case h => with_unfolding_all rfl); (case i => assumption); (case r => assumption); (case z => assumption); k_whole); intro h' t' k' F' N'))
local macro_rules | `(tactic| walk_at "eval Name") => `(tactic| (k_here; k_dflt (refine' ld ?k1 ?k2 ?_; (case k1 => k_asm); (case k2 => assumption); k_whole)))
theorem sv_con : ∀ {w : World} {mean : ExcName → Option Value} {mg mb : Str → Option Value} {dp un : Nat} {gd : Option (List Code)} {outer : List Env} {news : List (Addr × Obj)} {cn : Str} {nms : List (Str × NameKind)} {a : Addr} {ccd : Value} {base h₀ : Heap} {L : Addr} {m : Str → Option Value} {s : Shared} {Q E : Value → Shared → Prop} {t t4 : Tok} {num bits : Int}
  (hB : Below (A0 dp un gd outer) base outer h₀) (hF : Fr h₀ L s.heap m) (hK : (hd.heap_39 w.params).In h₀) (hN : News h₀ L s.heap news) (hT : Top hd.view_39 LL mean mg mb h₀) (hD : KtsDicts (outer.filterMap (·.frame)) h₀) (hdp : dp + 30 < recursionLimit) (hun : un + 300 < cLine)
  (hb1 : 1 ≤ bits) (hb2 : bits ≤ 64) (hn0 : 0 ≤ num) (hn1 : num < 2 ^ bits.toNat)
  (hret : ∀ (h' : Heap) (tk' : Nat) (t : Tok), (∀ n ∈ svL num [Builtin.bitAnd num 127], 0 ≤ n ∧ n < 256) → Fr h₀ L h' m → News h₀ L h' news → Q (.bytes (byteArr (svL num [Builtin.bitAnd num 127]).reverse) t) { s with heap := h', toks := tk' }),
  wpAny (model PySem.Challenge.rw_fp5001_01.prog w) ((A0 dp un gd outer).deeper (fnv cn nms L a ccd)) (call (.ref 693) [.int num t, .int bits t4]) Q E s := by
  k_fill
  intro w mean mg mb dp un gd outer news cn nms a ccd base h₀ L m s Q E t t4 num bits hB hF hK hN hT hD hdp hun hb1 hb2 hn0 hn1 hret
  have hP1 := pow_lo hb1
  have hP2 := pow_hi hb1 hb2
  k_steps
  rename News h₀ L _ _ => N₉
  have NN := N₉
  exact hret _ _ _ (by assumption) (by k_asm) (cb_drop NN (fun p hp => .tail _ hp))
end
section
local macro_rules | `(tactic| walk_at "call ref") => `(tactic| (k_here; (with_reducible show wpAny _ _ (call (Value.ref 685) _) _ _ _); k_dflt (refine' ab_con ?hB ?hF ?hK ?hN ?hT ?hD ?hdp ?hun ?p0 ?p1 ?_; walk_at "std"; (case p0 => omega); (case p1 => omega); k_whole; intro h' tk' F' N')))
local macro_rules | `(tactic| walk_at "call ref") => `(tactic| (k_here; (with_reducible show wpAny _ _ (call (Value.ref 693) _) _ _ _); k_dflt (refine' sv_con ?hB ?hF ?hK ?hN ?hT ?hD ?hdp ?hun ?p0 ?p1 ?p2 ?p3 ?_; walk_at "std"; (case p0 => omega); (case p1 => omega); (case p2 => omega); (case p3 => omega); k_whole; intro h' tk' t' hA' F' N')))
theorem lw_in : ∀ {w : World} {mean : ExcName → Option Value} {mg mb : Str → Option Value} {dp un : Nat} {gd : Option (List Code)} {outer : List Env} {news : List (Addr × Obj)} {ev : Env} {base h₀ : Heap} {L : Addr} {m : Str → Option Value} {s : Shared} {Q E : Value → Shared → Prop} {g₀ : Heap} {t t4 : Tok} {num bits : Int}
  (hB : Below (A0 dp un gd outer) base outer h₀) (hF : Fr h₀ L s.heap m) (hK : (hd.heap_39 w.params).In h₀) (hN : News h₀ L s.heap news) (hT : Top hd.view_39 LL mean mg mb h₀) (hD : KtsDicts (outer.filterMap (·.frame)) h₀) (hdp : dp + 40 < recursionLimit) (hun : un + 400 < cLine) (hev : ev.frame = some L) (hek : ev.scope.kind = .function)
  (hKb : (hd.heap_39 w.params).In base) (hTb : Top hd.view_39 LL mean mg mb base) (hT0 : KtsTurn (outer.filterMap (·.frame)) g₀ h₀) (hb1 : 1 ≤ bits) (hb2 : bits ≤ 64) (hn0 : 0 ≤ num) (hn1 : num < 2 ^ bits.toNat)
  (hret : ∀ (kg h' : Heap) (tk' : Nat) (t : Tok), (∀ n ∈ svL num [Builtin.bitAnd num 127], 0 ≤ n ∧ n < 256) → KtsTurn (outer.filterMap (·.frame)) g₀ kg → Fr kg L h' m → News kg L h' news → Below (A0 dp un gd outer) base outer kg → (hd.heap_39 w.params).In kg → Top hd.view_39 LL mean mg mb kg → KtsDicts (outer.filterMap (·.frame)) kg → Q (.bytes (byteArr (svL num [Builtin.bitAnd num 127]).reverse) t) { s with heap := h', toks := tk' }),
  wpAny (model PySem.Challenge.rw_fp5001_01.prog w) ((A0 dp un gd outer).deeper ev) (call (.ref 764) [.int num t, .int bits t4]) Q E s := by
  k_fill
  intro w mean mg mb dp un gd outer news ev base h₀ L m s Q E g₀ t t4 num bits hB hF hK hN hT hD hdp hun hev hek hKb hTb hT0 hb1 hb2 hn0 hn1 hret
  k_steps
  exact hret h₀ _ _ _ (by assumption) hT0 (by k_asm) (by k_asm) hB hK hT (by assumption)
local macro_rules | `(tactic| k_enter) => `(tactic| ((fail_if_success k_inElt); kts_any; kts_go))
theorem lw_out : ∀ {w : World} {mean : ExcName → Option Value} {mg mb : Str → Option Value} {dp un : Nat} {gd : Option (List Code)} {outer : List Env} {news : List (Addr × Obj)} {cn : Str} {nms : List (Str × NameKind)} {a : Addr} {ccd : Value} {base h₀ : Heap} {L : Addr} {m : Str → Option Value} {s : Shared} {Q E : Value → Shared → Prop} {g₀ : Heap} {t t4 : Tok} {num bits : Int}
  (hB : Below (A0 dp un gd outer) base outer h₀) (hF : Fr h₀ L s.heap m) (hK : (hd.heap_39 w.params).In h₀) (hN : News h₀ L s.heap news) (hT : Top hd.view_39 LL mean mg mb h₀) (hD : KtsDicts (outer.filterMap (·.frame)) h₀) (hdp : dp + 40 < recursionLimit) (hun : un + 400 < cLine)
  (hKb : (hd.heap_39 w.params).In base) (hTb : Top hd.view_39 LL mean mg mb base) (hT0 : KtsTurn (outer.filterMap (·.frame)) g₀ h₀) (hb1 : 1 ≤ bits) (hb2 : bits ≤ 64) (hn0 : 2 ^ bits.toNat ≤ num) (hn1 : num ≤ 2 ^ 64)
  (hret : ∀ (kg h' : Heap) (tk' : Nat), KtsTurn (outer.filterMap (·.frame)) g₀ kg → Fr kg L h' m → News kg L h' news → Below (A0 dp un gd outer) base outer kg → (hd.heap_39 w.params).In kg → Top hd.view_39 LL mean mg mb kg → KtsDicts (outer.filterMap (·.frame)) kg → Q .none { s with heap := h', toks := tk' }),
  wpAny (model PySem.Challenge.rw_fp5001_01.prog w) ((A0 dp un gd outer).deeper (fnv cn nms L a ccd)) (call (.ref 764) [.int num t, .int bits t4]) Q E s := by
  k_fill
  intro w mean mg mb dp un gd outer news cn nms a ccd base h₀ L m s Q E g₀ t t4 num bits hB hF hK hN hT hD hdp hun hKb hTb hT0 hb1 hb2 hn0 hn1 hret
  have hP1 := pow_lo hb1
  have hP2 := pow_hi hb1 hb2
  k_steps
  exact hret _ _ _ (by assumption) (by k_asm) (by k_asm) (by assumption) (by assumption) (by assumption) (by assumption)
end
section
def BadB (v : Value) : Prop := (∃ b t, v = .int b t ∧ (b ≤ 0 ∨ 65 ≤ b) ∧ -1000 ≤ b ∧ b ≤ 1180591620717411303424) ∨ (∃ b, v = .bool b) ∨ v = .none ∨ (∃ t, v = .str (Str.ofString "8") t)
theorem ab_int : ∀ {w : World} {mean : ExcName → Option Value} {mg mb : Str → Option Value} {dp un : Nat} {gd : Option (List Code)} {outer : List Env} {news : List (Addr × Obj)} {cn : Str} {nms : List (Str × NameKind)} {a : Addr} {ccd : Value} {base h₀ : Heap} {L : Addr} {m : Str → Option Value} {s : Shared} {Q E : Value → Shared → Prop} {bits : Int} {t4 : Tok}
  (hB : Below (A0 dp un gd outer) base outer h₀) (hF : Fr h₀ L s.heap m) (hK : (hd.heap_39 w.params).In h₀) (hN : News h₀ L s.heap news) (hT : Top hd.view_39 LL mean mg mb h₀) (hD : KtsDicts (outer.filterMap (·.frame)) h₀) (hdp : dp + 10 < recursionLimit) (hun : un + 100 < cLine)
  (hb : bits ≤ 0 ∨ 65 ≤ bits) (hb1 : -1000 ≤ bits) (hb2 : bits ≤ 1180591620717411303424)
  (hrai : ∀ (G h' : Heap) (tk' : Nat) (e t : Addr) (vs : List Value), Fr h₀ L G m → RaisedS base G (fnv cn nms L a ccd :: outer) e (.ref 71) t vs news h' → G.UpToSlots h' → E (.ref e) { s with heap := h', toks := tk' }),
  wpAny (model PySem.Challenge.rw_fp5001_01.prog w) ((A0 dp un gd outer).deeper (fnv cn nms L a ccd)) (call (.ref 685) [.int bits t4]) Q E s := by
  k_fill
  intro w mean mg mb dp un gd outer news cn nms a ccd base h₀ L m s Q E bits t4 hB hF hK hN hT hD hdp hun hb hb1 hb2 hrai
  k_steps
  all_goals first
    | (exfalso; omega)
    | (rename RaisedS _ _ _ _ _ _ _ _ _ => R₉; exact hrai _ _ _ _ _ _ (by assumption) R₉ (by assumption))
theorem ab_true : ∀ {w : World} {mean : ExcName → Option Value} {mg mb : Str → Option Value} {dp un : Nat} {gd : Option (List Code)} {outer : List Env} {news : List (Addr × Obj)} {cn : Str} {nms : List (Str × NameKind)} {a : Addr} {ccd : Value} {base h₀ : Heap} {L : Addr} {m : Str → Option Value} {s : Shared} {Q E : Value → Shared → Prop} 
  (hB : Below (A0 dp un gd outer) base outer h₀) (hF : Fr h₀ L s.heap m) (hK : (hd.heap_39 w.params).In h₀) (hN : News h₀ L s.heap news) (hT : Top hd.view_39 LL mean mg mb h₀) (hD : KtsDicts (outer.filterMap (·.frame)) h₀) (hdp : dp + 10 < recursionLimit) (hun : un + 100 < cLine)
  
  (hrai : ∀ (G h' : Heap) (tk' : Nat) (e t : Addr) (vs : List Value), Fr h₀ L G m → RaisedS base G (fnv cn nms L a ccd :: outer) e (.ref 71) t vs news h' → G.UpToSlots h' → E (.ref e) { s with heap := h', toks := tk' }),
  wpAny (model PySem.Challenge.rw_fp5001_01.prog w) ((A0 dp un gd outer).deeper (fnv cn nms L a ccd)) (call (.ref 685) [.bool true]) Q E s := by
  k_fill
  intro w mean mg mb dp un gd outer news cn nms a ccd base h₀ L m s Q E  hB hF hK hN hT hD hdp hun  hrai
  k_steps
  all_goals first
    | (exfalso; omega)
    | (rename RaisedS _ _ _ _ _ _ _ _ _ => R₉; exact hrai _ _ _ _ _ _ (by assumption) R₉ (by assumption))
theorem ab_false : ∀ {w : World} {mean : ExcName → Option Value} {mg mb : Str → Option Value} {dp un : Nat} {gd : Option (List Code)} {outer : List Env} {news : List (Addr × Obj)} {cn : Str} {nms : List (Str × NameKind)} {a : Addr} {ccd : Value} {base h₀ : Heap} {L : Addr} {m : Str → Option Value} {s : Shared} {Q E : Value → Shared → Prop} 
  (hB : Below (A0 dp un gd outer) base outer h₀) (hF : Fr h₀ L s.heap m) (hK : (hd.heap_39 w.params).In h₀) (hN : News h₀ L s.heap news) (hT : Top hd.view_39 LL mean mg mb h₀) (hD : KtsDicts (outer.filterMap (·.frame)) h₀) (hdp : dp + 10 < recursionLimit) (hun : un + 100 < cLine)
  
  (hrai : ∀ (G h' : Heap) (tk' : Nat) (e t : Addr) (vs : List Value), Fr h₀ L G m → RaisedS base G (fnv cn nms L a ccd :: outer) e (.ref 71) t vs news h' → G.UpToSlots h' → E (.ref e) { s with heap := h', toks := tk' }),
  wpAny (model PySem.Challenge.rw_fp5001_01.prog w) ((A0 dp un gd outer).deeper (fnv cn nms L a ccd)) (call (.ref 685) [.bool false]) Q E s := by
  k_fill
  intro w mean mg mb dp un gd outer news cn nms a ccd base h₀ L m s Q E  hB hF hK hN hT hD hdp hun  hrai
  k_steps
  all_goals first
    | (exfalso; omega)
    | (rename RaisedS _ _ _ _ _ _ _ _ _ => R₉; exact hrai _ _ _ _ _ _ (by assumption) R₉ (by assumption))
theorem ab_none : ∀ {w : World} {mean : ExcName → Option Value} {mg mb : Str → Option Value} {dp un : Nat} {gd : Option (List Code)} {outer : List Env} {news : List (Addr × Obj)} {cn : Str} {nms : List (Str × NameKind)} {a : Addr} {ccd : Value} {base h₀ : Heap} {L : Addr} {m : Str → Option Value} {s : Shared} {Q E : Value → Shared → Prop} 
  (hB : Below (A0 dp un gd outer) base outer h₀) (hF : Fr h₀ L s.heap m) (hK : (hd.heap_39 w.params).In h₀) (hN : News h₀ L s.heap news) (hT : Top hd.view_39 LL mean mg mb h₀) (hD : KtsDicts (outer.filterMap (·.frame)) h₀) (hdp : dp + 10 < recursionLimit) (hun : un + 100 < cLine)
  
  (hrai : ∀ (G h' : Heap) (tk' : Nat) (e t : Addr) (vs : List Value), Fr h₀ L G m → RaisedS base G (fnv cn nms L a ccd :: outer) e (.ref 71) t vs news h' → G.UpToSlots h' → E (.ref e) { s with heap := h', toks := tk' }),
  wpAny (model PySem.Challenge.rw_fp5001_01.prog w) ((A0 dp un gd outer).deeper (fnv cn nms L a ccd)) (call (.ref 685) [.none]) Q E s := by
  k_fill
  intro w mean mg mb dp un gd outer news cn nms a ccd base h₀ L m s Q E  hB hF hK hN hT hD hdp hun  hrai
  k_steps
  all_goals first
    | (exfalso; omega)
    | (rename RaisedS _ _ _ _ _ _ _ _ _ => R₉; exact hrai _ _ _ _ _ _ (by assumption) R₉ (by assumption))
theorem ab_str : ∀ {w : World} {mean : ExcName → Option Value} {mg mb : Str → Option Value} {dp un : Nat} {gd : Option (List Code)} {outer : List Env} {news : List (Addr × Obj)} {cn : Str} {nms : List (Str × NameKind)} {a : Addr} {ccd : Value} {base h₀ : Heap} {L : Addr} {m : Str → Option Value} {s : Shared} {Q E : Value → Shared → Prop} {t4 : Tok}
  (hB : Below (A0 dp un gd outer) base outer h₀) (hF : Fr h₀ L s.heap m) (hK : (hd.heap_39 w.params).In h₀) (hN : News h₀ L s.heap news) (hT : Top hd.view_39 LL mean mg mb h₀) (hD : KtsDicts (outer.filterMap (·.frame)) h₀) (hdp : dp + 10 < recursionLimit) (hun : un + 100 < cLine)
  
  (hrai : ∀ (G h' : Heap) (tk' : Nat) (e t : Addr) (vs : List Value), Fr h₀ L G m → RaisedS base G (fnv cn nms L a ccd :: outer) e (.ref 71) t vs news h' → G.UpToSlots h' → E (.ref e) { s with heap := h', toks := tk' }),
  wpAny (model PySem.Challenge.rw_fp5001_01.prog w) ((A0 dp un gd outer).deeper (fnv cn nms L a ccd)) (call (.ref 685) [.str (Str.ofString "8") t4]) Q E s := by
  k_fill
  intro w mean mg mb dp un gd outer news cn nms a ccd base h₀ L m s Q E t4 hB hF hK hN hT hD hdp hun  hrai
  k_steps
  all_goals first
    | (exfalso; omega)
    | (rename RaisedS _ _ _ _ _ _ _ _ _ => R₉; exact hrai _ _ _ _ _ _ (by assumption) R₉ (by assumption))
theorem ab_bad : ∀ {w : World} {mean : ExcName → Option Value} {mg mb : Str → Option Value} {dp un : Nat} {gd : Option (List Code)} {outer : List Env} {news : List (Addr × Obj)} {cn : Str} {nms : List (Str × NameKind)} {a : Addr} {ccd : Value} {base h₀ : Heap} {L : Addr} {m : Str → Option Value} {s : Shared} {Q E : Value → Shared → Prop} {v : Value}
  (hB : Below (A0 dp un gd outer) base outer h₀) (hF : Fr h₀ L s.heap m) (hK : (hd.heap_39 w.params).In h₀) (hN : News h₀ L s.heap news) (hT : Top hd.view_39 LL mean mg mb h₀) (hD : KtsDicts (outer.filterMap (·.frame)) h₀) (hdp : dp + 10 < recursionLimit) (hun : un + 100 < cLine)
  (hv : BadB v)
  (hrai : ∀ (G h' : Heap) (tk' : Nat) (e t : Addr) (vs : List Value), Fr h₀ L G m → RaisedS base G (fnv cn nms L a ccd :: outer) e (.ref 71) t vs news h' → G.UpToSlots h' → E (.ref e) { s with heap := h', toks := tk' }),
  wpAny (model PySem.Challenge.rw_fp5001_01.prog w) ((A0 dp un gd outer).deeper (fnv cn nms L a ccd)) (call (.ref 685) [v]) Q E s := by
  intro w mean mg mb dp un gd outer news cn nms a ccd base h₀ L m s Q E v hB hF hK hN hT hD hdp hun hv hrai
  rcases hv with ⟨b, t, rfl, h1, h2, h3⟩ | ⟨b, rfl⟩ | rfl | ⟨t, rfl⟩
  · exact ab_int hB hF hK hN hT hD hdp hun h1 h2 h3 hrai
  · cases b with
    | true => exact ab_true hB hF hK hN hT hD hdp hun hrai
    | false => exact ab_false hB hF hK hN hT hD hdp hun hrai
  · exact ab_none hB hF hK hN hT hD hdp hun hrai
  · exact ab_str hB hF hK hN hT hD hdp hun hrai
end
section
local macro_rules | `(tactic| walk_at "call ref") => `(tactic| (k_here; (with_reducible show wpAny _ _ (call (Value.ref 685) _) _ _ _); k_dflt (refine' ab_bad ?hB ?hF ?hK ?hN ?hT ?hD ?hdp ?hun ?p0 ?_; walk_at "std"; (case p0 => assumption))))
section
local macro_rules | `(tactic| walk_at "call ref") => `(tactic| (k_here; (with_reducible show wpAny _ _ (call (Value.ref 685) _) _ _ _); k_dflt (refine' ab_con ?hB ?hF ?hK ?hN ?hT ?hD ?hdp ?hun ?p0 ?p1 ?_; walk_at "std"; (case p0 => omega); (case p1 => omega); k_whole; intro h' tk' F' N')))
theorem wr_good : ∀ {w : World} {mean : ExcName → Option Value} {mg mb : Str → Option Value} {dp un : Nat} {gd : Option (List Code)} {outer : List Env} {news : List (Addr × Obj)} {cn : Str} {nms : List (Str × NameKind)} {a : Addr} {ccd : Value} {base h₀ : Heap} {L : Addr} {m : Str → Option Value} {s : Shared} {Q E : Value → Shared → Prop} {t4 : Tok} {bits : Int}
  (hB : Below (A0 dp un gd outer) base outer h₀) (hF : Fr h₀ L s.heap m) (hK : (hd.heap_39 w.params).In h₀) (hN : News h₀ L s.heap news) (hT : Top hd.view_39 LL mean mg mb h₀) (hD : KtsDicts (outer.filterMap (·.frame)) h₀) (hdp : dp + 40 < recursionLimit) (hun : un + 400 < cLine)
  (hb1 : 1 ≤ bits) (hb2 : bits ≤ 64)
  (hret : ∀ (h' : Heap) (tk' : Nat), Fr h₀ L h' m → News h₀ L h' news → Q (.bool false) { s with heap := h', toks := tk' }),
  wpAny (model PySem.Challenge.rw_fp5001_01.prog w) ((A0 dp un gd outer).deeper (fnv cn nms L a ccd)) (call (.ref 771) [.int bits t4]) Q E s := by
  k_fill
  intro w mean mg mb dp un gd outer news cn nms a ccd base h₀ L m s Q E t4 bits hB hF hK hN hT hD hdp hun hb1 hb2 hret
  k_steps
  exact hret _ _ (by k_asm) (by k_asm)
end
local macro_rules | `(tactic| k_enter) => `(tactic| ((fail_if_success k_inElt); kts_any; kts_go))
theorem wr_bad : ∀ {w : World} {mean : ExcName → Option Value} {mg mb : Str → Option Value} {dp un : Nat} {gd : Option (List Code)} {outer : List Env} {news : List (Addr × Obj)} {cn : Str} {nms : List (Str × NameKind)} {a : Addr} {ccd : Value} {base h₀ : Heap} {L : Addr} {m : Str → Option Value} {s : Shared} {Q E : Value → Shared → Prop} {g₀ : Heap} {v : Value} {t1 : Tok}
  (hB : Below (A0 dp un gd outer) base outer h₀) (hF : Fr h₀ L s.heap m) (hK : (hd.heap_39 w.params).In h₀) (hN : News h₀ L s.heap news) (hT : Top hd.view_39 LL mean mg mb h₀) (hD : KtsDicts (outer.filterMap (·.frame)) h₀) (hdp : dp + 40 < recursionLimit) (hun : un + 400 < cLine)
  (hKb : (hd.heap_39 w.params).In base) (hTb : Top hd.view_39 LL mean mg mb base) (hT0 : KtsTurn (outer.filterMap (·.frame)) g₀ h₀) (hv : BadB v)
  (hret : ∀ (kg h' : Heap) (tk' : Nat), KtsTurn (outer.filterMap (·.frame)) g₀ kg → Fr kg L h' m → News kg L h' news → Below (A0 dp un gd outer) base outer kg → (hd.heap_39 w.params).In kg → Top hd.view_39 LL mean mg mb kg → KtsDicts (outer.filterMap (·.frame)) kg → Q (.bool true) { s with heap := h', toks := tk' }),
  wpAny (model PySem.Challenge.rw_fp5001_01.prog w) ((A0 dp un gd outer).deeper (fnv cn nms L a ccd)) (call (.ref 771) [v]) Q E s := by
  k_fill
  intro w mean mg mb dp un gd outer news cn nms a ccd base h₀ L m s Q E g₀ v t1 hB hF hK hN hT hD hdp hun hKb hTb hT0 hv hret
  k_steps
  all_goals exact hret _ _ _ (by assumption) (by k_asm) (by k_asm) (by assumption) (by assumption) (by assumption) (by assumption)
theorem wb_bad : ∀ {w : World} {mean : ExcName → Option Value} {mg mb : Str → Option Value} {dp un : Nat} {gd : Option (List Code)} {outer : List Env} {news : List (Addr × Obj)} {cn : Str} {nms : List (Str × NameKind)} {a : Addr} {ccd : Value} {base h₀ : Heap} {L : Addr} {m : Str → Option Value} {s : Shared} {Q E : Value → Shared → Prop} {g₀ : Heap} {v : Value} {t1 : Tok}
  (hB : Below (A0 dp un gd outer) base outer h₀) (hF : Fr h₀ L s.heap m) (hK : (hd.heap_39 w.params).In h₀) (hN : News h₀ L s.heap news) (hT : Top hd.view_39 LL mean mg mb h₀) (hD : KtsDicts (outer.filterMap (·.frame)) h₀) (hdp : dp + 40 < recursionLimit) (hun : un + 400 < cLine)
  (hKb : (hd.heap_39 w.params).In base) (hTb : Top hd.view_39 LL mean mg mb base) (hT0 : KtsTurn (outer.filterMap (·.frame)) g₀ h₀) (hv : BadB v)
  (hret : ∀ (kg h' : Heap) (tk' : Nat), KtsTurn (outer.filterMap (·.frame)) g₀ kg → Fr kg L h' m → News kg L h' news → Below (A0 dp un gd outer) base outer kg → (hd.heap_39 w.params).In kg → Top hd.view_39 LL mean mg mb kg → KtsDicts (outer.filterMap (·.frame)) kg → Q (.none) { s with heap := h', toks := tk' }),
  wpAny (model PySem.Challenge.rw_fp5001_01.prog w) ((A0 dp un gd outer).deeper (fnv cn nms L a ccd)) (call (.ref 764) [.int 1 t1, v]) Q E s := by
  k_fill
  intro w mean mg mb dp un gd outer news cn nms a ccd base h₀ L m s Q E g₀ v t1 hB hF hK hN hT hD hdp hun hKb hTb hT0 hv hret
  k_steps
  all_goals exact hret _ _ _ (by assumption) (by k_asm) (by k_asm) (by assumption) (by assumption) (by assumption) (by assumption)
theorem wr_low : ∀ {w : World} {mean : ExcName → Option Value} {mg mb : Str → Option Value} {dp un : Nat} {gd : Option (List Code)} {outer : List Env} {news : List (Addr × Obj)} {cn : Str} {nms : List (Str × NameKind)} {a : Addr} {ccd : Value} {base h₀ : Heap} {L : Addr} {m : Str → Option Value} {s : Shared} {Q E : Value → Shared → Prop} {g₀ : Heap} {bits : Int} {t4 : Tok}
  (hB : Below (A0 dp un gd outer) base outer h₀) (hF : Fr h₀ L s.heap m) (hK : (hd.heap_39 w.params).In h₀) (hN : News h₀ L s.heap news) (hT : Top hd.view_39 LL mean mg mb h₀) (hD : KtsDicts (outer.filterMap (·.frame)) h₀) (hdp : dp + 40 < recursionLimit) (hun : un + 400 < cLine)
  (hKb : (hd.heap_39 w.params).In base) (hTb : Top hd.view_39 LL mean mg mb base) (hT0 : KtsTurn (outer.filterMap (·.frame)) g₀ h₀) (hb1 : bits ≤ 0) (hb2 : -1000 ≤ bits)
  (hret : ∀ (kg h' : Heap) (tk' : Nat), KtsTurn (outer.filterMap (·.frame)) g₀ kg → Fr kg L h' m → News kg L h' news → Below (A0 dp un gd outer) base outer kg → (hd.heap_39 w.params).In kg → Top hd.view_39 LL mean mg mb kg → KtsDicts (outer.filterMap (·.frame)) kg → Q (.bool true) { s with heap := h', toks := tk' }),
  wpAny (model PySem.Challenge.rw_fp5001_01.prog w) ((A0 dp un gd outer).deeper (fnv cn nms L a ccd)) (call (.ref 771) [.int bits t4]) Q E s := by
  intro w mean mg mb dp un gd outer news cn nms a ccd base h₀ L m s Q E g₀ bits t4 hB hF hK hN hT hD hdp hun hKb hTb hT0 hb1 hb2 hret
  exact wr_bad (t1 := 0) hB hF hK hN hT hD hdp hun hKb hTb hT0 (.inl ⟨_, _, rfl, .inl hb1, hb2, by omega⟩) hret
theorem wr_high : ∀ {w : World} {mean : ExcName → Option Value} {mg mb : Str → Option Value} {dp un : Nat} {gd : Option (List Code)} {outer : List Env} {news : List (Addr × Obj)} {cn : Str} {nms : List (Str × NameKind)} {a : Addr} {ccd : Value} {base h₀ : Heap} {L : Addr} {m : Str → Option Value} {s : Shared} {Q E : Value → Shared → Prop} {g₀ : Heap} {bits : Int} {t4 : Tok}
  (hB : Below (A0 dp un gd outer) base outer h₀) (hF : Fr h₀ L s.heap m) (hK : (hd.heap_39 w.params).In h₀) (hN : News h₀ L s.heap news) (hT : Top hd.view_39 LL mean mg mb h₀) (hD : KtsDicts (outer.filterMap (·.frame)) h₀) (hdp : dp + 40 < recursionLimit) (hun : un + 400 < cLine)
  (hKb : (hd.heap_39 w.params).In base) (hTb : Top hd.view_39 LL mean mg mb base) (hT0 : KtsTurn (outer.filterMap (·.frame)) g₀ h₀) (hb1 : 65 ≤ bits) (hb2 : bits ≤ 1180591620717411303424)
  (hret : ∀ (kg h' : Heap) (tk' : Nat), KtsTurn (outer.filterMap (·.frame)) g₀ kg → Fr kg L h' m → News kg L h' news → Below (A0 dp un gd outer) base outer kg → (hd.heap_39 w.params).In kg → Top hd.view_39 LL mean mg mb kg → KtsDicts (outer.filterMap (·.frame)) kg → Q (.bool true) { s with heap := h', toks := tk' }),
  wpAny (model PySem.Challenge.rw_fp5001_01.prog w) ((A0 dp un gd outer).deeper (fnv cn nms L a ccd)) (call (.ref 771) [.int bits t4]) Q E s := by
  intro w mean mg mb dp un gd outer news cn nms a ccd base h₀ L m s Q E g₀ bits t4 hB hF hK hN hT hD hdp hun hKb hTb hT0 hb1 hb2 hret
  exact wr_bad (t1 := 0) hB hF hK hN hT hD hdp hun hKb hTb hT0 (.inl ⟨_, _, rfl, .inr hb1, by omega, hb2⟩) hret
theorem wr_true : ∀ {w : World} {mean : ExcName → Option Value} {mg mb : Str → Option Value} {dp un : Nat} {gd : Option (List Code)} {outer : List Env} {news : List (Addr × Obj)} {cn : Str} {nms : List (Str × NameKind)} {a : Addr} {ccd : Value} {base h₀ : Heap} {L : Addr} {m : Str → Option Value} {s : Shared} {Q E : Value → Shared → Prop} {g₀ : Heap}
  (hB : Below (A0 dp un gd outer) base outer h₀) (hF : Fr h₀ L s.heap m) (hK : (hd.heap_39 w.params).In h₀) (hN : News h₀ L s.heap news) (hT : Top hd.view_39 LL mean mg mb h₀) (hD : KtsDicts (outer.filterMap (·.frame)) h₀) (hdp : dp + 40 < recursionLimit) (hun : un + 400 < cLine)
  (hKb : (hd.heap_39 w.params).In base) (hTb : Top hd.view_39 LL mean mg mb base) (hT0 : KtsTurn (outer.filterMap (·.frame)) g₀ h₀) 
  (hret : ∀ (kg h' : Heap) (tk' : Nat), KtsTurn (outer.filterMap (·.frame)) g₀ kg → Fr kg L h' m → News kg L h' news → Below (A0 dp un gd outer) base outer kg → (hd.heap_39 w.params).In kg → Top hd.view_39 LL mean mg mb kg → KtsDicts (outer.filterMap (·.frame)) kg → Q (.bool true) { s with heap := h', toks := tk' }),
  wpAny (model PySem.Challenge.rw_fp5001_01.prog w) ((A0 dp un gd outer).deeper (fnv cn nms L a ccd)) (call (.ref 771) [.bool true]) Q E s := by
  intro w mean mg mb dp un gd outer news cn nms a ccd base h₀ L m s Q E g₀ hB hF hK hN hT hD hdp hun hKb hTb hT0  hret
  exact wr_bad (t1 := 0) hB hF hK hN hT hD hdp hun hKb hTb hT0 (.inr (.inl ⟨_, rfl⟩)) hret
theorem wr_false : ∀ {w : World} {mean : ExcName → Option Value} {mg mb : Str → Option Value} {dp un : Nat} {gd : Option (List Code)} {outer : List Env} {news : List (Addr × Obj)} {cn : Str} {nms : List (Str × NameKind)} {a : Addr} {ccd : Value} {base h₀ : Heap} {L : Addr} {m : Str → Option Value} {s : Shared} {Q E : Value → Shared → Prop} {g₀ : Heap}
  (hB : Below (A0 dp un gd outer) base outer h₀) (hF : Fr h₀ L s.heap m) (hK : (hd.heap_39 w.params).In h₀) (hN : News h₀ L s.heap news) (hT : Top hd.view_39 LL mean mg mb h₀) (hD : KtsDicts (outer.filterMap (·.frame)) h₀) (hdp : dp + 40 < recursionLimit) (hun : un + 400 < cLine)
  (hKb : (hd.heap_39 w.params).In base) (hTb : Top hd.view_39 LL mean mg mb base) (hT0 : KtsTurn (outer.filterMap (·.frame)) g₀ h₀) 
  (hret : ∀ (kg h' : Heap) (tk' : Nat), KtsTurn (outer.filterMap (·.frame)) g₀ kg → Fr kg L h' m → News kg L h' news → Below (A0 dp un gd outer) base outer kg → (hd.heap_39 w.params).In kg → Top hd.view_39 LL mean mg mb kg → KtsDicts (outer.filterMap (·.frame)) kg → Q (.bool true) { s with heap := h', toks := tk' }),
  wpAny (model PySem.Challenge.rw_fp5001_01.prog w) ((A0 dp un gd outer).deeper (fnv cn nms L a ccd)) (call (.ref 771) [.bool false]) Q E s := by
  intro w mean mg mb dp un gd outer news cn nms a ccd base h₀ L m s Q E g₀ hB hF hK hN hT hD hdp hun hKb hTb hT0  hret
  exact wr_bad (t1 := 0) hB hF hK hN hT hD hdp hun hKb hTb hT0 (.inr (.inl ⟨_, rfl⟩)) hret
theorem wr_none : ∀ {w : World} {mean : ExcName → Option Value} {mg mb : Str → Option Value} {dp un : Nat} {gd : Option (List Code)} {outer : List Env} {news : List (Addr × Obj)} {cn : Str} {nms : List (Str × NameKind)} {a : Addr} {ccd : Value} {base h₀ : Heap} {L : Addr} {m : Str → Option Value} {s : Shared} {Q E : Value → Shared → Prop} {g₀ : Heap}
  (hB : Below (A0 dp un gd outer) base outer h₀) (hF : Fr h₀ L s.heap m) (hK : (hd.heap_39 w.params).In h₀) (hN : News h₀ L s.heap news) (hT : Top hd.view_39 LL mean mg mb h₀) (hD : KtsDicts (outer.filterMap (·.frame)) h₀) (hdp : dp + 40 < recursionLimit) (hun : un + 400 < cLine)
  (hKb : (hd.heap_39 w.params).In base) (hTb : Top hd.view_39 LL mean mg mb base) (hT0 : KtsTurn (outer.filterMap (·.frame)) g₀ h₀) 
  (hret : ∀ (kg h' : Heap) (tk' : Nat), KtsTurn (outer.filterMap (·.frame)) g₀ kg → Fr kg L h' m → News kg L h' news → Below (A0 dp un gd outer) base outer kg → (hd.heap_39 w.params).In kg → Top hd.view_39 LL mean mg mb kg → KtsDicts (outer.filterMap (·.frame)) kg → Q (.bool true) { s with heap := h', toks := tk' }),
  wpAny (model PySem.Challenge.rw_fp5001_01.prog w) ((A0 dp un gd outer).deeper (fnv cn nms L a ccd)) (call (.ref 771) [.none]) Q E s := by
  intro w mean mg mb dp un gd outer news cn nms a ccd base h₀ L m s Q E g₀ hB hF hK hN hT hD hdp hun hKb hTb hT0  hret
  exact wr_bad (t1 := 0) hB hF hK hN hT hD hdp hun hKb hTb hT0 (.inr (.inr (.inl rfl))) hret
theorem wr_str : ∀ {w : World} {mean : ExcName → Option Value} {mg mb : Str → Option Value} {dp un : Nat} {gd : Option (List Code)} {outer : List Env} {news : List (Addr × Obj)} {cn : Str} {nms : List (Str × NameKind)} {a : Addr} {ccd : Value} {base h₀ : Heap} {L : Addr} {m : Str → Option Value} {s : Shared} {Q E : Value → Shared → Prop} {g₀ : Heap} {t4 : Tok}
  (hB : Below (A0 dp un gd outer) base outer h₀) (hF : Fr h₀ L s.heap m) (hK : (hd.heap_39 w.params).In h₀) (hN : News h₀ L s.heap news) (hT : Top hd.view_39 LL mean mg mb h₀) (hD : KtsDicts (outer.filterMap (·.frame)) h₀) (hdp : dp + 40 < recursionLimit) (hun : un + 400 < cLine)
  (hKb : (hd.heap_39 w.params).In base) (hTb : Top hd.view_39 LL mean mg mb base) (hT0 : KtsTurn (outer.filterMap (·.frame)) g₀ h₀) 
  (hret : ∀ (kg h' : Heap) (tk' : Nat), KtsTurn (outer.filterMap (·.frame)) g₀ kg → Fr kg L h' m → News kg L h' news → Below (A0 dp un gd outer) base outer kg → (hd.heap_39 w.params).In kg → Top hd.view_39 LL mean mg mb kg → KtsDicts (outer.filterMap (·.frame)) kg → Q (.bool true) { s with heap := h', toks := tk' }),
  wpAny (model PySem.Challenge.rw_fp5001_01.prog w) ((A0 dp un gd outer).deeper (fnv cn nms L a ccd)) (call (.ref 771) [.str (Str.ofString "8") t4]) Q E s := by
  intro w mean mg mb dp un gd outer news cn nms a ccd base h₀ L m s Q E g₀ t4 hB hF hK hN hT hD hdp hun hKb hTb hT0  hret
  exact wr_bad (t1 := 0) hB hF hK hN hT hD hdp hun hKb hTb hT0 (.inr (.inr (.inr ⟨_, rfl⟩))) hret
theorem wb_low : ∀ {w : World} {mean : ExcName → Option Value} {mg mb : Str → Option Value} {dp un : Nat} {gd : Option (List Code)} {outer : List Env} {news : List (Addr × Obj)} {cn : Str} {nms : List (Str × NameKind)} {a : Addr} {ccd : Value} {base h₀ : Heap} {L : Addr} {m : Str → Option Value} {s : Shared} {Q E : Value → Shared → Prop} {g₀ : Heap} {t1 : Tok} {bits : Int} {t4 : Tok}
  (hB : Below (A0 dp un gd outer) base outer h₀) (hF : Fr h₀ L s.heap m) (hK : (hd.heap_39 w.params).In h₀) (hN : News h₀ L s.heap news) (hT : Top hd.view_39 LL mean mg mb h₀) (hD : KtsDicts (outer.filterMap (·.frame)) h₀) (hdp : dp + 40 < recursionLimit) (hun : un + 400 < cLine)
  (hKb : (hd.heap_39 w.params).In base) (hTb : Top hd.view_39 LL mean mg mb base) (hT0 : KtsTurn (outer.filterMap (·.frame)) g₀ h₀) (hb1 : bits ≤ 0) (hb2 : -1000 ≤ bits)
  (hret : ∀ (kg h' : Heap) (tk' : Nat), KtsTurn (outer.filterMap (·.frame)) g₀ kg → Fr kg L h' m → News kg L h' news → Below (A0 dp un gd outer) base outer kg → (hd.heap_39 w.params).In kg → Top hd.view_39 LL mean mg mb kg → KtsDicts (outer.filterMap (·.frame)) kg → Q (.none) { s with heap := h', toks := tk' }),
  wpAny (model PySem.Challenge.rw_fp5001_01.prog w) ((A0 dp un gd outer).deeper (fnv cn nms L a ccd)) (call (.ref 764) [.int 1 t1, .int bits t4]) Q E s := by
  intro w mean mg mb dp un gd outer news cn nms a ccd base h₀ L m s Q E g₀ t1 bits t4 hB hF hK hN hT hD hdp hun hKb hTb hT0 hb1 hb2 hret
  exact wb_bad hB hF hK hN hT hD hdp hun hKb hTb hT0 (.inl ⟨_, _, rfl, .inl hb1, hb2, by omega⟩) hret
theorem wb_high : ∀ {w : World} {mean : ExcName → Option Value} {mg mb : Str → Option Value} {dp un : Nat} {gd : Option (List Code)} {outer : List Env} {news : List (Addr × Obj)} {cn : Str} {nms : List (Str × NameKind)} {a : Addr} {ccd : Value} {base h₀ : Heap} {L : Addr} {m : Str → Option Value} {s : Shared} {Q E : Value → Shared → Prop} {g₀ : Heap} {t1 : Tok} {bits : Int} {t4 : Tok}
  (hB : Below (A0 dp un gd outer) base outer h₀) (hF : Fr h₀ L s.heap m) (hK : (hd.heap_39 w.params).In h₀) (hN : News h₀ L s.heap news) (hT : Top hd.view_39 LL mean mg mb h₀) (hD : KtsDicts (outer.filterMap (·.frame)) h₀) (hdp : dp + 40 < recursionLimit) (hun : un + 400 < cLine)
  (hKb : (hd.heap_39 w.params).In base) (hTb : Top hd.view_39 LL mean mg mb base) (hT0 : KtsTurn (outer.filterMap (·.frame)) g₀ h₀) (hb1 : 65 ≤ bits) (hb2 : bits ≤ 1180591620717411303424)
  (hret : ∀ (kg h' : Heap) (tk' : Nat), KtsTurn (outer.filterMap (·.frame)) g₀ kg → Fr kg L h' m → News kg L h' news → Below (A0 dp un gd outer) base outer kg → (hd.heap_39 w.params).In kg → Top hd.view_39 LL mean mg mb kg → KtsDicts (outer.filterMap (·.frame)) kg → Q (.none) { s with heap := h', toks := tk' }),
  wpAny (model PySem.Challenge.rw_fp5001_01.prog w) ((A0 dp un gd outer).deeper (fnv cn nms L a ccd)) (call (.ref 764) [.int 1 t1, .int bits t4]) Q E s := by
  intro w mean mg mb dp un gd outer news cn nms a ccd base h₀ L m s Q E g₀ t1 bits t4 hB hF hK hN hT hD hdp hun hKb hTb hT0 hb1 hb2 hret
  exact wb_bad hB hF hK hN hT hD hdp hun hKb hTb hT0 (.inl ⟨_, _, rfl, .inr hb1, by omega, hb2⟩) hret
theorem wb_true : ∀ {w : World} {mean : ExcName → Option Value} {mg mb : Str → Option Value} {dp un : Nat} {gd : Option (List Code)} {outer : List Env} {news : List (Addr × Obj)} {cn : Str} {nms : List (Str × NameKind)} {a : Addr} {ccd : Value} {base h₀ : Heap} {L : Addr} {m : Str → Option Value} {s : Shared} {Q E : Value → Shared → Prop} {g₀ : Heap} {t1 : Tok}
  (hB : Below (A0 dp un gd outer) base outer h₀) (hF : Fr h₀ L s.heap m) (hK : (hd.heap_39 w.params).In h₀) (hN : News h₀ L s.heap news) (hT : Top hd.view_39 LL mean mg mb h₀) (hD : KtsDicts (outer.filterMap (·.frame)) h₀) (hdp : dp + 40 < recursionLimit) (hun : un + 400 < cLine)
  (hKb : (hd.heap_39 w.params).In base) (hTb : Top hd.view_39 LL mean mg mb base) (hT0 : KtsTurn (outer.filterMap (·.frame)) g₀ h₀) 
  (hret : ∀ (kg h' : Heap) (tk' : Nat), KtsTurn (outer.filterMap (·.frame)) g₀ kg → Fr kg L h' m → News kg L h' news → Below (A0 dp un gd outer) base outer kg → (hd.heap_39 w.params).In kg → Top hd.view_39 LL mean mg mb kg → KtsDicts (outer.filterMap (·.frame)) kg → Q (.none) { s with heap := h', toks := tk' }),
  wpAny (model PySem.Challenge.rw_fp5001_01.prog w) ((A0 dp un gd outer).deeper (fnv cn nms L a ccd)) (call (.ref 764) [.int 1 t1, .bool true]) Q E s := by
  intro w mean mg mb dp un gd outer news cn nms a ccd base h₀ L m s Q E g₀ t1 hB hF hK hN hT hD hdp hun hKb hTb hT0  hret
  exact wb_bad hB hF hK hN hT hD hdp hun hKb hTb hT0 (.inr (.inl ⟨_, rfl⟩)) hret
theorem wb_false : ∀ {w : World} {mean : ExcName → Option Value} {mg mb : Str → Option Value} {dp un : Nat} {gd : Option (List Code)} {outer : List Env} {news : List (Addr × Obj)} {cn : Str} {nms : List (Str × NameKind)} {a : Addr} {ccd : Value} {base h₀ : Heap} {L : Addr} {m : Str → Option Value} {s : Shared} {Q E : Value → Shared → Prop} {g₀ : Heap} {t1 : Tok}
  (hB : Below (A0 dp un gd outer) base outer h₀) (hF : Fr h₀ L s.heap m) (hK : (hd.heap_39 w.params).In h₀) (hN : News h₀ L s.heap news) (hT : Top hd.view_39 LL mean mg mb h₀) (hD : KtsDicts (outer.filterMap (·.frame)) h₀) (hdp : dp + 40 < recursionLimit) (hun : un + 400 < cLine)
  (hKb : (hd.heap_39 w.params).In base) (hTb : Top hd.view_39 LL mean mg mb base) (hT0 : KtsTurn (outer.filterMap (·.frame)) g₀ h₀) 
  (hret : ∀ (kg h' : Heap) (tk' : Nat), KtsTurn (outer.filterMap (·.frame)) g₀ kg → Fr kg L h' m → News kg L h' news → Below (A0 dp un gd outer) base outer kg → (hd.heap_39 w.params).In kg → Top hd.view_39 LL mean mg mb kg → KtsDicts (outer.filterMap (·.frame)) kg → Q (.none) { s with heap := h', toks := tk' }),
  wpAny (model PySem.Challenge.rw_fp5001_01.prog w) ((A0 dp un gd outer).deeper (fnv cn nms L a ccd)) (call (.ref 764) [.int 1 t1, .bool false]) Q E s := by
  intro w mean mg mb dp un gd outer news cn nms a ccd base h₀ L m s Q E g₀ t1 hB hF hK hN hT hD hdp hun hKb hTb hT0  hret
  exact wb_bad hB hF hK hN hT hD hdp hun hKb hTb hT0 (.inr (.inl ⟨_, rfl⟩)) hret
theorem wb_none : ∀ {w : World} {mean : ExcName → Option Value} {mg mb : Str → Option Value} {dp un : Nat} {gd : Option (List Code)} {outer : List Env} {news : List (Addr × Obj)} {cn : Str} {nms : List (Str × NameKind)} {a : Addr} {ccd : Value} {base h₀ : Heap} {L : Addr} {m : Str → Option Value} {s : Shared} {Q E : Value → Shared → Prop} {g₀ : Heap} {t1 : Tok}
  (hB : Below (A0 dp un gd outer) base outer h₀) (hF : Fr h₀ L s.heap m) (hK : (hd.heap_39 w.params).In h₀) (hN : News h₀ L s.heap news) (hT : Top hd.view_39 LL mean mg mb h₀) (hD : KtsDicts (outer.filterMap (·.frame)) h₀) (hdp : dp + 40 < recursionLimit) (hun : un + 400 < cLine)
  (hKb : (hd.heap_39 w.params).In base) (hTb : Top hd.view_39 LL mean mg mb base) (hT0 : KtsTurn (outer.filterMap (·.frame)) g₀ h₀) 
  (hret : ∀ (kg h' : Heap) (tk' : Nat), KtsTurn (outer.filterMap (·.frame)) g₀ kg → Fr kg L h' m → News kg L h' news → Below (A0 dp un gd outer) base outer kg → (hd.heap_39 w.params).In kg → Top hd.view_39 LL mean mg mb kg → KtsDicts (outer.filterMap (·.frame)) kg → Q (.none) { s with heap := h', toks := tk' }),
  wpAny (model PySem.Challenge.rw_fp5001_01.prog w) ((A0 dp un gd outer).deeper (fnv cn nms L a ccd)) (call (.ref 764) [.int 1 t1, .none]) Q E s := by
  intro w mean mg mb dp un gd outer news cn nms a ccd base h₀ L m s Q E g₀ t1 hB hF hK hN hT hD hdp hun hKb hTb hT0  hret
  exact wb_bad hB hF hK hN hT hD hdp hun hKb hTb hT0 (.inr (.inr (.inl rfl))) hret
theorem wb_str : ∀ {w : World} {mean : ExcName → Option Value} {mg mb : Str → Option Value} {dp un : Nat} {gd : Option (List Code)} {outer : List Env} {news : List (Addr × Obj)} {cn : Str} {nms : List (Str × NameKind)} {a : Addr} {ccd : Value} {base h₀ : Heap} {L : Addr} {m : Str → Option Value} {s : Shared} {Q E : Value → Shared → Prop} {g₀ : Heap} {t1 : Tok} {t4 : Tok}
  (hB : Below (A0 dp un gd outer) base outer h₀) (hF : Fr h₀ L s.heap m) (hK : (hd.heap_39 w.params).In h₀) (hN : News h₀ L s.heap news) (hT : Top hd.view_39 LL mean mg mb h₀) (hD : KtsDicts (outer.filterMap (·.frame)) h₀) (hdp : dp + 40 < recursionLimit) (hun : un + 400 < cLine)
  (hKb : (hd.heap_39 w.params).In base) (hTb : Top hd.view_39 LL mean mg mb base) (hT0 : KtsTurn (outer.filterMap (·.frame)) g₀ h₀) 
  (hret : ∀ (kg h' : Heap) (tk' : Nat), KtsTurn (outer.filterMap (·.frame)) g₀ kg → Fr kg L h' m → News kg L h' news → Below (A0 dp un gd outer) base outer kg → (hd.heap_39 w.params).In kg → Top hd.view_39 LL mean mg mb kg → KtsDicts (outer.filterMap (·.frame)) kg → Q (.none) { s with heap := h', toks := tk' }),
  wpAny (model PySem.Challenge.rw_fp5001_01.prog w) ((A0 dp un gd outer).deeper (fnv cn nms L a ccd)) (call (.ref 764) [.int 1 t1, .str (Str.ofString "8") t4]) Q E s := by
  intro w mean mg mb dp un gd outer news cn nms a ccd base h₀ L m s Q E g₀ t1 t4 hB hF hK hN hT hD hdp hun hKb hTb hT0  hret
  exact wb_bad hB hF hK hN hT hD hdp hun hKb hTb hT0 (.inr (.inr (.inr ⟨_, rfl⟩))) hret
end
section
local macro_rules | `(tactic| k_enter) => `(tactic| ((fail_if_success k_inElt); kts_any; kts_go))
theorem nr_in : ∀ {w : World} {mean : ExcName → Option Value} {mg mb : Str → Option Value} {dp un : Nat} {gd : Option (List Code)} {outer : List Env} {news : List (Addr × Obj)} {cn : Str} {nms : List (Str × NameKind)} {a : Addr} {ccd : Value} {base h₀ : Heap} {L : Addr} {m : Str → Option Value} {s : Shared} {Q E : Value → Shared → Prop} {g₀ : Heap} {bits : Int} {t4 : Tok} {num : Int} {t : Tok}
  (hB : Below (A0 dp un gd outer) base outer h₀) (hF : Fr h₀ L s.heap m) (hK : (hd.heap_39 w.params).In h₀) (hN : News h₀ L s.heap news) (hT : Top hd.view_39 LL mean mg mb h₀) (hD : KtsDicts (outer.filterMap (·.frame)) h₀) (hdp : dp + 40 < recursionLimit) (hun : un + 400 < cLine)
  (hKb : (hd.heap_39 w.params).In base) (hTb : Top hd.view_39 LL mean mg mb base) (hT0 : KtsTurn (outer.filterMap (·.frame)) g₀ h₀) (hb1 : 1 ≤ bits) (hb2 : bits ≤ 64) (hn0 : 0 ≤ num) (hn1 : num < 2 ^ bits.toNat)
  (hret : ∀ (kg h' : Heap) (tk' : Nat), KtsTurn (outer.filterMap (·.frame)) g₀ kg → Fr kg L h' m → News kg L h' news → Below (A0 dp un gd outer) base outer kg → (hd.heap_39 w.params).In kg → Top hd.view_39 LL mean mg mb kg → KtsDicts (outer.filterMap (·.frame)) kg → Q (.none) { s with heap := h', toks := tk' }),
  wpAny (model PySem.Challenge.rw_fp5001_01.prog w) ((A0 dp un gd outer).deeper (fnv cn nms L a ccd)) (call (.ref 778) [.int num t, .int bits t4]) Q E s := by
  k_fill
  intro w mean mg mb dp un gd outer news cn nms a ccd base h₀ L m s Q E g₀ bits t4 num t hB hF hK hN hT hD hdp hun hKb hTb hT0 hb1 hb2 hn0 hn1 hret
  have hP1 := pow_lo hb1
  have hP2 := pow_hi hb1 hb2
  k_steps
  exact hret h₀ _ _ hT0 (by k_asm) (by k_asm) hB hK hT (by assumption)
theorem nr_out : ∀ {w : World} {mean : ExcName → Option Value} {mg mb : Str → Option Value} {dp un : Nat} {gd : Option (List Code)} {outer : List Env} {news : List (Addr × Obj)} {cn : Str} {nms : List (Str × NameKind)} {a : Addr} {ccd : Value} {base h₀ : Heap} {L : Addr} {m : Str → Option Value} {s : Shared} {Q E : Value → Shared → Prop} {g₀ : Heap} {bits : Int} {t4 : Tok} {num : Int} {t : Tok}
  (hB : Below (A0 dp un gd outer) base outer h₀) (hF : Fr h₀ L s.heap m) (hK : (hd.heap_39 w.params).In h₀) (hN : News h₀ L s.heap news) (hT : Top hd.view_39 LL mean mg mb h₀) (hD : KtsDicts (outer.filterMap (·.frame)) h₀) (hdp : dp + 40 < recursionLimit) (hun : un + 400 < cLine)
  (hKb : (hd.heap_39 w.params).In base) (hTb : Top hd.view_39 LL mean mg mb base) (hT0 : KtsTurn (outer.filterMap (·.frame)) g₀ h₀) (hb1 : 1 ≤ bits) (hb2 : bits ≤ 64) (hn0 : 2 ^ bits.toNat ≤ num) (hn1 : num ≤ 2 ^ 64)
  (hret : ∀ (kg h' : Heap) (tk' : Nat) (tv : Tok), KtsTurn (outer.filterMap (·.frame)) g₀ kg → Fr kg L h' m → News kg L h' news → Below (A0 dp un gd outer) base outer kg → (hd.heap_39 w.params).In kg → Top hd.view_39 LL mean mg mb kg → KtsDicts (outer.filterMap (·.frame)) kg → Q (.str (Str.ofString "value") tv) { s with heap := h', toks := tk' }),
  wpAny (model PySem.Challenge.rw_fp5001_01.prog w) ((A0 dp un gd outer).deeper (fnv cn nms L a ccd)) (call (.ref 778) [.int num t, .int bits t4]) Q E s := by
  k_fill
  intro w mean mg mb dp un gd outer news cn nms a ccd base h₀ L m s Q E g₀ bits t4 num t hB hF hK hN hT hD hdp hun hKb hTb hT0 hb1 hb2 hn0 hn1 hret
  have hP1 := pow_lo hb1
  have hP2 := pow_hi hb1 hb2
  k_steps
  all_goals exact hret _ _ _ _ (by assumption) (by k_asm) (by k_asm) (by assumption) (by assumption) (by assumption) (by assumption)
theorem nr_neg : ∀ {w : World} {mean : ExcName → Option Value} {mg mb : Str → Option Value} {dp un : Nat} {gd : Option (List Code)} {outer : List Env} {news : List (Addr × Obj)} {cn : Str} {nms : List (Str × NameKind)} {a : Addr} {ccd : Value} {base h₀ : Heap} {L : Addr} {m : Str → Option Value} {s : Shared} {Q E : Value → Shared → Prop} {g₀ : Heap} {bits : Int} {t4 : Tok} {num : Int} {t : Tok}
  (hB : Below (A0 dp un gd outer) base outer h₀) (hF : Fr h₀ L s.heap m) (hK : (hd.heap_39 w.params).In h₀) (hN : News h₀ L s.heap news) (hT : Top hd.view_39 LL mean mg mb h₀) (hD : KtsDicts (outer.filterMap (·.frame)) h₀) (hdp : dp + 40 < recursionLimit) (hun : un + 400 < cLine)
  (hKb : (hd.heap_39 w.params).In base) (hTb : Top hd.view_39 LL mean mg mb base) (hT0 : KtsTurn (outer.filterMap (·.frame)) g₀ h₀) (hb1 : 1 ≤ bits) (hb2 : bits ≤ 64) (hn0 : num < 0) (hn1 : -1000 ≤ num)
  (hret : ∀ (kg h' : Heap) (tk' : Nat) (tv : Tok), KtsTurn (outer.filterMap (·.frame)) g₀ kg → Fr kg L h' m → News kg L h' news → Below (A0 dp un gd outer) base outer kg → (hd.heap_39 w.params).In kg → Top hd.view_39 LL mean mg mb kg → KtsDicts (outer.filterMap (·.frame)) kg → Q (.str (Str.ofString "value") tv) { s with heap := h', toks := tk' }),
  wpAny (model PySem.Challenge.rw_fp5001_01.prog w) ((A0 dp un gd outer).deeper (fnv cn nms L a ccd)) (call (.ref 778) [.int num t, .int bits t4]) Q E s := by
  k_fill
  intro w mean mg mb dp un gd outer news cn nms a ccd base h₀ L m s Q E g₀ bits t4 num t hB hF hK hN hT hD hdp hun hKb hTb hT0 hb1 hb2 hn0 hn1 hret
  have hP1 := pow_lo hb1
  have hP2 := pow_hi hb1 hb2
  k_steps
  all_goals exact hret _ _ _ _ (by assumption) (by k_asm) (by k_asm) (by assumption) (by assumption) (by assumption) (by assumption)
theorem nr_true : ∀ {w : World} {mean : ExcName → Option Value} {mg mb : Str → Option Value} {dp un : Nat} {gd : Option (List Code)} {outer : List Env} {news : List (Addr × Obj)} {cn : Str} {nms : List (Str × NameKind)} {a : Addr} {ccd : Value} {base h₀ : Heap} {L : Addr} {m : Str → Option Value} {s : Shared} {Q E : Value → Shared → Prop} {g₀ : Heap} {bits : Int} {t4 : Tok} 
  (hB : Below (A0 dp un gd outer) base outer h₀) (hF : Fr h₀ L s.heap m) (hK : (hd.heap_39 w.params).In h₀) (hN : News h₀ L s.heap news) (hT : Top hd.view_39 LL mean mg mb h₀) (hD : KtsDicts (outer.filterMap (·.frame)) h₀) (hdp : dp + 40 < recursionLimit) (hun : un + 400 < cLine)
  (hKb : (hd.heap_39 w.params).In base) (hTb : Top hd.view_39 LL mean mg mb base) (hT0 : KtsTurn (outer.filterMap (·.frame)) g₀ h₀) (hb1 : 1 ≤ bits) (hb2 : bits ≤ 64) 
  (hret : ∀ (kg h' : Heap) (tk' : Nat) (tv : Tok), KtsTurn (outer.filterMap (·.frame)) g₀ kg → Fr kg L h' m → News kg L h' news → Below (A0 dp un gd outer) base outer kg → (hd.heap_39 w.params).In kg → Top hd.view_39 LL mean mg mb kg → KtsDicts (outer.filterMap (·.frame)) kg → Q (.str (Str.ofString "kind") tv) { s with heap := h', toks := tk' }),
  wpAny (model PySem.Challenge.rw_fp5001_01.prog w) ((A0 dp un gd outer).deeper (fnv cn nms L a ccd)) (call (.ref 778) [.bool true, .int bits t4]) Q E s := by
  k_fill
  intro w mean mg mb dp un gd outer news cn nms a ccd base h₀ L m s Q E g₀ bits t4 hB hF hK hN hT hD hdp hun hKb hTb hT0 hb1 hb2  hret
  have hP1 := pow_lo hb1
  have hP2 := pow_hi hb1 hb2
  k_steps
  all_goals exact hret _ _ _ _ (by assumption) (by k_asm) (by k_asm) (by assumption) (by assumption) (by assumption) (by assumption)
theorem nr_none : ∀ {w : World} {mean : ExcName → Option Value} {mg mb : Str → Option Value} {dp un : Nat} {gd : Option (List Code)} {outer : List Env} {news : List (Addr × Obj)} {cn : Str} {nms : List (Str × NameKind)} {a : Addr} {ccd : Value} {base h₀ : Heap} {L : Addr} {m : Str → Option Value} {s : Shared} {Q E : Value → Shared → Prop} {g₀ : Heap} {bits : Int} {t4 : Tok} 
  (hB : Below (A0 dp un gd outer) base outer h₀) (hF : Fr h₀ L s.heap m) (hK : (hd.heap_39 w.params).In h₀) (hN : News h₀ L s.heap news) (hT : Top hd.view_39 LL mean mg mb h₀) (hD : KtsDicts (outer.filterMap (·.frame)) h₀) (hdp : dp + 40 < recursionLimit) (hun : un + 400 < cLine)
  (hKb : (hd.heap_39 w.params).In base) (hTb : Top hd.view_39 LL mean mg mb base) (hT0 : KtsTurn (outer.filterMap (·.frame)) g₀ h₀) (hb1 : 1 ≤ bits) (hb2 : bits ≤ 64) 
  (hret : ∀ (kg h' : Heap) (tk' : Nat) (tv : Tok), KtsTurn (outer.filterMap (·.frame)) g₀ kg → Fr kg L h' m → News kg L h' news → Below (A0 dp un gd outer) base outer kg → (hd.heap_39 w.params).In kg → Top hd.view_39 LL mean mg mb kg → KtsDicts (outer.filterMap (·.frame)) kg → Q (.str (Str.ofString "kind") tv) { s with heap := h', toks := tk' }),
  wpAny (model PySem.Challenge.rw_fp5001_01.prog w) ((A0 dp un gd outer).deeper (fnv cn nms L a ccd)) (call (.ref 778) [.none, .int bits t4]) Q E s := by
  k_fill
  intro w mean mg mb dp un gd outer news cn nms a ccd base h₀ L m s Q E g₀ bits t4 hB hF hK hN hT hD hdp hun hKb hTb hT0 hb1 hb2  hret
  have hP1 := pow_lo hb1
  have hP2 := pow_hi hb1 hb2
  k_steps
  all_goals exact hret _ _ _ _ (by assumption) (by k_asm) (by k_asm) (by assumption) (by assumption) (by assumption) (by assumption)
theorem nr_str : ∀ {w : World} {mean : ExcName → Option Value} {mg mb : Str → Option Value} {dp un : Nat} {gd : Option (List Code)} {outer : List Env} {news : List (Addr × Obj)} {cn : Str} {nms : List (Str × NameKind)} {a : Addr} {ccd : Value} {base h₀ : Heap} {L : Addr} {m : Str → Option Value} {s : Shared} {Q E : Value → Shared → Prop} {g₀ : Heap} {bits : Int} {t4 : Tok} {t : Tok}
  (hB : Below (A0 dp un gd outer) base outer h₀) (hF : Fr h₀ L s.heap m) (hK : (hd.heap_39 w.params).In h₀) (hN : News h₀ L s.heap news) (hT : Top hd.view_39 LL mean mg mb h₀) (hD : KtsDicts (outer.filterMap (·.frame)) h₀) (hdp : dp + 40 < recursionLimit) (hun : un + 400 < cLine)
  (hKb : (hd.heap_39 w.params).In base) (hTb : Top hd.view_39 LL mean mg mb base) (hT0 : KtsTurn (outer.filterMap (·.frame)) g₀ h₀) (hb1 : 1 ≤ bits) (hb2 : bits ≤ 64) 
  (hret : ∀ (kg h' : Heap) (tk' : Nat) (tv : Tok), KtsTurn (outer.filterMap (·.frame)) g₀ kg → Fr kg L h' m → News kg L h' news → Below (A0 dp un gd outer) base outer kg → (hd.heap_39 w.params).In kg → Top hd.view_39 LL mean mg mb kg → KtsDicts (outer.filterMap (·.frame)) kg → Q (.str (Str.ofString "kind") tv) { s with heap := h', toks := tk' }),
  wpAny (model PySem.Challenge.rw_fp5001_01.prog w) ((A0 dp un gd outer).deeper (fnv cn nms L a ccd)) (call (.ref 778) [.str (Str.ofString "1") t, .int bits t4]) Q E s := by
  k_fill
  intro w mean mg mb dp un gd outer news cn nms a ccd base h₀ L m s Q E g₀ bits t4 t hB hF hK hN hT hD hdp hun hKb hTb hT0 hb1 hb2  hret
  have hP1 := pow_lo hb1
  have hP2 := pow_hi hb1 hb2
  k_steps
  all_goals exact hret _ _ _ _ (by assumption) (by k_asm) (by k_asm) (by assumption) (by assumption) (by assumption) (by assumption)
end
section
local macro_rules | `(tactic| walk_at "no such key") => `(tactic| fail)
theorem bo_con : ∀ {w : World} {mean : ExcName → Option Value} {mg mb : Str → Option Value} {dp un : Nat} {gd : Option (List Code)} {outer : List Env} {news : List (Addr × Obj)} {cn : Str} {nms : List (Str × NameKind)} {a : Addr} {ccd : Value} {base h₀ : Heap} {L : Addr} {m : Str → Option Value} {s : Shared} {Q E : Value → Shared → Prop} {b : Array UInt8} {t : Tok}
  (hB : Below (A0 dp un gd outer) base outer h₀) (hF : Fr h₀ L s.heap m) (hK : (hd.heap_39 w.params).In h₀) (hN : News h₀ L s.heap news) (hT : Top hd.view_39 LL mean mg mb h₀) (hD : KtsDicts (outer.filterMap (·.frame)) h₀) (hdp : dp + 12 < recursionLimit) (hun : un + 120 < cLine)
  (hz : b.size ≤ 64)
  (hret : ∀ (h' : Heap) (tk' : Nat), Fr h₀ L h' m → News h₀ L h' news → Q (.bytes b t) { s with heap := h', toks := tk' }),
  wpAny (model PySem.Challenge.rw_fp5001_01.prog w) ((A0 dp un gd outer).deeper (fnv cn nms L a ccd)) (call (.ref 93) [.bytes b t]) Q E s := by
  k_fill
  intro w mean mg mb dp un gd outer news cn nms a ccd base h₀ L m s Q E b t hB hF hK hN hT hD hdp hun hz hret
  k_steps
  all_goals first
    | exact hret _ _ (by k_asm) (by k_asm)
    | exact hret _ _ (by k_asm) (drop1 (by assumption))
end
section
local macro_rules | `(tactic| walk_at "call ref") => `(tactic| (k_here; (with_reducible show wpAny _ _ (call (Value.ref 93) _) _ _ _); k_dflt (refine' bo_con ?hB ?hF ?hK ?hN ?hT ?hD ?hdp ?hun ?p0 ?_; walk_at "std"; (case p0 => first | assumption | omega); k_whole; intro h' tk' F' N')))
local macro_rules | `(tactic| walk_at "exec Raise some none") => `(tactic| (exfalso; omega))
local macro_rules | `(tactic| walk_at "exec If") => `(tactic| (exfalso; omega))
local macro_rules | `(tactic| k_enter) => `(tactic| ((fail_if_success k_inElt); kts_any; kts_go))
theorem kp_out : ∀ {w : World} {mean : ExcName → Option Value} {mg mb : Str → Option Value} {dp un : Nat} {gd : Option (List Code)} {outer : List Env} {news : List (Addr × Obj)} {cn : Str} {nms : List (Str × NameKind)} {a : Addr} {ccd : Value} {base h₀ : Heap} {L : Addr} {m : Str → Option Value} {s : Shared} {Q E : Value → Shared → Prop} {g₀ : Heap} {b : Array UInt8} {t : Tok} {k : Int} {t4 : Tok}
  (hB : Below (A0 dp un gd outer) base outer h₀) (hF : Fr h₀ L s.heap m) (hK : (hd.heap_39 w.params).In h₀) (hN : News h₀ L s.heap news) (hT : Top hd.view_39 LL mean mg mb h₀) (hD : KtsDicts (outer.filterMap (·.frame)) h₀) (hdp : dp + 40 < recursionLimit) (hun : un + 400 < cLine)
  (hKb : (hd.heap_39 w.params).In base) (hTb : Top hd.view_39 LL mean mg mb base) (hT0 : KtsTurn (outer.filterMap (·.frame)) g₀ h₀) (hz : b.size ≤ 64) (hk : k < 0 ∨ 6 ≤ k) (hk1 : -1000 ≤ k) (hk2 : k ≤ 1000)
  (hret : ∀ (kg h' : Heap) (tk' : Nat) (tv : Tok), KtsTurn (outer.filterMap (·.frame)) g₀ kg → Fr kg L h' m → News kg L h' news → Below (A0 dp un gd outer) base outer kg → (hd.heap_39 w.params).In kg → Top hd.view_39 LL mean mg mb kg → KtsDicts (outer.filterMap (·.frame)) kg → Q (.str (Str.ofString "value") tv) { s with heap := h', toks := tk' }),
  wpAny (model PySem.Challenge.rw_fp5001_01.prog w) ((A0 dp un gd outer).deeper (fnv cn nms L a ccd)) (call (.ref 804) [.int k t4, .bytes b t]) Q E s := by
  k_fill
  intro w mean mg mb dp un gd outer news cn nms a ccd base h₀ L m s Q E g₀ b t k t4 hB hF hK hN hT hD hdp hun hKb hTb hT0 hz hk hk1 hk2 hret
  k_steps
  all_goals first | (exfalso; omega) | exact hret _ _ _ _ (by assumption) (by k_asm) (by first | assumption | exact drop1 (by assumption) | exact drop2 (by assumption) | exact drop3 (by assumption) | exact drop4 (by assumption) | exact drop5 (by assumption) | exact drop6 (by assumption)) (by assumption) (by assumption) (by assumption) (by assumption)
theorem kp_true : ∀ {w : World} {mean : ExcName → Option Value} {mg mb : Str → Option Value} {dp un : Nat} {gd : Option (List Code)} {outer : List Env} {news : List (Addr × Obj)} {cn : Str} {nms : List (Str × NameKind)} {a : Addr} {ccd : Value} {base h₀ : Heap} {L : Addr} {m : Str → Option Value} {s : Shared} {Q E : Value → Shared → Prop} {g₀ : Heap} {b : Array UInt8} {t : Tok} 
  (hB : Below (A0 dp un gd outer) base outer h₀) (hF : Fr h₀ L s.heap m) (hK : (hd.heap_39 w.params).In h₀) (hN : News h₀ L s.heap news) (hT : Top hd.view_39 LL mean mg mb h₀) (hD : KtsDicts (outer.filterMap (·.frame)) h₀) (hdp : dp + 40 < recursionLimit) (hun : un + 400 < cLine)
  (hKb : (hd.heap_39 w.params).In base) (hTb : Top hd.view_39 LL mean mg mb base) (hT0 : KtsTurn (outer.filterMap (·.frame)) g₀ h₀) (hz : b.size ≤ 64)
  (hret : ∀ (kg h' : Heap) (tk' : Nat) (tv : Tok), KtsTurn (outer.filterMap (·.frame)) g₀ kg → Fr kg L h' m → News kg L h' news → Below (A0 dp un gd outer) base outer kg → (hd.heap_39 w.params).In kg → Top hd.view_39 LL mean mg mb kg → KtsDicts (outer.filterMap (·.frame)) kg → Q (.str (Str.ofString "kind") tv) { s with heap := h', toks := tk' }),
  wpAny (model PySem.Challenge.rw_fp5001_01.prog w) ((A0 dp un gd outer).deeper (fnv cn nms L a ccd)) (call (.ref 804) [.bool true, .bytes b t]) Q E s := by
  k_fill
  intro w mean mg mb dp un gd outer news cn nms a ccd base h₀ L m s Q E g₀ b t hB hF hK hN hT hD hdp hun hKb hTb hT0 hz hret
  k_steps
  all_goals first | (exfalso; omega) | exact hret _ _ _ _ (by assumption) (by k_asm) (by first | assumption | exact drop1 (by assumption) | exact drop2 (by assumption) | exact drop3 (by assumption) | exact drop4 (by assumption) | exact drop5 (by assumption) | exact drop6 (by assumption)) (by assumption) (by assumption) (by assumption) (by assumption)
theorem kp_str : ∀ {w : World} {mean : ExcName → Option Value} {mg mb : Str → Option Value} {dp un : Nat} {gd : Option (List Code)} {outer : List Env} {news : List (Addr × Obj)} {cn : Str} {nms : List (Str × NameKind)} {a : Addr} {ccd : Value} {base h₀ : Heap} {L : Addr} {m : Str → Option Value} {s : Shared} {Q E : Value → Shared → Prop} {g₀ : Heap} {b : Array UInt8} {t : Tok} {t4 : Tok}
  (hB : Below (A0 dp un gd outer) base outer h₀) (hF : Fr h₀ L s.heap m) (hK : (hd.heap_39 w.params).In h₀) (hN : News h₀ L s.heap news) (hT : Top hd.view_39 LL mean mg mb h₀) (hD : KtsDicts (outer.filterMap (·.frame)) h₀) (hdp : dp + 40 < recursionLimit) (hun : un + 400 < cLine)
  (hKb : (hd.heap_39 w.params).In base) (hTb : Top hd.view_39 LL mean mg mb base) (hT0 : KtsTurn (outer.filterMap (·.frame)) g₀ h₀) (hz : b.size ≤ 64)
  (hret : ∀ (kg h' : Heap) (tk' : Nat) (tv : Tok), KtsTurn (outer.filterMap (·.frame)) g₀ kg → Fr kg L h' m → News kg L h' news → Below (A0 dp un gd outer) base outer kg → (hd.heap_39 w.params).In kg → Top hd.view_39 LL mean mg mb kg → KtsDicts (outer.filterMap (·.frame)) kg → Q (.str (Str.ofString "kind") tv) { s with heap := h', toks := tk' }),
  wpAny (model PySem.Challenge.rw_fp5001_01.prog w) ((A0 dp un gd outer).deeper (fnv cn nms L a ccd)) (call (.ref 804) [.str (Str.ofString "1") t4, .bytes b t]) Q E s := by
  k_fill
  intro w mean mg mb dp un gd outer news cn nms a ccd base h₀ L m s Q E g₀ b t t4 hB hF hK hN hT hD hdp hun hKb hTb hT0 hz hret
  k_steps
  all_goals first | (exfalso; omega) | exact hret _ _ _ _ (by assumption) (by k_asm) (by first | assumption | exact drop1 (by assumption) | exact drop2 (by assumption) | exact drop3 (by assumption) | exact drop4 (by assumption) | exact drop5 (by assumption) | exact drop6 (by assumption)) (by assumption) (by assumption) (by assumption) (by assumption)
theorem kp_badA : ∀ {w : World} {mean : ExcName → Option Value} {mg mb : Str → Option Value} {dp un : Nat} {gd : Option (List Code)} {outer : List Env} {news : List (Addr × Obj)} {cn : Str} {nms : List (Str × NameKind)} {a : Addr} {ccd : Value} {base h₀ : Heap} {L : Addr} {m : Str → Option Value} {s : Shared} {Q E : Value → Shared → Prop} {g₀ : Heap} {b : Array UInt8} {t : Tok} {k : Int} {t4 : Tok}
  (hB : Below (A0 dp un gd outer) base outer h₀) (hF : Fr h₀ L s.heap m) (hK : (hd.heap_39 w.params).In h₀) (hN : News h₀ L s.heap news) (hT : Top hd.view_39 LL mean mg mb h₀) (hD : KtsDicts (outer.filterMap (·.frame)) h₀) (hdp : dp + 40 < recursionLimit) (hun : un + 400 < cLine)
  (hKb : (hd.heap_39 w.params).In base) (hTb : Top hd.view_39 LL mean mg mb base) (hT0 : KtsTurn (outer.filterMap (·.frame)) g₀ h₀) (hz : b.size ≤ 64) (hk0 : 0 ≤ k) (hk1 : k < 2) (hw : b.size ≠ 20)
  (hret : ∀ (kg h' : Heap) (tk' : Nat) (tv : Tok), KtsTurn (outer.filterMap (·.frame)) g₀ kg → Fr kg L h' m → News kg L h' news → Below (A0 dp un gd outer) base outer kg → (hd.heap_39 w.params).In kg → Top hd.view_39 LL mean mg mb kg → KtsDicts (outer.filterMap (·.frame)) kg → Q (.str (Str.ofString "value") tv) { s with heap := h', toks := tk' }),
  wpAny (model PySem.Challenge.rw_fp5001_01.prog w) ((A0 dp un gd outer).deeper (fnv cn nms L a ccd)) (call (.ref 804) [.int k t4, .bytes b t]) Q E s := by
  k_fill
  intro w mean mg mb dp un gd outer news cn nms a ccd base h₀ L m s Q E g₀ b t k t4 hB hF hK hN hT hD hdp hun hKb hTb hT0 hz hk0 hk1 hw hret
  k_steps
  all_goals first | (exfalso; omega) | exact hret _ _ _ _ (by assumption) (by k_asm) (by first | assumption | exact drop1 (by assumption) | exact drop2 (by assumption) | exact drop3 (by assumption) | exact drop4 (by assumption) | exact drop5 (by assumption) | exact drop6 (by assumption)) (by assumption) (by assumption) (by assumption) (by assumption)
theorem kp_badB : ∀ {w : World} {mean : ExcName → Option Value} {mg mb : Str → Option Value} {dp un : Nat} {gd : Option (List Code)} {outer : List Env} {news : List (Addr × Obj)} {cn : Str} {nms : List (Str × NameKind)} {a : Addr} {ccd : Value} {base h₀ : Heap} {L : Addr} {m : Str → Option Value} {s : Shared} {Q E : Value → Shared → Prop} {g₀ : Heap} {b : Array UInt8} {t : Tok} {k : Int} {t4 : Tok}
  (hB : Below (A0 dp un gd outer) base outer h₀) (hF : Fr h₀ L s.heap m) (hK : (hd.heap_39 w.params).In h₀) (hN : News h₀ L s.heap news) (hT : Top hd.view_39 LL mean mg mb h₀) (hD : KtsDicts (outer.filterMap (·.frame)) h₀) (hdp : dp + 40 < recursionLimit) (hun : un + 400 < cLine)
  (hKb : (hd.heap_39 w.params).In base) (hTb : Top hd.view_39 LL mean mg mb base) (hT0 : KtsTurn (outer.filterMap (·.frame)) g₀ h₀) (hz : b.size ≤ 64) (hk0 : 2 ≤ k) (hk1 : k < 4) (hw : b.size ≠ 32)
  (hret : ∀ (kg h' : Heap) (tk' : Nat) (tv : Tok), KtsTurn (outer.filterMap (·.frame)) g₀ kg → Fr kg L h' m → News kg L h' news → Below (A0 dp un gd outer) base outer kg → (hd.heap_39 w.params).In kg → Top hd.view_39 LL mean mg mb kg → KtsDicts (outer.filterMap (·.frame)) kg → Q (.str (Str.ofString "value") tv) { s with heap := h', toks := tk' }),
  wpAny (model PySem.Challenge.rw_fp5001_01.prog w) ((A0 dp un gd outer).deeper (fnv cn nms L a ccd)) (call (.ref 804) [.int k t4, .bytes b t]) Q E s := by
  k_fill
  intro w mean mg mb dp un gd outer news cn nms a ccd base h₀ L m s Q E g₀ b t k t4 hB hF hK hN hT hD hdp hun hKb hTb hT0 hz hk0 hk1 hw hret
  k_steps
  all_goals first | (exfalso; omega) | exact hret _ _ _ _ (by assumption) (by k_asm) (by first | assumption | exact drop1 (by assumption) | exact drop2 (by assumption) | exact drop3 (by assumption) | exact drop4 (by assumption) | exact drop5 (by assumption) | exact drop6 (by assumption)) (by assumption) (by assumption) (by assumption) (by assumption)
end
section
local macro_rules | `(tactic| walk_at "call ref") => `(tactic| (k_here; (with_reducible show wpAny _ _ (call (Value.ref 93) _) _ _ _); k_dflt (refine' bo_con ?hB ?hF ?hK ?hN ?hT ?hD ?hdp ?hun ?p0 ?_; walk_at "std"; (case p0 => first | assumption | omega); k_whole; intro h' tk' F' N')))
local macro_rules | `(tactic| walk_at "exec Raise some none") => `(tactic| (exfalso; omega))
local macro_rules | `(tactic| walk_at "exec If") => `(tactic| (exfalso; omega))
local macro_rules | `(tactic| k_enter) => `(tactic| ((fail_if_success k_inElt); kts_any; kts_go))
local macro_rules | `(tactic| walk_at "binaryOp Add bytes bytes") => `(tactic| (k_here; (with_reducible show wpAny _ _ (binaryOp Operator.Add (Value.bytes _ _) (Value.bytes _ _)) _ _ _); (refine KBy.add_bytes (by (try simp only [Array.size_append, List.size_toArray, List.length_cons, List.length_nil]); omega) ?_); intro _ _))
theorem kp_ok0 : ∀ {w : World} {mean : ExcName → Option Value} {mg mb : Str → Option Value} {dp un : Nat} {gd : Option (List Code)} {outer : List Env} {news : List (Addr × Obj)} {cn : Str} {nms : List (Str × NameKind)} {a : Addr} {ccd : Value} {base h₀ : Heap} {L : Addr} {m : Str → Option Value} {s : Shared} {Q E : Value → Shared → Prop} {g₀ : Heap} {b : Array UInt8} {t : Tok} {t4 : Tok}
  (hB : Below (A0 dp un gd outer) base outer h₀) (hF : Fr h₀ L s.heap m) (hK : (hd.heap_39 w.params).In h₀) (hN : News h₀ L s.heap news) (hT : Top hd.view_39 LL mean mg mb h₀) (hD : KtsDicts (outer.filterMap (·.frame)) h₀) (hdp : dp + 40 < recursionLimit) (hun : un + 400 < cLine)
  (hKb : (hd.heap_39 w.params).In base) (hTb : Top hd.view_39 LL mean mg mb base) (hT0 : KtsTurn (outer.filterMap (·.frame)) g₀ h₀) (hw : b.size = 20)
  (hret : ∀ (kg h' : Heap) (tk' : Nat) (tv : Tok), KtsTurn (outer.filterMap (·.frame)) g₀ kg → Fr kg L h' m → News kg L h' news → Below (A0 dp un gd outer) base outer kg → (hd.heap_39 w.params).In kg → Top hd.view_39 LL mean mg mb kg → KtsDicts (outer.filterMap (·.frame)) kg → Q (.bytes (#[(Int.toNat 118).toUInt8, (Int.toNat 169).toUInt8, (Int.toNat 20).toUInt8] ++ b ++ #[(Int.toNat 136).toUInt8, (Int.toNat 172).toUInt8]) tv) { s with heap := h', toks := tk' }),
  wpAny (model PySem.Challenge.rw_fp5001_01.prog w) ((A0 dp un gd outer).deeper (fnv cn nms L a ccd)) (call (.ref 804) [.int 0 t4, .bytes b t]) Q E s := by
  k_fill
  intro w mean mg mb dp un gd outer news cn nms a ccd base h₀ L m s Q E g₀ b t t4 hB hF hK hN hT hD hdp hun hKb hTb hT0 hw hret
  k_steps
  all_goals first | (exfalso; omega) | exact hret _ _ _ _ (by assumption) (by k_asm) (by first | assumption | exact drop1 (by assumption) | exact drop2 (by assumption) | exact drop3 (by assumption) | exact drop4 (by assumption) | exact drop5 (by assumption) | exact drop6 (by assumption)) (by assumption) (by assumption) (by assumption) (by assumption)
theorem kp_ok1 : ∀ {w : World} {mean : ExcName → Option Value} {mg mb : Str → Option Value} {dp un : Nat} {gd : Option (List Code)} {outer : List Env} {news : List (Addr × Obj)} {cn : Str} {nms : List (Str × NameKind)} {a : Addr} {ccd : Value} {base h₀ : Heap} {L : Addr} {m : Str → Option Value} {s : Shared} {Q E : Value → Shared → Prop} {g₀ : Heap} {b : Array UInt8} {t : Tok} {t4 : Tok}
  (hB : Below (A0 dp un gd outer) base outer h₀) (hF : Fr h₀ L s.heap m) (hK : (hd.heap_39 w.params).In h₀) (hN : News h₀ L s.heap news) (hT : Top hd.view_39 LL mean mg mb h₀) (hD : KtsDicts (outer.filterMap (·.frame)) h₀) (hdp : dp + 40 < recursionLimit) (hun : un + 400 < cLine)
  (hKb : (hd.heap_39 w.params).In base) (hTb : Top hd.view_39 LL mean mg mb base) (hT0 : KtsTurn (outer.filterMap (·.frame)) g₀ h₀) (hw : b.size = 20)
  (hret : ∀ (kg h' : Heap) (tk' : Nat) (tv : Tok), KtsTurn (outer.filterMap (·.frame)) g₀ kg → Fr kg L h' m → News kg L h' news → Below (A0 dp un gd outer) base outer kg → (hd.heap_39 w.params).In kg → Top hd.view_39 LL mean mg mb kg → KtsDicts (outer.filterMap (·.frame)) kg → Q (.bytes (#[(Int.toNat 169).toUInt8, (Int.toNat 20).toUInt8] ++ b ++ #[(Int.toNat 135).toUInt8]) tv) { s with heap := h', toks := tk' }),
  wpAny (model PySem.Challenge.rw_fp5001_01.prog w) ((A0 dp un gd outer).deeper (fnv cn nms L a ccd)) (call (.ref 804) [.int 1 t4, .bytes b t]) Q E s := by
  k_fill
  intro w mean mg mb dp un gd outer news cn nms a ccd base h₀ L m s Q E g₀ b t t4 hB hF hK hN hT hD hdp hun hKb hTb hT0 hw hret
  k_steps
  all_goals first | (exfalso; omega) | exact hret _ _ _ _ (by assumption) (by k_asm) (by first | assumption | exact drop1 (by assumption) | exact drop2 (by assumption) | exact drop3 (by assumption) | exact drop4 (by assumption) | exact drop5 (by assumption) | exact drop6 (by assumption)) (by assumption) (by assumption) (by assumption) (by assumption)
theorem kp_okB : ∀ {w : World} {mean : ExcName → Option Value} {mg mb : Str → Option Value} {dp un : Nat} {gd : Option (List Code)} {outer : List Env} {news : List (Addr × Obj)} {cn : Str} {nms : List (Str × NameKind)} {a : Addr} {ccd : Value} {base h₀ : Heap} {L : Addr} {m : Str → Option Value} {s : Shared} {Q E : Value → Shared → Prop} {g₀ : Heap} {b : Array UInt8} {t : Tok} {k : Int} {t4 : Tok}
  (hB : Below (A0 dp un gd outer) base outer h₀) (hF : Fr h₀ L s.heap m) (hK : (hd.heap_39 w.params).In h₀) (hN : News h₀ L s.heap news) (hT : Top hd.view_39 LL mean mg mb h₀) (hD : KtsDicts (outer.filterMap (·.frame)) h₀) (hdp : dp + 40 < recursionLimit) (hun : un + 400 < cLine)
  (hKb : (hd.heap_39 w.params).In base) (hTb : Top hd.view_39 LL mean mg mb base) (hT0 : KtsTurn (outer.filterMap (·.frame)) g₀ h₀) (hk0 : 2 ≤ k) (hk1 : k < 4) (hw : b.size = 32)
  (hret : ∀ (kg h' : Heap) (tk' : Nat) (tv : Tok), KtsTurn (outer.filterMap (·.frame)) g₀ kg → Fr kg L h' m → News kg L h' news → Below (A0 dp un gd outer) base outer kg → (hd.heap_39 w.params).In kg → Top hd.view_39 LL mean mg mb kg → KtsDicts (outer.filterMap (·.frame)) kg → Q (.bytes (#[(Int.toNat 33).toUInt8, (Int.toNat k).toUInt8] ++ b ++ #[(Int.toNat 172).toUInt8]) tv) { s with heap := h', toks := tk' }),
  wpAny (model PySem.Challenge.rw_fp5001_01.prog w) ((A0 dp un gd outer).deeper (fnv cn nms L a ccd)) (call (.ref 804) [.int k t4, .bytes b t]) Q E s := by
  k_fill
  intro w mean mg mb dp un gd outer news cn nms a ccd base h₀ L m s Q E g₀ b t k t4 hB hF hK hN hT hD hdp hun hKb hTb hT0 hk0 hk1 hw hret
  k_steps
  all_goals first | (exfalso; omega) | exact hret _ _ _ _ (by assumption) (by k_asm) (by first | assumption | exact drop1 (by assumption) | exact drop2 (by assumption) | exact drop3 (by assumption) | exact drop4 (by assumption) | exact drop5 (by assumption) | exact drop6 (by assumption)) (by assumption) (by assumption) (by assumption) (by assumption)
end
section
theorem mul_one {prog : Program} {w : World} {A : Around} {E : Value → Shared → Prop} {s : Shared} {b : Array UInt8} {n : Int} {t u : Tok} {Q : Value → Shared → Prop} (hb : b.size = 1) (h0 : 0 ≤ n) (h1 : n ≤ 1048576)
    (h : ∀ c t' k, c.size = n.toNat → Q (.bytes c t') { s with toks := k }) : wpAny (model prog w) A (binaryOp .Mult (.bytes b t) (.int n u)) Q E s := by
  have e : b = b.toList.toArray := by simp
  rw [e]
  refine bytes_mul_any (by intro q; have := congrArg List.length q; rw [Array.length_toList, hb] at this; cases this) (by omega) h1 (by simp; omega) (fun t' k => h _ t' k ?_)
  simp [hb]
theorem menu4 {prog : Program} {w : World} {A : Around} {E : Value → Shared → Prop} {s : Shared} {value slice : PySem.Expr} {g : Heap} {L l : Addr} {v0 v1 v2 v3 : Value} {c : Nat} {i : Int} {u : Tok} {news : List (Addr × Obj)} {Q : Value → Shared → Prop}
    (N : News g L s.heap news) (hm : (l, W.listOf [v0, v1, v2, v3].toArray c) ∈ news) (h0 : 0 ≤ i) (h1 : i < 4)
    (q0 : i = 0 → Q v0 s) (q1 : i = 1 → Q v1 s) (q2 : i = 2 → Q v2 s) (q3 : i = 3 → Q v3 s)
    (hs : subscripted slice false (.ref l) (.int i u) = operate [.ref l, .int i u] (getItem (.ref l) (.int i u)) := by with_unfolding_all rfl) :
    wpAny (model prog w) A (subscriptTail value slice (.ref l) (.int i u)) Q E s := by
  have hl : s.heap.IsList l [v0, v1, v2, v3].toArray := ⟨_, (N _ hm).1, rfl, c, rfl⟩
  have h : i = 0 ∨ i = 1 ∨ i = 2 ∨ i = 3 := by omega
  rcases h with rfl | rfl | rfl | rfl
  · exact tail_any hl.typeIs slot_list_getitem.lookup (wpAny_getItem_list hl h0 (by decide) rfl (q0 rfl)) hs
  · exact tail_any hl.typeIs slot_list_getitem.lookup (wpAny_getItem_list hl h0 (by decide) rfl (q1 rfl)) hs
  · exact tail_any hl.typeIs slot_list_getitem.lookup (wpAny_getItem_list hl h0 (by decide) rfl (q2 rfl)) hs
  · exact tail_any hl.typeIs slot_list_getitem.lookup (wpAny_getItem_list hl h0 (by decide) rfl (q3 rfl)) hs
theorem kd0 : ∀ {w : World} {mean : ExcName → Option Value} {mg mb : Str → Option Value} {dp un : Nat} {gd : Option (List Code)} {outer : List Env} {news : List (Addr × Obj)} {cn : Str} {nms : List (Str × NameKind)} {a : Addr} {ccd : Value} {base h₀ : Heap} {L : Addr} {m : Str → Option Value} {s : Shared} {Q E : Value → Shared → Prop} {g₀ : Heap} {b : Array UInt8} {k : Int} {t t4 : Tok}
  (hB : Below (A0 dp un gd outer) base outer h₀) (hF : Fr h₀ L s.heap m) (hK : (hd.heap_39 w.params).In h₀) (hN : News h₀ L s.heap news) (hT : Top hd.view_39 LL mean mg mb h₀) (hD : KtsDicts (outer.filterMap (·.frame)) h₀) (hdp : dp + 40 < recursionLimit) (hun : un + 400 < cLine)
  (hKb : (hd.heap_39 w.params).In base) (hTb : Top hd.view_39 LL mean mg mb base) (hT0 : KtsTurn (outer.filterMap (·.frame)) g₀ h₀) (hz : b.size ≤ 64) (hk : k = 0)
  (hok : ∀ (kg h' : Heap) (tk' : Nat) (tv : Tok), b.size = 20 → KtsTurn (outer.filterMap (·.frame)) g₀ kg → Fr kg L h' m → News kg L h' news → Below (A0 dp un gd outer) base outer kg → (hd.heap_39 w.params).In kg → Top hd.view_39 LL mean mg mb kg → KtsDicts (outer.filterMap (·.frame)) kg → Q (.bytes (#[(Int.toNat 118).toUInt8, (Int.toNat 169).toUInt8, (Int.toNat 20).toUInt8] ++ b ++ #[(Int.toNat 136).toUInt8, (Int.toNat 172).toUInt8]) tv) { s with heap := h', toks := tk' })
  (hbad : ∀ (kg h' : Heap) (tk' : Nat) (tv : Tok), b.size ≠ 20 → KtsTurn (outer.filterMap (·.frame)) g₀ kg → Fr kg L h' m → News kg L h' news → Below (A0 dp un gd outer) base outer kg → (hd.heap_39 w.params).In kg → Top hd.view_39 LL mean mg mb kg → KtsDicts (outer.filterMap (·.frame)) kg → Q (.str (Str.ofString "value") tv) { s with heap := h', toks := tk' }),
  wpAny (model PySem.Challenge.rw_fp5001_01.prog w) ((A0 dp un gd outer).deeper (fnv cn nms L a ccd)) (call (.ref 804) [.int k t4, .bytes b t]) Q E s := by
  intro w mean mg mb dp un gd outer news cn nms a ccd base h₀ L m s Q E g₀ b k t t4 hB hF hK hN hT hD hdp hun hKb hTb hT0 hz hk hok hbad
  subst hk
  by_cases hw : b.size = 20
  · exact kp_ok0 hB hF hK hN hT hD hdp hun hKb hTb hT0 hw (fun kg h' tk' tv => hok kg h' tk' tv hw)
  · exact kp_badA hB hF hK hN hT hD hdp hun hKb hTb hT0 hz (by decide) (by decide) hw (fun kg h' tk' tv => hbad kg h' tk' tv hw)
theorem kd1 : ∀ {w : World} {mean : ExcName → Option Value} {mg mb : Str → Option Value} {dp un : Nat} {gd : Option (List Code)} {outer : List Env} {news : List (Addr × Obj)} {cn : Str} {nms : List (Str × NameKind)} {a : Addr} {ccd : Value} {base h₀ : Heap} {L : Addr} {m : Str → Option Value} {s : Shared} {Q E : Value → Shared → Prop} {g₀ : Heap} {b : Array UInt8} {k : Int} {t t4 : Tok}
  (hB : Below (A0 dp un gd outer) base outer h₀) (hF : Fr h₀ L s.heap m) (hK : (hd.heap_39 w.params).In h₀) (hN : News h₀ L s.heap news) (hT : Top hd.view_39 LL mean mg mb h₀) (hD : KtsDicts (outer.filterMap (·.frame)) h₀) (hdp : dp + 40 < recursionLimit) (hun : un + 400 < cLine)
  (hKb : (hd.heap_39 w.params).In base) (hTb : Top hd.view_39 LL mean mg mb base) (hT0 : KtsTurn (outer.filterMap (·.frame)) g₀ h₀) (hz : b.size ≤ 64) (hk : k = 1)
  (hok : ∀ (kg h' : Heap) (tk' : Nat) (tv : Tok), b.size = 20 → KtsTurn (outer.filterMap (·.frame)) g₀ kg → Fr kg L h' m → News kg L h' news → Below (A0 dp un gd outer) base outer kg → (hd.heap_39 w.params).In kg → Top hd.view_39 LL mean mg mb kg → KtsDicts (outer.filterMap (·.frame)) kg → Q (.bytes (#[(Int.toNat 169).toUInt8, (Int.toNat 20).toUInt8] ++ b ++ #[(Int.toNat 135).toUInt8]) tv) { s with heap := h', toks := tk' })
  (hbad : ∀ (kg h' : Heap) (tk' : Nat) (tv : Tok), b.size ≠ 20 → KtsTurn (outer.filterMap (·.frame)) g₀ kg → Fr kg L h' m → News kg L h' news → Below (A0 dp un gd outer) base outer kg → (hd.heap_39 w.params).In kg → Top hd.view_39 LL mean mg mb kg → KtsDicts (outer.filterMap (·.frame)) kg → Q (.str (Str.ofString "value") tv) { s with heap := h', toks := tk' }),
  wpAny (model PySem.Challenge.rw_fp5001_01.prog w) ((A0 dp un gd outer).deeper (fnv cn nms L a ccd)) (call (.ref 804) [.int k t4, .bytes b t]) Q E s := by
  intro w mean mg mb dp un gd outer news cn nms a ccd base h₀ L m s Q E g₀ b k t t4 hB hF hK hN hT hD hdp hun hKb hTb hT0 hz hk hok hbad
  subst hk
  by_cases hw : b.size = 20
  · exact kp_ok1 hB hF hK hN hT hD hdp hun hKb hTb hT0 hw (fun kg h' tk' tv => hok kg h' tk' tv hw)
  · exact kp_badA hB hF hK hN hT hD hdp hun hKb hTb hT0 hz (by decide) (by decide) hw (fun kg h' tk' tv => hbad kg h' tk' tv hw)
theorem kd2 : ∀ {w : World} {mean : ExcName → Option Value} {mg mb : Str → Option Value} {dp un : Nat} {gd : Option (List Code)} {outer : List Env} {news : List (Addr × Obj)} {cn : Str} {nms : List (Str × NameKind)} {a : Addr} {ccd : Value} {base h₀ : Heap} {L : Addr} {m : Str → Option Value} {s : Shared} {Q E : Value → Shared → Prop} {g₀ : Heap} {b : Array UInt8} {k : Int} {t t4 : Tok}
  (hB : Below (A0 dp un gd outer) base outer h₀) (hF : Fr h₀ L s.heap m) (hK : (hd.heap_39 w.params).In h₀) (hN : News h₀ L s.heap news) (hT : Top hd.view_39 LL mean mg mb h₀) (hD : KtsDicts (outer.filterMap (·.frame)) h₀) (hdp : dp + 40 < recursionLimit) (hun : un + 400 < cLine)
  (hKb : (hd.heap_39 w.params).In base) (hTb : Top hd.view_39 LL mean mg mb base) (hT0 : KtsTurn (outer.filterMap (·.frame)) g₀ h₀) (hz : b.size ≤ 64) (hk : k = 2)
  (hok : ∀ (kg h' : Heap) (tk' : Nat) (tv : Tok), b.size = 32 → KtsTurn (outer.filterMap (·.frame)) g₀ kg → Fr kg L h' m → News kg L h' news → Below (A0 dp un gd outer) base outer kg → (hd.heap_39 w.params).In kg → Top hd.view_39 LL mean mg mb kg → KtsDicts (outer.filterMap (·.frame)) kg → Q (.bytes (#[(Int.toNat 33).toUInt8, (Int.toNat 2).toUInt8] ++ b ++ #[(Int.toNat 172).toUInt8]) tv) { s with heap := h', toks := tk' })
  (hbad : ∀ (kg h' : Heap) (tk' : Nat) (tv : Tok), b.size ≠ 32 → KtsTurn (outer.filterMap (·.frame)) g₀ kg → Fr kg L h' m → News kg L h' news → Below (A0 dp un gd outer) base outer kg → (hd.heap_39 w.params).In kg → Top hd.view_39 LL mean mg mb kg → KtsDicts (outer.filterMap (·.frame)) kg → Q (.str (Str.ofString "value") tv) { s with heap := h', toks := tk' }),
  wpAny (model PySem.Challenge.rw_fp5001_01.prog w) ((A0 dp un gd outer).deeper (fnv cn nms L a ccd)) (call (.ref 804) [.int k t4, .bytes b t]) Q E s := by
  intro w mean mg mb dp un gd outer news cn nms a ccd base h₀ L m s Q E g₀ b k t t4 hB hF hK hN hT hD hdp hun hKb hTb hT0 hz hk hok hbad
  subst hk
  by_cases hw : b.size = 32
  · exact kp_okB hB hF hK hN hT hD hdp hun hKb hTb hT0 (by decide) (by decide) hw (fun kg h' tk' tv => hok kg h' tk' tv hw)
  · exact kp_badB hB hF hK hN hT hD hdp hun hKb hTb hT0 hz (by decide) (by decide) hw (fun kg h' tk' tv => hbad kg h' tk' tv hw)
theorem kd3 : ∀ {w : World} {mean : ExcName → Option Value} {mg mb : Str → Option Value} {dp un : Nat} {gd : Option (List Code)} {outer : List Env} {news : List (Addr × Obj)} {cn : Str} {nms : List (Str × NameKind)} {a : Addr} {ccd : Value} {base h₀ : Heap} {L : Addr} {m : Str → Option Value} {s : Shared} {Q E : Value → Shared → Prop} {g₀ : Heap} {b : Array UInt8} {k : Int} {t t4 : Tok}
  (hB : Below (A0 dp un gd outer) base outer h₀) (hF : Fr h₀ L s.heap m) (hK : (hd.heap_39 w.params).In h₀) (hN : News h₀ L s.heap news) (hT : Top hd.view_39 LL mean mg mb h₀) (hD : KtsDicts (outer.filterMap (·.frame)) h₀) (hdp : dp + 40 < recursionLimit) (hun : un + 400 < cLine)
  (hKb : (hd.heap_39 w.params).In base) (hTb : Top hd.view_39 LL mean mg mb base) (hT0 : KtsTurn (outer.filterMap (·.frame)) g₀ h₀) (hz : b.size ≤ 64) (hk : k = 3)
  (hok : ∀ (kg h' : Heap) (tk' : Nat) (tv : Tok), b.size = 32 → KtsTurn (outer.filterMap (·.frame)) g₀ kg → Fr kg L h' m → News kg L h' news → Below (A0 dp un gd outer) base outer kg → (hd.heap_39 w.params).In kg → Top hd.view_39 LL mean mg mb kg → KtsDicts (outer.filterMap (·.frame)) kg → Q (.bytes (#[(Int.toNat 33).toUInt8, (Int.toNat 3).toUInt8] ++ b ++ #[(Int.toNat 172).toUInt8]) tv) { s with heap := h', toks := tk' })
  (hbad : ∀ (kg h' : Heap) (tk' : Nat) (tv : Tok), b.size ≠ 32 → KtsTurn (outer.filterMap (·.frame)) g₀ kg → Fr kg L h' m → News kg L h' news → Below (A0 dp un gd outer) base outer kg → (hd.heap_39 w.params).In kg → Top hd.view_39 LL mean mg mb kg → KtsDicts (outer.filterMap (·.frame)) kg → Q (.str (Str.ofString "value") tv) { s with heap := h', toks := tk' }),
  wpAny (model PySem.Challenge.rw_fp5001_01.prog w) ((A0 dp un gd outer).deeper (fnv cn nms L a ccd)) (call (.ref 804) [.int k t4, .bytes b t]) Q E s := by
  intro w mean mg mb dp un gd outer news cn nms a ccd base h₀ L m s Q E g₀ b k t t4 hB hF hK hN hT hD hdp hun hKb hTb hT0 hz hk hok hbad
  subst hk
  by_cases hw : b.size = 32
  · exact kp_okB hB hF hK hN hT hD hdp hun hKb hTb hT0 (by decide) (by decide) hw (fun kg h' tk' tv => hok kg h' tk' tv hw)
  · exact kp_badB hB hF hK hN hT hD hdp hun hKb hTb hT0 hz (by decide) (by decide) hw (fun kg h' tk' tv => hbad kg h' tk' tv hw)
end
section
local macro_rules | `(tactic| walk_at "compareOp Eq str str") => `(tactic| (k_here; with_reducible refine eq_str_same ?_))
local macro_rules | `(tactic| walk_at "compareOp NotEq str str") => `(tactic| (k_here; with_reducible refine ne_str_same ?_))
local macro_rules | `(tactic| walk_at "compareOp Eq bytes bytes") => `(tactic| (k_here; refine eq_by_same (by first | assumption | rfl | exact app_same rfl rfl) ?_))
local macro_rules | `(tactic| walk_at "compareOp NotEq bytes bytes") => `(tactic| (k_here; refine ne_by_same (by first | assumption | rfl | exact app_same rfl rfl) ?_))
local macro_rules | `(tactic| walk_at "compareOp NotEq bytes str") => `(tactic| (exfalso; omega))
local macro_rules | `(tactic| walk_at "compareOp NotEq str bytes") => `(tactic| (exfalso; omega))
local macro_rules | `(tactic| k_enter) => `(tactic| ((fail_if_success k_inElt); kts_any; kts_go))
local macro_rules | `(tactic| walk_at "binaryOp Add bytes bytes") => `(tactic| (k_here; (with_reducible show wpAny _ _ (binaryOp Operator.Add (Value.bytes _ _) (Value.bytes _ _)) _ _ _); (refine KBy.add_bytes (by (try simp only [Array.size_append, List.size_toArray, List.length_cons, List.length_nil]); omega) ?_); intro _ _))
theorem mul_oneB {prog : Program} {w : World} {A : Around} {E : Value → Shared → Prop} {s : Shared} {b : Array UInt8} {n : Int} {t u : Tok} {Q : Value → Shared → Prop} (hb : b.size = 1) (h0 : 0 ≤ n) (h1 : n ≤ 64)
    (h : ∀ c t' k, (c.size : Int) = n → c.size ≤ 64 → Q (.bytes c t') { s with toks := k }) : wpAny (model prog w) A (binaryOp .Mult (.bytes b t) (.int n u)) Q E s :=
  mul_one hb h0 (by omega) fun c t' k hc => h c t' k (by omega) (by omega)
local macro_rules | `(tactic| walk_at "binaryOp Mult bytes int") => `(tactic| (k_here; (with_reducible show wpAny _ _ (binaryOp Operator.Mult (Value.bytes _ _) (Value.int _ _)) _ _ _); (refine mul_oneB (by first | rfl | simp) (by first | omega | exact (kmn_any (lo := 0) (hi := 64) (by decide)).1) (by first | omega | exact (kmn_any (lo := 0) (hi := 64) (by decide)).2) ?_); intro c' t' k' hc' hd'))
local macro_rules | `(tactic| walk_at "subscriptTail") => `(tactic| (k_here; (with_reducible show wpAny _ _ (subscriptTail _ _ (Value.ref _) (Value.int (Int.fmod _ 4) _)) _ _ _); k_dflt (refine' menu4 ?mN ?mm ?m0 ?m1 ?_ ?_ ?_ ?_; (case mN => k_asm); (case mm => k_mem); (case m0 => exact fmod_lo _ (by decide)); (case m1 => exact fmod_hi _ (by decide))); (all_goals intro hq'); (all_goals try (exfalso; omega))))
local macro_rules | `(tactic| walk_at "call ref") => `(tactic| (k_here; (with_reducible rename KtsDicts _ _ => kdX); (with_reducible show wpAny _ _ (call (Value.ref 804) [Value.int _ _, Value.bytes _ _]) _ _ _); k_dflt (refine' kp_out ?hB ?hF ?hK ?hN ?hT ?hD ?hdp ?hun ?hKb ?hTb ?hT0 ?p0 ?p1 ?p2 ?p3 ?_; walk_at "stdc"; (case p0 => first | assumption | omega); (case p1 => decide); (case p2 => decide); (case p3 => decide); k_whole); (intro kg' h' tk' tv' T' F' N' B' X' P' D'; (try k_lift B'))))
local macro_rules | `(tactic| walk_at "call ref") => `(tactic| (k_here; (with_reducible rename KtsDicts _ _ => kdX); (with_reducible show wpAny _ _ (call (Value.ref 804) [Value.bool true, Value.bytes _ _]) _ _ _); k_dflt (refine' kp_true ?hB ?hF ?hK ?hN ?hT ?hD ?hdp ?hun ?hKb ?hTb ?hT0 ?p0 ?_; walk_at "stdc"; (case p0 => first | assumption | omega); k_whole); (intro kg' h' tk' tv' T' F' N' B' X' P' D'; (try k_lift B'))))
local macro_rules | `(tactic| walk_at "call ref") => `(tactic| (k_here; (with_reducible rename KtsDicts _ _ => kdX); (with_reducible show wpAny _ _ (call (Value.ref 804) [Value.str _ _, Value.bytes _ _]) _ _ _); k_dflt (refine' kp_str ?hB ?hF ?hK ?hN ?hT ?hD ?hdp ?hun ?hKb ?hTb ?hT0 ?p0 ?_; walk_at "stdc"; (case p0 => first | assumption | omega); k_whole); (intro kg' h' tk' tv' T' F' N' B' X' P' D'; (try k_lift B'))))
section
local macro_rules | `(tactic| walk_at "eval Name") => `(tactic| (k_here; k_dflt (refine' ld ?k1 ?k2 ?_; (case k1 => k_asm); (case k2 => assumption); k_whole)))
theorem sk_tail : ∀ {w : World} {mean : ExcName → Option Value} {mg mb : Str → Option Value} {dp un : Nat} {gd : Option (List Code)} {outer : List Env} {news : List (Addr × Obj)} {base g g₀ : Heap} {L : Addr} {s : Shared} {Q : Flow → Shared → Prop} {E : Value → Shared → Prop}
  {t : Tok} {b : Array UInt8} {m₀ : Str → Option Value}
  (hB : Below (A0 dp un gd outer) base outer g) (hF : Fr g L s.heap m₀) (hK : (hd.heap_39 w.params).In g) (hN : News g L s.heap news) (hT : Top hd.view_39 LL mean mg mb g) (hD : KtsDicts (outer.filterMap (·.frame)) g) (hdp : dp + 50 < recursionLimit) (hun : un + 500 < cLine)
  (hKb : (hd.heap_39 w.params).In base) (hTb : Top hd.view_39 LL mean mg mb base) (hT0 : KtsTurn (outer.filterMap (·.frame)) g₀ g)
  (hz : b.size ≤ 64) (ms : m₀ (Str.ofString "body") = some (.bytes b t))
  (hret : ∀ (kg h' : Heap) (tk' : Nat), KtsTurn (outer.filterMap (·.frame)) g₀ kg → Fr kg L h' m₀ → News kg L h' news → Below (A0 dp un gd outer) base outer kg → (hd.heap_39 w.params).In kg → Top hd.view_39 LL mean mg mb kg → KtsDicts (outer.filterMap (·.frame)) kg → Q (.ret (.bool true)) { s with heap := h', toks := tk' }),
  wpAny (model PySem.Challenge.rw_fp5001_01.prog w) ((A0 dp un gd outer).deeper (enOf ((hd.heap_39 w.params).lookup 811) L 811)) (exec (stOf ((hd.heap_39 w.params).lookup 811) 7) (enOf ((hd.heap_39 w.params).lookup 811) L 811)) Q
    (fun e s' => wpAny (model PySem.Challenge.rw_fp5001_01.prog w) ((A0 dp un gd outer).deeper (enOf ((hd.heap_39 w.params).lookup 811) L 811)) (leaving (enOf ((hd.heap_39 w.params).lookup 811) L 811) e) (fun _ s'' => E e s'') (fun e' s'' => E e' s'') s') s := by
  k_fill
  intro w mean mg mb dp un gd outer news base g g₀ L s Q E t b m₀ hB hF hK hN hT hD hdp hun hKb hTb hT0 hz ms hret
  rw [show (hd.heap_39 w.params).lookup 811 = some _ from by k_is]
  show wpAny _ _ (exec (.Return (some _) _) _) _ _ _
  dsimp only [enOf, fdOf, fnOf]
  k_steps
  exact hret _ _ _ (by assumption) (by k_asm) (by k_asm) (by assumption) (by assumption) (by assumption) (by assumption)
end
local macro_rules | `(tactic| walk_at "call ref") => `(tactic| (k_here; (with_reducible rename KtsDicts _ _ => kdX); (with_reducible show wpAny _ _ (call (Value.ref 804) [Value.int _ _, Value.bytes _ _]) _ _ _); k_dflt (refine' kd0 ?hB ?hF ?hK ?hN ?hT ?hD ?hdp ?hun ?hKb ?hTb ?hT0 ?p0 ?p1 ?_ ?_; walk_at "stdc"; (case p0 => first | assumption | omega); (case p1 => assumption); k_whole); (all_goals (intro kg' h' tk' tv' hw' T' F' N' B' X' P' D'; (try k_lift B')))))
local macro_rules | `(tactic| walk_at "call ref") => `(tactic| (k_here; (with_reducible rename KtsDicts _ _ => kdX); (with_reducible show wpAny _ _ (call (Value.ref 804) [Value.int _ _, Value.bytes _ _]) _ _ _); k_dflt (refine' kd1 ?hB ?hF ?hK ?hN ?hT ?hD ?hdp ?hun ?hKb ?hTb ?hT0 ?p0 ?p1 ?_ ?_; walk_at "stdc"; (case p0 => first | assumption | omega); (case p1 => assumption); k_whole); (all_goals (intro kg' h' tk' tv' hw' T' F' N' B' X' P' D'; (try k_lift B')))))
local macro_rules | `(tactic| walk_at "call ref") => `(tactic| (k_here; (with_reducible rename KtsDicts _ _ => kdX); (with_reducible show wpAny _ _ (call (Value.ref 804) [Value.int _ _, Value.bytes _ _]) _ _ _); k_dflt (refine' kd2 ?hB ?hF ?hK ?hN ?hT ?hD ?hdp ?hun ?hKb ?hTb ?hT0 ?p0 ?p1 ?_ ?_; walk_at "stdc"; (case p0 => first | assumption | omega); (case p1 => assumption); k_whole); (all_goals (intro kg' h' tk' tv' hw' T' F' N' B' X' P' D'; (try k_lift B')))))
local macro_rules | `(tactic| walk_at "call ref") => `(tactic| (k_here; (with_reducible rename KtsDicts _ _ => kdX); (with_reducible show wpAny _ _ (call (Value.ref 804) [Value.int _ _, Value.bytes _ _]) _ _ _); k_dflt (refine' kd3 ?hB ?hF ?hK ?hN ?hT ?hD ?hdp ?hun ?hKb ?hTb ?hT0 ?p0 ?p1 ?_ ?_; walk_at "stdc"; (case p0 => first | assumption | omega); (case p1 => assumption); k_whole); (all_goals (intro kg' h' tk' tv' hw' T' F' N' B' X' P' D'; (try k_lift B')))))
local macro_rules | `(tactic| walk_at "exec Return some") => `(tactic| (k_here; (with_reducible rename KtsDicts _ _ => kdX); (with_reducible show wpAny _ _ (exec (Stmt.Return (some (Expr.BoolOp _ _ _)) _) _) _ _ _); k_dflt (refine' sk_tail ?hB ?hF ?hK ?hN ?hT ?hD ?hdp ?hun ?hKb ?hTb ?hT0 ?p0 ?p1 ?_; walk_at "stdc"; (case p1 => exact rfl); (case p0 => assumption); k_whole); intro kg' h' tk' T' F' N' B' X' P' D'; (try k_lift B')))
theorem sk_con : ∀ {w : World} {mean : ExcName → Option Value} {mg mb : Str → Option Value} {dp un : Nat} {gd : Option (List Code)} {outer : List Env} {news : List (Addr × Obj)} {cn : Str} {nms : List (Str × NameKind)} {a : Addr} {ccd : Value} {base h₀ : Heap} {L : Addr} {m : Str → Option Value} {s : Shared} {Q E : Value → Shared → Prop} {g₀ : Heap} {num : Int} {t : Tok}
  (hB : Below (A0 dp un gd outer) base outer h₀) (hF : Fr h₀ L s.heap m) (hK : (hd.heap_39 w.params).In h₀) (hN : News h₀ L s.heap news) (hT : Top hd.view_39 LL mean mg mb h₀) (hD : KtsDicts (outer.filterMap (·.frame)) h₀) (hdp : dp + 60 < recursionLimit) (hun : un + 600 < cLine)
  (hKb : (hd.heap_39 w.params).In base) (hTb : Top hd.view_39 LL mean mg mb base) (hT0 : KtsTurn (outer.filterMap (·.frame)) g₀ h₀) (hn0 : 0 ≤ num) (hn1 : num < 2 ^ 60)
  (hret : ∀ (kg h' : Heap) (tk' : Nat), KtsTurn (outer.filterMap (·.frame)) g₀ kg → Fr kg L h' m → News kg L h' news → Below (A0 dp un gd outer) base outer kg → (hd.heap_39 w.params).In kg → Top hd.view_39 LL mean mg mb kg → KtsDicts (outer.filterMap (·.frame)) kg → Q (.bool true) { s with heap := h', toks := tk' }),
  wpAny (model PySem.Challenge.rw_fp5001_01.prog w) ((A0 dp un gd outer).deeper (fnv cn nms L a ccd)) (call (.ref 811) [.int num t]) Q E s := by
  k_fill
  intro w mean mg mb dp un gd outer news cn nms a ccd base h₀ L m s Q E g₀ num t hB hF hK hN hT hD hdp hun hKb hTb hT0 hn0 hn1 hret
  k_steps
  all_goals exact hret _ _ _ (by assumption) (by k_asm) (by first | assumption | exact drop1 (by assumption) | exact drop2 (by assumption) | exact drop3 (by assumption) | exact drop4 (by assumption) | exact drop5 (by assumption) | exact drop6 (by assumption)) (by assumption) (by assumption) (by assumption) (by assumption)
end
section
local macro_rules | `(tactic| walk_at "compareOp Eq str str") => `(tactic| (k_here; with_reducible refine eq_str_same ?_))
local macro_rules | `(tactic| walk_at "compareOp NotEq str str") => `(tactic| (k_here; with_reducible refine ne_str_same ?_))
local macro_rules | `(tactic| walk_at "compareOp Eq bytes bytes") => `(tactic| (k_here; refine eq_by_same (by first | assumption | rfl | exact app_same rfl rfl) ?_))
local macro_rules | `(tactic| walk_at "compareOp NotEq bytes bytes") => `(tactic| (k_here; refine ne_by_same (by first | assumption | rfl | exact app_same rfl rfl) ?_))
local macro_rules | `(tactic| walk_at "compareOp NotEq bytes str") => `(tactic| (exfalso; omega))
local macro_rules | `(tactic| walk_at "compareOp NotEq str bytes") => `(tactic| (exfalso; omega))
local macro_rules | `(tactic| k_enter) => `(tactic| ((fail_if_success k_inElt); kts_any; kts_go))
local macro_rules | `(tactic| walk_at "call ref") => `(tactic| (k_here; (with_reducible rename KtsDicts _ _ => kdX); (with_reducible show wpAny _ _ (call (Value.ref 771) [Value.int _ _]) _ _ _); k_dflt (refine' wr_low ?hB ?hF ?hK ?hN ?hT ?hD ?hdp ?hun ?hKb ?hTb ?hT0 ?p0 ?p1 ?_; walk_at "stdc"; (case p0 => first | omega | decide | (simp; done) | (simp; omega)); (case p1 => first | omega | decide | (simp; done) | (simp; omega)); k_whole); (intro kg' h' tk' T' F' N' B' X' P' D'; (try k_lift B'))))
local macro_rules | `(tactic| walk_at "call ref") => `(tactic| (k_here; (with_reducible rename KtsDicts _ _ => kdX); (with_reducible show wpAny _ _ (call (Value.ref 771) [Value.int _ _]) _ _ _); k_dflt (refine' wr_high ?hB ?hF ?hK ?hN ?hT ?hD ?hdp ?hun ?hKb ?hTb ?hT0 ?p0 ?p1 ?_; walk_at "stdc"; (case p0 => first | omega | decide | (simp; done) | (simp; omega)); (case p1 => first | omega | decide | (simp; done) | (simp; omega)); k_whole); (intro kg' h' tk' T' F' N' B' X' P' D'; (try k_lift B'))))
local macro_rules | `(tactic| walk_at "call ref") => `(tactic| (k_here; (with_reducible show wpAny _ _ (call (Value.ref 771) _) _ _ _); k_dflt (refine' wr_good ?hB ?hF ?hK ?hN ?hT ?hD ?hdp ?hun ?p0 ?p1 ?_; walk_at "std"; (case p0 => first | omega | (rw [Int.fmod_eq_emod_of_nonneg _ (by decide)]; omega)); (case p1 => first | omega | (rw [Int.fmod_eq_emod_of_nonneg _ (by decide)]; omega)); k_whole; intro h' tk' F' N')))
local macro_rules | `(tactic| walk_at "call ref") => `(tactic| (k_here; (with_reducible rename KtsDicts _ _ => kdX); (with_reducible show wpAny _ _ (call (Value.ref 771) [Value.bool true]) _ _ _); k_dflt (refine' wr_true ?hB ?hF ?hK ?hN ?hT ?hD ?hdp ?hun ?hKb ?hTb ?hT0  ?_; walk_at "stdc"; k_whole); (intro kg' h' tk' T' F' N' B' X' P' D'; (try k_lift B'))))
local macro_rules | `(tactic| walk_at "call ref") => `(tactic| (k_here; (with_reducible rename KtsDicts _ _ => kdX); (with_reducible show wpAny _ _ (call (Value.ref 771) [Value.bool false]) _ _ _); k_dflt (refine' wr_false ?hB ?hF ?hK ?hN ?hT ?hD ?hdp ?hun ?hKb ?hTb ?hT0  ?_; walk_at "stdc"; k_whole); (intro kg' h' tk' T' F' N' B' X' P' D'; (try k_lift B'))))
local macro_rules | `(tactic| walk_at "call ref") => `(tactic| (k_here; (with_reducible rename KtsDicts _ _ => kdX); (with_reducible show wpAny _ _ (call (Value.ref 771) [Value.none]) _ _ _); k_dflt (refine' wr_none ?hB ?hF ?hK ?hN ?hT ?hD ?hdp ?hun ?hKb ?hTb ?hT0  ?_; walk_at "stdc"; k_whole); (intro kg' h' tk' T' F' N' B' X' P' D'; (try k_lift B'))))
local macro_rules | `(tactic| walk_at "call ref") => `(tactic| (k_here; (with_reducible rename KtsDicts _ _ => kdX); (with_reducible show wpAny _ _ (call (Value.ref 771) [Value.str _ _]) _ _ _); k_dflt (refine' wr_str ?hB ?hF ?hK ?hN ?hT ?hD ?hdp ?hun ?hKb ?hTb ?hT0  ?_; walk_at "stdc"; k_whole); (intro kg' h' tk' T' F' N' B' X' P' D'; (try k_lift B'))))
local macro_rules | `(tactic| walk_at "call ref") => `(tactic| (k_here; (with_reducible rename KtsDicts _ _ => kdX); (with_reducible show wpAny _ _ (call (Value.ref 764) [Value.int 1 _, Value.int _ _]) _ _ _); k_dflt (refine' wb_low ?hB ?hF ?hK ?hN ?hT ?hD ?hdp ?hun ?hKb ?hTb ?hT0 ?p0 ?p1 ?_; walk_at "stdc"; (case p0 => first | omega | decide | (simp; done) | (simp; omega)); (case p1 => first | omega | decide | (simp; done) | (simp; omega)); k_whole); (intro kg' h' tk' T' F' N' B' X' P' D'; (try k_lift B'))))
local macro_rules | `(tactic| walk_at "call ref") => `(tactic| (k_here; (with_reducible rename KtsDicts _ _ => kdX); (with_reducible show wpAny _ _ (call (Value.ref 764) [Value.int 1 _, Value.int _ _]) _ _ _); k_dflt (refine' wb_high ?hB ?hF ?hK ?hN ?hT ?hD ?hdp ?hun ?hKb ?hTb ?hT0 ?p0 ?p1 ?_; walk_at "stdc"; (case p0 => first | omega | decide | (simp; done) | (simp; omega)); (case p1 => first | omega | decide | (simp; done) | (simp; omega)); k_whole); (intro kg' h' tk' T' F' N' B' X' P' D'; (try k_lift B'))))
local macro_rules | `(tactic| walk_at "call ref") => `(tactic| (k_here; (with_reducible rename KtsDicts _ _ => kdX); (with_reducible show wpAny _ _ (call (Value.ref 764) [Value.int 1 _, Value.bool true]) _ _ _); k_dflt (refine' wb_true ?hB ?hF ?hK ?hN ?hT ?hD ?hdp ?hun ?hKb ?hTb ?hT0  ?_; walk_at "stdc"; k_whole); (intro kg' h' tk' T' F' N' B' X' P' D'; (try k_lift B'))))
local macro_rules | `(tactic| walk_at "call ref") => `(tactic| (k_here; (with_reducible rename KtsDicts _ _ => kdX); (with_reducible show wpAny _ _ (call (Value.ref 764) [Value.int 1 _, Value.bool false]) _ _ _); k_dflt (refine' wb_false ?hB ?hF ?hK ?hN ?hT ?hD ?hdp ?hun ?hKb ?hTb ?hT0  ?_; walk_at "stdc"; k_whole); (intro kg' h' tk' T' F' N' B' X' P' D'; (try k_lift B'))))
local macro_rules | `(tactic| walk_at "call ref") => `(tactic| (k_here; (with_reducible rename KtsDicts _ _ => kdX); (with_reducible show wpAny _ _ (call (Value.ref 764) [Value.int 1 _, Value.none]) _ _ _); k_dflt (refine' wb_none ?hB ?hF ?hK ?hN ?hT ?hD ?hdp ?hun ?hKb ?hTb ?hT0  ?_; walk_at "stdc"; k_whole); (intro kg' h' tk' T' F' N' B' X' P' D'; (try k_lift B'))))
local macro_rules | `(tactic| walk_at "call ref") => `(tactic| (k_here; (with_reducible rename KtsDicts _ _ => kdX); (with_reducible show wpAny _ _ (call (Value.ref 764) [Value.int 1 _, Value.str _ _]) _ _ _); k_dflt (refine' wb_str ?hB ?hF ?hK ?hN ?hT ?hD ?hdp ?hun ?hKb ?hTb ?hT0  ?_; walk_at "stdc"; k_whole); (intro kg' h' tk' T' F' N' B' X' P' D'; (try k_lift B'))))
local macro_rules | `(tactic| walk_at "call ref") => `(tactic| (k_here; (with_reducible rename KtsDicts _ _ => kdX); (with_reducible show wpAny _ _ (call (Value.ref 778) [Value.bool true, Value.int 8 _]) _ _ _); k_dflt (refine' nr_true ?hB ?hF ?hK ?hN ?hT ?hD ?hdp ?hun ?hKb ?hTb ?hT0 ?p0 ?p1 ?_; walk_at "stdc"; (case p0 => omega); (case p1 => omega); k_whole); (intro kg' h' tk' tv' T' F' N' B' X' P' D'; (try k_lift B'))))
local macro_rules | `(tactic| walk_at "call ref") => `(tactic| (k_here; (with_reducible rename KtsDicts _ _ => kdX); (with_reducible show wpAny _ _ (call (Value.ref 778) [Value.none, Value.int 8 _]) _ _ _); k_dflt (refine' nr_none ?hB ?hF ?hK ?hN ?hT ?hD ?hdp ?hun ?hKb ?hTb ?hT0 ?p0 ?p1 ?_; walk_at "stdc"; (case p0 => omega); (case p1 => omega); k_whole); (intro kg' h' tk' tv' T' F' N' B' X' P' D'; (try k_lift B'))))
local macro_rules | `(tactic| walk_at "call ref") => `(tactic| (k_here; (with_reducible rename KtsDicts _ _ => kdX); (with_reducible show wpAny _ _ (call (Value.ref 778) [Value.str _ _, Value.int 8 _]) _ _ _); k_dflt (refine' nr_str ?hB ?hF ?hK ?hN ?hT ?hD ?hdp ?hun ?hKb ?hTb ?hT0 ?p0 ?p1 ?_; walk_at "stdc"; (case p0 => omega); (case p1 => omega); k_whole); (intro kg' h' tk' tv' T' F' N' B' X' P' D'; (try k_lift B'))))
local macro_rules | `(tactic| walk_at "call ref") => `(tactic| (k_here; (with_reducible rename KtsDicts _ _ => kdX); (with_reducible show wpAny _ _ (call (Value.ref 778) [Value.int (-1) _, Value.int 8 _]) _ _ _); k_dflt (refine' nr_neg ?hB ?hF ?hK ?hN ?hT ?hD ?hdp ?hun ?hKb ?hTb ?hT0 ?p0 ?p1 ?p2 ?p3 ?_; walk_at "stdc"; (case p0 => omega); (case p1 => omega); (case p2 => omega); (case p3 => omega); k_whole); (intro kg' h' tk' tv' T' F' N' B' X' P' D'; (try k_lift B'))))
local macro_rules | `(tactic| walk_at "call ref") => `(tactic| (k_here; (with_reducible rename KtsDicts _ _ => kdX); (with_reducible show wpAny _ _ (call (Value.ref 778) [Value.int 256 _, Value.int 8 _]) _ _ _); k_dflt (refine' nr_out ?hB ?hF ?hK ?hN ?hT ?hD ?hdp ?hun ?hKb ?hTb ?hT0 ?p0 ?p1 ?p2 ?p3 ?_; walk_at "stdc"; (case p0 => omega); (case p1 => omega); (case p2 => decide); (case p3 => decide); k_whole); (intro kg' h' tk' tv' T' F' N' B' X' P' D'; (try k_lift B'))))
local macro_rules | `(tactic| walk_at "call ref") => `(tactic| (k_here; (with_reducible rename KtsDicts _ _ => kdX); (with_reducible show wpAny _ _ (call (Value.ref 778) [Value.int 255 _, Value.int 8 _]) _ _ _); k_dflt (refine' nr_in ?hB ?hF ?hK ?hN ?hT ?hD ?hdp ?hun ?hKb ?hTb ?hT0 ?p0 ?p1 ?p2 ?p3 ?_; walk_at "stdc"; (case p0 => omega); (case p1 => omega); (case p2 => decide); (case p3 => decide); k_whole); (intro kg' h' tk' T' F' N' B' X' P' D'; (try k_lift B'))))
theorem do_con : ∀ {w : World} {mean : ExcName → Option Value} {mg mb : Str → Option Value} {dp un : Nat} {gd : Option (List Code)} {outer : List Env} {news : List (Addr × Obj)} {cn : Str} {nms : List (Str × NameKind)} {a : Addr} {ccd : Value} {base h₀ : Heap} {L : Addr} {m : Str → Option Value} {s : Shared} {Q E : Value → Shared → Prop} {g₀ : Heap} {num : Int} {t : Tok}
  (hB : Below (A0 dp un gd outer) base outer h₀) (hF : Fr h₀ L s.heap m) (hK : (hd.heap_39 w.params).In h₀) (hN : News h₀ L s.heap news) (hT : Top hd.view_39 LL mean mg mb h₀) (hD : KtsDicts (outer.filterMap (·.frame)) h₀) (hdp : dp + 60 < recursionLimit) (hun : un + 600 < cLine)
  (hKb : (hd.heap_39 w.params).In base) (hTb : Top hd.view_39 LL mean mg mb base) (hT0 : KtsTurn (outer.filterMap (·.frame)) g₀ h₀) (hn0 : 0 ≤ num) (hn1 : num < 2 ^ 60)
  (hret : ∀ (kg h' : Heap) (tk' : Nat), KtsTurn (outer.filterMap (·.frame)) g₀ kg → Fr kg L h' m → News kg L h' news → Below (A0 dp un gd outer) base outer kg → (hd.heap_39 w.params).In kg → Top hd.view_39 LL mean mg mb kg → KtsDicts (outer.filterMap (·.frame)) kg → Q (.bool true) { s with heap := h', toks := tk' }),
  wpS (model PySem.Challenge.rw_fp5001_01.prog w) ((A0 dp un gd outer).deeper (fnv cn nms L a ccd)) (call (.ref 797) [.int num t]) Q E s := by
  k_fill
  intro w mean mg mb dp un gd outer news cn nms a ccd base h₀ L m s Q E g₀ num t hB hF hK hN hT hD hdp hun hKb hTb hT0 hn0 hn1 hret
  refine S_call ?_
  walk_at "S_defS"
  refine S_execs (S_For ?_)
  k_steps
  unfold UpTo
  rename Fr _ _ _ _ => F₉
  rename News _ _ _ (_ :: _) => N₉
  refine iterL F₉ N₉ (.head _) ?_
  intro I₉ oI₉ h₉ H₉ hlt₉ F₈ N₈
  refine S_turnL F₈ N₈ hlt₉ H₉ (.head _) rfl ?_
  clear F₈ N₈ H₉
  intro h₉ tk₉ oI₉ H₉ F₈ N₈
  refine S_any ?_
  k_steps
  clear F₈ N₈
  (with_reducible rename Fr _ _ _ _ => F₈)
  (with_reducible rename News _ _ _ (_ :: _) => N₈)
  refine S_turnL F₈ N₈ hlt₉ H₉ (.head _) rfl ?_
  clear F₈ N₈ H₉
  intro h₉ tk₉ oI₉ H₉ F₈ N₈
  refine S_any ?_
  k_steps
  clear F₈ N₈
  (with_reducible rename Fr _ _ _ _ => F₈)
  (with_reducible rename News _ _ _ (_ :: _) => N₈)
  refine S_turnL F₈ N₈ hlt₉ H₉ (.head _) rfl ?_
  clear F₈ N₈ H₉
  intro h₉ tk₉ oI₉ H₉ F₈ N₈
  refine S_any ?_
  k_steps
  clear F₈ N₈
  (with_reducible rename Fr _ _ _ _ => F₈)
  (with_reducible rename News _ _ _ (_ :: _) => N₈)
  refine S_turnL F₈ N₈ hlt₉ H₉ (.head _) rfl ?_
  clear F₈ N₈ H₉
  intro h₉ tk₉ oI₉ H₉ F₈ N₈
  refine S_any ?_
  k_steps
  clear F₈ N₈
  (with_reducible rename Fr _ _ _ _ => F₈)
  (with_reducible rename News _ _ _ (_ :: _) => N₈)
  refine S_turnL F₈ N₈ hlt₉ H₉ (.head _) rfl ?_
  clear F₈ N₈ H₉
  intro h₉ tk₉ oI₉ H₉ F₈ N₈
  refine S_any ?_
  k_steps
  clear F₈ N₈
  (with_reducible rename Fr _ _ _ _ => F₈)
  (with_reducible rename News _ _ _ (_ :: _) => N₈)
  refine S_turnL F₈ N₈ hlt₉ H₉ (.head _) rfl ?_
  clear F₈ N₈ H₉
  intro h₉ tk₉ oI₉ H₉ F₈ N₈
  refine S_any ?_
  k_steps
  clear F₈ N₈
  (with_reducible rename Fr _ _ _ _ => F₈)
  (with_reducible rename News _ _ _ (_ :: _) => N₈)
  refine S_turnL F₈ N₈ hlt₉ H₉ (.head _) rfl ?_
  clear F₈ N₈ H₉
  intro h₉ tk₉ oI₉ H₉ F₈ N₈
  refine S_any ?_
  k_steps
  clear F₈ N₈
  (with_reducible rename Fr _ _ _ _ => F₈)
  (with_reducible rename News _ _ _ (_ :: _) => N₈)
  refine S_turnL F₈ N₈ hlt₉ H₉ (.head _) rfl ?_
  clear F₈ N₈ H₉
  intro h₉ tk₉ oI₉ H₉ F₈ N₈
  refine S_any ?_
  k_steps
  clear F₈ N₈
  (with_reducible rename Fr _ _ _ _ => F₈)
  (with_reducible rename News _ _ _ (_ :: _) => N₈)
  refine S_doneL F₈ N₈ hlt₉ H₉ (.head _) (by rfl) (by rfl) ?_
  clear F₈ N₈ H₉
  intro h₉ F₈ N₈
  dsimp only
  refine S_execs (S_For ?_)
  k_steps
  unfold UpTo
  rename Fr _ _ _ _ => F₉
  rename News _ _ _ (_ :: _) => N₉
  refine iterL F₉ N₉ (.head _) ?_
  intro I₉ oI₉ h₉ H₉ hlt₉ F₈ N₈
  refine S_turnL F₈ N₈ hlt₉ H₉ (.head _) rfl ?_
  clear F₈ N₈ H₉
  intro h₉ tk₉ oI₉ H₉ F₈ N₈
  refine S_any ?_
  k_steps
  clear F₈ N₈
  (with_reducible rename Fr _ _ _ _ => F₈)
  (with_reducible rename News _ _ _ (_ :: _) => N₈)
  refine S_turnL F₈ N₈ hlt₉ H₉ (.head _) rfl ?_
  clear F₈ N₈ H₉
  intro h₉ tk₉ oI₉ H₉ F₈ N₈
  refine S_any ?_
  k_steps
  clear F₈ N₈
  (with_reducible rename Fr _ _ _ _ => F₈)
  (with_reducible rename News _ _ _ (_ :: _) => N₈)
  refine S_turnL F₈ N₈ hlt₉ H₉ (.head _) rfl ?_
  clear F₈ N₈ H₉
  intro h₉ tk₉ oI₉ H₉ F₈ N₈
  refine S_any ?_
  k_steps
  clear F₈ N₈
  (with_reducible rename Fr _ _ _ _ => F₈)
  (with_reducible rename News _ _ _ (_ :: _) => N₈)
  refine S_doneL F₈ N₈ hlt₉ H₉ (.head _) (by rfl) (by rfl) ?_
  clear F₈ N₈ H₉
  intro h₉ F₈ N₈
  dsimp only
  refine S_any ?_
  k_steps
  all_goals (
    rename Fr _ _ _ _ => F₉
    rename News _ _ _ (_ :: _) => N₉
    rename KtsTurn _ _ _ => T₉
    exact ⟨_, _, _, _, T₉, F₉, N₉, fun kg T F N B X P D => hret kg _ _ T F (fun p hp => N p (List.mem_append_right _ hp)) B X P D⟩)
end
section
theorem lw_inT : ∀ {w : World} {mean : ExcName → Option Value} {mg mb : Str → Option Value} {dp un : Nat} {gd : Option (List Code)} {outer : List Env} {news : List (Addr × Obj)} {ev : Env} {base h₀ : Heap} {L : Addr} {m : Str → Option Value} {s : Shared} {Q E : Value → Shared → Prop} {g₀ : Heap} {t t4 : Tok} {num bits : Int}
  (hB : Below (A0 dp un gd outer) base outer h₀) (hF : Fr h₀ L s.heap m) (hK : (hd.heap_39 w.params).In h₀) (hN : News h₀ L s.heap news) (hT : Top hd.view_39 LL mean mg mb h₀) (hD : KtsDicts (outer.filterMap (·.frame)) h₀) (hdp : dp + 40 < recursionLimit) (hun : un + 400 < cLine) (hev : ev.frame = some L) (hek : ev.scope.kind = .function)
  (hKb : (hd.heap_39 w.params).In base) (hTb : Top hd.view_39 LL mean mg mb base) (hT0 : KtsTurn (outer.filterMap (·.frame)) g₀ h₀) (hb1 : 1 ≤ bits) (hb2 : bits ≤ 64) (hn0 : 0 ≤ num) (hn1 : num < 2 ^ bits.toNat)
  (hret : ∀ (kg h' : Heap) (tk' : Nat) (t : Tok) (c : Array UInt8), rkP (KBw.bInts c) 0 0 = some (num, c.size) → c.size ≤ 20 → KtsTurn (outer.filterMap (·.frame)) g₀ kg → Fr kg L h' m → News kg L h' news → Below (A0 dp un gd outer) base outer kg → (hd.heap_39 w.params).In kg → Top hd.view_39 LL mean mg mb kg → KtsDicts (outer.filterMap (·.frame)) kg → Q (.bytes c t) { s with heap := h', toks := tk' }),
  wpAny (model PySem.Challenge.rw_fp5001_01.prog w) ((A0 dp un gd outer).deeper ev) (call (.ref 764) [.int num t, .int bits t4]) Q E s := by
  intro w mean mg mb dp un gd outer news ev base h₀ L m s Q E g₀ t t4 num bits hB hF hK hN hT hD hdp hun hev hek hKb hTb hT0 hb1 hb2 hn0 hn1 hret
  refine lw_in hB hF hK hN hT hD hdp hun hev hek hKb hTb hT0 hb1 hb2 hn0 hn1 fun kg h' tk' t hA => ?_
  have hf := told_facts (n := bits.toNat) hn0 hn1 (by omega) hA
  exact hret kg h' tk' t _ hf.1 hf.2
theorem rk_some : ∀ {w : World} {mean : ExcName → Option Value} {mg mb : Str → Option Value} {dp un : Nat} {gd : Option (List Code)} {outer : List Env} {news : List (Addr × Obj)} {ev : Env} {base h₀ : Heap} {L : Addr} {m : Str → Option Value} {s : Shared} {Q E : Value → Shared → Prop} {b : Array UInt8} {t : Tok} {f : Int} {p : Nat}
  (hB : Below (A0 dp un gd outer) base outer h₀) (hF : Fr h₀ L s.heap m) (hK : (hd.heap_39 w.params).In h₀) (hN : News h₀ L s.heap news) (hT : Top hd.view_39 LL mean mg mb h₀) (hD : KtsDicts (outer.filterMap (·.frame)) h₀) (hdp : dp + 25 < recursionLimit) (hun : un + 250 < cLine) (hev : ev.frame = some L) (hek : ev.scope.kind = .function)
  (hz : b.size ≤ sizeLine) (hrk : rkP (KBw.bInts b) 0 0 = some (f, p))
  (hret : ∀ (h' : Heap) (tk' : Nat) (D : Addr) (t1 t2 : Tok), Fr h₀ L h' m → News h₀ L h' ((D, { cls := .type "tuple", data := .seq #[.int f t1, .int p t2] }) :: news) → (∀ p ∈ news, p.1 < D) → Q (.ref D) { s with heap := h', toks := tk' }),
  wpAny (model PySem.Challenge.rw_fp5001_01.prog w) ((A0 dp un gd outer).deeper ev) (call (.ref 750) [.bytes b t]) Q E s := by
  intro w mean mg mb dp un gd outer news ev base h₀ L m s Q E b t f p hB hF hK hN hT hD hdp hun hev hek hz hrk hret
  refine rk_con hB hF hK hN hT hD hdp hun hev hek hz (fun h' tk' e => absurd (hrk.symm.trans e) (by simp)) fun h' tk' D t1 t2 f' p' e _ F' N' l' => ?_
  obtain ⟨rfl, rfl⟩ := Prod.mk.inj (Option.some.inj (hrk.symm.trans e))
  exact hret _ _ _ _ _ F' N' l'
theorem lr_some : ∀ {w : World} {mean : ExcName → Option Value} {mg mb : Str → Option Value} {dp un : Nat} {gd : Option (List Code)} {outer : List Env} {news : List (Addr × Obj)} {ev : Env} {base h₀ : Heap} {L : Addr} {m : Str → Option Value} {s : Shared} {Q E : Value → Shared → Prop} {g₀ : Heap} {t t4 : Tok} {b : Array UInt8} {bits f : Int} {p : Nat}
  (hB : Below (A0 dp un gd outer) base outer h₀) (hF : Fr h₀ L s.heap m) (hK : (hd.heap_39 w.params).In h₀) (hN : News h₀ L s.heap news) (hT : Top hd.view_39 LL mean mg mb h₀) (hD : KtsDicts (outer.filterMap (·.frame)) h₀) (hdp : dp + 40 < recursionLimit) (hun : un + 400 < cLine) (hev : ev.frame = some L) (hek : ev.scope.kind = .function)
  (hKb : (hd.heap_39 w.params).In base) (hTb : Top hd.view_39 LL mean mg mb base) (hT0 : KtsTurn (outer.filterMap (·.frame)) g₀ h₀) (hz : b.size ≤ sizeLine) (hb1 : 1 ≤ bits) (hb2 : bits ≤ 64) (hpv : pvP (2 ^ bits.toNat - 1) (KBw.bInts b) 0 0 = some (f, p))
  (hret : ∀ (kg h' : Heap) (tk' : Nat) (D : Addr) (t1 t2 : Tok), KtsTurn (outer.filterMap (·.frame)) g₀ kg → Fr kg L h' m → News kg L h' ((D, { cls := .type "tuple", data := .seq #[.int f t1, .int p t2] }) :: news) → Below (A0 dp un gd outer) base outer kg → (hd.heap_39 w.params).In kg → Top hd.view_39 LL mean mg mb kg → KtsDicts (outer.filterMap (·.frame)) kg → Q (.ref D) { s with heap := h', toks := tk' }),
  wpS (model PySem.Challenge.rw_fp5001_01.prog w) ((A0 dp un gd outer).deeper ev) (call (.ref 757) [.bytes b t, .int bits t4]) Q E s := by
  intro w mean mg mb dp un gd outer news ev base h₀ L m s Q E g₀ t t4 b bits f p hB hF hK hN hT hD hdp hun hev hek hKb hTb hT0 hz hb1 hb2 hpv hret
  refine lr_con hB hF hK hN hT hD hdp hun hev hek hKb hTb hT0 hz hb1 hb2 (fun kg h' tk' e => absurd (hpv.symm.trans e) (by simp)) fun kg h' tk' D t1 t2 f' p' e => ?_
  obtain ⟨rfl, rfl⟩ := Prod.mk.inj (Option.some.inj (hpv.symm.trans e))
  exact hret kg _ _ _ _ _
end
section
local macro_rules | `(tactic| walk_at "compareOp Eq str str") => `(tactic| (k_here; with_reducible refine eq_str_same ?_))
local macro_rules | `(tactic| walk_at "compareOp NotEq str str") => `(tactic| (k_here; with_reducible refine ne_str_same ?_))
local macro_rules | `(tactic| walk_at "compareOp Eq bytes bytes") => `(tactic| (k_here; refine eq_by_same (by first | assumption | rfl | exact app_same rfl rfl) ?_))
local macro_rules | `(tactic| walk_at "compareOp NotEq bytes bytes") => `(tactic| (k_here; refine ne_by_same (by first | assumption | rfl | exact app_same rfl rfl) ?_))
local macro_rules | `(tactic| walk_at "compareOp NotEq bytes str") => `(tactic| (exfalso; omega))
local macro_rules | `(tactic| walk_at "compareOp NotEq str bytes") => `(tactic| (exfalso; omega))
local macro_rules | `(tactic| k_enter) => `(tactic| ((fail_if_success k_inElt); kts_any; kts_go))
local macro_rules | `(tactic| walk_at "S_defSC") => `(tactic| k_dflt (refine' codeS_defSC ?k1 ?k2 ?k3 ?k4 ?k5 ?XB ?TB ?D ?T0 ?kA ?kF ?kK ?k6 ?k7 ?k8 ?k9 ?kB ?kD ?_ ?c2 ?c3 ?c4; (case kA => exact rfl); (case kF => first | exact rfl | assumption); (case kK => first | exact rfl | assumption); (case k2 => k_asm); (case k1 => k_asm); (case XB => assumption); (case TB => assumption); (case D => assumption); (case T0 => first | assumption | exact KtsTurn.refl); (case k3 => k_asm); (case k4 => k_asm); (case k5 => k_asm); (case k6 => k_is); (case k7 => k_is); (case k8 => ktr_room); (case k9 => first | exact binds_K (by k_in) rfl (by k_is) rfl rfl rfl | exact BindsTo.of_eq rfl); (case kB => exact rfl); (case kD => decide +kernel); (case c2 => exact rfl); (case c3 => exact rfl); (case c4 => exact rfl); k_whole; intro g' L' h' tk' cells' FG' F' N' Y' B' X' T' D'; k_cells Y'; (try simp only [List.cons_append, List.nil_append] at N'); (try dsimp only); (try k_lift B'); (try k_fold)))
local macro_rules | `(tactic| walk_at "subscriptTail") => `(tactic| (k_here; (with_reducible show wpAny _ _ (subscriptTail _ _ (Value.ref _) (Value.int _ _)) _ _ _); k_dflt (refine' menu_item (lo := 1) (hi := 64) ?mN ?mm ?mi ?mr ?ma ?mb ?mz ?_; (case mN => k_asm); (case mm => k_mem); (case mi => l_ints); (case mr => decide); (case ma => rw [Int.fmod_eq_emod_of_nonneg _ (by decide)]; omega); (case mb => rw [Int.fmod_eq_emod_of_nonneg _ (by decide)]; simp only [List.length_cons, List.length_nil]; omega); (case mz => simp only [List.length_cons, List.length_nil]; omega); k_whole); intro bits' t' hb1' hb2'))
local macro_rules | `(tactic| walk_at "call type:bytes") => `(tactic| (k_here; (with_reducible show wpAny _ _ (call (Value.type "bytes") [Value.ref _]) _ _ _); k_dflt (refine' make_any ?kbaF ?kbaN ?kbah ?kbal ?kbai ?kbar ?kban ?_; (case kbaF => k_asm); (case kbaN => k_asm); (case kbah => rfl); (case kbal => kba_isList); (case kbai => kba_listInts); (case kbar => kba_in); (case kban => kba_size)); intro _ _ _ _ _ F' N'))
local macro_rules | `(tactic| walk_at "call ref") => `(tactic| (k_here; (with_reducible rename KtsDicts _ _ => kdX); (with_reducible show wpAny _ _ (call (Value.ref 750) [Value.bytes _ _]) _ _ _); k_dflt (refine' rk_con ?hB ?hF ?hK ?hN ?hT ?hD ?hdp ?hun ?hev ?hek ?p0 ?_ ?_; walk_at "std"; (case hev => exact rfl); (case hek => exact rfl); (case p0 => first | assumption | (rw [sizeLine_eq]; omega) | (rw [sizeLine_eq]; simp only [Array.size_append, List.size_toArray, List.length_cons, List.length_nil]; omega)); k_whole); (all_goals first | (intro h' tk' D' t1' t2' f' p' hrk' hple' F' N' l1'; (try k_lt l1')) | (intro h' tk' hrk' F' N'))))
local macro_rules | `(tactic| walk_at "binaryOp Add bytes bytes") => `(tactic| (k_here; (with_reducible show wpAny _ _ (binaryOp Operator.Add (Value.bytes _ _) (Value.bytes _ _)) _ _ _); (refine KBy.add_bytes (by (try simp only [Array.size_append, List.size_toArray, List.length_cons, List.length_nil]); omega) ?_); intro _ _))
local macro_rules | `(tactic| walk_at "subscriptTail") => `(tactic| (k_here; (with_reducible show wpAny _ _ (subscriptTail _ (Expr.Slice none (some _) none _) (Value.bytes _ _) (Value.ref _)) _ _ _); (with_reducible rename Fr _ _ _ _ => F'); (with_reducible rename News _ _ _ _ => N'); (refine by_cutL (s := ⟨_, _, _, _, _⟩) F' N' (by omega) (by omega) ?_); intro c' _ _ _ hc' hcz' F' N'))
local macro_rules | `(tactic| walk_at "compareOp Eq bytes bytes") => `(tactic| (k_here; refine eq_by_same (by exact wrote_same (by assumption) (by assumption) (by assumption)) ?_))
local macro_rules | `(tactic| walk_at "call ref") => `(tactic| (k_here; (with_reducible rename KtsDicts _ _ => kdX); (with_reducible show wpAny _ _ (call (Value.ref 764) [Value.int _ _, Value.int _ _]) _ _ _); k_dflt (refine' lw_in ?hB ?hF ?hK ?hN ?hT ?hD ?hdp ?hun ?hev ?hek ?hKb ?hTb ?hT0 ?p0 ?p1 ?p2 ?p3 ?_; walk_at "stdc"; (case hev => exact rfl); (case hek => exact rfl); (case p0 => assumption); (case p1 => assumption); (case p2 => first | assumption | omega); (case p3 => assumption); k_whole); intro kg' h' tk' t' hA' T' F' N' B' X' P' D'; (try k_lift B')))
theorem wh_con : ∀ {w : World} {mean : ExcName → Option Value} {mg mb : Str → Option Value} {dp un : Nat} {gd : Option (List Code)} {outer : List Env} {news : List (Addr × Obj)} {cn : Str} {nms : List (Str × NameKind)} {a : Addr} {ccd : Value} {base h₀ : Heap} {L : Addr} {m : Str → Option Value} {s : Shared} {Q E : Value → Shared → Prop} {g₀ : Heap} {num : Int} {t : Tok}
  (hB : Below (A0 dp un gd outer) base outer h₀) (hF : Fr h₀ L s.heap m) (hK : (hd.heap_39 w.params).In h₀) (hN : News h₀ L s.heap news) (hT : Top hd.view_39 LL mean mg mb h₀) (hD : KtsDicts (outer.filterMap (·.frame)) h₀) (hdp : dp + 60 < recursionLimit) (hun : un + 600 < cLine)
  (hKb : (hd.heap_39 w.params).In base) (hTb : Top hd.view_39 LL mean mg mb base) (hT0 : KtsTurn (outer.filterMap (·.frame)) g₀ h₀) (hn0 : 0 ≤ num) (hn1 : num < 2 ^ 60)
  (hret : ∀ (kg h' : Heap) (tk' : Nat), KtsTurn (outer.filterMap (·.frame)) g₀ kg → Fr kg L h' m → News kg L h' news → Below (A0 dp un gd outer) base outer kg → (hd.heap_39 w.params).In kg → Top hd.view_39 LL mean mg mb kg → KtsDicts (outer.filterMap (·.frame)) kg → Q (.bool true) { s with heap := h', toks := tk' }),
  wpS (model PySem.Challenge.rw_fp5001_01.prog w) ((A0 dp un gd outer).deeper (fnv cn nms L a ccd)) (call (.ref 783) [.int num t]) Q E s := by
  k_fill
  intro w mean mg mb dp un gd outer news cn nms a ccd base h₀ L m s Q E g₀ num t hB hF hK hN hT hD hdp hun hKb hTb hT0 hn0 hn1 hret
  refine S_call ?_
  walk_at "S_defSC"
  refine S_execsA ?_
  k_steps
  refine S_execsA ?_
  k_steps
  refine S_execsA ?_
  k_steps
  rename Array UInt8 => oct
  rename Array.size _ ≤ 1000 => hoz
  refine S_execsA ?_
  k_steps
  all_goals refine S_execsA ?_
  k_steps
  all_goals (rename rkP _ _ _ = _ => hrk)
  all_goals dsimp only
  · refine S_execs (S_if (S_orT (S_all (S_cmp1T ?_))))
    refine S_callE ?_
    k_steps
    refine S_callWith (K := hd.heap_39 w.params) (by k_is) ?_
    k_steps
    k_dflt (refine' lr_con ?hB ?hF ?hK ?hN ?hT ?hD ?hdp ?hun ?hev ?hek ?hKb ?hTb ?hT0 ?p0 ?p1 ?p2 ?_ ?_; walk_at "stdc"; (case hev => exact rfl); (case hek => exact rfl); (case p0 => first | assumption | (rw [sizeLine_eq]; omega) | (rw [sizeLine_eq]; simp only [Array.size_append, List.size_toArray, List.length_cons, List.length_nil]; omega)); (case p1 => assumption); (case p2 => assumption))
    · intro kg' h' tk' hpv T' F' N' B' X' P' D'
      (try k_lift B')
      k_steps
      dsimp only
      refine S_all (S_orT (S_all (S_any ?_)))
      k_steps
      dsimp only
      refine S_allNil ?_
      refine S_pure (a := Flow.next) ?_
      dsimp only
      refine S_any ?_
      k_steps
      (try dsimp only)
      rename Fr _ _ _ _ => F₉
      rename News _ _ _ (_ :: _) => N₉
      rename KtsTurn _ _ _ => T₉
      exact ⟨_, _, _, _, T₉, F₉, N₉, fun kg T F N B X P D => hret kg _ _ T F (fun p hp => N p (List.mem_append_right _ hp)) B X P D⟩
    · intro kg' h' tk' D2 t1 t2 f2 p2 hpv T' F' N' B' X' P' D'
      (try k_lift B')
      rw [pv_noR hrk] at hpv
      cases hpv
  · rename _ < (2 : Int) ^ _ => hlt
    refine S_execs (S_if (S_orT (S_all (S_cmp1T ?_))))
    refine S_callE ?_
    k_steps
    refine S_callWith (K := hd.heap_39 w.params) (by k_is) ?_
    k_steps
    k_dflt (refine' lr_con ?hB ?hF ?hK ?hN ?hT ?hD ?hdp ?hun ?hev ?hek ?hKb ?hTb ?hT0 ?p0 ?p1 ?p2 ?_ ?_; walk_at "stdc"; (case hev => exact rfl); (case hek => exact rfl); (case p0 => first | assumption | (rw [sizeLine_eq]; omega) | (rw [sizeLine_eq]; simp only [Array.size_append, List.size_toArray, List.length_cons, List.length_nil]; omega)); (case p1 => assumption); (case p2 => assumption))
    · intro kg' h' tk' hpv T' F' N' B' X' P' D'
      (try k_lift B')
      rw [pv_someR hrk hlt] at hpv
      cases hpv
    · intro kg' h' tk' D2 t1 t2 f2 p2 hpv T' F' N' B' X' P' D'
      (try k_lift B')
      rw [pv_someR hrk hlt] at hpv
      cases hpv
      k_steps
      dsimp only
      refine S_all (S_orT (S_all (S_any ?_)))
      k_steps
      dsimp only
      refine S_all (S_cmp1T ?_)
      refine S_callE ?_
      k_steps
      refine S_callWith (K := hd.heap_39 w.params) (by k_is) ?_
      k_steps
      k_dflt (refine' lr_con ?hB ?hF ?hK ?hN ?hT ?hD ?hdp ?hun ?hev ?hek ?hKb ?hTb ?hT0 ?p0 ?p1 ?p2 ?_ ?_; walk_at "stdc"; (case hev => exact rfl); (case hek => exact rfl); (case p0 => first | assumption | (rw [sizeLine_eq]; omega) | (rw [sizeLine_eq]; simp only [Array.size_append, List.size_toArray, List.length_cons, List.length_nil]; omega)); (case p1 => assumption); (case p2 => assumption))
      · intro kg' h' tk' hpv T' F' N' B' X' P' D'
        (try k_lift B')
        rw [KBw.ints_app rfl rfl, pv_someR (rkP_app _ _ _ _ _ _ hrk) hlt] at hpv
        cases hpv
      · intro kg' h' tk' D2 t1 t2 f2 p2 hpv T' F' N' B' X' P' D'
        (try k_lift B')
        rw [KBw.ints_app rfl rfl, pv_someR (rkP_app _ _ _ _ _ _ hrk) hlt] at hpv
        cases hpv
        k_steps
        dsimp only
        refine S_allNil ?_
        refine S_pure (a := Flow.next) ?_
        dsimp only
        refine S_execs (S_if (S_orT (S_all (S_any ?_))))
        k_steps
        dsimp only
        refine S_all (S_cmp1T ?_)
        refine S_callE ?_
        k_steps
        refine S_callWith (K := hd.heap_39 w.params) (by k_is) ?_
        k_steps
        k_dflt (refine' pvb_con ?hB ?hF ?hK ?hN ?hT ?hD ?hdp ?hun ?hev ?hek ?p0 ?p1 ?p2 ?_ ?_; walk_at "std"; (case hev => exact rfl); (case hek => exact rfl); (case p0 => first | assumption | (rw [sizeLine_eq]; omega) | (rw [sizeLine_eq]; simp only [Array.size_append, List.size_toArray, List.length_cons, List.length_nil]; omega)); (case p1 => assumption); (case p2 => assumption))
        · intro h' tk' t' f2 p2 hpv F' N'
          rename KBw.bInts _ = List.take _ _ => hcut
          rw [hcut, Int.toNat_natCast, pv_someR (rkP_take hrk) hlt] at hpv
          cases hpv
          have hf0 := rk_nn hrk
          k_steps
          simp only [bne_self_eq_false]
          refine S_pure (a := Flow.next) ?_
          dsimp only
          refine S_any ?_
          k_steps
          (try dsimp only)
          rename Fr _ _ _ _ => F₉
          rename News _ _ _ (_ :: _) => N₉
          rename KtsTurn _ _ _ => T₉
          exact ⟨_, _, _, _, T₉, F₉, N₉, fun kg T F N B X P D => hret kg _ _ T F (fun p hp => N p (List.mem_append_right _ hp)) B X P D⟩
        · intro G' h' tk' e' t' vs' hpv
          rename KBw.bInts _ = List.take _ _ => hcut
          rw [hcut, Int.toNat_natCast, pv_someR (rkP_take hrk) hlt] at hpv
          cases hpv
  · rename ¬ _ < (2 : Int) ^ _ => hge
    refine S_execs (S_if (S_orT (S_all (S_cmp1T ?_))))
    refine S_callE ?_
    k_steps
    refine S_callWith (K := hd.heap_39 w.params) (by k_is) ?_
    k_steps
    k_dflt (refine' lr_con ?hB ?hF ?hK ?hN ?hT ?hD ?hdp ?hun ?hev ?hek ?hKb ?hTb ?hT0 ?p0 ?p1 ?p2 ?_ ?_; walk_at "stdc"; (case hev => exact rfl); (case hek => exact rfl); (case p0 => first | assumption | (rw [sizeLine_eq]; omega) | (rw [sizeLine_eq]; simp only [Array.size_append, List.size_toArray, List.length_cons, List.length_nil]; omega)); (case p1 => assumption); (case p2 => assumption))
    · intro kg' h' tk' hpv T' F' N' B' X' P' D'
      (try k_lift B')
      k_steps
      dsimp only
      refine S_all (S_orT (S_all (S_any ?_)))
      k_steps
      dsimp only
      refine S_all (S_cmp1T ?_)
      refine S_callE ?_
      k_steps
      refine S_callWith (K := hd.heap_39 w.params) (by k_is) ?_
      k_steps
      k_dflt (refine' lr_con ?hB ?hF ?hK ?hN ?hT ?hD ?hdp ?hun ?hev ?hek ?hKb ?hTb ?hT0 ?p0 ?p1 ?p2 ?_ ?_; walk_at "stdc"; (case hev => exact rfl); (case hek => exact rfl); (case p0 => first | assumption | (rw [sizeLine_eq]; omega) | (rw [sizeLine_eq]; simp only [Array.size_append, List.size_toArray, List.length_cons, List.length_nil]; omega)); (case p1 => assumption); (case p2 => assumption))
      · intro kg' h' tk' hpv T' F' N' B' X' P' D'
        (try k_lift B')
        k_steps
        dsimp only
        refine S_allNil ?_
        refine S_pure (a := Flow.next) ?_
        dsimp only
        refine S_any ?_
        k_steps
        (try dsimp only)
        rename Fr _ _ _ _ => F₉
        rename News _ _ _ (_ :: _) => N₉
        rename KtsTurn _ _ _ => T₉
        exact ⟨_, _, _, _, T₉, F₉, N₉, fun kg T F N B X P D => hret kg _ _ T F (fun p hp => N p (List.mem_append_right _ hp)) B X P D⟩
      · intro kg' h' tk' D2 t1 t2 f2 p2 hpv T' F' N' B' X' P' D'
        (try k_lift B')
        rw [KBw.ints_app rfl rfl, pv_bigR (rkP_app _ _ _ _ _ _ hrk) hge] at hpv
        cases hpv
    · intro kg' h' tk' D2 t1 t2 f2 p2 hpv T' F' N' B' X' P' D'
      (try k_lift B')
      rw [pv_bigR hrk hge] at hpv
      cases hpv
end
section
local macro_rules | `(tactic| walk_at "no such key") => `(tactic| fail)
local macro_rules | `(tactic| walk_at "compareOp Eq str str") => `(tactic| (k_here; with_reducible refine eq_str_same ?_))
local macro_rules | `(tactic| walk_at "compareOp NotEq str str") => `(tactic| (k_here; with_reducible refine ne_str_same ?_))
local macro_rules | `(tactic| walk_at "compareOp Eq bytes bytes") => `(tactic| (k_here; refine eq_by_same (by first | assumption | rfl | exact app_same rfl rfl) ?_))
local macro_rules | `(tactic| walk_at "compareOp NotEq bytes bytes") => `(tactic| (k_here; refine ne_by_same (by first | assumption | rfl | exact app_same rfl rfl) ?_))
local macro_rules | `(tactic| walk_at "compareOp NotEq bytes str") => `(tactic| (exfalso; omega))
local macro_rules | `(tactic| walk_at "compareOp NotEq str bytes") => `(tactic| (exfalso; omega))
local macro_rules | `(tactic| k_enter) => `(tactic| ((fail_if_success k_inElt); kts_any; kts_go))
local macro_rules | `(tactic| walk_at "subscriptTail") => `(tactic| (k_here; (with_reducible show wpAny _ _ (subscriptTail _ _ (Value.ref _) (Value.int _ _)) _ _ _); k_dflt (refine' menu_item (lo := 1) (hi := 64) ?mN ?mm ?mi ?mr ?ma ?mb ?mz ?_; (case mN => k_asm); (case mm => k_mem); (case mi => l_ints); (case mr => decide); (case ma => rw [Int.fmod_eq_emod_of_nonneg _ (by decide)]; omega); (case mb => rw [Int.fmod_eq_emod_of_nonneg _ (by decide)]; simp only [List.length_cons, List.length_nil]; omega); (case mz => simp only [List.length_cons, List.length_nil]; omega); k_whole); intro bits' t' hb1' hb2'))
local macro_rules | `(tactic| walk_at "call type:bytes") => `(tactic| (k_here; (with_reducible show wpAny _ _ (call (Value.type "bytes") [Value.ref _]) _ _ _); k_dflt (refine' make_any ?kbaF ?kbaN ?kbah ?kbal ?kbai ?kbar ?kban ?_; (case kbaF => k_asm); (case kbaN => k_asm); (case kbah => rfl); (case kbal => kba_isList); (case kbai => kba_listInts); (case kbar => kba_in); (case kban => kba_size)); intro _ _ _ _ _ F' N'))
local macro_rules | `(tactic| walk_at "subscriptTail") => `(tactic| (k_here; (with_reducible show wpAny _ _ (subscriptTail _ _ (Value.ref _) (Value.int (Int.fmod _ 5) _)) _ _ _); k_dflt (refine' menu_value ?mN ?mm ?mi ?m1 ?m2 ?m3 ?ma ?mb ?_; (case mN => k_asm); (case mm => k_mem); (case mi => l_ints); (case m1 => (have := pow_lo (by assumption)); omega); (case m2 => rw [Int.fmod_eq_emod_of_nonneg _ (by decide)]; omega); (case m3 => rw [Int.fmod_eq_emod_of_nonneg _ (by decide)]; omega); (case ma => rw [Int.fmod_eq_emod_of_nonneg _ (by decide)]; omega); (case mb => rw [Int.fmod_eq_emod_of_nonneg _ (by decide)]; omega); k_whole); intro val' t' hv1' hv2'))
local macro_rules | `(tactic| walk_at "call ref") => `(tactic| (k_here; (with_reducible rename KtsDicts _ _ => kdX); (with_reducible show wpAny _ _ (call (Value.ref 750) [Value.bytes _ _]) _ _ _); k_dflt (refine' rk_some ?hB ?hF ?hK ?hN ?hT ?hD ?hdp ?hun ?hev ?hek ?p0 ?p1 ?_; walk_at "std"; (case hev => exact rfl); (case hek => exact rfl); (case p0 => first | assumption | (rw [sizeLine_eq]; omega) | (rw [sizeLine_eq]; simp only [Array.size_append, List.size_toArray, List.length_cons, List.length_nil]; omega)); (case p1 => assumption); k_whole); intro h' tk' D' t1' t2' F' N' l1'; (try k_lt l1')))
local macro_rules | `(tactic| walk_at "call ref") => `(tactic| (k_here; (with_reducible rename KtsDicts _ _ => kdX); (with_reducible show wpAny _ _ (call (Value.ref 778) [Value.int _ _, Value.int _ _]) _ _ _); k_dflt (refine' nr_in ?hB ?hF ?hK ?hN ?hT ?hD ?hdp ?hun ?hKb ?hTb ?hT0 ?p0 ?p1 ?p2 ?p3 ?_; walk_at "stdc"; (case p0 => first | assumption | omega); (case p1 => first | assumption | omega); (case p2 => first | assumption | omega); (case p3 => first | assumption | omega); k_whole); (intro kg' h' tk' T' F' N' B' X' P' D'; (try k_lift B'))))
local macro_rules | `(tactic| walk_at "call ref") => `(tactic| (k_here; (with_reducible rename KtsDicts _ _ => kdX); (with_reducible show wpAny _ _ (call (Value.ref 778) [Value.int _ _, Value.int _ _]) _ _ _); k_dflt (refine' nr_out ?hB ?hF ?hK ?hN ?hT ?hD ?hdp ?hun ?hKb ?hTb ?hT0 ?p0 ?p1 ?p2 ?p3 ?_; walk_at "stdc"; (case p0 => first | assumption | omega); (case p1 => first | assumption | omega); (case p2 => first | assumption | omega); (case p3 => first | assumption | omega); k_whole); (intro kg' h' tk' tv' T' F' N' B' X' P' D'; (try k_lift B'))))
local macro_rules | `(tactic| walk_at "call ref") => `(tactic| (k_here; (with_reducible rename KtsDicts _ _ => kdX); (with_reducible show wpAny _ _ (call (Value.ref 764) [Value.int _ _, Value.int _ _]) _ _ _); k_dflt (refine' lw_inT ?hB ?hF ?hK ?hN ?hT ?hD ?hdp ?hun ?hev ?hek ?hKb ?hTb ?hT0 ?p0 ?p1 ?p2 ?p3 ?_; walk_at "stdc"; (case hev => exact rfl); (case hek => exact rfl); (case p0 => first | assumption | omega); (case p1 => first | assumption | omega); (case p2 => first | assumption | omega); (case p3 => first | assumption | omega); k_whole); intro kg' h' tk' t' c' hrk' hcz' T' F' N' B' X' P' D'; (try k_lift B')))
local macro_rules | `(tactic| walk_at "call ref") => `(tactic| (k_here; (with_reducible rename KtsDicts _ _ => kdX); (with_reducible show wpAny _ _ (call (Value.ref 764) [Value.int _ _, Value.int _ _]) _ _ _); k_dflt (refine' lw_out ?hB ?hF ?hK ?hN ?hT ?hD ?hdp ?hun ?hKb ?hTb ?hT0 ?p0 ?p1 ?p2 ?p3 ?_; walk_at "stdc"; (case p0 => first | assumption | omega); (case p1 => first | assumption | omega); (case p2 => first | assumption | omega); (case p3 => first | assumption | omega); k_whole); (intro kg' h' tk' T' F' N' B' X' P' D'; (try k_lift B'))))
theorem bh_con : ∀ {w : World} {mean : ExcName → Option Value} {mg mb : Str → Option Value} {dp un : Nat} {gd : Option (List Code)} {outer : List Env} {news : List (Addr × Obj)} {cn : Str} {nms : List (Str × NameKind)} {a : Addr} {ccd : Value} {base h₀ : Heap} {L : Addr} {m : Str → Option Value} {s : Shared} {Q E : Value → Shared → Prop} {g₀ : Heap} {num : Int} {t : Tok}
  (hB : Below (A0 dp un gd outer) base outer h₀) (hF : Fr h₀ L s.heap m) (hK : (hd.heap_39 w.params).In h₀) (hN : News h₀ L s.heap news) (hT : Top hd.view_39 LL mean mg mb h₀) (hD : KtsDicts (outer.filterMap (·.frame)) h₀) (hdp : dp + 60 < recursionLimit) (hun : un + 600 < cLine)
  (hKb : (hd.heap_39 w.params).In base) (hTb : Top hd.view_39 LL mean mg mb base) (hT0 : KtsTurn (outer.filterMap (·.frame)) g₀ h₀) (hn0 : 0 ≤ num) (hn1 : num < 2 ^ 60)
  (hret : ∀ (kg h' : Heap) (tk' : Nat), KtsTurn (outer.filterMap (·.frame)) g₀ kg → Fr kg L h' m → News kg L h' news → Below (A0 dp un gd outer) base outer kg → (hd.heap_39 w.params).In kg → Top hd.view_39 LL mean mg mb kg → KtsDicts (outer.filterMap (·.frame)) kg → Q (.bool true) { s with heap := h', toks := tk' }),
  wpS (model PySem.Challenge.rw_fp5001_01.prog w) ((A0 dp un gd outer).deeper (fnv cn nms L a ccd)) (call (.ref 790) [.int num t]) Q E s := by
  k_fill
  intro w mean mg mb dp un gd outer news cn nms a ccd base h₀ L m s Q E g₀ num t hB hF hK hN hT hD hdp hun hKb hTb hT0 hn0 hn1 hret
  refine S_call ?_
  walk_at "S_defS"
  refine S_execsA ?_
  k_steps
  rename (1 : Int) ≤ _ => hb1
  rename _ ≤ (64 : Int) => hb2
  rename Int => bits
  have hP1 := pow_lo hb1
  have hP2 := pow_hi hb1 hb2
  refine S_execsA ?_
  k_steps
  refine S_execsA ?_
  k_steps
  rename -1 ≤ _ => hv1
  rename _ ≤ (_ : Int) - 1 + 1 => hv2
  rename Int => val
  refine S_execs (S_if (S_any ?_))
  k_steps
  refine S_iteB (fun hneg => ?_) (fun hneg => ?_)
  · refine S_execsA ?_
    k_steps
    refine S_pure (a := Flow.next) ?_
    dsimp only
    refine S_execs (S_if (S_any ?_))
    k_steps
    refine S_pure (a := Flow.next) ?_
    dsimp only
    refine S_execsA ?_
    k_steps
    dsimp only
    rename rkP _ _ _ = _ => hrk
    rename Array.size _ ≤ 20 => hsz
    refine S_execs (S_if (S_any ?_))
    k_steps
    refine S_iteB (fun hq => absurd (of_decide_eq_true hq) (by omega)) (fun hq => ?_)
    refine S_pure (a := Flow.next) ?_
    dsimp only
    refine S_execs (S_return (S_boolE (S_boolCons (S_any ?_))))
    k_steps
    dsimp only
    refine S_boolCons (S_any ?_)
    k_steps
    simp only [beq_self_eq_true, Bool.and_self]
    refine S_boolLast (S_cmp1 ?_)
    refine S_callE ?_
    k_steps
    refine S_callWith (K := hd.heap_39 w.params) (by k_is) ?_
    k_steps
    k_dflt (refine' lr_some ?hB ?hF ?hK ?hN ?hT ?hD ?hdp ?hun ?hev ?hek ?hKb ?hTb ?hT0 ?p0 ?p1 ?p2 ?p3 ?_; walk_at "stdc"; (case hev => exact rfl); (case hek => exact rfl); (case p0 => first | assumption | (rw [sizeLine_eq]; omega) | (rw [sizeLine_eq]; simp only [Array.size_append, List.size_toArray, List.length_cons, List.length_nil]; omega)); (case p1 => assumption); (case p2 => assumption); (case p3 => exact pv_someR (by assumption) (by first | assumption | omega)))
    intro kg' h' tk' D2 t1 t2 T' F' N' B' X' P' D'
    (try k_lift B')
    k_steps
    (try dsimp only)
    rename Fr _ _ _ _ => F₉
    rename News _ _ _ (_ :: _) => N₉
    rename KtsTurn _ _ _ => T₉
    exact ⟨_, _, _, _, T₉, F₉, N₉, fun kg T F N B X P D => hret kg _ _ T F (fun p hp => N p (List.mem_append_right _ hp)) B X P D⟩
  · refine S_pure (a := Flow.next) ?_
    dsimp only
    have hn0 : 0 ≤ val := by simpa using hneg
    rcases Int.lt_or_le val (2 ^ bits.toNat) with hin | hin
    · refine S_execs (S_if (S_any ?_))
      k_steps
      refine S_pure (a := Flow.next) ?_
      dsimp only
      refine S_execsA ?_
      k_steps
      dsimp only
      rename rkP _ _ _ = _ => hrk
      rename Array.size _ ≤ 20 => hsz
      refine S_execs (S_if (S_any ?_))
      k_steps
      refine S_iteB (fun hq => absurd (of_decide_eq_true hq) (by omega)) (fun hq => ?_)
      refine S_pure (a := Flow.next) ?_
      dsimp only
      refine S_execs (S_return (S_boolE (S_boolCons (S_any ?_))))
      k_steps
      dsimp only
      refine S_boolCons (S_any ?_)
      k_steps
      simp only [beq_self_eq_true, Bool.and_self]
      refine S_boolLast (S_cmp1 ?_)
      refine S_callE ?_
      k_steps
      refine S_callWith (K := hd.heap_39 w.params) (by k_is) ?_
      k_steps
      k_dflt (refine' lr_some ?hB ?hF ?hK ?hN ?hT ?hD ?hdp ?hun ?hev ?hek ?hKb ?hTb ?hT0 ?p0 ?p1 ?p2 ?p3 ?_; walk_at "stdc"; (case hev => exact rfl); (case hek => exact rfl); (case p0 => first | assumption | (rw [sizeLine_eq]; omega) | (rw [sizeLine_eq]; simp only [Array.size_append, List.size_toArray, List.length_cons, List.length_nil]; omega)); (case p1 => assumption); (case p2 => assumption); (case p3 => exact pv_someR (by assumption) (by first | assumption | omega)))
      intro kg' h' tk' D2 t1 t2 T' F' N' B' X' P' D'
      (try k_lift B')
      k_steps
      (try dsimp only)
      rename Fr _ _ _ _ => F₉
      rename News _ _ _ (_ :: _) => N₉
      rename KtsTurn _ _ _ => T₉
      exact ⟨_, _, _, _, T₉, F₉, N₉, fun kg T F N B X P D => hret kg _ _ T F (fun p hp => N p (List.mem_append_right _ hp)) B X P D⟩
    · refine S_execs (S_if (S_any ?_))
      k_steps
      refine S_pure (a := Flow.next) ?_
      dsimp only
      refine S_execsA ?_
      k_steps
      dsimp only
      refine S_execs (S_if (S_any ?_))
      k_steps
      refine S_iteB (fun hq => ?_) (fun hq => absurd (of_decide_eq_false hq) (by omega))
      refine S_any ?_
      k_steps
      (try dsimp only)
      rename Fr _ _ _ _ => F₉
      rename News _ _ _ (_ :: _) => N₉
      rename KtsTurn _ _ _ => T₉
      exact ⟨_, _, _, _, T₉, F₉, N₉, fun kg T F N B X P D => hret kg _ _ T F (fun p hp => N p (List.mem_append_right _ hp)) B X P D⟩
end
section
local macro_rules | `(tactic| walk_at "call ref") => `(tactic| (k_here; (with_reducible show wpAny _ _ (call (Value.ref 657) _) _ _ _); k_dflt (refine' re_con ?hB ?hF ?hK ?hN ?hT ?hD ?hdp ?hun ?p0 ?p1 ?p2 ?p3 ?p4 ?p5 ?p6 ?p7 ?p8 ?_ ?_; walk_at "std"; (case p0 => assumption); (case p1 => assumption); (case p2 => assumption); (case p3 => assumption); (case p4 => omega); (case p5 => omega); (case p6 => omega); (case p7 => omega); (case p8 => first | assumption | decide +kernel)); intro h' tk' t1' t2' t3' t' c' p' hle' hc' hp' F' N'; (try subst hp')))
local macro_rules | `(tactic| walk_at "eval Name") => `(tactic| (k_here; k_dflt (refine' ld ?k1 ?k2 ?_; (case k1 => k_asm); (case k2 => assumption); k_whole)))
theorem pv_known : ∀ {w : World} {mean : ExcName → Option Value} {mg mb : Str → Option Value} {dp un : Nat} {gd : Option (List Code)} {outer : List Env} {rest : List (Addr × Obj)} {cn : Str} {nms : List (Str × NameKind)} {a : Addr} {ccd : Value} {base h₀ : Heap} {L : Addr} {m : Str → Option Value} {s : Shared} {Q E : Value → Shared → Prop} {x d ba : Addr} {t1 t2 t3 t4 : Tok} {b : Array UInt8} {pos : Nat} {bits f : Int} {p : Nat}
  (hB : Below (A0 dp un gd outer) base outer h₀) (hF : Fr h₀ L s.heap m) (hK : (hd.heap_39 w.params).In h₀) (hN : News h₀ L s.heap ((x, instObj 394 d) :: (d, bioD w.params ba pos t1 t2 t3) :: (ba, baObj b) :: rest)) (hT : Top hd.view_39 LL mean mg mb h₀) (hD : KtsDicts (outer.filterMap (·.frame)) h₀) (hdp : dp + 30 < recursionLimit) (hun : un + 300 < cLine)
  (hz : b.size ≤ sizeLine) (hx : @LT.lt Nat _ d x) (hba : @LT.lt Nat _ x ba) (hne : ∀ p ∈ rest, p.1 ≠ d) (hp : pos ≤ b.size) (hb1 : 1 ≤ bits) (hb2 : bits ≤ 64) (hpv : pvP (2 ^ bits.toNat - 1) ((KBw.bInts b).drop pos) pos 0 = some (f, p))
  (hret : ∀ (h' : Heap) (tk' : Nat) (t1 t2 t3 t : Tok), p ≤ b.size → Fr h₀ L h' m → News h₀ L h' ((x, instObj 394 d) :: (d, bioD w.params ba (p) t1 t2 t3) :: (ba, baObj b) :: rest) → Q (.int f t) { s with heap := h', toks := tk' }),
  wpAny (model PySem.Challenge.rw_fp5001_01.prog w) ((A0 dp un gd outer).deeper (fnv cn nms L a ccd)) (call (.ref 701) [.ref x, .int bits t4]) Q E s := by
  intro w mean mg mb dp un gd outer rest cn nms a ccd base h₀ L m s Q E x d ba t1 t2 t3 t4 b pos bits f p hB hF hK hN hT hD hdp hun hz hx hba hne hp hb1 hb2 hpv hret
  refine pv_con hB hF hK hN hT hD hdp hun hz hx hba hne hp hb1 hb2 (fun h' tk' t1 t2 t3 t f' p' e => ?_) (fun G h' tk' e t vs q => absurd (hpv.symm.trans q) (by simp))
  obtain ⟨rfl, rfl⟩ := Prod.mk.inj (Option.some.inj (hpv.symm.trans e))
  exact hret _ _ _ _ _ _
theorem ps_map {m₀ : Str → Option Value} {v1 v2 v3 v4 : Option Value} : (fun y => if y = Str.ofString "size" then v1 else if y = Str.ofString "chunk" then v2 else if y = Str.ofString "chunk" then v3 else if y = Str.ofString "size" then v4 else m₀ y) =
    (fun y => if y = Str.ofString "chunk" then v2 else if y = Str.ofString "size" then v1 else m₀ y) := by
  funext y
  by_cases h1 : y = Str.ofString "chunk"
  · subst h1; rfl
  · by_cases h2 : y = Str.ofString "size"
    · subst h2; rfl
    · simp only [if_neg h1, if_neg h2]
theorem ps_loop : ∀ {w : World} {mean : ExcName → Option Value} {mg mb : Str → Option Value} {dp un : Nat} {gd : Option (List Code)} {outer : List Env} {rest : List (Addr × Obj)} {base g : Heap} {L : Addr} {s : Shared} {Q : Flow → Shared → Prop} {E : Value → Shared → Prop}
  {x d ba : Addr} {t1 t2 t3 tz : Tok} {b : Array UInt8} {pos z : Int} {vb : Option Value} {m₀ : Str → Option Value}
  (hB : Below (A0 dp un gd outer) base outer g) (hF : Fr g L s.heap (fun y => if y = Str.ofString "chunk" then vb else if y = Str.ofString "size" then some (.int z tz) else m₀ y)) (hK : (hd.heap_39 w.params).In g) (hN : News g L s.heap ((x, instObj 394 d) :: (d, bioD w.params ba pos t1 t2 t3) :: (ba, baObj b) :: rest)) (hT : Top hd.view_39 LL mean mg mb g) (hD : KtsDicts (outer.filterMap (·.frame)) g) (hdp : dp + 20 < recursionLimit) (hun : un + 200 < cLine)
  (hz : b.size ≤ sizeLine) (hx : @LT.lt Nat _ d x) (hba : @LT.lt Nat _ x ba) (hne : ∀ p ∈ rest, p.1 ≠ d) (hp0 : 0 ≤ pos) (hp : pos ≤ b.size) (hz0 : 1 ≤ z) (hz1 : z ≤ 60000)
  (ms : m₀ (Str.ofString "stream") = some (.ref x))
  (hnext : ∀ (h' : Heap) (tk' : Nat) (m' : Str → Option Value) (t1 t2 t3 : Tok), pos + z ≤ b.size → Fr g L h' m' → News g L h' ((x, instObj 394 d) :: (d, bioD w.params ba (pos + z) t1 t2 t3) :: (ba, baObj b) :: rest) → Q .next { s with heap := h', toks := tk' })
  (hrai : ∀ (h' : Heap) (tk' : Nat) (e t : Addr) (vs : List Value), b.size < pos + z → RaisedS base g outer e (.ref 71) t vs [] h' → g.UpToSlots h' → E (.ref e) { s with heap := h', toks := tk' }),
  wpAny (model PySem.Challenge.rw_fp5001_01.prog w) ((A0 dp un gd outer).deeper (enOf ((hd.heap_39 w.params).lookup 722) L 722)) (exec (stOf ((hd.heap_39 w.params).lookup 722) 5) (enOf ((hd.heap_39 w.params).lookup 722) L 722)) Q
    (fun e s' => wpAny (model PySem.Challenge.rw_fp5001_01.prog w) ((A0 dp un gd outer).deeper (enOf ((hd.heap_39 w.params).lookup 722) L 722)) (leaving (enOf ((hd.heap_39 w.params).lookup 722) L 722) e) (fun _ s'' => E e s'') (fun e' s'' => E e' s'') s') s := by
  k_fill
  intro w mean mg mb dp un gd outer rest base g L s Q E x d ba t1 t2 t3 tz b pos z vb m₀ hB hF hK hN hT hD hdp hun hz hx hba hne hp0 hp hz0 hz1 ms hnext hrai
  rw [show (hd.heap_39 w.params).lookup 722 = some _ from by k_is]
  show wpAny _ _ (exec (.While _ _ [] _) _) _ _ _
  dsimp only [enOf, fdOf, fnOf]
  refine While_inv2 (J := fun n m₁ news₁ => ∃ (pos' z' : Int) (vb' : Option Value) (t1' t2' t3' tz' : Tok), m₁ = (fun y => if y = Str.ofString "chunk" then vb' else if y = Str.ofString "size" then some (.int z' tz') else m₀ y) ∧
      news₁ = ((x, instObj 394 d) :: (d, bioD w.params ba pos' t1' t2' t3') :: (ba, baObj b) :: rest) ∧ ((n = 1 ∧ z' = z ∧ pos' = pos) ∨ (n = 0 ∧ z' = 0 ∧ pos' = pos + z ∧ pos + z ≤ b.size))) (n₀ := 1)
    hF hN ⟨pos, z, vb, t1, t2, t3, tz, rfl, rfl, .inl ⟨rfl, rfl, rfl⟩⟩ ?_
  intro n m₁ news₁ h₁ tk₁ F₁ N₁ hJ
  obtain ⟨pos', z', vb', t1', t2', t3', tz', rfl, rfl, hJ⟩ := hJ
  clear hF hN
  rcases hJ with ⟨hn, rfl, rfl⟩ | ⟨hn, rfl, hpp, hle⟩
  · have hk : ¬ (65536 < z') := by omega
    k_steps
    · rename Fr _ _ _ _ => F₉
      rename News _ _ _ _ => N₉
      rename (_ + ite _ _ _ : Int) ≤ _ => hle₉
      simp only [if_neg hk] at F₉ N₉ hle₉
      exact ⟨_, _, _, _, 0, rfl, F₉, N₉, by omega, _, _, _, _, _, _, _, ps_map, rfl, .inr ⟨rfl, by omega, rfl, hle₉⟩⟩
    · rename _ < (_ + ite _ _ _ : Int) => hlt₉
      simp only [if_neg hk] at hlt₉
      exact hrai _ _ _ _ _ hlt₉ (by assumption) (by assumption)
    · exfalso; omega
  · k_steps
    subst hpp
    exact hnext _ _ _ _ _ _ hle F₁ N₁
end
section
theorem ps_map2 {m : Str → Option Value} {v1 : Option Value} : (fun y => if y = Str.ofString "size" then v1 else m y) =
    (fun y => if y = Str.ofString "chunk" then m (Str.ofString "chunk") else if y = Str.ofString "size" then v1 else m y) := by
  funext y
  by_cases h1 : y = Str.ofString "chunk"
  · subst h1; rfl
  · simp only [if_neg h1]
local macro_rules | `(tactic| walk_at "call ref") => `(tactic| (k_here; (with_reducible show wpAny _ _ (call (Value.ref 657) _) _ _ _); k_dflt (refine' re_con ?hB ?hF ?hK ?hN ?hT ?hD ?hdp ?hun ?p0 ?p1 ?p2 ?p3 ?p4 ?p5 ?p6 ?p7 ?p8 ?_ ?_; walk_at "std"; (case p0 => assumption); (case p1 => assumption); (case p2 => assumption); (case p3 => assumption); (case p4 => omega); (case p5 => omega); (case p6 => omega); (case p7 => omega); (case p8 => first | assumption | decide +kernel)); intro h' tk' t1' t2' t3' t' c' p' hle' hc' hp' F' N'; (try subst hp')))
local macro_rules | `(tactic| walk_at "call ref") => `(tactic| (k_here; (with_reducible show wpAny _ _ (call (Value.ref 701) _) _ _ _); k_dflt (refine' pv_known ?hB ?hF ?hK ?hN ?hT ?hD ?hdp ?hun ?p0 ?p1 ?p2 ?p3 ?p4 ?p5 ?p6 ?p7 ?_; walk_at "std"; (case p0 => assumption); (case p1 => assumption); (case p2 => assumption); (case p3 => assumption); (case p4 => first | assumption | exact Nat.zero_le _ | omega); (case p5 => omega); (case p6 => omega); (case p7 => assumption)); intro h' tk' t1' t2' t3' t' hple' F' N'))
local macro_rules | `(tactic| walk_at "exec") => `(tactic| (k_here; (with_reducible show wpAny _ _ (exec (Stmt.While _ _ [] _) _) _ _ _); (with_reducible rename Fr _ _ _ _ => F'); rw [ps_map2] at F'; k_dflt (refine' ps_loop ?hB ?hF ?hK ?hN ?hT ?hD ?hdp ?hun ?p0 ?p1 ?p2 ?p3 ?p4 ?p5 ?p6 ?p7 ?p8 ?_ ?_; (case hB => k_asm); (case hF => exact F'); (case hK => k_asm); (case hN => k_asm); (case hT => k_asm); (case hD => k_asm); (case p8 => exact rfl); (case hdp => k_room); (case hun => ((try simp only [units_in1, units_deeper, Around.mark_units]); omega)); (case p0 => assumption); (case p1 => assumption); (case p2 => assumption); (case p3 => assumption); (case p4 => omega); (case p5 => omega); (case p6 => omega); (case p7 => omega))))
theorem ps_con : ∀ {w : World} {mean : ExcName → Option Value} {mg mb : Str → Option Value} {dp un : Nat} {gd : Option (List Code)} {outer : List Env} {rest : List (Addr × Obj)} {cn : Str} {nms : List (Str × NameKind)} {a : Addr} {ccd : Value} {base h₀ : Heap} {L : Addr} {m : Str → Option Value} {s : Shared} {Q E : Value → Shared → Prop} {x d ba : Addr} {t1 t2 t3 : Tok} {b : Array UInt8} {pos : Nat} {f : Int} {p : Nat}
  (hB : Below (A0 dp un gd outer) base outer h₀) (hF : Fr h₀ L s.heap m) (hK : (hd.heap_39 w.params).In h₀) (hN : News h₀ L s.heap ((x, instObj 394 d) :: (d, bioD w.params ba pos t1 t2 t3) :: (ba, baObj b) :: rest)) (hT : Top hd.view_39 LL mean mg mb h₀) (hD : KtsDicts (outer.filterMap (·.frame)) h₀) (hdp : dp + 40 < recursionLimit) (hun : un + 400 < cLine)
  (hz : b.size ≤ sizeLine) (hx : @LT.lt Nat _ d x) (hba : @LT.lt Nat _ x ba) (hne : ∀ p ∈ rest, p.1 ≠ d) (hp : pos ≤ b.size) (hf0 : 16 ≤ f) (hf1 : f ≤ 60000) (hpv : pvP (2 ^ (32 : Int).toNat - 1) ((KBw.bInts b).drop pos) pos 0 = some (f, p))
  (hsmall : ∀ (h' : Heap) (tk' : Nat) (t1 t2 t3 t : Tok) (c : Array UInt8), f - 6 ≤ 10000 → p + (f - 6) ≤ b.size → c = b.extract ((p : Nat) : Int).toNat (((p : Nat) : Int) + (f - 6)).toNat → Fr h₀ L h' m → News h₀ L h' ((x, instObj 394 d) :: (d, bioD w.params ba (((p : Nat) : Int) + (f - 6)) t1 t2 t3) :: (ba, baObj b) :: rest) → Q (.bytes c t) { s with heap := h', toks := tk' })
  (hbig : ∀ (h' : Heap) (tk' : Nat) (t1 t2 t3 t : Tok), 10000 < f - 6 → p + (f - 6) ≤ b.size → Fr h₀ L h' m → News h₀ L h' ((x, instObj 394 d) :: (d, bioD w.params ba (((p : Nat) : Int) + (f - 6)) t1 t2 t3) :: (ba, baObj b) :: rest) → Q (.bytes #[(Int.toNat 106).toUInt8] t) { s with heap := h', toks := tk' })
  (hrai : ∀ (G h' : Heap) (tk' : Nat) (e t : Addr) (vs : List Value), b.size < p + (f - 6) → Fr h₀ L G m → RaisedS base G (fnv cn nms L a ccd :: outer) e (.ref 71) t vs [] h' → G.UpToSlots h' → E (.ref e) { s with heap := h', toks := tk' }),
  wpAny (model PySem.Challenge.rw_fp5001_01.prog w) ((A0 dp un gd outer).deeper (fnv cn nms L a ccd)) (call (.ref 722) [.ref x]) Q E s := by
  k_fill
  intro w mean mg mb dp un gd outer rest cn nms a ccd base h₀ L m s Q E x d ba t1 t2 t3 b pos f p hB hF hK hN hT hD hdp hun hz hx hba hne hp hf0 hf1 hpv hsmall hbig hrai
  k_steps
  all_goals first
    | exact hrai _ _ _ _ _ _ (by omega) (by assumption) (by assumption) (by assumption)
    | exact hsmall _ _ _ _ _ _ _ (by omega) (by omega) (by assumption) (by k_asm) (by k_asm)
    | exact hbig _ _ _ _ _ _ (by omega) (by omega) (by k_asm) (by k_asm)
    | exact hbig _ _ _ _ _ _ (by omega) (by omega) (by k_asm) (drop1 (by assumption))
theorem psb_con : ∀ {w : World} {mean : ExcName → Option Value} {mg mb : Str → Option Value} {dp un : Nat} {gd : Option (List Code)} {outer : List Env} {news : List (Addr × Obj)} {cn : Str} {nms : List (Str × NameKind)} {a : Addr} {ccd : Value} {base h₀ : Heap} {L : Addr} {m : Str → Option Value} {s : Shared} {Q E : Value → Shared → Prop} {b : Array UInt8} {t : Tok} {f : Int} {p : Nat}
  (hB : Below (A0 dp un gd outer) base outer h₀) (hF : Fr h₀ L s.heap m) (hK : (hd.heap_39 w.params).In h₀) (hN : News h₀ L s.heap news) (hT : Top hd.view_39 LL mean mg mb h₀) (hD : KtsDicts (outer.filterMap (·.frame)) h₀) (hdp : dp + 45 < recursionLimit) (hun : un + 450 < cLine)
  (hz : b.size ≤ sizeLine) (hf0 : 16 ≤ f) (hf1 : f ≤ 60000) (hpv : pvP (2 ^ (32 : Int).toNat - 1) ((KBw.bInts b).drop 0) 0 0 = some (f, p)) (hcut : b.size < p + (f - 6))
  (hrai : ∀ (G h' : Heap) (tk' : Nat) (e t : Addr) (vs : List Value), Fr h₀ L G m → RaisedS base G (fnv cn nms L a ccd :: outer) e (.ref 71) t vs [] h' → G.UpToSlots h' → E (.ref e) { s with heap := h', toks := tk' }),
  wpS (model PySem.Challenge.rw_fp5001_01.prog w) ((A0 dp un gd outer).deeper (fnv cn nms L a ccd)) (call (.ref 722) [.bytes b t]) Q E s := by
  k_fill
  intro w mean mg mb dp un gd outer news cn nms a ccd base h₀ L m s Q E b t f p hB hF hK hN hT hD hdp hun hz hf0 hf1 hpv hcut hrai
  refine S_call ?_
  walk_at "S_def"
  with_reducible rename KtsDicts _ _ => kdX
  rename Below _ _ (_ :: _) _ => B'
  rename Fr _ _ _ m => FG'
  have kdY := kd_fr B' kdX FG'
  refine S_execs (S_assign (S_callE ?_))
  k_steps
  refine S_callWith (K := hd.heap_39 w.params) (by k_is) ?_
  k_steps
  k_dflt (refine' bb_con ?hB ?hF ?hK ?hN ?hT ?hD ?hdp ?hun hz ?_; (case hB => k_asm); (case hF => k_asm); (case hK => k_asm); (case hN => k_asm); (case hT => k_asm); (case hD => k_asm); (case hdp => k_room); (case hun => ((try simp only [units_in1, units_deeper, Around.mark_units]); omega)))
  intro x d ba t1 t2 t3 h' tk' l1 l2 l3 F₈ N₈
  change News _ _ _ (_ :: (d, bioD w.params ba ((0 : Nat) : Int) t1 t2 t3) :: _) at N₈
  k_steps
  refine S_any ?_
  k_steps
  all_goals first
    | (exfalso; omega)
    | exact hrai _ _ _ _ _ _ (by assumption) (by assumption) (by assumption)

end
section
theorem sv_T : ∀ {w : World} {mean : ExcName → Option Value} {mg mb : Str → Option Value} {dp un : Nat} {gd : Option (List Code)} {outer : List Env} {news : List (Addr × Obj)} {cn : Str} {nms : List (Str × NameKind)} {a : Addr} {ccd : Value} {base h₀ : Heap} {L : Addr} {m : Str → Option Value} {s : Shared} {Q E : Value → Shared → Prop} {t t4 : Tok} {num bits : Int}
  (hB : Below (A0 dp un gd outer) base outer h₀) (hF : Fr h₀ L s.heap m) (hK : (hd.heap_39 w.params).In h₀) (hN : News h₀ L s.heap news) (hT : Top hd.view_39 LL mean mg mb h₀) (hD : KtsDicts (outer.filterMap (·.frame)) h₀) (hdp : dp + 30 < recursionLimit) (hun : un + 300 < cLine)
  (hb1 : 1 ≤ bits) (hb2 : bits ≤ 64) (hn0 : 0 ≤ num) (hn1 : num < 2 ^ bits.toNat)
  (hret : ∀ (h' : Heap) (tk' : Nat) (t : Tok) (c : Array UInt8), rkP (KBw.bInts c) 0 0 = some (num, c.size) → c.size ≤ 20 → Fr h₀ L h' m → News h₀ L h' news → Q (.bytes c t) { s with heap := h', toks := tk' }),
  wpAny (model PySem.Challenge.rw_fp5001_01.prog w) ((A0 dp un gd outer).deeper (fnv cn nms L a ccd)) (call (.ref 693) [.int num t, .int bits t4]) Q E s := by
  intro w mean mg mb dp un gd outer news cn nms a ccd base h₀ L m s Q E t t4 num bits hB hF hK hN hT hD hdp hun hb1 hb2 hn0 hn1 hret
  refine sv_con hB hF hK hN hT hD hdp hun hb1 hb2 hn0 hn1 fun h' tk' t hA => ?_
  have hf := told_facts (n := bits.toNat) hn0 hn1 (by omega) hA
  exact hret h' tk' t _ hf.1 hf.2
local macro_rules | `(tactic| walk_at "compareOp Eq str str") => `(tactic| (k_here; with_reducible refine eq_str_same ?_))
local macro_rules | `(tactic| walk_at "compareOp NotEq str str") => `(tactic| (k_here; with_reducible refine ne_str_same ?_))
local macro_rules | `(tactic| walk_at "compareOp Eq bytes bytes") => `(tactic| (k_here; refine eq_by_same (by first | assumption | rfl | exact app_same rfl rfl) ?_))
local macro_rules | `(tactic| walk_at "compareOp NotEq bytes bytes") => `(tactic| (k_here; refine ne_by_same (by first | assumption | rfl | exact app_same rfl rfl) ?_))
local macro_rules | `(tactic| walk_at "compareOp NotEq bytes str") => `(tactic| (exfalso; omega))
local macro_rules | `(tactic| walk_at "compareOp NotEq str bytes") => `(tactic| (exfalso; omega))
local macro_rules | `(tactic| k_enter) => `(tactic| ((fail_if_success k_inElt); kts_any; kts_go))
local macro_rules | `(tactic| walk_at "binaryOp Add bytes bytes") => `(tactic| (k_here; (with_reducible show wpAny _ _ (binaryOp Operator.Add (Value.bytes _ _) (Value.bytes _ _)) _ _ _); (refine KBy.add_bytes (by (try simp only [Array.size_append, List.size_toArray, List.length_cons, List.length_nil]); first | omega | (rename _ ++ _ = _ => hwx; rw [← hwx]; simp only [Array.size_append]; omega)) ?_); intro _ _))
local macro_rules | `(tactic| walk_at "subscriptTail") => `(tactic| (k_here; (with_reducible show wpAny _ _ (subscriptTail _ _ (Value.ref _) (Value.int _ _)) _ _ _); k_dflt (refine' menu_item (lo := 9999) (hi := 10003) ?mN ?mm ?mi ?mr ?ma ?mb ?mz ?_; (case mN => k_asm); (case mm => k_mem); (case mi => l_ints); (case mr => decide); (case ma => rw [Int.fmod_eq_emod_of_nonneg _ (by decide)]; omega); (case mb => rw [Int.fmod_eq_emod_of_nonneg _ (by decide)]; simp only [List.length_cons, List.length_nil]; omega); (case mz => simp only [List.length_cons, List.length_nil]; omega); k_whole); intro size' t' hs1' hs2'))
local macro_rules | `(tactic| walk_at "binaryOp Mult bytes int") => `(tactic| (k_here; (with_reducible show wpAny _ _ (binaryOp Operator.Mult (Value.bytes _ _) (Value.int _ _)) _ _ _); (refine mul_one (by first | rfl | simp) (by omega) (by omega) ?_); intro c' t' k' hc'))
local macro_rules | `(tactic| walk_at "call ref") => `(tactic| (k_here; (with_reducible show wpAny _ _ (call (Value.ref 693) _) _ _ _); k_dflt (refine' sv_T ?hB ?hF ?hK ?hN ?hT ?hD ?hdp ?hun ?p0 ?p1 ?p2 ?p3 ?_; walk_at "std"; (case p0 => decide); (case p1 => decide); (case p2 => omega); (case p3 => first | omega | (simp; omega)); k_whole; intro h' tk' t' c' hrk' hcz' F' N')))
local macro_rules | `(tactic| walk_at "call ref") => `(tactic| (k_here; (with_reducible show wpAny _ _ (call (Value.ref 722) [Value.ref _]) _ _ _); k_dflt (refine' ps_con ?hB ?hF ?hK ?hN ?hT ?hD ?hdp ?hun ?p0 ?p1 ?p2 ?p3 ?p4 ?p5 ?p6 ?p7 ?_ ?_ ?_; walk_at "std"; (case p0 => rw [sizeLine_eq]; omega); (case p1 => assumption); (case p2 => assumption); (case p3 => assumption); (case p4 => exact Nat.zero_le _); (case p7 => assumption); (case p5 => omega); (case p6 => omega)); all_goals first | (intro G h' tk' e t vs hlt'; exfalso; omega) | (intro h' tk' t1' t2' t3' t' c' hs' hle' hc' F' N') | (intro h' tk' t1' t2' t3' t' hs' hle' F' N')))
local macro_rules | `(tactic| walk_at "subscriptTail") => `(tactic| (k_here; (with_reducible show wpAny _ _ (subscriptTail _ (Expr.Slice (some _) none none _) (Value.bytes _ _) (Value.ref _)) _ _ _); (with_reducible rename Fr _ _ _ _ => F'); (with_reducible rename News _ _ _ _ => N'); (refine by_cutR (s := ⟨_, _, _, _, _⟩) F' N' (by omega) (by omega) ?_); intro c' _ _ _ hc' hcz' F' N'))
local macro_rules | `(tactic| walk_at "subscriptTail") => `(tactic| (k_here; (with_reducible show wpAny _ _ (subscriptTail _ (Expr.Slice none (some _) none _) (Value.bytes _ _) (Value.ref _)) _ _ _); (with_reducible rename Fr _ _ _ _ => F'); (with_reducible rename News _ _ _ _ => N'); (refine by_cutL (s := ⟨_, _, _, _, _⟩) F' N' (by omega) (by omega) ?_); intro c' _ _ _ hc' hcz' F' N'))
local macro_rules | `(tactic| walk_at "compareOp NotEq bytes bytes") => `(tactic| (k_here; refine ne_by_same (by first | rfl | (exact long_end (by omega) (by simp only [List.size_toArray, List.length_cons, List.length_nil]; omega) rfl) | (exact long_cut (by assumption) (by assumption) (by first | rfl | assumption | omega) (by assumption) (by omega))) ?_))
theorem ll_con : ∀ {w : World} {mean : ExcName → Option Value} {mg mb : Str → Option Value} {dp un : Nat} {gd : Option (List Code)} {outer : List Env} {news : List (Addr × Obj)} {cn : Str} {nms : List (Str × NameKind)} {a : Addr} {ccd : Value} {base h₀ : Heap} {L : Addr} {m : Str → Option Value} {s : Shared} {Q E : Value → Shared → Prop} {g₀ : Heap} {num : Int} {t : Tok}
  (hB : Below (A0 dp un gd outer) base outer h₀) (hF : Fr h₀ L s.heap m) (hK : (hd.heap_39 w.params).In h₀) (hN : News h₀ L s.heap news) (hT : Top hd.view_39 LL mean mg mb h₀) (hD : KtsDicts (outer.filterMap (·.frame)) h₀) (hdp : dp + 60 < recursionLimit) (hun : un + 600 < cLine)
  (hKb : (hd.heap_39 w.params).In base) (hTb : Top hd.view_39 LL mean mg mb base) (hT0 : KtsTurn (outer.filterMap (·.frame)) g₀ h₀) (hn0 : 0 ≤ num) (hn1 : num < 2 ^ 60)
  (hret : ∀ (kg h' : Heap) (tk' : Nat), KtsTurn (outer.filterMap (·.frame)) g₀ kg → Fr kg L h' m → News kg L h' news → Below (A0 dp un gd outer) base outer kg → (hd.heap_39 w.params).In kg → Top hd.view_39 LL mean mg mb kg → KtsDicts (outer.filterMap (·.frame)) kg → Q (.bool true) { s with heap := h', toks := tk' }),
  wpS (model PySem.Challenge.rw_fp5001_01.prog w) ((A0 dp un gd outer).deeper (fnv cn nms L a ccd)) (call (.ref 818) [.int num t]) Q E s := by
  k_fill
  intro w mean mg mb dp un gd outer news cn nms a ccd base h₀ L m s Q E g₀ num t hB hF hK hN hT hD hdp hun hKb hTb hT0 hn0 hn1 hret
  refine S_call ?_
  walk_at "S_defS"
  refine S_execsA ?_
  k_steps
  refine S_execsA ?_
  k_steps
  rename rkP _ _ _ = _ => hrk
  rename Array.size _ ≤ 20 => hhz
  rename Array UInt8 => head
  refine S_execsA ?_
  k_steps
  rename Array.size _ = Int.toNat _ => hbz
  rename Array UInt8 => body
  rename (9999 : Int) ≤ _ => hs1
  rename _ ≤ (10003 : Int) => hs2
  rename Int => z
  rename Fr _ _ _ _ => F₈
  generalize hwi : head ++ body = wire at F₈
  refine S_execs (S_assign (S_callE ?_))
  k_steps
  refine S_callWith (K := hd.heap_39 w.params) (by k_is) ?_
  k_steps
  k_dflt (refine' bb_con ?hB ?hF ?hK ?hN ?hT ?hD ?hdp ?hun ?hz ?_; walk_at "std"; (case hz => (rw [sizeLine_eq]; subst hwi; simp only [Array.size_append, List.size_toArray, List.length_cons, List.length_nil]; omega)))
  intro x d ba t1 t2 t3 h' tk' l1 l2 l3 F₈ N₈
  change News _ _ _ (_ :: (d, bioD w.params ba ((0 : Nat) : Int) t1 t2 t3) :: _) at N₈
  k_steps
  have hws : wire.size = head.size + z.toNat := by rw [← hwi, Array.size_append, hbz]
  have hWz : (wire ++ #[85]).size = wire.size + 1 := by simp
  have hWs : (wire ++ #[85]).size ≤ sizeLine := by rw [sizeLine_eq]; omega
  have hpv : pvP (2 ^ (32 : Int).toNat - 1) ((KBw.bInts (wire ++ #[85])).drop 0) 0 0 = some (z + 6, head.size) := by rw [← hwi]; exact long_pv hrk (by show z + 6 < 2 ^ 32; omega)
  have hwz : wire.size ≤ sizeLine := by rw [sizeLine_eq]; omega
  have hr0 : 0 ≤ (num.fdiv 7).fmod 3 := by rw [Int.fmod_eq_emod_of_nonneg _ (by decide)]; omega
  have hr1 : (num.fdiv 7).fmod 3 < 3 := by rw [Int.fmod_eq_emod_of_nonneg _ (by decide)]; omega
  refine S_execsA ?_
  k_steps
  all_goals dsimp only
  all_goals refine S_execs (S_try (S_execs (S_exprStmt rfl (S_callE ?_))))
  all_goals k_steps
  all_goals refine S_callWith (K := hd.heap_39 w.params) (by k_is) ?_
  all_goals k_steps
  all_goals (
    rename KBw.bInts _ = List.take _ _ => hcut
    have hcs := cut_size hcut (by omega) (by omega)
    k_dflt (refine' psb_con ?hB ?hF ?hK ?hN ?hT ?hD ?hdp ?hun ?p0 ?p1 ?p2 ?p3 ?p4 ?_; walk_at "std"; (case p3 => exact long_short hrk (by show z + 6 < 2 ^ 32; omega) hwi hcut (by omega)); (case p0 => rw [sizeLine_eq]; omega); (case p1 => omega); (case p2 => omega); (case p4 => omega))
    intro G' h' tk' e' t' vs' F' R' U'
    k_steps
    (try dsimp only)
    rename Fr _ _ _ _ => F₉
    rename News _ _ _ [] => N₉
    rename KtsTurn _ _ _ => T₉
    exact ⟨_, _, _, _, T₉, F₉, N₉, fun kg T F N B X P D => hret kg _ _ T F (fun p hp => N p (List.mem_append_right _ hp)) B X P D⟩)
end
section
local macro_rules | `(tactic| walk_at "subscriptTail") => `(tactic| (k_here; (with_reducible show wpAny _ _ (subscriptTail _ _ (Value.ref _) (Value.int _ _)) _ _ _); k_dflt (refine' item_any ?iF ?il ?ii ?i0 ?i1 ?iz ?_; (case iF => k_asm); (case il => assumption); (case ii => assumption); (case i0 => first | omega | exact fmod_lo _ (by omega)); (case i1 => first | omega | exact fmod_hi _ (by omega)); (case iz => omega); k_whole); intro num' t'))
local macro_rules | `(tactic| walk_at "eval Name") => `(tactic| (k_here; k_dflt (refine' ld ?k1 ?k2 ?_; (case k1 => k_asm); (case k2 => assumption); k_whole)))
local macro_rules | `(tactic| walk_at "binaryOp Mult int int") => `(tactic| (k_here; (with_reducible show wpAny _ _ (binaryOp Operator.Mult (Value.int _ _) (Value.int 2654435761 _)) _ _ _); (refine mul_abs (by rw [Int.fmod_eq_emod_of_nonneg _ (by decide)]; omega) (by rw [Int.fmod_eq_emod_of_nonneg _ (by decide)]; omega) ?_); intro mx' t' k' hm0' hm1'))
local macro_rules | `(tactic| walk_at "binaryOp FloorDiv int int") => `(tactic| (k_here; (with_reducible show wpAny _ _ (binaryOp Operator.FloorDiv (Value.int _ _) (Value.int _ _)) _ _ _); (refine div_abs (by decide) (by assumption) (by assumption) ?_); intro dv' t' k' hd0' hd1'))
theorem law_start : PySem.Challenge.rw_fp5001_01.Holds := hd (by
  k_fill
  intro w s₀ s₁ mg mb G Y fa o pm cd doc dV kV ho hd' hcd hD hmg hg args vals as hpre hlay hrd hwl hlo
  have KX := kIn_of Y
  have X := (Ground.X G).1
  have V := (Ground.X G).2
  refine Ground.open G ?_
  intro T B D TE TW
  try (refine guard_noD D (by decide +kernel) ?_; clear D)
  obtain ⟨_, _, M⟩ := bmod_of_top T
  have TA := at_of_top T
  try (obtain ⟨_, _, he, B0⟩ := based_of_top T rfl hmg ho hd'; have he' : cd = _ := he; subst he'; clear he)
  clear hmg
  wrow_args hpre hlay hrd hwl hlo
  all_goals (
    refine S_enter ?_
    w_top on
    have K0 := below_caller (Top.heap T)
    have he := Dflts.none hD rfl
    subst he
    refine codeS_full (by decide) ho hd' (Top.nolimit T) hcd (BindsTo.of_eq rfl) (locs rfl) fun h₁ F => ?_
    w_binds F
    have N0 := (News.nil : News _ _ _ []).at F
    clear hd' TA hD
    k_drop)
  dsimp only
  rename ¬ _ < _ => hlen
  rename IntsAre _ _ => hI
  rename Heap.IsList _ _ _ => hL
  rename Addr => l
  have hDk : KtsDicts (([] : List Env).filterMap (·.frame)) s₁.heap := fun _ h => nomatch h
  have hB0 : Below (A0 (1 + claimMargin) 4 (some []) []) s₁.heap [] s₁.heap := K0
  refine S_execs (S_For ?_)
  k_steps
  unfold UpTo
  rename IsRange _ _ _ _ _ _ _ _ => hr
  rename Fr _ _ _ _ => F₉
  rename News _ _ _ [] => N₉
  refine iterR F₉ N₉ hr (by decide) ?_
  intro I h₃ hlt F₃ N₃
  have er : Builtin.Range.rangeSize 0 5 1 = ((5 : Nat) : Int) := by decide
  rw [er] at N₃
  refine S_rangeInv (s := s₁) (a := 0) (b := 5) (fun g m => Below (A0 (1 + claimMargin) 4 (some []) []) s₁.heap [] g ∧ (hd.heap_39 w.params).In g ∧ Top hd.view_39 LL (ExcName.means s₀.heap) mg mb g ∧ m (Str.ofString "script") = some (.ref l)) hlt rfl ?_ rfl rfl 5 0 _ _ _ _ (Int.le_refl _) rfl ⟨hB0, KX, T, rfl⟩ F₃ N₃ ?_
  · clear F₉ N₉ F₃ N₃ hr
    rintro i g m h tk t hi0 hi1 ⟨hB, hX, hP, ms⟩ F left hl N C hC
    have hD : KtsDicts (([] : List Env).filterMap (·.frame)) g := fun _ h => nomatch h
    have hLg := list_up hL hB.stays
    refine S_execsA ?_
    k_steps
    all_goals (
      refine S_execsA ?_
      k_steps
      refine S_execs (S_if (S_orT (S_all (S_not (S_truthE ?_)))))
      refine S_callE ?_
      k_steps
      refine S_callWith (K := hd.heap_39 w.params) (by k_is) ?_
      k_steps
      k_dflt (refine' wh_con ?hB ?hF ?hK ?hN ?hT ?hD ?hdp ?hun ?hKb ?hTb ?hT0 ?p0 ?p1 ?_; (case hB => assumption); (case hF => k_asm); (case hK => k_asm); (case hN => k_asm); (case hT => k_asm); (case hD => assumption); (case hdp => decide); (case hun => decide); (case hKb => assumption); (case hTb => assumption); (case hT0 => exact KtsTurn.refl); (case p0 => first | assumption | omega); (case p1 => first | assumption | omega))
      intro kg' h' tk' T' F' N' B' X' P' D'
      k_steps
      (try dsimp only)
      refine S_all (S_not (S_truthE ?_))
      refine S_callE ?_
      k_steps
      refine S_callWith (K := hd.heap_39 w.params) (by k_is) ?_
      k_steps
      k_dflt (refine' bh_con ?hB ?hF ?hK ?hN ?hT ?hD ?hdp ?hun ?hKb ?hTb ?hT0 ?p0 ?p1 ?_; (case hB => assumption); (case hF => k_asm); (case hK => k_asm); (case hN => k_asm); (case hT => k_asm); (case hD => assumption); (case hdp => decide); (case hun => decide); (case hKb => assumption); (case hTb => assumption); (case hT0 => exact KtsTurn.refl); (case p0 => first | assumption | omega); (case p1 => first | assumption | omega))
      intro kg' h' tk' T' F' N' B' X' P' D'
      k_steps
      (try dsimp only)
      refine S_all (S_not (S_truthE ?_))
      refine S_callE ?_
      k_steps
      refine S_callWith (K := hd.heap_39 w.params) (by k_is) ?_
      k_steps
      refine S_any ?_
      k_dflt (refine' sk_con ?hB ?hF ?hK ?hN ?hT ?hD ?hdp ?hun ?hKb ?hTb ?hT0 ?p0 ?p1 ?_; (case hB => assumption); (case hF => k_asm); (case hK => k_asm); (case hN => k_asm); (case hT => k_asm); (case hD => assumption); (case hdp => decide); (case hun => decide); (case hKb => assumption); (case hTb => assumption); (case hT0 => exact KtsTurn.refl); (case p0 => first | assumption | omega); (case p1 => first | assumption | omega))
      intro kg' h' tk' T' F' N' B' X' P' D'
      k_steps
      (try dsimp only)
      refine S_allNil ?_
      refine S_pure (a := Flow.next) ?_
      dsimp only
      refine S_nil ?_
      rename Fr _ _ _ _ => F₉
      rename News _ _ _ (_ :: _) => N₉
      refine hC _ _ _ _ ?_ F₉ N₉
      exact ⟨B', X', P', ms⟩)
  · intro g m h tk hJ F N
    obtain ⟨hB, hX, hP, ms⟩ := hJ
    clear F₉ N₉ F₃ N₃ hr
    dsimp only
    have hD : KtsDicts (([] : List Env).filterMap (·.frame)) g := fun _ h => nomatch h
    have hLg := list_up hL hB.stays
    refine S_execsA ?_
    k_steps
    all_goals (
      refine S_execs (S_return (S_boolE (S_boolCons ?_)))
      refine S_callE ?_
      k_steps
      refine S_callWith (K := hd.heap_39 w.params) (by k_is) ?_
      k_steps
      k_dflt (refine' do_con ?hB ?hF ?hK ?hN ?hT ?hD ?hdp ?hun ?hKb ?hTb ?hT0 ?p0 ?p1 ?_; (case hB => assumption); (case hF => k_asm); (case hK => k_asm); (case hN => k_asm); (case hT => k_asm); (case hD => assumption); (case hdp => decide); (case hun => decide); (case hKb => assumption); (case hTb => assumption); (case hT0 => exact KtsTurn.refl); (case p0 => first | assumption | omega); (case p1 => first | assumption | omega))
      intro kg' h' tk' T' F' N' B' X' P' D'
      k_steps
      (try dsimp only)
      refine S_boolLast ?_
      refine S_callE ?_
      k_steps
      refine S_callWith (K := hd.heap_39 w.params) (by k_is) ?_
      k_steps
      k_dflt (refine' ll_con ?hB ?hF ?hK ?hN ?hT ?hD ?hdp ?hun ?hKb ?hTb ?hT0 ?p0 ?p1 ?_; (case hB => assumption); (case hF => k_asm); (case hK => k_asm); (case hN => k_asm); (case hT => k_asm); (case hD => assumption); (case hdp => decide); (case hun => decide); (case hKb => assumption); (case hTb => assumption); (case hT0 => exact KtsTurn.refl); (case p0 => first | assumption | omega); (case p1 => first | assumption | omega))
      intro kg' h' tk' T' F' N' B' X' P' D'
      (try dsimp only)
      have Ff : Fr s₁.heap s₁.heap.objs.size h' _ := ⟨F'.ns, fun b o e => F'.keep b o (B'.stays b o e), Nat.le_refl _⟩
      clear F'
      
      
      refine GoodW.toG ?_
      k_steps))
end
end Mine
end
theorem PySem.Challenge.cw_fp5001_01_holds : PySem.Challenge.rw_fp5001_01.Holds := by
  exact Mine.law_start
