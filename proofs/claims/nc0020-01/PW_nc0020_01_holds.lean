import PyProof.Rows.All
import Wide.All
import OpenK.AllK
import Wide.FinOn
import Lean
import PySem.Challenge.RW_nc0020_01
set_option Elab.async false
set_option maxRecDepth 100000
set_option maxHeartbeats 4000000
set_option linter.unusedVariables false
set_option linter.deprecated false

/-! part BA -/
section
open PySem PySem.W PyProof.Rows
namespace Mine

/-- a bytearray's object -/
abbrev baObj (b : Array UInt8) : Obj := { cls := .type "bytearray", data := .bytearray b }

theorem slot_ba_getitem : Slot "bytearray" "__getitem__" "bytearray.__getitem__" :=
  .of (owner := "bytearray") (n := "__getitem__") (by rw [typeLookup_type, builtinLookup_eq_fast]; kernel_rfl) (by decide +kernel) (by decide +kernel) (by decide +kernel)
    (by first | exact .inl (by decide +kernel) | exact .inr (by decide +kernel)) (by rw [isSubtype_type]; kernel_rfl)
theorem slot_ba_setitem : Slot "bytearray" "__setitem__" "bytearray.__setitem__" :=
  .of (owner := "bytearray") (n := "__setitem__") (by rw [typeLookup_type, builtinLookup_eq_fast]; kernel_rfl) (by decide +kernel) (by decide +kernel) (by decide +kernel)
    (by first | exact .inl (by decide +kernel) | exact .inr (by decide +kernel)) (by rw [isSubtype_type]; kernel_rfl)
theorem slot_ba_len : Slot "bytearray" "__len__" "bytearray.__len__" :=
  .of (owner := "bytearray") (n := "__len__") (by rw [typeLookup_type, builtinLookup_eq_fast]; kernel_rfl) (by decide +kernel) (by decide +kernel) (by decide +kernel)
    (by first | exact .inl (by decide +kernel) | exact .inr (by decide +kernel)) (by rw [isSubtype_type]; kernel_rfl)
theorem entry_ba_getitem : entryFor table "bytearray.__getitem__" = some Builtin.«bytearray.__getitem__» := entryFor_of_fast (by kernel_rfl)
theorem entry_ba_setitem : entryFor table "bytearray.__setitem__" = some Builtin.«bytearray.__setitem__» := entryFor_of_fast (by kernel_rfl)
theorem entry_ba_len : entryFor table "bytearray.__len__" = some Builtin.«bytearray.__len__» := entryFor_of_fast (by kernel_rfl)
theorem args_ba_getitem (a b : Value) : argsOk "bytearray.__getitem__" ⟨[a, b], []⟩ := by unfold argsOk; kernel_rfl
theorem args_ba_setitem (a b c : Value) : argsOk "bytearray.__setitem__" ⟨[a, b, c], []⟩ := by unfold argsOk; kernel_rfl
theorem args_ba_len (a : Value) : argsOk "bytearray.__len__" ⟨[a], []⟩ := by unfold argsOk; kernel_rfl

section
variable {M : Model} {A : Around} {E : Value → Shared → Prop} {s : Shared}
theorem ba_typeIs {a : Addr} {b : Array UInt8} (h : s.heap.get? a = some (baObj b)) : s.TypeIs (.ref a) "bytearray" := ⟨_, h, rfl⟩

theorem ba_payload {a : Addr} {b : Array UInt8} {Q : Array UInt8 → Shared → Prop} (h : s.heap.get? a = some (baObj b)) (hQ : Q b s) :
    wpAny M A (Builtin.Bytes.payload (.ref a)) Q E s := by
  unfold Builtin.Bytes.payload Builtin.Bytes.payload?
  exact wpAny_bind (wpAny_bind (wpAny_load h (wpAny_pure (wpAny_pure hQ))))

theorem ba_subscript_int {k : Int} {t : Tok} {Q : Option Int → Shared → Prop} (h0 : 0 ≤ k) (hfit : k < 2 ^ 63) (h : Q (some k) s) :
    wpAny M A (Builtin.Bytes.subscript? (.int k t)) Q E s := by
  unfold Builtin.Bytes.subscript?
  refine wpAny_bind (wpAny_specialOf (T := "int") (typeIs_int s k t) int_index ?_)
  show wpAny M A (asIndex (.int k t) >>= _) Q E s
  refine wpAny_bind (wpAny_of_eq (a := k) rfl ?_)
  have hf : Builtin.Bytes.fitsIndex k = true := by unfold Builtin.Bytes.fitsIndex; simp; omega
  show wpAny M A (if (!Builtin.Bytes.fitsIndex k) = true then _ else _) Q E s
  rw [if_neg (by rw [hf]; decide)]
  exact wpAny_pure h
end

section
variable {prog : Program} {w : World} {A : Around} {E : Value → Shared → Prop} {s : Shared}

theorem seqIndex_of {k : Int} {n : Nat} (h0 : 0 ≤ k) (hn : k < n) : seqIndex? k n = some k.toNat := by
  have h1 : ¬ k < 0 := Int.not_lt.mpr h0
  unfold seqIndex?
  simp only [if_neg h1]
  rw [if_pos (by simp [h0, hn])]

theorem ba_getItem {a : Addr} {b : Array UInt8} {k : Int} {t : Tok} {x : UInt8} {Q : Value → Shared → Prop} (hb : s.heap.get? a = some (baObj b))
    (h0 : 0 ≤ k) (hfit : k < 2 ^ 63) (hx : b[k.toNat]? = some x) (h : Q (.int x.toNat s.toks) { s with toks := s.toks + 1 }) :
    wpAny (model prog w) A (getItem (.ref a) (.int k t)) Q E s := by
  have hT := ba_typeIs (s := s) hb
  unfold getItem
  try with_reducible refine wpAny_holding ?_
  first | refine wpAny_bind (wpAny_pure ?_) | skip
  refine wpAny_bind (wpAny_sequenceKey hT (by decide) ?_)
  refine wpAny_bind (wpAny_callSpecial?_slot (name := Str.ofString "__getitem__") hT slot_ba_getitem
    (wpAny_call_entry slot_ba_getitem hT entry_ba_getitem ?_ (args_ba_getitem _ _)))
  show wpAny _ _ (Builtin.Bytes.subscript? (.int k t) >>= _) _ _ s
  refine wpAny_bind (ba_subscript_int h0 hfit ?_)
  have hlt : k < b.size := by
    have := (Array.getElem?_eq_some_iff.mp hx).1
    omega
  refine wpAny_bind (ba_payload hb ?_)
  rw [seqIndex_of h0 hlt]
  show wpAny _ _ (match b[k.toNat]? with | some x => _ | none => _) _ _ s
  rw [hx]
  exact wpAny_bind (wpAny_mkInt (wpAny_pure ⟨_, rfl, wpAny_pure h⟩))

theorem ba_byteValue {M : Model} {k : Int} {t : Tok} {Q : UInt8 → Shared → Prop} (h0 : 0 ≤ k) (h1 : k < 256) (h : Q k.toNat.toUInt8 s) : wpAny M A (Builtin.Bytes.byteValue (.int k t)) Q E s := by
  unfold Builtin.Bytes.byteValue
  refine wpAny_bind (wpAny_of_eq (a := k) rfl ?_)
  show wpAny M A (if (decide (k < 0) || decide (k ≥ 256)) = true then _ else _) Q E s
  rw [if_neg (by simp; omega)]
  exact wpAny_pure h

theorem ba_update {M : Model} {a : Addr} {b : Array UInt8} {f : Array UInt8 → Array UInt8} {Q : Unit → Shared → Prop} (hb : s.heap.get? a = some (baObj b)) (hsz : (f b).size ≤ sizeLine)
    (h : ∀ h', h'.get? a = some (baObj (f b)) → Heap.SameBut a s.heap h' → Q () { s with heap := h' }) : wpAny M A (Builtin.Bytes.write (.ref a) f) Q E s := by
  show wpAny M A (updateBytearray a f) Q E s
  unfold updateBytearray
  refine wpAny_bind (wpAny_load hb ?_)
  show wpAny M A (update a (Obj.mapBytearray f) >>= fun _ => lookBehind a) Q E s
  have h2 : (s.heap.update a (Obj.mapBytearray f)).get? a = some (baObj (f b)) := Heap.get?_update_self (Obj.mapBytearray f) hb rfl
  refine wpAny_bind (wpAny_update hb (wpAny_lookBehind h2 ?_ ?_))
  · show (if (f b).size > sizeLine then some "bytearray:memory" else none) = none
    rw [if_neg (by omega)]
  · exact h _ h2 (Heap.SameBut.update ..)

theorem ba_setItem {a : Addr} {b : Array UInt8} {k v : Int} {t u : Tok} {Q : Unit → Shared → Prop} (hb : s.heap.get? a = some (baObj b))
    (h0 : 0 ≤ k) (hn : k < b.size) (hsz : b.size ≤ sizeLine) (v0 : 0 ≤ v) (v1 : v < 256)
    (h : ∀ h', h'.get? a = some (baObj (b.setIfInBounds k.toNat v.toNat.toUInt8)) → Heap.SameBut a s.heap h' → Q () { s with heap := h' }) :
    wpAny (model prog w) A (setItem (.ref a) (.int k t) (.int v u)) Q E s := by
  have hT := ba_typeIs (s := s) hb
  have hfit : k < 2 ^ 63 := by rw [sizeLine_eq] at hsz; omega
  unfold setItem
  try with_reducible refine wpAny_holding ?_
  first | refine wpAny_bind (wpAny_pure ?_) | skip
  refine wpAny_bind (wpAny_sequenceKey hT (by decide) ?_)
  refine wpAny_bind (wpAny_callSpecial?_slot (name := Str.ofString "__setitem__") hT slot_ba_setitem
    (wpAny_call_entry slot_ba_setitem hT entry_ba_setitem ?_ (args_ba_setitem _ _ _)))
  show wpAny _ _ (Builtin.Bytes.subscript? (.int k t) >>= _) _ _ s
  refine wpAny_bind (ba_subscript_int h0 hfit ?_)
  refine wpAny_bind (ba_byteValue v0 v1 ?_)
  refine wpAny_bind (ba_payload hb ?_)
  rw [seqIndex_of h0 hn]
  show wpAny _ _ (Builtin.Bytes.write (.ref a) (·.setIfInBounds k.toNat v.toNat.toUInt8) >>= fun _ => _) _ _ s
  refine wpAny_bind (ba_update hb (by simpa using hsz) fun h' e1 e2 => ?_)
  exact wpAny_pure ⟨_, rfl, wpAny_pure (h h' e1 e2)⟩

theorem ba_len {a : Addr} {b : Array UInt8} {Q : Value → Shared → Prop} (hb : s.heap.get? a = some (baObj b)) (hsz : b.size ≤ sizeLine)
    (h : ∀ t tk, Q (.int b.size t) { s with toks := tk }) : wpAny (model prog w) A (call (.builtin "len") [.ref a]) Q E s := by
  have hT := ba_typeIs (s := s) hb
  rw [sizeLine_eq] at hsz
  refine call_len_slot (n := b.size) hT slot_ba_len (fun Q' hq => ?_) (by omega) (by omega) (h _ _)
  refine wpAny_call_entry slot_ba_len hT entry_ba_len ?_ (args_ba_len _)
  show wpAny _ _ (Builtin.Bytes.payload (.ref a) >>= _) _ _ s
  refine wpAny_bind (ba_payload hb ?_)
  exact wpAny_bind (wpAny_mkInt (wpAny_pure ⟨_, rfl, hq⟩))
end
end Mine
end

/-! part NL -/
section
open PySem PySem.W PyProof.Rows
namespace Mine

/-- the text -/
abbrev PT : Program := PySem.Challenge.pw_nc0020_01

/-- a code on the stack that holds no bytearray's memory -/
def okCode : Code → Bool
  | .builtin id _ => !Builtin.Bytes.decodersThatHold.contains id && !guardIds.contains id
  | _ => true

theorem okCode_bad {id : String} {args : Args} (h : (!Builtin.Bytes.decodersThatHold.contains id && !guardIds.contains id) = false) : ¬ okCode (.builtin id args) = true := by
  show ¬ (!Builtin.Bytes.decodersThatHold.contains id && !guardIds.contains id) = true
  rw [h]; decide

/-- no exception, and only contexts whose stack holds no bytearray -/
def wpN {α : Type} (w : World) (A : Around) (t : Sem α) (Q : α → Shared → Prop) (s : Shared) : Prop :=
  ∀ Γ p, Γ.In A → okCode Γ.code = true → (∀ x ∈ Γ.below, okCode x.1 = true) → Sem.wp (model PT w) Γ t (fun a _ s' => Q a s') (fun _ _ _ => False) p s

def codeN (w : World) (A : Around) (c : Code) (R : Flow → Shared → Prop) (s : Shared) : Prop :=
  ∀ Γ p, Γ.code = c → Γ.Below A → (∀ x ∈ Γ.below, okCode x.1 = true) → wpCode (model PT w) Γ (fun r s' => ∃ f, r = .ok f ∧ R f s') p s

section
variable {α β : Type} {w : World} {A : Around} {s : Shared}

theorem wpAny.n {t : Sem α} {Q : α → Shared → Prop} (h : wpAny (model PT w) A t Q (fun _ _ => False) s) : wpN w A t Q s := fun Γ p hΓ _ _ => h Γ p hΓ

theorem wpN_pure {a : α} {Q : α → Shared → Prop} (h : Q a s) : wpN w A (pure a) Q s := fun _ _ _ _ _ => h
theorem wpN_mono {t : Sem α} {Q Q' : α → Shared → Prop} (h : wpN w A t Q s) (hQ : ∀ a s, Q a s → Q' a s) : wpN w A t Q' s :=
  fun Γ p hΓ h1 h2 => Sem.wp_mono _ Γ t (fun a _ s => hQ a s) (fun _ _ _ f => f) p s (h Γ p hΓ h1 h2)
theorem wpN_bind {m : Sem α} {f : α → Sem β} {Q : β → Shared → Prop} (h : wpN w A m (fun a s' => wpN w A (f a) Q s') s) : wpN w A (m >>= f) Q s := fun Γ p hΓ h1 h2 => by
  rw [Sem.wp_bind']
  exact Sem.wp_mono _ Γ m (fun a p' s' h' => h' Γ p' hΓ h1 h2) (fun _ _ _ h' => h') p s (h Γ p hΓ h1 h2)
theorem wpN_holding {vs : List Value} {m : Sem α} {Q : α → Shared → Prop} (h : wpN w A m Q s) : wpN w A (holding vs m) Q s :=
  fun Γ p hΓ h1 h2 => by rw [Sem.wp_holding]; exact h Γ p hΓ h1 h2
theorem wpN_keep {vs : List Value} {m : Sem α} {Q : α → Shared → Prop} (h : wpN w A m Q s) : wpN w A (m.keep vs) Q s :=
  fun Γ p hΓ h1 h2 => by rw [Sem.wp_keep]; exact h Γ p hΓ h1 h2
theorem wpN_onRaise {m : Sem α} {k : Value → Sem Unit} {Q : α → Shared → Prop} (h : wpN w A m Q s) : wpN w A (m.onRaise k) Q s := fun Γ p hΓ h1 h2 => by
  rw [Sem.wp_onRaise]
  exact Sem.wp_mono _ Γ m (fun _ _ _ h' => h') (fun _ _ _ h' => h'.elim) p s (h Γ p hΓ h1 h2)
theorem wpN_attempt {m : Sem α} {Q : Except Value α → Shared → Prop} (h : wpN w A m (fun a => Q (.ok a)) s) : wpN w A m.attempt Q s := fun Γ p hΓ h1 h2 => by
  rw [Sem.wp_attempt]
  exact Sem.wp_mono _ Γ m (fun _ _ _ h' => h') (fun _ _ _ h' => h'.elim) p s (h Γ p hΓ h1 h2)
theorem wpN_tryCatch {m : Sem α} {k : Value → Sem α} {Q : α → Shared → Prop} (h : wpN w A m Q s) : wpN w A (tryCatch m k) Q s := fun Γ p hΓ h1 h2 => by
  rw [Sem.wp_tryCatch']
  exact Sem.wp_mono _ Γ m (fun _ _ _ h' => h') (fun _ _ _ h' => h'.elim) p s (h Γ p hΓ h1 h2)
theorem wpN_standAt {pos : Pos} {Q : Unit → Shared → Prop} (h : Q () s) : wpN w A (standAt pos) Q s := fun _ _ _ _ _ => h
theorem wpN_rule {tag : String} {Q : Unit → Shared → Prop} (h : Q () s) : wpN w A (rule tag) Q s := fun _ _ _ _ _ => h
theorem wpN_point {Q : Unit → Shared → Prop} (h : Q () s) : wpN w A point Q s := fun _ _ _ _ _ => h
theorem wpN_of_eq {t t' : Sem α} {Q : α → Shared → Prop} (e : t = t') (h : wpN w A t' Q s) : wpN w A t Q s := e ▸ h
theorem wpN_in1 {t : Sem α} {Q : α → Shared → Prop} (h : wpN w A.in1 t Q s) : wpN w A t Q s :=
  fun Γ p hΓ h1 h2 => h Γ p ⟨hΓ.1, hΓ.2.1, hΓ.2.2.1, hΓ.2.2.2.1, Nat.le_succ_of_le hΓ.2.2.2.2⟩ h1 h2

theorem codeN_mono {c : Code} {R R' : Flow → Shared → Prop} (h : codeN w A c R s) (hR : ∀ f s, R f s → R' f s) : codeN w A c R' s :=
  fun Γ p hc hΓ hb => wpCode_mono (fun _ _ ⟨f, e, hf⟩ => ⟨f, e, hR f _ hf⟩) (h Γ p hc hΓ hb)

theorem codeAny.n {c : Code} {R : Flow → Shared → Prop} (h : codeAny (model PT w) A c (fun r s' => ∃ f, r = .ok f ∧ R f s') s) : codeN w A c R s := fun Γ p hc hΓ _ => h Γ p hc hΓ

theorem wpN_run {c : Code} {Q : Flow → Shared → Prop} (hc : codeN w A c Q s) : wpN w A (run c) Q s := fun Γ p hΓ h1 h2 => by
  rw [Sem.wp_run]
  have hb : ∀ x ∈ (Γ.enter c none p).below, okCode x.1 = true := by
    intro x hx
    rcases List.mem_cons.mp hx with rfl | hx
    · exact h1
    · exact h2 x hx
  refine wpCode_mono ?_ (hc _ p rfl (hΓ.enter c none p (by intro x; cases x)) hb)
  rintro r s' ⟨f, e, hf⟩
  subst e; exact hf
theorem wpN_runOwn {c : Code} {env : Env} {Q : Flow → Shared → Prop} (hc : codeN w A c Q s) : wpN w A (runOwn c env) Q s := by
  unfold runOwn
  exact wpN_onRaise (wpN_run hc)
theorem wpN_call {f : Value} {pos : List Value} {kw : List (Str × Value)} {Q : Value → Shared → Prop} (hc : codeN w A (.call f ⟨pos, kw⟩) (fun fl s' => ∃ v, fl = .ret v ∧ Q v s') s) :
    wpN w A (call f pos kw) Q s := by
  unfold call runValue
  refine wpN_bind (wpN_run (codeN_mono hc fun fl s' ⟨v, e, hq⟩ => ?_))
  subst e; exact wpN_pure hq

theorem codeN_of_tree {c : Code} {R : Flow → Shared → Prop} (hok : okCode c = true)
    (h : wpN w (A.under c) ((model PT w).den c) (fun fin s' => match fin with | .done f => R f s' | .again c' => c'.quiet = true ∧ codeN w A c' R s') s) : codeN w A c R s := fun Γ p hc hΓ hb => by
  rw [wpCode_iff_wp, hc]
  refine Sem.wp_mono _ Γ _ (fun fin p' s' h' => ?_) (fun _ _ _ h' => h'.elim) p s (h Γ p (hc ▸ hΓ.in) (hc ▸ hok) hb)
  cases fin with
  | done f => exact ⟨f, rfl, h'⟩
  | again c' => exact ⟨h'.1, h'.2 (Γ.goto c') p' rfl (hΓ.goto c') hb⟩

theorem codeN_loop {c : Code} {R : Flow → Shared → Prop} (hok : okCode c = true) (hq : c.quiet = true) (I : Nat → Shared → Prop)
    (turn : ∀ n s, I n s → wpN w (A.under c) ((model PT w).den c)
      (fun fin s' => match fin with
        | .done f => R f s'
        | .again c' => (c' = c ∧ ∃ m, m < n ∧ I m s') ∨ (c'.quiet = true ∧ codeN w A c' R s')) s)
    (n : Nat) (h : I n s) : codeN w A c R s := by
  induction n using Nat.strongRecOn generalizing s with
  | ind n ih =>
    refine codeN_of_tree hok (wpN_mono (turn n s h) (fun fin s' hf => ?_))
    cases fin with
    | done f => exact hf
    | again c' =>
      rcases hf with ⟨rfl, m, hm, hI⟩ | hf
      · exact ⟨hq, ih m hm hI⟩
      · exact hf

theorem okCode_good {id : String} {args : Args} (h : (!Builtin.Bytes.decodersThatHold.contains id && !guardIds.contains id) = true) : okCode (.builtin id args) = true := h

theorem codeN_builtin {id : String} {args : Args} {b : Builtin} {R : Flow → Shared → Prop} (hok : (!Builtin.Bytes.decodersThatHold.contains id && !guardIds.contains id) = true) (hb : entryFor table id = some b)
    (h : wpN w (A.under (.builtin id args)) (b args) (fun fin s' => match fin with | .done f => R f s' | .again c' => c'.quiet = true ∧ codeN w A c' R s') s) :
    codeN w A (.builtin id args) R s := by
  refine codeN_of_tree hok ?_
  show wpN _ _ (match entryFor table id with | some b => b args | none => unsupported ((withoutEnding? id "#data").getD id)) _ s
  rw [hb]; exact h

theorem codeN_call_builtin {id : String} {args : Args} {b : Builtin} {R : Flow → Shared → Prop} (hok : (!Builtin.Bytes.decodersThatHold.contains id && !guardIds.contains id) = true) (hq : plainId id = true) (hb : entryFor table id = some b)
    (h : wpN w A.in1 (checkBuiltinCall id args) (fun _ s₁ => wpN w A.in1 (b args)
      (fun fin s' => match fin with | .done f => R f s' | .again c' => c'.quiet = true ∧ codeN w A c' R s') s₁) s) : codeN w A (.call (.builtin id) args) R s := by
  refine codeN_of_tree rfl ?_
  show wpN _ A.in1 (do checkBuiltinCall id args; again (.builtin id args)) _ s
  refine wpN_bind (wpN_mono h fun _ s₁ h₁ => wpN_pure (And.intro (plainId_quiet hq args) (codeN_builtin hok hb ?_)))
  rw [Around.under_plainId hq args]; exact h₁

theorem codeN_call_type {T : String} {args : Args} {R : Flow → Shared → Prop} (hq : (Code.builtin "type.__call__" ⟨.type T :: args.pos, args.kw⟩).quiet = true)
    (h : codeN w A (.builtin "type.__call__" ⟨.type T :: args.pos, args.kw⟩) R s) : codeN w A (.call (.type T) args) R s := by
  refine codeN_of_tree rfl ?_
  show wpN _ _ (callAny (.type T) args) _ s
  exact wpN_pure ⟨hq, h⟩

/-- what the layer is for: no code on the stack holds the bytearray -/
theorem exported_N {self : Value} {Q : Bool → Shared → Prop} (h : Q false s) : wpN w A (Builtin.Bytes.exported self) Q s := fun Γ p _ h1 h2 => by
  unfold Builtin.Bytes.exported
  rw [Sem.wp_bind']
  unfold stack
  rw [Sem.wp_stack]
  rw [Sem.wp_pure, Sem.wp_pure']
  generalize hb : List.any _ _ = b
  cases b with
  | false => exact h
  | true =>
    exfalso
    obtain ⟨x, hx, hf⟩ := List.any_eq_true.mp hb
    have hk : okCode x.1 = true := by
      rcases List.mem_cons.mp hx with rfl | hx
      · exact h1
      · exact h2 x hx
    obtain ⟨c, pos⟩ := x
    dsimp only at hk hf
    split at hf
    all_goals (rename_i hc)
    all_goals (try (cases hc; exact absurd hk (okCode_bad (by decide +kernel))))
    all_goals (try (cases hf; done))
    cases hc
    have hk' := (Bool.and_eq_true_iff.mp hk).1
    have hf' := (Bool.and_eq_true_iff.mp hf).2
    rw [hf'] at hk'
    cases hk'
end
end Mine
end

/-! part BN -/
section
open PySem PySem.W PyProof.Rows
namespace Mine

theorem mro_ba : mroOf (.type "bytearray") = pure [.type "bytearray", .type "object"] := by rw [mroOf_type]; kernel_rfl
theorem lookup_ba_new : typeLookup (.type "bytearray") "__new__" = pure (some (.builtin "bytearray.__new__")) := by rw [typeLookup_type, builtinLookup_eq_fast]; kernel_rfl
theorem slot_ba_init : Slot "bytearray" "__init__" "bytearray.__init__" :=
  .of (owner := "bytearray") (n := "__init__") (by rw [typeLookup_type, builtinLookup_eq_fast]; kernel_rfl) (by decide +kernel) (by decide +kernel) (by decide +kernel)
    (by first | exact .inl (by decide +kernel) | exact .inr (by decide +kernel)) (by rw [isSubtype_type]; kernel_rfl)
theorem slot_ba_release : Slot "bytearray" "__release_buffer__" "bytearray.__release_buffer__" :=
  .of (owner := "bytearray") (n := "__release_buffer__") (by rw [typeLookup_type, builtinLookup_eq_fast]; kernel_rfl) (by decide +kernel) (by decide +kernel) (by decide +kernel)
    (by first | exact .inl (by decide +kernel) | exact .inr (by decide +kernel)) (by rw [isSubtype_type]; kernel_rfl)
theorem slot_ba_buffer : Slot "bytearray" "__buffer__" "bytearray.__buffer__" :=
  .of (owner := "bytearray") (n := "__buffer__") (by rw [typeLookup_type, builtinLookup_eq_fast]; kernel_rfl) (by decide +kernel) (by decide +kernel) (by decide +kernel)
    (by first | exact .inl (by decide +kernel) | exact .inr (by decide +kernel)) (by rw [isSubtype_type]; kernel_rfl)
theorem called_ba : TypeCalled "bytearray" "bytearray.__new__" "bytearray.__init__" :=
  ⟨by decide +kernel, by decide +kernel, ⟨_, _, mro_ba⟩, madeBy_type mro_ba lookup_ba_new (by decide +kernel), by decide +kernel, by rw [isSubtype_type]; kernel_rfl, slot_ba_init⟩
theorem typeCall_ba_1 (a : Value) : checkTypeCall "bytearray" ⟨[a], []⟩ = pure () := by kernel_rfl
theorem newCall_ba_1 (a : Value) : checkBuiltinCall "bytearray.__new__" ⟨[.type "bytearray", a], []⟩ = pure () := by kernel_rfl
theorem entry_ba_new : entryFor table "bytearray.__new__" = some Builtin.«list.__new__» :=
  entryFor_alias (id' := "list.__new__") (by kernel_rfl) (by decide +kernel) (by decide +kernel) (by kernel_rfl)
theorem plain_ba_new : plainId "bytearray.__new__" = true := by decide +kernel
theorem entry_ba_init : entryFor table "bytearray.__init__" = some Builtin.«bytearray.__init__» := entryFor_of_fast (by kernel_rfl)
theorem args_ba_init (a b : Value) : argsOk "bytearray.__init__" ⟨[a, b], []⟩ := by unfold argsOk; kernel_rfl
set_option maxRecDepth 1000000 in
theorem owner_ba_new : ("bytearray.__new__".splitOn ".__new__").headD "" = "bytearray" := by simp +decide [String.splitOn, String.splitOnAux]
theorem sub_ba_self : isSubtype (.type "bytearray") (.type "bytearray") = pure true := by rw [isSubtype_type]; kernel_rfl

theorem code_ba_new {prog : Program} {w : World} {A : Around} {E : Value → Shared → Prop} {s : Shared} (a : Value) {Q₁ : Value → Shared → Prop}
    (h : Q₁ (.ref s.heap.objs.size) { s with heap := s.heap.push (baObj #[]) }) :
    codeAny (model prog w) A (.call (.builtin "bytearray.__new__") ⟨[.type "bytearray", a], []⟩) (wants Q₁ E) s := by
  refine codeAny_of_tree ?_
  show wpAny _ A.in1 (do checkBuiltinCall "bytearray.__new__" ⟨[.type "bytearray", a], []⟩; again (.builtin "bytearray.__new__" ⟨[.type "bytearray", a], []⟩)) _ _ s
  refine wpAny_bind (wpAny_of_eq (newCall_ba_1 a) (wpAny_pure ⟨plainId_quiet plain_ba_new _, codeAny_builtin_stack entry_ba_new rfl fun p st => ?_⟩))
  rw [Around.under_plainId plain_ba_new _]
  have hsub := sub_ba_self
  have hown := owner_ba_new
  obtain ⟨hp, g, d, tk, os⟩ := s
  simp only [hown]
  wp_walk
  exact h

section
variable {w : World} {A : Around} {s : Shared}

/-- a call of the type bytearray: the new object, then its __init__ in the N layer -/
theorem callN_ba {v : Value} {Q : Value → Shared → Prop}
    (h : wpN w A.in1.in1 (Builtin.«bytearray.__init__» ⟨[.ref s.heap.objs.size, v], []⟩)
        (fun fin s' => fin = .done (.ret .none) ∧ Q (.ref s.heap.objs.size) s') { s with heap := s.heap.push (baObj #[]) }) :
    wpN w A (call (.type "bytearray") [v]) Q s := by
  refine wpN_call (codeN_call_type (Code.quiet_builtin _ (by decide +kernel)) (codeN_builtin (by decide +kernel) F.entry_type_call ?_))
  rw [Around.under_plain (weight_type_call_type "bytearray" [v] []) rfl]
  unfold Builtin.«type.__call__»
  have h1 := called_ba.notType
  have h2 := called_ba.canCreate
  simp only [h1, h2, typeCall_ba_1, mro_ba, called_ba.made, pure_bind, Bool.false_eq_true, if_false, List.isEmpty_cons]
  refine wpN_bind (wpN_holding (wpAny.n (wpAny_call (codeAny_mono (code_ba_new (E := fun _ _ => False) (Q₁ := fun obj s₁ => obj = .ref s.heap.objs.size ∧ s₁ = { s with heap := s.heap.push (baObj #[]) }) v ⟨rfl, rfl⟩) fun r s₁ hr => ?_))))
  cases r with
  | error e => exact hr.elim
  | ok fl =>
    cases fl with
    | ret obj =>
      obtain ⟨rfl, rfl⟩ := hr
      have hT : ({ s with heap := s.heap.push (baObj #[]) } : Shared).TypeIs (.ref s.heap.objs.size) "bytearray" := ⟨_, Heap.get?_push_size _ rfl, rfl⟩
      refine wpN_bind (wpAny.n (wpAny_isInstance hT sub_ba_self ?_))
      simp only [Bool.not_true, Bool.false_eq_true, if_false]
      refine wpN_bind (wpN_holding ?_)
      simp only [callSpecial?]
      refine wpN_bind (wpAny.n (wpAny_specialOf hT slot_ba_init.lookup ?_))
      simp only [slot_ba_init.bind]
      refine wpN_holding (wpN_bind (wpN_pure (wpN_bind (wpN_call (codeN_call_builtin (by decide +kernel) slot_ba_init.plain entry_ba_init ?_)))))
      refine wpAny.n (slot_ba_init.check _ _ _ _ _ _ _ _ hT (args_ba_init _ _) ?_)
      refine wpN_mono h fun fin s' hq => ?_
      obtain ⟨rfl, hq⟩ := hq
      exact ⟨_, rfl, wpN_pure (wpN_pure ⟨_, rfl, hq⟩)⟩
    | _ => exact hr.elim
end
end Mine
end

/-! part BI -/
section
open PySem PySem.W PyProof.Rows
namespace Mine

section
variable {M : Model} {w : World} {A : Around} {E : Value → Shared → Prop} {s : Shared}

theorem ba_slotIsOwn {a : Addr} {b : Array UInt8} {n id : String} {Q : Bool → Shared → Prop} (hb : s.heap.get? a = some (baObj b)) (hs : Slot "bytearray" (Str.ofString n) id)
    (he : id.endsWith ("." ++ n) = true) (hd : id.dropRight (n.length + 1) = "bytearray") (h : Q true s) : wpAny M A (Builtin.Bytes.slotIsOwn (.ref a) n) Q E s := by
  unfold Builtin.Bytes.slotIsOwn
  refine wpAny_bind (wpAny_specialOf (ba_typeIs hb) hs.lookup ?_)
  simp only [he, Bool.not_true, Bool.false_eq_true, if_false, hd]
  exact wpAny_isInstance (ba_typeIs hb) sub_ba_self h
theorem ba_ownRelease {a : Addr} {b : Array UInt8} {Q : Bool → Shared → Prop} (hb : s.heap.get? a = some (baObj b)) (h : Q false s) : wpAny M A (Builtin.Bytes.ownRelease (.ref a)) Q E s := by
  unfold Builtin.Bytes.ownRelease
  exact wpAny_bind (ba_slotIsOwn hb slot_ba_release (by decide +kernel) (by decide +kernel) (wpAny_pure h))
theorem ba_buffer {a : Addr} {b : Array UInt8} {id : String} {full : Bool} {Q : Option (Array UInt8) → Shared → Prop} (hb : s.heap.get? a = some (baObj b)) (h : Q (some b) s) :
    wpAny M A (Builtin.Bytes.buffer? id (.ref a) full) Q E s := by
  unfold Builtin.Bytes.buffer?
  refine wpAny_bind (wpAny_specialOf (ba_typeIs hb) slot_ba_buffer.lookup ?_)
  simp only []
  refine wpAny_bind (ba_slotIsOwn hb slot_ba_buffer (by decide +kernel) (by decide +kernel) ?_)
  simp only [Bool.not_true, Bool.false_eq_true, if_false]
  refine wpAny_bind (wpAny_specialOf (ba_typeIs hb) slot_ba_buffer.lookup ?_)
  refine wpAny_bind (ba_ownRelease hb ?_)
  simp only [Bool.false_eq_true, if_false]
  exact wpAny_bind (ba_payload hb (wpAny_pure h))

theorem ba_exportsOf {a : Addr} {b : Array UInt8} {Q : Nat → Shared → Prop} (hb : s.heap.get? a = some (baObj b)) (h : Q 0 s) : wpAny M A (Builtin.Bytes.exportsOf (.ref a)) Q E s := by
  unfold Builtin.Bytes.exportsOf
  exact wpAny_bind (wpAny_load hb (wpAny_pure h))

theorem ba_bindOptional (v : Value) : Builtin.Bytes.bindOptional "bytearray.__init__" "bytearray" ["source", "encoding", "errors"] [v] [] = pure [some v, none, none] := by
  kernel_rfl


theorem ba_notExported {a : Addr} {b : Array UInt8} {Q : Bool → Shared → Prop} (hb : s.heap.get? a = some (baObj b)) (h : Q false s) :
    wpN w A (Builtin.Bytes.exported (.ref a) <||> do return (← Builtin.Bytes.exportsOf (.ref a)) > 0) Q s := by
  refine wpN_bind (exported_N ?_)
  exact wpN_bind (wpAny.n (ba_exportsOf hb (wpN_pure h)))

theorem ba_init_count {a : Addr} {n : Int} {t : Tok} {Q : Fin → Shared → Prop} (hb : s.heap.get? a = some (baObj #[])) (h0 : 0 ≤ n) (hn : n ≤ sizeLine)
    (h : ∀ h', h'.get? a = some (baObj (Array.replicate n.toNat 0)) → Heap.SameBut a s.heap h' → Q (.done (.ret .none)) { s with heap := h' }) :
    wpN w A (Builtin.«bytearray.__init__» ⟨[.ref a, .int n t], []⟩) Q s := by
  rw [sizeLine_eq] at hn
  unfold Builtin.«bytearray.__init__»
  dsimp only
  refine wpN_bind (wpAny.n (ba_ownRelease hb ?_))
  rw [if_neg (by decide), ba_bindOptional]
  refine wpN_bind (wpN_pure ?_)
  refine wpN_bind (wpN_pure ?_)
  refine wpN_bind (wpN_pure ?_)
  refine wpN_bind (ba_notExported hb ?_)
  rw [if_neg (by decide)]
  refine wpN_bind (wpAny.n (ba_update (f := fun _ => #[]) hb (by decide) fun h1 e1 k1 => ?_))
  refine wpN_bind (wpN_pure ?_)
  rw [if_neg (by decide)]
  refine wpN_bind (wpN_pure ?_)
  refine wpN_bind (wpAny.n (wpAny_specialOf (T := "int") rfl int_index ?_))
  rw [if_pos (by rfl)]
  refine wpN_bind (wpN_attempt (wpN_pure (a := n) ?_))
  have hf : Builtin.Bytes.fitsIndex n = true := by unfold Builtin.Bytes.fitsIndex; simp; omega
  dsimp only
  rw [if_neg (by rw [hf]; decide), if_neg (by omega), if_neg (by simp; omega), if_neg (by simp [Builtin.Bytes.tooLong, sizeLine]; omega)]
  refine wpN_bind (wpN_rule ?_)
  by_cases hp : n > 0
  · rw [if_pos hp]
    refine wpN_bind (wpAny.n (ba_update (f := fun _ => Array.replicate n.toNat 0) e1 (by rw [Array.size_replicate, sizeLine_eq]; omega) fun h2 e2 k2 => ?_))
    exact wpN_pure (h h2 e2 (k1.trans k2))
  · rw [if_neg hp]
    obtain rfl : n = 0 := by omega
    exact wpN_pure (h h1 e1 k1)

theorem lookup_ba_index : typeLookup (.type "bytearray") "__index__" = pure none := by rw [typeLookup_type, builtinLookup_eq_fast]; kernel_rfl
theorem lookup_list_index : typeLookup (.type "list") "__index__" = pure none := by rw [typeLookup_type, builtinLookup_eq_fast]; kernel_rfl
theorem lookup_list_buffer : typeLookup (.type "list") "__buffer__" = pure none := by rw [typeLookup_type, builtinLookup_eq_fast]; kernel_rfl

theorem ba_init_ba {a c : Addr} {b : Array UInt8} {Q : Fin → Shared → Prop} (hb : s.heap.get? a = some (baObj #[])) (hc : s.heap.get? c = some (baObj b)) (hne : c ≠ a) (hn : b.size ≤ sizeLine)
    (h : ∀ h', h'.get? a = some (baObj b) → Heap.SameBut a s.heap h' → Q (.done (.ret .none)) { s with heap := h' }) :
    wpN w A (Builtin.«bytearray.__init__» ⟨[.ref a, .ref c], []⟩) Q s := by
  unfold Builtin.«bytearray.__init__»
  dsimp only
  refine wpN_bind (wpAny.n (ba_ownRelease hb ?_))
  rw [if_neg (by decide), ba_bindOptional]
  refine wpN_bind (wpN_pure ?_)
  refine wpN_bind (wpN_pure ?_)
  refine wpN_bind (wpN_pure ?_)
  refine wpN_bind (ba_notExported hb ?_)
  rw [if_neg (by decide)]
  refine wpN_bind (wpAny.n (ba_update (f := fun _ => #[]) hb (by decide) fun h1 e1 k1 => ?_))
  have hc1 : h1.get? c = some (baObj b) := (k1.2 c hne).trans hc
  refine wpN_bind (wpN_bind (wpAny.n (wpAny_load hc1 (wpN_pure ?_))))
  rw [if_neg (by decide)]
  refine wpN_bind (wpN_pure ?_)
  refine wpN_bind (wpAny.n (wpAny_specialOf (T := "bytearray") ⟨_, hc1, rfl⟩ lookup_ba_index ?_))
  rw [if_neg (by decide)]
  refine wpN_bind (wpAny.n (ba_buffer hc1 ?_))
  dsimp only
  refine wpN_bind (wpN_rule ?_)
  refine wpN_bind (wpAny.n (ba_update (f := fun _ => b) e1 hn fun h2 e2 k2 => ?_))
  exact wpN_pure (h h2 e2 (k1.trans k2))

/-- the octets of a list of ints -/
def octs (ns : List Int) : Array UInt8 := (ns.map fun n => n.toNat.toUInt8).toArray

theorem ints_takeWhile (f : Value → Bool) (hf : ∀ i t, f (.int i t) = (decide (0 ≤ i) && decide (i < 256))) : ∀ {vs : List Value} {ns : List Int}, IntsAre vs ns → (∀ n ∈ ns, 0 ≤ n ∧ n < 256) →
    vs.takeWhile f = vs := by
  intro vs ns h
  induction h with
  | nil => intro _; rfl
  | cons n t h ih =>
    intro hr
    have h1 := hr _ (List.mem_cons_self ..)
    rw [List.takeWhile_cons, hf, ih fun n hn => hr n (List.mem_cons_of_mem _ hn)]
    simp [h1.1, h1.2]
theorem ints_filterMap (f : Value → Option UInt8) (hf : ∀ i t, f (.int i t) = some i.toNat.toUInt8) : ∀ {vs : List Value} {ns : List Int}, IntsAre vs ns →
    vs.filterMap f = ns.map fun n => n.toNat.toUInt8 := by
  intro vs ns h
  induction h with
  | nil => rfl
  | cons n t h ih => rw [List.filterMap_cons, hf, ih]; rfl

theorem ba_init_list {a c : Addr} {vs : List Value} {ns : List Int} {Q : Fin → Shared → Prop} (hb : s.heap.get? a = some (baObj #[])) (hc : s.heap.IsList c vs.toArray) (hi : IntsAre vs ns) (hr : ∀ n ∈ ns, 0 ≤ n ∧ n < 256)
    (hn : ns.length ≤ sizeLine)
    (h : ∀ h', h'.get? a = some (baObj (octs ns)) → Heap.SameBut a s.heap h' → Q (.done (.ret .none)) { s with heap := h' }) :
    wpN w A (Builtin.«bytearray.__init__» ⟨[.ref a, .ref c], []⟩) Q s := by
  obtain ⟨o, ho, hcls, ne, hd⟩ := id hc
  have hne : c ≠ a := by
    rintro rfl
    rw [hb] at ho
    cases ho
    cases hd
  unfold Builtin.«bytearray.__init__»
  dsimp only
  refine wpN_bind (wpAny.n (ba_ownRelease hb ?_))
  rw [if_neg (by decide), ba_bindOptional]
  refine wpN_bind (wpN_pure ?_)
  refine wpN_bind (wpN_pure ?_)
  refine wpN_bind (wpN_pure ?_)
  refine wpN_bind (ba_notExported hb ?_)
  rw [if_neg (by decide)]
  refine wpN_bind (wpAny.n (ba_update (f := fun _ => #[]) hb (by decide) fun h1 e1 k1 => ?_))
  have hc1 : h1.get? c = some o := (k1.2 c hne).trans ho
  refine wpN_bind (wpN_bind (wpAny.n (wpAny_load hc1 ?_)))
  rw [hd]
  refine wpN_pure ?_
  rw [if_neg (by decide)]
  refine wpN_bind (wpN_pure ?_)
  refine wpN_bind (wpAny.n (wpAny_specialOf (T := "list") ⟨_, hc1, hcls⟩ lookup_list_index ?_))
  rw [if_neg (by decide)]
  have hbuf : wpAny (model PT w) A (Builtin.Bytes.buffer? "bytearray.__init__" (.ref c) true) (fun r s' => r = none ∧ s' = { s with heap := h1 }) (fun _ _ => False) { s with heap := h1 } := by
    unfold Builtin.Bytes.buffer?
    refine wpAny_bind (wpAny_specialOf (T := "list") ⟨_, hc1, hcls⟩ lookup_list_buffer ?_)
    exact wpAny_bind (wpAny_specialOf (T := "list") ⟨_, hc1, hcls⟩ lookup_list_buffer (wpAny_pure ⟨rfl, rfl⟩))
  refine wpN_bind (wpN_mono (wpAny.n hbuf) fun r s' hr' => ?_)
  obtain ⟨rfl, rfl⟩ := hr'
  dsimp only
  refine wpN_bind (wpAny.n (wpAny_typeOf (T := "list") ⟨_, hc1, hcls⟩ ?_))
  rw [if_pos (by decide)]
  refine wpN_bind (wpAny.n (wpAny_seqItems hc1 hd ?_))
  dsimp only
  rw [ints_takeWhile _ (fun _ _ => rfl) hi hr, ints_filterMap _ (fun _ _ => rfl) hi]
  have hsz : vs.toArray[vs.length]? = none := by simp
  rw [hsz]
  refine wpN_bind (wpN_rule ?_)
  refine wpN_bind (wpAny.n (ba_update (f := fun _ => octs ns) e1 (by simpa [octs] using hn) fun h2 e2 k2 => ?_))
  exact wpN_pure (h h2 e2 (k1.trans k2))

/-- bytearray(n), bytearray(b), bytearray([..]) -/
theorem callN_ba_count {n : Int} {t : Tok} {Q : Value → Shared → Prop} (h0 : 0 ≤ n) (hn : n ≤ sizeLine)
    (h : ∀ h', h'.get? s.heap.objs.size = some (baObj (Array.replicate n.toNat 0)) → (∀ c o, s.heap.get? c = some o → h'.get? c = some o) → Q (.ref s.heap.objs.size) { s with heap := h' }) :
    wpN w A (call (.type "bytearray") [.int n t]) Q s :=
  callN_ba (ba_init_count (Heap.get?_push_size _ rfl) h0 hn fun h' e k => ⟨rfl, h h' e fun c o hc => (k.2 c (Nat.ne_of_lt (Heap.lt_size hc))).trans (Heap.get?_push_of_some _ hc)⟩)
theorem callN_ba_ba {c : Addr} {b : Array UInt8} {Q : Value → Shared → Prop} (hc : s.heap.get? c = some (baObj b)) (hn : b.size ≤ sizeLine)
    (h : ∀ h', h'.get? s.heap.objs.size = some (baObj b) → (∀ c o, s.heap.get? c = some o → h'.get? c = some o) → Q (.ref s.heap.objs.size) { s with heap := h' }) :
    wpN w A (call (.type "bytearray") [.ref c]) Q s :=
  callN_ba (ba_init_ba (Heap.get?_push_size _ rfl) (Heap.get?_push_of_some _ hc) (Nat.ne_of_lt (Heap.lt_size hc)) hn fun h' e k => ⟨rfl, h h' e fun c o hc => (k.2 c (Nat.ne_of_lt (Heap.lt_size hc))).trans (Heap.get?_push_of_some _ hc)⟩)
theorem callN_ba_list {c : Addr} {vs : List Value} {ns : List Int} {Q : Value → Shared → Prop} (hc : s.heap.IsList c vs.toArray) (hi : IntsAre vs ns) (hr : ∀ n ∈ ns, 0 ≤ n ∧ n < 256) (hn : ns.length ≤ sizeLine)
    (h : ∀ h', h'.get? s.heap.objs.size = some (baObj (octs ns)) → (∀ c o, s.heap.get? c = some o → h'.get? c = some o) → Q (.ref s.heap.objs.size) { s with heap := h' }) :
    wpN w A (call (.type "bytearray") [.ref c]) Q s :=
  callN_ba (ba_init_list (Heap.get?_push_size _ rfl) (hc.push _) hi hr hn fun h' e k => ⟨rfl, h h' e fun c o hc => (k.2 c (Nat.ne_of_lt (Heap.lt_size hc))).trans (Heap.get?_push_of_some _ hc)⟩)
end
end Mine
end

/-! part BL -/
section
open PySem PySem.W PyProof.Rows
namespace Mine

theorem slot_ba_add : Slot "bytearray" "__add__" "bytearray.__add__" :=
  .of (owner := "bytearray") (n := "__add__") (by rw [typeLookup_type, builtinLookup_eq_fast]; kernel_rfl) (by decide +kernel) (by decide +kernel) (by decide +kernel)
    (by first | exact .inl (by decide +kernel) | exact .inr (by decide +kernel)) (by rw [isSubtype_type]; kernel_rfl)
theorem entry_ba_add : entryFor table "bytearray.__add__" = some Builtin.«bytearray.__add__» := entryFor_of_fast (by kernel_rfl)
theorem args_ba_add (a b : Value) : argsOk "bytearray.__add__" ⟨[a, b], []⟩ := by unfold argsOk; kernel_rfl
theorem noR_ba_add : typeLookup (.type "bytearray") (dunderR "add") = pure none := by rw [typeLookup_type, builtinLookup_eq_fast]; kernel_rfl
theorem noFill_ba_add : fillsNumberSlot (.type "bytearray") "add" = pure false := PySem.fillsNumberSlot_seq (id := "bytearray.__add__") (r := none) slot_ba_add.lookup (by decide +kernel) noR_ba_add rfl
theorem seq_ba_add : seqSlot? (.type "bytearray") "__add__" = pure (some (.builtin "bytearray.__add__")) := PySem.seqSlot_of slot_ba_add.lookup (by decide +kernel)

theorem slot_ba_iter : Slot "bytearray" "__iter__" "bytearray.__iter__" :=
  .of (owner := "bytearray") (n := "__iter__") (by rw [typeLookup_type, builtinLookup_eq_fast]; kernel_rfl) (by decide +kernel) (by decide +kernel) (by decide +kernel)
    (by first | exact .inl (by decide +kernel) | exact .inr (by decide +kernel)) (by rw [isSubtype_type]; kernel_rfl)
theorem entry_ba_iter : entryFor table "bytearray.__iter__" = some Builtin.«bytearray.__iter__» := entryFor_of_fast (by kernel_rfl)
theorem args_ba_iter (a : Value) : argsOk "bytearray.__iter__" ⟨[a], []⟩ := by unfold argsOk; kernel_rfl
theorem slot_bi_iter : Slot "bytearray_iterator" "__iter__" "bytearray_iterator.__iter__" :=
  .of (owner := "bytearray_iterator") (n := "__iter__") (by rw [typeLookup_type, builtinLookup_eq_fast]; kernel_rfl) (by decide +kernel) (by decide +kernel) (by decide +kernel)
    (by first | exact .inl (by decide +kernel) | exact .inr (by decide +kernel)) (by rw [isSubtype_type]; kernel_rfl)
theorem slot_bi_next : Slot "bytearray_iterator" "__next__" "bytearray_iterator.__next__" :=
  .of (owner := "bytearray_iterator") (n := "__next__") (by rw [typeLookup_type, builtinLookup_eq_fast]; kernel_rfl) (by decide +kernel) (by decide +kernel) (by decide +kernel)
    (by first | exact .inl (by decide +kernel) | exact .inr (by decide +kernel)) (by rw [isSubtype_type]; kernel_rfl)
theorem entry_bi_next : entryFor table "bytearray_iterator.__next__" = some Builtin.«bytearray_iterator.__next__» := entryFor_of_fast (by kernel_rfl)
theorem args_bi_next (a : Value) : argsOk "bytearray_iterator.__next__" ⟨[a], []⟩ := by unfold argsOk; kernel_rfl
theorem entry_bi_iter : entryFor table "bytearray_iterator.__iter__" = some Builtin.«dict_keyiterator.__iter__» :=
  entryFor_alias (id' := "dict_keyiterator.__iter__") (by kernel_rfl) (by decide +kernel) (by decide +kernel) (by kernel_rfl)
theorem args_bi_iter (a : Value) : argsOk "bytearray_iterator.__iter__" ⟨[a], []⟩ := by unfold argsOk; kernel_rfl

/-- a bytearray's iterator at place i -/
def IsBI (h : Heap) (I c : Addr) (i : Nat) : Prop := h.get? I = some { cls := .type "bytearray_iterator", data := .fields #[.ref c, rawInt i] }

section
variable {prog : Program} {w : World} {A : Around} {E : Value → Shared → Prop} {s : Shared}

theorem ba_add {a c : Addr} {x y : Array UInt8} {Q : Value → Shared → Prop} (ha : s.heap.get? a = some (baObj x)) (hc : s.heap.get? c = some (baObj y)) (hn : x.size + y.size ≤ sizeLine)
    (h : Q (.ref s.heap.objs.size) { s with heap := s.heap.push (baObj (x ++ y)) }) : wpAny (model prog w) A (binaryOp .Add (.ref a) (.ref c)) Q E s := by
  refine concat_meets (S := fun _ R s' => s' = s ∧ R (.ok (.ret (.ref s.heap.objs.size))) { s with heap := s.heap.push (baObj (x ++ y)) }) ⟨_, ha, rfl⟩ ⟨_, hc, rfl⟩ noFill_ba_add seq_ba_add slot_ba_add entry_ba_add (args_ba_add _ _) ?_ ⟨rfl, h⟩
  refine .of_wp fun prog w A R s' hs => ?_
  obtain ⟨rfl, hq⟩ := hs
  show wpAny _ _ (Builtin.Bytes.buffer? "bytearray.__add__" (.ref a) >>= _) _ _ _
  refine wpAny_bind (ba_buffer ha ?_)
  show wpAny _ _ (Builtin.Bytes.bufferQuiet? "bytearray.__add__" (.ref c) >>= _) _ _ _
  refine wpAny_bind ?_
  unfold Builtin.Bytes.bufferQuiet?
  refine wpAny_bind (wpAny_attempt (ba_buffer hc (wpAny_pure ?_)))
  show wpAny _ _ (if Builtin.Bytes.tooLong (x.size + y.size) = true then _ else _) _ _ _
  rw [if_neg (by simp [Builtin.Bytes.tooLong]; omega)]
  show wpAny _ _ (newObj (.type "bytearray") (.bytearray (x ++ y)) >>= _) _ _ _
  refine wpAny_bind (wpAny_newObj_type (wpAny_pure ⟨_, rfl, hq⟩) ?_)
  show (x ++ y).size ≤ sizeLine
  rw [Array.size_append]; exact hn

theorem bi_next_item {I c : Addr} {b : Array UInt8} {i : Nat} {x : UInt8} {Q : Option Value → Shared → Prop} (hit : IsBI s.heap I c i) (hc : s.heap.get? c = some (baObj b)) (hx : b[i]? = some x)
    (hQ : ∀ h', IsBI h' I c (i + 1) → Heap.SameBut I s.heap h' → Q (some (.int x.toNat s.toks)) { s with heap := h', toks := s.toks + 1 }) : wpAny (model prog w) A (pyNext (.ref I)) Q E s := by
  have hT : s.TypeIs (.ref I) "bytearray_iterator" := ⟨_, hit, rfl⟩
  unfold pyNext
  refine wpAny_bind (wpAny_attempt (wpAny_callSpecial?_slot (name := Str.ofString "__next__") hT slot_bi_next
    (wpAny_call_entry slot_bi_next hT entry_bi_next ?_ (args_bi_next _))))
  show wpAny _ _ (field (.ref I) 0 >>= _) _ _ s
  refine wpAny_bind (wpAny_field hit rfl (x := .ref c) rfl ?_)
  show wpAny _ _ (load c >>= _) _ _ s
  refine wpAny_bind (wpAny_load hc ?_)
  show wpAny _ _ (field (.ref I) 1 >>= _) _ _ s
  refine wpAny_bind (wpAny_field hit rfl (x := rawInt i) rfl ?_)
  show wpAny _ _ (match b[i]? with | some c => _ | none => _) _ _ s
  rw [hx]
  show wpAny _ _ (setField (.ref I) 1 (rawInt ((i : Int) + 1)) >>= _) _ _ s
  refine wpAny_bind (wpAny_setField_rec hit (by simp) fun h' e1 e2 => ?_)
  refine wpAny_bind (wpAny_mkInt (wpAny_pure ⟨_, rfl, wpAny_pure (hQ h' ?_ e2)⟩))
  simpa [IsBI] using e1

theorem bi_next_end {I c : Addr} {b : Array UInt8} {i : Nat} {Q : Option Value → Shared → Prop} (hh : A.handled = none) (hit : IsBI s.heap I c i) (hc : s.heap.get? c = some (baObj b)) (hx : b[i]? = none)
    (hQ : ∀ h', Heap.ExtBut I s.heap h' → Q none { s with heap := h' }) : wpAny (model prog w) A (pyNext (.ref I)) Q E s := by
  have hT : s.TypeIs (.ref I) "bytearray_iterator" := ⟨_, hit, rfl⟩
  unfold pyNext
  refine wpAny_bind (wpAny_attempt (wpAny_callSpecial?_slot (name := Str.ofString "__next__") hT slot_bi_next
    (wpAny_call_entry slot_bi_next hT entry_bi_next ?_ (args_bi_next _))))
  show wpAny _ _ (field (.ref I) 0 >>= _) _ _ s
  refine wpAny_bind (wpAny_field hit rfl (x := .ref c) rfl ?_)
  show wpAny _ _ (load c >>= _) _ _ s
  refine wpAny_bind (wpAny_load hc ?_)
  show wpAny _ _ (field (.ref I) 1 >>= _) _ _ s
  refine wpAny_bind (wpAny_field hit rfl (x := rawInt i) rfl ?_)
  show wpAny _ _ (match b[i]? with | some c => _ | none => _) _ _ s
  rw [hx]
  refine wpAny_bind (wpAny_rule ?_)
  refine wpAny_bind (wpAny_setField_rec hit (by simp) fun h' e1 e2 => ?_)
  refine wpAny_bind (wpAny_letGo ?_)
  show wpAny _ _ (newExc (.type "StopIteration") [] >>= _) _ _ _
  refine wpAny_bind ?_
  simp only [newExc, newTuple]
  refine wpAny_bind (wpAny_newObj_type ?_ (by size_fits))
  refine wpAny_bind (m := firstArgMember _ _) (wpAny_of_eq (a := Value.none) (by first | rfl | (simp only [firstArgMember]; rfl)) ?_)
  refine wpAny_newObj_type ?_ (by size_fits)
  simp only [raiseNew]
  refine wpAny_bind (wpAny_handled ?_)
  first | rw [show A.in1.handled = none from hh] | rw [hh]
  refine wpAny_bind (wpAny_pure (wpAny_throw ?_))
  refine wpAny_bind (wpAny_isInstance (T := "StopIteration") (b := true) ⟨_, Heap.get?_push_size _ rfl, rfl⟩ isSubtype_stop ?_)
  exact wpAny_pure (hQ _ ((e2.extBut.push _).push _))

theorem bi_iter {I c : Addr} {i : Nat} {Q : Value → Shared → Prop} (hit : IsBI s.heap I c i) (h : Q (.ref I) s) : wpAny (model prog w) A (pyIter (.ref I)) Q E s := by
  have hT : s.TypeIs (.ref I) "bytearray_iterator" := ⟨_, hit, rfl⟩
  refine wpAny_pyIter_slot hT slot_bi_iter (wpAny_call_entry slot_bi_iter hT entry_bi_iter ?_ (args_bi_iter _))
  show wpAny _ _ (ret (.ref I)) _ _ s
  exact wpAny_pure ⟨_, rfl, "bytearray_iterator", _, hT, slot_bi_next.lookup, h⟩

theorem ba_iter {c : Addr} {b : Array UInt8} {Q : Value → Shared → Prop} (hc : s.heap.get? c = some (baObj b))
    (h : Q (.ref s.heap.objs.size) { s with heap := s.heap.push { cls := .type "bytearray_iterator", data := .fields #[.ref c, rawInt 0] } }) : wpAny (model prog w) A (pyIter (.ref c)) Q E s := by
  have hT := ba_typeIs (s := s) hc
  refine wpAny_pyIter_slot hT slot_ba_iter (wpAny_call_entry slot_ba_iter hT entry_ba_iter ?_ (args_ba_iter _))
  show wpAny _ _ (newFields "bytearray_iterator" [.ref c, rawInt 0] >>= _) _ _ s
  refine wpAny_bind ?_
  unfold newFields
  refine wpAny_newObj_type ?_ (by size_fits)
  exact wpAny_pure ⟨_, rfl, "bytearray_iterator", _, ⟨_, Heap.get?_push_size _ rfl, rfl⟩, slot_bi_next.lookup, h⟩
end

theorem Walks.ba {prog : Program} {w : World} {A : Around} (hh : A.handled = none) (I c : Addr) (hne : c ≠ I) (b : Array UInt8) :
    Walks prog w A I [I, c] [I] b.size (fun i v => ∃ x t, b[i]? = some x ∧ v = .int x.toNat t) (fun i h => IsBI h I c i ∧ h.get? c = some (baObj b)) where
  sub := fun b hb => by simp at hb; simp [hb]
  frame := fun _ _ _ st hk => ⟨hk I (by simp) _ st.1, hk c (by simp) _ st.2⟩
  item := fun i s Q E hi st hQ => by
    refine bi_next_item st.1 st.2 (x := b[i]) (by simp [hi]) fun h' hit' hs' => ?_
    exact hQ _ h' _ ⟨_, _, by simp [hi], rfl⟩ ⟨hit', (hs'.2 c hne).trans st.2⟩ fun b o hb e => hs'.extBut b o (fun h => hb (by simp [h])) e
  done := fun s Q E st hQ => bi_next_end hh st.1 st.2 (by simp) fun h' he' => hQ h' s.toks fun b o hb e => he' b o (fun h => hb (by simp [h])) e
  self := fun _ _ _ _ st hQ => bi_iter st.1 hQ
end Mine
end

/-! part BM -/
section
open PySem PySem.W PyProof.Rows
namespace Mine

section
variable {prog : Program} {w : World} {A : Around} {E : Value → Shared → Prop} {s : Shared}

theorem ba_hint {c : Addr} {b : Array UInt8} {Q : Bool → Shared → Prop} (hc : s.heap.get? c = some (baObj b)) (h : Q false s) : wpAny (model prog w) A (Builtin.List.listLengthHint (.ref c)) Q E s := by
  have hT := ba_typeIs (s := s) hc
  unfold Builtin.List.listLengthHint
  refine wpAny_bind (wpAny_specialOf hT slot_ba_len.lookup ?_)
  generalize hid : ("bytearray.__len__" : String) = id0
  wp_delta
  rw [show splitId id0 = some ("bytearray", "__len__") from by subst hid; decide +kernel]
  subst hid
  refine wpAny_bind (wpAny_isInstance (T := "bytearray") (b := true) hT sub_ba_self ?_)
  refine wpAny_ite_split (fun hab => absurd hab (by decide)) (fun _ => ?_)
  refine wpAny_ite_split (fun _ => ?_) (fun hab => absurd (by decide +kernel) hab)
  exact wpAny_bind (wpAny_typeOf hT (wpAny_pure h))

theorem ba_extend {R : Result → Shared → Prop} {c : Addr} {b : Array UInt8} (hh : A.handled = none) (hc : s.heap.get? c = some (baObj b)) (hlen : b.size ≤ sizeLine) (S : Addr) (res : Value) (c₀ : Nat)
    (hS : s.heap.get? S = some { cls := .type "list", data := .seq #[] c₀ })
    (hR : ∀ h' tk acc' c', (∀ b o, b ≠ S → s.heap.get? b = some o → h'.get? b = some o) → h'.get? S = some { cls := .type "list", dict := none, data := .seq acc' c', slots := #[] } →
      ItemsOf (fun i v => ∃ x t, b[i]? = some x ∧ v = .int x.toNat t) acc' b.size → R (.ok (.ret res)) { s with heap := h', toks := tk }) :
    wpAny (model prog w) A.in1 (Builtin.List.listExtendWith (.ref S) (.ref c) res)
      (fun fin s' => match fin with | .done f => R (.ok f) s' | .again c' => c'.quiet = true ∧ codeAny (model prog w) A c' R s') (fun e s' => R (.error e) s') s := by
  have hSc : S ≠ c := fun e => by rw [e, hc] at hS; simp at hS
  have hSlt : S < s.heap.objs.size := Heap.lt_size hS
  have hclt : c < s.heap.objs.size := Heap.lt_size hc
  have W := (Walks.ba (prog := prog) (w := w) (A := A.in1) hh s.heap.objs.size c (Nat.ne_of_lt hclt) b).toS
  unfold Builtin.List.listExtendWith
  refine wpAny_bind (wpAny_typeOf (ba_typeIs hc) ?_)
  have h1 : Builtin.List.listSameRef (.ref S) (.ref c) = false := by simp [Builtin.List.listSameRef, hSc]
  have h2 : (Value.type "bytearray" == Value.type "list") = false := by decide
  have h3 : (Value.type "bytearray" == Value.type "tuple") = false := by decide
  simp only [h1, h2, h3, Bool.or_false, Bool.false_eq_true, if_false]
  refine wpAny_bind (ba_iter hc ?_)
  have hc1 := Heap.get?_push_of_some { cls := .type "bytearray_iterator", data := .fields #[.ref c, rawInt 0] } hc
  have hS1 := Heap.get?_push_of_some { cls := .type "bytearray_iterator", data := .fields #[.ref c, rawInt 0] } hS
  refine wpAny_bind (wpAny_holding (ba_hint hc1 ?_))
  refine wpAny_ite_split (fun hab => absurd hab (by decide +kernel)) (fun _ => wpAny_pure ⟨plainId_quiet F.plain_extend_loop _, ?_⟩)
  have hSf : S ∉ [s.heap.objs.size, c] := by
    intro hm
    rcases List.mem_cons.mp hm with e | hm
    · exact Nat.ne_of_lt hSlt e
    · exact hSc (List.mem_singleton.mp hm)
  refine codeAny_extend_loopS W hlen S hSf res b.size 0 _ #[] c₀ rfl (Nat.zero_le _) ⟨Heap.get?_push_size _ rfl, hc1⟩ hS1 (ItemsOf.nil _) fun s' acc' c' hm hS' hacc => ?_
  rw [Moved.eq_with hm]
  refine hR s'.heap s'.toks acc' c' (fun d o hd e => hm.heap d o (fun hmem => ?_) (Heap.get?_push_of_some _ e)) hS' hacc
  rcases List.mem_cons.mp hmem with e' | hmem
  · exact hd e'
  · exact absurd (Heap.lt_size e) (by rw [List.mem_singleton.mp hmem]; exact Nat.lt_irrefl _)

theorem ba_list_init {R : Result → Shared → Prop} {c : Addr} {b : Array UInt8} (hh : A.handled = none) (hc : s.heap.get? c = some (baObj b)) (hlen : b.size ≤ sizeLine) (S : Addr)
    (hS : s.heap.get? S = some { cls := .type "list", data := .seq #[] })
    (hR : ∀ h' tk acc' c', (∀ b o, b ≠ S → s.heap.get? b = some o → h'.get? b = some o) → h'.get? S = some { cls := .type "list", dict := none, data := .seq acc' c', slots := #[] } →
      ItemsOf (fun i v => ∃ x t, b[i]? = some x ∧ v = .int x.toNat t) acc' b.size → R (.ok (.ret .none)) { s with heap := h', toks := tk }) :
    wpAny (model prog w) A.in1 (Builtin.«list.__init__» ⟨[.ref S, .ref c], []⟩)
      (fun fin s' => match fin with | .done f => R (.ok f) s' | .again c' => c'.quiet = true ∧ codeAny (model prog w) A c' R s') (fun e s' => R (.error e) s') s := by
  have hSc : S ≠ c := fun e => by rw [e, hc] at hS; simp at hS
  show wpAny _ _ (do let old ← Builtin.List.listItems (.ref S); Builtin.List.listUpdate (.ref S) (fun _ => #[]); letGo old.toList.reverse; Builtin.List.listExtendWith (.ref S) (.ref c) .none) _ _ s
  refine wpAny_bind ?_
  unfold Builtin.List.listItems
  refine wpAny_bind (wpAny_seqItems hS rfl (wpAny_pure ?_))
  show wpAny _ _ (updateSeq S (fun _ => #[]) >>= fun _ => letGo (#[] : Array Value).toList.reverse >>= fun _ => Builtin.List.listExtendWith (.ref S) (.ref c) .none) _ _ s
  refine wpAny_bind (wpAny_updateSeq hS rfl ?_)
  have hS₂ := Heap.get?_update_self (Obj.mapSeq (fun _ => (#[] : Array Value))) hS rfl
  have oth : ∀ b o, b ≠ S → s.heap.get? b = some o → (s.heap.update S (Obj.mapSeq (fun _ => (#[] : Array Value)))).get? b = some o :=
    fun b o hb e => (Heap.get?_update_other _ _ (Ne.symm hb)).trans e
  refine wpAny_bind (wpAny_letGo ?_)
  refine ba_extend hh (oth c _ (Ne.symm hSc) hc) hlen S .none _ hS₂ fun h' tk acc' c' hk hS' hacc => ?_
  exact hR h' tk acc' c' (fun b o hb e => hk b o hb (oth b o hb e)) hS' hacc

theorem items_ints {b : Array UInt8} {acc : Array Value} (h : ItemsOf (fun i v => ∃ x t, b[i]? = some x ∧ v = .int x.toNat t) acc b.size) : IntsAre acc.toList (b.toList.map fun x => (x.toNat : Int)) := by
  have key : ∀ (bl : List UInt8) (al : List Value), al.length = bl.length → (∀ (j : Nat) (v : Value), al[j]? = some v → ∃ (x : UInt8) (t : Tok), bl[j]? = some x ∧ v = Value.int x.toNat t) → IntsAre al (bl.map fun x => (x.toNat : Int)) := by
    intro bl
    induction bl with
    | nil => intro al hl _; rw [List.length_nil] at hl; rw [List.eq_nil_of_length_eq_zero hl]; exact .nil
    | cons x r ih =>
      intro al hl hp
      cases al with
      | nil => simp at hl
      | cons v al =>
        obtain ⟨y, t, hy, rfl⟩ := hp 0 v rfl
        simp only [List.getElem?_cons_zero, Option.some.injEq] at hy
        subst hy
        exact .cons _ _ (ih al (by simpa using hl) fun j v hj => by simpa using hp (j + 1) v (by simpa using hj))
  refine key b.toList acc.toList (by simpa using h.1) fun j v hj => ?_
  have := h.2 j v (by simpa using hj)
  simpa using this

/-- list(b) of a bytearray -/
theorem ba_list {Q : Value → Shared → Prop} {c : Addr} {b : Array UInt8} (hh : A.handled = none) (hc : s.heap.get? c = some (baObj b)) (hlen : b.size ≤ sizeLine)
    (hQ : ∀ h' tk (vs : List Value) c', (∀ b o, s.heap.get? b = some o → h'.get? b = some o) →
      h'.get? s.heap.objs.size = some { cls := .type "list", dict := none, data := .seq vs.toArray c', slots := #[] } → IntsAre vs (b.toList.map fun x => (x.toNat : Int)) → Q (.ref s.heap.objs.size) { s with heap := h', toks := tk }) :
    wpAny (model prog w) A (call (.type "list") [.ref c]) Q E s := by
  refine callType_codes (Q₁ := fun obj s₁ => obj = .ref s.heap.objs.size ∧ s₁ = { s with heap := s.heap.push { cls := .type "list", data := .seq #[] } }) F.called_list (F.typeCall_list_1 _) F.entry_list_init
    (code_list_new _ ⟨rfl, rfl⟩) fun obj s₁ h₁ => ?_
  obtain ⟨rfl, rfl⟩ := h₁
  have hS : (s.heap.push { cls := .type "list", data := .seq #[] }).get? s.heap.objs.size = some { cls := .type "list", data := .seq #[] } := Heap.get?_push_size _ rfl
  refine ⟨⟨_, hS, rfl⟩, F.args_list_init_2 _ _, ba_list_init (A := A.in1) hh (Heap.get?_push_of_some _ hc) hlen _ hS fun h' tk acc' c' hk hS' hacc => ?_⟩
  exact ⟨rfl, hQ h' tk acc'.toList c' (fun b o e => hk b o (Nat.ne_of_lt (Heap.lt_size e)) (Heap.get?_push_of_some _ e)) hS' (items_ints hacc)⟩
end
end Mine
end

/-! part FR -/
section
open PySem PySem.W PyProof.Rows
namespace Mine

abbrev Vars := List (Str × Value)
abbrev Objs := List (Addr × Obj)

/-- a function's frame: its variables (locals and cells) as far as they are told, the objects of its own that it may still change,
and all that stood in h₀ kept -/
structure Frm (env : Env) (h₀ h : Heap) (l : Vars) (os : Objs) : Prop where
  kind : env.scope.kind = .function
  ns : ∃ m, h.Ns env.locals m ∧ ∀ p ∈ l, env.kindOf p.1 = some .local → m p.1 = some p.2
  look : ∀ n c, (n, c) ∈ env.cells → env.cells.lookup n = some c
  cell : ∀ x c, env.cells.lookup x = some c → ∃ v, h.IsCell c v ∧ ∀ p ∈ l, p.1 = x → env.kindOf x = some .cell → v = some p.2
  apart : env.cells.Pairwise fun x y => x.2 ≠ y.2
  above : ∀ n c, (n, c) ∈ env.cells → env.locals < c
  keep : ∀ b o, h₀.get? b = some o → h.get? b = some o
  freshL : h₀.get? env.locals = none
  freshC : ∀ n c, (n, c) ∈ env.cells → h₀.get? c = none
  own : ∀ p ∈ os, h.get? p.1 = some p.2 ∧ h₀.get? p.1 = none ∧ p.1 ≠ env.locals ∧ ∀ n c, (n, c) ∈ env.cells → p.1 ≠ c
  nodup : os.Pairwise fun x y => x.1 ≠ y.1

namespace Frm
variable {env : Env} {h₀ h₁ h h' : Heap} {l l' : Vars} {os os' : Objs}

theorem subV (F : Frm env h₀ h l os) (hs : ∀ p ∈ l', p ∈ l) : Frm env h₀ h l' os :=
  { F with
    ns := let ⟨m, a, b⟩ := F.ns; ⟨m, a, fun p hp => b p (hs p hp)⟩
    cell := fun x c e => let ⟨v, a, b⟩ := F.cell x c e; ⟨v, a, fun p hp => b p (hs p hp)⟩ }
theorem subO (F : Frm env h₀ h l os) (hs : os'.Sublist os) : Frm env h₀ h l os' :=
  { F with own := fun p hp => F.own p (hs.subset hp), nodup := F.nodup.sublist hs }

theorem keeps (F : Frm env h₀ h l os) (hk : ∀ b o, h.get? b = some o → h'.get? b = some o) : Frm env h₀ h' l os :=
  { F with
    ns := let ⟨m, a, b⟩ := F.ns; ⟨m, a.keeps hk, b⟩
    cell := fun x c e => let ⟨v, a, b⟩ := F.cell x c e; ⟨v, a.keeps hk, b⟩
    keep := fun b o e => hk b o (F.keep b o e)
    own := fun p hp => ⟨hk _ _ (F.own p hp).1, (F.own p hp).2⟩ }

theorem push (F : Frm env h₀ h l os) (o : Obj) (hf : o.isFreed = false := by rfl) : Frm env h₀ (h.push o) l ((h.objs.size, o) :: os) := by
  have F' := F.keeps (h' := h.push o) fun b o' e => Heap.get?_push_of_some _ e
  refine { F' with own := fun p hp => ?_, nodup := ?_ }
  · rcases List.mem_cons.mp hp with rfl | hp
    · refine ⟨Heap.get?_push_size _ hf, ?_, ?_, fun n c hc => ?_⟩
      · cases hq : h₀.get? h.objs.size with
        | none => rfl
        | some o' => exact absurd (Heap.lt_size (F.keep _ _ hq)) (Nat.lt_irrefl _)
      · obtain ⟨m, hn, _⟩ := F.ns
        exact Nat.ne_of_gt hn.lt
      · obtain ⟨v, hv, _⟩ := F.cell n c (F.look n c hc)
        exact Nat.ne_of_gt hv.lt
    · exact F'.own p hp
  · exact List.pairwise_cons.mpr ⟨fun q hq => Nat.ne_of_gt (Heap.lt_size (F.own q hq).1), F.nodup⟩

/-- a made object of a callee's joins -/
theorem new {a : Addr} {o : Obj} (F : Frm env h₀ h l os) (hk : ∀ b o, h.get? b = some o → h'.get? b = some o) (ha : h.get? a = none) (ho : h'.get? a = some o) : Frm env h₀ h' l ((a, o) :: os) := by
  have F' := F.keeps hk
  refine { F' with own := fun p hp => ?_, nodup := ?_ }
  · rcases List.mem_cons.mp hp with rfl | hp
    · refine ⟨ho, ?_, ?_, fun n c hc => ?_⟩
      · cases hq : h₀.get? a with
        | none => rfl
        | some o' => rw [F.keep _ _ hq] at ha; cases ha
      · rintro e
        obtain ⟨m, ⟨o', _, _, e', _⟩, _⟩ := F.ns
        dsimp only at e
        rw [e, e'] at ha; cases ha
      · rintro e
        obtain ⟨v, ⟨o', e', _⟩, _⟩ := F.cell n c (F.look n c hc)
        dsimp only at e
        rw [e, e'] at ha; cases ha
    · exact F'.own p hp
  · refine List.pairwise_cons.mpr ⟨fun q hq e => ?_, F.nodup⟩
    have := (F.own q hq).1
    dsimp only at e
    rw [← e, ha] at this; cases this

/-- what is not of the frame's own -/
def Off (env : Env) (os : Objs) (b : Addr) : Prop := b ≠ env.locals ∧ (∀ n c, (n, c) ∈ env.cells → b ≠ c) ∧ ∀ p ∈ os, b ≠ p.1
theorem off (F : Frm env h₀ h l os) {b : Addr} {o : Obj} (hb : h₀.get? b = some o) : Off env os b := by
  refine ⟨?_, fun n c hc => ?_, fun p hp => ?_⟩
  · rintro rfl; rw [F.freshL] at hb; cases hb
  · rintro rfl; rw [F.freshC n b hc] at hb; cases hb
  · rintro rfl; rw [(F.own p hp).2.1] at hb; cases hb

/-- a change of what is not its own -/
theorem others (F : Frm env h₀ h l os) (hk : ∀ b o, ¬ Off env os b → h.get? b = some o → h'.get? b = some o) (h0 : ∀ b o, h₁.get? b = some o → h'.get? b = some o) (h1 : ∀ b o, h₁.get? b = some o → Off env os b) : Frm env h₁ h' l os := by
  have nL : ¬ Off env os env.locals := fun x => x.1 rfl
  have nC : ∀ n c, (n, c) ∈ env.cells → ¬ Off env os c := fun n c hc x => x.2.1 n c hc rfl
  have nO : ∀ p ∈ os, ¬ Off env os p.1 := fun p hp x => x.2.2 p hp rfl
  refine { kind := F.kind, ns := ?_, look := F.look, cell := fun x c e => ?_, apart := F.apart, above := F.above, keep := h0, freshL := ?_, freshC := fun n c hc => ?_, own := fun p hp => ⟨hk _ _ (nO p hp) (F.own p hp).1, ?_, (F.own p hp).2.2⟩, nodup := F.nodup }
  · obtain ⟨m, ⟨o, es, ep, ho, r⟩, b⟩ := F.ns
    exact ⟨m, ⟨o, es, ep, hk _ _ nL ho, r⟩, b⟩
  · obtain ⟨v, ⟨o, ho, hd⟩, b⟩ := F.cell x c e
    exact ⟨v, ⟨o, hk _ _ (nC x c (mem_of_lookup e)) ho, hd⟩, b⟩
  · cases hq : h₁.get? env.locals with
    | none => rfl
    | some o => exact absurd (h1 _ _ hq) nL
  · cases hq : h₁.get? c with
    | none => rfl
    | some o => exact absurd (h1 _ _ hq) (nC n c hc)
  · cases hq : h₁.get? p.1 with
    | none => rfl
    | some o => exact absurd (h1 _ _ hq) (nO p hp)

/-- everything that is not of its own moves into the base -/
theorem rebase (F : Frm env h₀ h l os) : ∃ h₁, Frm env h₁ h l os ∧ (∀ b o, h₀.get? b = some o → h₁.get? b = some o) ∧ ∀ b o, h.get? b = some o → Off env os b → h₁.get? b = some o := by
  let own := env.locals :: env.cells.map (·.2) ++ os.map (·.1)
  have key : ∀ b, b ∈ own ↔ ¬ Off env os b := by
    intro b
    constructor
    · intro hb x
      rcases List.mem_append.mp hb with hb | hb
      · rcases List.mem_cons.mp hb with hb | hb
        · exact x.1 hb
        · obtain ⟨⟨n, c⟩, hm, e⟩ := List.mem_map.mp hb
          exact x.2.1 n c hm e.symm
      · obtain ⟨p, hm, e⟩ := List.mem_map.mp hb
        exact x.2.2 p hm e.symm
    · intro hb
      refine Classical.byContradiction fun hn => hb ⟨fun e => hn ?_, fun n c hm e => hn ?_, fun p hp e => hn ?_⟩
      · exact List.mem_append.mpr (.inl (List.mem_cons.mpr (.inl e)))
      · exact List.mem_append.mpr (.inl (List.mem_cons.mpr (.inr (List.mem_map.mpr ⟨(n, c), hm, e.symm⟩))))
      · exact List.mem_append.mpr (.inr (List.mem_map.mpr ⟨p, hp, e.symm⟩))
  refine ⟨hideAll h own, F.others (fun _ _ _ e => e) (fun b o e => of_hideAll _ e) (fun b o e => ?_), fun b o e => ?_, fun b o e x => ?_⟩
  · refine Classical.byContradiction fun hn => ?_
    rw [hideAll_none _ ((key b).mpr hn)] at e; cases e
  · exact hideAll_get _ (F.keep b o e) fun hb => (key b).mp hb (F.off e)
  · exact hideAll_get _ e fun hb => (key b).mp hb x
theorem base (F : Frm env h₁ h l os) (hk : ∀ b o, h₀.get? b = some o → h₁.get? b = some o) : Frm env h₀ h l os :=
  F.others (fun _ _ _ e => e) (fun b o e => F.keep b o (hk b o e)) fun b o e => F.off (hk b o e)

/-- an object of its own changes: the first, the second, the third told -/
theorem upd0 {a : Addr} {o o' : Obj} (F : Frm env h₀ h l ((a, o) :: os)) (hs : Heap.SameBut a h h') (ho : h'.get? a = some o') : Frm env h₀ h' l ((a, o') :: os) := by
  obtain ⟨a1, a2, a3, a4⟩ := F.own (a, o) (List.mem_cons_self ..)
  have ne : ∀ p ∈ os, p.1 ≠ a := fun p hp e => (List.pairwise_cons.mp F.nodup).1 p hp e.symm
  refine { kind := F.kind, ns := ?_, look := F.look, cell := fun x c e => ?_, apart := F.apart, above := F.above, keep := fun b o e => ?_, freshL := F.freshL, freshC := F.freshC, own := fun p hp => ?_, nodup := ?_ }
  · obtain ⟨m, hn, b⟩ := F.ns
    exact ⟨m, hn.sameBut hs (Ne.symm a3), b⟩
  · obtain ⟨v, hv, b⟩ := F.cell x c e
    exact ⟨v, hv.sameBut hs (Ne.symm (a4 x c (mem_of_lookup e))), b⟩
  · refine (hs.2 b ?_).trans (F.keep b o e)
    rintro rfl; rw [a2] at e; cases e
  · rcases List.mem_cons.mp hp with rfl | hp
    · exact ⟨ho, a2, a3, a4⟩
    · obtain ⟨b1, b2⟩ := F.own p (List.mem_cons_of_mem _ hp)
      exact ⟨(hs.2 _ (ne p hp)).trans b1, b2⟩
  · exact List.pairwise_cons.mpr ⟨(List.pairwise_cons.mp F.nodup).1, (List.pairwise_cons.mp F.nodup).2⟩
theorem perm (F : Frm env h₀ h l os) (hp : os'.Perm os) : Frm env h₀ h l os' :=
  { F with own := fun p h => F.own p (hp.subset h), nodup := hp.symm.pairwise F.nodup fun {_ _} h => Ne.symm h }
theorem upd1 {a : Addr} {p : Addr × Obj} {o o' : Obj} (F : Frm env h₀ h l (p :: (a, o) :: os)) (hs : Heap.SameBut a h h') (ho : h'.get? a = some o') : Frm env h₀ h' l (p :: (a, o') :: os) :=
  ((F.perm (List.Perm.swap ..)).upd0 hs ho).perm (List.Perm.swap ..)

theorem get (F : Frm env h₀ h l os) {a : Addr} {o : Obj} (hm : (a, o) ∈ os) : h.get? a = some o := (F.own _ hm).1

/-- a local or a cell is stored -/
theorem setL {x : Str} {v : Value} {m : Str → Option Value} (F : Frm env h₀ h l os) (hm : ∀ p ∈ l, env.kindOf p.1 = some .local → m p.1 = some p.2) (hn : h'.Ns env.locals (fun y => if y = x then some v else m y)) (hs : Heap.SameBut env.locals h h') (hl : env.kindOf x = some .local) :
    Frm env h₀ h' ((x, v) :: l.filter (fun p => p.1 != x)) os := by
  refine { kind := F.kind, ns := ⟨_, hn, fun p hp hk => ?_⟩, look := F.look, cell := fun y c e => ?_, apart := F.apart, above := F.above, keep := fun b o e => ?_, freshL := F.freshL, freshC := F.freshC, own := fun p hp => ?_, nodup := F.nodup }
  · rcases List.mem_cons.mp hp with rfl | hp
    · simp
    · obtain ⟨h1, h2⟩ := List.mem_filter.mp hp
      have hne : p.1 ≠ x := by simpa using h2
      rw [if_neg hne]; exact hm p h1 hk
  · obtain ⟨w, hv, b⟩ := F.cell y c e
    refine ⟨w, hv.sameBut hs (Nat.ne_of_gt (F.above y c (mem_of_lookup e))), fun p hp e1 e2 => ?_⟩
    rcases List.mem_cons.mp hp with rfl | hp
    · dsimp only at e1; rw [← e1, hl] at e2; cases e2
    · exact b p (List.mem_filter.mp hp).1 e1 e2
  · refine (hs.2 b ?_).trans (F.keep b o e)
    rintro rfl; rw [F.freshL] at e; cases e
  · obtain ⟨b1, b2, b3, b4⟩ := F.own p hp
    exact ⟨(hs.2 _ b3).trans b1, b2, b3, b4⟩
theorem setC {x : Str} {v : Value} {c : Addr} (F : Frm env h₀ h l os) (hc : env.cells.lookup x = some c) (hv : h'.IsCell c (some v)) (hs : Heap.SameBut c h h') (hl : env.kindOf x = some .cell) :
    Frm env h₀ h' ((x, v) :: l.filter (fun p => p.1 != x)) os := by
  have hmc := mem_of_lookup hc
  refine { kind := F.kind, ns := ?_, look := F.look, cell := fun y c' e => ?_, apart := F.apart, above := F.above, keep := fun b o e => ?_, freshL := F.freshL, freshC := F.freshC, own := fun p hp => ?_, nodup := F.nodup }
  · obtain ⟨m, hn, b⟩ := F.ns
    refine ⟨m, hn.sameBut hs (Nat.ne_of_lt (F.above x c hmc)), fun p hp hk => ?_⟩
    rcases List.mem_cons.mp hp with rfl | hp
    · rw [hl] at hk; cases hk
    · exact b p (List.mem_filter.mp hp).1 hk
  · by_cases hy : y = x
    · subst hy
      rw [hc] at e; cases e
      refine ⟨_, hv, fun p hp e1 _ => ?_⟩
      rcases List.mem_cons.mp hp with rfl | hp
      · rfl
      · have := (List.mem_filter.mp hp).2
        rw [e1] at this; simp at this
    · have hne : c' ≠ c := fun q => hy (name_of_addr F.apart (mem_of_lookup e) (q ▸ hmc))
      obtain ⟨w, hw, b⟩ := F.cell y c' e
      refine ⟨w, hw.sameBut hs hne, fun p hp e1 e2 => ?_⟩
      rcases List.mem_cons.mp hp with rfl | hp
      · exact absurd e1.symm hy
      · exact b p (List.mem_filter.mp hp).1 e1 e2
  · refine (hs.2 b ?_).trans (F.keep b o e)
    rintro rfl; rw [F.freshC x b hmc] at e; cases e
  · obtain ⟨b1, b2, b3, b4⟩ := F.own p hp
    exact ⟨(hs.2 _ (b4 x c hmc)).trans b1, b2, b3, b4⟩
end Frm

section
variable {M : Model} {A : Around} {E : Value → Shared → Prop} {s : Shared} {env : Env} {h₀ : Heap} {l : Vars} {os : Objs} {x : Str} {v : Value}
theorem st_loc {Q : Unit → Shared → Prop} (F : Frm env h₀ s.heap l os) (hl : env.kindOf x = some .local) (h : ∀ h' tk, Frm env h₀ h' ((x, v) :: l.filter (fun p => p.1 != x)) os → Q () { s with heap := h', toks := tk }) :
    wpAny M A (storeName env x v) Q E s := by
  obtain ⟨m, hn, hm⟩ := F.ns
  exact wpAny_storeName_local hl hn (fun h' hn' hs' => h h' _ (F.setL hm hn' hs' hl)) (by rw [F.kind]; rfl)
theorem st_cell {Q : Unit → Shared → Prop} {c : Addr} (F : Frm env h₀ s.heap l os) (hl : env.kindOf x = some .cell) (hc : env.cells.lookup x = some c) (h : ∀ h' tk, Frm env h₀ h' ((x, v) :: l.filter (fun p => p.1 != x)) os → Q () { s with heap := h', toks := tk }) :
    wpAny M A (storeName env x v) Q E s := by
  obtain ⟨w, hw, _⟩ := F.cell x c hc
  exact wpAny_storeName_cell F.kind hl hc hw fun h' hv hs' => h h' s.toks (F.setC hc hv hs' hl)
end
end Mine
end

/-! part EV -/
section
open PySem PySem.W PyProof.Rows
namespace Mine

/-- e has, at the heap h, a value with R; the heap stands -/
def Ev (w : World) (A : Around) (env : Env) (h : Heap) (e : Expr) (R : Value → Prop) : Prop :=
  ∀ (s : Shared) (Q : Value → Shared → Prop) (E : Value → Shared → Prop), s.heap = h → (∀ v tk, R v → Q v { s with toks := tk }) → wpAny (model PT w) A (eval e env) Q E s
/-- the same of a test -/
def EvB (w : World) (A : Around) (env : Env) (h : Heap) (e : Expr) (b : Bool) : Prop :=
  ∀ (s : Shared) (Q : Bool → Shared → Prop) (E : Value → Shared → Prop), s.heap = h → (∀ tk, Q b { s with toks := tk }) → wpAny (model PT w) A (isTrue e env (eval e env)) Q E s
def IsI (n : Int) (v : Value) : Prop := ∃ t, v = .int n t
def IsV (v₀ v : Value) : Prop := v = v₀

section
variable {w : World} {A : Around} {env : Env} {h h₀ : Heap} {l : Vars} {os : Objs}

theorem Ev.use {e : Expr} {R : Value → Prop} {s : Shared} {Q : Value → Shared → Prop} {E : Value → Shared → Prop} (he : Ev w A env s.heap e R) (hq : ∀ v tk, R v → Q v { s with toks := tk }) : wpAny (model PT w) A (eval e env) Q E s := he s Q E rfl hq
theorem Ev.useN {e : Expr} {R : Value → Prop} {s : Shared} {Q : Value → Shared → Prop} (he : Ev w A env s.heap e R) (hq : ∀ v tk, R v → Q v { s with toks := tk }) : wpN w A (eval e env) Q s := wpAny.n (he s Q _ rfl hq)
theorem Ev.eqI {e : Expr} {a b : Int} (he : Ev w A env h e (IsI a)) (hab : a = b) : Ev w A env h e (IsI b) := hab ▸ he

theorem ev_int {i : Int} {k : Nat} {pos : Pos} : Ev w A env h (.Constant (.int i) k pos) (IsI i) := fun s Q E _ hq => wpAny_Constant_int (hq _ _ ⟨_, rfl⟩)
theorem ev_none {k : Nat} {pos : Pos} : Ev w A env h (.Constant .none k pos) (IsV .none) := fun s Q E _ hq => wpAny_Constant_none (hq _ s.toks rfl)
theorem ev_true {b : Bool} {k : Nat} {pos : Pos} : Ev w A env h (.Constant (.bool b) k pos) (IsV (.bool b)) := fun s Q E _ hq => wpAny_Constant_bool (hq _ s.toks rfl)

theorem ev_loc {x : Str} {pos : Pos} {v : Value} (F : Frm env h₀ h l os) (hm : (x, v) ∈ l) (hl : env.kindOf x = some .local) (hd : (x == ("__debug__" : Str)) = false := by decide) : Ev w A env h (.Name x pos) (IsV v) := by
  intro s Q E hs hq
  subst hs
  obtain ⟨m, hn, hmm⟩ := F.ns
  exact wpAny_Name (wpAny_loadName_local F.kind hl hn (hmm _ hm hl) (hq _ s.toks rfl)) hd
theorem ev_cell {x : Str} {pos : Pos} {v : Value} {c : Addr} (F : Frm env h₀ h l os) (hm : (x, v) ∈ l) (hl : env.kindOf x = some .cell) (hc : env.cells.lookup x = some c) (hd : (x == ("__debug__" : Str)) = false := by decide) : Ev w A env h (.Name x pos) (IsV v) := by
  intro s Q E hs hq
  subst hs
  obtain ⟨u, hu, hh⟩ := F.cell x c hc
  rw [hh _ hm rfl hl] at hu
  exact wpAny_Name (wpAny_loadName_cell F.kind hl hc hu (hq _ s.toks rfl)) hd
/-- a name in a comprehension's block -/
theorem ev_ns {x : Str} {pos : Pos} {v : Value} {m : Str → Option Value} (hk : env.scope.kind = .function) (hn : h.Ns env.locals m) (hm : m x = some v) (hl : env.kindOf x = some .local) (hd : (x == ("__debug__" : Str)) = false := by decide) : Ev w A env h (.Name x pos) (IsV v) := by
  intro s Q E hs hq
  subst hs
  exact wpAny_Name (wpAny_loadName_local hk hl hn hm (hq _ s.toks rfl)) hd
theorem ev_isCell {x : Str} {pos : Pos} {v : Value} {c : Addr} (hk : env.scope.kind = .function) (hv : h.IsCell c (some v)) (hl : env.kindOf x = some .cell) (hc : env.cells.lookup x = some c) (hd : (x == ("__debug__" : Str)) = false := by decide) : Ev w A env h (.Name x pos) (IsV v) := by
  intro s Q E hs hq
  subst hs
  exact wpAny_Name (wpAny_loadName_cell hk hl hc hv (hq _ s.toks rfl)) hd
theorem ev_glob {x : Str} {pos : Pos} {v : Value} {mg : Str → Option Value} (hk : env.scope.kind = .function) (hg : h.Ns env.globals mg) (hv : mg x = some v) (hl : env.kindOf x = some .globalImplicit) (hd : (x == ("__debug__" : Str)) = false := by decide) : Ev w A env h (.Name x pos) (IsV v) := by
  intro s Q E hs hq
  subst hs
  exact Calls.Name_function_global hk hl (Calls.loadGlobal_global hg hv (hq _ s.toks rfl)) hd
theorem ev_blt {x : Str} {pos : Pos} {v : Value} {mg mb : Str → Option Value} (hk : env.scope.kind = .function) (hg : h.Ns env.globals mg) (hn : mg x = none) (hb : h.Ns env.builtins mb) (hv : mb x = some v) (hl : env.kindOf x = some .globalImplicit) (hd : (x == ("__debug__" : Str)) = false := by decide) : Ev w A env h (.Name x pos) (IsV v) := by
  intro s Q E hs hq
  subst hs
  exact Calls.Name_function_global hk hl (Calls.loadGlobal_builtin hg hn hb hv (hq _ s.toks rfl)) hd
theorem Ev.toI {e : Expr} {v : Value} {n : Int} (he : Ev w A env h e (IsV v)) (hv : IsI n v) : Ev w A env h e (IsI n) := fun s Q E hs hq => he s Q E hs fun u tk hu => hq u tk (by cases hu; exact hv)

theorem ev_bin {e f : Expr} {op : Operator} {pos : Pos} {a b c : Int} (he : Ev w A env h e (IsI a)) (hf : Ev w A env h f (IsI b))
    (hop : ∀ (t u : Tok) (s : Shared) (Q : Value → Shared → Prop) (E : Value → Shared → Prop), Q (.int c s.toks) { s with toks := s.toks + 1 } → wpAny (model PT w) A (binaryOp op (.int a t) (.int b u)) Q E s) :
    Ev w A env h (.BinOp e op f pos) (IsI c) := by
  intro s Q E hs hq
  refine wpAny_BinOp (he s _ E hs fun v tk hv => ?_)
  obtain ⟨t, rfl⟩ := hv
  refine hf _ _ E hs fun v tk hv => ?_
  obtain ⟨u, rfl⟩ := hv
  exact hop t u _ Q E (hq _ _ ⟨_, rfl⟩)
theorem ev_add {e f : Expr} {pos : Pos} {a b : Int} (he : Ev w A env h e (IsI a)) (hf : Ev w A env h f (IsI b)) : Ev w A env h (.BinOp e .Add f pos) (IsI (a + b)) := ev_bin he hf fun _ _ _ _ _ hq => add_int hq
theorem ev_sub {e f : Expr} {pos : Pos} {a b : Int} (he : Ev w A env h e (IsI a)) (hf : Ev w A env h f (IsI b)) : Ev w A env h (.BinOp e .Sub f pos) (IsI (a - b)) := ev_bin he hf fun _ _ _ _ _ hq => PyProof.Rows.sub_int' hq
theorem ev_mul {e f : Expr} {pos : Pos} {a b : Int} (he : Ev w A env h e (IsI a)) (hf : Ev w A env h f (IsI b)) (hm : IntMulOk a b) : Ev w A env h (.BinOp e .Mult f pos) (IsI (a * b)) := ev_bin he hf fun _ _ _ _ _ hq => mul_int hq hm
theorem ev_mod {e f : Expr} {pos : Pos} {a b : Int} (he : Ev w A env h e (IsI a)) (hf : Ev w A env h f (IsI b)) (hb : b ≠ 0) : Ev w A env h (.BinOp e .Mod f pos) (IsI (a.fmod b)) := ev_bin he hf fun _ _ _ _ _ hq => PyProof.Rows.mod_int' hb hq
theorem ev_xor {e f : Expr} {pos : Pos} {a b : Int} (he : Ev w A env h e (IsI a)) (hf : Ev w A env h f (IsI b)) : Ev w A env h (.BinOp e .BitXor f pos) (IsI (Builtin.bitXor a b)) := ev_bin he hf fun _ _ _ _ _ hq => xor_int hq
theorem ev_pow {e f : Expr} {pos : Pos} {a b : Int} (he : Ev w A env h e (IsI a)) (hf : Ev w A env h f (IsI b)) (h0 : 0 ≤ b) (h1 : b ≤ 1000000) (ha : a.natAbs < 2 ^ 64) : Ev w A env h (.BinOp e .Pow f pos) (IsI (a ^ b.toNat)) := ev_bin he hf fun _ _ _ _ _ hq => pow_int_small h0 h1 ha hq
theorem ev_fdiv {e f : Expr} {pos : Pos} {a b : Int} (he : Ev w A env h e (IsI a)) (hf : Ev w A env h f (IsI b)) (hb : b ≠ 0) (hp : Builtin.divisionGoesByPylong a b = false) : Ev w A env h (.BinOp e .FloorDiv f pos) (IsI (a.fdiv b)) :=
  ev_bin he hf fun _ _ _ _ _ hq => floordiv_int hb hq (.inl hp)
theorem ev_neg {e : Expr} {pos : Pos} {a : Int} (he : Ev w A env h e (IsI a)) : Ev w A env h (.UnaryOp .USub e pos) (IsI (-a)) := by
  intro s Q E hs hq
  refine wpAny_UnaryOp (he s _ E hs fun v tk hv => ?_)
  obtain ⟨t, rfl⟩ := hv
  exact neg_int (hq _ _ ⟨_, rfl⟩)

theorem ev_idxL {e f : Expr} {pos : Pos} {a : Addr} {vs : List Value} {ns : List Int} {k : Int} {n : Int} (he : Ev w A env h e (IsV (.ref a))) (hf : Ev w A env h f (IsI k)) (hl : h.IsList a vs.toArray) (hi : IntsAre vs ns)
    (h0 : 0 ≤ k) (hx : ns[k.toNat]? = some n) (hfit : k < 2 ^ 63) (hsl : ∀ o i, subscripted f false o i = operate [o, i] (getItem o i) := by intro _ _; with_unfolding_all rfl) : Ev w A env h (.Subscript e f pos) (IsI n) := by
  intro s Q E hs hq
  refine Subscript_ (he s _ E hs fun v tk hv => ?_)
  cases hv
  refine hf _ _ E hs fun v tk hv => ?_
  obtain ⟨u, rfl⟩ := hv
  subst hs
  obtain ⟨t, hv⟩ := hi.get k.toNat n hx
  exact tail_any (s := { s with toks := tk }) (T := "list") (Heap.IsList.typeIs (s := { s with toks := tk }) hl) slot_list_getitem.lookup (wpAny_getItem_list (s := { s with toks := tk }) hl h0 hfit (by simpa using hv) (hq _ _ ⟨_, rfl⟩)) (hsl _ _)
theorem ev_idxB {e f : Expr} {pos : Pos} {a : Addr} {b : Array UInt8} {k : Int} {x : UInt8} (he : Ev w A env h e (IsV (.ref a))) (hf : Ev w A env h f (IsI k)) (hl : h.get? a = some (baObj b))
    (h0 : 0 ≤ k) (hx : b[k.toNat]? = some x) (hfit : k < 2 ^ 63) (hsl : ∀ o i, subscripted f false o i = operate [o, i] (getItem o i) := by intro _ _; with_unfolding_all rfl) : Ev w A env h (.Subscript e f pos) (IsI x.toNat) := by
  intro s Q E hs hq
  refine Subscript_ (he s _ E hs fun v tk hv => ?_)
  cases hv
  refine hf _ _ E hs fun v tk hv => ?_
  obtain ⟨u, rfl⟩ := hv
  subst hs
  exact tail_any (s := { s with toks := tk }) (T := "bytearray") ⟨_, hl, rfl⟩ slot_ba_getitem.lookup (ba_getItem (s := { s with toks := tk }) hl h0 hfit hx (hq _ _ ⟨_, rfl⟩)) (hsl _ _)

theorem ev_lenB {e : Expr} {x : Str} {p pos : Pos} {a : Addr} {b : Array UInt8} (hfn : Ev w A env h (.Name x p) (IsV (.builtin "len"))) (he : Ev w A env h e (IsV (.ref a))) (hl : h.get? a = some (baObj b)) (hsz : b.size ≤ sizeLine)
    (hs : starEach [e] env = [(false, eval e env)] := by rfl) : Ev w A env h (.Call (.Name x p) [e] [] pos) (IsI b.size) := by
  intro s Q E hh hq
  refine Call_Name1 (hfn s _ E hh fun v tk hv => ?_) hs
  cases hv
  refine PySem.callWith_builtin1 (he _ _ E hh fun v tk hv => ?_)
  cases hv
  subst hh
  exact ba_len (s := { s with toks := tk }) hl hsz fun t tk => hq _ _ ⟨_, rfl⟩
theorem ev_lenL {e : Expr} {x : Str} {p pos : Pos} {a : Addr} {vs : Array Value} (hfn : Ev w A env h (.Name x p) (IsV (.builtin "len"))) (he : Ev w A env h e (IsV (.ref a))) (hl : h.IsList a vs) (hsz : vs.size ≤ sizeLine)
    (hs : starEach [e] env = [(false, eval e env)] := by rfl) : Ev w A env h (.Call (.Name x p) [e] [] pos) (IsI vs.size) := by
  intro s Q E hh hq
  refine Call_Name1 (hfn s _ E hh fun v tk hv => ?_) hs
  cases hv
  refine PySem.callWith_builtin1 (he _ _ E hh fun v tk hv => ?_)
  cases hv
  subst hh
  rw [sizeLine_eq] at hsz
  exact len_list (s := { s with toks := tk }) hl (by omega) (hq _ _ ⟨_, rfl⟩)

theorem evB_cmp {e f : Expr} {op : CmpOp} {pos : Pos} {a b : Int} {c : Bool} (he : Ev w A env h e (IsI a)) (hf : Ev w A env h f (IsI b))
    (hop : ∀ (t u : Tok) (s : Shared) (Q : Value → Shared → Prop) (E : Value → Shared → Prop), Q (.bool c) s → wpAny (model PT w) A (compareOp op (.int a t) (.int b u)) Q E s)
    (hm : behindInMarks op f = false := by with_unfolding_all rfl) : EvB w A env h (.Compare e [op] [f] pos) c := by
  intro s Q E hs hq
  refine wpAny_isTrue_Compare1 (he s _ E hs fun v tk hv => ?_) hm
  obtain ⟨t, rfl⟩ := hv
  refine hf _ _ E hs fun v tk hv => ?_
  obtain ⟨u, rfl⟩ := hv
  exact hop t u _ _ E (wpAny_truthy_bool (hq _))
theorem evB_ne {e f : Expr} {pos : Pos} {a b : Int} (he : Ev w A env h e (IsI a)) (hf : Ev w A env h f (IsI b)) (hm : behindInMarks .NotEq f = false := by with_unfolding_all rfl) : EvB w A env h (.Compare e [.NotEq] [f] pos) (a != b) := evB_cmp he hf (fun _ _ _ _ _ hq => ne_int hq) hm
theorem evB_eq {e f : Expr} {pos : Pos} {a b : Int} (he : Ev w A env h e (IsI a)) (hf : Ev w A env h f (IsI b)) (hm : behindInMarks .Eq f = false := by with_unfolding_all rfl) : EvB w A env h (.Compare e [.Eq] [f] pos) (a == b) := evB_cmp he hf (fun _ _ _ _ _ hq => eq_int hq) hm
theorem evB_lt {e f : Expr} {pos : Pos} {a b : Int} (he : Ev w A env h e (IsI a)) (hf : Ev w A env h f (IsI b)) (hm : behindInMarks .Lt f = false := by with_unfolding_all rfl) : EvB w A env h (.Compare e [.Lt] [f] pos) (decide (a < b)) := evB_cmp he hf (fun _ _ _ _ _ hq => lt_int hq) hm
theorem evB_gt {e f : Expr} {pos : Pos} {a b : Int} (he : Ev w A env h e (IsI a)) (hf : Ev w A env h f (IsI b)) (hm : behindInMarks .Gt f = false := by with_unfolding_all rfl) : EvB w A env h (.Compare e [.Gt] [f] pos) (decide (b < a)) := evB_cmp he hf (fun _ _ _ _ _ hq => gt_int hq) hm

theorem ev_ifexp {t e f : Expr} {pos : Pos} {b : Bool} {n : Int} (ht : EvB w A env h t b) (he : b = true → Ev w A env h e (IsI n)) (hf : b = false → Ev w A env h f (IsI n)) : Ev w A env h (.IfExp t e f pos) (IsI n) := by
  intro s Q E hs hq
  refine wpAny_IfExp (ht s _ E hs fun tk => ?_)
  cases b with
  | true => exact he rfl _ _ E hs hq
  | false => exact hf rfl _ _ E hs hq
end
end Mine
end

/-! part SN -/
section
open PySem PySem.W PyProof.Rows
namespace Mine
section
variable {w : World} {A : Around} {env : Env} {s : Shared}

theorem execsN_nil {Q : Flow → Shared → Prop} (h : Q .next s) : wpN w A (execs [] env) Q s := fun _ _ _ _ _ => h
/-- a statement that goes on -/
theorem execsN_cons {st : Stmt} {rest : List Stmt} {Q : Flow → Shared → Prop} (h : wpN w A (exec st env) (fun f s' => f = .next ∧ wpN w A (execs rest env) Q s') s) : wpN w A (execs (st :: rest) env) Q s := by
  rw [execs_cons]
  refine wpN_bind (wpN_mono h fun f s' hf => ?_)
  obtain ⟨rfl, hf⟩ := hf
  exact hf
/-- a statement that may leave -/
theorem execsN_cons' {st : Stmt} {rest : List Stmt} {Q : Flow → Shared → Prop} (h : wpN w A (exec st env) (fun f s' => match f with | .next => wpN w A (execs rest env) Q s' | f => Q f s') s) : wpN w A (execs (st :: rest) env) Q s := by
  rw [execs_cons]
  refine wpN_bind (wpN_mono h fun f s' hf => ?_)
  cases f <;> first | exact hf | exact wpN_pure hf
theorem assignN {x : Str} {value : Expr} {pos pos' : Pos} {Q : Flow → Shared → Prop} (h : wpN w A (eval value env) (fun v s₁ => wpN w A (storeName env x v) (fun _ => Q .next) s₁) s)
    (hs : swapsWith value (some (.Name x pos')) pos.line env = pure false := by rfl) : wpN w A (exec (.Assign [.Name x pos'] value pos) env) Q s := by
  rw [exec_Assign_Name env x pos' value pos hs]
  refine wpN_bind (wpN_standAt (wpN_bind (wpN_mono h fun v s₁ h₁ => wpN_bind (wpN_standAt (wpN_bind ?_)))))
  intro Γ p hΓ h1 h2
  rw [Sem.wp_bindName]
  refine Sem.wp_mono _ Γ _ ?_ (fun _ _ _ f => f) _ _ (h₁ Γ p hΓ h1 h2)
  intro _ p' s' hq
  exact wpN_pure (a := Flow.next) hq
theorem ifN {test : Expr} {body orelse : List Stmt} {pos : Pos} {Q : Flow → Shared → Prop} (h : wpN w A (isTrue test env (eval test env)) (fun b s₂ => if b then wpN w A (execs body env) Q s₂ else wpN w A (execs orelse env) Q s₂) s) :
    wpN w A (exec (.If test body orelse pos) env) Q s := by
  rw [exec_If]
  refine wpN_bind (wpN_standAt (wpN_bind (wpN_mono h fun b s₂ h₂ => ?_)))
  cases b <;> exact h₂
theorem returnN {e : Expr} {pos : Pos} {Q : Flow → Shared → Prop} (h : wpN w A (eval e env) (fun v => Q (.ret v)) s) : wpN w A (exec (.Return (some e) pos) env) Q s := by
  rw [exec_Return_some]
  exact wpN_bind (wpN_standAt (wpN_bind (wpN_mono h fun v s₁ h₁ => wpN_pure h₁)))
theorem operateN {α : Type} {vs : List Value} {m : Sem Value} {Q : Value → Shared → Prop} (h : wpN w A m Q s) : wpN w A (operate vs m) Q s := fun Γ p hΓ h1 h2 => by
  rw [Sem.wp_operate]; exact h Γ p hΓ h1 h2
theorem binN {e f : Expr} {op : Operator} {pos : Pos} {Q : Value → Shared → Prop} (h : wpN w A (eval e env) (fun a s₁ => wpN w A (eval f env) (fun b s₂ => wpN w A (binaryOp op a b) Q s₂) s₁) s) : wpN w A (eval (.BinOp e op f pos) env) Q s := by
  rw [eval_BinOp]
  exact wpN_bind (wpN_mono h fun a s₁ h₁ => wpN_bind (wpN_holding (wpN_mono h₁ fun b s₂ h₂ => wpN_bind (wpN_standAt (operateN (α := Unit) h₂)))))
theorem cmpTestN {e f : Expr} {op : CmpOp} {pos : Pos} {whole : Sem Value} {Q : Bool → Shared → Prop} (h : wpN w A (eval e env) (fun a s₁ => wpN w A (eval f env) (fun b s₂ => wpN w A (compareOp op a b) (fun c s₃ => wpN w A (truthy c) Q s₃) s₂) s₁) s)
    (hm : behindInMarks op f = false := by with_unfolding_all rfl) : wpN w A (isTrue (.Compare e [op] [f] pos) env whole) Q s := by
  rw [isTrue_Compare1, markedBehindIn_of_false hm]
  exact wpN_bind (wpN_mono h fun a s₁ h₁ => wpN_bind (wpN_holding (wpN_mono h₁ fun b s₂ h₂ => wpN_bind (wpN_standAt (wpN_bind (wpN_mono (operateN (α := Unit) h₂) fun c s₃ h₃ => wpN_holding h₃))))))

theorem splicedN_nil {Q : List Value → Shared → Prop} (h : Q [] s) : wpN w A (spliced []) Q s := wpN_pure h
theorem splicedN_cons {x : Sem Value} {rest : List (Bool × Sem Value)} {Q : List Value → Shared → Prop} (h : wpN w A x (fun v s₁ => wpN w A (spliced rest) (fun vs s₂ => Q (v :: vs) s₂) s₁) s) : wpN w A (spliced ((false, x) :: rest)) Q s := by
  rw [spliced]
  refine wpN_bind (wpN_mono h fun v s₁ h₁ => ?_)
  simp only [Bool.false_eq_true, if_false]
  exact wpN_bind (wpN_pure (wpN_bind (wpN_holding (wpN_mono h₁ fun vs s₂ h₂ => wpN_pure h₂))))
theorem evalArgsN {f : Value} {x : Sem Value} {rest : List (Bool × Sem Value)} {Q : Args → Shared → Prop} (h : wpN w A (spliced ((false, x) :: rest)) (fun vs s' => Q ⟨vs, []⟩ s') s) : wpN w A (evalArgs f true ((false, x) :: rest) []) Q s := by
  unfold evalArgs
  show wpN w A (spliced ((false, x) :: rest) >>= _) Q s
  refine wpN_bind (wpN_mono h fun vs s' h' => ?_)
  refine wpN_holding ?_
  exact wpN_bind (wpN_pure (wpN_bind (wpN_pure (wpN_pure h'))))
theorem tailN {t : Sem Value} {Q : Value → Shared → Prop} (ht : wpN w A t Q s) : wpN w A (t >>= fun r => holding [r] point >>= fun _ => pure r) Q s :=
  wpN_bind (wpN_mono ht fun r s₂ hr => wpN_bind (wpN_holding (wpN_point (wpN_pure hr))))
theorem callWithN_type {pos : Pos} {T : String} {x : Sem Value} {rest : List (Bool × Sem Value)} {Q : Value → Shared → Prop} (hp : rest.any (·.1) = false)
    (h : wpN w A (spliced ((false, x) :: rest)) (fun vs s₁ => wpN w A (call (.type T) vs) Q s₁) s) : wpN w A (callWith pos (.type T) [] ((false, x) :: rest) []) Q s := by
  unfold callWith
  refine wpN_bind (wpN_holding (evalArgsN (wpN_mono h fun a s₁ h₁ => wpN_bind (wpN_standAt ?_))))
  simp only [List.any_cons, hp, List.any_nil, Bool.or_false]
  refine wpN_bind (wpN_pure ?_)
  exact tailN h₁
theorem callWithN_fn {pos : Pos} {a : Addr} {fd : FuncData} {x : Sem Value} {rest : List (Bool × Sem Value)} {Q : Value → Shared → Prop} (hp : rest.any (·.1) = false)
    (h : wpN w A (spliced ((false, x) :: rest)) (fun vs s₁ => (∃ o, s₁.heap.get? a = some o ∧ o.data = .func fd) ∧ wpN w A (call (.ref a) vs) Q s₁) s) : wpN w A (callWith pos (.ref a) [] ((false, x) :: rest) []) Q s := by
  unfold callWith
  refine wpN_bind (wpN_holding (evalArgsN (wpN_mono h fun vs s₁ h₁ => wpN_bind (wpN_standAt ?_))))
  obtain ⟨⟨o, ho, hd⟩, h₁⟩ := h₁
  simp only [List.any_cons, hp, List.any_nil, Bool.or_false]
  refine wpN_bind ?_
  unfold keeperOf
  refine wpN_bind (wpAny.n (wpAny_load ho ?_))
  rw [hd]
  refine wpN_pure ?_
  dsimp only
  split
  · exact tailN h₁
  · exact tailN (by unfold callMarked; exact wpN_keep h₁)
theorem callWithN_fn0 {pos : Pos} {a : Addr} {fd : FuncData} {Q : Value → Shared → Prop} {o : Obj} (ho : s.heap.get? a = some o) (hd : o.data = .func fd)
    (h : wpN w A (call (.ref a) []) Q s) : wpN w A (callWith pos (.ref a) [] [] []) Q s := by
  unfold callWith
  refine wpN_bind (wpN_holding ?_)
  unfold evalArgs
  refine wpN_bind (wpN_pure (wpN_bind (wpN_pure ?_)))
  refine wpN_holding ?_
  refine wpN_bind (wpN_pure (wpN_bind (wpN_pure (wpN_pure ?_))))
  refine wpN_bind (wpN_standAt ?_)
  refine wpN_bind ?_
  unfold keeperOf
  refine wpN_bind (wpAny.n (wpAny_load ho ?_))
  rw [hd]
  refine wpN_pure ?_
  show wpN w A (if ([] : List (Bool × Sem Value)).length + 2 * ([] : List (Option Str × Sem Value)).length > 30 then _ else _) Q s
  rw [if_neg (by decide)]
  exact tailN (by unfold callMarked; exact wpN_keep h)
theorem evalN_Call {x : Str} {p pos : Pos} {args : List Expr} {trees : List (Bool × Sem Value)} {Q : Value → Shared → Prop} (ht : backTo pos (starEach args env) = trees)
    (h : wpN w A (eval (.Name x p) env) (fun f s₁ => wpN w A (callWith pos f [] trees []) Q s₁) s) : wpN w A (eval (.Call (.Name x p) args [] pos) env) Q s := by
  subst ht
  exact wpN_bind h

/-- the frame of a call of a def -/
theorem codeN_func {body : List Stmt} {R : Flow → Shared → Prop}
    (h : wpN w (A.deeper env) (execs body env) (fun f s' => R (.ret (match f with | .ret v => v | _ => .none)) s') s) : codeN w A (.func body env) R s := by
  refine codeN_of_tree rfl ?_
  show wpN _ (A.deeper env) (do point; match ← (execs body env).onRaise (leaving env) with | .ret v => ret v | _ => ret .none) _ s
  refine wpN_bind (wpN_point (wpN_bind (wpN_onRaise (wpN_mono h fun f s' h' => ?_))))
  cases f <;> exact wpN_pure h'

theorem lookup_of_nodup {α : Type} : ∀ {l : List (Str × α)}, (l.map (·.1)).Nodup → ∀ n c, (n, c) ∈ l → l.lookup n = some c
  | [], _, _, _, hm => nomatch hm
  | (k, v) :: r, hn, n, c, hm => by
    obtain ⟨h1, h2⟩ := List.nodup_cons.mp hn
    rcases List.mem_cons.mp hm with e | hm'
    · cases e; simp
    · have hne : n ≠ k := fun e => h1 (List.mem_map.mpr ⟨(n, c), hm', e⟩)
      rw [List.lookup_cons, beq_eq_false_iff_ne.mpr hne]
      exact lookup_of_nodup h2 n c hm'
theorem cellsFrom_names : ∀ (names : List (Str × NameKind)) (n m : Nat) (a b : List (Str × Addr)), a.map (·.1) = b.map (·.1) → (cellsFrom n names a).map (·.1) = (cellsFrom m names b).map (·.1)
  | [], _, _, _, _, h => h
  | (x, k) :: r, n, m, a, b, h => by
    unfold cellsFrom
    split
    · exact cellsFrom_names r (n + 1) (m + 1) _ _ (by simp [h])
    · exact cellsFrom_names r n m a b h

theorem bindL_old (kf : Str → Option NameKind) : ∀ (bs : Vars) (m : Str → Option Value) (x : Str), x ∉ bs.map (·.1) → bindL kf bs m x = m x
  | [], _, _, _ => rfl
  | (n, v) :: r, m, x, hx => by
    rw [bindL, bindL_old kf r _ x fun h => hx (List.mem_cons_of_mem _ h)]
    have hne : x ≠ n := fun e => hx (by rw [e]; exact List.mem_cons_self ..)
    split
    · exact if_neg hne
    · rfl
theorem bindC_old (kf : Str → Option NameKind) : ∀ (bs : Vars) (m : Str → Option Value) (x : Str), x ∉ bs.map (·.1) → bindC kf bs m x = m x
  | [], _, _, _ => rfl
  | (n, v) :: r, m, x, hx => by
    rw [bindC, bindC_old kf r _ x fun h => hx (List.mem_cons_of_mem _ h)]
    have hne : x ≠ n := fun e => hx (by rw [e]; exact List.mem_cons_self ..)
    split
    · rfl
    · exact if_neg hne
theorem bindL_new (kf : Str → Option NameKind) : ∀ (bs : Vars) (m : Str → Option Value), (bs.map (·.1)).Nodup → ∀ p ∈ bs, kf p.1 = some .local → bindL kf bs m p.1 = some p.2
  | [], _, _, _, hp, _ => nomatch hp
  | (n, v) :: r, m, hn, p, hp, hk => by
    obtain ⟨h1, h2⟩ := List.nodup_cons.mp hn
    rcases List.mem_cons.mp hp with rfl | hp
    · dsimp only at hk ⊢
      rw [bindL, bindL_old kf r _ n h1, if_pos hk, if_pos rfl]
    · rw [bindL]; exact bindL_new kf r _ h2 p hp hk
theorem bindC_new (kf : Str → Option NameKind) : ∀ (bs : Vars) (m : Str → Option Value), (bs.map (·.1)).Nodup → ∀ p ∈ bs, kf p.1 = some .cell → bindC kf bs m p.1 = some p.2
  | [], _, _, _, hp, _ => nomatch hp
  | (n, v) :: r, m, hn, p, hp, hk => by
    obtain ⟨h1, h2⟩ := List.nodup_cons.mp hn
    rcases List.mem_cons.mp hp with rfl | hp
    · dsimp only at hk ⊢
      rw [bindC, bindC_old kf r _ n h1, if_neg (by rw [hk]; simp), if_pos rfl]
    · rw [bindC]; exact bindC_new kf r _ h2 p hp hk

/-- the env of a call of fd from a heap of n objects -/
abbrev cenv (fd : FuncData) (n a : Addr) : Env := callEnvC fd n a

theorem callN_fn {a : Addr} {fd : FuncData} {o : Obj} {body : List Stmt} {vals : List Value} {binds : Vars} {Q : Value → Shared → Prop} (hroom : A.depth < recursionLimit) (ho : s.heap.get? a = some o) (hd : o.data = .func fd)
    (hlim : s.heap.NoLimit) (hcd : s.heap.CodeRec fd.code fd.qualname) (hbody : fd.body = .stmts body) (hclo : fd.closure = []) (hbind : BindsTo s fd ⟨vals, []⟩ binds)
    (hkind : (binds.all fun y => fd.scope.names.lookup y.1 == some .local || fd.scope.names.lookup y.1 == some .cell) = true)
    (hnd : ((cellsFrom 0 fd.scope.names []).map (·.1)).Nodup) (hbn : (binds.map (·.1)).Nodup)
    (h : ∀ h' tk, Frm (cenv fd s.heap.objs.size a) s.heap h' binds [] → (∀ b o, s.heap.get? b = some o → h'.get? b = some o) →
      wpN w (A.deeper (cenv fd s.heap.objs.size a)) (execs body (cenv fd s.heap.objs.size a)) (fun f s' => Q (match f with | .ret v => v | _ => .none) s') { s with heap := h', toks := tk })
    (hco : fd.scope.isCoroutine = false) (hgen : fd.scope.isGenerator = false) (hk : fd.scope.kind = .function) : wpN w A (call (.ref a) vals) Q s := by
  refine wpN_call (codeN_of_tree rfl ?_)
  show wpN _ A.in1 (callAny (.ref a) ⟨vals, []⟩) _ s
  simp only [callAny]
  refine wpN_bind (wpAny.n (wpAny_load ho ?_))
  obtain ⟨c, oc, vs, tq, hc, hoc, hdc, hq⟩ := hcd
  simp only [hd, callFunction, hco, hgen, hbody, hc]
  refine wpN_bind (m := field (.ref c) 1) (wpAny.n (wpAny_field hoc hdc hq (wpN_bind (wpN_pure ?_))))
  refine wpN_bind (wpAny.n (hbind _ _ _ _ (wpN_bind (wpAny.n ?_))))
  rw [hclo]
  refine wpAny_newFunctionEnv_cells hk (kindsX hkind _) fun env he s' X => ?_
  refine wpN_bind (wpAny.n (wpAny_enterFrame (hlim.keeps X.toInCall.keep) hroom (wpN_pure (And.intro rfl ?_))))
  have he' : env = cenv fd s.heap.objs.size a := by rw [he, ← hc]; rfl
  subst he'
  refine codeN_func ?_
  obtain ⟨h', tk, rfl, hkeep⟩ := X.done
  have fr : ∀ b, s.heap.objs.size ≤ b → s.heap.get? b = none := fun b hb => by
    cases hq : s.heap.get? b with
    | none => rfl
    | some o => exact absurd (Heap.lt_size hq) (Nat.not_lt.mpr hb)
  have hlook : ∀ n c, (n, c) ∈ (cenv fd s.heap.objs.size a).cells → (cenv fd s.heap.objs.size a).cells.lookup n = some c := by
    refine lookup_of_nodup ?_
    show ((cellsFrom (s.heap.objs.size + 1) fd.scope.names []).map (·.1)).Nodup
    rw [cellsFrom_names fd.scope.names _ 0 [] [] rfl]; exact hnd
  refine wpN_mono (h h' tk ?_ hkeep) fun f s'' hf => ⟨_, rfl, hf⟩
  exact { kind := hk
          ns := ⟨_, X.toInCall.ns, fun p hp hl => bindL_new _ _ _ hbn p hp hl⟩
          look := hlook
          cell := fun x c e => ⟨_, X.cell x c e, fun p hp e1 e2 => by subst e1; exact bindC_new _ _ _ hbn p hp e2⟩
          apart := X.apart
          above := X.above
          keep := hkeep
          freshL := fr _ (Nat.le_refl _)
          freshC := fun n c hc => fr _ (Nat.le_of_lt (X.above n c hc))
          own := fun p hp => (nomatch hp)
          nodup := List.Pairwise.nil }
end
end Mine
end

/-! part FO -/
section
open PySem PySem.W PyProof.Rows
namespace Mine
section
variable {w : World} {A : Around} {env : Env} {s : Shared}

theorem codeN_block {stmts : List Stmt} {R : Flow → Shared → Prop} (h : wpN w A (execs stmts env) R s) : codeN w A (.block stmts env) R s := by
  refine codeN_of_tree rfl ?_
  show wpN _ _ (do return Fin.done (← (execs stmts env).onRaise (fun x => do noteFrame x env; theTreesLotGoes x))) _ s
  exact wpN_bind (wpN_onRaise (wpN_mono h fun f s' h' => wpN_pure h'))

theorem codeN_forLoop {target : Expr} {it : Value} {body orelse : List Stmt} {R : Flow → Shared → Prop} (I : Nat → Shared → Prop)
    (turn : ∀ n s, I n s → wpN w A (pyNext it) (fun r s₁ => match r with
      | none => wpN w A (execs orelse env) R s₁
      | some v => wpN w A (letOwnedTupleGo target it v) (fun _ s₁' =>
          wpN w A (assign target env v) (fun _ s₂ => wpN w A (execs body env) (fun f s₃ => match f with
            | .next | .cont => ∃ m, m < n ∧ I m s₃
            | .brk => R .next s₃
            | .ret v => R (.ret v) s₃) s₂) s₁') s₁) s)
    (n : Nat) (h : I n s) : codeN w A (.forLoop target it body orelse env) R s := by
  refine codeN_loop rfl rfl I (fun n s hI => ?_) n h
  show wpN _ A ((forTurn target it body orelse env).onRaise (fun x => do noteFrame x env; theTreesLotGoes x)) _ s
  refine wpN_onRaise ?_
  simp only [forTurn]
  refine wpN_bind (wpN_standAt (wpN_bind (wpN_onRaise (wpN_mono (turn n s hI) fun r s₁ h₁ => ?_))))
  cases r with
  | none => exact wpN_pure (.inr ⟨rfl, codeN_block h₁⟩)
  | some v =>
    refine wpN_bind (wpN_mono h₁ fun _ s₁' h₁' => ?_)
    refine wpN_bind (wpN_mono h₁' fun _ s₂ h₂ => wpN_bind (wpN_mono h₂ fun f s₃ h₃ => ?_))
    cases f with
    | next => exact wpN_pure (.inl ⟨rfl, h₃⟩)
    | cont => exact wpN_pure (.inl ⟨rfl, h₃⟩)
    | brk => exact wpN_pure h₃
    | ret v => exact wpN_pure h₃

theorem forN {target iter : Expr} {body : List Stmt} {pos : Pos} {Q : Flow → Shared → Prop}
    (h : wpN w A (eval iter env) (fun x s₁ => wpN w A (pyIter x) (fun it s₂ => codeN w A (.forLoop target it body [] env) Q s₂) s₁) s)
    (hs : ∀ x, foldedSetIterable iter env x = pure x := by intro _; rfl) : wpN w A (exec (.For target iter body [] pos) env) Q s := by
  rw [exec_For]
  exact wpN_bind (wpN_standAt (wpN_bind (wpN_mono h fun x s₁ h₁ => wpN_bind (wpN_of_eq (hs x) (wpN_pure (wpN_bind (wpN_standAt (wpN_bind (wpN_holding
    (wpN_mono h₁ fun it s₂ h₂ => wpN_runOwn h₂))))))))))

/-- a loop over an iterator that walks, its turns by an invariant over the told variables and objects; the turn takes the item, stores it and runs the body -/
theorem loopN {target : Expr} {body : List Stmt} {Q : Flow → Shared → Prop} {I : Addr} {fp wr : List Addr} {n : Nat} {P : Nat → Value → Prop} {St : Nat → Heap → Prop} {h₁ : Heap} {l : Vars} {os : Objs}
    (W : Walks PT w A I fp wr n P St) (J : Nat → Vars → Objs → Prop) (F : Frm env h₁ s.heap l os) (hst : St 0 s.heap) (hin : ∀ i h, St i h → ∀ b ∈ fp, (h.get? b).isSome = true) (hfp : ∀ b ∈ fp, Frm.Off env os b) (hwr : ∀ b ∈ wr, h₁.get? b = none) (h0 : J 0 l os)
    (hlt : ∀ v, letOwnedTupleGo target (.ref I) v = pure ())
    (turn : ∀ i v l os h₂ h tk, i < n → P i v → J i l os → Frm env h₂ h l os → (∀ b o, h₁.get? b = some o → h₂.get? b = some o) →
      wpN w A (assign target env v) (fun _ s₂ => wpN w A (execs body env) (fun f s₃ => f = .next ∧ ∃ h' tk' l' os', s₃ = { s with heap := h', toks := tk' } ∧ Frm env h₂ h' l' os' ∧ J (i + 1) l' os') s₂) { s with heap := h, toks := tk })
    (done : ∀ h tk l os, Frm env h₁ h l os → J n l os → Q .next { s with heap := h, toks := tk }) : codeN w A (.forLoop target (.ref I) body [] env) Q s := by
  refine codeN_forLoop (fun k s' => ∃ h tk l os i, s' = { s with heap := h, toks := tk } ∧ Frm env h₁ h l os ∧ J i l os ∧ St i h ∧ i ≤ n ∧ k = n - i ∧ ∀ b ∈ fp, Frm.Off env os b) ?_ n
    ⟨s.heap, s.toks, l, os, 0, rfl, F, h0, hst, Nat.zero_le _, rfl, hfp⟩
  · rintro k s' ⟨h, tk, l, os, i, rfl, F, hJ, hst, hi, rfl, hoff⟩
    by_cases hlt' : i < n
    · refine wpAny.n (W.item i _ _ _ hlt' hst fun v h' tk' hP hst' hk => ?_)
      dsimp only
      rw [hlt v]
      refine wpN_pure ?_
      have F₁ : Frm env h₁ h' l os := F.others (fun b o hb e => hk b o (fun hm => hb (hoff b (W.sub b hm))) e)
        (fun b o e => hk b o (fun hm => by rw [hwr b hm] at e; cases e) (F.keep b o e)) (fun b o e => F.off e)
      obtain ⟨h₂, F₂, k1, k2⟩ := F₁.rebase
      refine wpN_mono (turn i v l os h₂ h' tk' hlt' hP hJ F₂ k1) fun _ s₂ hs₂ => wpN_mono hs₂ fun f s₃ hs₃ => ?_
      obtain ⟨rfl, h₃, tk₃, l', os', rfl, F₃, hJ'⟩ := hs₃
      refine ⟨n - (i + 1), by omega, h₃, tk₃, l', os', i + 1, rfl, F₃.base k1, hJ', ?_, hlt', rfl, fun b hb => ?_⟩
      · refine W.frame _ _ _ hst' fun b hb o e => ?_
        exact F₃.keep b o (k2 b o e (hoff b hb))
      · obtain ⟨o, ho⟩ := Option.isSome_iff_exists.mp (hin _ _ hst' b hb)
        exact F₃.off (k2 b o ho (hoff b hb))
    · obtain rfl : i = n := by omega
      refine wpAny.n (W.done _ _ _ hst fun h' tk' hk => ?_)
      dsimp only
      refine execsN_nil (done h' tk' l os ?_ hJ)
      exact F.others (fun b o hb e => hk b o (fun hm => hb (hoff b (W.sub b hm))) e)
        (fun b o e => hk b o (fun hm => by rw [hwr b hm] at e; cases e) (F.keep b o e)) (fun b o e => F.off e)

/-- for x in range(a, b): the iterator of a range that was just made -/
theorem rangeLoopN {x : Str} {px : Pos} {body : List Stmt} {Q : Flow → Shared → Prop} {r : Addr} {a b : Int} {t u v : Tok} {n : Nat} {h₁ : Heap} {l : Vars} {os : Objs}
    (J : Nat → Vars → Objs → Prop) (hh : A.handled = none) (hr : IsRange s.heap r a b 1 t u v) (hsm : Builtin.Range.small a b 1 = true) (hn : Builtin.Range.rangeSize a b 1 = n) (F : Frm env h₁ s.heap l os) (h0 : J 0 l os)
    (turn : ∀ i tk' l os h₂ h tk, i < n → J i l os → Frm env h₂ h l os → (∀ b o, h₁.get? b = some o → h₂.get? b = some o) →
      wpN w A (assign (.Name x px) env (.int (a + i) tk')) (fun _ s₂ => wpN w A (execs body env) (fun f s₃ => f = .next ∧ ∃ h' tk' l' os', s₃ = { s with heap := h', toks := tk' } ∧ Frm env h₂ h' l' os' ∧ J (i + 1) l' os') s₂) { s with heap := h, toks := tk })
    (done : ∀ h tk l os, Frm env h₁ h l os → J n l os → Q .next { s with heap := h, toks := tk }) :
    wpN w A (pyIter (.ref r)) (fun it s₂ => codeN w A (.forLoop (.Name x px) it body [] env) Q s₂) s := by
  refine wpAny.n (wpAny_pyIter_range hr hsm ?_)
  have W := Walks.range (prog := PT) (w := w) (A := A) hh s.heap.objs.size a 1 n
  have F' := F.push { cls := .type "range_iterator", data := .fields #[rawInt a, rawInt (Builtin.Range.rangeSize a b 1), rawInt 1] }
  have hlt : ∀ b o, s.heap.get? b = some o → b ≠ s.heap.objs.size := fun b o e => Nat.ne_of_lt (Heap.lt_size e)
  obtain ⟨g1, g2, g3, g4⟩ := F'.own _ (List.mem_cons_self ..)
  refine loopN W J (F'.subO (List.sublist_cons_self ..)) ?_ ?_ ?_ ?_ h0 (fun v => rfl) ?_ done
  · dsimp only
    rw [hn] at g1 ⊢
    simpa [IsRangeIter] using g1
  · intro i h st b hb
    rw [List.mem_singleton.mp hb, show h.get? _ = _ from st]; rfl
  · intro b hb
    rw [List.mem_singleton.mp hb]
    exact ⟨g3, g4, fun p hp => (List.pairwise_cons.mp F'.nodup).1 p hp⟩
  · intro b hb
    rw [List.mem_singleton.mp hb]
    exact g2
  · intro i v l os h₂ h tk hi hP hJ F₂ hk
    obtain ⟨tk', rfl⟩ := hP
    rw [Int.mul_one]
    exact turn i tk' l os h₂ h tk hi hJ F₂ hk

/-- for x in <a list of ints that stands in the base> -/
theorem listLoopN {x : Str} {px : Pos} {body : List Stmt} {Q : Flow → Shared → Prop} {r : Addr} {vs : List Value} {ns : List Int} {h₁ : Heap} {l : Vars} {os : Objs}
    (J : Nat → Vars → Objs → Prop) (hh : A.handled = none) (hr : h₁.IsList r vs.toArray) (hi : IntsAre vs ns) (F : Frm env h₁ s.heap l os) (h0 : J 0 l os)
    (turn : ∀ i k tk' l os h₂ h tk, ns[i]? = some k → J i l os → Frm env h₂ h l os → (∀ b o, h₁.get? b = some o → h₂.get? b = some o) →
      wpN w A (assign (.Name x px) env (.int k tk')) (fun _ s₂ => wpN w A (execs body env) (fun f s₃ => f = .next ∧ ∃ h' tk' l' os', s₃ = { s with heap := h', toks := tk' } ∧ Frm env h₂ h' l' os' ∧ J (i + 1) l' os') s₂) { s with heap := h, toks := tk })
    (done : ∀ h tk l os, Frm env h₁ h l os → J ns.length l os → Q .next { s with heap := h, toks := tk }) :
    wpN w A (pyIter (.ref r)) (fun it s₂ => codeN w A (.forLoop (.Name x px) it body [] env) Q s₂) s := by
  have hls : s.heap.IsList r vs.toArray := hr.at fun o e => F.keep r o e
  obtain ⟨ol, hol, _⟩ := id hr
  refine wpAny.n (wpAny_pyIter_list hls ?_)
  have hne : r ≠ s.heap.objs.size := Nat.ne_of_lt (Heap.lt_size (F.keep _ _ hol))
  have W := Walks.list (prog := PT) (w := w) (A := A) hh s.heap.objs.size r hne vs.toArray
  have hlen : vs.toArray.size = ns.length := by simp [hi.length]
  rw [hlen] at W
  have F' := F.push { cls := .type "list_iterator", data := .fields #[.ref r, .int 0 0] }
  obtain ⟨g1, g2, g3, g4⟩ := F'.own _ (List.mem_cons_self ..)
  refine loopN W J (F'.subO (List.sublist_cons_self ..)) ?_ ?_ ?_ ?_ h0 (fun v => rfl) ?_ done
  · exact ⟨⟨_, g1, rfl, rfl⟩, hls.at fun o e => Heap.get?_push_of_some _ e⟩
  · rintro i h ⟨⟨o1, e1, _⟩, ⟨o2, e2, _⟩⟩ b hb
    rcases List.mem_cons.mp hb with rfl | hb
    · rw [e1]; rfl
    · rw [List.mem_singleton.mp hb, e2]; rfl
  · intro b hb
    rcases List.mem_cons.mp hb with rfl | hb
    · exact ⟨g3, g4, fun p hp => (List.pairwise_cons.mp F'.nodup).1 p hp⟩
    · rw [List.mem_singleton.mp hb]; exact F.off hol
  · intro b hb
    rw [List.mem_singleton.mp hb]
    exact g2
  · intro i v l os h₂ h tk hi' hP hJ F₂ hk
    obtain ⟨t, hx⟩ := hi.get i ns[i] (by simp [hi'])
    have hv : v = .int ns[i] t := by
      have hP' : vs[i]? = some v := by simpa using hP
      rw [hx] at hP'; exact (Option.some.inj hP').symm
    subst hv
    exact turn i ns[i] t l os h₂ h tk (by simp [hi']) hJ F₂ hk
end
end Mine
end

/-! part GN -/
section
open PySem PySem.W PyProof.Rows
namespace Mine
/-- the def at a place of the text -/
def defAt (i : Nat) : DefRec := ((PT.main.body[i]?).bind DefRec.ofStmt?).getD ⟨"", ⟨[], [], none, [], [], none, []⟩, [], { kind := .function, names := [], isGenerator := false, isCoroutine := false, more := [] }, default⟩
abbrev dInit := defAt 3
abbrev dPow := defAt 4
abbrev dMul := defAt 5
abbrev dPoly := defAt 6
abbrev dGen := defAt 7
abbrev dEnc := defAt 8
abbrev dLp := defAt 11
abbrev dLaw := defAt 12

abbrev fdOf (d : DefRec) (dV pm cd doc : Value) (an : Option Addr) : FuncData := defFd d.name d.name d.params d.body d.scope mainGlobals dV .none an pm cd doc

/-- the function d stands at a -/
def FnAt (h : Heap) (d : DefRec) (a : Addr) : Prop :=
  ∃ (o : Obj) (dV pm cd doc : Value) (an : Option Addr) (vs : List Value), h.get? a = some o ∧ o.data = .func (fdOf d dV pm cd doc an) ∧ h.CodeRec cd d.name ∧ ConstVals d.params.defaults vs ∧
    ((vs = [] ∧ dV = .none) ∨ vs ≠ [] ∧ ∃ T o' n, dV = .ref T ∧ h.get? T = some o' ∧ o'.data = .seq vs.toArray n)
theorem FnAt.keeps {h h' : Heap} {d : DefRec} {a : Addr} (x : FnAt h d a) (hk : ∀ b o, h.get? b = some o → h'.get? b = some o) : FnAt h' d a := by
  obtain ⟨o, dV, pm, cd, doc, an, vs, h1, h2, h3, h4, h5⟩ := x
  refine ⟨o, dV, pm, cd, doc, an, vs, hk _ _ h1, h2, h3.keeps hk, h4, h5.imp id ?_⟩
  rintro ⟨e0, T, o', n, e1, e2, e3⟩
  exact ⟨e0, T, o', n, e1, hk _ _ e2, e3⟩

/-- names of built-ins that the text leaves as they are -/
def bltNames : List Str := ["len", "range", "bytearray", "list", "enumerate", "int"]

/-- what the walk asks of the module's and the built-ins' names -/
structure Gnd (gl : Vars) (h : Heap) : Prop where
  ns : ∃ mg mb, h.Ns mainGlobals mg ∧ h.Ns builtinsNs mb ∧ (∀ p ∈ gl, mg p.1 = some p.2) ∧ (∀ x ∈ bltNames, mg x = none) ∧ ∀ x : Str, x ≠ "__name__" → mb x = bootBuiltins x
  lim : h.NoLimit
theorem Gnd.keeps {gl : Vars} {h h' : Heap} (x : Gnd gl h) (hk : ∀ b o, h.get? b = some o → h'.get? b = some o) : Gnd gl h' :=
  let ⟨mg, mb, a, b, r⟩ := x.ns
  ⟨⟨mg, mb, a.keeps hk, b.keeps hk, r⟩, x.lim.keeps hk⟩

section
variable {w : World} {A : Around} {env : Env} {h : Heap} {gl : Vars}
theorem ev_gl {x : Str} {pos : Pos} {v : Value} (G : Gnd gl h) (hm : (x, v) ∈ gl) (hl : env.kindOf x = some .globalImplicit) (hk : env.scope.kind = .function) (hg : env.globals = mainGlobals := by rfl) (hd : (x == ("__debug__" : Str)) = false := by decide) : Ev w A env h (.Name x pos) (IsV v) := by
  obtain ⟨mg, mb, a, b, c, d, e⟩ := G.ns
  exact ev_glob hk (hg ▸ a) (c _ hm) hl hd
theorem ev_bl {x : Str} {pos : Pos} {v : Value} (G : Gnd gl h) (hm : x ∈ bltNames) (hv : bootBuiltins x = some v) (hl : env.kindOf x = some .globalImplicit) (hk : env.scope.kind = .function) (hg : env.globals = mainGlobals := by rfl) (hb : env.builtins = builtinsNs := by rfl)
    (hn : x ≠ "__name__" := by decide) (hd : (x == ("__debug__" : Str)) = false := by decide) : Ev w A env h (.Name x pos) (IsV v) := by
  obtain ⟨mg, mb, a, b, c, d, e⟩ := G.ns
  exact ev_blt hk (hg ▸ a) (d _ hm) (hb ▸ b) ((e x hn).trans hv) hl hd
end
theorem boot_len : bootBuiltins "len" = some (.builtin "len") := by decide +kernel
theorem boot_range : bootBuiltins "range" = some (.type "range") := by decide +kernel
theorem boot_bytearray : bootBuiltins "bytearray" = some (.type "bytearray") := by decide +kernel
theorem boot_list : bootBuiltins "list" = some (.type "list") := by decide +kernel
theorem boot_enumerate : bootBuiltins "enumerate" = some (.type "enumerate") := by decide +kernel
theorem boot_int : bootBuiltins "int" = some (.type "int") := by decide +kernel

/-- a call of a def with all its arguments given, none left to the defaults -/
theorem callD {w : World} {A : Around} {s : Shared} {gl : Vars} {d : DefRec} {a : Addr} {vals : List Value} {binds : Vars} {Q : Value → Shared → Prop} (G : Gnd gl s.heap) (hf : FnAt s.heap d a) (hroom : A.depth < recursionLimit)
    (hbind : ∀ (dV pm cd doc : Value) (an : Option Addr) (vs : List Value), ConstVals d.params.defaults vs → ((vs = [] ∧ dV = .none) ∨ vs ≠ [] ∧ ∃ T o' n, dV = .ref T ∧ s.heap.get? T = some o' ∧ o'.data = .seq vs.toArray n) → BindsTo s (fdOf d dV pm cd doc an) ⟨vals, []⟩ binds)
    (hkind : (binds.all fun y => d.scope.names.lookup y.1 == some .local || d.scope.names.lookup y.1 == some .cell) = true) (hnd : ((cellsFrom 0 d.scope.names []).map (·.1)).Nodup) (hbn : (binds.map (·.1)).Nodup)
    (hco : d.scope.isCoroutine = false) (hgen : d.scope.isGenerator = false) (hk : d.scope.kind = .function)
    (h : ∀ (env : Env) h' tk, env.scope = d.scope → env.globals = mainGlobals → env.builtins = builtinsNs → env.cells = cellsFrom (env.locals + 1) d.scope.names [] → Frm env s.heap h' binds [] →
      wpN w (A.deeper env) (execs d.body env) (fun f s' => Q (match f with | .ret v => v | _ => .none) s') { s with heap := h', toks := tk }) : wpN w A (call (.ref a) vals) Q s := by
  obtain ⟨o, dV, pm, cd, doc, an, vs, h1, h2, h3, h4, h5⟩ := hf
  exact callN_fn hroom h1 h2 G.lim h3 rfl rfl (hbind dV pm cd doc an vs h4 h5) hkind hnd hbn (fun h' tk F _ => h _ h' tk rfl rfl rfl rfl F) hco hgen hk
end Mine
end

/-! part GF -/
section
namespace Mine
/-- twice an octet in the field -/
def xt (x : Nat) : Nat := if 2 * x < 256 then 2 * x else (2 * x) ^^^ 285
/-- the powers of two in the field -/
def pw : Nat → Nat
  | 0 => 1
  | n + 1 => xt (pw n)

theorem xt_lt_all : ∀ x : Fin 256, xt x.val < 256 := by decide +kernel
theorem xt_lt {x : Nat} (h : x < 256) : xt x < 256 := xt_lt_all ⟨x, h⟩
theorem xt_pos_all : ∀ x : Fin 256, x.val ≠ 0 → xt x.val ≠ 0 := by decide +kernel
theorem xt_ne {x : Nat} (h : x < 256) (h0 : x ≠ 0) : xt x ≠ 0 := xt_pos_all ⟨x, h⟩ h0
theorem pw_lt : ∀ n, pw n < 256
  | 0 => by decide
  | n + 1 => xt_lt (pw_lt n)
theorem pw_ne : ∀ n, pw n ≠ 0
  | 0 => by decide
  | n + 1 => xt_ne (pw_lt n) (pw_ne n)

/-- all the powers by one run -/
def run : Nat → Nat → List Nat → List Nat
  | 0, _, acc => acc
  | n + 1, x, acc => run n (xt x) (x :: acc)
theorem run_pw : ∀ (n i : Nat) (acc : List Nat), run n (pw i) acc = ((List.range n).map fun j => pw (i + j)).reverse ++ acc
  | 0, i, acc => rfl
  | n + 1, i, acc => by
    rw [run, show xt (pw i) = pw (i + 1) from rfl, run_pw n (i + 1)]
    rw [List.range_succ_eq_map]
    simp only [List.map_cons, List.map_map, List.reverse_cons, List.append_assoc, List.singleton_append, Nat.add_zero]
    congr 2
    refine List.map_congr_left fun j _ => ?_
    show pw (i + 1 + j) = pw (i + (j + 1))
    rw [show i + 1 + j = i + (j + 1) by omega]
theorem pw_255 : pw 255 = 1 := by decide +kernel
theorem pw_add_255 : ∀ n, pw (n + 255) = pw n
  | 0 => pw_255
  | n + 1 => by rw [show n + 1 + 255 = n + 255 + 1 by omega, pw, pw_add_255 n]; rfl
theorem pw_mul_255 (n : Nat) : ∀ k, pw (n + 255 * k) = pw n
  | 0 => rfl
  | k + 1 => by rw [show n + 255 * (k + 1) = n + 255 * k + 255 by omega, pw_add_255, pw_mul_255 n k]
theorem pw_mod (n : Nat) : pw (n % 255) = pw n := by
  have := pw_mul_255 (n % 255) (n / 255)
  rw [show n % 255 + 255 * (n / 255) = n by omega] at this
  exact this.symm
/-- half an octet in the field -/
def xi (y : Nat) : Nat := if y % 2 = 0 then y / 2 else (y ^^^ 285) / 2
theorem xi_xt_all : ∀ x : Fin 256, xi (xt x.val) = x.val := by decide +kernel
theorem xt_inj {a b : Nat} (ha : a < 256) (hb : b < 256) (h : xt a = xt b) : a = b := by
  have h1 := xi_xt_all ⟨a, ha⟩
  have h2 := xi_xt_all ⟨b, hb⟩
  dsimp only at h1 h2
  rw [← h1, ← h2, h]
theorem pw_back (d : Nat) : ∀ i, pw (i + d) = pw i → pw d = 1
  | 0, h => by rw [Nat.zero_add] at h; exact h
  | i + 1, h => pw_back d i (xt_inj (pw_lt _) (pw_lt _) (by rw [Nat.add_right_comm] at h; exact h))
/-- none of the powers between is one -/
theorem no_one : (run 254 2 []).all (fun x => x != 1) = true := by decide +kernel
theorem pw_ne_one {d : Nat} (h0 : 0 < d) (h1 : d < 255) : pw d ≠ 1 := by
  have hn := no_one
  rw [show (2 : Nat) = pw 1 from rfl, run_pw, List.append_nil, List.all_eq_true] at hn
  have := hn (pw d) (List.mem_reverse.mpr (List.mem_map.mpr ⟨d - 1, List.mem_range.mpr (by omega), by rw [show 1 + (d - 1) = d by omega]⟩))
  simpa using this
theorem pw_inj {i j : Nat} (hi : i < 255) (hj : j < 255) (h : pw i = pw j) : i = j := by
  rcases Nat.lt_trichotomy i j with hlt | he | hlt
  · exact absurd (pw_back (j - i) i (by rw [show i + (j - i) = j by omega]; exact h.symm)) (pw_ne_one (by omega) (by omega))
  · exact he
  · exact absurd (pw_back (i - j) j (by rw [show j + (i - j) = i by omega]; exact h)) (pw_ne_one (by omega) (by omega))
/-- which octets are powers, as the bits of one number -/
def mask : Nat → Nat → Nat → Nat
  | 0, _, m => m
  | n + 1, x, m => mask n (xt x) (m ||| 1 <<< x)
theorem mask_pw : ∀ (n i m y : Nat), (mask n (pw i) m).testBit y = true → m.testBit y = true ∨ ∃ j, j < n ∧ pw (i + j) = y
  | 0, _, _, _, h => .inl h
  | n + 1, i, m, y, h => by
    rcases mask_pw n (i + 1) _ y h with h | ⟨j, hj, e⟩
    · rw [Nat.testBit_or, Bool.or_eq_true] at h
      rcases h with h | h
      · exact .inl h
      · refine .inr ⟨0, Nat.succ_pos n, ?_⟩
        rw [Nat.one_shiftLeft, Nat.testBit_two_pow] at h
        simpa using h
    · exact .inr ⟨j + 1, Nat.succ_lt_succ hj, by rw [show i + (j + 1) = i + 1 + j by omega]; exact e⟩
theorem mask_all : mask 255 1 0 = 2 ^ 256 - 2 := by decide +kernel
theorem bits_all : ∀ y : Fin 256, y.val ≠ 0 → (2 ^ 256 - 2).testBit y.val = true := by decide +kernel
/-- every octet but nought is a power -/
theorem pw_surj {x : Nat} (h : x < 256) (h0 : x ≠ 0) : ∃ i, i < 255 ∧ pw i = x := by
  have hb := bits_all ⟨x, h⟩ h0
  dsimp only at hb
  rw [← mask_all, show (1 : Nat) = pw 0 from rfl] at hb
  rcases mask_pw 255 0 0 x hb with hz | ⟨j, hj, e⟩
  · simp at hz
  · exact ⟨j, hj, by simpa using e⟩
end Mine
namespace Mine
/-- the logarithm to the base two (of nought: nought) -/
def lgn (x : Nat) : Nat := ((List.range 255).find? fun i => pw i == x).getD 0
theorem lgn_pw {i : Nat} (hi : i < 255) : lgn (pw i) = i := by
  unfold lgn
  cases h : (List.range 255).find? fun j => pw j == pw i with
  | none =>
    have := List.find?_eq_none.mp h i (List.mem_range.mpr hi)
    simp at this
  | some j =>
    have h1 := List.find?_some h
    have h2 := List.mem_of_find?_eq_some h
    exact pw_inj (List.mem_range.mp h2) hi (by simpa using h1)
theorem lgn_zero : lgn 0 = 0 := by
  unfold lgn
  cases h : (List.range 255).find? fun j => pw j == 0 with
  | none => rfl
  | some j =>
    have h1 := List.find?_some h
    exact absurd (by simpa using h1) (pw_ne j)
theorem lgn_lt (x : Nat) : lgn x < 255 := by
  unfold lgn
  cases h : (List.range 255).find? fun j => pw j == x with
  | none => decide
  | some j => exact List.mem_range.mp (List.mem_of_find?_eq_some h)
theorem pw_lgn {x : Nat} (h : x < 256) (h0 : x ≠ 0) : pw (lgn x) = x := by
  obtain ⟨i, hi, rfl⟩ := pw_surj h h0
  rw [lgn_pw hi]
end Mine
end

/-! part CT -/
section
open PySem PySem.W PyProof.Rows
namespace Mine
/-- the two tables of the text -/
structure Tab (eB lB : Array UInt8) : Prop where
  eSize : eB.size = 510
  lSize : lB.size = 256
  e : ∀ i, i < 510 → eB[i]? = some (pw i).toUInt8
  l : ∀ i, i < 255 → lB[pw i]? = some i.toUInt8
  l0 : lB[0]? = some 0

theorem kindOf_of {env : Env} {d : DefRec} {x : Str} {k : NameKind} (he : env.scope = d.scope) (h : d.scope.names.lookup x = some k) : env.kindOf x = some k := by
  show env.scope.names.lookup x = some k
  rw [he]; exact h
theorem u8 {n : Nat} (h : n < 256) : n.toUInt8.toNat = n := by simp [Nat.toUInt8]; omega

/-- the names and objects that the functions of the text lean on -/
structure World1 (gl : Vars) (eB lB : Array UInt8) (h : Heap) : Prop where
  g : Gnd gl h
  tab : Tab eB lB
  log : ∃ a, ((Str.ofString "gf_log", Value.ref a) ∈ gl) ∧ h.get? a = some (baObj lB)
  exp : ∃ a, ((Str.ofString "gf_exp", Value.ref a) ∈ gl) ∧ h.get? a = some (baObj eB)
  fc : ∃ t, (Str.ofString "field_charac", Value.int 255 t) ∈ gl
  ba : (Str.ofString "_bytearray", Value.type "bytearray") ∈ gl
  xr : (Str.ofString "xrange", Value.type "range") ∈ gl
theorem World1.keeps {gl : Vars} {eB lB : Array UInt8} {h h' : Heap} (W : World1 gl eB lB h) (hk : ∀ b o, h.get? b = some o → h'.get? b = some o) : World1 gl eB lB h' :=
  { W with g := W.g.keeps hk, log := let ⟨a, b, c⟩ := W.log; ⟨a, b, hk _ _ c⟩, exp := let ⟨a, b, c⟩ := W.exp; ⟨a, b, hk _ _ c⟩ }

theorem binds_none {s : Shared} {d : DefRec} {vals : List Value} {binds : Vars} (h0 : d.params.defaults = []) (h : ∀ (pm cd doc : Value) (an : Option Addr), bindArgs (fdOf d .none pm cd doc an) ⟨vals, []⟩ = pure binds) :
    ∀ (dV pm cd doc : Value) (an : Option Addr) (vs : List Value), ConstVals d.params.defaults vs → ((vs = [] ∧ dV = .none) ∨ vs ≠ [] ∧ ∃ T o' n, dV = .ref T ∧ s.heap.get? T = some o' ∧ o'.data = .seq vs.toArray n) → BindsTo s (fdOf d dV pm cd doc an) ⟨vals, []⟩ binds := by
  intro dV pm cd doc an vs hv hd
  have hvs : vs = [] := by
    rw [h0] at hv
    cases vs with
    | nil => rfl
    | cons _ _ => exact hv.elim
  rcases hd with ⟨_, rfl⟩ | ⟨hne, _⟩
  · exact .of_eq (h pm cd doc an)
  · exact absurd hvs hne

section
variable {w : World} {A : Around} {gl : Vars} {eB lB : Array UInt8}

theorem gf_pow_spec {s : Shared} {f : Addr} {e : Nat} {p : Int} {t u : Tok} {Q : Value → Shared → Prop} (W : World1 gl eB lB s.heap) (hf : FnAt s.heap dPow f) (hroom : A.depth < recursionLimit) (he : e < 255)
    (hQ : ∀ h' tk t, (∀ b o, s.heap.get? b = some o → h'.get? b = some o) → Q (.int (pw (((e : Int) * p).fmod 255).toNat) t) { s with heap := h', toks := tk }) :
    wpN w A (call (.ref f) [.int (pw e) t, .int p u]) Q s := by
  refine callD (binds := [("x", .int (pw e) t), ("power", .int p u)]) W.g hf hroom (binds_none rfl (fun _ _ _ _ => by kernel_rfl)) (by rfl) (by decide +kernel) (by show ((["x", "power"] : List Str)).Nodup; decide) (by rfl) (by rfl) (by rfl) fun env h' tk e1 e2 e3 e4 F => ?_
  conv => arg 3; arg 1; whnf
  have W' := W.keeps F.keep
  obtain ⟨aL, gL, oL⟩ := W'.log
  obtain ⟨aE, gE, oE⟩ := W'.exp
  obtain ⟨tf, gF⟩ := W'.fc
  have hk : env.scope.kind = .function := F.kind
  have ex : Ev w (A.deeper env) env h' (.Name (Str.ofString "x") ⟨17, 25, 17, 26⟩) (IsI (pw e)) := (ev_loc F (List.mem_cons_self ..) (kindOf_of (d := dPow) e1 rfl)).toI ⟨_, rfl⟩
  have ep : Ev w (A.deeper env) env h' (.Name (Str.ofString "power") ⟨17, 30, 17, 35⟩) (IsI p) := (ev_loc F (List.mem_cons_of_mem _ (List.mem_cons_self ..)) (kindOf_of (d := dPow) e1 rfl)).toI ⟨_, rfl⟩
  have eLog := ev_gl (w := w) (A := A.deeper env) (pos := ⟨17, 18, 17, 24⟩) W'.g gL (kindOf_of (d := dPow) e1 rfl) hk e2
  have eExp := ev_gl (w := w) (A := A.deeper env) (pos := ⟨17, 11, 17, 17⟩) W'.g gE (kindOf_of (d := dPow) e1 rfl) hk e2
  have eFc := (ev_gl (w := w) (A := A.deeper env) (pos := ⟨17, 38, 17, 50⟩) W'.g gF (kindOf_of (d := dPow) e1 rfl) hk e2).toI ⟨_, rfl⟩
  have v1 := ev_idxB (pos := ⟨17, 18, 17, 27⟩) eLog ex oL (by omega) (by simpa using W'.tab.l e he) (by have := pw_lt e; omega)
  rw [u8 (by omega)] at v1
  have v2 := ev_mod (pos := ⟨17, 18, 17, 50⟩) (ev_mul (pos := ⟨17, 18, 17, 35⟩) v1 ep (IntMulOk.of_left (intBits_le_64 (by omega) (by omega)))) eFc (by decide)
  have hm : 0 ≤ ((e : Int) * p).fmod 255 ∧ ((e : Int) * p).fmod 255 < 255 := ⟨Int.fmod_nonneg_of_pos _ (by decide), Int.fmod_lt_of_pos _ (by decide)⟩
  have v3 := ev_idxB (pos := ⟨17, 11, 17, 51⟩) eExp v2 oE hm.1 (W'.tab.e _ (by omega)) (by omega)
  rw [u8 (pw_lt _)] at v3
  refine execsN_cons' (returnN (v3.useN fun v tk' hv => ?_))
  obtain ⟨t', rfl⟩ := hv
  exact hQ h' tk' t' F.keep
end
end Mine
end

/-! part CP -/
section
open PySem PySem.W PyProof.Rows
namespace Mine
section
variable {w : World} {A : Around} {env : Env} {s : Shared} {h₁ : Heap} {l : Vars} {os : Objs}

theorem ev_range1 {x : Str} {p pos : Pos} {e : Expr} {n : Int} {Q : Value → Shared → Prop} {E : Value → Shared → Prop} (hn : Ev w A env s.heap (.Name x p) (IsV (.type "range"))) (he : Ev w A env s.heap e (IsI n))
    (hQ : ∀ o tk t u v, IsRange (s.heap.push o) s.heap.objs.size 0 n 1 t u v → o.isFreed = false → Q (.ref s.heap.objs.size) { s with heap := s.heap.push o, toks := tk })
    (hs : starEach [e] env = [(false, eval e env)] := by rfl) : wpAny (model PT w) A (eval (.Call (.Name x p) [e] [] pos) env) Q E s := by
  refine Call_Name1 (hn s _ E rfl fun v tk hv => ?_) hs
  cases hv
  refine PySem.callWith_type1 (he _ _ E rfl fun v tk hv => ?_)
  obtain ⟨t, rfl⟩ := hv
  exact call_range_1 (hQ _ _ _ _ _ (IsRange.new ..) rfl)
theorem ev_range2 {x : Str} {p pos : Pos} {e f : Expr} {a n : Int} {Q : Value → Shared → Prop} {E : Value → Shared → Prop} (hn : Ev w A env s.heap (.Name x p) (IsV (.type "range"))) (he : Ev w A env s.heap e (IsI a)) (hf : Ev w A env s.heap f (IsI n))
    (hQ : ∀ o tk t u v, IsRange (s.heap.push o) s.heap.objs.size a n 1 t u v → o.isFreed = false → Q (.ref s.heap.objs.size) { s with heap := s.heap.push o, toks := tk })
    (hs : starEach [e, f] env = [(false, eval e env), (false, eval f env)] := by rfl) : wpAny (model PT w) A (eval (.Call (.Name x p) [e, f] [] pos) env) Q E s := by
  refine Call_Name2 (hn s _ E rfl fun v tk hv => ?_) hs
  cases hv
  refine PySem.callWith_type rfl (Calls.evalArgs_plain (Calls.spliced_cons (he _ _ E rfl fun v tk hv => ?_)))
  obtain ⟨t, rfl⟩ := hv
  refine Calls.spliced_cons (hf _ _ E rfl fun v tk hv => ?_)
  obtain ⟨u, rfl⟩ := hv
  exact Calls.spliced_nil (call_range_2 (hQ _ _ _ _ _ (IsRange.new ..) rfl))

theorem rangeSize_nat {a n : Int} (h : a ≤ n) : Builtin.Range.rangeSize a n 1 = ((n - a).toNat : Int) := by
  rw [rangeSize_one]
  split <;> omega

/-- for x in range(n): .. -/
theorem forRange1 {x rn : Str} {px rp cp pos : Pos} {e : Expr} {body : List Stmt} {n : Nat} {Q : Flow → Shared → Prop} (J : Nat → Vars → Objs → Prop) (hh : A.handled = none)
    (F : Frm env h₁ s.heap l os) (hn : Ev w A env s.heap (.Name rn rp) (IsV (.type "range"))) (he : Ev w A env s.heap e (IsI n)) (hsz : n < 2 ^ 62) (h0 : J 0 l os)
    (turn : ∀ i tk' l os h₂ h tk, i < n → J i l os → Frm env h₂ h l os → (∀ b o, h₁.get? b = some o → h₂.get? b = some o) →
      wpN w A (assign (.Name x px) env (.int i tk')) (fun _ s₂ => wpN w A (execs body env) (fun f s₃ => f = .next ∧ ∃ h' tk' l' os', s₃ = { s with heap := h', toks := tk' } ∧ Frm env h₂ h' l' os' ∧ J (i + 1) l' os') s₂) { s with heap := h, toks := tk })
    (done : ∀ h tk l os, Frm env h₁ h l os → J n l os → Q .next { s with heap := h, toks := tk })
    (hs : starEach [e] env = [(false, eval e env)] := by rfl) (hfs : ∀ v, foldedSetIterable (.Call (.Name rn rp) [e] [] cp) env v = pure v := by intro _; rfl) :
    wpN w A (exec (.For (.Name x px) (.Call (.Name rn rp) [e] [] cp) body [] pos) env) Q s := by
  refine forN (wpAny.n (ev_range1 hn he (fun o tk t u v hr hf => ?_) hs)) hfs
  have F' := (F.push o hf).subO (List.sublist_cons_self ..)
  refine rangeLoopN (s := { s with heap := s.heap.push o, toks := tk }) (n := n) J hh hr (small_one (by decide) (by decide) (by omega) (by omega)) (by rw [rangeSize_nat (by omega)]; simp) F' h0 ?_ done
  intro i tk' l os h₂ h tk hi hJ F₂ hk
  rw [Int.zero_add]
  exact turn i tk' l os h₂ h tk hi hJ F₂ hk
/-- for x in range(a, a + n): .. -/
theorem forRange2 {x rn : Str} {px rp cp pos : Pos} {e f : Expr} {body : List Stmt} {a n : Nat} {Q : Flow → Shared → Prop} (J : Nat → Vars → Objs → Prop) (hh : A.handled = none)
    (F : Frm env h₁ s.heap l os) (hn : Ev w A env s.heap (.Name rn rp) (IsV (.type "range"))) (he : Ev w A env s.heap e (IsI a)) (hf : Ev w A env s.heap f (IsI (a + n : Nat))) (hsz : a + n < 2 ^ 62) (h0 : J 0 l os)
    (turn : ∀ i tk' l os h₂ h tk, i < n → J i l os → Frm env h₂ h l os → (∀ b o, h₁.get? b = some o → h₂.get? b = some o) →
      wpN w A (assign (.Name x px) env (.int ((a + i : Nat) : Int) tk')) (fun _ s₂ => wpN w A (execs body env) (fun f s₃ => f = .next ∧ ∃ h' tk' l' os', s₃ = { s with heap := h', toks := tk' } ∧ Frm env h₂ h' l' os' ∧ J (i + 1) l' os') s₂) { s with heap := h, toks := tk })
    (done : ∀ h tk l os, Frm env h₁ h l os → J n l os → Q .next { s with heap := h, toks := tk })
    (hs : starEach [e, f] env = [(false, eval e env), (false, eval f env)] := by rfl) (hfs : ∀ v, foldedSetIterable (.Call (.Name rn rp) [e, f] [] cp) env v = pure v := by intro _; rfl) :
    wpN w A (exec (.For (.Name x px) (.Call (.Name rn rp) [e, f] [] cp) body [] pos) env) Q s := by
  refine forN (wpAny.n (ev_range2 hn he hf (fun o tk t u v hr hf => ?_) hs)) hfs
  have F' := (F.push o hf).subO (List.sublist_cons_self ..)
  refine rangeLoopN (s := { s with heap := s.heap.push o, toks := tk }) (n := n) J hh hr (small_one (by omega) (by omega) (by omega) (by omega)) (by rw [rangeSize_nat (by omega)]; omega) F' h0 ?_ done
  intro i tk' l os h₂ h tk hi hJ F₂ hk
  have : ((a : Int) + (i : Int)) = ((a + i : Nat) : Int) := by omega
  rw [this]
  exact turn i tk' l os h₂ h tk hi hJ F₂ hk

theorem paired_map {P : Nat → Value → Prop} {src : Nat → Int} {g : Int → Int} (hP : ∀ i v, P i v → IsI (src i) v) : ∀ (vs ys : List Value) (o : Nat), (∀ j v, vs[j]? = some v → P (o + j) v) → Paired (fun v y => ∃ k, IsI k v ∧ IsI (g k) y) vs ys →
    IntsAre ys ((List.range vs.length).map fun i => g (src (o + i)))
  | [], [], _, _, _ => .nil
  | v :: vs, y :: ys, o, hv, h => by
    cases h with
    | cons h1 h2 =>
      obtain ⟨k, ⟨t, rfl⟩, t', rfl⟩ := h1
      obtain ⟨t2, e⟩ := hP _ _ (hv 0 _ rfl)
      cases e
      have ih := paired_map hP vs ys (o + 1) (fun j v hj => by have := hv (j + 1) v (by simpa using hj); rwa [show o + (j + 1) = o + 1 + j by omega] at this) h2
      rw [List.length_cons, List.range_succ_eq_map, List.map_cons, List.map_map]
      refine .cons _ _ ?_
      have e2 : ((fun i => g (src (o + i))) ∘ Nat.succ) = fun i => g (src (o + 1 + i)) := by
        funext i
        show g (src (o + (i + 1))) = _
        rw [show o + (i + 1) = o + 1 + i by omega]
      rw [e2]; exact ih
  | [], _ :: _, _, _, h => by cases h
  | _ :: _, [], _, _, h => by cases h

abbrev lsObj (vs : List Value) (n : Nat) : Obj := { cls := .type "list", data := .seq vs.toArray n }

theorem Walks.lt {I : Addr} {fp wr : List Addr} {n : Nat} {P : Nat → Value → Prop} {St : Nat → Heap → Prop} (W : Walks PT w A I fp wr n P St) : Walks PT w A I fp wr n (fun i v => P i v ∧ i < n) St where
  sub := W.sub
  frame := W.frame
  item := fun i s Q E hi st hQ => W.item i s Q E hi st fun v h' tk hP => hQ v h' tk ⟨hP, hi⟩
  done := W.done
  self := W.self

/-- the source of a comprehension: an iterator that walks over n ints -/
def Src (w : World) (A : Around) (s : Shared) (n : Nat) (src : Nat → Int) (it : Value) (s₂ : Shared) : Prop :=
  ∃ I fp wr P St, it = .ref I ∧ Walks PT w A I fp wr n P St ∧ St 0 s₂.heap ∧ (∀ b ∈ fp, b < s₂.heap.objs.size) ∧ (∀ i v, P i v → IsI (src i) v) ∧ (∀ b ∈ wr, s.heap.get? b = none) ∧
    ∃ h' tk, s₂ = { s with heap := h', toks := tk } ∧ ∀ b o, s.heap.get? b = some o → h'.get? b = some o

theorem quiet_of {elt : Expr} {x : Str} {scope : Scope} {cl : List (Str × Addr)} {n : Nat} {src : Nat → Int} {g : Int → Int} {wr : List Addr} {P : Nat → Value → Prop} {s₂ : Shared} (hP : ∀ i v, P i v → IsI (src i) v) (hwr : ∀ b ∈ wr, s.heap.get? b = none)
    (hk : ∀ b o, s.heap.get? b = some o → s₂.heap.get? b = some o)
    (helt : ∀ C i v h m, i < n → h.Ns C m → m x = some v → IsI (src i) v → (∀ b o, s.heap.get? b = some o → h.get? b = some o) → Ev w A (compEnvC scope cl C env) h elt (IsI (g (src i)))) :
    QuietOnC PT w A env scope cl x [] elt wr (fun i v => P i v ∧ i < n) (fun _ => true) (fun v y => ∃ k, IsI k v ∧ IsI (g k) y) s₂ where
  tests := fun C i v s₃ m₃ E' _ _ _ _ _ _ => wpAny_tests_nil ⟨rfl, s₃.heap, s₃.toks, rfl, fun _ _ e => e⟩
  elt := fun C i v s₃ m₃ E' _ hp _ hn hm hkk _ => by
    refine helt C i v s₃.heap m₃ hp.2 hn hm (hP i v hp.1) (fun b o e => hkk b o (fun hb => by rw [hwr b hb] at e; cases e) (hk b o e)) s₃ _ E' rfl fun y tk hy => ?_
    exact ⟨⟨src i, hP i v hp.1, hy⟩, s₃.heap, tk, rfl, fun _ _ e => e⟩

theorem compE {elt iter : Expr} {x : Str} {px pos : Pos} {scope : Scope} {cl : List (Str × Addr)} {n : Nat} {src : Nat → Int} {g : Int → Int} {Q : Value → Shared → Prop} {E : Value → Shared → Prop} (hsz : n ≤ sizeLine)
    (hclos : closureFor scope env = pure cl) (hcell : ∀ y ∈ scope.names, y.2 ≠ .cell) (hkind : scope.kind = .function)
    (hnames : ∀ y ∈ scope.names, y.2 = .local → scope.names.lookup y.1 = some .local) (hx : scope.names.lookup x = some .local)
    (hit : wpAny (model PT w) A (eval iter env) (fun xv s₁ => wpAny (model PT w) A (pyIter xv) (Src w A s n src) E s₁) E s)
    (helt : ∀ C i v h m, i < n → h.Ns C m → m x = some v → IsI (src i) v → (∀ b o, s.heap.get? b = some o → h.get? b = some o) → Ev w A (compEnvC scope cl C env) h elt (IsI (g (src i))))
    (hQ : ∀ D h' tk vs c, (∀ b o, s.heap.get? b = some o → h'.get? b = some o) → s.heap.get? D = none → h'.get? D = some (lsObj vs c) → IntsAre vs ((List.range n).map fun i => g (src i)) → Q (.ref D) { s with heap := h', toks := tk })
    (hs : ∀ x, foldedSetIterable iter env x = pure x := by intro _; rfl) :
    wpAny (model PT w) A (eval (.ListComp elt [⟨.Name x px, iter, [], 0⟩] scope pos) env) Q E s := by
  refine wpAny_ListComp_free (fun _ => true) (fun v y => ∃ k, IsI k v ∧ IsI (g k) y) hclos hcell hkind hnames hx (wpAny_mono hit (fun xv s₁ hw₁ => wpAny_mono hw₁ (fun it s₂ h₂ => ?_) fun _ _ e => e) fun _ _ e => e) hs
  obtain ⟨I, fp, wr, P, St, rfl, W, hst, hfp, hP, hwr, h', tk, rfl, hk⟩ := h₂
  refine ⟨I, fp, wr, n, _, St, rfl, Walks.lt W, hsz, hst, hfp, quiet_of hP hwr hk helt, ?_⟩
  intro D h'' tk' ys vs hD _ hpl hlen hPv hF hkk
  obtain ⟨c, hc⟩ := hpl
  have hF' : Paired (fun v y => ∃ k, IsI k v ∧ IsI (g k) y) vs ys.toList := by rw [List.filter_eq_self.mpr (fun _ _ => rfl)] at hF; exact hF
  have hi := paired_map (g := g) hP vs ys.toList 0 (fun j v hj => by rw [Nat.zero_add]; exact (hPv j v hj).1) hF'
  rw [hlen] at hi
  refine hQ D h'' tk' ys.toList c (fun b o e => hkk b o (fun hb => by rw [hwr b hb] at e; cases e) (hk b o e)) ?_ (by simpa using hc) (by simpa using hi)
  cases hq : s.heap.get? D with
  | none => rfl
  | some o => rw [hk D o hq] at hD; cases hD

/-- y = [elt for x in iter], the store within the comprehension -/
theorem compA {elt iter : Expr} {x y : Str} {px py pos spos : Pos} {scope : Scope} {cl : List (Str × Addr)} {n : Nat} {src : Nat → Int} {g : Int → Int} {Q : Flow → Shared → Prop} {E : Value → Shared → Prop} (hsz : n ≤ sizeLine) (F : Frm env h₁ s.heap l os)
    (hsw : swapsWith (.ListComp elt [⟨.Name x px, iter, [], 0⟩] scope pos) (some (.Name y py)) spos.line env = pure true)
    (hclos : closureFor scope env = pure cl) (hcell : ∀ y ∈ scope.names, y.2 ≠ .cell) (hkind : scope.kind = .function)
    (hnames : ∀ y ∈ scope.names, y.2 = .local → scope.names.lookup y.1 = some .local) (hx : scope.names.lookup x = some .local) (hy : env.kindOf y = some .local)
    (hit : wpAny (model PT w) A (eval iter env) (fun xv s₁ => wpAny (model PT w) A (pyIter xv) (Src w A s n src) E s₁) E s)
    (helt : ∀ C i v h m, i < n → h.Ns C m → m x = some v → IsI (src i) v → (∀ b o, s.heap.get? b = some o → h.get? b = some o) → Ev w A (compEnvC scope cl C env) h elt (IsI (g (src i))))
    (hQ : ∀ D h' tk vs c, Frm env h₁ h' ((y, .ref D) :: l.filter (fun p => p.1 != y)) ((D, lsObj vs c) :: os) → IntsAre vs ((List.range n).map fun i => g (src i)) → Q .next { s with heap := h', toks := tk })
    (hs : ∀ x, foldedSetIterable iter env x = pure x := by intro _; rfl) :
    wpAny (model PT w) A (exec (.Assign [.Name y py] (.ListComp elt [⟨.Name x px, iter, [], 0⟩] scope pos) spos) env) Q E s := by
  refine wpAny_Assign_ListComp_free (fun _ => true) (fun v y => ∃ k, IsI k v ∧ IsI (g k) y) hsw hclos hcell hkind hnames hx hy (by rw [F.kind]; rfl) (wpAny_mono hit (fun xv s₁ hw₁ => wpAny_mono hw₁ (fun it s₂ h₂ => ?_) fun _ _ e => e) fun _ _ e => e) hs
  obtain ⟨I, fp, wr, P, St, rfl, W, hst, hfp, hP, hwr, h', tk, rfl, hk⟩ := h₂
  have F' := F.keeps hk
  obtain ⟨m, hn, hm⟩ := F'.ns
  have hLw : env.locals ∉ wr := fun hb => by
    obtain ⟨m0, ⟨o, _, _, ho, _⟩, _⟩ := F.ns
    rw [hwr _ hb] at ho; cases ho
  refine ⟨I, fp, wr, n, _, St, m, rfl, Walks.lt W, hsz, hst, hfp, hLw, hn, quiet_of hP hwr hk helt, ?_⟩
  intro D h'' tk' ys vs hD _ hpl hlen hPv hF hns hkk
  obtain ⟨c, hc⟩ := hpl
  have hF' : Paired (fun v y => ∃ k, IsI k v ∧ IsI (g k) y) vs ys.toList := by rw [List.filter_eq_self.mpr (fun _ _ => rfl)] at hF; exact hF
  have hi := paired_map (g := g) hP vs ys.toList 0 (fun j v hj => by rw [Nat.zero_add]; exact (hPv j v hj).1) hF'
  rw [hlen] at hi
  have hw : ∀ b o, s.heap.get? b = some o → b ∉ wr := fun b o e hb => by rw [hwr b hb] at e; cases e
  have hD0 : s.heap.get? D = none := by
    cases hq : s.heap.get? D with
    | none => rfl
    | some o => rw [hk D o hq] at hD; cases hD
  refine hQ D h'' tk' ys.toList c ?_ (by simpa using hi)
  have hDL : D ≠ env.locals := by
    rintro rfl
    obtain ⟨m0, ⟨o, _, _, ho, _⟩, _⟩ := F.ns
    rw [hD0] at ho; cases ho
  have keep' : ∀ b o, b ≠ env.locals → s.heap.get? b = some o → h''.get? b = some o := fun b o hb e => hkk b o hb (hw b o e) (hk b o e)
  refine { kind := F.kind, ns := ⟨_, hns, fun p hp hkd => ?_⟩, look := F.look, cell := fun z c' e => ?_, apart := F.apart, above := F.above, keep := fun b o e => ?_, freshL := F.freshL, freshC := F.freshC, own := fun p hp => ?_, nodup := ?_ }
  · rcases List.mem_cons.mp hp with rfl | hp
    · simp
    · obtain ⟨q1, q2⟩ := List.mem_filter.mp hp
      have hne : p.1 ≠ y := by simpa using q2
      rw [if_neg hne]; exact hm p q1 hkd
  · obtain ⟨u, ⟨o, ho, hd⟩, b⟩ := F.cell z c' e
    refine ⟨u, ⟨o, keep' c' o (Nat.ne_of_gt (F.above z c' (mem_of_lookup e))) ho, hd⟩, fun p hp e1 e2 => ?_⟩
    rcases List.mem_cons.mp hp with rfl | hp
    · dsimp only at e1; rw [← e1, hy] at e2; cases e2
    · exact b p (List.mem_filter.mp hp).1 e1 e2
  · refine keep' b o ?_ (F.keep b o e)
    rintro rfl; rw [F.freshL] at e; cases e
  · rcases List.mem_cons.mp hp with rfl | hp
    · refine ⟨by simpa using hc, ?_, hDL, fun n' c' hc' => ?_⟩
      · cases hq : h₁.get? D with
        | none => rfl
        | some o => rw [F.keep _ _ hq] at hD0; cases hD0
      · rintro rfl
        obtain ⟨u, ⟨o, ho, _⟩, _⟩ := F.cell n' D (F.look n' D hc')
        rw [hD0] at ho; cases ho
    · obtain ⟨b1, b2, b3, b4⟩ := F.own p hp
      exact ⟨keep' _ _ b3 b1, b2, b3, b4⟩
  · refine List.pairwise_cons.mpr ⟨fun q hq e => ?_, F.nodup⟩
    have := (F.own q hq).1
    dsimp only at e
    rw [← e, hD0] at this; cases this

theorem src_range1 {x : Str} {p pos : Pos} {e : Expr} {n : Nat} {E : Value → Shared → Prop} (hh : A.handled = none) (hn : Ev w A env s.heap (.Name x p) (IsV (.type "range"))) (he : Ev w A env s.heap e (IsI n)) (hsz : n < 2 ^ 62)
    (hs : starEach [e] env = [(false, eval e env)] := by rfl) : wpAny (model PT w) A (eval (.Call (.Name x p) [e] [] pos) env) (fun xv s₁ => wpAny (model PT w) A (pyIter xv) (Src w A s n (fun i => i)) E s₁) E s := by
  refine ev_range1 hn he (fun o tk t u v hr hf => ?_) hs
  refine wpAny_pyIter_range hr (small_one (by decide) (by decide) (by omega) (by omega)) ?_
  have hz : Builtin.Range.rangeSize 0 n 1 = n := by rw [rangeSize_nat (by omega)]; simp
  rw [hz]
  have hg : ((s.heap.push o).push { cls := .type "range_iterator", data := .fields #[rawInt 0, rawInt n, rawInt 1] }).get? (s.heap.push o).objs.size = some { cls := .type "range_iterator", data := .fields #[rawInt 0, rawInt n, rawInt 1] } := Heap.get?_push_size _ rfl
  refine ⟨(s.heap.push o).objs.size, [(s.heap.push o).objs.size], [(s.heap.push o).objs.size], _, _, rfl, Walks.range (prog := PT) (w := w) (A := A) hh _ 0 1 n, ?_, ?_, ?_, ?_, _, _, rfl, fun b o e => Heap.get?_push_of_some _ (Heap.get?_push_of_some _ e)⟩
  · show IsRangeIter _ _ _ _ _
    simpa [IsRangeIter] using hg
  · intro b hb
    rw [List.mem_singleton.mp hb]
    exact Heap.lt_size hg
  · rintro i v ⟨t, rfl⟩
    exact ⟨t, by simp⟩
  · intro b hb
    rw [List.mem_singleton.mp hb]
    cases hq : s.heap.get? (s.heap.push o).objs.size with
    | none => rfl
    | some o' => have h1 := Heap.lt_size hq; rw [Heap.size_push] at h1; exact absurd h1 (Nat.not_lt.mpr (Nat.le_succ _))
end
end Mine
end

/-! part CQ -/
section
open PySem PySem.W PyProof.Rows
namespace Mine

theorem xor_add_and : ∀ (k m n : Nat), m ≤ k → (m ^^^ n) + 2 * (m &&& n) = m + n := by
  intro k
  induction k with
  | zero =>
    intro m n hm
    obtain rfl : m = 0 := by omega
    simp
  | succ k ih =>
    intro m n hm
    by_cases h0 : m = 0
    · subst h0; simp
    · have e := ih (m / 2) (n / 2) (by omega)
      have x1 : (m ^^^ n) / 2 = m / 2 ^^^ n / 2 := Nat.xor_div_two
      have a1 : (m &&& n) / 2 = m / 2 &&& n / 2 := Nat.and_div_two
      have x2 : (m ^^^ n) % 2 = (m % 2) ^^^ (n % 2) := by simpa using Nat.xor_mod_two_pow (a := m) (b := n) (n := 1)
      have a2 : (m &&& n) % 2 = (m % 2) &&& (n % 2) := by simpa using Nat.and_mod_two_pow (a := m) (b := n) (n := 1)
      rw [← x1, ← a1] at e
      rcases Nat.mod_two_eq_zero_or_one m with hm | hm <;> rcases Nat.mod_two_eq_zero_or_one n with hn | hn <;> simp only [hm, hn, Nat.xor_self, Nat.and_self, Nat.zero_xor, Nat.xor_zero, Nat.zero_and, Nat.and_zero] at a2 x2 <;> omega
theorem bitXor_nat (m n : Nat) : Builtin.bitXor m n = ((m ^^^ n : Nat) : Int) := by
  rw [bitXor_and, bitAnd_pp (by omega) (by omega)]
  have := xor_add_and m m n (Nat.le_refl _)
  simp only [Int.toNat_natCast]
  omega
theorem xor_lt {m n : Nat} (hm : m < 256) (hn : n < 256) : m ^^^ n < 256 := Nat.xor_lt_two_pow (n := 8) hm hn

section
variable {w : World} {A : Around} {env : Env} {s : Shared} {h₁ : Heap} {l : Vars} {os : Objs}

theorem evalN_baCount {x : Str} {p pos : Pos} {e : Expr} {n : Nat} {Q : Value → Shared → Prop} (hn : Ev w A env s.heap (.Name x p) (IsV (.type "bytearray"))) (he : Ev w A env s.heap e (IsI n)) (hsz : n ≤ sizeLine)
    (h : ∀ h' tk, h'.get? s.heap.objs.size = some (baObj (Array.replicate n 0)) → (∀ c o, s.heap.get? c = some o → h'.get? c = some o) → Q (.ref s.heap.objs.size) { s with heap := h', toks := tk })
    (hs : starEach [e] env = [(false, eval e env)] := by rfl) : wpN w A (eval (.Call (.Name x p) [e] [] pos) env) Q s := by
  refine evalN_Call (by rw [hs]) (hn.useN fun v tk hv => ?_)
  cases hv
  refine callWithN_type rfl (splicedN_cons (Ev.useN (s := { s with toks := tk }) he fun v tk hv => ?_))
  obtain ⟨t, rfl⟩ := hv
  refine splicedN_nil (callN_ba_count (s := { s with toks := tk }) (by omega) (by omega) fun h' e1 e2 => ?_)
  exact h h' tk (by simpa using e1) e2
theorem evalN_baBa {x : Str} {p pos : Pos} {e : Expr} {c : Addr} {b : Array UInt8} {Q : Value → Shared → Prop} (hn : Ev w A env s.heap (.Name x p) (IsV (.type "bytearray"))) (he : Ev w A env s.heap e (IsV (.ref c))) (hc : s.heap.get? c = some (baObj b)) (hsz : b.size ≤ sizeLine)
    (h : ∀ h' tk, h'.get? s.heap.objs.size = some (baObj b) → (∀ c o, s.heap.get? c = some o → h'.get? c = some o) → Q (.ref s.heap.objs.size) { s with heap := h', toks := tk })
    (hs : starEach [e] env = [(false, eval e env)] := by rfl) : wpN w A (eval (.Call (.Name x p) [e] [] pos) env) Q s := by
  refine evalN_Call (by rw [hs]) (hn.useN fun v tk hv => ?_)
  cases hv
  refine callWithN_type rfl (splicedN_cons (Ev.useN (s := { s with toks := tk }) he fun v tk hv => ?_))
  cases hv
  exact splicedN_nil (callN_ba_ba (s := { s with toks := tk }) hc hsz fun h' e1 e2 => h h' tk e1 e2)

/-- a[k] ^= v -/
theorem augXorB {o i v : Expr} {tpos pos : Pos} {a : Addr} {r : Array UInt8} {k x : Nat} {y : UInt8} {Q : Flow → Shared → Prop} {E : Value → Shared → Prop} (F : Frm env h₁ s.heap l ((a, baObj r) :: os))
    (ho : Ev w A env s.heap o (IsV (.ref a))) (hi : Ev w A env s.heap i (IsI k)) (hv : Ev w A env s.heap v (IsI x)) (hk : r[k]? = some y) (hsz : r.size ≤ sizeLine) (hx : x < 256)
    (hQ : ∀ h' tk, Frm env h₁ h' l ((a, baObj (r.setIfInBounds k (y.toNat ^^^ x).toUInt8)) :: os) → Q .next { s with heap := h', toks := tk })
    (hst : ∀ ov iv new, augStore i ov iv new = (do holding [new, ov, iv] (setItem ov iv new); release [new, ov, iv] []; pure .next) := by intros; rfl) :
    wpAny (model PT w) A (exec (.AugAssign (.Subscript o i tpos) .BitXor v pos) env) Q E s := by
  have hlt : k < r.size := (Array.getElem?_eq_some_iff.mp hk).1
  have hg := F.get (List.mem_cons_self ..)
  refine wpAny_AugAssign_SubscriptAny (ho s _ E rfl fun u tk hu => ?_) hst
  cases hu
  refine hi _ _ E rfl fun u tk hu => ?_
  obtain ⟨t, rfl⟩ := hu
  refine ba_getItem (s := { s with toks := tk }) hg (by omega) (by rw [sizeLine_eq] at hsz; omega) (by simpa using hk) ?_
  refine hv _ _ E rfl fun u tk hu => ?_
  obtain ⟨t', rfl⟩ := hu
  refine ixor_int ?_
  rw [bitXor_nat]
  have hy : y.toNat < 256 := y.toNat_lt
  refine ba_setItem (s := { s with toks := tk + 1 }) hg (by omega) (by omega) hsz (by omega) (by have := xor_lt hy hx; omega) fun h' e1 e2 => ?_
  exact hQ h' _ (F.upd0 e2 (by simpa using e1))
end
end Mine
end

/-! part PM -/
section
open PySem PySem.W PyProof.Rows
namespace Mine

def stepA (b : Array UInt8) (lq j : Nat) (r : Array UInt8) (i : Nat) : Array UInt8 :=
  if b[i]!.toNat = 0 then r else r.setIfInBounds (i + j) (r[i + j]!.toNat ^^^ pw (lgn b[i]!.toNat + lq)).toUInt8
def rowA (b : Array UInt8) (qj j : Nat) (r : Array UInt8) : Array UInt8 := if qj = 0 then r else (List.range b.size).foldl (stepA b (lgn qj) j) r
def polyUp (b : Array UInt8) (q : List Nat) (n : Nat) : Array UInt8 := (List.range n).foldl (fun r j => rowA b q[j]! j r) (Array.replicate (b.size + q.length - 1) 0)
def polyA (b : Array UInt8) (q : List Nat) : Array UInt8 := polyUp b q q.length

theorem stepA_size (b : Array UInt8) (lq j : Nat) (r : Array UInt8) (i : Nat) : (stepA b lq j r i).size = r.size := by unfold stepA; split <;> simp
theorem fold_size (b : Array UInt8) (lq j : Nat) : ∀ (is : List Nat) (r : Array UInt8), (is.foldl (stepA b lq j) r).size = r.size
  | [], r => rfl
  | i :: is, r => by rw [List.foldl_cons, fold_size b lq j is, stepA_size]
theorem rowA_size (b : Array UInt8) (qj j : Nat) (r : Array UInt8) : (rowA b qj j r).size = r.size := by
  unfold rowA; split
  · rfl
  · exact fold_size ..
theorem foldR_size (b : Array UInt8) (q : List Nat) : ∀ (is : List Nat) (r : Array UInt8), (is.foldl (fun r j => rowA b q[j]! j r) r).size = r.size
  | [], r => rfl
  | i :: is, r => by rw [List.foldl_cons, foldR_size b q is, rowA_size]
theorem polyUp_size (b : Array UInt8) (q : List Nat) (n : Nat) : (polyUp b q n).size = b.size + q.length - 1 := by unfold polyUp; rw [foldR_size]; simp
theorem range_fold_succ {α : Type} (f : α → Nat → α) (r : α) (n : Nat) : (List.range (n + 1)).foldl f r = f ((List.range n).foldl f r) n := by
  rw [List.range_succ, List.foldl_append]; rfl

theorem mem_filter_ne {x y : Str} {v : Value} {l : Vars} (h : (x, v) ∈ l) (hne : (x != y) = true) : (x, v) ∈ l.filter (fun p => p.1 != y) := List.mem_filter.mpr ⟨h, hne⟩
local macro_rules | `(tactic| k_mem) => `(tactic| (refine mem_filter_ne ?_ (by decide); k_mem))

section
variable {w : World} {A : Around} {env : Env} {h h₁ : Heap} {l : Vars} {os : Objs} {gl : Vars} {eB lB : Array UInt8}

theorem evI_loc {x : Str} {pos : Pos} {n : Int} {t : Tok} (F : Frm env h₁ h l os) (hm : (x, .int n t) ∈ l) (hl : env.kindOf x = some .local) (hd : (x == ("__debug__" : Str)) = false := by decide) : Ev w A env h (.Name x pos) (IsI n) := (ev_loc F hm hl hd).toI ⟨t, rfl⟩

theorem Frm.freeze {h₀ : Heap} {a : Addr} {o : Obj} (F : Frm env h₀ h l ((a, o) :: os)) : ∃ h₁, Frm env h₁ h l os ∧ (∀ b o, h₀.get? b = some o → h₁.get? b = some o) ∧ h₁.get? a = some o := by
  obtain ⟨h₁, F₁, k1, k2⟩ := (F.subO (List.sublist_cons_self ..)).rebase
  obtain ⟨a1, a2, a3, a4⟩ := F.own _ (List.mem_cons_self ..)
  exact ⟨h₁, F₁, k1, k2 a o a1 ⟨a3, a4, fun p hp => (List.pairwise_cons.mp F.nodup).1 p hp⟩⟩
theorem asgN {x : Str} {px : Pos} {v : Value} {h₀ : Heap} {s : Shared} {Q : Unit → Shared → Prop} (F : Frm env h₀ s.heap l os) (hl : env.kindOf x = some .local) (hq : ∀ h' tk, Frm env h₀ h' ((x, v) :: l.filter (fun p => p.1 != x)) os → Q () { s with heap := h', toks := tk }) :
    wpN w A (assign (.Name x px) env v) Q s := wpAny.n (wpAny_assign_Name (st_loc F hl hq))
/-- x = e of an int that stands for nothing new -/
theorem setN {x : Str} {e : Expr} {px pos : Pos} {R : Value → Prop} {h₀ : Heap} {s : Shared} {Q : Flow → Shared → Prop} (F : Frm env h₀ s.heap l os) (he : Ev w A env s.heap e R) (hl : env.kindOf x = some .local)
    (hq : ∀ v h' tk, R v → Frm env h₀ h' ((x, v) :: l.filter (fun p => p.1 != x)) os → Q .next { s with heap := h', toks := tk })
    (hs : swapsWith e (some (.Name x px)) pos.line env = pure false := by rfl) : wpN w A (exec (.Assign [.Name x px] e pos) env) Q s :=
  assignN (he.useN fun v tk hv => wpAny.n (st_loc (s := { s with toks := tk }) F hl fun h' tk' F' => hq v h' tk' hv F')) hs
theorem testN {e : Expr} {c : Bool} {h : Heap} {s : Shared} {Q : Bool → Shared → Prop} (he : EvB w A env s.heap e c) (hq : ∀ tk, Q c { s with toks := tk }) : wpN w A (isTrue e env (eval e env)) Q s := wpAny.n (he s Q _ rfl hq)

theorem logB (T : Tab eB lB) {x : Nat} (hx : x < 256) : lB[x]? = some (lgn x).toUInt8 := by
  by_cases h0 : x = 0
  · subst h0; rw [T.l0, lgn_zero]; rfl
  · obtain ⟨i, hi, rfl⟩ := pw_surj hx h0
    rw [T.l i hi, lgn_pw hi]

theorem get_bang {b : Array UInt8} {i : Nat} (h : i < b.size) : b[i]? = some b[i]! := by simp [h]

theorem gf_poly_mul_spec {s : Shared} {f a c : Addr} {b : Array UInt8} {vs : List Value} {q : List Nat} {Q : Value → Shared → Prop} (W : World1 gl eB lB s.heap) (hf : FnAt s.heap dPoly f) (hroom : A.depth < recursionLimit) (hh : A.handled = none)
    (ha : s.heap.get? a = some (baObj b)) (hc : s.heap.IsList c vs.toArray) (hi : IntsAre vs (q.map fun n => ((n : Nat) : Int))) (hq : ∀ n ∈ q, n < 256) (hsz : b.size + q.length ≤ 1000) (hb0 : 1 ≤ b.size)
    (hQ : ∀ h' tk a', (∀ b o, s.heap.get? b = some o → h'.get? b = some o) → s.heap.get? a' = none → h'.get? a' = some (baObj (polyA b q)) → Q (.ref a') { s with heap := h', toks := tk }) :
    wpN w A (call (.ref f) [.ref a, .ref c]) Q s := by
  have hvl : vs.length = q.length := by simpa using hi.length
  refine callD (binds := [("p", .ref a), ("q", .ref c)]) W.g hf hroom (binds_none rfl (fun _ _ _ _ => by kernel_rfl)) (by rfl) (by decide +kernel) (by show (["p", "q"] : List Str).Nodup; decide) (by rfl) (by rfl) (by rfl) fun env h' tk e1 e2 e3 e4 F => ?_
  have kL : ∀ x, dPoly.scope.names.lookup x = some .local → env.kindOf x = some .local := fun x h => kindOf_of e1 h
  have kG : ∀ x, dPoly.scope.names.lookup x = some .globalImplicit → env.kindOf x = some .globalImplicit := fun x h => kindOf_of e1 h
  have kP : env.kindOf "p" = some .cell := kindOf_of (d := dPoly) e1 rfl
  have cP : env.cells.lookup (Str.ofString "p") = some (env.locals + 1) := by rw [e4]; rfl
  have hk : env.scope.kind = .function := F.kind
  have hh' : (A.deeper env).handled = none := hh
  conv => arg 3; arg 1; whnf
  -- r = _bytearray(len(p) + len(q) - 1)
  have W1 := W.keeps F.keep
  have ha1 := F.keep _ _ ha
  have hc1 : h'.IsList c vs.toArray := hc.at fun o e => F.keep _ o e
  have eLen : ∀ {g : Heap} (Wg : World1 gl eB lB g) pos, Ev w (A.deeper env) env g (.Name (Str.ofString "len") pos) (IsV (.builtin "len")) := fun Wg pos => ev_bl Wg.g (by decide) boot_len (kG _ rfl) hk e2 e3
  have n1 : ((b.size : Int) + ((vs.toArray.size : Nat) : Int) - 1) = ((b.size + q.length - 1 : Nat) : Int) := by simp only [List.size_toArray]; omega
  refine execsN_cons (assignN (evalN_baCount (n := b.size + q.length - 1) (ev_gl W1.g W1.ba (kG _ rfl) hk e2)
    ((ev_sub (ev_add (ev_lenB (eLen W1 _) (ev_cell F (by k_mem) kP cP) ha1 (by rw [sizeLine_eq]; omega)) (ev_lenL (eLen W1 _) (ev_loc F (by k_mem) (kL _ rfl)) hc1 (by rw [sizeLine_eq, List.size_toArray]; omega))) ev_int).eqI n1) (by rw [sizeLine_eq]; omega) fun h2 tk2 g1 g2 => ?_))
  have hR : h'.get? h'.objs.size = none := by
    cases hq' : h'.get? h'.objs.size with
    | none => rfl
    | some o => exact absurd (Heap.lt_size hq') (Nat.lt_irrefl _)
  generalize hRe : h'.objs.size = R at g1 hR
  have F2 := F.new (o := baObj _) g2 hR g1
  refine wpAny.n (st_loc (s := { s with heap := h2, toks := tk2 }) F2 (kL _ rfl) fun h3 tk3 F3 => ⟨rfl, ?_⟩)
  -- lp = [gf_log[p[i]] for i in xrange(len(p))]
  have W3 := W.keeps F3.keep
  have ha3 := F3.keep _ _ ha
  have hcl : closureFor (Scope.mk ScopeKind.function [(Str.ofString ".0", NameKind.local), (Str.ofString "i", NameKind.local), (Str.ofString "gf_log", NameKind.globalImplicit), (Str.ofString "p", NameKind.free)] false false []) env = pure [(Str.ofString "p", env.locals + 1)] := by
    unfold closureFor
    simp [cellOf, cP]
  refine execsN_cons (wpAny.n (compA (n := b.size) (src := fun i => i) (g := fun i => ((lgn b[i.toNat]!.toNat : Nat) : Int)) (by rw [sizeLine_eq]; omega) F3 ?_ hcl ?_ rfl ?_ rfl (kL _ rfl)
    (src_range1 hh' (ev_gl W3.g W3.xr (kG _ rfl) hk e2) (ev_lenB (eLen W3 _) (ev_cell F3 (by k_mem) kP cP) ha3 (by rw [sizeLine_eq]; omega)) (by omega)) ?_ ?_))
  · simp only [swapsWith, Env.blockKind, hk, kL _ (show dPoly.scope.names.lookup (Str.ofString "lp") = some .local from rfl)]
    rfl
  · decide
  · decide
  · intro C i v g m hi' hn hm hv hkp
    obtain ⟨t, rfl⟩ := hv
    have Wg := W3.keeps hkp
    obtain ⟨aL, gL, oL⟩ := Wg.log
    obtain ⟨u, hu, hh2⟩ := F3.cell _ _ cP
    rw [hh2 (Str.ofString "p", .ref a) (by k_mem) rfl kP] at hu
    have kk : ∀ x k, (relabel (Scope.mk ScopeKind.function [(Str.ofString ".0", NameKind.local), (Str.ofString "i", NameKind.local), (Str.ofString "gf_log", NameKind.globalImplicit), (Str.ofString "p", NameKind.free)] false false []) env).names.lookup x = k →
      (compEnvC (Scope.mk ScopeKind.function [(Str.ofString ".0", NameKind.local), (Str.ofString "i", NameKind.local), (Str.ofString "gf_log", NameKind.globalImplicit), (Str.ofString "p", NameKind.free)] false false []) [(Str.ofString "p", env.locals + 1)] C env).kindOf x = k := fun x k h => h
    have hrel : (relabel (Scope.mk ScopeKind.function [(Str.ofString ".0", NameKind.local), (Str.ofString "i", NameKind.local), (Str.ofString "gf_log", NameKind.globalImplicit), (Str.ofString "p", NameKind.free)] false false []) env).names
      = [(Str.ofString ".0", NameKind.local), (Str.ofString "i", NameKind.local), (Str.ofString "gf_log", NameKind.globalImplicit), (Str.ofString "p", NameKind.cell)] := by
      simp [relabel, hk, kP]
    have ei : ∀ pos, Ev w (A.deeper env) (compEnvC (Scope.mk ScopeKind.function [(Str.ofString ".0", NameKind.local), (Str.ofString "i", NameKind.local), (Str.ofString "gf_log", NameKind.globalImplicit), (Str.ofString "p", NameKind.free)] false false []) [(Str.ofString "p", env.locals + 1)] C env) g (.Name (Str.ofString "i") pos) (IsI i) :=
      fun pos => (ev_ns rfl hn hm (kk _ _ (by rw [hrel]; rfl))).toI ⟨t, rfl⟩
    have v1 := ev_idxB (pos := ⟨30, 17, 30, 21⟩) (ev_isCell (pos := ⟨30, 17, 30, 18⟩) (x := Str.ofString "p") rfl (hu.keeps hkp) (kk _ _ (by rw [hrel]; rfl)) rfl) (ei ⟨30, 19, 30, 20⟩) (hkp _ _ ha3) (by omega) (get_bang (i := i) (by simpa using hi')) (by omega)
    have v2 := ev_idxB (pos := ⟨30, 10, 30, 22⟩) (ev_gl (pos := ⟨30, 10, 30, 16⟩) Wg.g gL (kk _ _ (by rw [hrel]; rfl)) rfl e2) v1 oL (by omega) (logB Wg.tab (by simpa using b[i]!.toNat_lt)) (by have := b[i]!.toNat_lt; omega)
    rw [u8 (Nat.lt_trans (lgn_lt _) (by decide))] at v2
    simpa using v2
  · intro D h4 tk4 lvs cn F4 hlp
    refine ⟨rfl, ?_⟩
    obtain ⟨hB, F5, kB, oD⟩ := F4.freeze
    have F6 := F5.subV (l' := [(Str.ofString "p", .ref a), (Str.ofString "q", .ref c), (Str.ofString "r", .ref R), (Str.ofString "lp", .ref D)]) (by
      intro p hp
      simp only [List.mem_cons, List.not_mem_nil, or_false] at hp
      rcases hp with rfl | rfl | rfl | rfl <;> k_mem)
    clear F5 F4 F3 F2 F
    have WB := W.keeps kB
    have haB := kB _ _ ha
    have hcB : hB.IsList c vs.toArray := hc.at fun o e => kB _ o e
    have hDB : hB.IsList D lvs.toArray := ⟨_, oD, rfl, _, rfl⟩
    have hcs : vs.toArray.size ≤ sizeLine := by rw [sizeLine_eq, List.size_toArray]; omega
    have hpu : ∀ j, (polyUp b q j).size ≤ sizeLine := fun j => by rw [polyUp_size, sizeLine_eq]; omega
    -- for j in xrange(len(q))
    refine execsN_cons (forRange1 (s := { s with heap := h4, toks := tk4 }) (n := q.length) (fun j l os => l = [(Str.ofString "p", .ref a), (Str.ofString "q", .ref c), (Str.ofString "r", .ref R), (Str.ofString "lp", .ref D)] ∧ os = [(R, baObj (polyUp b q j))]) hh' F6
      (ev_gl (WB.keeps F6.keep).g WB.xr (kG _ rfl) hk e2) ((ev_lenL (eLen (WB.keeps F6.keep) _) (ev_loc F6 (by k_mem) (kL _ rfl)) (hcB.at fun o e => F6.keep _ o e) hcs).eqI (by rw [List.size_toArray, hvl])) (by omega) ⟨rfl, rfl⟩ ?_ ?_)
    · rintro j tj l os h₂ g tk hj ⟨rfl, rfl⟩ G kBh
      refine asgN (s := { s with heap := g, toks := tk }) G (kL _ rfl) fun g1 tk1 G1 => ?_
      have W2 := WB.keeps kBh
      have hqj : q[j]! < 256 := hq _ (by simp [hj])
      have hqi : (q.map fun n => ((n : Nat) : Int))[((j : Nat) : Int).toNat]? = some ((q[j]! : Nat) : Int) := by simp [hj]
      -- qj = q[j]
      refine execsN_cons (setN (s := { s with heap := g1, toks := tk1 }) G1 (ev_idxL (ev_loc G1 (by k_mem) (kL _ rfl)) (evI_loc G1 (by k_mem) (kL _ rfl)) (hcB.at fun o e => G1.keep _ o (kBh _ o e)) hi (by omega) hqi (by omega)) (kL _ rfl) fun v g2 tk2 hv G2 => ⟨rfl, ?_⟩)
      obtain ⟨tq, rfl⟩ := hv
      refine execsN_cons (ifN (testN (s := { s with heap := g2, toks := tk2 }) (h := g2) (evB_ne (evI_loc G2 (by k_mem) (kL _ rfl)) ev_int) fun tk3 => ?_))
      have fin : ∀ g3 tk3, Frm env h₂ g3 [(Str.ofString "p", .ref a), (Str.ofString "q", .ref c), (Str.ofString "r", .ref R), (Str.ofString "lp", .ref D)] [(R, baObj (polyUp b q (j + 1)))] →
          Flow.next = Flow.next ∧ wpN w (A.deeper env) (execs [] env) (fun f s₃ => f = .next ∧ ∃ h' tk' l' os', s₃ = { s with heap := h', toks := tk' } ∧ Frm env h₂ h' l' os' ∧ l' = [(Str.ofString "p", .ref a), (Str.ofString "q", .ref c), (Str.ofString "r", .ref R), (Str.ofString "lp", .ref D)] ∧ os' = [(R, baObj (polyUp b q (j + 1)))]) { s with heap := g3, toks := tk3 } :=
        fun g3 tk3 G3 => ⟨rfl, execsN_nil ⟨rfl, g3, tk3, _, _, rfl, G3, rfl, rfl⟩⟩
      have up : polyUp b q (j + 1) = rowA b q[j]! j (polyUp b q j) := range_fold_succ ..
      by_cases hz : q[j]! = 0
      · rw [if_neg (by simp [hz])]
        refine execsN_nil (fin g2 tk3 ?_)
        rw [up, rowA, if_pos hz]
        exact G2.subV (by
          intro p hp
          simp only [List.mem_cons, List.not_mem_nil, or_false] at hp
          rcases hp with rfl | rfl | rfl | rfl <;> k_mem)
      · rw [if_pos (bne_iff_ne.mpr (by omega))]
        obtain ⟨aL, gL, oL⟩ := W2.log
        obtain ⟨aE, gE, oE⟩ := W2.exp
        -- lq = gf_log[qj]
        have vq := ev_idxB (pos := ⟨34, 17, 34, 27⟩) (ev_gl (w := w) (A := A.deeper env) (env := env) (pos := ⟨34, 17, 34, 23⟩) (W2.keeps G2.keep).g gL (kG _ rfl) hk e2) (evI_loc (pos := ⟨34, 24, 34, 26⟩) (x := Str.ofString "qj") G2 (by k_mem) (kL _ rfl)) (G2.keep _ _ oL) (by omega) (logB W2.tab (by simpa using hqj)) (by omega)
        rw [u8 (Nat.lt_trans (lgn_lt _) (by decide))] at vq
        refine execsN_cons (setN (s := { s with heap := g2, toks := tk3 }) G2 vq (kL _ rfl) fun v g3 tk4 hv G3 => ⟨rfl, ?_⟩)
        obtain ⟨tl, rfl⟩ := hv
        simp only [Int.toNat_natCast] at G3
        have G4 := G3.subV (l' := [(Str.ofString "p", .ref a), (Str.ofString "q", .ref c), (Str.ofString "r", .ref R), (Str.ofString "lp", .ref D), (Str.ofString "j", .int j tj), (Str.ofString "lq", .int (lgn q[j]!) tl)]) (by
          intro p hp
          simp only [List.mem_cons, List.not_mem_nil, or_false] at hp
          rcases hp with rfl | rfl | rfl | rfl | rfl | rfl <;> k_mem)
        have ha2 := kBh _ _ haB
        have hD2 : h₂.IsList D lvs.toArray := hDB.at fun o e => kBh _ o e
        refine execsN_cons (forRange1 (s := { s with heap := g3, toks := tk4 }) (n := b.size) (fun i l os => l = [(Str.ofString "p", .ref a), (Str.ofString "q", .ref c), (Str.ofString "r", .ref R), (Str.ofString "lp", .ref D), (Str.ofString "j", .int j tj), (Str.ofString "lq", .int (lgn q[j]!) tl)] ∧
            os = [(R, baObj ((List.range i).foldl (stepA b (lgn q[j]!) j) (polyUp b q j)))]) hh' G4
          (ev_gl (W2.keeps G4.keep).g W2.xr (kG _ rfl) hk e2) (ev_lenB (eLen (W2.keeps G4.keep) _) (ev_cell G4 (by k_mem) kP cP) (G4.keep _ _ ha2) (by rw [sizeLine_eq]; omega)) (by omega) ⟨rfl, rfl⟩ ?_ ?_)
        · rintro i ti l os h₃ g tk hib ⟨rfl, rfl⟩ K k23
          refine asgN (s := { s with heap := g, toks := tk }) K (kL _ rfl) fun g1 tk1 K1 => ?_
          have W3 := (W2.keeps k23).keeps K1.keep
          have hbi : b[i]!.toNat < 256 := b[i]!.toNat_lt
          have step : (List.range (i + 1)).foldl (stepA b (lgn q[j]!) j) (polyUp b q j) = stepA b (lgn q[j]!) j ((List.range i).foldl (stepA b (lgn q[j]!) j) (polyUp b q j)) i := range_fold_succ ..
          have fin2 : ∀ g3 tk3, Frm env h₃ g3 [(Str.ofString "p", .ref a), (Str.ofString "q", .ref c), (Str.ofString "r", .ref R), (Str.ofString "lp", .ref D), (Str.ofString "j", .int j tj), (Str.ofString "lq", .int (lgn q[j]!) tl)] [(R, baObj ((List.range (i + 1)).foldl (stepA b (lgn q[j]!) j) (polyUp b q j)))] →
              Flow.next = Flow.next ∧ wpN w (A.deeper env) (execs [] env) (fun f s₃ => f = .next ∧ ∃ h' tk' l' os', s₃ = { s with heap := h', toks := tk' } ∧ Frm env h₃ h' l' os' ∧ l' = [(Str.ofString "p", .ref a), (Str.ofString "q", .ref c), (Str.ofString "r", .ref R), (Str.ofString "lp", .ref D), (Str.ofString "j", .int j tj), (Str.ofString "lq", .int (lgn q[j]!) tl)] ∧ os' = [(R, baObj ((List.range (i + 1)).foldl (stepA b (lgn q[j]!) j) (polyUp b q j)))]) { s with heap := g3, toks := tk3 } :=
            fun g3 tk3 K3 => ⟨rfl, execsN_nil ⟨rfl, g3, tk3, _, _, rfl, K3, rfl, rfl⟩⟩
          have vp := ev_idxB (pos := ⟨36, 19, 36, 23⟩) (ev_cell (w := w) (A := A.deeper env) (pos := ⟨36, 19, 36, 20⟩) K1 (v := .ref a) (by k_mem) kP cP) (evI_loc (pos := ⟨36, 21, 36, 22⟩) (x := Str.ofString "i") K1 (by k_mem) (kL _ rfl)) (K1.keep _ _ (k23 _ _ ha2)) (by omega) (get_bang (i := i) (by simpa using hib)) (by omega)
          refine execsN_cons (ifN (testN (s := { s with heap := g1, toks := tk1 }) (h := g1) (evB_ne vp ev_int) fun tk2 => ?_))
          by_cases hz2 : b[i]!.toNat = 0
          · rw [if_neg (by simp [hz2])]
            refine execsN_nil (fin2 g1 tk2 ?_)
            rw [step, stepA, if_pos hz2]
            exact K1.subV (by
              intro p hp
              simp only [List.mem_cons, List.not_mem_nil, or_false] at hp
              rcases hp with rfl | rfl | rfl | rfl | rfl | rfl <;> k_mem)
          · rw [if_pos (bne_iff_ne.mpr (by omega))]
            have hsz2 : ((List.range i).foldl (stepA b (lgn q[j]!) j) (polyUp b q j)).size = b.size + q.length - 1 := by rw [fold_size, polyUp_size]
            have ix : Ev w (A.deeper env) env g1 (.BinOp (.Name (Str.ofString "i") ⟨37, 22, 37, 23⟩) .Add (.Name (Str.ofString "j") ⟨37, 26, 37, 27⟩) ⟨37, 22, 37, 27⟩) (IsI (i + j : Nat)) :=
              (ev_add (evI_loc K1 (by k_mem) (kL _ rfl)) (evI_loc K1 (by k_mem) (kL _ rfl))).eqI (by omega)
            have hlpi : ((List.range b.size).map fun i : Nat => ((lgn b[((i : Nat) : Int).toNat]!.toNat : Nat) : Int))[((i : Nat) : Int).toNat]? = some ((lgn b[i]!.toNat : Nat) : Int) := by simp [hib]
            have vl := ev_idxL (pos := ⟨37, 39, 37, 44⟩) (ev_loc (w := w) (A := A.deeper env) (pos := ⟨37, 39, 37, 41⟩) (x := Str.ofString "lp") (v := .ref D) K1 (by k_mem) (kL _ rfl)) (evI_loc (pos := ⟨37, 42, 37, 43⟩) (x := Str.ofString "i") K1 (by k_mem) (kL _ rfl)) (hD2.at fun o e => K1.keep _ o (k23 _ o e)) hlp (by omega) hlpi (by omega)
            have l1 := lgn_lt b[i]!.toNat
            have l2 := lgn_lt q[j]!
            have vs' := (ev_add (pos := ⟨37, 39, 37, 49⟩) vl (evI_loc (pos := ⟨37, 47, 37, 49⟩) (x := Str.ofString "lq") K1 (by k_mem) (kL _ rfl))).eqI (show _ = ((lgn b[i]!.toNat + lgn q[j]! : Nat) : Int) by omega)
            have ve := ev_idxB (pos := ⟨37, 32, 37, 50⟩) (ev_gl (w := w) (A := A.deeper env) (env := env) (pos := ⟨37, 32, 37, 38⟩) W3.g gE (kG _ rfl) hk e2) vs' (K1.keep _ _ (k23 _ _ oE)) (by omega) (by rw [Int.toNat_natCast]; exact W3.tab.e _ (by omega)) (by omega)
            rw [u8 (pw_lt _)] at ve
            refine execsN_cons (wpAny.n (augXorB (s := { s with heap := g1, toks := tk2 }) K1 (ev_loc K1 (by k_mem) (kL _ rfl)) ix ve (get_bang (by rw [hsz2]; omega)) (by rw [hsz2, sizeLine_eq]; omega) (pw_lt _) fun g2 tk3 K2 => ⟨rfl, ?_⟩))
            refine execsN_nil (fin2 g2 tk3 ?_)
            rw [step, stepA, if_neg hz2]
            exact K2.subV (by
              intro p hp
              simp only [List.mem_cons, List.not_mem_nil, or_false] at hp
              rcases hp with rfl | rfl | rfl | rfl | rfl | rfl <;> k_mem)
        · rintro g tk l os K ⟨rfl, rfl⟩
          refine ⟨rfl, execsN_nil (fin g tk ?_)⟩
          rw [up, rowA, if_neg hz]
          exact K.subV (by
            intro p hp
            simp only [List.mem_cons, List.not_mem_nil, or_false] at hp
            rcases hp with rfl | rfl | rfl | rfl <;> k_mem)
    · rintro g tk l os G ⟨rfl, rfl⟩
      refine ⟨rfl, execsN_cons' (returnN (Ev.useN (s := { s with heap := g, toks := tk }) (ev_loc G (by k_mem) (kL _ rfl)) fun v tk' hv => ?_))⟩
      cases hv
      refine hQ g tk' R (fun b o e => G.keep _ _ (kB _ _ e)) ?_ (G.get (List.mem_cons_self ..))
      have := (G.own _ (List.mem_cons_self ..)).2.1
      cases hs' : s.heap.get? R with
      | none => rfl
      | some o => rw [kB _ _ hs'] at this; cases this
end
end Mine
end

/-! part GP -/
section
open PySem PySem.W PyProof.Rows
namespace Mine
local macro_rules | `(tactic| k_mem) => `(tactic| (refine mem_filter_ne ?_ (by decide); k_mem))

/-- the generator polynomial, as it is built -/
def genA (e : Nat) (fcr : Int) : Nat → Array UInt8
  | 0 => #[1]
  | n + 1 => polyA (genA e fcr n) [1, pw (((e : Int) * ((n : Int) + fcr)).fmod 255).toNat]
theorem genA_size (e : Nat) (fcr : Int) : ∀ n, (genA e fcr n).size = n + 1
  | 0 => rfl
  | n + 1 => by rw [genA, polyA, polyUp_size, genA_size e fcr n]; simp

theorem FnAt.func {h : Heap} {d : DefRec} {a : Addr} (x : FnAt h d a) : ∃ fd o, h.get? a = some o ∧ o.data = .func fd := by
  obtain ⟨o, dV, pm, cd, doc, an, vs, h1, h2, h3, h4, h5⟩ := x
  exact ⟨_, _, h1, h2⟩
section
variable {w : World} {A : Around} {env : Env} {h h₁ : Heap} {l : Vars} {os : Objs} {gl : Vars} {eB lB : Array UInt8} {s : Shared}

theorem evalN_List {elts : List Expr} {trees : List (Bool × Sem Value)} {pos : Pos} {Q : Value → Shared → Prop} (ht : backTo pos (starEach elts env) = trees)
    (h : wpN w A (spliced trees) (fun vs s₁ => vs.length ≤ sizeLine ∧ Q (.ref s₁.heap.objs.size) { s₁ with heap := s₁.heap.push (lsObj vs 0) }) s) : wpN w A (eval (.List elts pos) env) Q s := by
  subst ht
  show wpN w A (do standAt pos; newList (← spliced (backTo pos (starEach elts env)))) Q s
  refine wpN_bind (wpN_standAt (wpN_bind (wpN_mono h fun vs s₁ h₁ => wpAny.n ?_)))
  exact wpAny_newObj_type h₁.2 (by show vs.toArray.size ≤ sizeLine; rw [List.size_toArray]; exact h₁.1)

theorem fresh_none (h : Heap) : h.get? h.objs.size = none := by
  cases hq : h.get? h.objs.size with
  | none => rfl
  | some o => exact absurd (Heap.lt_size hq) (Nat.lt_irrefl _)
theorem none_of_keep {h h' : Heap} {a : Addr} (hk : ∀ b o, h.get? b = some o → h'.get? b = some o) (ha : h'.get? a = none) : h.get? a = none := by
  cases hq : h.get? a with
  | none => rfl
  | some o => rw [hk _ _ hq] at ha; cases ha

theorem gen_spec {f fm fp : Addr} {e n : Nat} {fcr : Int} {t u v : Tok} {Q : Value → Shared → Prop} (W : World1 gl eB lB s.heap) (hf : FnAt s.heap dGen f) (hm : FnAt s.heap dPoly fm) (hp : FnAt s.heap dPow fp)
    (gm : (Str.ofString "gf_poly_mul", .ref fm) ∈ gl) (gp : (Str.ofString "gf_pow", .ref fp) ∈ gl) (hroom : A.depth + 3 < recursionLimit) (hh : A.handled = none) (he : e < 255) (hn : n ≤ 100)
    (hQ : ∀ h' tk a', (∀ b o, s.heap.get? b = some o → h'.get? b = some o) → s.heap.get? a' = none → h'.get? a' = some (baObj (genA e fcr n)) → Q (.ref a') { s with heap := h', toks := tk }) :
    wpN w A (call (.ref f) [.int n t, .int fcr u, .int (pw e) v]) Q s := by
  refine callD (binds := [("nsym", .int n t), ("fcr", .int fcr u), ("generator", .int (pw e) v)]) W.g hf (by omega) ?_ (by rfl) (by decide +kernel) (by show (["nsym", "fcr", "generator"] : List Str).Nodup; decide) (by rfl) (by rfl) (by rfl) fun env h' tk e1 e2 e3 e4 F => ?_
  · intro dV pm cd doc an vs hv hd
    rcases hd with ⟨rfl, rfl⟩ | ⟨_, T, o', m, rfl, ho, hd⟩
    · exact hv.elim
    · obtain ⟨a, b, rfl⟩ : ∃ a b, vs = [a, b] := by
        match vs, hv with
        | [a, b], _ => exact ⟨a, b, rfl⟩
      exact BindsTo.of_defaults rfl ho hd rfl (by kernel_rfl)
  have kL : ∀ x, dGen.scope.names.lookup x = some .local → env.kindOf x = some .local := fun x h => kindOf_of e1 h
  have kG : ∀ x, dGen.scope.names.lookup x = some .globalImplicit → env.kindOf x = some .globalImplicit := fun x h => kindOf_of e1 h
  have hk : env.scope.kind = .function := F.kind
  have hh' : (A.deeper env).handled = none := hh
  have hdep : (A.deeper env).depth = A.depth + 1 := rfl
  conv => arg 3; arg 1; whnf
  -- g = _bytearray([1])
  have W1 := W.keeps F.keep
  refine execsN_cons (assignN (evalN_Call rfl (Ev.useN (s := { s with heap := h', toks := tk }) (ev_gl W1.g W1.ba (kG _ rfl) hk e2) fun v tk1 hv => ?_)))
  cases hv
  refine callWithN_type rfl (splicedN_cons (evalN_List rfl (splicedN_cons (Ev.useN (s := { s with heap := h', toks := tk1 }) ev_int fun v tk2 hv => ?_))))
  obtain ⟨t1, rfl⟩ := hv
  refine splicedN_nil ⟨by rw [sizeLine_eq]; simp, splicedN_nil ?_⟩
  refine callN_ba_list (s := { s with heap := h'.push (lsObj [.int 1 t1] 0), toks := tk2 }) (vs := [.int 1 t1]) (ns := [1]) ⟨_, Heap.get?_push_size _ rfl, rfl, _, rfl⟩ (.cons _ _ .nil) (by simp) (by rw [sizeLine_eq]; simp) fun h2 g1 g2 => ?_
  have F2 := (F.push (lsObj [.int 1 t1] 0)).subO (List.sublist_cons_self ..)
  have F3 := F2.new g2 (fresh_none _) g1
  generalize (h'.push (lsObj [.int 1 t1] 0)).objs.size = R at F3
  refine wpAny.n (st_loc (s := { s with heap := h2, toks := tk2 }) F3 (kL _ rfl) fun h3 tk3 F4 => ⟨rfl, ?_⟩)
  have oc : octs [1] = genA e fcr 0 := rfl
  rw [oc] at F4
  have F6 := F4.subV (l' := [(Str.ofString "fcr", .int fcr u), (Str.ofString "generator", .int (pw e) v), (Str.ofString "g", .ref R)]) (by
    intro p hp
    simp only [List.mem_cons, List.not_mem_nil, or_false] at hp
    rcases hp with rfl | rfl | rfl <;> k_mem)
  have en := evI_loc (w := w) (A := A.deeper env) (pos := ⟨41, 20, 41, 24⟩) (x := Str.ofString "nsym") F4 (by k_mem) (kL _ rfl)
  clear F4 F3 F2 F
  have rN : s.heap.get? R = none := (F6.own _ (List.mem_cons_self ..)).2.1
  obtain ⟨fdm, fom, fmo, fmd⟩ := hm.func
  obtain ⟨fdp, fop, fpo, fpd⟩ := hp.func
  -- for i in xrange(nsym)
  refine execsN_cons (forRange1 (s := { s with heap := h3, toks := tk3 }) (n := n) (fun i l os => ∃ a, l = [(Str.ofString "fcr", .int fcr u), (Str.ofString "generator", .int (pw e) v), (Str.ofString "g", .ref a)] ∧ s.heap.get? a = none ∧ os = [(a, baObj (genA e fcr i))]) hh' F6
      (ev_gl (W.keeps F6.keep).g W.xr (kG _ rfl) hk e2) en (by omega) ⟨R, rfl, rN, rfl⟩ ?_ ?_)
  · rintro i ti l os h₂ g tk hi ⟨a, rfl, ha, rfl⟩ G k2
    refine asgN (s := { s with heap := g, toks := tk }) G (kL _ rfl) fun g1 tk1 G1 => ?_
    have k21 : ∀ b o, s.heap.get? b = some o → g1.get? b = some o := fun b o e => G1.keep _ _ (k2 _ _ e)
    have W2 := W.keeps k21
    refine execsN_cons (assignN (evalN_Call rfl (Ev.useN (s := { s with heap := g1, toks := tk1 }) (ev_gl W2.g gm (kG _ rfl) hk e2) fun v tk2 hv => ?_)))
    cases hv
    refine callWithN_fn (fd := fdm) rfl (splicedN_cons (Ev.useN (s := { s with heap := g1, toks := tk2 }) (ev_loc G1 (by k_mem) (kL _ rfl)) fun v tk3 hv => ?_))
    cases hv
    refine splicedN_cons (evalN_List rfl (splicedN_cons (Ev.useN (s := { s with heap := g1, toks := tk3 }) ev_int fun v tk4 hv => ?_)))
    obtain ⟨t1, rfl⟩ := hv
    refine splicedN_cons (evalN_Call rfl (Ev.useN (s := { s with heap := g1, toks := tk4 }) (ev_gl W2.g gp (kG _ rfl) hk e2) fun v tk5 hv => ?_))
    cases hv
    refine callWithN_fn (fd := fdp) rfl (splicedN_cons (Ev.useN (s := { s with heap := g1, toks := tk5 }) (ev_loc G1 (by k_mem) (kL _ rfl)) fun v tk6 hv => ?_))
    cases hv
    refine splicedN_cons (Ev.useN (s := { s with heap := g1, toks := tk6 }) (ev_add (evI_loc G1 (by k_mem) (kL _ rfl)) (evI_loc G1 (by k_mem) (kL _ rfl))) fun v tk7 hv => ?_)
    obtain ⟨t2, rfl⟩ := hv
    refine splicedN_nil ⟨⟨_, k21 _ _ fpo, fpd⟩, gf_pow_spec (s := { s with heap := g1, toks := tk7 }) W2 (hp.keeps k21) (by show A.depth + 1 < _; omega) he fun g3 tk8 t3 k3 => ?_⟩
    refine splicedN_nil ⟨by rw [sizeLine_eq]; simp, splicedN_nil ?_⟩
    have k4 : ∀ o' b o, g1.get? b = some o → (g3.push o').get? b = some o := fun o' b o e => Heap.get?_push_of_some _ (k3 _ _ e)
    refine ⟨⟨_, k4 _ _ _ (k21 _ _ fmo), fmd⟩, ?_⟩
    refine gf_poly_mul_spec (s := { s with heap := g3.push _, toks := tk8 }) (b := genA e fcr i) (vs := [.int 1 t1, .int (pw (((e : Int) * ((i : Int) + fcr)).fmod 255).toNat) t3]) (q := [1, pw (((e : Int) * ((i : Int) + fcr)).fmod 255).toNat]) (W2.keeps (k4 _)) (hm.keeps fun b o e => k4 _ _ _ (k21 _ _ e)) (by show A.depth + 1 < _; omega) hh'
      (k4 _ _ _ (G1.get (List.mem_cons_self ..))) ⟨_, Heap.get?_push_size _ rfl, rfl, _, rfl⟩ (.cons _ _ (.cons _ _ .nil)) ?_ (by rw [genA_size]; simp; omega) (by rw [genA_size]; omega) fun g5 tk9 a' k5 n5 o5 => ?_
    · intro x hx
      simp only [List.mem_cons, List.not_mem_nil, or_false] at hx
      rcases hx with rfl | rfl
      · decide
      · exact pw_lt _
    · have k6 : ∀ b o, g1.get? b = some o → g5.get? b = some o := fun b o e => k5 _ _ (k4 _ _ _ e)
      have n6 : g1.get? a' = none := none_of_keep (k4 _) n5
      have G2 := (G1.subO (List.sublist_cons_self ..)).new k6 n6 o5
      refine wpAny.n (st_loc (s := { s with heap := g5, toks := tk9 }) G2 (kL _ rfl) fun g7 tk10 G3 => ⟨rfl, ?_⟩)
      refine execsN_nil ⟨rfl, g7, tk10, _, _, rfl, G3.subV ?_, a', rfl, none_of_keep k21 n6, rfl⟩
      intro p hp
      simp only [List.mem_cons, List.not_mem_nil, or_false] at hp
      rcases hp with rfl | rfl | rfl <;> k_mem
  · rintro g tk l os G ⟨a, rfl, ha, rfl⟩
    refine ⟨rfl, execsN_cons' (returnN (Ev.useN (s := { s with heap := g, toks := tk }) (ev_loc G (by k_mem) (kL _ rfl)) fun v tk' hv => ?_))⟩
    cases hv
    exact hQ g tk' a (fun b o e => G.keep _ _ e) ha (G.get (List.mem_cons_self ..))
end
end Mine
end

/-! part SL -/
section
open PySem PySem.W PyProof.Rows
namespace Mine

def baPart (v : Value) : Sem Value := do
  if v == .none then return .none
  if (← specialOf v "__index__").isNone then
    rule "bytes.slice.part-no-index"; raiseError "TypeError" "slice indices must be integers or None or have an __index__ method"
  return rawInt (← asIndex v)
theorem baSliceParts_eq (s : Value) : Builtin.Bytes.sliceParts s = (do
    let step ← baPart (← field s 2)
    if step == rawInt 0 then rule "bytes.slice.step-zero"; raiseError "ValueError" "slice step cannot be zero"
    let first ← baPart (← field s 0)
    let last ← baPart (← field s 1)
    return (first, last, step)) := rfl

section
variable {M : Model} {A : Around} {E : Value → Shared → Prop} {s : Shared}
theorem wpAny_baPart {v : Value} {k : Option Int} {Q : Value → Shared → Prop} (hv : IsPart v k) (h : Q (rawPart k) s) : wpAny M A (baPart v) Q E s := by
  cases hv with
  | none => exact wpAny_pure h
  | int i t =>
    unfold baPart
    rw [if_neg (show ¬ ((Value.int i t == Value.none) = true) from Bool.false_ne_true)]
    refine wpAny_bind (wpAny_specialOf (T := "int") (typeIs_int s i t) int_index ?_)
    simp only [Option.isNone_some, Bool.false_eq_true, if_false]
    exact wpAny_bind (wpAny_of_eq (a := i) rfl (wpAny_pure h))
theorem ba_sliceParts {sl : Addr} {vl vu vs : Value} {lo hi st : Option Int} {Q : Value × Value × Value → Shared → Prop} (hs : s.heap.IsSliceOf sl vl vu vs) (pl : IsPart vl lo) (pu : IsPart vu hi) (ps : IsPart vs st) (h0 : st ≠ some 0)
    (h : Q (rawPart lo, rawPart hi, rawPart st) s) : wpAny M A (Builtin.Bytes.sliceParts (.ref sl)) Q E s := by
  obtain ⟨os, hos, hcs, hds⟩ := id hs
  rw [baSliceParts_eq]
  have hstep : ¬ ((rawPart st == rawInt 0) = true) := by
    cases st with
    | none => exact Bool.false_ne_true
    | some c =>
      intro hh
      have : c = 0 := by simpa [rawPart, rawInt] using hh
      exact h0 (by rw [this])
  refine wpAny_bind (wpAny_field hos hds (x := vs) rfl (wpAny_bind (wpAny_baPart ps ?_)))
  rw [if_neg hstep]
  refine wpAny_bind (wpAny_field hos hds (x := vl) rfl (wpAny_bind (wpAny_baPart pl ?_)))
  exact wpAny_bind (wpAny_field hos hds (x := vu) rfl (wpAny_bind (wpAny_baPart pu (wpAny_pure h))))
end

section
variable {prog : Program} {w : World} {A : Around} {E : Value → Shared → Prop} {s : Shared}
/-- a[:len(c)] = c -/
theorem ba_setSlice {a c sl : Addr} {b d : Array UInt8} {t : Tok} {Q : Unit → Shared → Prop} (hb : s.heap.get? a = some (baObj b)) (hc : s.heap.get? c = some (baObj d)) (hne : a ≠ c)
    (hs : s.heap.IsSliceOf sl .none (.int d.size t) .none) (hn : d.size ≤ b.size) (hsz : b.size ≤ sizeLine)
    (h : ∀ h', h'.get? a = some (baObj (d ++ b.extract d.size b.size)) → Heap.SameBut a s.heap h' → Q () { s with heap := h' }) :
    wpAny (model prog w) A (setItem (.ref a) (.ref sl) (.ref c)) Q E s := by
  have hT := ba_typeIs (s := s) hb
  have hTc := ba_typeIs (s := s) hc
  obtain ⟨os, hos, hcs, hds⟩ := id hs
  have hTs : s.TypeIs (.ref sl) "slice" := ⟨os, hos, hcs⟩
  unfold setItem
  try with_reducible refine wpAny_holding ?_
  first | refine wpAny_bind (wpAny_pure ?_) | skip
  refine wpAny_bind (wpAny_sequenceKey hT (by decide) ?_)
  refine wpAny_bind (wpAny_callSpecial?_slot (name := Str.ofString "__setitem__") hT slot_ba_setitem
    (wpAny_call_entry slot_ba_setitem hT entry_ba_setitem ?_ (args_ba_setitem _ _ _)))
  show wpAny _ _ (Builtin.Bytes.subscript? (.ref sl) >>= _) _ _ s
  refine wpAny_bind ?_
  unfold Builtin.Bytes.subscript?
  refine wpAny_bind (wpAny_specialOf hTs slice_no_index ?_)
  simp only [Option.isNone_none, if_true]
  refine wpAny_pure ?_
  show wpAny _ _ (typeOf (.ref sl) >>= _) _ _ s
  refine wpAny_bind (wpAny_typeOf hTs ?_)
  rw [if_neg (by decide)]
  refine wpAny_bind (ba_sliceParts hs .none (.int _ _) .none (by simp) ?_)
  have hsr : Builtin.Bytes.sameRef (.ref a) (.ref c) = false := by simpa [Builtin.Bytes.sameRef] using hne
  simp only [hsr, Bool.false_eq_true, if_false]
  refine wpAny_bind (wpAny_isInstance (T := "bytearray") (b := true) hTc (by rw [isSubtype_type]; kernel_rfl) ?_)
  simp only [Bool.not_true, Bool.false_eq_true, if_false]
  refine wpAny_bind (ba_payload hc ?_)
  refine wpAny_bind (ba_payload hb ?_)
  refine wpAny_bind (wpAny_of_eq (sliceIndices_raw none (some (d.size : Int)) none b.size (by simp)) ?_)
  have hbd : sliceBounds none (some (d.size : Int)) none b.size = (0, (d.size : Int), 1) := by
    simp only [sliceBounds, Option.getD_none, show (1 : Int) > 0 by decide, if_true]
    congr 2
    rw [if_neg (by omega)]
    omega
  rw [hbd]
  simp only [beq_self_eq_true, if_true]
  have hmx : max (0 : Int) d.size - 0 = d.size := by omega
  have hmx' : max (0 : Int) d.size = d.size := by omega
  show wpAny _ _ (if ((d.size : Int) != max 0 (d.size : Int) - 0) = true then _ else _) _ _ s
  rw [if_neg (by rw [hmx]; simp)]
  have hf : b.extract 0 (Int.toNat 0) ++ d ++ b.extract (max 0 (d.size : Int)).toNat b.size = d ++ b.extract d.size b.size := by
    rw [hmx']; simp
  refine wpAny_bind (ba_update hb (by show (_ : Array UInt8).size ≤ _; rw [hf]; simp; omega) fun h' e1 e2 => ?_)
  rw [hf] at e1
  exact wpAny_pure ⟨_, rfl, wpAny_pure (h h' e1 e2)⟩
end
section
variable {w : World} {A : Around} {env : Env} {h h₁ : Heap} {l : Vars} {os : Objs} {s : Shared} {E : Value → Shared → Prop}
/-- a[:n] = c with n = len(c) -/
theorem setSlice {o e v : Expr} {tpos spos pos : Pos} {a c : Addr} {b d : Array UInt8} {Q : Flow → Shared → Prop} (F : Frm env h₁ s.heap l ((a, baObj b) :: os)) (hc : h₁.get? c = some (baObj d))
    (ho : Ev w A env s.heap o (IsV (.ref a))) (he : Ev w A env s.heap e (IsI d.size)) (hv : Ev w A env s.heap v (IsV (.ref c))) (hn : d.size ≤ b.size) (hsz : b.size ≤ sizeLine)
    (hQ : ∀ h' tk, Frm env h₁ h' l ((a, baObj (d ++ b.extract d.size b.size)) :: os) → Q .next { s with heap := h', toks := tk })
    (hs : swapsWith v (some (.Subscript o (.Slice none (some e) none spos) tpos)) pos.line env = pure false := by rfl) :
    wpAny (model PT w) A (exec (.Assign [.Subscript o (.Slice none (some e) none spos) tpos] v pos) env) Q E s := by
  have hne : a ≠ c := by
    rintro rfl
    rw [(F.own _ (List.mem_cons_self ..)).2.1] at hc
    cases hc
  refine wpAny_Assign_Subscript (hv s _ E rfl fun u tk hu => ?_) hs
  cases hu
  refine ho { s with toks := tk } _ E rfl fun u tk2 hu => ?_
  cases hu
  refine wpAny_Slice (wpAny_evalPart_none (wpAny_evalPart_some (he _ _ E rfl fun u tk3 hu => wpAny_evalPart_none ?_)))
  obtain ⟨t, rfl⟩ := hu
  have F2 := (F.push { cls := .type "slice", data := .fields #[.none, .int d.size t, .none] }).subO (List.sublist_cons_self ..)
  refine ba_setSlice (s := { s with heap := s.heap.push _, toks := tk3 }) (F2.get (List.mem_cons_self ..)) (F2.keep _ _ hc) hne (Heap.IsSliceOf.new ..) hn hsz fun h' e1 e2 => ?_
  exact hQ h' tk3 (F2.upd0 e2 e1)

/-- x is None -/
theorem evB_isNone {e : Expr} {pos : Pos} {k : Nat} {cp : Pos} (he : Ev w A env h e (IsV .none)) : EvB w A env h (.Compare e [.Is] [.Constant .none k cp] pos) true := by
  intro s Q E hs hq
  refine wpAny_isTrue_Compare1 (he s _ E hs fun v tk hv => ?_) (by with_unfolding_all rfl)
  cases hv
  refine ev_none (A := A) (env := env) (h := h) _ _ E hs fun v tk hv => ?_
  cases hv
  refine wpAny_of_eq (a := .bool true) (by with_unfolding_all rfl) (wpAny_truthy_bool (hq _))
end
end Mine
end

/-! part EN -/
section
open PySem PySem.W PyProof.Rows
namespace Mine
local macro_rules | `(tactic| k_mem) => `(tactic| (refine mem_filter_ne ?_ (by decide); k_mem))

def encIn (g : Array UInt8) (lc i : Nat) (r : Array UInt8) (j : Nat) : Array UInt8 := r.setIfInBounds (i + (1 + j)) (r[i + (1 + j)]!.toNat ^^^ pw (lc + lgn g[1 + j]!.toNat)).toUInt8
def encRow (g : Array UInt8) (r : Array UInt8) (i : Nat) : Array UInt8 := if r[i]!.toNat = 0 then r else (List.range (g.size - 1)).foldl (encIn g (lgn r[i]!.toNat) i) r
def encUp (b g : Array UInt8) (n : Nat) : Array UInt8 := (List.range n).foldl (encRow g) (b ++ Array.replicate (g.size - 1) 0)
def encG (g b : Array UInt8) : Array UInt8 := b ++ (encUp b g b.size).extract b.size (encUp b g b.size).size
def encA (e : Nat) (fcr : Int) (n : Nat) (b : Array UInt8) : Array UInt8 := encG (genA e fcr n) b

theorem encIn_fold_size (g : Array UInt8) (lc i : Nat) : ∀ (js : List Nat) (r : Array UInt8), (js.foldl (encIn g lc i) r).size = r.size
  | [], r => rfl
  | j :: js, r => by rw [List.foldl_cons, encIn_fold_size g lc i js, encIn]; simp
theorem encRow_size (g r : Array UInt8) (i : Nat) : (encRow g r i).size = r.size := by
  unfold encRow; split
  · rfl
  · exact encIn_fold_size ..
theorem encRow_fold_size (g : Array UInt8) : ∀ (is : List Nat) (r : Array UInt8), (is.foldl (encRow g) r).size = r.size
  | [], r => rfl
  | i :: is, r => by rw [List.foldl_cons, encRow_fold_size g is, encRow_size]
theorem encUp_size (b g : Array UInt8) (n : Nat) : (encUp b g n).size = b.size + (g.size - 1) := by unfold encUp; rw [encRow_fold_size]; simp

section
variable {w : World} {A : Around} {env : Env} {h h₁ : Heap} {l : Vars} {os : Objs} {gl : Vars} {eB lB : Array UInt8} {s : Shared}

theorem enc_spec {f fg fm fp m : Addr} {b : Array UInt8} {e n : Nat} {fcr : Int} {t u v : Tok} {Q : Value → Shared → Prop} (W : World1 gl eB lB s.heap) (hf : FnAt s.heap dEnc f) (hg : FnAt s.heap dGen fg) (hm : FnAt s.heap dPoly fm) (hp : FnAt s.heap dPow fp)
    (gg : (Str.ofString "rs_generator_poly", .ref fg) ∈ gl) (gm : (Str.ofString "gf_poly_mul", .ref fm) ∈ gl) (gp : (Str.ofString "gf_pow", .ref fp) ∈ gl) (hroom : A.depth + 4 < recursionLimit) (hh : A.handled = none) (he : e < 255) (hn : n ≤ 100)
    (hb : s.heap.get? m = some (baObj b)) (hbn : b.size + n ≤ 255)
    (hQ : ∀ h' tk a', (∀ b o, s.heap.get? b = some o → h'.get? b = some o) → s.heap.get? a' = none → h'.get? a' = some (baObj (encA e fcr n b)) → Q (.ref a') { s with heap := h', toks := tk }) :
    wpN w A (call (.ref f) [.ref m, .int n t, .int fcr u, .int (pw e) v]) Q s := by
  refine callD (binds := [("msg_in", .ref m), ("nsym", .int n t), ("fcr", .int fcr u), ("generator", .int (pw e) v), ("gen", .none)]) W.g hf (by omega) ?_ (by rfl) (by decide +kernel) (by show (["msg_in", "nsym", "fcr", "generator", "gen"] : List Str).Nodup; decide) (by rfl) (by rfl) (by rfl) fun env h' tk e1 e2 e3 e4 F => ?_
  · intro dV pm cd doc an vs hv hd
    rcases hd with ⟨rfl, rfl⟩ | ⟨_, T, o', m, rfl, ho, hd⟩
    · exact hv.elim
    · obtain ⟨a, b, c, rfl, rfl⟩ : ∃ a b c, vs = [a, b, c] ∧ c = .none := by
        match vs, hv with
        | [a, b, c], hv => exact ⟨a, b, c, rfl, hv.2.2.1⟩
      exact BindsTo.of_defaults rfl ho hd rfl (by kernel_rfl)
  have kL : ∀ x, dEnc.scope.names.lookup x = some .local → env.kindOf x = some .local := fun x h => kindOf_of e1 h
  have kG : ∀ x, dEnc.scope.names.lookup x = some .globalImplicit → env.kindOf x = some .globalImplicit := fun x h => kindOf_of e1 h
  have kP : env.kindOf "gen" = some .cell := kindOf_of (d := dEnc) e1 rfl
  have cP : env.cells.lookup (Str.ofString "gen") = some (env.locals + 1) := by rw [e4]; rfl
  have hk : env.scope.kind = .function := F.kind
  have hh' : (A.deeper env).handled = none := hh
  have eLen : ∀ {g : Heap} (Wg : World1 gl eB lB g) pos, Ev w (A.deeper env) env g (.Name (Str.ofString "len") pos) (IsV (.builtin "len")) := fun Wg pos => ev_bl Wg.g (by decide) boot_len (kG _ rfl) hk e2 e3
  conv => arg 3; arg 1; whnf
  have W1 := W.keeps F.keep
  have hb1 := F.keep _ _ hb
  have hS : b.size ≤ sizeLine := by rw [sizeLine_eq]; omega
  obtain ⟨tf, gf⟩ := W.fc
  -- if len(msg_in) + nsym > field_charac
  refine execsN_cons (ifN (testN (s := { s with heap := h', toks := tk }) (h := h') (evB_gt (ev_add (ev_lenB (eLen W1 _) (ev_loc F (by k_mem) (kL _ rfl)) hb1 hS) (evI_loc F (by k_mem) (kL _ rfl))) ((ev_gl W1.g gf (kG _ rfl) hk e2).toI ⟨_, rfl⟩)) fun tk1 => ?_))
  rw [if_neg (by simp; omega)]
  refine execsN_nil ⟨rfl, ?_⟩
  -- if gen is None
  refine execsN_cons (ifN (testN (s := { s with heap := h', toks := tk1 }) (h := h') (evB_isNone (ev_cell F (by k_mem) kP cP)) fun tk2 => ?_))
  rw [if_pos rfl]
  obtain ⟨fdg, fog, fgo, fgd⟩ := hg.func
  refine execsN_cons (assignN (evalN_Call rfl (Ev.useN (s := { s with heap := h', toks := tk2 }) (ev_gl W1.g gg (kG _ rfl) hk e2) fun v tk3 hv => ?_)))
  cases hv
  refine callWithN_fn (fd := fdg) rfl (splicedN_cons (Ev.useN (s := { s with heap := h', toks := tk3 }) (ev_loc F (by k_mem) (kL _ rfl)) fun v tk4 hv => ?_))
  cases hv
  refine splicedN_cons (Ev.useN (s := { s with heap := h', toks := tk4 }) (ev_loc F (by k_mem) (kL _ rfl)) fun v tk5 hv => ?_)
  cases hv
  refine splicedN_cons (Ev.useN (s := { s with heap := h', toks := tk5 }) (ev_loc F (by k_mem) (kL _ rfl)) fun v tk6 hv => ?_)
  cases hv
  refine splicedN_nil ⟨⟨_, F.keep _ _ fgo, fgd⟩, gen_spec (s := { s with heap := h', toks := tk6 }) W1 (hg.keeps F.keep) (hm.keeps F.keep) (hp.keeps F.keep) gm gp (by show A.depth + 1 + 3 < _; omega) hh' he hn fun h2 tk7 G k2 nG oG => ?_⟩
  have F2 := F.new k2 nG oG
  refine wpAny.n (st_cell (s := { s with heap := h2, toks := tk7 }) F2 kP cP fun h3 tk8 F3 => ⟨rfl, execsN_nil ⟨rfl, ?_⟩⟩)
  obtain ⟨hB, F4, kB, oG2⟩ := F3.freeze
  have gS := genA_size e fcr n
  unfold encA at hQ
  clear F3 F2 oG
  generalize genA e fcr n = gn at *
  have hSg : gn.size ≤ sizeLine := by rw [sizeLine_eq]; omega
  -- msg_in = _bytearray(msg_in)
  have W3 := (W.keeps kB).keeps F4.keep
  refine execsN_cons (assignN (evalN_baBa (s := { s with heap := h3, toks := tk8 }) (b := b) (ev_gl W3.g W3.ba (kG _ rfl) hk e2) (ev_loc F4 (by k_mem) (kL _ rfl)) (F4.keep _ _ (kB _ _ hb)) hS fun h4 tk9 g1 g2 => ?_))
  have F5 := F4.new g2 (fresh_none _) g1
  generalize h3.objs.size = M at F5
  refine wpAny.n (st_loc (s := { s with heap := h4, toks := tk9 }) F5 (kL _ rfl) fun h5 tk10 F6 => ⟨rfl, ?_⟩)
  obtain ⟨hC, F7, kC, oM⟩ := F6.freeze
  have oG3 := kC _ _ oG2
  have kBC : ∀ b o, s.heap.get? b = some o → hC.get? b = some o := fun b o e => kC _ _ (kB _ _ e)
  -- msg_out = _bytearray(msg_in) + _bytearray(len(gen) - 1)
  have W4 := (W.keeps kBC).keeps F7.keep
  refine execsN_cons (assignN (binN (evalN_baBa (s := { s with heap := h5, toks := tk10 }) (b := b) (ev_gl W4.g W4.ba (kG _ rfl) hk e2) (ev_loc F7 (by k_mem) (kL _ rfl)) (F7.keep _ _ oM) hS fun h6 tk11 g3 g4 => ?_)))
  have F8 := F7.keeps g4
  have W5 := (W.keeps kBC).keeps F8.keep
  refine evalN_baCount (s := { s with heap := h6, toks := tk11 }) (n := gn.size - 1) (ev_gl W5.g W5.ba (kG _ rfl) hk e2) ((ev_sub (ev_lenB (eLen W5 _) (ev_cell F8 (by k_mem) kP cP) (F8.keep _ _ oG3) hSg) ev_int).eqI (by omega)) (by rw [sizeLine_eq]; omega) fun h7 tk12 g5 g6 => ?_
  have F9 := F8.keeps g6
  refine wpAny.n (ba_add (s := { s with heap := h7, toks := tk12 }) (g6 _ _ g3) g5 (by rw [sizeLine_eq]; simp; omega) ?_)
  have F10 := F9.push (baObj (b ++ Array.replicate (gn.size - 1) 0))
  generalize h7.objs.size = R at F10
  refine wpAny.n (st_loc (s := { s with heap := h7.push _, toks := tk12 }) F10 (kL _ rfl) fun h8 tk13 F11 => ⟨rfl, ?_⟩)
  clear F10 F9 F8 F7 F6 F5 F4
  -- lgen = _bytearray([..])
  have W6 := (W.keeps kBC).keeps F11.keep
  have oG6 := F11.keep _ _ oG3
  refine execsN_cons (assignN (evalN_Call rfl (Ev.useN (s := { s with heap := h8, toks := tk13 }) (ev_gl W6.g W6.ba (kG _ rfl) hk e2) fun v tk14 hv => ?_)))
  cases hv
  have hcl : closureFor (Scope.mk ScopeKind.function [(Str.ofString ".0", NameKind.local), (Str.ofString "j", NameKind.local), (Str.ofString "gf_log", NameKind.globalImplicit), (Str.ofString "gen", NameKind.free)] false false []) env = pure [(Str.ofString "gen", env.locals + 1)] := by
    unfold closureFor
    simp [cellOf, cP]
  refine callWithN_type rfl (splicedN_cons (wpAny.n (compE (s := { s with heap := h8, toks := tk14 }) (n := gn.size) (src := fun i => i) (g := fun i => ((lgn gn[i.toNat]!.toNat : Nat) : Int)) hSg hcl ?_ rfl ?_ rfl
    (src_range1 hh' (ev_gl W6.g W6.xr (kG _ rfl) hk e2) (ev_lenB (eLen W6 _) (ev_cell F11 (by k_mem) kP cP) oG6 hSg) (by omega)) ?_ ?_)))
  · decide
  · decide
  · intro C i v g m hi' hn hm hv hkp
    obtain ⟨t, rfl⟩ := hv
    have Wg := W6.keeps hkp
    obtain ⟨aL, gL, oL⟩ := Wg.log
    obtain ⟨u, hu, hh2⟩ := F11.cell _ _ cP
    rw [hh2 (Str.ofString "gen", .ref G) (by k_mem) rfl kP] at hu
    have kk : ∀ x k, (relabel (Scope.mk ScopeKind.function [(Str.ofString ".0", NameKind.local), (Str.ofString "j", NameKind.local), (Str.ofString "gf_log", NameKind.globalImplicit), (Str.ofString "gen", NameKind.free)] false false []) env).names.lookup x = k →
      (compEnvC (Scope.mk ScopeKind.function [(Str.ofString ".0", NameKind.local), (Str.ofString "j", NameKind.local), (Str.ofString "gf_log", NameKind.globalImplicit), (Str.ofString "gen", NameKind.free)] false false []) [(Str.ofString "gen", env.locals + 1)] C env).kindOf x = k := fun x k h => h
    have hrel : (relabel (Scope.mk ScopeKind.function [(Str.ofString ".0", NameKind.local), (Str.ofString "j", NameKind.local), (Str.ofString "gf_log", NameKind.globalImplicit), (Str.ofString "gen", NameKind.free)] false false []) env).names
      = [(Str.ofString ".0", NameKind.local), (Str.ofString "j", NameKind.local), (Str.ofString "gf_log", NameKind.globalImplicit), (Str.ofString "gen", NameKind.cell)] := by
      simp [relabel, hk, kP]
    have ei : ∀ pos, Ev w (A.deeper env) (compEnvC (Scope.mk ScopeKind.function [(Str.ofString ".0", NameKind.local), (Str.ofString "j", NameKind.local), (Str.ofString "gf_log", NameKind.globalImplicit), (Str.ofString "gen", NameKind.free)] false false []) [(Str.ofString "gen", env.locals + 1)] C env) g (.Name (Str.ofString "j") pos) (IsI i) :=
      fun pos => (ev_ns rfl hn hm (kk _ _ (by rw [hrel]; rfl))).toI ⟨t, rfl⟩
    have v1 := ev_idxB (pos := ⟨51, 30, 51, 36⟩) (ev_isCell (pos := ⟨51, 30, 51, 33⟩) (x := Str.ofString "gen") rfl (hu.keeps hkp) (kk _ _ (by rw [hrel]; rfl)) rfl) (ei ⟨51, 34, 51, 35⟩) (hkp _ _ oG6) (by omega) (get_bang (i := i) (by simpa using hi')) (by omega)
    have v2 := ev_idxB (pos := ⟨51, 23, 51, 37⟩) (ev_gl (pos := ⟨51, 23, 51, 29⟩) Wg.g gL (kk _ _ (by rw [hrel]; rfl)) rfl e2) v1 oL (by omega) (logB Wg.tab (by simpa using gn[i]!.toNat_lt)) (by have := gn[i]!.toNat_lt; omega)
    rw [u8 (Nat.lt_trans (lgn_lt _) (by decide))] at v2
    simpa using v2
  · intro D h9 tk15 lvs cn k9 nD oD iD
    have k9' : ∀ b o, h8.get? b = some o → h9.get? b = some o := k9
    refine splicedN_nil (callN_ba_list (s := { s with heap := h9, toks := tk15 }) (vs := lvs) ⟨_, oD, rfl, _, rfl⟩ iD ?_ (by simpa using hSg) fun h10 g7 g8 => ?_)
    · intro x hx
      obtain ⟨i, -, rfl⟩ := List.mem_map.mp hx
      have := lgn_lt gn[((i : Nat) : Int).toNat]!.toNat
      omega
    have F12 := (F11.keeps k9').new g8 (fresh_none _) g7
    generalize h9.objs.size = L at F12
    refine wpAny.n (st_loc (s := { s with heap := h10, toks := tk15 }) F12 (kL _ rfl) fun h11 tk16 F13 => ⟨rfl, ?_⟩)
    obtain ⟨hE, F14, kE, oL⟩ := F13.freeze
    generalize hlg : octs (List.map (fun i : Nat => ((lgn gn[((i : Nat) : Int).toNat]!.toNat : Nat) : Int)) (List.range gn.size)) = lg at oL
    have lgAt : ∀ j, j < gn.size → lg[j]? = some (lgn gn[j]!.toNat).toUInt8 := by
      intro j hj
      subst hlg
      simp [octs, hj]
    have F15 := F14.subV (l' := [(Str.ofString "gen", .ref G), (Str.ofString "msg_in", .ref M), (Str.ofString "msg_out", .ref R), (Str.ofString "lgen", .ref L)]) (by
      intro p hp
      simp only [List.mem_cons, List.not_mem_nil, or_false] at hp
      rcases hp with rfl | rfl | rfl | rfl <;> k_mem)
    clear F14 F13 F12 F11 F
    have kS : ∀ b o, s.heap.get? b = some o → hE.get? b = some o := fun b o e => kE _ _ (kBC _ _ e)
    have WE := W.keeps kS
    have oGE := kE _ _ oG3
    have oME := kE _ _ oM
    have hSu : ∀ j, (encUp b gn j).size ≤ sizeLine := fun j => by rw [encUp_size, sizeLine_eq]; omega
    -- for i in xrange(len(msg_in))
    refine execsN_cons (forRange1 (s := { s with heap := h11, toks := tk16 }) (n := b.size) (fun i l os => l = [(Str.ofString "gen", .ref G), (Str.ofString "msg_in", .ref M), (Str.ofString "msg_out", .ref R), (Str.ofString "lgen", .ref L)] ∧ os = [(R, baObj (encUp b gn i))]) hh' F15
      (ev_gl (WE.keeps F15.keep).g WE.xr (kG _ rfl) hk e2) (ev_lenB (eLen (WE.keeps F15.keep) _) (ev_loc F15 (by k_mem) (kL _ rfl)) (F15.keep _ _ oME) hS) (by omega) ⟨rfl, rfl⟩ ?_ ?_)
    · rintro i ti l os h₂ g tk hi ⟨rfl, rfl⟩ K kEh
      refine asgN (s := { s with heap := g, toks := tk }) K (kL _ rfl) fun g1 tk1 K1 => ?_
      have W2 := WE.keeps kEh
      have hus := encUp_size b gn i
      have up : encUp b gn (i + 1) = encRow gn (encUp b gn i) i := range_fold_succ ..
      -- coef = msg_out[i]
      have vc := ev_idxB (pos := ⟨53, 15, 53, 25⟩) (ev_loc (w := w) (A := A.deeper env) (pos := ⟨53, 15, 53, 22⟩) (x := Str.ofString "msg_out") (v := .ref R) K1 (by k_mem) (kL _ rfl)) (evI_loc (pos := ⟨53, 23, 53, 24⟩) (x := Str.ofString "i") K1 (by k_mem) (kL _ rfl)) (K1.get (List.mem_cons_self ..)) (by omega) (get_bang (i := i) (by rw [hus]; omega)) (by omega)
      refine execsN_cons (setN (s := { s with heap := g1, toks := tk1 }) K1 vc (kL _ rfl) fun v g2 tk2 hv K2 => ⟨rfl, ?_⟩)
      obtain ⟨tc, rfl⟩ := hv
      have hci : (encUp b gn i)[i]!.toNat < 256 := (encUp b gn i)[i]!.toNat_lt
      refine execsN_cons (ifN (testN (s := { s with heap := g2, toks := tk2 }) (h := g2) (evB_ne (evI_loc K2 (by k_mem) (kL _ rfl)) ev_int) fun tk3 => ?_))
      have fin : ∀ g3 tk3, Frm env h₂ g3 [(Str.ofString "gen", .ref G), (Str.ofString "msg_in", .ref M), (Str.ofString "msg_out", .ref R), (Str.ofString "lgen", .ref L)] [(R, baObj (encUp b gn (i + 1)))] →
          Flow.next = Flow.next ∧ wpN w (A.deeper env) (execs [] env) (fun f s₃ => f = .next ∧ ∃ h' tk' l' os', s₃ = { s with heap := h', toks := tk' } ∧ Frm env h₂ h' l' os' ∧ l' = [(Str.ofString "gen", .ref G), (Str.ofString "msg_in", .ref M), (Str.ofString "msg_out", .ref R), (Str.ofString "lgen", .ref L)] ∧ os' = [(R, baObj (encUp b gn (i + 1)))]) { s with heap := g3, toks := tk3 } :=
        fun g3 tk3 G3 => ⟨rfl, execsN_nil ⟨rfl, g3, tk3, _, _, rfl, G3, rfl, rfl⟩⟩
      by_cases hz : (encUp b gn i)[i]!.toNat = 0
      · rw [if_neg (by simp [hz])]
        refine execsN_nil (fin g2 tk3 ?_)
        rw [up, encRow, if_pos hz]
        exact K2.subV (by
          intro p hp
          simp only [List.mem_cons, List.not_mem_nil, or_false] at hp
          rcases hp with rfl | rfl | rfl | rfl <;> k_mem)
      · rw [if_pos (bne_iff_ne.mpr (by omega))]
        obtain ⟨aL, gL, oLt⟩ := W2.log
        obtain ⟨aE, gE, oE⟩ := W2.exp
        have vq := ev_idxB (pos := ⟨55, 20, 55, 32⟩) (ev_gl (w := w) (A := A.deeper env) (env := env) (pos := ⟨55, 20, 55, 26⟩) (W2.keeps K2.keep).g gL (kG _ rfl) hk e2) (evI_loc (pos := ⟨55, 27, 55, 31⟩) (x := Str.ofString "coef") K2 (by k_mem) (kL _ rfl)) (K2.keep _ _ oLt) (by omega) (logB W2.tab (by simpa using hci)) (by omega)
        rw [u8 (Nat.lt_trans (lgn_lt _) (by decide))] at vq
        refine execsN_cons (setN (s := { s with heap := g2, toks := tk3 }) K2 vq (kL _ rfl) fun v g3 tk4 hv K3 => ⟨rfl, ?_⟩)
        obtain ⟨tl, rfl⟩ := hv
        simp only [Int.toNat_natCast] at K3
        have K4 := K3.subV (l' := [(Str.ofString "gen", .ref G), (Str.ofString "msg_in", .ref M), (Str.ofString "msg_out", .ref R), (Str.ofString "lgen", .ref L), (Str.ofString "i", .int i ti), (Str.ofString "lcoef", .int (lgn (encUp b gn i)[i]!.toNat) tl)]) (by
          intro p hp
          simp only [List.mem_cons, List.not_mem_nil, or_false] at hp
          rcases hp with rfl | rfl | rfl | rfl | rfl | rfl <;> k_mem)
        have oG2' := kEh _ _ oGE
        have oL2 := kEh _ _ oL
        refine execsN_cons (forRange2 (s := { s with heap := g3, toks := tk4 }) (a := 1) (n := gn.size - 1) (fun j l os => l = [(Str.ofString "gen", .ref G), (Str.ofString "msg_in", .ref M), (Str.ofString "msg_out", .ref R), (Str.ofString "lgen", .ref L), (Str.ofString "i", .int i ti), (Str.ofString "lcoef", .int (lgn (encUp b gn i)[i]!.toNat) tl)] ∧
            os = [(R, baObj ((List.range j).foldl (encIn gn (lgn (encUp b gn i)[i]!.toNat) i) (encUp b gn i)))]) hh' K4
          (ev_gl (W2.keeps K4.keep).g W2.xr (kG _ rfl) hk e2) ev_int ((ev_lenB (eLen (W2.keeps K4.keep) _) (ev_cell K4 (by k_mem) kP cP) (K4.keep _ _ oG2') hSg).eqI (by omega)) (by omega) ⟨rfl, rfl⟩ ?_ ?_)
        · rintro j tj l os h₃ g tk hj ⟨rfl, rfl⟩ N k23
          refine asgN (s := { s with heap := g, toks := tk }) N (kL _ rfl) fun g1 tk1 N1 => ?_
          have W3 := (W2.keeps k23).keeps N1.keep
          have step : (List.range (j + 1)).foldl (encIn gn (lgn (encUp b gn i)[i]!.toNat) i) (encUp b gn i) = encIn gn (lgn (encUp b gn i)[i]!.toNat) i ((List.range j).foldl (encIn gn (lgn (encUp b gn i)[i]!.toNat) i) (encUp b gn i)) j := range_fold_succ ..
          have hsz2 : ((List.range j).foldl (encIn gn (lgn (encUp b gn i)[i]!.toNat) i) (encUp b gn i)).size = b.size + (gn.size - 1) := by rw [encIn_fold_size, encUp_size]
          have ix : Ev w (A.deeper env) env g1 (.BinOp (.Name (Str.ofString "i") ⟨57, 24, 57, 25⟩) .Add (.Name (Str.ofString "j") ⟨57, 28, 57, 29⟩) ⟨57, 24, 57, 29⟩) (IsI (i + (1 + j) : Nat)) :=
            (ev_add (evI_loc N1 (by k_mem) (kL _ rfl)) (evI_loc N1 (by k_mem) (kL _ rfl))).eqI (by omega)
          have vl := ev_idxB (pos := ⟨57, 49, 57, 56⟩) (ev_loc (w := w) (A := A.deeper env) (pos := ⟨57, 49, 57, 53⟩) (x := Str.ofString "lgen") (v := .ref L) N1 (by k_mem) (kL _ rfl)) (evI_loc (pos := ⟨57, 54, 57, 55⟩) (x := Str.ofString "j") N1 (by k_mem) (kL _ rfl)) (N1.keep _ _ (k23 _ _ oL2)) (by omega) (by rw [Int.toNat_natCast]; exact lgAt _ (by omega)) (by omega)
          rw [u8 (Nat.lt_trans (lgn_lt _) (by decide))] at vl
          have l1 := lgn_lt gn[1 + j]!.toNat
          have l2 := lgn_lt (encUp b gn i)[i]!.toNat
          have vs' := (ev_add (pos := ⟨57, 41, 57, 56⟩) (evI_loc (pos := ⟨57, 41, 57, 46⟩) (x := Str.ofString "lcoef") N1 (by k_mem) (kL _ rfl)) vl).eqI (show _ = ((lgn (encUp b gn i)[i]!.toNat + lgn gn[1 + j]!.toNat : Nat) : Int) by omega)
          have ve := ev_idxB (pos := ⟨57, 34, 57, 57⟩) (ev_gl (w := w) (A := A.deeper env) (env := env) (pos := ⟨57, 34, 57, 40⟩) W3.g gE (kG _ rfl) hk e2) vs' (N1.keep _ _ (k23 _ _ oE)) (by omega) (by rw [Int.toNat_natCast]; exact W3.tab.e _ (by omega)) (by omega)
          rw [u8 (pw_lt _)] at ve
          refine execsN_cons (wpAny.n (augXorB (s := { s with heap := g1, toks := tk1 }) N1 (ev_loc N1 (by k_mem) (kL _ rfl)) ix ve (get_bang (by rw [hsz2]; omega)) (by rw [hsz2, sizeLine_eq]; omega) (pw_lt _) fun g2 tk3 N2 => ⟨rfl, ?_⟩))
          refine execsN_nil ⟨rfl, g2, tk3, _, _, rfl, ?_, rfl, rfl⟩
          rw [step, encIn]
          exact N2.subV (by
            intro p hp
            simp only [List.mem_cons, List.not_mem_nil, or_false] at hp
            rcases hp with rfl | rfl | rfl | rfl | rfl | rfl <;> k_mem)
        · rintro g tk l os N ⟨rfl, rfl⟩
          refine ⟨rfl, execsN_nil (fin g tk ?_)⟩
          rw [up, encRow, if_neg hz]
          exact N.subV (by
            intro p hp
            simp only [List.mem_cons, List.not_mem_nil, or_false] at hp
            rcases hp with rfl | rfl | rfl | rfl <;> k_mem)
    · rintro g tk l os K ⟨rfl, rfl⟩
      refine ⟨rfl, execsN_cons (wpAny.n (setSlice (s := { s with heap := g, toks := tk }) K oME (ev_loc K (by k_mem) (kL _ rfl)) (ev_lenB (eLen (WE.keeps K.keep) _) (ev_loc K (by k_mem) (kL _ rfl)) (K.keep _ _ oME) hS) (ev_loc K (by k_mem) (kL _ rfl)) (by rw [encUp_size]; omega) (hSu _) fun g1 tk1 K1 => ⟨rfl, ?_⟩))⟩
      refine execsN_cons' (returnN (Ev.useN (s := { s with heap := g1, toks := tk1 }) (ev_loc K1 (by k_mem) (kL _ rfl)) fun v tk' hv => ?_))
      cases hv
      exact hQ g1 tk' R (fun b o e => K1.keep _ _ (kS _ _ e)) (none_of_keep kS (K1.own _ (List.mem_cons_self ..)).2.1) (K1.get (List.mem_cons_self ..))
end
end Mine
end

/-! part WH -/
section
open PySem PySem.W PyProof.Rows
namespace Mine
local macro_rules | `(tactic| k_mem) => `(tactic| (refine mem_filter_ne ?_ (by decide); k_mem))

section
variable {w : World} {A : Around} {env : Env} {h h₁ : Heap} {l : Vars} {os : Objs} {gl : Vars} {eB lB : Array UInt8} {s : Shared}

theorem codeN_whileLoop {test : Expr} {body : List Stmt} {R : Flow → Shared → Prop} (I : Nat → Shared → Prop)
    (turn : ∀ n s, I n s → wpN w A (isTrue test env (eval test env)) (fun b s₂ =>
        if b then wpN w A (execs body env) (fun f s₃ => match f with
            | .next | .cont => ∃ m, m < n ∧ I m s₃
            | .brk => R .next s₃
            | .ret v => R (.ret v) s₃) s₂
        else R .next s₂) s)
    (n : Nat) (h : I n s) : codeN w A (.whileLoop test body [] env) R s := by
  refine codeN_loop rfl rfl I (fun n s hI => ?_) n h
  show wpN _ A ((whileTurn test body [] env).onRaise (fun x => do noteFrame x env; theTreesLotGoes x)) _ s
  refine wpN_onRaise ?_
  simp only [whileTurn]
  refine wpN_bind (wpN_mono (turn n s hI) fun b s₂ h₂ => ?_)
  cases b with
  | false =>
    simp only [Bool.false_eq_true, if_false] at h₂ ⊢
    exact wpN_bind (execsN_nil (wpN_pure h₂))
  | true =>
    simp only [if_true] at h₂ ⊢
    refine wpN_bind (wpN_mono h₂ fun f s₃ h₃ => ?_)
    cases f with
    | next => exact wpN_pure (.inl ⟨rfl, h₃⟩)
    | cont => exact wpN_pure (.inl ⟨rfl, h₃⟩)
    | brk => exact wpN_pure h₃
    | ret v => exact wpN_pure h₃
theorem whileN {test : Expr} {body : List Stmt} {pos : Pos} {Q : Flow → Shared → Prop} (J : Nat → Vars → Objs → Prop) {k : Nat} (F : Frm env h₁ s.heap l os) (h0 : J k l os)
    (turn : ∀ n l os h tk, J n l os → Frm env h₁ h l os → wpN w A (isTrue test env (eval test env)) (fun b s₂ => if b then wpN w A (execs body env) (fun f s₃ => f = .next ∧ ∃ m h' tk' l' os', m < n ∧ s₃ = { s with heap := h', toks := tk' } ∧ Frm env h₁ h' l' os' ∧ J m l' os') s₂
      else Q .next s₂) { s with heap := h, toks := tk }) : wpN w A (exec (.While test body [] pos) env) Q s := by
  rw [arm_exec_While]
  refine wpN_bind (wpN_standAt (wpN_runOwn (codeN_whileLoop (fun n s' => ∃ h tk l os, s' = { s with heap := h, toks := tk } ∧ Frm env h₁ h l os ∧ J n l os) ?_ k ⟨s.heap, s.toks, l, os, rfl, F, h0⟩)))
  rintro n s' ⟨h, tk, l, os, rfl, F, hJ⟩
  refine wpN_mono (turn n l os h tk hJ F) fun b s₂ h₂ => ?_
  cases b with
  | false => exact h₂
  | true =>
    simp only [if_true] at h₂ ⊢
    refine wpN_mono h₂ ?_
    rintro f s₃ ⟨rfl, m, h', tk', l', os', hm, rfl, F', J'⟩
    exact ⟨m, hm, h', tk', l', os', rfl, F', J'⟩

theorem evB_int {e : Expr} {n : Int} (he : Ev w A env h e (IsI n)) (hv : isTrue e env (eval e env) = (do let v ← eval e env; standAt e.pos; holding [v] (truthy v)) := by rfl) : EvB w A env h e (n != 0) := by
  intro s Q E hs hq
  refine wpAny_isTrue_value (he s _ E hs fun v tk hv => ?_) hv
  obtain ⟨t, rfl⟩ := hv
  exact PyProof.Rows.truthy_int (hq _)
theorem evB_bool {e : Expr} {b : Bool} (he : Ev w A env h e (IsV (.bool b))) (hv : isTrue e env (eval e env) = (do let v ← eval e env; standAt e.pos; holding [v] (truthy v)) := by rfl) : EvB w A env h e b := by
  intro s Q E hs hq
  refine wpAny_isTrue_value (he s _ E hs fun v tk hv => ?_) hv
  cases hv
  exact wpAny_truthy_bool (hq _)
theorem evB_and {e f : Expr} {pos : Pos} {b c : Bool} (he : EvB w A env h e b) (hf : b = true → EvB w A env h f c) : EvB w A env h (.BoolOp .And [e, f] pos) (b && c) := by
  intro s Q E hs hq
  refine wpAny_isTrue_BoolOp (wpAny_allTrue_And_cons (he s _ E hs fun tk => ?_))
  cases b with
  | false => exact hq _
  | true =>
    refine wpAny_allTrue_And_cons (hf rfl _ _ E hs fun tk' => ?_)
    cases c with
    | false => exact hq _
    | true => exact wpAny_allTrue_And_nil (hq _)
theorem ev_and {e f : Expr} {pos : Pos} {a b : Int} (he : Ev w A env h e (IsI a)) (hf : Ev w A env h f (IsI b)) : Ev w A env h (.BinOp e .BitAnd f pos) (IsI (Builtin.bitAnd a b)) := ev_bin he hf fun _ _ _ _ _ hq => and_int hq
theorem ev_shr {e f : Expr} {pos : Pos} {a b : Int} (he : Ev w A env h e (IsI a)) (hf : Ev w A env h f (IsI b)) (h0 : 0 ≤ b) : Ev w A env h (.BinOp e .RShift f pos) (IsI (a.fdiv (2 ^ b.toNat))) := ev_bin he hf fun _ _ _ _ _ hq => rshift_int h0 hq
theorem ev_shl {e f : Expr} {pos : Pos} {a b : Int} (he : Ev w A env h e (IsI a)) (hf : Ev w A env h f (IsI b)) (h0 : 0 ≤ b) (h1 : b ≤ 1000000) (ha : a.natAbs < 2 ^ 64) : Ev w A env h (.BinOp e .LShift f pos) (IsI (a * 2 ^ b.toNat)) := ev_bin he hf fun _ _ _ _ _ hq => lshift_int_small h0 h1 ha hq

theorem and_256 : ∀ X : Nat, X < 256 → (Builtin.bitAnd ((X : Int) * 2) 256 != 0) = decide (¬ 2 * X < 256) := by decide +kernel
theorem and_1 : ∀ n : Nat, n < 3 → (Builtin.bitAnd (n : Int) 1 != 0) = decide (n = 1) := by decide +kernel
theorem fdiv_2 : ∀ n : Nat, n < 3 → (n : Int).fdiv (2 ^ (1 : Int).toNat) = ((n / 2 : Nat) : Int) := by decide +kernel

/-- gf_mult_noLUT(x, 2, 285, 256) -/
theorem mult_spec {f : Addr} {x : Nat} {t t1 t2 t3 : Tok} {Q : Value → Shared → Prop} (W : Gnd gl s.heap) (hf : FnAt s.heap dMul f) (hroom : A.depth < recursionLimit) (hx : x < 256)
    (hQ : ∀ h' tk t, (∀ b o, s.heap.get? b = some o → h'.get? b = some o) → Q (.int (xt x) t) { s with heap := h', toks := tk }) :
    wpN w A (call (.ref f) [.int x t, .int 2 t1, .int 285 t2, .int 256 t3]) Q s := by
  refine callD (binds := [("x", .int x t), ("y", .int 2 t1), ("prim", .int 285 t2), ("field_charac_full", .int 256 t3), ("carryless", .bool true)]) W hf hroom ?_ (by rfl) (by decide +kernel) (by show (["x", "y", "prim", "field_charac_full", "carryless"] : List Str).Nodup; decide) (by rfl) (by rfl) (by rfl) fun env h' tk e1 e2 e3 e4 F => ?_
  · intro dV pm cd doc an vs hv hd
    rcases hd with ⟨rfl, rfl⟩ | ⟨_, T, o', m, rfl, ho, hd⟩
    · exact hv.elim
    · obtain ⟨a, b, c, rfl, rfl⟩ : ∃ a b c, vs = [a, b, c] ∧ c = .bool true := by
        match vs, hv with
        | [a, b, c], hv => exact ⟨a, b, c, rfl, hv.2.2.1⟩
      exact BindsTo.of_defaults rfl ho hd rfl (by kernel_rfl)
  have kL : ∀ x, dMul.scope.names.lookup x = some .local → env.kindOf x = some .local := fun x h => kindOf_of e1 h
  have hk : env.scope.kind = .function := F.kind
  conv => arg 3; arg 1; whnf
  refine execsN_cons (setN (s := { s with heap := h', toks := tk }) F ev_int (kL _ rfl) fun v h2 tk2 hv F2 => ⟨rfl, ?_⟩)
  obtain ⟨tr, rfl⟩ := hv
  refine execsN_cons (whileN (s := { s with heap := h2, toks := tk2 }) (k := 2) (fun n l os => n < 3 ∧ ∃ (X R : Nat) (u v z : Tok), l = [(Str.ofString "x", .int X u), (Str.ofString "y", .int n v), (Str.ofString "r", .int R z), (Str.ofString "prim", .int 285 t2), (Str.ofString "field_charac_full", .int 256 t3), (Str.ofString "carryless", .bool true)] ∧ os = [] ∧
      X < 256 ∧ R < 256 ∧ (n = 2 → X = x ∧ R = 0) ∧ (n = 1 → X = xt x ∧ R = 0) ∧ (n = 0 → R = xt x)) (F2.subV ?_) ⟨by decide, x, 0, t, t1, tr, rfl, rfl, hx, by decide, fun _ => ⟨rfl, rfl⟩, fun h => absurd h (by decide), fun h => absurd h (by decide)⟩ ?_)
  · intro p hp
    simp only [List.mem_cons, List.not_mem_nil, or_false] at hp
    rcases hp with rfl | rfl | rfl | rfl | rfl | rfl <;> k_mem
  · rintro n l os g tk ⟨hn, X, R, u, v, z, rfl, rfl, hX, hR, c2, c1, c0⟩ G
    refine testN (s := { s with heap := g, toks := tk }) (h := g) (evB_int (evI_loc G (by k_mem) (kL _ rfl))) fun tk3 => ?_
    by_cases hz : n = 0
    · subst hz
      rw [if_neg (by decide)]
      refine ⟨rfl, execsN_cons' (returnN (Ev.useN (s := { s with heap := g, toks := tk3 }) (ev_loc G (by k_mem) (kL _ rfl)) fun v tk' hv => ?_))⟩
      cases hv
      rw [c0 rfl]
      exact hQ g tk' z fun b o e => G.keep _ _ e
    · rw [if_pos (by simpa using hz)]
      refine execsN_cons (wpN_mono (Q := fun (f : Flow) s' => f = .next ∧ ∃ (R' : Nat) (z' : Tok) (g2 : Heap) (tk4 : Nat), s' = { s with heap := g2, toks := tk4 } ∧ R' < 256 ∧ (n = 2 → R' = 0) ∧ (n = 1 → R' = xt x) ∧
        Frm env s.heap g2 [(Str.ofString "x", .int X u), (Str.ofString "y", .int n v), (Str.ofString "r", .int R' z'), (Str.ofString "prim", .int 285 t2), (Str.ofString "field_charac_full", .int 256 t3), (Str.ofString "carryless", .bool true)] []) ?_ ?_)
      · refine ifN (testN (s := { s with heap := g, toks := tk3 }) (h := g) (evB_int (ev_and (evI_loc G (by k_mem) (kL _ rfl)) ev_int)) fun tk4 => ?_)
        rw [and_1 n hn]
        by_cases h1 : n = 1
        · rw [if_pos (by simpa using h1)]
          have ex : Builtin.bitXor (R : Int) (X : Int) = ((xt x : Nat) : Int) := by rw [bitXor_nat, (c1 h1).1, (c1 h1).2, Nat.zero_xor]
          refine execsN_cons (setN (s := { s with heap := g, toks := tk4 }) G (ev_ifexp (b := true) (evB_bool (ev_loc G (by k_mem) (kL _ rfl))) (fun _ => (ev_xor (evI_loc G (by k_mem) (kL _ rfl)) (evI_loc G (by k_mem) (kL _ rfl))).eqI ex) (fun h => nomatch h)) (kL _ rfl) fun v g2 tk5 hv G2 => ⟨rfl, ?_⟩)
          obtain ⟨z', rfl⟩ := hv
          refine execsN_nil ⟨rfl, xt x, z', g2, tk5, rfl, xt_lt hx, fun h => by omega, fun _ => rfl, G2.subV ?_⟩
          intro p hp
          simp only [List.mem_cons, List.not_mem_nil, or_false] at hp
          rcases hp with rfl | rfl | rfl | rfl | rfl | rfl <;> k_mem
        · rw [if_neg (by simpa using h1)]
          exact execsN_nil ⟨rfl, R, z, g, tk4, rfl, hR, fun h => (c2 h).2, fun h => absurd h h1, G⟩
      · rintro f s' ⟨rfl, R', z', g2, tk4, rfl, hR', r2, r1, G2⟩
        refine ⟨rfl, execsN_cons (setN (s := { s with heap := g2, toks := tk4 }) G2 ((ev_shr (evI_loc G2 (by k_mem) (kL _ rfl)) ev_int (by decide)).eqI (fdiv_2 n hn)) (kL _ rfl) fun v g3 tk5 hv G3 => ⟨rfl, ?_⟩)⟩
        obtain ⟨v', rfl⟩ := hv
        refine execsN_cons (setN (s := { s with heap := g3, toks := tk5 }) G3 ((ev_shl (evI_loc G3 (by k_mem) (kL _ rfl)) ev_int (by decide) (by decide) (by omega)).eqI (show _ = ((X : Int) * 2) from rfl)) (kL _ rfl) fun v g4 tk6 hv G4 => ⟨rfl, ?_⟩)
        obtain ⟨u', rfl⟩ := hv
        refine execsN_cons (ifN (testN (s := { s with heap := g4, toks := tk6 }) (h := g4) (evB_and (evB_gt (evI_loc G4 (by k_mem) (kL _ rfl)) ev_int) fun _ => evB_int (ev_and (evI_loc G4 (by k_mem) (kL _ rfl)) (evI_loc G4 (by k_mem) (kL _ rfl)))) fun tk7 => ?_))
        rw [and_256 X hX]
        have fin : ∀ (X' : Nat) (u' : Tok) g5 tk8, X' = xt X → Frm env s.heap g5 [(Str.ofString "x", .int X' u'), (Str.ofString "y", .int (n / 2 : Nat) v'), (Str.ofString "r", .int R' z'), (Str.ofString "prim", .int 285 t2), (Str.ofString "field_charac_full", .int 256 t3), (Str.ofString "carryless", .bool true)] [] →
            Flow.next = Flow.next ∧ ∃ m h' tk' l' os', m < n ∧ ({ s with heap := g5, toks := tk8 } : Shared) = { s with heap := h', toks := tk' } ∧ Frm env s.heap h' l' os' ∧ m < 3 ∧ ∃ (X R : Nat) (u v z : Tok), l' = [(Str.ofString "x", .int X u), (Str.ofString "y", .int m v), (Str.ofString "r", .int R z), (Str.ofString "prim", .int 285 t2), (Str.ofString "field_charac_full", .int 256 t3), (Str.ofString "carryless", .bool true)] ∧ os' = [] ∧
              X < 256 ∧ R < 256 ∧ (m = 2 → X = x ∧ R = 0) ∧ (m = 1 → X = xt x ∧ R = 0) ∧ (m = 0 → R = xt x) := by
          intro X' u' g5 tk8 hX' G5
          refine ⟨rfl, n / 2, g5, tk8, _, _, by omega, rfl, G5, by omega, X', R', u', v', z', rfl, rfl, hX' ▸ xt_lt hX, hR', fun h => by omega, fun h => ?_, fun h => r1 (by omega)⟩
          have h2 : n = 2 := by omega
          exact ⟨by rw [hX', (c2 h2).1], r2 h2⟩
        by_cases hb : 2 * X < 256
        · rw [if_neg (by simp; omega)]
          have e2x : ((X : Int) * 2) = ((2 * X : Nat) : Int) := by omega
          rw [e2x] at G4
          refine execsN_nil ⟨rfl, execsN_nil (fin (2 * X) u' g4 tk7 (by rw [xt, if_pos hb]) (G4.subV ?_))⟩
          intro p hp
          simp only [List.mem_cons, List.not_mem_nil, or_false] at hp
          rcases hp with rfl | rfl | rfl | rfl | rfl | rfl <;> k_mem
        · rw [if_pos (by simp; omega)]
          have e2x : ((X : Int) * 2) = ((2 * X : Nat) : Int) := by omega
          rw [e2x] at G4
          refine execsN_cons (setN (s := { s with heap := g4, toks := tk7 }) G4 ((ev_xor (evI_loc G4 (by k_mem) (kL _ rfl)) (evI_loc G4 (by k_mem) (kL _ rfl))).eqI (bitXor_nat (2 * X) 285)) (kL _ rfl) fun v g5 tk8 hv G5 => ⟨rfl, ?_⟩)
          obtain ⟨u'', rfl⟩ := hv
          refine execsN_nil ⟨rfl, execsN_nil (fin ((2 * X) ^^^ 285) u'' g5 tk8 (by rw [xt, if_neg hb]) (G5.subV ?_))⟩
          intro p hp
          simp only [List.mem_cons, List.not_mem_nil, or_false] at hp
          rcases hp with rfl | rfl | rfl | rfl | rfl | rfl <;> k_mem
end
end Mine
end

/-! part IT -/
section
open PySem PySem.W PyProof.Rows
namespace Mine
local macro_rules | `(tactic| k_mem) => `(tactic| (refine mem_filter_ne ?_ (by decide); k_mem))

section
variable {w : World} {A : Around} {env : Env} {h h₁ : Heap} {l : Vars} {os : Objs} {gl : Vars} {eB lB : Array UInt8} {s : Shared}

/-- a[k] = v -/
theorem putB {o i v : Expr} {tpos pos : Pos} {a : Addr} {r : Array UInt8} {k x : Nat} {Q : Flow → Shared → Prop} {E : Value → Shared → Prop} (F : Frm env h₁ s.heap l ((a, baObj r) :: os))
    (ho : Ev w A env s.heap o (IsV (.ref a))) (hi : Ev w A env s.heap i (IsI k)) (hv : Ev w A env s.heap v (IsI x)) (hk : k < r.size) (hsz : r.size ≤ sizeLine) (hx : x < 256)
    (hQ : ∀ h' tk, Frm env h₁ h' l ((a, baObj (r.setIfInBounds k x.toUInt8)) :: os) → Q .next { s with heap := h', toks := tk })
    (hs : swapsWith v (some (.Subscript o i tpos)) pos.line env = pure false := by rfl) :
    wpAny (model PT w) A (exec (.Assign [.Subscript o i tpos] v pos) env) Q E s := by
  have hg := F.get (List.mem_cons_self ..)
  refine wpAny_Assign_Subscript (hv s _ E rfl fun u tk hu => ?_) hs
  obtain ⟨t, rfl⟩ := hu
  refine ho { s with toks := tk } _ E rfl fun u tk2 hu => ?_
  cases hu
  refine hi { s with toks := tk2 } _ E rfl fun u tk3 hu => ?_
  obtain ⟨t', rfl⟩ := hu
  refine ba_setItem (s := { s with toks := tk3 }) hg (by omega) (by omega) hsz (by omega) (by omega) fun h' e1 e2 => ?_
  exact hQ h' _ (F.upd0 e2 (by simpa using e1))

structure TabUp (i : Nat) (eB lB : Array UInt8) : Prop where
  eSize : eB.size = 510
  lSize : lB.size = 256
  e : ∀ j, j < i → eB[j]? = some (pw j).toUInt8
  l : ∀ j, j < i → j < 255 → lB[pw j]? = some j.toUInt8
  l0 : lB[0]? = some 0
theorem TabUp.init : TabUp 0 (Array.replicate 510 0) (Array.replicate 256 0) := ⟨by simp, by simp, fun j h => absurd h (Nat.not_lt_zero j), fun j h => absurd h (Nat.not_lt_zero j), by simp⟩
theorem TabUp.step {i : Nat} {eB lB : Array UInt8} (T : TabUp i eB lB) (hi : i < 255) : TabUp (i + 1) (eB.setIfInBounds i (pw i).toUInt8) (lB.setIfInBounds (pw i) i.toUInt8) := by
  have he := T.eSize
  have hl := T.lSize
  have hp := pw_lt i
  refine ⟨by simpa using he, by simpa using hl, fun j hj => ?_, fun j hj h255 => ?_, ?_⟩
  · by_cases h : j = i
    · subst h; rw [Array.getElem?_setIfInBounds_self_of_lt (by omega)]
    · rw [Array.getElem?_setIfInBounds_ne (by omega)]; exact T.e j (by omega)
  · by_cases h : j = i
    · subst h; rw [Array.getElem?_setIfInBounds_self_of_lt (by omega)]
    · rw [Array.getElem?_setIfInBounds_ne (fun e => h (pw_inj h255 hi e.symm))]; exact T.l j (by omega) h255
  · rw [Array.getElem?_setIfInBounds_ne (pw_ne i)]; exact T.l0
theorem TabUp.more {i : Nat} {eB lB : Array UInt8} (T : TabUp (255 + i) eB lB) (hi : i < 255) : TabUp (255 + (i + 1)) (eB.setIfInBounds (255 + i) (pw i).toUInt8) lB := by
  have he := T.eSize
  refine ⟨by simpa using he, T.lSize, fun j hj => ?_, fun j hj h255 => T.l j (by omega) h255, T.l0⟩
  by_cases h : j = 255 + i
  · subst h; rw [Array.getElem?_setIfInBounds_self_of_lt (by omega), Nat.add_comm, pw_add_255]
  · rw [Array.getElem?_setIfInBounds_ne (by omega)]; exact T.e j (by omega)
theorem TabUp.tab {eB lB : Array UInt8} (T : TabUp 510 eB lB) : Tab eB lB := ⟨T.eSize, T.lSize, T.e, fun i hi => T.l i (by omega) hi, T.l0⟩

/-- init_tables() -/
theorem init_spec {f fm : Addr} {Q : Value → Shared → Prop} (W : Gnd gl s.heap) (ba : (Str.ofString "_bytearray", Value.type "bytearray") ∈ gl) (xr : (Str.ofString "xrange", Value.type "range") ∈ gl) (hf : FnAt s.heap dInit f) (hm : FnAt s.heap dMul fm) (gm : (Str.ofString "gf_mult_noLUT", .ref fm) ∈ gl) (hroom : A.depth + 2 < recursionLimit) (hh : A.handled = none)
    (hQ : ∀ h' tk R aL aE t eB lB, (∀ b o, s.heap.get? b = some o → h'.get? b = some o) → Tab eB lB → h'.get? R = some (lsObj [.ref aL, .ref aE, .int 255 t] 0) → h'.get? aL = some (baObj lB) → h'.get? aE = some (baObj eB) → Q (.ref R) { s with heap := h', toks := tk }) :
    wpN w A (call (.ref f) []) Q s := by
  obtain ⟨o, dV, pm, cd, doc, an, vs, h1, h2, h3, h4, h5⟩ := hf
  obtain ⟨tp, tg, tc, hbind⟩ : ∃ t u v, BindsTo s (fdOf dInit dV pm cd doc an) ⟨[], []⟩ [("prim", .int 285 t), ("generator", .int 2 u), ("c_exp", .int 8 v)] := by
    rcases h5 with ⟨rfl, rfl⟩ | ⟨_, T, o', m, rfl, ho, hd⟩
    · exact h4.elim
    · obtain ⟨t, u, v, rfl⟩ : ∃ t u v, vs = [.int 285 t, .int 2 u, .int 8 v] := by
        match vs, h4 with
        | [a, b, c], h4 =>
          obtain ⟨⟨t, rfl⟩, ⟨u, rfl⟩, ⟨v, rfl⟩, _⟩ := h4
          exact ⟨t, u, v, rfl⟩
      exact ⟨t, u, v, BindsTo.of_defaults rfl ho hd rfl (by kernel_rfl)⟩
  refine callN_fn (by omega) h1 h2 W.lim h3 rfl rfl hbind (by rfl) (by show ((cellsFrom 0 dInit.scope.names []).map (·.1)).Nodup; decide +kernel) (by show (["prim", "generator", "c_exp"] : List Str).Nodup; decide) (fun h' tk F _ => ?_) (by rfl) (by rfl) (by rfl)
  generalize henv : cenv (fdOf dInit dV pm cd doc an) s.heap.objs.size f = env at F ⊢
  have e1 : env.scope = dInit.scope := by rw [← henv]; rfl
  have e2 : env.globals = mainGlobals := by rw [← henv]; rfl
  have e3 : env.builtins = builtinsNs := by rw [← henv]; rfl
  clear henv
  have kL : ∀ x, dInit.scope.names.lookup x = some .local → env.kindOf x = some .local := fun x h => kindOf_of e1 h
  have kG : ∀ x, dInit.scope.names.lookup x = some .globalImplicit → env.kindOf x = some .globalImplicit := fun x h => kindOf_of e1 h
  have hk : env.scope.kind = .function := F.kind
  have hh' : (A.deeper env).handled = none := hh
  obtain ⟨fdm, fom, fmo, fmd⟩ := hm.func
  conv => arg 3; arg 1; whnf
  -- field_charac = int(2 ** c_exp - 1)
  refine execsN_cons (assignN (evalN_Call rfl (Ev.useN (s := { s with heap := h', toks := tk }) (ev_bl (W.keeps F.keep) (by decide) boot_int (kG _ rfl) hk e2 e3) fun v tk1 hv => ?_)))
  cases hv
  refine callWithN_type rfl (splicedN_cons (Ev.useN (s := { s with heap := h', toks := tk1 }) (ev_sub (ev_pow ev_int (evI_loc F (by k_mem) (kL _ rfl)) (by decide) (by decide) (by decide)) ev_int) fun v tk2 hv => splicedN_nil ?_))
  obtain ⟨tf, rfl⟩ := hv
  refine wpAny.n (call_int_int (wpAny.n (st_loc (s := { s with heap := h', toks := tk2 }) F (kL _ rfl) fun h2 tk3 F2 => ⟨rfl, ?_⟩)))
  -- gf_exp, gf_log
  refine execsN_cons (assignN (evalN_baCount (s := { s with heap := h2, toks := tk3 }) (n := 510) (ev_gl (W.keeps F2.keep) ba (kG _ rfl) hk e2) ((ev_mul (evI_loc F2 (by k_mem) (kL _ rfl)) ev_int ?_).eqI (by decide)) (by rw [sizeLine_eq]; omega) fun h3 tk4 g1 g2 => ?_))
  · exact .of_right (by decide)
  have F3 := F2.new g2 (fresh_none _) g1
  generalize h2.objs.size = aE at F3
  refine wpAny.n (st_loc (s := { s with heap := h3, toks := tk4 }) F3 (kL _ rfl) fun h4 tk5 F4 => ⟨rfl, ?_⟩)
  refine execsN_cons (assignN (evalN_baCount (s := { s with heap := h4, toks := tk5 }) (n := 256) (ev_gl (W.keeps F4.keep) ba (kG _ rfl) hk e2) ((ev_add (evI_loc F4 (by k_mem) (kL _ rfl)) ev_int).eqI (by decide)) (by rw [sizeLine_eq]; omega) fun h5 tk6 g3 g4 => ?_))
  have F5 := F4.new g4 (fresh_none _) g3
  generalize h4.objs.size = aL at F5
  refine wpAny.n (st_loc (s := { s with heap := h5, toks := tk6 }) F5 (kL _ rfl) fun h6 tk7 F6 => ⟨rfl, ?_⟩)
  -- x = 1
  refine execsN_cons (setN (s := { s with heap := h6, toks := tk7 }) F6 ev_int (kL _ rfl) fun v h7 tk8 hv F7 => ⟨rfl, ?_⟩)
  obtain ⟨tx, rfl⟩ := hv
  have e255 : (2 : Int) ^ (8 : Int).toNat - 1 = 255 := by decide
  rw [e255] at F7
  have F8 := F7.subV (l' := [(Str.ofString "prim", .int 285 tp), (Str.ofString "generator", .int 2 tg), (Str.ofString "field_charac", .int 255 tf), (Str.ofString "gf_exp", .ref aE), (Str.ofString "gf_log", .ref aL), (Str.ofString "x", .int 1 tx)]) (by
    intro p hp
    simp only [List.mem_cons, List.not_mem_nil, or_false] at hp
    rcases hp with rfl | rfl | rfl | rfl | rfl | rfl <;> k_mem)
  clear F7 F6 F5 F4 F3 F2 F
  have S510 : 510 ≤ sizeLine := by rw [sizeLine_eq]; omega
  -- for i in xrange(field_charac)
  refine execsN_cons (forRange1 (s := { s with heap := h7, toks := tk8 }) (n := 255) (fun i l os => ∃ tx eB lB, l = [(Str.ofString "prim", .int 285 tp), (Str.ofString "generator", .int 2 tg), (Str.ofString "field_charac", .int 255 tf), (Str.ofString "gf_exp", .ref aE), (Str.ofString "gf_log", .ref aL), (Str.ofString "x", .int (pw i) tx)] ∧ os = [(aE, baObj eB), (aL, baObj lB)] ∧ TabUp i eB lB) hh' (F8.perm (List.Perm.swap ..))
    (ev_gl (W.keeps F8.keep) xr (kG _ rfl) hk e2) (evI_loc F8 (by k_mem) (kL _ rfl)) (by omega) ⟨tx, _, _, rfl, rfl, TabUp.init⟩ ?_ ?_)
  · rintro i ti l os h₂ g tk hi ⟨tx, eB, lB, rfl, rfl, T⟩ G k2
    refine asgN (s := { s with heap := g, toks := tk }) G (kL _ rfl) fun g1 tk1 G1 => ?_
    have tE := T.eSize
    have tL := T.lSize
    have hpi := pw_lt i
    refine execsN_cons (wpAny.n (putB (s := { s with heap := g1, toks := tk1 }) G1 (ev_loc G1 (by k_mem) (kL _ rfl)) (evI_loc G1 (by k_mem) (kL _ rfl)) (evI_loc G1 (by k_mem) (kL _ rfl)) (by omega) (by omega) hpi fun g2 tk2 G2 => ⟨rfl, ?_⟩))
    have G2' := G2.perm (List.Perm.swap ..)
    refine execsN_cons (wpAny.n (putB (s := { s with heap := g2, toks := tk2 }) G2' (ev_loc G2 (by k_mem) (kL _ rfl)) (evI_loc G2 (by k_mem) (kL _ rfl)) (evI_loc G2 (by k_mem) (kL _ rfl)) (by omega) (by omega) (by omega) fun g3 tk3 G3' => ⟨rfl, ?_⟩))
    have G3 := G3'.perm (List.Perm.swap ..)
    have k3 : ∀ b o, s.heap.get? b = some o → g3.get? b = some o := fun b o e => G3.keep _ _ (k2 _ _ e)
    refine execsN_cons (assignN (evalN_Call rfl (Ev.useN (s := { s with heap := g3, toks := tk3 }) (ev_gl (W.keeps k3) gm (kG _ rfl) hk e2) fun v tk4 hv => ?_)))
    cases hv
    refine callWithN_fn (fd := fdm) rfl (splicedN_cons (Ev.useN (s := { s with heap := g3, toks := tk4 }) (ev_loc G3 (by k_mem) (kL _ rfl)) fun v tk5 hv => ?_))
    cases hv
    refine splicedN_cons (Ev.useN (s := { s with heap := g3, toks := tk5 }) (ev_loc G3 (by k_mem) (kL _ rfl)) fun v tk6 hv => ?_)
    cases hv
    refine splicedN_cons (Ev.useN (s := { s with heap := g3, toks := tk6 }) (ev_loc G3 (by k_mem) (kL _ rfl)) fun v tk7 hv => ?_)
    cases hv
    refine splicedN_cons (Ev.useN (s := { s with heap := g3, toks := tk7 }) (ev_add (evI_loc G3 (by k_mem) (kL _ rfl)) ev_int) fun v tk8 hv => ?_)
    obtain ⟨t2, rfl⟩ := hv
    refine splicedN_nil ⟨⟨_, k3 _ _ fmo, fmd⟩, mult_spec (s := { s with heap := g3, toks := tk8 }) (W.keeps k3) (hm.keeps k3) (by show A.depth + 1 < _; omega) hpi fun g4 tk9 t3 k4 => ?_⟩
    have G4 := G3.keeps k4
    refine wpAny.n (st_loc (s := { s with heap := g4, toks := tk9 }) G4 (kL _ rfl) fun g5 tk10 G5 => ⟨rfl, execsN_nil ⟨rfl, g5, tk10, _, _, rfl, G5.subV ?_, t3, _, _, rfl, rfl, T.step hi⟩⟩)
    intro p hp
    simp only [List.mem_cons, List.not_mem_nil, or_false] at hp
    rcases hp with rfl | rfl | rfl | rfl | rfl | rfl <;> k_mem
  · rintro g tk l os G ⟨tx, eB, lB, rfl, rfl, T⟩
    refine ⟨rfl, execsN_cons (forRange2 (s := { s with heap := g, toks := tk }) (a := 255) (n := 255) (fun i l os => ∃ eB, l = [(Str.ofString "field_charac", .int 255 tf), (Str.ofString "gf_exp", .ref aE), (Str.ofString "gf_log", .ref aL)] ∧ os = [(aE, baObj eB), (aL, baObj lB)] ∧ TabUp (255 + i) eB lB) hh' (G.subV ?_)
      (ev_gl (W.keeps G.keep) xr (kG _ rfl) hk e2) (evI_loc G (by k_mem) (kL _ rfl)) ((ev_mul (evI_loc G (by k_mem) (kL _ rfl)) ev_int (.of_right (by decide))).eqI (by decide)) (by omega) ⟨eB, rfl, rfl, T⟩ ?_ ?_)⟩
    · intro p hp
      simp only [List.mem_cons, List.not_mem_nil, or_false] at hp
      rcases hp with rfl | rfl | rfl <;> k_mem
    · rintro i ti l os h₂ g tk hi ⟨eB, rfl, rfl, T⟩ K k2
      refine asgN (s := { s with heap := g, toks := tk }) K (kL _ rfl) fun g1 tk1 K1 => ?_
      have tE := T.eSize
      have vi := ev_idxB (pos := ⟨14, 20, 14, 44⟩) (ev_loc (w := w) (A := A.deeper env) (pos := ⟨14, 20, 14, 26⟩) (x := Str.ofString "gf_exp") (v := .ref aE) K1 (by k_mem) (kL _ rfl)) ((ev_sub (pos := ⟨14, 27, 14, 43⟩) (evI_loc (pos := ⟨14, 27, 14, 28⟩) (x := Str.ofString "i") K1 (by k_mem) (kL _ rfl)) (evI_loc (pos := ⟨14, 31, 14, 43⟩) (x := Str.ofString "field_charac") K1 (by k_mem) (kL _ rfl))).eqI (show _ = ((i : Nat) : Int) by omega)) (K1.get (List.mem_cons_self ..)) (by omega) (by rw [Int.toNat_natCast]; exact T.e i (by omega)) (by omega)
      rw [u8 (pw_lt _)] at vi
      refine execsN_cons (wpAny.n (putB (s := { s with heap := g1, toks := tk1 }) K1 (ev_loc K1 (by k_mem) (kL _ rfl)) (evI_loc K1 (by k_mem) (kL _ rfl)) vi (by omega) (by omega) (pw_lt _) fun g2 tk2 K2 => ⟨rfl, ?_⟩))
      refine execsN_nil ⟨rfl, g2, tk2, _, _, rfl, K2.subV ?_, _, rfl, rfl, T.more hi⟩
      intro p hp
      simp only [List.mem_cons, List.not_mem_nil, or_false] at hp
      rcases hp with rfl | rfl | rfl <;> k_mem
    · rintro g tk l os K ⟨eB, rfl, rfl, T⟩
      refine ⟨rfl, execsN_cons' (returnN (evalN_List rfl (splicedN_cons (Ev.useN (s := { s with heap := g, toks := tk }) (ev_loc K (by k_mem) (kL _ rfl)) fun v tk1 hv => ?_))))⟩
      cases hv
      refine splicedN_cons (Ev.useN (s := { s with heap := g, toks := tk1 }) (ev_loc K (by k_mem) (kL _ rfl)) fun v tk2 hv => ?_)
      cases hv
      refine splicedN_cons (Ev.useN (s := { s with heap := g, toks := tk2 }) (ev_loc K (by k_mem) (kL _ rfl)) fun v tk3 hv => ?_)
      cases hv
      refine splicedN_nil ⟨by rw [sizeLine_eq]; simp, ?_⟩
      exact hQ (g.push _) tk3 g.objs.size aL aE tf eB lB (fun b o e => Heap.get?_push_of_some _ (K.keep _ _ e)) T.tab (Heap.get?_push_size _ rfl) (Heap.get?_push_of_some _ (K.get (List.mem_cons_of_mem _ (List.mem_cons_self ..)))) (Heap.get?_push_of_some _ (K.get (List.mem_cons_self ..)))
end
end Mine
end

/-! part LP -/
section
open PySem PySem.W PyProof.Rows
namespace Mine
local macro_rules | `(tactic| k_mem) => `(tactic| (refine mem_filter_ne ?_ (by decide); k_mem))

section
variable {w : World} {A : Around} {env : Env} {h h₁ : Heap} {l : Vars} {os : Objs} {gl : Vars} {eB lB : Array UInt8} {s : Shared}

theorem ev_idxLneg {e f : Expr} {pos : Pos} {a : Addr} {vs : List Value} {ns : List Int} {k : Int} {n : Int} (he : Ev w A env h e (IsV (.ref a))) (hf : Ev w A env h f (IsI k)) (hl : h.IsList a vs.toArray) (hi : IntsAre vs ns)
    (h0 : k < 0) (h1 : -(vs.length : Int) ≤ k) (hx : ns[(k + vs.length).toNat]? = some n) (hfit : -(2 ^ 63) ≤ k) (hsl : ∀ o i, subscripted f false o i = operate [o, i] (getItem o i) := by intro _ _; with_unfolding_all rfl) : Ev w A env h (.Subscript e f pos) (IsI n) := by
  intro s Q E hs hq
  refine Subscript_ (he s _ E hs fun v tk hv => ?_)
  cases hv
  refine hf _ _ E hs fun v tk hv => ?_
  obtain ⟨u, rfl⟩ := hv
  subst hs
  obtain ⟨t, hv⟩ := hi.get (k + vs.length).toNat n hx
  exact tail_any (s := { s with toks := tk }) (T := "list") (Heap.IsList.typeIs (s := { s with toks := tk }) hl) slot_list_getitem.lookup (wpAny_getItem_list_neg (s := { s with toks := tk }) hl h0 (by simpa using h1) hfit (by simpa using hv) (hq _ _ ⟨_, rfl⟩)) (hsl _ _)

/-- o.append(e) -/
theorem appN {x : Str} {e : Expr} {p apos cpos pos : Pos} {a : Addr} {vs : List Value} {n : Nat} {R : Value → Prop} {Q : Flow → Shared → Prop} (F : Frm env h₁ s.heap l ((a, lsObj vs n) :: os))
    (ho : Ev w A env s.heap (.Name x p) (IsV (.ref a))) (he : Ev w A env s.heap e R) (hsz : vs.length ≤ sizeLine)
    (hQ : ∀ v h' tk m, R v → Frm env h₁ h' l ((a, lsObj (vs ++ [v]) m) :: os) → Q .next { s with heap := h', toks := tk })
    (hin : interactive env = false)
    (hbase : attributeBase (.Name x p) "append" env (eval (.Name x p) env) = eval (.Name x p) env := by rfl)
    (htrees : backTo cpos (starEach [e] env) = [(false, eval e env)] := by rfl) (hline : (apos.endLine == cpos.line) = true := by rfl)
    (hs : swapsWith (.Call (.Attribute (.Name x p) "append" apos) [e] [] cpos) none pos.line env = pure false := by rfl) :
    wpN w A (exec (.Expr (.Call (.Attribute (.Name x p) "append" apos) [e] [] cpos) pos) env) Q s := by
  refine wpAny.n (wpAny_Expr (wpAny_Call_append hbase (by rw [htrees]; rfl) hline htrees (ho s _ _ rfl fun v tk hv => ?_)) hin hs)
  cases hv
  have hg := F.get (List.mem_cons_self ..)
  refine ⟨a, vs.toArray, rfl, ⟨_, _, hg, rfl, rfl, rfl⟩, he _ _ _ rfl fun v tk2 hv => ?_⟩
  refine wpAny_list_append_plain (s := { s with toks := tk2 }) (items := vs.toArray) ⟨n, hg⟩ (fun h' hp hs => ?_) (by simpa using hsz)
  obtain ⟨m, hm⟩ := hp
  exact hQ v h' tk2 m hv (F.upd0 hs (by simpa using hm))

/-- _law_powers() -/
theorem lp_spec {f : Addr} {Q : Value → Shared → Prop} (W : Gnd gl s.heap) (hf : FnAt s.heap dLp f) (hroom : A.depth < recursionLimit) (hh : A.handled = none)
    (hQ : ∀ h' tk R vs n, (∀ b o, s.heap.get? b = some o → h'.get? b = some o) → s.heap.get? R = none → h'.get? R = some (lsObj vs n) → IntsAre vs ((List.range 255).map fun i => ((pw i : Nat) : Int)) → Q (.ref R) { s with heap := h', toks := tk }) :
    wpN w A (call (.ref f) []) Q s := by
  refine callD (binds := []) W hf hroom (binds_none rfl (fun _ _ _ _ => by kernel_rfl)) (by rfl) (by decide +kernel) (by decide) (by rfl) (by rfl) (by rfl) fun env h' tk e1 e2 e3 e4 F => ?_
  have kL : ∀ x, dLp.scope.names.lookup x = some .local → env.kindOf x = some .local := fun x h => kindOf_of e1 h
  have kG : ∀ x, dLp.scope.names.lookup x = some .globalImplicit → env.kindOf x = some .globalImplicit := fun x h => kindOf_of e1 h
  have hk : env.scope.kind = .function := F.kind
  have hh' : (A.deeper env).handled = none := hh
  conv => arg 3; arg 1; whnf
  refine execsN_cons (assignN (evalN_List rfl (splicedN_cons (Ev.useN (s := { s with heap := h', toks := tk }) ev_int fun v tk1 hv => ?_))))
  obtain ⟨t1, rfl⟩ := hv
  refine splicedN_nil ⟨by rw [sizeLine_eq]; simp, ?_⟩
  have F2 := F.push (lsObj [.int 1 t1] 0)
  generalize h'.objs.size = R at F2
  refine wpAny.n (st_loc (s := { s with heap := h'.push _, toks := tk1 }) F2 (kL _ rfl) fun h3 tk2 F3 => ⟨rfl, ?_⟩)
  refine execsN_cons (forRange1 (s := { s with heap := h3, toks := tk2 }) (n := 254) (fun i l os => l = [(Str.ofString "row", .ref R)] ∧ ∃ vs n, os = [(R, lsObj vs n)] ∧ IntsAre vs ((List.range (i + 1)).map fun i => ((pw i : Nat) : Int))) hh' (F3.subV ?_)
      (ev_bl (W.keeps F3.keep) (by decide) boot_range (kG _ rfl) hk e2 e3) ev_int (by omega) ⟨rfl, _, _, rfl, .cons _ _ .nil⟩ ?_ ?_)
  · intro p hp
    simp only [List.mem_cons, List.not_mem_nil, or_false] at hp
    rcases hp with rfl
    k_mem
  · rintro i ti l os h₂ g tk hi ⟨rfl, vs, n, rfl, hI⟩ G k2
    refine asgN (s := { s with heap := g, toks := tk }) G (kL _ rfl) fun g1 tk1 G1 => ?_
    have hvl : vs.length = i + 1 := by simpa using hI.length
    have hpi := pw_lt i
    refine execsN_cons (setN (s := { s with heap := g1, toks := tk1 }) G1 (ev_mul (ev_idxLneg (n := ((pw i : Nat) : Int)) (ev_loc G1 (by k_mem) (kL _ rfl)) (ev_neg ev_int) ⟨_, G1.get (List.mem_cons_self ..), rfl, _, rfl⟩ hI (by decide) (by omega) ?_ (by decide)) ev_int (.of_right (by decide))) (kL _ rfl) fun v g2 tk2 hv G2 => ⟨rfl, ?_⟩)
    · rw [hvl, show (-1 + ((i + 1 : Nat) : Int)).toNat = i by omega]; simp
    obtain ⟨tw, rfl⟩ := hv
    have e2x : (((pw i : Nat) : Int) * 2) = ((2 * pw i : Nat) : Int) := by omega
    rw [e2x] at G2
    refine execsN_cons (appN (s := { s with heap := g2, toks := tk2 }) (R := IsI ((pw (i + 1) : Nat) : Int)) G2 (ev_loc G2 (by k_mem) (kL _ rfl)) ?_ (by rw [sizeLine_eq]; omega) (fun v g3 tk3 m hv G3 => ⟨rfl, execsN_nil ⟨rfl, g3, tk3, _, _, rfl, G3.subV ?_, rfl, _, _, rfl, ?_⟩⟩) ?_)
    · refine ev_ifexp (evB_lt (evI_loc G2 (by k_mem) (kL _ rfl)) ev_int) (fun hb => ?_) (fun hb => ?_)
      · refine (evI_loc G2 (by k_mem) (kL _ rfl)).eqI ?_
        have : 2 * pw i < 256 := by have := of_decide_eq_true hb; omega
        show _ = ((xt (pw i) : Nat) : Int)
        rw [xt, if_pos this]
      · refine (ev_xor (evI_loc G2 (by k_mem) (kL _ rfl)) ev_int).eqI ?_
        have : ¬ 2 * pw i < 256 := by have := of_decide_eq_false hb; omega
        show _ = ((xt (pw i) : Nat) : Int)
        rw [xt, if_neg this]
        exact bitXor_nat (2 * pw i) 285
    · intro p hp
      simp only [List.mem_cons, List.not_mem_nil, or_false] at hp
      rcases hp with rfl
      k_mem
    · obtain ⟨t, rfl⟩ := hv
      rw [List.range_succ, List.map_append]
      exact hI.append (.cons _ _ .nil)
    · show (env.scope.kind == .module && _) = false
      rw [hk]; rfl
  · rintro g tk l os G ⟨rfl, vs, n, rfl, hI⟩
    refine ⟨rfl, execsN_cons' (returnN (Ev.useN (s := { s with heap := g, toks := tk }) (ev_loc G (by k_mem) (kL _ rfl)) fun v tk' hv => ?_))⟩
    cases hv
    exact hQ g tk' R vs n (fun b o e => G.keep _ _ e) (G.own _ (List.mem_cons_self ..)).2.1 (G.get (List.mem_cons_self ..)) hI
end
end Mine
end

/-! part LR -/
section
open PySem PySem.W PyProof.Rows
namespace Mine

theorem pick_upto (items : Array Value) (k : Nat) : slicePick items none (some (k : Int)) none = (items.toList.take k).toArray := by
  by_cases h : k ≤ items.size
  · exact slicePick_upto items k h
  · have e : slicePick items none (some (k : Int)) none = slicePick items none (some (items.size : Int)) none := by
      have : sliceBounds none (some (k : Int)) none items.size = sliceBounds none (some (items.size : Int)) none items.size := by
        simp only [sliceBounds, Option.getD_none, show (1 : Int) > 0 by decide, if_true]
        congr 2
        rw [if_neg (by omega), if_neg (by omega)]
        omega
      simp only [slicePick, this]
    rw [e, slicePick_upto items _ (Nat.le_refl _), List.take_of_length_le (by simp), List.take_of_length_le (by simp; omega)]
theorem pick_from (items : Array Value) (k : Nat) : slicePick items (some (k : Int)) none none = (items.toList.drop k).toArray := by
  by_cases h : k ≤ items.size
  · exact slicePick_from items k h
  · have e : slicePick items (some (k : Int)) none none = slicePick items (some (items.size : Int)) none none := by
      have : sliceBounds (some (k : Int)) none none items.size = sliceBounds (some (items.size : Int)) none none items.size := by
        simp only [sliceBounds, Option.getD_none, show (1 : Int) > 0 by decide, if_true]
        congr 1
        rw [if_neg (by omega), if_neg (by omega)]
        omega
      simp only [slicePick, this]
    rw [e, slicePick_from items _ (Nat.le_refl _), List.drop_of_length_le (by simp), List.drop_of_length_le (by simp; omega)]
theorem range_rev (n : Nat) : (List.range n).map (fun k => n - 1 - k) = (List.range n).reverse := by
  apply List.ext_getElem
  · simp
  · intro i h1 h2
    simp
theorem pick_rev (items : Array Value) : slicePick items none none (some (-1)) = items.toList.reverse.toArray := by
  have hb : sliceBounds none none (some (-1)) items.size = ((items.size : Int) - 1, -1, -1) := by simp [sliceBounds]
  have hr : sliceRange ((items.size : Int) - 1) (-1) (-1) = (List.range items.size).reverse := by
    rw [← range_rev]
    unfold sliceRange
    simp only [show ¬ ((-1 : Int) > 0) by decide, if_false]
    have hc : (if (items.size : Int) - 1 > -1 then ((items.size : Int) - 1 - -1 - -1 - 1) / (- -1) else 0).toNat = items.size := by
      split
      · have : ((items.size : Int) - 1 - -1 - -1 - 1) = items.size := by omega
        rw [this]; simp
      · omega
    rw [hc]
    refine List.map_congr_left fun k hk => ?_
    have := List.mem_range.mp hk
    omega
  have hp := pick_run items 0 items.size
  simp only [Nat.zero_add, List.map_id', List.drop_zero] at hp
  rw [slicePick, hb, hr, List.filterMap_reverse, hp, List.take_of_length_le (by simp)]

section
variable {w : World} {A : Around} {env : Env} {h h₁ : Heap} {l : Vars} {os : Objs} {gl : Vars} {eB lB : Array UInt8} {s : Shared} {E : Value → Shared → Prop}

/-- what a fresh list of ints leaves -/
def NewL (s : Shared) (ns : List Int) (Q : Value → Shared → Prop) : Prop :=
  ∀ D h' tk vs c, (∀ b o, s.heap.get? b = some o → h'.get? b = some o) → s.heap.get? D = none → h'.get? D = some (lsObj vs c) → IntsAre vs ns → Q (.ref D) { s with heap := h', toks := tk }

theorem size1_none (h : Heap) : h.get? (h.objs.size + 1) = none := by
  cases hq : h.get? (h.objs.size + 1) with
  | none => rfl
  | some o => exact absurd (Heap.lt_size hq) (Nat.not_lt.mpr (Nat.le_succ _))

theorem slice_at {value : Expr} {lower upper step : Option Expr} {p : Pos} {a : Addr} {vs : List Value} {ms : List Int} {vl vu vk : Value} {lo hi st : Option Int} {Q : Value → Shared → Prop} (hl : s.heap.IsList a vs.toArray) (hsz : vs.length ≤ sizeLine)
    (pl : IsPart vl lo) (pu : IsPart vu hi) (pk : IsPart vk st) (h0 : st ≠ some 0) (hp : IntsAre (slicePick vs.toArray lo hi st).toList ms) (hQ : NewL s ms Q)
    (hs : ∀ i, ∃ ops, subscripted (.Slice lower upper step p) false (.ref a) i = operate ops (getItem (.ref a) i)) :
    wpAny (model PT w) A (subscriptTail value (.Slice lower upper step p) (.ref a) (.ref s.heap.objs.size)) Q E { s with heap := s.heap.push { cls := .type "slice", data := .fields #[vl, vu, vk] } } := by
  obtain ⟨ops, hops⟩ := hs (.ref s.heap.objs.size)
  refine tail_any (Heap.IsList.typeIs (s := { s with heap := s.heap.push { cls := .type "slice", data := .fields #[vl, vu, vk] } }) (hl.push _)) list_getitem_lookup
    (wpAny_getItem_list_slice (hl.push _) (Heap.IsSliceOf.new ..) pl pu pk h0 ?_ (by simpa using hsz)) hops
  show Q (.ref (s.heap.push _).objs.size) _
  rw [Heap.size_push]
  refine hQ _ _ s.toks (slicePick vs.toArray lo hi st).toList 0 (fun b o e => Heap.get?_push_of_some _ (Heap.get?_push_of_some _ e)) (size1_none _) ?_ hp
  have := Heap.get?_push_size (s.heap.push { cls := .type "slice", data := .fields #[vl, vu, vk] }) (o := lsObj (slicePick vs.toArray lo hi st).toList 0) rfl
  rw [Heap.size_push] at this
  simpa using this

theorem NewL.toks {s : Shared} {ns : List Int} {Q : Value → Shared → Prop} (h : NewL s ns Q) (tk : Nat) : NewL { s with toks := tk } ns Q := fun D h' tk' vs c a b d e => h D h' tk' vs c a b d e
theorem NewL.keeps {s : Shared} {ns : List Int} {Q : Value → Shared → Prop} (h : NewL s ns Q) {h₂ : Heap} (tk : Nat) (hk : ∀ b o, s.heap.get? b = some o → h₂.get? b = some o) : NewL { s with heap := h₂, toks := tk } ns Q :=
  fun D h' tk' vs c a b d e => h D h' tk' vs c (fun x o y => a x o (hk x o y)) (none_of_keep hk b) d e

/-- e[:k] -/
theorem sliceTo {value e : Expr} {p pos : Pos} {a : Addr} {vs : List Value} {ns : List Int} {k : Nat} {Q : Value → Shared → Prop} (hv : Ev w A env s.heap value (IsV (.ref a))) (he : Ev w A env s.heap e (IsI k)) (hl : s.heap.IsList a vs.toArray) (hi : IntsAre vs ns) (hsz : ns.length ≤ sizeLine)
    (hQ : NewL s (ns.take k) Q) : wpAny (model PT w) A (eval (.Subscript value (.Slice none (some e) none p) pos) env) Q E s := by
  refine Subscript_ (hv s _ E rfl fun v tk hv => ?_)
  cases hv
  refine wpAny_Slice (wpAny_evalPart_none (wpAny_evalPart_some (he _ _ E rfl fun v tk hv => wpAny_evalPart_none ?_)))
  obtain ⟨t, rfl⟩ := hv
  refine slice_at (s := { s with toks := tk }) hl (by rw [hi.length]; exact hsz) .none (.int _ _) .none (by simp) ?_ (hQ.toks tk) fun i => ⟨_, rfl⟩
  rw [pick_upto]
  simpa using hi.take k
/-- e[k:] -/
theorem sliceFrom {value e : Expr} {p pos : Pos} {a : Addr} {vs : List Value} {ns : List Int} {k : Nat} {Q : Value → Shared → Prop} (hv : Ev w A env s.heap value (IsV (.ref a))) (he : Ev w A env s.heap e (IsI k)) (hl : s.heap.IsList a vs.toArray) (hi : IntsAre vs ns) (hsz : ns.length ≤ sizeLine)
    (hQ : NewL s (ns.drop k) Q) : wpAny (model PT w) A (eval (.Subscript value (.Slice (some e) none none p) pos) env) Q E s := by
  refine Subscript_ (hv s _ E rfl fun v tk hv => ?_)
  cases hv
  refine wpAny_Slice (wpAny_evalPart_some (he _ _ E rfl fun v tk hv => wpAny_evalPart_none (wpAny_evalPart_none ?_)))
  obtain ⟨t, rfl⟩ := hv
  refine slice_at (s := { s with toks := tk }) hl (by rw [hi.length]; exact hsz) (.int _ _) .none .none (by simp) ?_ (hQ.toks tk) fun i => ⟨_, rfl⟩
  rw [pick_from]
  simpa using hi.drop k
/-- e[::-1] -/
theorem sliceRev {value e : Expr} {p pos : Pos} {a : Addr} {vs : List Value} {ns : List Int} {Q : Value → Shared → Prop} (hv : Ev w A env s.heap value (IsV (.ref a))) (he : Ev w A env s.heap e (IsI (-1))) (hl : s.heap.IsList a vs.toArray) (hi : IntsAre vs ns) (hsz : ns.length ≤ sizeLine)
    (hQ : NewL s ns.reverse Q) : wpAny (model PT w) A (eval (.Subscript value (.Slice none none (some e) p) pos) env) Q E s := by
  refine Subscript_ (hv s _ E rfl fun v tk hv => ?_)
  cases hv
  refine wpAny_Slice (wpAny_evalPart_none (wpAny_evalPart_none (wpAny_evalPart_some (he _ _ E rfl fun v tk hv => ?_))))
  obtain ⟨t, rfl⟩ := hv
  refine slice_at (s := { s with toks := tk }) hl (by rw [hi.length]; exact hsz) .none .none (.int _ _) (by simp) ?_ (hQ.toks tk) fun i => ⟨_, rfl⟩
  rw [pick_rev]
  simpa using hi.reverse

/-- [i, j, ..] of constants -/
theorem spl_ints : ∀ (cs : List (Int × Nat × Pos)) (s : Shared) (Q : List Value → Shared → Prop), (∀ vs tk, IntsAre vs (cs.map (·.1)) → Q vs { s with toks := tk }) →
    wpAny (model PT w) A (spliced (cs.map fun c => (false, eval (.Constant (.int c.1) c.2.1 c.2.2) env))) Q E s
  | [], s, Q, h => Calls.spliced_nil (h [] s.toks .nil)
  | c :: cs, s, Q, h => by
    refine Calls.spliced_cons (ev_int (h := s.heap) s _ E rfl fun v tk hv => ?_)
    obtain ⟨t, rfl⟩ := hv
    exact spl_ints cs _ _ fun vs tk hi => h _ tk (.cons _ _ hi)
theorem consts {elts : List Expr} {pos : Pos} (cs : List (Int × Nat × Pos)) {Q : Value → Shared → Prop} (hc : backTo pos (starEach elts env) = cs.map fun c => (false, eval (.Constant (.int c.1) c.2.1 c.2.2) env)) (hsz : cs.length ≤ sizeLine)
    (hQ : NewL s (cs.map (·.1)) Q) : wpAny (model PT w) A (eval (.List elts pos) env) Q E s := by
  refine wpAny_List ?_
  rw [hc]
  refine spl_ints cs s _ fun vs tk hi => ⟨by rw [hi.length]; simpa using hsz, ?_⟩
  exact hQ _ _ tk vs 0 (fun b o e => Heap.get?_push_of_some _ e) (fresh_none _) (Heap.get?_push_size _ rfl) hi

theorem addL {a b : Addr} {vs ws : List Value} {ns ms : List Int} {Q : Value → Shared → Prop} (ha : s.heap.IsList a vs.toArray) (hb : s.heap.IsList b ws.toArray) (hi : IntsAre vs ns) (hj : IntsAre ws ms) (hsz : ns.length + ms.length ≤ sizeLine)
    (hQ : NewL s (ns ++ ms) Q) : wpAny (model PT w) A (binaryOp .Add (.ref a) (.ref b)) Q E s := by
  obtain ⟨⟨cls, dd, data, sl⟩, ho, hc, n, hd⟩ := id ha
  obtain ⟨⟨cls2, dd2, data2, sl2⟩, ho2, hc2, n2, hd2⟩ := id hb
  simp only at hc hd hc2 hd2
  subst hc hd hc2 hd2
  have e : vs.toArray ++ ws.toArray = (vs ++ ws).toArray := by simp
  refine concat_meets ⟨_, ho, rfl⟩ ⟨_, ho2, rfl⟩ noFill_list_add seq_list_add PySem.F.slot_list_add PySem.F.entry_list_add (PySem.F.args_list_add_2 _ _) (list_addW a b vs.toArray ws.toArray n n2 dd dd2 sl sl2 (by rw [List.size_toArray, List.size_toArray, hi.length, hj.length]; exact hsz)) ⟨ho, ho2, ?_⟩
  rw [e]
  exact hQ _ _ s.toks _ 0 (fun b o e => Heap.get?_push_of_some _ e) (fresh_none _) (Heap.get?_push_size _ rfl) (hi.append hj)

/-- [0] * 256 and the like -/
theorem ints_rep : ∀ (n : Nat) (v : Value) (k : Int), IntsAre [v] [k] → IntsAre (List.replicate n v) (List.replicate n k)
  | 0, _, _, _ => .nil
  | n + 1, _, _, .cons k t .nil => .cons k t (ints_rep n _ k (.cons k t .nil))
theorem fold_rep (v : Value) : ∀ (n : Nat) (acc : Array Value), List.foldl (fun x1 x2 => x1 ++ x2) acc (List.replicate n #[v]) = acc ++ (List.replicate n v).toArray
  | 0, acc => by simp
  | n + 1, acc => by rw [List.replicate_succ, List.foldl_cons, fold_rep v n]; apply Array.ext'; simp [List.replicate_succ]
theorem mulL0 {l : Addr} {items : Array Value} {k : Nat} {x : Int} {u : Tok} {Q : Value → Shared → Prop}
    (hl : s.heap.get? l = some { cls := .type "list", dict := none, data := .seq items k, slots := #[] })
    (hlo : -(2 ^ 63 : Int) ≤ x) (hhi : x < 2 ^ 63) (hsz : items.size * x.toNat ≤ 2 ^ 24)
    (h : Q (.ref s.heap.objs.size) { s with heap := s.heap.push { cls := .type "list", data := .seq (List.foldl (fun x1 x2 => x1 ++ x2) #[] (List.replicate (if items.isEmpty = true then 0 else x.toNat) items)) } }) :
    wpAny (model PT w) A (binaryOp .Mult (.ref l) (.int x u)) Q E s :=
  wpAny_binaryOp_repeat_ref (T := "list") (U := "int") (by decide) ⟨_, hl, rfl⟩ (fun s' => typeIs_int s' x u) noFill_list_mul F.fills_int_mul F.slot_int_rmul repeat_list F.slot_int_index.lookup
    (call_meets F.slot_int_rmul (typeIs_int s x u) F.entry_int_rmul (F.args_int_rmul_2 _ _) (int___rmul___int_list x u l items k)
      ⟨hl, rfl, ⟨_, hl, rfl⟩, call_meets F.slot_list_mul ⟨_, hl, rfl⟩ F.entry_list_mul (F.args_list_mul_2 _ _)
        (AutoListH.list___mul___list_int_3 l items k x u (by simp [Builtin.List.listFitsIndex]; omega) (by omega) (by simp [Builtin.List.listTooLong, sizeLine]; omega))
        ⟨hl, h⟩⟩)
theorem mulL {a : Addr} {v : Value} {k : Int} {m n : Nat} {u : Tok} {Q : Value → Shared → Prop} (ha : s.heap.get? a = some (lsObj [v] m)) (hi : IntsAre [v] [k]) (hn : n ≤ 1000) (hQ : NewL s (List.replicate n k) Q) :
    wpAny (model PT w) A (binaryOp .Mult (.ref a) (.int n u)) Q E s := by
  refine mulL0 (items := #[v]) (k := m) ha (by omega) (by omega) (by simp; omega) ?_
  have e : List.foldl (fun x1 x2 => x1 ++ x2) #[] (List.replicate (if (#[v] : Array Value).isEmpty = true then 0 else (n : Int).toNat) #[v]) = (List.replicate n v).toArray := by
    rw [fold_rep]; simp
  rw [e]
  exact hQ _ _ s.toks _ 0 (fun b o e => Heap.get?_push_of_some _ e) (fresh_none _) (Heap.get?_push_size _ rfl) (ints_rep n v k hi)
end
end Mine
end

/-! part TL -/
section
open PySem PySem.W PyProof.Rows
namespace Mine

section
variable {w : World} {A : Around} {env : Env} {h h₁ : Heap} {l : Vars} {os : Objs} {gl : Vars} {eB lB : Array UInt8} {s : Shared} {E : Value → Shared → Prop}

/-- for (xi, xc) in <a walk of pairs>: .. -/
theorem loopTN {xi xc : Str} {pk pv pt : Pos} {x1 : Nat} {body : List Stmt} {Q : Flow → Shared → Prop} {I : Addr} {fp wr : List Addr} {n : Nat} {Pt : Nat → Array Value → Prop} {St : Nat → Heap → Prop} {Mid : Nat → Addr → Heap → Prop} {P2 : Nat → Value → Value → Prop}
    (hh : A.handled = none) (W : WalksT PT w A I fp wr n Pt St Mid) (h2 : ∀ i vals, Pt i vals → ∃ v0 v1, vals = #[v0, v1] ∧ P2 i v0 v1) (hxi : env.kindOf xi = some .local) (hxc : env.kindOf xc = some .local)
    (J : Nat → Vars → Objs → Prop) (F : Frm env h₁ s.heap l os) (hst : St 0 s.heap) (hin : ∀ i h, St i h → ∀ b ∈ fp, (h.get? b).isSome = true) (hfp : ∀ b ∈ fp, Frm.Off env os b) (hwr : ∀ b ∈ wr, h₁.get? b = none) (h0 : J 0 l os)
    (turn : ∀ i v0 v1 l os h₂ h tk, i < n → P2 i v0 v1 → J i l os → Frm env h₂ h ((xc, v1) :: ((xi, v0) :: l.filter (fun p => p.1 != xi)).filter (fun p => p.1 != xc)) os → (∀ b o, h₁.get? b = some o → h₂.get? b = some o) →
      wpN w A (execs body env) (fun f s₃ => f = .next ∧ ∃ h' tk' l' os', s₃ = { s with heap := h', toks := tk' } ∧ Frm env h₂ h' l' os' ∧ J (i + 1) l' os') { s with heap := h, toks := tk })
    (done : ∀ h tk l os, Frm env h₁ h l os → J n l os → Q .next { s with heap := h, toks := tk }) : codeN w A (.forLoop (.Tuple [.Name xi pk, .Name xc pv] x1 pt) (.ref I) body [] env) Q s := by
  refine codeN_forLoop (fun k s' => ∃ h tk l os i, s' = { s with heap := h, toks := tk } ∧ Frm env h₁ h l os ∧ J i l os ∧ St i h ∧ i ≤ n ∧ k = n - i ∧ ∀ b ∈ fp, Frm.Off env os b) ?_ n
    ⟨s.heap, s.toks, l, os, 0, rfl, F, h0, hst, Nat.zero_le _, rfl, hfp⟩
  · rintro k s' ⟨h, tk, l, os, i, rfl, F, hJ, hst, hi, rfl, hoff⟩
    by_cases hlt' : i < n
    · refine wpAny.n (W.item i _ _ _ hlt' hst fun T vals h₂ tk₂ hPt _ hT hMid hk₂ => ?_)
      dsimp only
      obtain ⟨v0, v1, rfl, hP2⟩ := h2 i vals hPt
      refine wpAny.n (W.go _ x1 pt i T _ _ _ hMid fun h₃ hst₃ hk₃ => ?_)
      have ht₃ : h₃.IsTuple T #[v0, v1] := hT.at fun o e => hk₃ T o (W.apart i T h₂ hMid) e
      refine wpAny.n (wpAny_assign_Tuple hh ht₃ rfl rfl fun h₄ hx₄ => ?_)
      replace hx₄ : Heap.ExtBut h₃.objs.size h₃ h₄ := hx₄
      have up₄ : ∀ b o, h₃.get? b = some o → h₄.get? b = some o := fun b o x => hx₄ b o (Nat.ne_of_lt (Heap.lt_size x)) x
      have hk : ∀ b o, b ∉ wr → h.get? b = some o → h₄.get? b = some o := fun b o hb x => up₄ b o (hk₃ b o hb (hk₂ b o hb x))
      have F₁ : Frm env h₁ h₄ l os := F.others (fun b o hb e => hk b o (fun hm => hb (hoff b (W.sub b hm))) e)
        (fun b o e => hk b o (fun hm => by rw [hwr b hm] at e; cases e) (F.keep b o e)) (fun b o e => F.off e)
      obtain ⟨g, F₂, k1, k2⟩ := F₁.rebase
      have hst₄ : St (i + 1) h₄ := W.frame _ _ _ hst₃ fun b _ o e => up₄ b o e
      show wpAny _ A (do holding [v1] (assign (.Name xi pk) env v0); do holding [] (assign (.Name xc pv) env v1); pure ()) _ _ _
      refine wpAny_bind (wpAny_holding (wpAny_assign_Name (st_loc (s := { s with heap := h₄, toks := tk₂ }) F₂ hxi fun h₅ tk₅ F₅ => ?_)))
      refine wpAny_bind (wpAny_holding (wpAny_assign_Name (st_loc (s := { s with heap := h₅, toks := tk₅ }) F₅ hxc fun h₆ tk₆ F₆ => wpAny_pure ?_)))
      refine wpN_mono (turn i v0 v1 l os g h₆ tk₆ hlt' hP2 hJ F₆ k1) fun f s₃ hs₃ => ?_
      obtain ⟨rfl, h₇, tk₇, l', os', rfl, F₇, hJ'⟩ := hs₃
      refine ⟨n - (i + 1), by omega, h₇, tk₇, l', os', i + 1, rfl, F₇.base k1, hJ', ?_, hlt', rfl, fun b hb => ?_⟩
      · exact W.frame _ _ _ hst₄ fun b hb o e => F₇.keep b o (k2 b o e (hoff b hb))
      · obtain ⟨o, ho⟩ := Option.isSome_iff_exists.mp (hin _ _ hst₄ b hb)
        exact F₇.off (k2 b o ho (hoff b hb))
    · obtain rfl : i = n := by omega
      refine wpAny.n (W.done _ _ _ hst fun h' tk' hk => ?_)
      dsimp only
      refine execsN_nil (done h' tk' l os ?_ hJ)
      exact F.others (fun b o hb e => hk b o (fun hm => hb (hoff b (W.sub b hm))) e)
        (fun b o e => hk b o (fun hm => by rw [hwr b hm] at e; cases e) (F.keep b o e)) (fun b o e => F.off e)

/-- enumerate(e) of a list -/
theorem ev_enum {x : Str} {p pos : Pos} {e : Expr} {r : Addr} {items : Array Value} {Q : Value → Shared → Prop} (hn : Ev w A env s.heap (.Name x p) (IsV (.type "enumerate"))) (he : Ev w A env s.heap e (IsV (.ref r))) (hl : s.heap.IsList r items)
    (h : ∀ h' tk, IsEnum h' (s.heap.objs.size + 1) s.heap.objs.size 0 .none → h'.IsListIter s.heap.objs.size r 0 → h'.objs.size = s.heap.objs.size + 2 →
      (∀ b o, s.heap.get? b = some o → h'.get? b = some o) → Q (.ref (s.heap.objs.size + 1)) { s with heap := h', toks := tk })
    (hs : starEach [e] env = [(false, eval e env)] := by rfl) : wpAny (model PT w) A (eval (.Call (.Name x p) [e] [] pos) env) Q E s := by
  refine Call_Name1 (hn s _ E rfl fun v tk hv => ?_) hs
  cases hv
  refine PySem.callWith_type1 (he _ _ E rfl fun v tk hv => ?_)
  cases hv
  exact call_enumerate_list (s := { s with toks := tk }) hl fun h' a b c d => h h' tk a b c d

/-- for xi, xc in enumerate(e): .., the list standing in the base -/
theorem enumForN {xi xc rn : Str} {pk pv pt rp cp pos : Pos} {x1 : Nat} {e : Expr} {body : List Stmt} {r : Addr} {vs : List Value} {ns : List Int} {Q : Flow → Shared → Prop} (J : Nat → Vars → Objs → Prop) (hh : A.handled = none) (hxi : env.kindOf xi = some .local) (hxc : env.kindOf xc = some .local)
    (F : Frm env h₁ s.heap l os) (hn : Ev w A env s.heap (.Name rn rp) (IsV (.type "enumerate"))) (he : Ev w A env s.heap e (IsV (.ref r))) (hr : h₁.IsList r vs.toArray) (hi : IntsAre vs ns) (h0 : J 0 l os)
    (turn : ∀ i k t u l os h₂ h tk, ns[i]? = some k → J i l os → Frm env h₂ h ((xc, .int k u) :: ((xi, .int i t) :: l.filter (fun p => p.1 != xi)).filter (fun p => p.1 != xc)) os → (∀ b o, h₁.get? b = some o → h₂.get? b = some o) →
      wpN w A (execs body env) (fun f s₃ => f = .next ∧ ∃ h' tk' l' os', s₃ = { s with heap := h', toks := tk' } ∧ Frm env h₂ h' l' os' ∧ J (i + 1) l' os') { s with heap := h, toks := tk })
    (done : ∀ h tk l os, Frm env h₁ h l os → J ns.length l os → Q .next { s with heap := h, toks := tk })
    (hs : starEach [e] env = [(false, eval e env)] := by rfl) (hfs : ∀ v, foldedSetIterable (.Call (.Name rn rp) [e] [] cp) env v = pure v := by intro _; rfl) :
    wpN w A (exec (.For (.Tuple [.Name xi pk, .Name xc pv] x1 pt) (.Call (.Name rn rp) [e] [] cp) body [] pos) env) Q s := by
  have hls : s.heap.IsList r vs.toArray := hr.at fun o e => F.keep r o e
  obtain ⟨ol, hol, _⟩ := id hr
  have hrl : r < s.heap.objs.size := Heap.lt_size (F.keep _ _ hol)
  refine forN (wpAny.n (ev_enum hn he hls (fun h' tk e1 e2 e3 e4 => ?_) hs)) hfs
  refine wpAny.n (wpAny_pyIter_enum (s := { s with heap := h', toks := tk }) e1 ?_)
  have hlen : vs.toArray.size = ns.length := by simp [hi.length]
  have W := WalksT.enumerate (prog := PT) (w := w) (A := A) hh (s.heap.objs.size + 1) s.heap.objs.size r (Nat.succ_ne_self _) (Nat.ne_of_lt (Nat.lt_succ_of_lt hrl)) (Nat.ne_of_lt hrl) vs.toArray
  rw [hlen] at W
  obtain ⟨oi, hoi, _⟩ := id e2
  have n0 := fresh_none s.heap
  have n1 := size1_none s.heap
  have Fa := F.new (a := s.heap.objs.size) e4 n0 hoi
  have Fb := F.new (a := s.heap.objs.size + 1) e4 n1 e1
  refine loopTN (s := { s with heap := h', toks := tk }) (P2 := fun i v0 v1 => ∃ k t u, ns[i]? = some k ∧ v0 = .int i t ∧ v1 = .int k u) hh W ?_ hxi hxc J (F.keeps e4) ⟨⟨_, e1⟩, e2, hls.at fun o e => e4 _ o e⟩ ?_ ?_ ?_ h0 ?_ done
  · rintro i vals ⟨t, x, hx, rfl⟩
    have hx' : vs[i]? = some x := by simpa using hx
    have hil : i < ns.length := by rw [← hi.length]; exact (List.getElem?_eq_some_iff.mp hx').1
    obtain ⟨u, hu⟩ := hi.get i ns[i] (by simp [hil])
    rw [hu] at hx'
    cases hx'
    exact ⟨_, _, rfl, ns[i], t, u, by simp [hil], rfl, rfl⟩
  · rintro i h ⟨⟨old, a1⟩, ⟨o1, a2, _⟩, ⟨o2, a3, _⟩⟩ b hb
    simp only [List.mem_cons, List.not_mem_nil, or_false] at hb
    rcases hb with rfl | rfl | rfl
    · rw [show h.get? _ = _ from a1]; rfl
    · rw [a2]; rfl
    · rw [a3]; rfl
  · intro b hb
    simp only [List.mem_cons, List.not_mem_nil, or_false] at hb
    rcases hb with rfl | rfl | rfl
    · obtain ⟨g1, g2, g3, g4⟩ := Fb.own _ (List.mem_cons_self ..)
      exact ⟨g3, g4, fun p hp => (List.pairwise_cons.mp Fb.nodup).1 p hp⟩
    · obtain ⟨g1, g2, g3, g4⟩ := Fa.own _ (List.mem_cons_self ..)
      exact ⟨g3, g4, fun p hp => (List.pairwise_cons.mp Fa.nodup).1 p hp⟩
    · exact F.off hol
  · intro b hb
    simp only [List.mem_cons, List.not_mem_nil, or_false] at hb
    rcases hb with rfl | rfl
    · exact (Fb.own _ (List.mem_cons_self ..)).2.1
    · exact (Fa.own _ (List.mem_cons_self ..)).2.1
  · rintro i v0 v1 l os h₂ h tk hil ⟨k, t, u, hk, rfl, rfl⟩ hJ F₂ k1
    exact turn i k t u l os h₂ h tk hk hJ F₂ k1
end
end Mine
end

/-! part TC -/
section
open PySem PySem.W PyProof.Rows
namespace Mine

theorem Frm.new2 {env : Env} {h₀ h h' : Heap} {l : Vars} {os : Objs} {a b : Addr} {o o' : Obj} (F : Frm env h₀ h l os) (hk : ∀ b o, h.get? b = some o → h'.get? b = some o) (ha : h.get? a = none) (ho : h'.get? a = some o) (hb : h.get? b = none) (ho' : h'.get? b = some o') (hab : a ≠ b) :
    Frm env h₀ h' l ((a, o) :: (b, o') :: os) := by
  have F1 := F.new hk ha ho
  have F2 := F.new hk hb ho'
  refine { F2 with own := fun p hp => ?_, nodup := List.pairwise_cons.mpr ⟨fun q hq => ?_, F2.nodup⟩ }
  · rcases List.mem_cons.mp hp with rfl | hp
    · exact F1.own _ (List.mem_cons_self ..)
    · exact F2.own _ hp
  · rcases List.mem_cons.mp hq with rfl | hq
    · exact hab
    · exact (List.pairwise_cons.mp F1.nodup).1 q hq

section
variable {w : World} {A : Around} {env : Env} {h h₁ : Heap} {l : Vars} {os : Objs} {s : Shared} {E : Value → Shared → Prop} {R : Result → Shared → Prop}

theorem compLoopT_code {elt target iter : Expr} {scope : Scope} {pos : Pos} {it acc : Value} {env : Env} (I : Nat → Shared → Prop)
    (turn : ∀ n s, I n s → wpAny (model PT w) A (pyNext it) (fun r s₁ => match r with
      | none => R (.ok .next) s₁
      | some v => wpAny (model PT w) A (letOwnedTupleGo target it v) (fun _ s₁' => wpAny (model PT w) A (assign target env v) (fun _ s₂ =>
            wpAny (model PT w) A (eval elt env) (fun x s₄ =>
              wpAny (model PT w) A (call (.builtin "list.append") [acc, x]) (fun _ s₅ => ∃ m, m < n ∧ I m s₅) (notedBy (model PT w) A env fun e s' => R (.error e) s') s₄) (notedBy (model PT w) A env fun e s' => R (.error e) s') s₂)
            (notedBy (model PT w) A env fun e s' => R (.error e) s') s₁') (notedBy (model PT w) A env fun e s' => R (.error e) s') s₁) (notedBy (model PT w) A env fun e s' => R (.error e) s') s)
    (n : Nat) (h : I n s) :
    codeAny (model PT w) A (.compLoop (.ListComp elt [⟨target, iter, [], 0⟩] scope pos) 0 it acc env) R s := by
  refine codeAny_loop rfl I (fun n s hI => ?_) n h
  show wpAny _ A ((compTurn (.ListComp elt [⟨target, iter, [], 0⟩] scope pos) 0 it acc env).onRaise (fun x => do noteFrame x env; theTreesLotGoes x)) _ _ s
  refine wpAny_noted ?_
  rw [compTurn_list]
  refine wpAny_bind (wpAny_standAt (wpAny_bind (wpAny_mono (turn n s hI) (fun r s₁ h₁ => ?_) fun _ _ h' => h')))
  cases r with
  | none => exact wpAny_pure h₁
  | some v =>
    refine wpAny_bind (wpAny_mono h₁ (fun _ s₁' h₁' => ?_) fun _ _ h' => h')
    refine wpAny_bind (wpAny_mono h₁' (fun _ s₂ h₂ => wpAny_bind (wpAny_pure ?_)) fun _ _ h' => h')
    exact wpAny_bind (wpAny_bind (wpAny_mono h₂ (fun x s₄ h₄ => wpAny_bind (wpAny_mono h₄ (fun _ s₅ h₅ => wpAny_pure (wpAny_pure ⟨rfl, h₅⟩)) fun _ _ h' => h')) fun _ _ h' => h'))

theorem compLoopT {elt iter : Expr} {xi xc : Str} {pk pv pt : Pos} {x1 : Nat} {scope : Scope} {pos : Pos} {I D : Addr} {fp wr : List Addr} {n : Nat} {Pt : Nat → Array Value → Prop} {St : Nat → Heap → Prop} {Mid : Nat → Addr → Heap → Prop} {P2 : Nat → Value → Value → Prop} {G : Nat → Value → Prop}
    {cenv : Env} {m : Str → Option Value} (hh : A.handled = none) (W : WalksT PT w A I fp wr n Pt St Mid) (h2 : ∀ i vals, Pt i vals → ∃ v0 v1, vals = #[v0, v1] ∧ P2 i v0 v1) (hne : xi ≠ xc)
    (hxi : cenv.kindOf xi = some .local) (hxc : cenv.kindOf xc = some .local) (hp : (cenv.scope.kind == .class || (cenv.scope.kind == .module && cenv.locals != cenv.globals)) = false)
    (hDC : D ≠ cenv.locals) (hDf : D ∉ fp) (hCf : cenv.locals ∉ fp) (hsz : n ≤ sizeLine)
    (hst : St 0 s.heap) (hacc : s.heap.PlainList D #[]) (hn : s.heap.Ns cenv.locals m)
    (helt : ∀ i v0 v1 h₂ m₂, i < n → P2 i v0 v1 → h₂.Ns cenv.locals m₂ → m₂ xi = some v0 → m₂ xc = some v1 → (∀ b o, b ≠ cenv.locals → b ∉ wr → b ≠ D → s.heap.get? b = some o → h₂.get? b = some o) → Ev w A cenv h₂ elt (G i))
    (hR : ∀ h' tk m' ys, h'.Ns cenv.locals m' → h'.PlainList D ys → ys.size = n → (∀ j y, ys[j]? = some y → G j y) →
      (∀ b o, b ≠ cenv.locals → b ∉ wr → b ≠ D → s.heap.get? b = some o → h'.get? b = some o) → R (.ok .next) { s with heap := h', toks := tk }) :
    codeAny (model PT w) A (.compLoop (.ListComp elt [⟨.Tuple [.Name xi pk, .Name xc pv] x1 pt, iter, [], 0⟩] scope pos) 0 (.ref I) (.ref D) cenv) R s := by
  refine compLoopT_code
    (fun k s' => ∃ h' tk m' ys, s' = { s with heap := h', toks := tk } ∧ St ys.size h' ∧ h'.PlainList D ys ∧ h'.Ns cenv.locals m' ∧ (∀ j y, ys[j]? = some y → G j y) ∧ ys.size ≤ n ∧ k = n + 1 - ys.size ∧
      (∀ b o, b ≠ cenv.locals → b ∉ wr → b ≠ D → s.heap.get? b = some o → h'.get? b = some o)) ?_ (n + 1)
    ⟨s.heap, s.toks, m, #[], rfl, hst, hacc, hn, by simp, Nat.zero_le _, rfl, fun _ _ _ _ _ e => e⟩
  rintro k s' ⟨H, tk, m', ys, rfl, hst', hacc', hn', hG, hi, rfl, hk⟩
  have hCw : cenv.locals ∉ wr := fun h => hCf (W.sub _ h)
  have hDw : D ∉ wr := fun h => hDf (W.sub _ h)
  by_cases hlt : ys.size < n
  · refine W.item ys.size _ _ _ hlt hst' fun T vals h₁ tk₁ hPt _ hT hMid hk₁ => ?_
    obtain ⟨v0, v1, rfl, hP2⟩ := h2 _ vals hPt
    refine W.go _ x1 pt ys.size T _ _ _ hMid fun h₂ hst₂ hk₂ => ?_
    have ht₂ : h₂.IsTuple T #[v0, v1] := hT.at fun o e => hk₂ T o (W.apart _ T h₁ hMid) e
    refine wpAny_assign_Tuple hh ht₂ rfl rfl fun h₃ hx₃ => ?_
    replace hx₃ : Heap.ExtBut h₂.objs.size h₂ h₃ := hx₃
    have up₃ : ∀ b o, h₂.get? b = some o → h₃.get? b = some o := fun b o x => hx₃ b o (Nat.ne_of_lt (Heap.lt_size x)) x
    have k₃ : ∀ b o, b ∉ wr → H.get? b = some o → h₃.get? b = some o := fun b o hb x => up₃ b o (hk₂ b o hb (hk₁ b o hb x))
    show wpAny _ A (do holding [v1] (assign (.Name xi pk) cenv v0); do holding [] (assign (.Name xc pv) cenv v1); pure ()) _ _ _
    refine wpAny_bind (wpAny_holding (wpAny_assign_Name (wpAny_storeName_local hxi (hn'.at' fun o e => k₃ _ o hCw e) (fun h₄ hn₄ hs₄ => ?_) hp)))
    replace hs₄ : Heap.SameBut cenv.locals h₃ h₄ := hs₄
    refine wpAny_bind (wpAny_holding (wpAny_assign_Name (wpAny_storeName_local hxc hn₄ (fun h₅ hn₅ hs₅ => wpAny_pure ?_) hp)))
    replace hs₅ : Heap.SameBut cenv.locals h₄ h₅ := hs₅
    have k₅ : ∀ b o, b ≠ cenv.locals → b ∉ wr → H.get? b = some o → h₅.get? b = some o := fun b o hbC hb x => hs₅.extBut b o hbC (hs₄.extBut b o hbC (k₃ b o hb x))
    have hst₅ : St (ys.size + 1) h₅ := W.frame _ _ _ hst₂ fun b hb o e => hs₅.extBut b o (fun q => hCf (q ▸ hb)) (hs₄.extBut b o (fun q => hCf (q ▸ hb)) (up₃ b o e))
    have hacc₅ : h₅.PlainList D ys := hacc'.at fun o e => k₅ D o hDC hDw e
    refine helt ys.size v0 v1 h₅ _ hlt hP2 hn₅ (by simp [hne]) (by simp) (fun b o hbC hbf hbD e => k₅ b o hbC hbf (hk b o hbC hbf hbD e)) _ _ _ rfl fun y tk₆ hy => ?_
    refine wpAny_list_append_plain (hsz := by omega) hacc₅ fun h₇ hl₇ hs₇ => ?_
    replace hs₇ : Heap.SameBut D h₅ h₇ := hs₇
    refine ⟨n + 1 - (ys.size + 1), by omega, h₇, tk₆, _, ys.push y, rfl, ?_, hl₇, hn₅.sameBut hs₇ (Ne.symm hDC), ?_, by rw [Array.size_push]; exact hlt, by rw [Array.size_push], fun b o hbC hbf hbD e => hs₇.extBut b o hbD (k₅ b o hbC hbf (hk b o hbC hbf hbD e))⟩
    · have := W.frame _ _ h₇ hst₅ fun b hb o e => hs₇.extBut b o (fun h => hDf (h ▸ hb)) e
      simpa using this
    · intro j z hz
      rw [Array.getElem?_push] at hz
      split at hz
      · rename_i e; subst e; cases hz; exact hy
      · exact hG j z hz
  · have hin : ys.size = n := by omega
    refine W.done _ _ _ (hin ▸ hst') fun h₁ tk₁ hk₁ => ?_
    exact hR h₁ tk₁ m' ys (hn'.at' fun o e => hk₁ _ o hCw e) (hacc'.at fun o e => hk₁ _ o hDw e) hin hG fun b o hbC hbf hbD e => hk₁ b o hbf (hk b o hbC hbf hbD e)

theorem compBlockT {elt iter : Expr} {xi xc : Str} {pk pv pt : Pos} {x1 : Nat} {scope : Scope} {cl : List (Str × Addr)} {pos : Pos} {s₂ : Shared} {I : Addr} {fp wr : List Addr} {n : Nat} {Pt : Nat → Array Value → Prop} {St : Nat → Heap → Prop} {Mid : Nat → Addr → Heap → Prop} {P2 : Nat → Value → Value → Prop} {G : Nat → Value → Prop}
    {RR : Value → Addr → Result → Shared → Prop} (hh : A.handled = none) (W : WalksT PT w A I fp wr n Pt St Mid) (h2 : ∀ i vals, Pt i vals → ∃ v0 v1, vals = #[v0, v1] ∧ P2 i v0 v1) (hne : xi ≠ xc) (hsz : n ≤ sizeLine)
    (hcell : ∀ y ∈ scope.names, y.2 ≠ .cell) (hkind : scope.kind = .function) (hxi : scope.names.lookup xi = some .local) (hxc : scope.names.lookup xc = some .local) (hst : St 0 s₂.heap) (hfp : ∀ b ∈ fp, b < s₂.heap.objs.size)
    (helt : ∀ C i v0 v1 h m, i < n → P2 i v0 v1 → h.Ns C m → m xi = some v0 → m xc = some v1 → (∀ b o, b ∉ wr → s₂.heap.get? b = some o → h.get? b = some o) → Ev w A (compEnvC scope cl C env) h elt (G i))
    (hRR : ∀ D C h' tk m' ys, s₂.heap.get? D = none → s₂.heap.get? C = none → D ≠ C → h'.Ns C m' → h'.PlainList D ys → ys.size = n → (∀ j y, ys[j]? = some y → G j y) →
      (∀ b o, b ∉ wr → s₂.heap.get? b = some o → h'.get? b = some o) → RR (.ref D) C (.ok .next) { s₂ with heap := h', toks := tk }) :
    wpAny (model PT w) A (newList []) (fun acc s₃ => wpAny (model PT w) A (newFunctionEnv scope env.globals cl [] env.qual none .none (some env)) (fun cenv s₄ =>
      codeAny (model PT w) A (.compStart (.ListComp elt [⟨.Tuple [.Name xi pk, .Name xc pv] x1 pt, iter, [], 0⟩] scope pos) 0 (.ref I) acc { cenv with scope := relabel scope env }) (RR acc cenv.locals) s₄) E s₃) E s₂ := by
  refine wpAny_newObj_type (wpAny_newFunctionEnv hcell (by intro y hy; simp at hy) (fun h₁ hns₁ hsb₁ => ?_) hkind)
  dsimp only at hns₁ hsb₁ ⊢
  generalize hH2 : s₂.heap.push { cls := .type "list", dict := none, data := .seq ([] : List Value).toArray } = H2 at hns₁ hsb₁ ⊢
  have hC : H2.objs.size = s₂.heap.objs.size + 1 := by rw [← hH2, Heap.size_push]
  have hDC : s₂.heap.objs.size ≠ H2.objs.size := by rw [hC]; exact Nat.ne_of_lt (Nat.lt_succ_self _)
  have below : ∀ b, b < s₂.heap.objs.size → b ≠ H2.objs.size ∧ b ≠ s₂.heap.objs.size := fun b hb => ⟨by rw [hC]; exact Nat.ne_of_lt (Nat.lt_succ_of_lt hb), Nat.ne_of_lt hb⟩
  have hDf : s₂.heap.objs.size ∉ fp := fun hm => Nat.lt_irrefl _ (hfp _ hm)
  have hCf : H2.objs.size ∉ fp := fun hm => by have := hfp _ hm; rw [hC] at this; exact Nat.lt_irrefl _ (Nat.lt_of_succ_lt this)
  have old : ∀ b o, s₂.heap.get? b = some o → h₁.get? b = some o := fun b o e => hsb₁.extBut b o (below b (Heap.lt_size e)).1 (Heap.get?_push_of_some _ (hH2 ▸ Heap.get?_push_of_some _ e))
  have hacc : h₁.PlainList s₂.heap.objs.size #[] := ⟨_, hsb₁.extBut _ _ hDC (Heap.get?_push_of_some _ (hH2 ▸ Heap.get?_push_size _ rfl))⟩
  have hst₁ : St 0 h₁ := W.frame _ _ _ hst fun b _ o e => old b o e
  have loop : ∀ s₃ : Shared, s₃ = { s₂ with heap := h₁, toks := s₂.toks + ([] : List (Str × Value)).length } →
      codeAny (model PT w) A (.compLoop (.ListComp elt [⟨.Tuple [.Name xi pk, .Name xc pv] x1 pt, iter, [], 0⟩] scope pos) 0 (.ref I) (.ref s₂.heap.objs.size) (compEnvC scope cl H2.objs.size env))
        (RR (.ref s₂.heap.objs.size) H2.objs.size) s₃ := by
    rintro s₃ rfl
    refine compLoopT (cenv := compEnvC scope cl H2.objs.size env) (G := G) hh W h2 hne (lookup_relabel_local hxi) (lookup_relabel_local hxc) (by simp [compEnvC, relabel, hkind]) hDC hDf hCf hsz hst₁ hacc hns₁
      (fun i v0 v1 h₂ m₂ hi hv hn a b hk => helt _ i v0 v1 h₂ m₂ hi hv hn a b (fun b o hbf e => hk b o (below b (Heap.lt_size e)).1 hbf (below b (Heap.lt_size e)).2 (old b o e))) fun h' tk m' ys hn hpl hlen hG hk => ?_
    exact hRR _ _ h' tk m' ys (fresh_none _) (by rw [hC]; exact size1_none _) hDC hn hpl hlen hG fun b o hbf e =>
      hk b o (below b (Heap.lt_size e)).1 hbf (below b (Heap.lt_size e)).2 (old b o e)
  exact codeAny_compStart_list (loop _ rfl) (W.self 0 _ _ _ hst₁ (loop _ rfl))

/-- the list of the numbers that G tells -/
theorem ints_of : ∀ (ys : List Value) (ms : List Int), ys.length = ms.length → (∀ (j : Nat) y, ys[j]? = some y → ∃ k, ms[j]? = some k ∧ IsI k y) → IntsAre ys ms
  | [], [], _, _ => .nil
  | y :: ys, m :: ms, hl, h => by
    obtain ⟨k, hk, t, rfl⟩ := h 0 y rfl
    cases hk
    exact .cons _ _ (ints_of ys ms (by simpa using hl) fun j y hy => h (j + 1) y hy)

/-- y = [elt for xi, xc in enumerate(e)], the list standing in the base -/
theorem compTA {elt e : Expr} {xi xc y rn : Str} {pk pv pt py rp cp pos spos : Pos} {x1 : Nat} {scope : Scope} {cl : List (Str × Addr)} {r : Addr} {vs : List Value} {ns ms : List Int} {Q : Flow → Shared → Prop} (hh : A.handled = none) (hsz : ns.length ≤ sizeLine) (F : Frm env h₁ s.heap l os)
    (hsw : swapsWith (.ListComp elt [⟨.Tuple [.Name xi pk, .Name xc pv] x1 pt, .Call (.Name rn rp) [e] [] cp, [], 0⟩] scope pos) (some (.Name y py)) spos.line env = pure true)
    (hclos : closureFor scope env = pure cl) (hcell : ∀ y ∈ scope.names, y.2 ≠ .cell) (hkind : scope.kind = .function)
    (hnames : ∀ y ∈ scope.names, y.2 = .local → scope.names.lookup y.1 = some .local) (hne : xi ≠ xc) (hxi : scope.names.lookup xi = some .local) (hxc : scope.names.lookup xc = some .local) (hy : env.kindOf y = some .local)
    (hn : Ev w A env s.heap (.Name rn rp) (IsV (.type "enumerate"))) (he : Ev w A env s.heap e (IsV (.ref r))) (hr : h₁.IsList r vs.toArray) (hi : IntsAre vs ns) (hlm : ms.length = ns.length)
    (helt : ∀ C (i : Nat) k z t u h m, ns[i]? = some k → ms[i]? = some z → h.Ns C m → m xi = some (.int i t) → m xc = some (.int k u) → (∀ b o, s.heap.get? b = some o → h.get? b = some o) → Ev w A (compEnvC scope cl C env) h elt (IsI z))
    (hQ : ∀ D h' tk vs c, Frm env h₁ h' ((y, .ref D) :: l.filter (fun p => p.1 != y)) ((D, lsObj vs c) :: os) → IntsAre vs ms → Q .next { s with heap := h', toks := tk })
    (hs : starEach [e] env = [(false, eval e env)] := by rfl) (hfs : ∀ v, foldedSetIterable (.Call (.Name rn rp) [e] [] cp) env v = pure v := by intro _; rfl) :
    wpAny (model PT w) A (exec (.Assign [.Name y py] (.ListComp elt [⟨.Tuple [.Name xi pk, .Name xc pv] x1 pt, .Call (.Name rn rp) [e] [] cp, [], 0⟩] scope pos) spos) env) Q E s := by
  have hp : (env.scope.kind == .class || (env.scope.kind == .module && env.locals != env.globals)) = false := by rw [F.kind]; rfl
  rw [exec_Assign_Name_used _ _ _ _ hsw]
  refine wpAny_bind (wpAny_standAt (wpAny_bind ?_))
  show wpAny _ A (do let _ ← comprehension (.ListComp elt [⟨.Tuple [.Name xi pk, .Name xc pv] x1 pt, .Call (.Name rn rp) [e] [] cp, [], 0⟩] scope pos) scope env _ (newList []) false (eval (.Call (.Name rn rp) [e] [] cp) env) (some (assign (.Name y py) env))) _ _ s
  have hls : s.heap.IsList r vs.toArray := hr.at fun o e => F.keep r o e
  obtain ⟨ol, hol, _⟩ := id hr
  have hrl : r < s.heap.objs.size := Heap.lt_size (F.keep _ _ hol)
  refine wpAny_bind (wpAny_mono (wpAny_comprehension_free (use := some (assign (.Name y py) env)) (Q := fun _ s' => Q .next s') rfl hfs hclos hkind hnames
    (ev_enum hn he hls (fun h' tk e1 e2 e3 e4 => wpAny_pyIter_enum (s := { s with heap := h', toks := tk }) e1 ?_) hs)) (fun _ s' hq => wpAny_pure (wpAny_pure hq)) fun _ _ e => e)
  have hlen : vs.toArray.size = ns.length := by simp [hi.length]
  have W := WalksT.enumerate (prog := PT) (w := w) (A := A) hh (s.heap.objs.size + 1) s.heap.objs.size r (Nat.succ_ne_self _) (Nat.ne_of_lt (Nat.lt_succ_of_lt hrl)) (Nat.ne_of_lt hrl) vs.toArray
  rw [hlen] at W
  have F' := F.keeps e4
  have n0 := fresh_none s.heap
  have n1 := size1_none s.heap
  have hw : ∀ b o, s.heap.get? b = some o → b ∉ [s.heap.objs.size + 1, s.heap.objs.size] := fun b o e hb => by
    simp only [List.mem_cons, List.not_mem_nil, or_false] at hb
    rcases hb with rfl | rfl
    · rw [n1] at e; cases e
    · rw [n0] at e; cases e
  refine compBlockT (s₂ := { s with heap := h', toks := tk }) (P2 := fun i v0 v1 => ∃ k t u, ns[i]? = some k ∧ v0 = .int i t ∧ v1 = .int k u) (G := fun i v => ∃ z, ms[i]? = some z ∧ IsI z v)
    (RR := fun acc C => compPost (model PT w) A E (some (assign (.Name y py) env)) (fun _ s' => Q .next s') acc C) hh W ?_ hne hsz hcell hkind hxi hxc ⟨⟨_, e1⟩, e2, hls.at fun o e => e4 _ o e⟩ ?_ ?_ ?_
  · rintro i vals ⟨t, x, hx, rfl⟩
    have hx' : vs[i]? = some x := by simpa using hx
    have hil : i < ns.length := by rw [← hi.length]; exact (List.getElem?_eq_some_iff.mp hx').1
    obtain ⟨u, hu⟩ := hi.get i ns[i] (by simp [hil])
    rw [hu] at hx'
    cases hx'
    exact ⟨_, _, rfl, ns[i], t, u, by simp [hil], rfl, rfl⟩
  · intro b hb
    show b < h'.objs.size
    rw [e3]
    simp only [List.mem_cons, List.not_mem_nil, or_false] at hb
    rcases hb with rfl | rfl | rfl
    · exact Nat.lt_succ_self _
    · exact Nat.lt_succ_of_lt (Nat.lt_succ_self _)
    · exact Nat.lt_succ_of_lt (Nat.lt_succ_of_lt hrl)
  · rintro C i v0 v1 h m hil ⟨k, t, u, hk, rfl, rfl⟩ hnC m0 m1 hkp
    have hz : ms[i]? = some ms[i] := by simp [hlm, hil]
    have := helt C i k ms[i] t u h m hk hz hnC m0 m1 fun b o e => hkp b o (hw b o e) (e4 _ _ e)
    exact fun s' Q' E' hs' hq => this s' Q' E' hs' fun v tk hv => hq v tk ⟨_, hz, hv⟩
  · intro D C h'' tk' m' ys hD hC hDC hnC hpl hlenY hG hkk
    have hD0 : s.heap.get? D = none := none_of_keep e4 hD
    obtain ⟨c, hc⟩ := hpl
    have iY : IntsAre ys.toList ms := ints_of _ _ (by simp [hlenY, hlm]) fun j z hj => hG j z (by simpa using hj)
    have hkS : ∀ b o, s.heap.get? b = some o → h''.get? b = some o := fun b o e => hkk b o (hw b o e) (e4 _ _ e)
    obtain ⟨oC, es, ep, hoC, hdC, hrC⟩ := id hnC
    have Fn := F.new2 hkS (none_of_keep e4 hC) hoC hD0 (o' := lsObj ys.toList c) (by simpa using hc) (Ne.symm hDC)
    show wpAny _ A (assign (.Name y py) env (.ref D)) _ _ _
    refine wpAny_assign_Name (st_loc (s := { s with heap := h'', toks := tk' }) Fn hy fun h₃ tk₃ F₃ => ?_)
    refine ⟨m', ⟨oC, es, ep, F₃.get (List.mem_cons_self ..), hdC, hrC⟩, fun h₄ hs₄ => ?_⟩
    replace hs₄ : Heap.SameBut C h₃ h₄ := hs₄
    obtain ⟨c1, c2, c3, c4⟩ := F₃.own _ (List.mem_cons_self ..)
    have c5 := (List.pairwise_cons.mp F₃.nodup).1
    refine hQ D h₄ tk₃ ys.toList c ((F₃.subO (List.sublist_cons_self ..)).others (fun b o hb e => hs₄.extBut b o ?_ e) (fun b o e => hs₄.extBut b o ?_ (F₃.keep b o e)) fun b o e => (F₃.subO (List.sublist_cons_self ..)).off e) iY
    · rintro rfl
      exact hb ⟨c3, c4, fun p hp => c5 p hp⟩
    · rintro rfl
      rw [c2] at e; cases e
end
end Mine
end

/-! part LS -/
section
open PySem PySem.W PyProof.Rows
namespace Mine

section
variable {w : World} {A : Around} {env : Env} {h h₁ : Heap} {l : Vars} {os : Objs} {s : Shared} {E : Value → Shared → Prop}

theorem src_at {r : Addr} {vs : List Value} {ns : List Int} {h' : Heap} {tk : Nat} (hh : A.handled = none) (hk : ∀ b o, s.heap.get? b = some o → h'.get? b = some o) (hl : h'.IsList r vs.toArray) (hi : IntsAre vs ns) :
    wpAny (model PT w) A (pyIter (.ref r)) (Src w A s ns.length (fun i => ns.getD i 0)) E { s with heap := h', toks := tk } := by
  obtain ⟨ol, hol, _⟩ := id hl
  refine wpAny_pyIter_list (s := { s with heap := h', toks := tk }) hl ?_
  have hrl : r < h'.objs.size := Heap.lt_size hol
  have W := Walks.list (prog := PT) (w := w) (A := A) hh h'.objs.size r (Nat.ne_of_lt hrl) vs.toArray
  have hlen : vs.toArray.size = ns.length := by simp [hi.length]
  rw [hlen] at W
  have hg : (h'.push { cls := .type "list_iterator", data := .fields #[.ref r, .int 0 0] }).get? h'.objs.size = some { cls := .type "list_iterator", data := .fields #[.ref r, .int 0 0] } := Heap.get?_push_size _ rfl
  refine ⟨h'.objs.size, _, _, _, _, rfl, W, ⟨⟨_, hg, rfl, rfl⟩, hl.at fun o e => Heap.get?_push_of_some _ e⟩, ?_, ?_, ?_, _, _, rfl, fun b o e => Heap.get?_push_of_some _ (hk b o e)⟩
  · intro b hb
    show b < (h'.push _).objs.size
    rw [Heap.size_push]
    simp only [List.mem_cons, List.not_mem_nil, or_false] at hb
    rcases hb with rfl | rfl
    · exact Nat.lt_succ_self _
    · exact Nat.lt_succ_of_lt hrl
  · intro i v hP
    have hx : vs[i]? = some v := by simpa using hP
    have hil : i < ns.length := by rw [← hi.length]; exact (List.getElem?_eq_some_iff.mp hx).1
    obtain ⟨u, hu⟩ := hi.get i ns[i] (by simp [hil])
    rw [hu] at hx
    cases hx
    exact ⟨u, by simp [List.getD, hil]⟩
  · intro b hb
    rw [List.mem_singleton.mp hb]
    cases hq : s.heap.get? h'.objs.size with
    | none => rfl
    | some o => exact absurd (Heap.lt_size (hk _ _ hq)) (Nat.lt_irrefl _)
theorem src_list {e : Expr} {r : Addr} {vs : List Value} {ns : List Int} (hh : A.handled = none) (he : Ev w A env s.heap e (IsV (.ref r))) (hl : s.heap.IsList r vs.toArray) (hi : IntsAre vs ns) :
    wpAny (model PT w) A (eval e env) (fun xv s₁ => wpAny (model PT w) A (pyIter xv) (Src w A s ns.length (fun i => ns.getD i 0)) E s₁) E s := by
  refine he s _ E rfl fun v tk hv => ?_
  cases hv
  exact src_at hh (fun _ _ e => e) hl hi
theorem range_getD {β : Type} (ns : List Int) (g : Int → β) : ((List.range ns.length).map fun i => g (ns.getD i 0)) = ns.map g := by
  apply List.ext_getElem
  · simp
  · intro i h1 h2
    have hi : i < ns.length := by simpa using h2
    simp [List.getD, hi]

/-- != of two lists of the same ints -/
theorem neL_same {a b : Addr} {vs ws : List Value} {ns : List Int} {Q : Value → Shared → Prop} (ha : s.heap.IsList a vs.toArray) (hb : s.heap.IsList b ws.toArray) (hi : IntsAre vs ns) (hj : IntsAre ws ns) (hu : A.units < cLine)
    (h : Q (.bool false) s) : wpAny (model PT w) A (compareOp .NotEq (.ref a) (.ref b)) Q E s := by
  have hl : vs.length = ws.length := by rw [hi.length, hj.length]
  have key := PySem.SeqAt.RcNeAt.lists (A := A) (s := s) (e := fun _ => true) ha hb (by simpa using hl) hu (fun j h1 h2 => ?_)
  · refine key PT w E Q ?_
    have e : (!(List.range vs.toArray.size).all fun _ => true) = false := by simp
    rw [e]; exact h
  · have h1' : j < vs.length := by simpa using h1
    have hjn : j < ns.length := by rw [← hi.length]; exact h1'
    obtain ⟨t, ht⟩ := hi.get j ns[j] (by simp [hjn])
    obtain ⟨u, hu'⟩ := hj.get j ns[j] (by simp [hjn])
    have e1 : vs.toArray[j] = .int ns[j] t := by
      have := List.getElem?_eq_some_iff.mp ht
      simpa using this.2
    have e2 : ws.toArray[j] = .int ns[j] u := by
      have := List.getElem?_eq_some_iff.mp hu'
      simpa using this.2
    rw [e1, e2]
    have := PySem.SeqAt.EqAt.int_int (A := A.in1) (s := s) ns[j] t ns[j] u
    simpa using this
end
end Mine
end

/-! part LD -/
section
open PySem PySem.W PyProof.Rows
namespace Mine
local macro_rules | `(tactic| k_mem) => `(tactic| (refine mem_filter_ne ?_ (by decide); k_mem))

def toI (m : List Nat) : List Int := m.map fun (n : Nat) => (n : Int)
def octN (m : List Nat) : Array UInt8 := (m.map Nat.toUInt8).toArray
/-- what the encoder writes for a message -/
def encW (e : Nat) (fcr : Int) (n : Nat) (m : List Nat) : List Nat := (encA e fcr n (octN m)).toList.map UInt8.toNat
theorem octs_toI (m : List Nat) : octs (toI m) = octN m := by simp [octs, toI, octN]
def pwI : List Int := (List.range 255).map fun i => ((pw i : Nat) : Int)
theorem pwI_get {i : Nat} (h : i < 255) : pwI[i]? = some ((pw i : Nat) : Int) := by simp [pwI, h]

/-- the frame of law -/
structure LE (env : Env) : Prop where
  sc : env.scope = dLaw.scope
  gl : env.globals = mainGlobals
  bl : env.builtins = builtinsNs
  cs : env.cells = cellsFrom (env.locals + 1) dLaw.scope.names []
  kd : env.scope.kind = .function
namespace LE
variable {env : Env}
theorem kL (L : LE env) (x : Str) (h : dLaw.scope.names.lookup x = some .local) : env.kindOf x = some .local := kindOf_of L.sc h
theorem kG (L : LE env) (x : Str) (h : dLaw.scope.names.lookup x = some .globalImplicit) : env.kindOf x = some .globalImplicit := kindOf_of L.sc h
theorem kC (L : LE env) (x : Str) (h : dLaw.scope.names.lookup x = some .cell) : env.kindOf x = some .cell := kindOf_of L.sc h
theorem cStep (L : LE env) : env.cells.lookup (Str.ofString "step") = some (env.locals + 1) := by rw [L.cs]; rfl
theorem cLater (L : LE env) : env.cells.lookup (Str.ofString "later") = some (env.locals + 2) := by rw [L.cs]; rfl
theorem cPowers (L : LE env) : env.cells.lookup (Str.ofString "powers") = some (env.locals + 3) := by rw [L.cs]; rfl
theorem cLogs (L : LE env) : env.cells.lookup (Str.ofString "logs") = some (env.locals + 4) := by rw [L.cs]; rfl
theorem cBy (L : LE env) : env.cells.lookup (Str.ofString "by") = some (env.locals + 5) := by rw [L.cs]; rfl
theorem cOther (L : LE env) : env.cells.lookup (Str.ofString "other") = some (env.locals + 6) := by rw [L.cs]; rfl
theorem cPower (L : LE env) : env.cells.lookup (Str.ofString "power") = some (env.locals + 7) := by rw [L.cs]; rfl
theorem cBehind (L : LE env) : env.cells.lookup (Str.ofString "behind") = some (env.locals + 8) := by rw [L.cs]; rfl
end LE

/-- the functions that law leans on -/
structure World2 (gl : Vars) (eB lB : Array UInt8) (h : Heap) : Prop where
  W : World1 gl eB lB h
  enc : ∃ f, FnAt h dEnc f ∧ ((Str.ofString "rs_encode_msg", Value.ref f) ∈ gl)
  gen : ∃ f, FnAt h dGen f ∧ ((Str.ofString "rs_generator_poly", Value.ref f) ∈ gl)
  poly : ∃ f, FnAt h dPoly f ∧ ((Str.ofString "gf_poly_mul", Value.ref f) ∈ gl)
  pow : ∃ f, FnAt h dPow f ∧ ((Str.ofString "gf_pow", Value.ref f) ∈ gl)
  lp : ∃ f, FnAt h dLp f ∧ ((Str.ofString "_law_powers", Value.ref f) ∈ gl)
theorem World2.keeps {gl : Vars} {eB lB : Array UInt8} {h h' : Heap} (x : World2 gl eB lB h) (hk : ∀ b o, h.get? b = some o → h'.get? b = some o) : World2 gl eB lB h' :=
  ⟨x.W.keeps hk, let ⟨f, a, b⟩ := x.enc; ⟨f, a.keeps hk, b⟩, let ⟨f, a, b⟩ := x.gen; ⟨f, a.keeps hk, b⟩, let ⟨f, a, b⟩ := x.poly; ⟨f, a.keeps hk, b⟩, let ⟨f, a, b⟩ := x.pow; ⟨f, a.keeps hk, b⟩, let ⟨f, a, b⟩ := x.lp; ⟨f, a.keeps hk, b⟩⟩

section
variable {w : World} {A : Around} {env : Env} {h h₁ : Heap} {l : Vars} {os : Objs} {gl : Vars} {eB lB : Array UInt8} {s : Shared} {E : Value → Shared → Prop}

/-- rs_encode_msg(bytearray(e), checks, first, powers[step]) -/
theorem encCall {e : Expr} {p1 p2 p3 p4 p5 p6 p7 p8 pos : Pos} {n step P : Nat} {first : Int} {m : List Nat} {pvs : List Value} {tc tf ts : Tok} {Q : Value → Shared → Prop} (L : LE env) (W : World2 gl eB lB h₁) (F : Frm env h₁ s.heap l os) (hroom : A.depth + 4 < recursionLimit) (hh : A.handled = none)
    (mc : (Str.ofString "checks", .int n tc) ∈ l) (mf : (Str.ofString "first", .int first tf) ∈ l) (mp : (Str.ofString "powers", .ref P) ∈ l) (ms : (Str.ofString "step", .int step ts) ∈ l)
    (hP : h₁.IsList P pvs.toArray) (iP : IntsAre pvs pwI) (hs : step < 255) (hm : ∀ x ∈ m, x < 256) (hl : m.length + n ≤ 255) (hn : n ≤ 100)
    (hE : ∀ tk (Q' : Value → Shared → Prop), (∀ D h' tk' vs c, (∀ b o, s.heap.get? b = some o → h'.get? b = some o) → h'.get? D = some (lsObj vs c) → IntsAre vs (toI m) → Q' (.ref D) { s with heap := h', toks := tk' }) → wpN w A (eval e env) Q' { s with toks := tk })
    (hQ : ∀ a h' tk, (∀ b o, s.heap.get? b = some o → h'.get? b = some o) → s.heap.get? a = none → h'.get? a = some (baObj (encA step first n (octN m))) → Q (.ref a) { s with heap := h', toks := tk })
    (hst : starEach [e] env = [(false, eval e env)] := by rfl) :
    wpN w A (eval (.Call (.Name (Str.ofString "rs_encode_msg") p1) [.Call (.Name (Str.ofString "bytearray") p2) [e] [] p3, .Name (Str.ofString "checks") p4, .Name (Str.ofString "first") p5, .Subscript (.Name (Str.ofString "powers") p6) (.Name (Str.ofString "step") p7) p8] [] pos) env) Q s := by
  obtain ⟨fe, he, ge⟩ := W.enc
  obtain ⟨fg, hg, gg⟩ := W.gen
  obtain ⟨fm, hpm, gm⟩ := W.poly
  obtain ⟨fp, hp, gp⟩ := W.pow
  obtain ⟨fde, foe, feo, fed⟩ := he.func
  have W1 := W.W.keeps F.keep
  refine evalN_Call rfl (Ev.useN (ev_gl W1.g ge (L.kG _ rfl) L.kd L.gl) fun v tk hv => ?_)
  cases hv
  refine callWithN_fn (fd := fde) rfl (splicedN_cons ?_)
  refine evalN_Call (by rw [hst]) (Ev.useN (s := { s with toks := tk }) (ev_bl W1.g (by decide) boot_bytearray (L.kG _ rfl) L.kd L.gl L.bl) fun v tk1 hv => ?_)
  cases hv
  refine callWithN_type rfl (splicedN_cons (hE tk1 _ fun D h2 tk2 vs c k2 oD iD => splicedN_nil ?_))
  refine callN_ba_list (s := { s with heap := h2, toks := tk2 }) (vs := vs) ⟨_, oD, rfl, _, rfl⟩ iD ?_ (by rw [sizeLine_eq]; simp [toI]; omega) fun h3 g1 g2 => ?_
  · intro x hx
    obtain ⟨y, hy, rfl⟩ := List.mem_map.mp hx
    have := hm y hy
    exact ⟨Int.natCast_nonneg _, by omega⟩
  rw [octs_toI] at g1
  have k3 : ∀ b o, s.heap.get? b = some o → h3.get? b = some o := fun b o e => g2 _ _ (k2 _ _ e)
  have F3 := F.keeps k3
  generalize h2.objs.size = B at g1
  refine splicedN_cons (Ev.useN (s := { s with heap := h3, toks := tk2 }) (ev_loc F3 mc (L.kL _ rfl)) fun v tk3 hv => ?_)
  cases hv
  refine splicedN_cons (Ev.useN (s := { s with heap := h3, toks := tk3 }) (ev_loc F3 mf (L.kL _ rfl)) fun v tk4 hv => ?_)
  cases hv
  refine splicedN_cons (Ev.useN (s := { s with heap := h3, toks := tk4 }) (ev_idxL (ev_cell F3 mp (L.kC _ rfl) L.cPowers) ((ev_cell F3 ms (L.kC _ rfl) L.cStep).toI ⟨_, rfl⟩) (hP.at fun o e => F3.keep _ o e) iP (by omega) (by rw [Int.toNat_natCast]; exact pwI_get hs) (by omega)) fun v tk5 hv => ?_)
  obtain ⟨tp, rfl⟩ := hv
  have kB : ∀ b o, h₁.get? b = some o → h3.get? b = some o := F3.keep
  refine splicedN_nil ⟨⟨_, kB _ _ feo, fed⟩, enc_spec (s := { s with heap := h3, toks := tk5 }) (W.W.keeps kB) (he.keeps kB) (hg.keeps kB) (hpm.keeps kB) (hp.keeps kB) gg gm gp hroom hh hs hn g1 (by simp [octN]; omega) fun h4 tk6 a k4 n4 o4 => ?_⟩
  exact hQ a h4 tk6 (fun b o e => k4 _ _ (k3 _ _ e)) (none_of_keep k3 n4) o4
end
end Mine
end

/-! part LA -/
section
open PySem PySem.W PyProof.Rows
namespace Mine
local macro_rules | `(tactic| k_mem) => `(tactic| (refine mem_filter_ne ?_ (by decide); k_mem))

section
variable {w : World} {A : Around} {env : Env} {h h₁ : Heap} {l : Vars} {os : Objs} {gl : Vars} {eB lB : Array UInt8} {s : Shared} {E : Value → Shared → Prop}

/-- [..][e:] of constants -/
theorem sliceFromD {elts : List Expr} {lp p pos : Pos} {e : Expr} {k : Nat} (cs : List (Int × Nat × Pos)) {Q : Value → Shared → Prop} (hc : backTo lp (starEach elts env) = cs.map fun c => (false, eval (.Constant (.int c.1) c.2.1 c.2.2) env)) (hsz : cs.length ≤ sizeLine)
    (he : ∀ h', (∀ b o, s.heap.get? b = some o → h'.get? b = some o) → Ev w A env h' e (IsI k)) (hQ : NewL s ((cs.map (·.1)).drop k) Q) : wpAny (model PT w) A (eval (.Subscript (.List elts lp) (.Slice (some e) none none p) pos) env) Q E s := by
  refine Subscript_ (consts cs hc hsz fun D h' tk vs c k1 n1 o1 i1 => ?_)
  refine wpAny_Slice (wpAny_evalPart_some (he h' k1 _ _ E rfl fun v tk hv => wpAny_evalPart_none (wpAny_evalPart_none ?_)))
  obtain ⟨t, rfl⟩ := hv
  refine slice_at (s := { s with heap := h', toks := tk }) (vs := vs) ⟨_, o1, rfl, _, rfl⟩ (by rw [i1.length]; simpa using hsz) (.int _ _) .none .none (by simp) ?_ (hQ.keeps tk k1) fun i => ⟨_, rfl⟩
  rw [pick_from]
  simpa using i1.drop k
/-- [..][e] of constants -/
theorem idxD {elts : List Expr} {lp pos : Pos} {e : Expr} {k n : Int} (cs : List (Int × Nat × Pos)) {Q : Value → Shared → Prop} (hc : backTo lp (starEach elts env) = cs.map fun c => (false, eval (.Constant (.int c.1) c.2.1 c.2.2) env)) (hsz : cs.length ≤ sizeLine)
    (he : ∀ h', (∀ b o, s.heap.get? b = some o → h'.get? b = some o) → Ev w A env h' e (IsI k)) (h0 : 0 ≤ k) (hx : (cs.map (·.1))[k.toNat]? = some n) (hfit : k < 2 ^ 63)
    (hQ : ∀ h' tk t, (∀ b o, s.heap.get? b = some o → h'.get? b = some o) → Q (.int n t) { s with heap := h', toks := tk })
    (hsl : ∀ o i, subscripted e false o i = operate [o, i] (getItem o i) := by intro _ _; with_unfolding_all rfl) : wpAny (model PT w) A (eval (.Subscript (.List elts lp) e pos) env) Q E s := by
  refine Subscript_ (consts cs hc hsz fun D h' tk vs c k1 n1 o1 i1 => ?_)
  refine he h' k1 _ _ E rfl fun v tk hv => ?_
  obtain ⟨u, rfl⟩ := hv
  obtain ⟨t, hv⟩ := i1.get k.toNat n hx
  have hl : h'.IsList D vs.toArray := ⟨_, o1, rfl, _, rfl⟩
  exact tail_any (s := { s with heap := h', toks := tk }) (T := "list") (Heap.IsList.typeIs (s := { s with heap := h', toks := tk }) hl) slot_list_getitem.lookup (wpAny_getItem_list (s := { s with heap := h', toks := tk }) hl h0 hfit (by simpa using hv) (hQ h' tk t k1)) (hsl _ _)

/-- the numbers that law draws from -/
def numsOf' (ns : List Int) : List Int := ns.take 24 ++ ([2, 256, 0, 3, 104, 105, 27, 18, 61] : List Int).drop ns.length
theorem numsOf_len (ns : List Int) : 9 ≤ (numsOf' ns).length ∧ (numsOf' ns).length ≤ 24 := by
  simp only [numsOf', List.length_append, List.length_take, List.length_drop, List.length_cons, List.length_nil]
  omega
def gens8 : List Int := [1, 2, 4, 7, 8, 11, 13, 14]

structure Start (ns : List Int) where
  checks : Nat
  first : Int
  step : Nat
  size : Nat
  later : List Int
def startOf (ns : List Int) : Start ns :=
  { checks := (((numsOf' ns).getD 0 0).fmod 4 + 1).toNat, first := ((numsOf' ns).getD 1 0).fmod 512 - 256, step := (gens8.getD (((numsOf' ns).getD 2 0).fmod 8).toNat 0).toNat, size := (((numsOf' ns).getD 3 0).fmod 8 + 1).toNat, later := (numsOf' ns).drop 4 }

/-- law's first lines: to the powers -/
theorem lawA {a : Addr} {vs : List Value} {ns : List Int} {tk : Nat} {rest : List Stmt} {Q : Flow → Shared → Prop} (L : LE env) (W : World2 gl eB lB h₁) (F : Frm env h₁ s.heap [(Str.ofString "script", .ref a)] []) (hh : A.handled = none) (hroom : A.depth + 5 < recursionLimit) (ha : h₁.IsList a vs.toArray) (hi : IntsAre vs ns) (hlen : ns.length ≤ 100)
    (hQ : ∀ h₂ h' tk (P La : Addr) (pvs lvs : List Value) tc tf ts tz, (∀ b o, h₁.get? b = some o → h₂.get? b = some o) → h₂.IsList P pvs.toArray → IntsAre pvs pwI → h₂.IsList La lvs.toArray → IntsAre lvs (startOf ns).later →
      Frm env h₂ h' [(Str.ofString "checks", .int (startOf ns).checks tc), (Str.ofString "first", .int (startOf ns).first tf), (Str.ofString "step", .int (startOf ns).step ts), (Str.ofString "size", .int (startOf ns).size tz), (Str.ofString "later", .ref La), (Str.ofString "powers", .ref P)] [] →
      wpN w A (execs (dLaw.body.drop 7) env) Q { s with heap := h', toks := tk }) : wpN w A (execs dLaw.body env) Q s := by
  conv => arg 3; arg 1; whnf
  have has : s.heap.IsList a vs.toArray := ha.at fun o e => F.keep _ o e
  have eLen : ∀ {g : Heap} (Wg : World2 gl eB lB g) pos, Ev w A env g (.Name (Str.ofString "len") pos) (IsV (.builtin "len")) := fun Wg pos => ev_bl Wg.W.g (by decide) boot_len (L.kG _ rfl) L.kd L.gl L.bl
  have hS : ns.length ≤ sizeLine := by rw [sizeLine_eq]; omega
  -- numbers
  refine execsN_cons (assignN (binN (wpAny.n (sliceTo (k := 24) (ev_loc F (by k_mem) (L.kL _ rfl)) ev_int has hi hS fun D1 h1 tk1 vs1 c1 k1 n1 o1 i1 => ?_))))
  have F1 := F.keeps k1
  with_reducible refine wpAny.n ?_
  with_reducible refine sliceFromD (s := { s with heap := h1, toks := tk1 }) (k := ns.length) [(2, 0, ⟨69, 29, 69, 30⟩), (256, 0, ⟨69, 32, 69, 35⟩), (0, 0, ⟨69, 37, 69, 38⟩), (3, 0, ⟨69, 40, 69, 41⟩), (104, 0, ⟨69, 43, 69, 46⟩), (105, 0, ⟨69, 48, 69, 51⟩), (27, 0, ⟨69, 53, 69, 55⟩), (18, 0, ⟨69, 57, 69, 59⟩), (61, 0, ⟨69, 61, 69, 63⟩)] ?hc ?hz (fun h' k => ?he) ?_
  case hc => rfl
  case hz => rw [sizeLine_eq]; decide
  case he =>
    have F' := F1.keeps k
    have hl' := ev_lenL (pos := ⟨69, 65, 69, 76⟩) (eLen (W.keeps F'.keep) ⟨69, 65, 69, 68⟩) (ev_loc (pos := ⟨69, 69, 69, 75⟩) F' (by k_mem) (L.kL _ rfl)) (ha.at fun o e => F'.keep _ o e) (by rw [List.size_toArray, hi.length]; exact hS)
    exact hl'.eqI (by rw [List.size_toArray, hi.length])
  intro D2 h2 tk2 vs2 c2 k2 n2 o2 i2
  have F2 := F1.keeps k2
  refine wpAny.n (addL (s := { s with heap := h2, toks := tk2 }) (vs := vs1) (ws := vs2) ⟨_, k2 _ _ o1, rfl, _, rfl⟩ ⟨_, o2, rfl, _, rfl⟩ i1 i2 (by rw [sizeLine_eq]; simp; omega) fun D3 h3 tk3 vs3 c3 k3 n3 o3 i3 => ?_)
  have F3 := F2.new k3 n3 o3
  refine wpAny.n (st_loc (s := { s with heap := h3, toks := tk3 }) F3 (L.kL _ rfl) fun h4 tk4 F4 => ⟨rfl, ?_⟩)
  obtain ⟨b1, F5, kb, oN⟩ := F4.freeze
  have iN : IntsAre vs3 (numsOf' ns) := i3
  clear F4 F3 F2 F1 o1 o2 o3 i1 i2 i3
  have hnl := numsOf_len ns
  have getN : ∀ i, i < 9 → (numsOf' ns)[i]? = some ((numsOf' ns).getD i 0) := fun i hi => by
    have : i < (numsOf' ns).length := by omega
    simp [List.getD, this]
  have lN : b1.IsList D3 vs3.toArray := ⟨_, oN, rfl, _, rfl⟩
  have m4 : ∀ x : Int, 0 ≤ x.fmod 4 ∧ x.fmod 4 < 4 := fun x => ⟨Int.fmod_nonneg_of_pos _ (by decide), Int.fmod_lt_of_pos _ (by decide)⟩
  have m8 : ∀ x : Int, 0 ≤ x.fmod 8 ∧ x.fmod 8 < 8 := fun x => ⟨Int.fmod_nonneg_of_pos _ (by decide), Int.fmod_lt_of_pos _ (by decide)⟩
  have idx : ∀ {g : Heap} {l os} (i : Nat) (G : Frm env b1 g l os) (hm : (Str.ofString "numbers", .ref D3) ∈ l) (p1 p2 p3 : Pos), i < 9 → Ev w A env g (.Subscript (.Name (Str.ofString "numbers") p1) (.Constant (.int (i : Int)) 0 p2) p3) (IsI ((numsOf' ns).getD i 0)) :=
    fun i G hm p1 p2 p3 hi => ev_idxL (ev_loc G hm (L.kL _ rfl)) ev_int (lN.at fun o e => G.keep _ o e) iN (by omega) (by rw [Int.toNat_natCast]; exact getN i hi) (by omega)
  -- checks, first
  have c0 := m4 ((numsOf' ns).getD 0 0)
  have z0 := m8 ((numsOf' ns).getD 3 0)
  have s0 := m8 ((numsOf' ns).getD 2 0)
  refine execsN_cons (setN (s := { s with heap := h4, toks := tk4 }) F5 ((ev_add (ev_mod (idx 0 F5 (by k_mem) _ _ _ (by decide)) ev_int (by decide)) ev_int).eqI (show _ = (((startOf ns).checks : Nat) : Int) by simp only [startOf]; omega)) (L.kL _ rfl) fun v h5 tk5 hv F6 => ⟨rfl, ?_⟩)
  obtain ⟨tc, rfl⟩ := hv
  refine execsN_cons (setN (s := { s with heap := h5, toks := tk5 }) F6 ((ev_sub (ev_mod (idx 1 F6 (by k_mem) _ _ _ (by decide)) ev_int (by decide)) ev_int).eqI (show _ = (startOf ns).first from rfl)) (L.kL _ rfl) fun v h6 tk6 hv F7 => ⟨rfl, ?_⟩)
  obtain ⟨tf, rfl⟩ := hv
  -- step
  with_reducible refine execsN_cons ?_
  with_reducible refine assignN ?_ ?hs
  case hs => rfl
  with_reducible refine wpAny.n ?_
  with_reducible refine idxD (s := { s with heap := h6, toks := tk6 }) (k := ((numsOf' ns).getD 2 0).fmod 8) (n := (((startOf ns).step : Nat) : Int)) [(1, 0, ⟨72, 12, 72, 13⟩), (2, 0, ⟨72, 15, 72, 16⟩), (4, 0, ⟨72, 18, 72, 19⟩), (7, 0, ⟨72, 21, 72, 22⟩), (8, 0, ⟨72, 24, 72, 25⟩), (11, 0, ⟨72, 27, 72, 29⟩), (13, 0, ⟨72, 31, 72, 33⟩), (14, 0, ⟨72, 35, 72, 37⟩)] ?hc ?hz (fun h' k => ?he) s0.1 ?_ ?hf (fun h7 tk7 ts k7 => ?_) ?hsl
  case hc => rfl
  case hz => rw [sizeLine_eq]; decide
  case he => exact ev_mod (idx 2 (F7.keeps k) (by k_mem) _ _ _ (by decide)) ev_int (by decide)
  case hf => omega
  case hsl => intro _ _; with_unfolding_all rfl
  · have key : ∀ i : Nat, i < 8 → gens8[i]? = some (((gens8.getD i 0).toNat : Nat) : Int) := by decide
    exact key _ (by omega)
  refine wpAny.n (st_cell (s := { s with heap := h7, toks := tk7 }) (F7.keeps k7) (L.kC _ rfl) L.cStep fun h8 tk8 F8 => ⟨rfl, ?_⟩)
  -- size
  refine execsN_cons (setN (s := { s with heap := h8, toks := tk8 }) F8 ((ev_add (ev_mod (idx 3 F8 (by k_mem) _ _ _ (by decide)) ev_int (by decide)) ev_int).eqI (show _ = (((startOf ns).size : Nat) : Int) by simp only [startOf]; omega)) (L.kL _ rfl) fun v h9 tk9 hv F9 => ⟨rfl, ?_⟩)
  obtain ⟨tz, rfl⟩ := hv
  -- later
  refine execsN_cons (assignN (wpAny.n (sliceFrom (s := { s with heap := h9, toks := tk9 }) (k := 4) (ev_loc F9 (by k_mem) (L.kL _ rfl)) ev_int (lN.at fun o e => F9.keep _ o e) iN (by rw [sizeLine_eq]; omega) fun La h10 tk10 lvs c10 k10 n10 o10 i10 => ?_)))
  have F10 := F9.new k10 n10 o10
  refine wpAny.n (st_cell (s := { s with heap := h10, toks := tk10 }) F10 (L.kC _ rfl) L.cLater fun h11 tk11 F11 => ⟨rfl, ?_⟩)
  obtain ⟨b2, F12, kb2, oLa⟩ := F11.freeze
  -- powers
  have W12 := W.keeps fun b o e => F12.keep _ _ (kb2 _ _ (kb _ _ e))
  obtain ⟨fl, hfl, gfl⟩ := W12.lp
  obtain ⟨fdl, fol, flo, fld⟩ := hfl.func
  refine execsN_cons (assignN (evalN_Call rfl (Ev.useN (s := { s with heap := h11, toks := tk11 }) (ev_gl W12.W.g gfl (L.kG _ rfl) L.kd L.gl) fun v tk12 hv => ?_)))
  cases hv
  refine callWithN_fn0 (s := { s with heap := h11, toks := tk12 }) flo fld (lp_spec (s := { s with heap := h11, toks := tk12 }) W12.W.g hfl (by omega) hh fun h13 tk13 P pvs c13 k13 n13 o13 i13 => ?_)
  have F13 := F12.new k13 n13 o13
  refine wpAny.n (st_cell (s := { s with heap := h13, toks := tk13 }) F13 (L.kC _ rfl) L.cPowers fun h14 tk14 F14 => ⟨rfl, ?_⟩)
  obtain ⟨b3, F15, kb3, oP⟩ := F14.freeze
  refine hQ b3 h14 tk14 P La pvs lvs tc tf ts tz (fun b o e => kb3 _ _ (kb2 _ _ (kb _ _ e))) ⟨_, oP, rfl, _, rfl⟩ i13 ⟨_, kb3 _ _ oLa, rfl, _, rfl⟩ i10 (F15.subV ?_)
  intro p hp
  simp only [List.mem_cons, List.not_mem_nil, or_false] at hp
  rcases hp with rfl | rfl | rfl | rfl | rfl | rfl <;> k_mem
end
end Mine
end

/-! part LB -/
section
open PySem PySem.W PyProof.Rows
namespace Mine
local macro_rules | `(tactic| k_mem) => `(tactic| (refine mem_filter_ne ?_ (by decide); k_mem))

theorem ints_set : ∀ {vs : List Value} {ns : List Int} (k : Nat) (n : Int) (t : Tok), IntsAre vs ns → IntsAre (vs.set k (.int n t)) (ns.set k n)
  | _, _, _, _, _, .nil => .nil
  | _, _, 0, n, t, .cons _ _ h => .cons _ _ h
  | _, _, k + 1, n, t, .cons _ _ h => .cons _ _ (ints_set k n t h)

section
variable {w : World} {A : Around} {env : Env} {h h₁ : Heap} {l : Vars} {os : Objs} {gl : Vars} {eB lB : Array UInt8} {s : Shared} {E : Value → Shared → Prop}

/-- a[k] = v of a list -/
theorem putL {o i v : Expr} {tpos pos : Pos} {a : Addr} {ob : Obj} {vs : List Value} {ns : List Int} {c k : Nat} {x : Int} {Q : Flow → Shared → Prop} (F : Frm env h₁ s.heap l ((a, ob) :: os)) (hc : ob.cls = .type "list") (hd : ob.data = .seq vs.toArray c) (hI : IntsAre vs ns)
    (ho : Ev w A env s.heap o (IsV (.ref a))) (hi : Ev w A env s.heap i (IsI k)) (hv : Ev w A env s.heap v (IsI x)) (hk : k < ns.length) (hfit : ns.length < 2 ^ 62)
    (hQ : ∀ h' tk ob' vs' c', ob'.cls = .type "list" → ob'.data = .seq vs'.toArray c' → IntsAre vs' (ns.set k x) → Frm env h₁ h' l ((a, ob') :: os) → Q .next { s with heap := h', toks := tk })
    (hs : swapsWith v (some (.Subscript o i tpos)) pos.line env = pure false := by rfl) :
    wpAny (model PT w) A (exec (.Assign [.Subscript o i tpos] v pos) env) Q E s := by
  have hg := F.get (List.mem_cons_self ..)
  have hl := hI.length
  refine wpAny_Assign_Subscript (hv s _ E rfl fun u tk hu => ?_) hs
  obtain ⟨t, rfl⟩ := hu
  refine ho { s with toks := tk } _ E rfl fun u tk2 hu => ?_
  cases hu
  refine hi { s with toks := tk2 } _ E rfl fun u tk3 hu => ?_
  obtain ⟨t', rfl⟩ := hu
  refine wpAny_setItem_list (s := { s with toks := tk3 }) (items := vs.toArray) ⟨ob, hg, hc, c, hd⟩ (by omega) (by omega) (by simp; omega) fun h' e1 e2 => ?_
  obtain ⟨ob', g1, g2, c', g3⟩ := e1
  refine hQ h' tk3 ob' (vs.set k (.int x t)) c' g2 (by simpa using g3) (ints_set k x t hI) (F.upd0 e2 g1)

/-- the table of the logs -/
structure LogsUp (i : Nat) (r : List Int) : Prop where
  len : r.length = 256
  at' : ∀ j, j < i → r[pw j]? = some (j : Int)
  zero : r[0]? = some 0
theorem LogsUp.init : LogsUp 0 (List.replicate 256 0) := ⟨by simp, fun j h => absurd h (Nat.not_lt_zero j), by simp⟩
theorem LogsUp.step {i : Nat} {r : List Int} (L : LogsUp i r) (hi : i < 255) : LogsUp (i + 1) (r.set (pw i) i) := by
  have hl := L.len
  have hp := pw_lt i
  refine ⟨by simpa using hl, fun j hj => ?_, ?_⟩
  · by_cases h : j = i
    · subst h; rw [List.getElem?_set_self (by omega)]
    · rw [List.getElem?_set_ne (fun e => h (pw_inj (by omega) hi e.symm))]; exact L.at' j (by omega)
  · rw [List.getElem?_set_ne (pw_ne i)]; exact L.zero
theorem LogsUp.get {r : List Int} (L : LogsUp 255 r) {x : Nat} (hx : x < 256) : r[x]? = some ((lgn x : Nat) : Int) := by
  by_cases h0 : x = 0
  · subst h0; rw [L.zero, lgn_zero]; rfl
  · obtain ⟨i, hi, rfl⟩ := pw_surj hx h0
    rw [L.at' i hi, lgn_pw hi]

/-- logs = [0] * 256, and the loop that fills it -/
theorem lawB {P La : Addr} {pvs lvs : List Value} {ns : List Int} {V : Vars} {Q : Flow → Shared → Prop} (L : LE env) (W : World2 gl eB lB h₁) (F : Frm env h₁ s.heap (V ++ [(Str.ofString "powers", .ref P)]) []) (hh : A.handled = none)
    (hP : h₁.IsList P pvs.toArray) (iP : IntsAre pvs pwI) (hV : ∀ p ∈ V, p.1 ≠ Str.ofString "place" ∧ p.1 ≠ Str.ofString "octet" ∧ p.1 ≠ Str.ofString "logs")
    (hQ : ∀ h₂ h' tk (Lg : Addr) (gvs : List Value) (r : List Int), (∀ b o, h₁.get? b = some o → h₂.get? b = some o) → h₂.IsList Lg gvs.toArray → IntsAre gvs r → LogsUp 255 r →
      Frm env h₂ h' (V ++ [(Str.ofString "powers", .ref P), (Str.ofString "logs", .ref Lg)]) [] →
      wpN w A (execs (dLaw.body.drop 9) env) Q { s with heap := h', toks := tk }) : wpN w A (execs (dLaw.body.drop 7) env) Q s := by
  conv => arg 3; arg 1; whnf
  have memV : ∀ {V' : Vars} {p}, p ∈ V → p ∈ V ++ V' := fun h => List.mem_append_left _ h
  refine execsN_cons (assignN (binN (wpAny.n (consts [(0, 0, ⟨76, 12, 76, 13⟩)] rfl (by rw [sizeLine_eq]; decide) fun D1 h1 tk1 vs1 c1 k1 n1 o1 i1 => ?_))))
  have F1 := F.keeps k1
  refine Ev.useN (s := { s with heap := h1, toks := tk1 }) ev_int fun v tk2 hv => ?_
  obtain ⟨t2, rfl⟩ := hv
  obtain ⟨v1, rfl⟩ : ∃ v, vs1 = [v] := by
    have := i1.length
    match vs1, this with
    | [v], _ => exact ⟨v, rfl⟩
  refine wpAny.n (mulL (s := { s with heap := h1, toks := tk2 }) (n := 256) o1 i1 (by decide) fun Lg h3 tk3 gvs c3 k3 n3 o3 i3 => ?_)
  have F3 := F1.new k3 n3 o3
  refine wpAny.n (st_cell (s := { s with heap := h3, toks := tk3 }) F3 (L.kC _ rfl) L.cLogs fun h4 tk4 F4 => ⟨rfl, ?_⟩)
  have F5 := F4.subV (l' := V ++ [(Str.ofString "powers", .ref P), (Str.ofString "logs", .ref Lg)]) (by
    intro p hp
    rcases List.mem_append.mp hp with hp | hp
    · exact List.mem_cons_of_mem _ (List.mem_filter.mpr ⟨memV hp, by simpa using (hV p hp).2.2⟩)
    · simp only [List.mem_cons, List.not_mem_nil, or_false] at hp
      rcases hp with rfl | rfl
      · exact List.mem_cons_of_mem _ (List.mem_filter.mpr ⟨List.mem_append_right _ (List.mem_cons_self ..), rfl⟩)
      · exact List.mem_cons_self ..)
  have mP : ((Str.ofString "powers", Value.ref P) : Str × Value) ∈ V ++ [(Str.ofString "powers", .ref P), (Str.ofString "logs", .ref Lg)] := List.mem_append_right _ (List.mem_cons_self ..)
  have mG : ((Str.ofString "logs", Value.ref Lg) : Str × Value) ∈ V ++ [(Str.ofString "powers", .ref P), (Str.ofString "logs", .ref Lg)] := List.mem_append_right _ (List.mem_cons_of_mem _ (List.mem_cons_self ..))
  refine execsN_cons (enumForN (s := { s with heap := h4, toks := tk4 }) (fun i l os => l = V ++ [(Str.ofString "powers", .ref P), (Str.ofString "logs", .ref Lg)] ∧ ∃ ob vs c r, os = [(Lg, ob)] ∧ ob.cls = .type "list" ∧ ob.data = .seq vs.toArray c ∧ IntsAre vs r ∧ LogsUp i r) hh (L.kL _ rfl) (L.kL _ rfl) F5
    (ev_bl (W.W.g.keeps F5.keep) (by decide) boot_enumerate (L.kG _ rfl) L.kd L.gl L.bl) (ev_cell F5 mP (L.kC _ rfl) L.cPowers) hP iP ⟨rfl, _, gvs, _, _, rfl, rfl, rfl, i3, LogsUp.init⟩ ?_ ?_)
  · rintro i k t u l os h₂ g tk hk ⟨rfl, ob, vs, c, r, rfl, hc, hd, hI, hL⟩ G k2
    have hil : i < 255 := by
      have := (List.getElem?_eq_some_iff.mp hk).1
      simpa [pwI] using this
    rw [pwI_get hil] at hk
    cases hk
    have hp := pw_lt i
    have hll := hL.len
    have mG' := mem_filter_ne (y := Str.ofString "octet") (List.mem_cons_of_mem (Str.ofString "place", Value.int i t) (mem_filter_ne (y := Str.ofString "place") mG (by decide))) (by decide)
    refine execsN_cons (wpAny.n (putL (s := { s with heap := g, toks := tk }) G hc hd hI (ev_cell G (List.mem_cons_of_mem _ mG') (L.kC _ rfl) L.cLogs) (evI_loc G (by k_mem) (L.kL _ rfl)) (evI_loc G (by k_mem) (L.kL _ rfl)) (by omega) (by omega) fun g2 tk2 ob' vs' c' e1 e2 e3 G2 => ⟨rfl, ?_⟩))
    refine execsN_nil ⟨rfl, g2, tk2, _, _, rfl, G2.subV ?_, rfl, ob', vs', c', _, rfl, e1, e2, e3, hL.step hil⟩
    intro p hp
    refine List.mem_cons_of_mem _ (List.mem_filter.mpr ⟨List.mem_cons_of_mem _ (List.mem_filter.mpr ⟨hp, ?_⟩), ?_⟩)
    · rcases List.mem_append.mp hp with hp | hp
      · simpa using (hV p hp).1
      · simp only [List.mem_cons, List.not_mem_nil, or_false] at hp
        rcases hp with rfl | rfl <;> rfl
    · rcases List.mem_append.mp hp with hp | hp
      · simpa using (hV p hp).2.1
      · simp only [List.mem_cons, List.not_mem_nil, or_false] at hp
        rcases hp with rfl | rfl <;> rfl
  · rintro g tk l os G ⟨rfl, ob, vs, c, r, rfl, hc, hd, hI, hL⟩
    refine ⟨rfl, ?_⟩
    obtain ⟨b2, G2, kb, oG⟩ := G.freeze
    have hlen : pwI.length = 255 := by simp [pwI]
    rw [hlen] at hL
    exact hQ b2 g tk Lg vs r kb ⟨ob, oG, hc, c, hd⟩ hI hL G2
end
end Mine
end

/-! part LC -/
section
open PySem PySem.W PyProof.Rows
namespace Mine
local macro_rules | `(tactic| k_mem) => `(tactic| (refine mem_filter_ne ?_ (by decide); k_mem))

def msgAt (later : List Int) (i : Nat) : Nat := (((later.getD (i % later.length) 0).fdiv (i + 1)).fmod 256).toNat
def msgOf (later : List Int) (size : Nat) : List Nat := (List.range size).map (msgAt later)
theorem msgAt_lt (later : List Int) (i : Nat) : msgAt later i < 256 := by
  have h1 := Int.fmod_lt_of_pos ((later.getD (i % later.length) 0).fdiv (i + 1)) (b := 256) (by decide)
  have h2 := Int.fmod_nonneg_of_pos ((later.getD (i % later.length) 0).fdiv (i + 1)) (b := 256) (by decide)
  unfold msgAt; omega
theorem encW_take (e : Nat) (fcr : Int) (n : Nat) (m : List Nat) (hm : ∀ x ∈ m, x < 256) : (encW e fcr n m).take m.length = m := by
  have h : (octN m).toList.map UInt8.toNat = m := by
    simp only [octN, List.map_map]
    exact (List.map_congr_left fun x hx => u8 (hm x hx)).trans (List.map_id _)
  have hl : ((octN m).toList.map UInt8.toNat).length = m.length := by simp [octN]
  unfold encW encA encG
  rw [Array.toList_append, List.map_append, List.take_append_of_le_length (by rw [hl]; exact Nat.le_refl _), List.take_of_length_le (by rw [hl]; exact Nat.le_refl _), h]
theorem encW_len (e : Nat) (fcr : Int) (n : Nat) (m : List Nat) : (encW e fcr n m).length = m.length + n := by
  have h1 := genA_size e fcr n
  simp [encW, encA, encG, encUp_size, octN, h1]
theorem encW_lt (e : Nat) (fcr : Int) (n : Nat) (m : List Nat) : ∀ x ∈ encW e fcr n m, x < 256 := by
  intro x hx
  obtain ⟨y, _, rfl⟩ := List.mem_map.mp hx
  exact y.toNat_lt

section
variable {w : World} {A : Around} {env : Env} {h h₁ : Heap} {l : Vars} {os : Objs} {gl : Vars} {eB lB : Array UInt8} {s : Shared} {E : Value → Shared → Prop}

theorem EvB.use {e : Expr} {b : Bool} {Q : Bool → Shared → Prop} (he : EvB w A env s.heap e b) (hq : ∀ tk, Q b { s with toks := tk }) : wpAny (model PT w) A (isTrue e env (eval e env)) Q E s := he s Q E rfl hq

/-- message, word and the first check -/
theorem lawC {P La Lg : Addr} {pvs lvs : List Value} {n step size : Nat} {first : Int} {later : List Int} {tc tf ts tz : Tok} {Q : Flow → Shared → Prop} (L : LE env) (W : World2 gl eB lB h₁)
    (F : Frm env h₁ s.heap [(Str.ofString "checks", .int n tc), (Str.ofString "first", .int first tf), (Str.ofString "step", .int step ts), (Str.ofString "size", .int size tz), (Str.ofString "later", .ref La), (Str.ofString "powers", .ref P), (Str.ofString "logs", .ref Lg)] [])
    (hh : A.handled = none) (hroom : A.depth + 4 < recursionLimit) (hu : A.units < cLine) (hP : h₁.IsList P pvs.toArray) (iP : IntsAre pvs pwI) (hLa : h₁.IsList La lvs.toArray) (iLa : IntsAre lvs later) (hl0 : 1 ≤ later.length) (hl1 : later.length ≤ 100) (hs : step < 255) (hn : n ≤ 4) (hz : size ≤ 8)
    (hQ : ∀ h' tk (Wd : Addr) (wvs : List Value) c, IntsAre wvs (toI (encW step first n (msgOf later size))) →
      Frm env h₁ h' [(Str.ofString "checks", .int n tc), (Str.ofString "first", .int first tf), (Str.ofString "step", .int step ts), (Str.ofString "size", .int size tz), (Str.ofString "later", .ref La), (Str.ofString "powers", .ref P), (Str.ofString "logs", .ref Lg), (Str.ofString "word", .ref Wd)] [(Wd, lsObj wvs c)] →
      wpN w A (execs (dLaw.body.drop 12) env) Q { s with heap := h', toks := tk }) : wpN w A (execs (dLaw.body.drop 9) env) Q s := by
  conv => arg 3; arg 1; whnf
  have cL := L.cLater
  have hk := L.kd
  have kLa : env.kindOf (Str.ofString "later") = some .cell := L.kC _ rfl
  have W1 := W.keeps F.keep
  have hcl : closureFor (Scope.mk ScopeKind.function [(Str.ofString ".0", NameKind.local), (Str.ofString "place", NameKind.local), (Str.ofString "len", NameKind.globalImplicit), (Str.ofString "later", NameKind.free)] false false []) env = pure [(Str.ofString "later", env.locals + 2)] := by
    unfold closureFor
    simp [cellOf, cL]
  have eLen : ∀ {g : Heap} (Wg : World2 gl eB lB g) pos, Ev w A env g (.Name (Str.ofString "len") pos) (IsV (.builtin "len")) := fun Wg pos => ev_bl Wg.W.g (by decide) boot_len (L.kG _ rfl) L.kd L.gl L.bl
  have hvl := iLa.length
  refine execsN_cons (wpAny.n (compA (n := size) (src := fun i => i) (g := fun i => ((msgAt later i.toNat : Nat) : Int)) (by rw [sizeLine_eq]; omega) F ?_ hcl ?_ rfl ?_ rfl (L.kL _ rfl)
    (src_range1 hh (ev_bl W1.W.g (by decide) boot_range (L.kG _ rfl) hk L.gl L.bl) (evI_loc F (by k_mem) (L.kL _ rfl)) (by omega)) ?_ ?_))
  · simp only [swapsWith, Env.blockKind, hk, L.kL _ (show dLaw.scope.names.lookup (Str.ofString "message") = some .local from rfl)]
    rfl
  · decide
  · decide
  · intro C i v g m hi' hnC hm hv hkp
    obtain ⟨t, rfl⟩ := hv
    have Wg := W1.keeps hkp
    obtain ⟨u, hu', hh2⟩ := F.cell _ _ cL
    rw [hh2 (Str.ofString "later", .ref La) (by k_mem) rfl kLa] at hu'
    have hrel : (relabel (Scope.mk ScopeKind.function [(Str.ofString ".0", NameKind.local), (Str.ofString "place", NameKind.local), (Str.ofString "len", NameKind.globalImplicit), (Str.ofString "later", NameKind.free)] false false []) env).names
      = [(Str.ofString ".0", NameKind.local), (Str.ofString "place", NameKind.local), (Str.ofString "len", NameKind.globalImplicit), (Str.ofString "later", NameKind.cell)] := by
      simp [relabel, hk, kLa]
    have kk : ∀ x k, (relabel (Scope.mk ScopeKind.function [(Str.ofString ".0", NameKind.local), (Str.ofString "place", NameKind.local), (Str.ofString "len", NameKind.globalImplicit), (Str.ofString "later", NameKind.free)] false false []) env).names.lookup x = k →
      (compEnvC (Scope.mk ScopeKind.function [(Str.ofString ".0", NameKind.local), (Str.ofString "place", NameKind.local), (Str.ofString "len", NameKind.globalImplicit), (Str.ofString "later", NameKind.free)] false false []) [(Str.ofString "later", env.locals + 2)] C env).kindOf x = k := fun x k h => h
    have ei : ∀ pos, Ev w A (compEnvC (Scope.mk ScopeKind.function [(Str.ofString ".0", NameKind.local), (Str.ofString "place", NameKind.local), (Str.ofString "len", NameKind.globalImplicit), (Str.ofString "later", NameKind.free)] false false []) [(Str.ofString "later", env.locals + 2)] C env) g (.Name (Str.ofString "place") pos) (IsI i) :=
      fun pos => (ev_ns rfl hnC hm (kk _ _ (by rw [hrel]; rfl))).toI ⟨t, rfl⟩
    have el : ∀ pos, Ev w A (compEnvC (Scope.mk ScopeKind.function [(Str.ofString ".0", NameKind.local), (Str.ofString "place", NameKind.local), (Str.ofString "len", NameKind.globalImplicit), (Str.ofString "later", NameKind.free)] false false []) [(Str.ofString "later", env.locals + 2)] C env) g (.Name (Str.ofString "later") pos) (IsV (.ref La)) :=
      fun pos => ev_isCell rfl (hu'.keeps hkp) (kk _ _ (by rw [hrel]; rfl)) rfl
    have hLg : g.IsList La lvs.toArray := hLa.at fun o e => hkp _ o (F.keep _ _ e)
    have hmod : (i : Int).fmod (later.length : Int) = ((i % later.length : Nat) : Int) := by rw [Int.fmod_eq_emod_of_nonneg _ (by omega)]; exact (Int.natCast_emod _ _).symm
    have hlt : i % later.length < later.length := Nat.mod_lt _ (by omega)
    have v1 := ev_lenL (pos := ⟨79, 29, 79, 39⟩) (ev_bl (pos := ⟨79, 29, 79, 32⟩) Wg.W.g (by decide) boot_len (kk (Str.ofString "len") _ (by rw [hrel]; rfl)) rfl L.gl L.bl) (el ⟨79, 33, 79, 38⟩) hLg (by rw [sizeLine_eq, List.size_toArray]; omega)
    have v2 := (ev_mod (pos := ⟨79, 21, 79, 39⟩) (ei ⟨79, 21, 79, 26⟩) (v1.eqI (show _ = (later.length : Int) by rw [List.size_toArray, hvl])) (by omega)).eqI hmod
    have v3 := ev_idxL (pos := ⟨79, 15, 79, 40⟩) (n := later.getD (i % later.length) 0) (el ⟨79, 15, 79, 20⟩) v2 hLg iLa (by omega) (by rw [Int.toNat_natCast]; simp [List.getD, hlt]) (by omega)
    have v4 := ev_fdiv (pos := ⟨79, 15, 79, 55⟩) v3 (ev_add (pos := ⟨79, 45, 79, 54⟩) (ei ⟨79, 45, 79, 50⟩) (ev_int (i := 1) (k := 0) (pos := ⟨79, 53, 79, 54⟩))) (by omega) (PyProof.noPylong_small (by omega))
    have v5 := ev_mod (pos := ⟨79, 15, 79, 61⟩) v4 (ev_int (i := 256) (k := 0) (pos := ⟨79, 58, 79, 61⟩)) (by decide)
    refine v5.eqI ?_
    have h2 := Int.fmod_nonneg_of_pos ((later.getD (i % later.length) 0).fdiv ((i : Int) + 1)) (b := 256) (by decide)
    simp only [Int.toNat_natCast, msgAt]
    omega
  · intro M h2 tk2 mvs cm F2 iM
    refine ⟨rfl, ?_⟩
    have iM' : IntsAre mvs (toI (msgOf later size)) := by
      have : toI (msgOf later size) = (List.range size).map fun i : Nat => ((msgAt later ((i : Nat) : Int).toNat : Nat) : Int) := by simp [toI, msgOf]
      rw [this]; exact iM
    obtain ⟨b2, F3, kb, oM⟩ := F2.freeze
    have W3 := W.keeps kb
    have mlt : ∀ x ∈ msgOf later size, x < 256 := fun x hx => by
      obtain ⟨i, _, rfl⟩ := List.mem_map.mp hx
      exact msgAt_lt later i
    have mlen : (msgOf later size).length = size := by simp [msgOf]
    have hM2 : b2.IsList M mvs.toArray := ⟨_, oM, rfl, _, rfl⟩
    -- word = list(..)
    refine execsN_cons (assignN (evalN_Call rfl (Ev.useN (s := { s with heap := h2, toks := tk2 }) (ev_bl (W3.keeps F3.keep).W.g (by decide) boot_list (L.kG _ rfl) hk L.gl L.bl) fun v tk3 hv => ?_)))
    cases hv
    refine callWithN_type rfl (splicedN_cons (encCall (s := { s with heap := h2, toks := tk3 }) (m := msgOf later size) L W3 F3 hroom hh (by k_mem) (by k_mem) (by k_mem) (by k_mem) (hP.at fun o e => kb _ o e) iP hs mlt (by omega) (by omega) ?_ fun a h3 tk4 k3 n3 o3 => ?_))
    · intro tk Q' hq
      refine Ev.useN (s := { s with heap := h2, toks := tk }) (ev_loc F3 (by k_mem) (L.kL _ rfl)) fun v tk' hv => ?_
      cases hv
      exact hq M h2 tk' mvs cm (fun _ _ e => e) (F3.keep _ _ oM) iM'
    have F4 := F3.keeps k3
    refine splicedN_nil (wpAny.n (ba_list (s := { s with heap := h3, toks := tk4 }) hh o3 ?_ fun h4 tk5 wvs c4 k4 o4 i4 => ?_))
    · have := encW_len step first n (msgOf later size)
      simp only [encW, List.length_map, Array.length_toList] at this
      rw [sizeLine_eq]; omega
    have F5 := F4.new k4 (fresh_none _) o4
    generalize h3.objs.size = Wd at F5
    refine wpAny.n (st_loc (s := { s with heap := h4, toks := tk5 }) F5 (L.kL _ rfl) fun h5 tk6 F6 => ⟨rfl, ?_⟩)
    have iW : IntsAre wvs (toI (encW step first n (msgOf later size))) := by
      have : toI (encW step first n (msgOf later size)) = (encA step first n (octN (msgOf later size))).toList.map fun x => (x.toNat : Int) := by simp [toI, encW]
      rw [this]; exact i4
    have wl := encW_len step first n (msgOf later size)
    have hWd := F6.get (List.mem_cons_self ..)
    have til : (toI (encW step first n (msgOf later size))).length = size + n := by simp [toI, wl, mlen]
    -- the check
    refine execsN_cons (ifN (wpAny.n (wpAny_isTrue_BoolOp (wpAny_allTrue_Or_cons (wpAny_isTrue_Compare1 (sliceTo (s := { s with heap := h5, toks := tk6 }) (k := size) (ev_loc F6 (by k_mem) (L.kL _ rfl)) (evI_loc F6 (by k_mem) (L.kL _ rfl)) ⟨_, hWd, rfl, _, rfl⟩ iW (by rw [sizeLine_eq, til]; omega) fun D h6 tk7 dvs c6 k6 n6 o6 i6 => ?_) (by with_unfolding_all rfl))))))
    have F7 := F6.keeps k6
    refine Ev.use (s := { s with heap := h6, toks := tk7 }) (ev_loc (w := w) (A := A) F7 (v := .ref M) (by k_mem) (L.kL _ rfl)) fun v tk8 hv => ?_
    cases hv
    have itk : (toI (encW step first n (msgOf later size))).take size = toI (msgOf later size) := by
      have := encW_take step first n (msgOf later size) mlt
      rw [mlen] at this
      rw [toI, ← List.map_take, this]; rfl
    rw [itk] at i6
    refine neL_same (s := { s with heap := h6, toks := tk8 }) (vs := dvs) (ws := mvs) ⟨_, o6, rfl, _, rfl⟩ (hM2.at fun o e => F7.keep _ o e) i6 iM' hu (wpAny_truthy_bool ?_)
    simp only [Bool.false_eq_true, if_false]
    have eLenW : Ev w A env h6 (.Call (.Name (Str.ofString "len") ⟨81, 33, 81, 36⟩) [.Name (Str.ofString "word") ⟨81, 37, 81, 41⟩] [] ⟨81, 33, 81, 42⟩) (IsI ((size + n : Nat) : Int)) :=
      (ev_lenL (eLen (W3.keeps F7.keep) _) (ev_loc F7 (by k_mem) (L.kL _ rfl)) (vs := wvs.toArray) ⟨_, F7.get (List.mem_cons_self ..), rfl, _, rfl⟩ (by rw [sizeLine_eq, List.size_toArray, iW.length, til]; omega)).eqI (by rw [List.size_toArray, iW.length, til])
    refine wpAny_allTrue_Or_cons (EvB.use (s := { s with heap := h6, toks := tk8 }) (evB_ne eLenW (ev_add (evI_loc F7 (by k_mem) (L.kL _ rfl)) (evI_loc F7 (by k_mem) (L.kL _ rfl)))) fun tk9 => ?_)
    rw [show ((((size + n : Nat) : Int)) != (size : Int) + (n : Int)) = false by simp]
    simp only [Bool.false_eq_true, if_false]
    refine wpAny_allTrue_Or_nil ?_
    simp only [Bool.false_eq_true, if_false]
    refine execsN_nil ⟨rfl, ?_⟩
    refine hQ h6 tk9 Wd wvs c4 iW ((F7.base kb).subV ?_)
    intro p hp
    simp only [List.mem_cons, List.not_mem_nil, or_false] at hp
    rcases hp with rfl | rfl | rfl | rfl | rfl | rfl | rfl | rfl <;> k_mem
end
end Mine
end

/-! part LF -/
section
open PySem PySem.W PyProof.Rows
namespace Mine
local macro_rules | `(tactic| k_mem) => `(tactic| (refine mem_filter_ne ?_ (by decide); k_mem))

/-- the sum at a root -/
def totAt (word : List Nat) (step : Nat) (fi : Int) (a j : Nat) : Nat := if word[j]! = 0 then a else a ^^^ pw ((((lgn word[j]! : Nat) : Int) + (step : Int) * fi * ((word.length : Int) - 1 - j)).fmod 255).toNat
def totUp (word : List Nat) (step : Nat) (fi : Int) (i : Nat) : Nat := (List.range i).foldl (totAt word step fi) 0

theorem bits_small {a : Int} (h : a.natAbs < 2 ^ 60) : Builtin.Int.intBits a ≤ 64 := by
  unfold Builtin.Int.intBits
  split
  · omega
  · rename_i h0
    have : a.natAbs ≠ 0 := by
      intro e; apply h0; simp; omega
    have := (Nat.log2_lt this).mpr h
    omega

section
variable {w : World} {A : Around} {env : Env} {h h₁ : Heap} {l : Vars} {os : Objs} {gl : Vars} {eB lB : Array UInt8} {s : Shared} {E : Value → Shared → Prop}

/-- the last loops and the answer -/
theorem lawE {P Lg Wd : Addr} {pvs gvs wvs : List Value} {n step : Nat} {first : Int} {word : List Nat} {r : List Int} {tc tf ts : Tok} {Q : Flow → Shared → Prop} (L : LE env) (W : World2 gl eB lB h₁)
    (F : Frm env h₁ s.heap [(Str.ofString "checks", .int n tc), (Str.ofString "first", .int first tf), (Str.ofString "step", .int step ts), (Str.ofString "powers", .ref P), (Str.ofString "logs", .ref Lg), (Str.ofString "word", .ref Wd)] [])
    (hh : A.handled = none) (hP : h₁.IsList P pvs.toArray) (iP : IntsAre pvs pwI) (hG : h₁.IsList Lg gvs.toArray) (iG : IntsAre gvs r) (hr : LogsUp 255 r) (hW : h₁.IsList Wd wvs.toArray) (iW : IntsAre wvs (toI word)) (wlt : ∀ x ∈ word, x < 256) (wlen : word.length ≤ 100) (hn : n ≤ 4) (hs : step < 255)
    (hz : ∀ t, t < n → totUp word step (first + t) word.length = 0)
    (hQ : ∀ h' tk, (∀ b o, h₁.get? b = some o → h'.get? b = some o) → Q (.ret (.bool true)) { s with heap := h', toks := tk }) : wpN w A (execs (dLaw.body.drop 13) env) Q s := by
  conv => arg 3; arg 1; whnf
  have hk := L.kd
  have eLen : ∀ {g : Heap} (Wg : World2 gl eB lB g) pos, Ev w A env g (.Name (Str.ofString "len") pos) (IsV (.builtin "len")) := fun Wg pos => ev_bl Wg.W.g (by decide) boot_len (L.kG _ rfl) L.kd L.gl L.bl
  refine execsN_cons (forRange1 (n := n) (fun i l os => l = [(Str.ofString "checks", .int n tc), (Str.ofString "first", .int first tf), (Str.ofString "step", .int step ts), (Str.ofString "powers", .ref P), (Str.ofString "logs", .ref Lg), (Str.ofString "word", .ref Wd)] ∧ os = []) hh F
    (ev_bl (W.keeps F.keep).W.g (by decide) boot_range (L.kG _ rfl) hk L.gl L.bl) (evI_loc F (by k_mem) (L.kL _ rfl)) (by omega) ⟨rfl, rfl⟩ ?_ ?_)
  · rintro t tt l os h₂ g tk ht ⟨rfl, rfl⟩ G k2
    refine asgN (s := { s with heap := g, toks := tk }) G (L.kL _ rfl) fun g1 tk1 G1 => ?_
    refine execsN_cons (setN (s := { s with heap := g1, toks := tk1 }) G1 ev_int (L.kL _ rfl) fun v g2 tk2 hv G2 => ⟨rfl, ?_⟩)
    obtain ⟨t0, rfl⟩ := hv
    have G3 := G2.subV (l' := [(Str.ofString "checks", .int n tc), (Str.ofString "first", .int first tf), (Str.ofString "step", .int step ts), (Str.ofString "powers", .ref P), (Str.ofString "logs", .ref Lg), (Str.ofString "word", .ref Wd), (Str.ofString "turn", .int t tt), (Str.ofString "total", .int (0 : Nat) t0)]) (by
      intro p hp
      simp only [List.mem_cons, List.not_mem_nil, or_false] at hp
      rcases hp with rfl | rfl | rfl | rfl | rfl | rfl | rfl | rfl <;> k_mem)
    have W2 := W.keeps k2
    have tl : (toI word).length = word.length := by simp [toI]
    refine execsN_cons (enumForN (s := { s with heap := g2, toks := tk2 }) (fun i l os => ∃ tq, l = [(Str.ofString "checks", .int n tc), (Str.ofString "first", .int first tf), (Str.ofString "step", .int step ts), (Str.ofString "powers", .ref P), (Str.ofString "logs", .ref Lg), (Str.ofString "word", .ref Wd), (Str.ofString "turn", .int t tt), (Str.ofString "total", .int (totUp word step (first + t) i) tq)] ∧ os = []) hh (L.kL _ rfl) (L.kL _ rfl) G3
      (ev_bl (W2.keeps G3.keep).W.g (by decide) boot_enumerate (L.kG _ rfl) hk L.gl L.bl) (ev_loc G3 (by k_mem) (L.kL _ rfl)) (hW.at fun o e => k2 _ o e) iW ⟨t0, rfl, rfl⟩ ?_ ?_)
    · rintro i k u v l os h₃ g tk hk' ⟨tq, rfl, rfl⟩ K k3
      have hil : i < word.length := by rw [← tl]; exact (List.getElem?_eq_some_iff.mp hk').1
      have hki : k = ((word[i]! : Nat) : Int) := by
        have : (toI word)[i]? = some ((word[i]! : Nat) : Int) := by simp [toI, hil]
        rw [this] at hk'; exact (Option.some.inj hk').symm
      subst hki
      have hwi : word[i]! < 256 := wlt _ (by simp [hil])
      have W3 := W2.keeps k3
      have up : totUp word step (first + t) (i + 1) = totAt word step (first + t) (totUp word step (first + t) i) i := range_fold_succ ..
      refine execsN_cons (ifN (testN (s := { s with heap := g, toks := tk }) (h := g) (evB_ne (evI_loc K (by k_mem) (L.kL _ rfl)) ev_int) fun tk3 => ?_))
      by_cases h0 : word[i]! = 0
      · rw [if_neg (by simp [h0])]
        refine execsN_nil ⟨rfl, execsN_nil ⟨rfl, g, tk3, _, _, rfl, K.subV ?_, tq, rfl, rfl⟩⟩
        rw [up, totAt, if_pos h0]
        intro p hp
        simp only [List.mem_cons, List.not_mem_nil, or_false] at hp
        rcases hp with rfl | rfl | rfl | rfl | rfl | rfl | rfl | rfl <;> k_mem
      · rw [if_pos (bne_iff_ne.mpr (by omega))]
        have v1 := ev_idxL (pos := ⟨117, 40, 117, 51⟩) (ev_cell (w := w) (A := A) (pos := ⟨117, 40, 117, 44⟩) K (v := .ref Lg) (by k_mem) (L.kC _ rfl) L.cLogs) (evI_loc (pos := ⟨117, 45, 117, 50⟩) (x := Str.ofString "octet") K (by k_mem) (L.kL _ rfl)) (hG.at fun o e => K.keep _ o (k3 _ o (k2 _ o e))) iG (by omega) (by rw [Int.toNat_natCast]; exact hr.get hwi) (by omega)
        have v2 := ev_mul (pos := ⟨117, 54, 117, 75⟩) ((ev_cell (w := w) (A := A) (pos := ⟨117, 54, 117, 58⟩) K (v := .int step ts) (by k_mem) (L.kC _ rfl) L.cStep).toI (n := step) ⟨_, rfl⟩) (ev_add (pos := ⟨117, 62, 117, 74⟩) (evI_loc (pos := ⟨117, 62, 117, 67⟩) (x := Str.ofString "first") K (by k_mem) (L.kL _ rfl)) (evI_loc (pos := ⟨117, 70, 117, 74⟩) (x := Str.ofString "turn") K (by k_mem) (L.kL _ rfl))) (.of_left (bits_small (by omega)))
        have v3 := ev_lenL (pos := ⟨117, 79, 117, 88⟩) (eLen (W3.keeps K.keep) ⟨117, 79, 117, 82⟩) (ev_loc (pos := ⟨117, 83, 117, 87⟩) (x := Str.ofString "word") (v := .ref Wd) K (by k_mem) (L.kL _ rfl)) (hW.at fun o e => K.keep _ o (k3 _ o (k2 _ o e))) (by rw [sizeLine_eq, List.size_toArray, iW.length, tl]; omega)
        have v4 := ev_sub (pos := ⟨117, 79, 117, 100⟩) (ev_sub (pos := ⟨117, 79, 117, 92⟩) (v3.eqI (show _ = (word.length : Int) by rw [List.size_toArray, iW.length, tl])) (ev_int (i := 1) (k := 0) (pos := ⟨117, 91, 117, 92⟩))) (evI_loc (pos := ⟨117, 95, 117, 100⟩) (x := Str.ofString "place") K (by k_mem) (L.kL _ rfl))
        have v5 := ev_mul (pos := ⟨117, 54, 117, 101⟩) v2 v4 (.of_right (bits_small (by omega)))
        have v6 := ev_mod (pos := ⟨117, 39, 117, 108⟩) (ev_add (pos := ⟨117, 40, 117, 101⟩) v1 v5) (ev_int (i := 255) (k := 0) (pos := ⟨117, 105, 117, 108⟩)) (by decide)
        have m1 := Int.fmod_nonneg_of_pos (((lgn word[i]! : Nat) : Int) + (step : Int) * (first + t) * ((word.length : Int) - 1 - i)) (b := 255) (by decide)
        have m2 := Int.fmod_lt_of_pos (((lgn word[i]! : Nat) : Int) + (step : Int) * (first + t) * ((word.length : Int) - 1 - i)) (b := 255) (by decide)
        have v7 := ev_idxL (pos := ⟨117, 32, 117, 109⟩) (ev_cell (w := w) (A := A) (pos := ⟨117, 32, 117, 38⟩) K (v := .ref P) (by k_mem) (L.kC _ rfl) L.cPowers) v6 (hP.at fun o e => K.keep _ o (k3 _ o (k2 _ o e))) iP m1 (pwI_get (by omega)) (by omega)
        refine execsN_cons (setN (s := { s with heap := g, toks := tk3 }) K ((ev_xor (evI_loc K (by k_mem) (L.kL _ rfl)) v7).eqI (bitXor_nat _ _)) (L.kL _ rfl) fun v' g5 tk5 hv K5 => ⟨rfl, execsN_nil ⟨rfl, execsN_nil ?_⟩⟩)
        obtain ⟨tq', rfl⟩ := hv
        refine ⟨rfl, g5, tk5, _, _, rfl, K5.subV ?_, tq', rfl, rfl⟩
        rw [up, totAt, if_neg h0]
        intro p hp
        simp only [List.mem_cons, List.not_mem_nil, or_false] at hp
        rcases hp with rfl | rfl | rfl | rfl | rfl | rfl | rfl | rfl <;> k_mem
    · rintro g tk l os K ⟨tq, rfl, rfl⟩
      refine ⟨rfl, execsN_cons (ifN (testN (s := { s with heap := g, toks := tk }) (h := g) (evB_ne (evI_loc K (by k_mem) (L.kL _ rfl)) ev_int) fun tk3 => ?_))⟩
      rw [tl, hz t ht, if_neg (by decide)]
      refine execsN_nil ⟨rfl, execsN_nil ⟨rfl, g, tk3, _, _, rfl, K.subV ?_, rfl, rfl⟩⟩
      intro p hp
      simp only [List.mem_cons, List.not_mem_nil, or_false] at hp
      rcases hp with rfl | rfl | rfl | rfl | rfl | rfl <;> k_mem
  · rintro g tk l os G ⟨rfl, rfl⟩
    refine ⟨rfl, execsN_cons' (returnN (Ev.useN (s := { s with heap := g, toks := tk }) ev_true fun v tk' hv => ?_))⟩
    cases hv
    exact hQ g tk' fun b o e => G.keep _ _ e
end
end Mine
end

/-! part LG -/
section
open PySem PySem.W PyProof.Rows
namespace Mine
local macro_rules | `(tactic| k_mem) => `(tactic| (refine mem_filter_ne ?_ (by decide); k_mem))

/-- law's plain state -/
structure LSt where
  word : List Nat
  first : Int
  step : Nat
  size : Nat

def byOf (number : Int) : Nat := ((number.fdiv 8).fmod 255).toNat
def mulW (c o : Nat) : Nat := if o = 0 then 0 else pw ((lgn o + c) % 255)
def powW (c o : Nat) : Nat := if o = 0 then 0 else pw (lgn o * c % 255)
/-- one turn of law's loop, on plain state -/
def turnS (n : Nat) (s : LSt) (number : Int) : LSt :=
  match (number.fmod 8).toNat with
  | 0 => { s with word := s.word.zipWith (· ^^^ ·) (encW s.step s.first n ((s.word.take s.size).map fun o => (o + byOf number + 1) % 256)) }
  | 1 => { s with word := s.word.map (mulW (byOf number)) }
  | 2 => { s with word := s.word.map (powW (2 ^ (byOf number % 8))), step := s.step * 2 ^ (byOf number % 8) % 255 }
  | 3 => { s with word := s.word.reverse, first := 1 - n - s.first }
  | 4 => { s with word := (List.range s.word.length).map fun i => mulW (s.step * byOf number * (s.word.length - 1 - i)) s.word[i]!, first := s.first - byOf number }
  | 5 => { s with step := (255 - s.step) % 255, first := 1 - n - s.first }
  | 6 => { s with word := s.word ++ [0], size := s.size + 1 }
  | _ => { s with word := 0 :: s.word, size := s.size + 1 }

/-- what stands after each turn -/
structure Inv (n : Nat) (s : LSt) : Prop where
  len : s.word.length = s.size + n
  lt : ∀ x ∈ s.word, x < 256
  enc : encW s.step s.first n (s.word.take s.size) = s.word
  cop : Nat.gcd s.step 255 = 1
  slt : s.step < 255

theorem relabel_free {env : Env} (hk : env.scope.kind = .function) : ∀ {names : List (Str × NameKind)} {x : Str}, names.lookup x = some .free → env.kindOf x = some .cell →
    (names.map fun (n, k) => if (k == NameKind.free && env.scope.kind == .function && env.kindOf n == some .cell) then (n, NameKind.cell) else (n, k)).lookup x = some .cell
  | [], _, h, _ => by simp at h
  | (n, k) :: r, x, h, hc => by
    have ih := @relabel_free env hk r x
    show List.lookup x ((if (k == NameKind.free && env.scope.kind == .function && env.kindOf n == some .cell) = true then (n, NameKind.cell) else (n, k)) :: _) = _
    cases hx : x == n with
    | true =>
      simp only [List.lookup_cons, hx] at h
      cases h
      have hxn : x = n := by simpa using hx
      subst hxn
      simp [hk, hc, List.lookup_cons]
    | false =>
      simp only [List.lookup_cons, hx] at h
      by_cases hc' : (k == NameKind.free && env.scope.kind == .function && env.kindOf n == some .cell) = true
      · rw [if_pos hc']; simp only [List.lookup_cons, hx]; exact ih h hc
      · rw [if_neg hc']; simp only [List.lookup_cons, hx]; exact ih h hc

section
variable {w : World} {A : Around} {env : Env} {h h₁ g : Heap} {l : Vars} {os : Objs}
/-- a name of the frame, read within a comprehension -/
theorem ev_ceC {sc : Scope} {cl : List (Str × Addr)} {C c : Addr} {x : Str} {v : Value} {pos : Pos} (F : Frm env h₁ h l os) (hk : ∀ b o, h.get? b = some o → g.get? b = some o) (hs : sc.kind = .function) (hm : (x, v) ∈ l) (kx : env.kindOf x = some .cell) (cx : env.cells.lookup x = some c)
    (hf : sc.names.lookup x = some .free) (hcl : cl.lookup x = some c) (hd : (x == ("__debug__" : Str)) = false := by decide) : Ev w A (compEnvC sc cl C env) g (.Name x pos) (IsV v) := by
  obtain ⟨u, hu, hh⟩ := F.cell _ _ cx
  rw [hh _ hm rfl kx] at hu
  exact ev_isCell hs (hu.keeps hk) (relabel_free F.kind hf kx) hcl hd
theorem ev_ceL {sc : Scope} {cl : List (Str × Addr)} {C : Addr} {x : Str} {v : Value} {pos : Pos} {m : Str → Option Value} (hs : sc.kind = .function) (hn : g.Ns C m) (hm : m x = some v) (hf : sc.names.lookup x = some .local) (hd : (x == ("__debug__" : Str)) = false := by decide) :
    Ev w A (compEnvC sc cl C env) g (.Name x pos) (IsV v) := ev_ns hs hn hm (lookup_relabel_local hf) hd
end
end Mine
end

/-! part LH -/
section
open PySem PySem.W PyProof.Rows
namespace Mine
local macro_rules | `(tactic| k_mem) => `(tactic| (refine mem_filter_ne ?_ (by decide); k_mem))

section
variable {w : World} {A : Around} {env : Env} {h h₁ : Heap} {l : Vars} {os : Objs} {gl : Vars} {eB lB : Array UInt8} {s : Shared} {E : Value → Shared → Prop}

abbrev sc1 : Scope := Scope.mk ScopeKind.function [(Str.ofString ".0", NameKind.local), (Str.ofString "octet", NameKind.local), (Str.ofString "by", NameKind.free), (Str.ofString "logs", NameKind.free), (Str.ofString "powers", NameKind.free)] false false []

theorem kind1 {P Lg Wd : Addr} {pvs gvs wvs : List Value} {r : List Int} {word : List Nat} {b : Nat} {tb : Tok} {p0 p1 p2 p3 p4 p5 p6 p7 p8 p9 p10 p11 p12 p13 p14 p15 p16 pos spos : Pos} {Q : Flow → Shared → Prop} (L : LE env) (F : Frm env h₁ s.heap l os) (hh : A.handled = none)
    (mb : (Str.ofString "by", .int b tb) ∈ l) (mp : (Str.ofString "powers", .ref P) ∈ l) (mg : (Str.ofString "logs", .ref Lg) ∈ l) (mw : (Str.ofString "word", .ref Wd) ∈ l)
    (hP : h₁.IsList P pvs.toArray) (iP : IntsAre pvs pwI) (hG : h₁.IsList Lg gvs.toArray) (iG : IntsAre gvs r) (hr : LogsUp 255 r) (hW : h₁.IsList Wd wvs.toArray) (iW : IntsAre wvs (toI word)) (wlt : ∀ x ∈ word, x < 256) (wlen : word.length ≤ 100)
    (hsw : swapsWith (.ListComp (.IfExp (.Compare (.Name (Str.ofString "octet") p1) [.NotEq] [.Constant (.int 0) 0 p2] p3)
      (.Subscript (.Name (Str.ofString "powers") p4) (.BinOp (.BinOp (.Subscript (.Name (Str.ofString "logs") p5) (.Name (Str.ofString "octet") p6) p7) .Add (.Name (Str.ofString "by") p8) p9) .Mod (.Constant (.int 255) 0 p10) p11) p12) (.Constant (.int 0) 0 p13) p14)
      [⟨.Name (Str.ofString "octet") p15, .Name (Str.ofString "word") p16, [], 0⟩] sc1 pos) (some (.Name (Str.ofString "word") p0)) spos.line env = pure true)
    (hQ : ∀ D h' tk vs c, Frm env h₁ h' ((Str.ofString "word", .ref D) :: l.filter (fun p => p.1 != Str.ofString "word")) ((D, lsObj vs c) :: os) → IntsAre vs (toI (word.map (mulW b))) → Q .next { s with heap := h', toks := tk }) :
    wpAny (model PT w) A (exec (.Assign [.Name (Str.ofString "word") p0] (.ListComp (.IfExp (.Compare (.Name (Str.ofString "octet") p1) [.NotEq] [.Constant (.int 0) 0 p2] p3)
      (.Subscript (.Name (Str.ofString "powers") p4) (.BinOp (.BinOp (.Subscript (.Name (Str.ofString "logs") p5) (.Name (Str.ofString "octet") p6) p7) .Add (.Name (Str.ofString "by") p8) p9) .Mod (.Constant (.int 255) 0 p10) p11) p12) (.Constant (.int 0) 0 p13) p14)
      [⟨.Name (Str.ofString "octet") p15, .Name (Str.ofString "word") p16, [], 0⟩] sc1 pos) spos) env) Q E s := by
  have tl : (toI word).length = word.length := by simp [toI]
  have hcl : closureFor sc1 env = pure [(Str.ofString "powers", env.locals + 3), (Str.ofString "logs", env.locals + 4), (Str.ofString "by", env.locals + 5)] := by
    unfold closureFor
    simp [cellOf, L.cBy, L.cLogs, L.cPowers]
  refine compA (n := (toI word).length) (src := fun i => (toI word).getD i 0) (g := fun o => ((mulW b o.toNat : Nat) : Int)) (by rw [sizeLine_eq, tl]; omega) F hsw hcl ?_ rfl ?_ rfl (L.kL _ rfl) (src_list hh (ev_loc F mw (L.kL _ rfl)) (hW.at fun o e => F.keep _ o e) iW) ?_ ?_
  · decide
  · decide
  · intro C i v g m hi' hnC hm hv hkp
    obtain ⟨t, rfl⟩ := hv
    have hil : i < word.length := by rw [← tl]; exact hi'
    have hgd : (toI word).getD i 0 = ((word[i]! : Nat) : Int) := by simp [toI, List.getD, hil]
    rw [hgd] at hm ⊢
    have hwi : word[i]! < 256 := wlt _ (by simp [hil])
    have eo : ∀ p, Ev w A (compEnvC sc1 [(Str.ofString "powers", env.locals + 3), (Str.ofString "logs", env.locals + 4), (Str.ofString "by", env.locals + 5)] C env) g (.Name (Str.ofString "octet") p) (IsI ((word[i]! : Nat) : Int)) := fun p => (ev_ceL rfl hnC hm rfl).toI ⟨_, rfl⟩
    refine ev_ifexp (evB_ne (eo _) ev_int) (fun hb => ?_) (fun hb => ?_)
    · have h0 : word[i]! ≠ 0 := by
        intro e; rw [e] at hb; exact absurd hb (by decide)
      have v1 := ev_idxL (pos := p7) (ev_ceC (w := w) (A := A) (sc := sc1) (C := C) (pos := p5) F hkp rfl mg (L.kC _ rfl) L.cLogs rfl rfl) (eo p6) (hG.at fun o e => hkp _ o (F.keep _ _ e)) iG (by omega) (by rw [Int.toNat_natCast]; exact hr.get hwi) (by omega)
      have v2 := ev_mod (pos := p11) (ev_add (pos := p9) v1 ((ev_ceC (w := w) (A := A) (sc := sc1) (C := C) (pos := p8) F hkp rfl mb (L.kC _ rfl) L.cBy rfl rfl).toI ⟨_, rfl⟩)) (ev_int (i := 255) (k := 0) (pos := p10)) (by decide)
      have v3 := v2.eqI (show _ = (((lgn word[i]! + b) % 255 : Nat) : Int) by rw [Int.fmod_eq_emod_of_nonneg _ (by decide)]; omega)
      have v4 := ev_idxL (pos := p12) (ev_ceC (w := w) (A := A) (sc := sc1) (C := C) (pos := p4) F hkp rfl mp (L.kC _ rfl) L.cPowers rfl rfl) v3 (hP.at fun o e => hkp _ o (F.keep _ _ e)) iP (by omega) (by rw [Int.toNat_natCast]; exact pwI_get (Nat.mod_lt _ (by decide))) (by omega)
      exact v4.eqI (by simp only [Int.toNat_natCast, mulW, if_neg h0])
    · have h0 : word[i]! = 0 := by
        have : ((word[i]! : Nat) : Int) = 0 := by simpa using hb
        omega
      exact ev_int.eqI (by simp [h0, mulW])
  · intro D h' tk vs c F' iD
    refine hQ D h' tk vs c F' ?_
    have e : toI (word.map (mulW b)) = (toI word).map fun o => ((mulW b o.toNat : Nat) : Int) := by simp [toI]
    rw [e, ← range_getD]; exact iD
abbrev sc2 : Scope := Scope.mk ScopeKind.function [(Str.ofString ".0", NameKind.local), (Str.ofString "octet", NameKind.local), (Str.ofString "logs", NameKind.free), (Str.ofString "power", NameKind.free), (Str.ofString "powers", NameKind.free)] false false []

theorem kind2 {P Lg Wd : Addr} {pvs gvs wvs : List Value} {r : List Int} {word : List Nat} {b : Nat} {tb : Tok} {p0 p1 p2 p3 p4 p5 p6 p7 p8 p9 p10 p11 p12 p13 p14 p15 p16 pos spos : Pos} {Q : Flow → Shared → Prop} (L : LE env) (F : Frm env h₁ s.heap l os) (hh : A.handled = none)
    (mb : (Str.ofString "power", .int b tb) ∈ l) (mp : (Str.ofString "powers", .ref P) ∈ l) (mg : (Str.ofString "logs", .ref Lg) ∈ l) (mw : (Str.ofString "word", .ref Wd) ∈ l)
    (hP : h₁.IsList P pvs.toArray) (iP : IntsAre pvs pwI) (hG : h₁.IsList Lg gvs.toArray) (iG : IntsAre gvs r) (hr : LogsUp 255 r) (hW : h₁.IsList Wd wvs.toArray) (iW : IntsAre wvs (toI word)) (wlt : ∀ x ∈ word, x < 256) (wlen : word.length ≤ 100)
    (hsw : swapsWith (.ListComp (.IfExp (.Compare (.Name (Str.ofString "octet") p1) [.NotEq] [.Constant (.int 0) 0 p2] p3)
      (.Subscript (.Name (Str.ofString "powers") p4) (.BinOp (.BinOp (.Subscript (.Name (Str.ofString "logs") p5) (.Name (Str.ofString "octet") p6) p7) .Mult (.Name (Str.ofString "power") p8) p9) .Mod (.Constant (.int 255) 0 p10) p11) p12) (.Constant (.int 0) 0 p13) p14)
      [⟨.Name (Str.ofString "octet") p15, .Name (Str.ofString "word") p16, [], 0⟩] sc2 pos) (some (.Name (Str.ofString "word") p0)) spos.line env = pure true)
    (hQ : ∀ D h' tk vs c, Frm env h₁ h' ((Str.ofString "word", .ref D) :: l.filter (fun p => p.1 != Str.ofString "word")) ((D, lsObj vs c) :: os) → IntsAre vs (toI (word.map (powW b))) → Q .next { s with heap := h', toks := tk }) :
    wpAny (model PT w) A (exec (.Assign [.Name (Str.ofString "word") p0] (.ListComp (.IfExp (.Compare (.Name (Str.ofString "octet") p1) [.NotEq] [.Constant (.int 0) 0 p2] p3)
      (.Subscript (.Name (Str.ofString "powers") p4) (.BinOp (.BinOp (.Subscript (.Name (Str.ofString "logs") p5) (.Name (Str.ofString "octet") p6) p7) .Mult (.Name (Str.ofString "power") p8) p9) .Mod (.Constant (.int 255) 0 p10) p11) p12) (.Constant (.int 0) 0 p13) p14)
      [⟨.Name (Str.ofString "octet") p15, .Name (Str.ofString "word") p16, [], 0⟩] sc2 pos) spos) env) Q E s := by
  have tl : (toI word).length = word.length := by simp [toI]
  have hcl : closureFor sc2 env = pure [(Str.ofString "powers", env.locals + 3), (Str.ofString "power", env.locals + 7), (Str.ofString "logs", env.locals + 4)] := by
    unfold closureFor
    simp [cellOf, L.cPower, L.cLogs, L.cPowers]
  refine compA (n := (toI word).length) (src := fun i => (toI word).getD i 0) (g := fun o => ((powW b o.toNat : Nat) : Int)) (by rw [sizeLine_eq, tl]; omega) F hsw hcl ?_ rfl ?_ rfl (L.kL _ rfl) (src_list hh (ev_loc F mw (L.kL _ rfl)) (hW.at fun o e => F.keep _ o e) iW) ?_ ?_
  · decide
  · decide
  · intro C i v g m hi' hnC hm hv hkp
    obtain ⟨t, rfl⟩ := hv
    have hil : i < word.length := by rw [← tl]; exact hi'
    have hgd : (toI word).getD i 0 = ((word[i]! : Nat) : Int) := by simp [toI, List.getD, hil]
    rw [hgd] at hm ⊢
    have hwi : word[i]! < 256 := wlt _ (by simp [hil])
    have eo : ∀ p, Ev w A (compEnvC sc2 [(Str.ofString "powers", env.locals + 3), (Str.ofString "power", env.locals + 7), (Str.ofString "logs", env.locals + 4)] C env) g (.Name (Str.ofString "octet") p) (IsI ((word[i]! : Nat) : Int)) := fun p => (ev_ceL rfl hnC hm rfl).toI ⟨_, rfl⟩
    refine ev_ifexp (evB_ne (eo _) ev_int) (fun hb => ?_) (fun hb => ?_)
    · have h0 : word[i]! ≠ 0 := by
        intro e; rw [e] at hb; exact absurd hb (by decide)
      have v1 := ev_idxL (pos := p7) (ev_ceC (w := w) (A := A) (sc := sc2) (C := C) (pos := p5) F hkp rfl mg (L.kC _ rfl) L.cLogs rfl rfl) (eo p6) (hG.at fun o e => hkp _ o (F.keep _ _ e)) iG (by omega) (by rw [Int.toNat_natCast]; exact hr.get hwi) (by omega)
      have v2 := ev_mod (pos := p11) (ev_mul (pos := p9) v1 ((ev_ceC (w := w) (A := A) (sc := sc2) (C := C) (pos := p8) F hkp rfl mb (L.kC _ rfl) L.cPower rfl rfl).toI ⟨_, rfl⟩) (.of_left (bits_small (by have := lgn_lt word[i]!; omega)))) (ev_int (i := 255) (k := 0) (pos := p10)) (by decide)
      have v3 := v2.eqI (show _ = (((lgn word[i]! * b) % 255 : Nat) : Int) by rw [Int.fmod_eq_emod_of_nonneg _ (by decide)]; push_cast; rfl)
      have v4 := ev_idxL (pos := p12) (ev_ceC (w := w) (A := A) (sc := sc2) (C := C) (pos := p4) F hkp rfl mp (L.kC _ rfl) L.cPowers rfl rfl) v3 (hP.at fun o e => hkp _ o (F.keep _ _ e)) iP (by omega) (by rw [Int.toNat_natCast]; exact pwI_get (Nat.mod_lt _ (by decide))) (by omega)
      exact v4.eqI (by simp only [Int.toNat_natCast, powW, if_neg h0])
    · have h0 : word[i]! = 0 := by
        have : ((word[i]! : Nat) : Int) = 0 := by simpa using hb
        omega
      exact ev_int.eqI (by simp [h0, powW])
  · intro D h' tk vs c F' iD
    refine hQ D h' tk vs c F' ?_
    have e : toI (word.map (powW b)) = (toI word).map fun o => ((powW b o.toNat : Nat) : Int) := by simp [toI]
    rw [e, ← range_getD]; exact iD
end
end Mine
end

/-! part LI -/
section
open PySem PySem.W PyProof.Rows
namespace Mine
local macro_rules | `(tactic| k_mem) => `(tactic| (refine mem_filter_ne ?_ (by decide); k_mem))

section
variable {w : World} {A : Around} {env : Env} {h h₁ : Heap} {l : Vars} {os : Objs} {gl : Vars} {eB lB : Array UInt8} {s : Shared} {E : Value → Shared → Prop}

abbrev sc0 : Scope := Scope.mk ScopeKind.function [(Str.ofString ".0", NameKind.local), (Str.ofString "place", NameKind.local), (Str.ofString "octet", NameKind.local), (Str.ofString "other", NameKind.free)] false false []

/-- word = [octet ^ other[place] for place, octet in enumerate(word)] -/
theorem kind0b {Ot Wd : Addr} {ob : Array UInt8} {wvs : List Value} {word : List Nat} {p0 p1 p2 p3 p4 p5 p6 p7 p8 p9 p10 p11 pos spos : Pos} {Q : Flow → Shared → Prop} (L : LE env) (W : World2 gl eB lB h₁) (F : Frm env h₁ s.heap l os) (hh : A.handled = none)
    (mo : (Str.ofString "other", .ref Ot) ∈ l) (mw : (Str.ofString "word", .ref Wd) ∈ l) (hO : h₁.get? Ot = some (baObj ob)) (hol : ob.size = word.length) (hW : h₁.IsList Wd wvs.toArray) (iW : IntsAre wvs (toI word)) (wlen : word.length ≤ 100)
    (hsw : swapsWith (.ListComp (.BinOp (.Name (Str.ofString "octet") p1) .BitXor (.Subscript (.Name (Str.ofString "other") p2) (.Name (Str.ofString "place") p3) p4) p5)
      [⟨.Tuple [.Name (Str.ofString "place") p6, .Name (Str.ofString "octet") p7] 0 p8, .Call (.Name (Str.ofString "enumerate") p9) [.Name (Str.ofString "word") p10] [] p11, [], 0⟩] sc0 pos) (some (.Name (Str.ofString "word") p0)) spos.line env = pure true)
    (hQ : ∀ D h' tk vs c, Frm env h₁ h' ((Str.ofString "word", .ref D) :: l.filter (fun p => p.1 != Str.ofString "word")) ((D, lsObj vs c) :: os) → IntsAre vs (toI (word.zipWith (· ^^^ ·) (ob.toList.map UInt8.toNat))) → Q .next { s with heap := h', toks := tk }) :
    wpAny (model PT w) A (exec (.Assign [.Name (Str.ofString "word") p0] (.ListComp (.BinOp (.Name (Str.ofString "octet") p1) .BitXor (.Subscript (.Name (Str.ofString "other") p2) (.Name (Str.ofString "place") p3) p4) p5)
      [⟨.Tuple [.Name (Str.ofString "place") p6, .Name (Str.ofString "octet") p7] 0 p8, .Call (.Name (Str.ofString "enumerate") p9) [.Name (Str.ofString "word") p10] [] p11, [], 0⟩] sc0 pos) spos) env) Q E s := by
  have tl : (toI word).length = word.length := by simp [toI]
  have hcl : closureFor sc0 env = pure [(Str.ofString "other", env.locals + 6)] := by
    unfold closureFor
    simp [cellOf, L.cOther]
  refine compTA (ns := toI word) (ms := toI (word.zipWith (· ^^^ ·) (ob.toList.map UInt8.toNat))) hh (by rw [sizeLine_eq, tl]; omega) F hsw hcl (by decide) rfl (by decide) (by decide) rfl rfl (L.kL _ rfl)
    (ev_bl (W.keeps F.keep).W.g (by decide) boot_enumerate (L.kG _ rfl) L.kd L.gl L.bl) (ev_loc F mw (L.kL _ rfl)) hW iW (by simp [toI, hol]) ?_ hQ
  intro C i k z t u g m hk hz hnC m0 m1 hkp
  have hil : i < word.length := by rw [← tl]; exact (List.getElem?_eq_some_iff.mp hk).1
  have hki : k = ((word[i]! : Nat) : Int) := by
    have : (toI word)[i]? = some ((word[i]! : Nat) : Int) := by simp [toI, hil]
    rw [this] at hk; exact (Option.some.inj hk).symm
  subst hki
  have hio : i < ob.size := by omega
  have v1 := ev_idxB (pos := p4) (ev_ceC (w := w) (A := A) (sc := sc0) (cl := [(Str.ofString "other", env.locals + 6)]) (C := C) (pos := p2) F hkp rfl mo (L.kC _ rfl) L.cOther rfl rfl) ((ev_ceL (pos := p3) rfl hnC m0 rfl).toI ⟨_, rfl⟩) (hkp _ _ (F.keep _ _ hO)) (by omega) (get_bang (i := i) (by simpa using hio)) (by omega)
  refine (ev_xor ((ev_ceL (pos := p1) rfl hnC m1 rfl).toI ⟨_, rfl⟩) v1).eqI ?_
  rw [bitXor_nat]
  have : (toI (word.zipWith (· ^^^ ·) (ob.toList.map UInt8.toNat)))[i]? = some (((word[i]! ^^^ ob[i]!.toNat : Nat)) : Int) := by
    simp [toI, List.getElem?_zipWith, hil, hio]
  rw [this] at hz
  rw [← Option.some.inj hz]
end
end Mine
end

/-! part LJ -/
section
open PySem PySem.W PyProof.Rows
namespace Mine
local macro_rules | `(tactic| k_mem) => `(tactic| (refine mem_filter_ne ?_ (by decide); k_mem))

section
variable {w : World} {A : Around} {env : Env} {h h₁ : Heap} {l : Vars} {os : Objs} {gl : Vars} {eB lB : Array UInt8} {s : Shared} {E : Value → Shared → Prop}

abbrev sc4 : Scope := Scope.mk ScopeKind.function [(Str.ofString ".0", NameKind.local), (Str.ofString "place", NameKind.local), (Str.ofString "octet", NameKind.local), (Str.ofString "behind", NameKind.free), (Str.ofString "by", NameKind.free), (Str.ofString "logs", NameKind.free), (Str.ofString "powers", NameKind.free), (Str.ofString "step", NameKind.free)] false false []

/-- the word of kind 4 -/
def shiftW (c : Nat) (word : List Nat) : List Nat := (List.range word.length).map fun i => mulW (c * (word.length - 1 - i)) word[i]!

/-- word = [powers[(logs[octet] + step * by * (behind - place)) % 255] if octet != 0 else 0 for place, octet in enumerate(word)] -/
theorem kind4 {P Lg Wd : Addr} {pvs gvs wvs : List Value} {r : List Int} {word : List Nat} {b step : Nat} {tb ts th : Tok} {p0 p1 p2 p3 p4 p5 p6 p7 p8 p9 p10 p11 p12 p13 p14 p15 p16 p17 p18 p19 p20 p21 p22 p23 p24 p25 p26 pos spos : Pos} {Q : Flow → Shared → Prop} (L : LE env) (W : World2 gl eB lB h₁) (F : Frm env h₁ s.heap l os) (hh : A.handled = none)
    (mb : (Str.ofString "by", .int b tb) ∈ l) (ms : (Str.ofString "step", .int step ts) ∈ l) (mh : (Str.ofString "behind", .int ((word.length : Int) - 1) th) ∈ l) (mp : (Str.ofString "powers", .ref P) ∈ l) (mg : (Str.ofString "logs", .ref Lg) ∈ l) (mw : (Str.ofString "word", .ref Wd) ∈ l)
    (hP : h₁.IsList P pvs.toArray) (iP : IntsAre pvs pwI) (hG : h₁.IsList Lg gvs.toArray) (iG : IntsAre gvs r) (hr : LogsUp 255 r) (hW : h₁.IsList Wd wvs.toArray) (iW : IntsAre wvs (toI word)) (wlt : ∀ x ∈ word, x < 256) (wlen : word.length ≤ 100) (hs : step < 255)
    (hsw : swapsWith (.ListComp (.IfExp (.Compare (.Name (Str.ofString "octet") p1) [.NotEq] [.Constant (.int 0) 0 p2] p3)
      (.Subscript (.Name (Str.ofString "powers") p4) (.BinOp (.BinOp (.Subscript (.Name (Str.ofString "logs") p5) (.Name (Str.ofString "octet") p6) p7) .Add
        (.BinOp (.BinOp (.Name (Str.ofString "step") p8) .Mult (.Name (Str.ofString "by") p9) p10) .Mult (.BinOp (.Name (Str.ofString "behind") p11) .Sub (.Name (Str.ofString "place") p12) p13) p14) p15) .Mod (.Constant (.int 255) 0 p16) p17) p18) (.Constant (.int 0) 0 p19) p20)
      [⟨.Tuple [.Name (Str.ofString "place") p21, .Name (Str.ofString "octet") p22] 0 p23, .Call (.Name (Str.ofString "enumerate") p24) [.Name (Str.ofString "word") p25] [] p26, [], 0⟩] sc4 pos) (some (.Name (Str.ofString "word") p0)) spos.line env = pure true)
    (hQ : ∀ D h' tk vs c, Frm env h₁ h' ((Str.ofString "word", .ref D) :: l.filter (fun p => p.1 != Str.ofString "word")) ((D, lsObj vs c) :: os) → IntsAre vs (toI (shiftW (step * b) word)) → Q .next { s with heap := h', toks := tk }) :
    wpAny (model PT w) A (exec (.Assign [.Name (Str.ofString "word") p0] (.ListComp (.IfExp (.Compare (.Name (Str.ofString "octet") p1) [.NotEq] [.Constant (.int 0) 0 p2] p3)
      (.Subscript (.Name (Str.ofString "powers") p4) (.BinOp (.BinOp (.Subscript (.Name (Str.ofString "logs") p5) (.Name (Str.ofString "octet") p6) p7) .Add
        (.BinOp (.BinOp (.Name (Str.ofString "step") p8) .Mult (.Name (Str.ofString "by") p9) p10) .Mult (.BinOp (.Name (Str.ofString "behind") p11) .Sub (.Name (Str.ofString "place") p12) p13) p14) p15) .Mod (.Constant (.int 255) 0 p16) p17) p18) (.Constant (.int 0) 0 p19) p20)
      [⟨.Tuple [.Name (Str.ofString "place") p21, .Name (Str.ofString "octet") p22] 0 p23, .Call (.Name (Str.ofString "enumerate") p24) [.Name (Str.ofString "word") p25] [] p26, [], 0⟩] sc4 pos) spos) env) Q E s := by
  have tl : (toI word).length = word.length := by simp [toI]
  have hcl : closureFor sc4 env = pure [(Str.ofString "step", env.locals + 1), (Str.ofString "powers", env.locals + 3), (Str.ofString "logs", env.locals + 4), (Str.ofString "by", env.locals + 5), (Str.ofString "behind", env.locals + 8)] := by
    unfold closureFor
    simp [cellOf, L.cStep, L.cPowers, L.cLogs, L.cBy, L.cBehind]
  refine compTA (ns := toI word) (ms := toI (shiftW (step * b) word)) hh (by rw [sizeLine_eq, tl]; omega) F hsw hcl (by decide) rfl (by decide) (by decide) rfl rfl (L.kL _ rfl)
    (ev_bl (W.keeps F.keep).W.g (by decide) boot_enumerate (L.kG _ rfl) L.kd L.gl L.bl) (ev_loc F mw (L.kL _ rfl)) hW iW (by simp [toI, shiftW]) ?_ hQ
  intro C i k z t u g m hk hz hnC m0 m1 hkp
  have hil : i < word.length := by rw [← tl]; exact (List.getElem?_eq_some_iff.mp hk).1
  have hki : k = ((word[i]! : Nat) : Int) := by
    have : (toI word)[i]? = some ((word[i]! : Nat) : Int) := by simp [toI, hil]
    rw [this] at hk; exact (Option.some.inj hk).symm
  subst hki
  have hzi : z = ((mulW (step * b * (word.length - 1 - i)) word[i]! : Nat) : Int) := by
    have : (toI (shiftW (step * b) word))[i]? = some ((mulW (step * b * (word.length - 1 - i)) word[i]! : Nat) : Int) := by simp [toI, shiftW, hil]
    rw [this] at hz; exact (Option.some.inj hz).symm
  subst hzi
  have hwi : word[i]! < 256 := wlt _ (by simp [hil])
  have eo : ∀ p, Ev w A (compEnvC sc4 [(Str.ofString "step", env.locals + 1), (Str.ofString "powers", env.locals + 3), (Str.ofString "logs", env.locals + 4), (Str.ofString "by", env.locals + 5), (Str.ofString "behind", env.locals + 8)] C env) g (.Name (Str.ofString "octet") p) (IsI ((word[i]! : Nat) : Int)) := fun p => (ev_ceL rfl hnC m1 rfl).toI ⟨_, rfl⟩
  refine ev_ifexp (evB_ne (eo _) ev_int) (fun hb => ?_) (fun hb => ?_)
  · have h0 : word[i]! ≠ 0 := by
      intro e; rw [e] at hb; exact absurd hb (by decide)
    have v1 := ev_idxL (pos := p7) (ev_ceC (w := w) (A := A) (sc := sc4) (C := C) (pos := p5) F hkp rfl mg (L.kC _ rfl) L.cLogs rfl rfl) (eo p6) (hG.at fun o e => hkp _ o (F.keep _ _ e)) iG (by omega) (by rw [Int.toNat_natCast]; exact hr.get hwi) (by omega)
    have es := (ev_ceC (w := w) (A := A) (sc := sc4) (cl := [(Str.ofString "step", env.locals + 1), (Str.ofString "powers", env.locals + 3), (Str.ofString "logs", env.locals + 4), (Str.ofString "by", env.locals + 5), (Str.ofString "behind", env.locals + 8)]) (C := C) (pos := p8) F hkp rfl ms (L.kC _ rfl) L.cStep rfl rfl).toI (n := step) ⟨_, rfl⟩
    have eb := (ev_ceC (w := w) (A := A) (sc := sc4) (cl := [(Str.ofString "step", env.locals + 1), (Str.ofString "powers", env.locals + 3), (Str.ofString "logs", env.locals + 4), (Str.ofString "by", env.locals + 5), (Str.ofString "behind", env.locals + 8)]) (C := C) (pos := p9) F hkp rfl mb (L.kC _ rfl) L.cBy rfl rfl).toI (n := b) ⟨_, rfl⟩
    have eh := (ev_ceC (w := w) (A := A) (sc := sc4) (cl := [(Str.ofString "step", env.locals + 1), (Str.ofString "powers", env.locals + 3), (Str.ofString "logs", env.locals + 4), (Str.ofString "by", env.locals + 5), (Str.ofString "behind", env.locals + 8)]) (C := C) (pos := p11) F hkp rfl mh (L.kC _ rfl) L.cBehind rfl rfl).toI (n := (word.length : Int) - 1) ⟨_, rfl⟩
    have ep := (ev_ceL (w := w) (A := A) (sc := sc4) (env := env) (cl := [(Str.ofString "step", env.locals + 1), (Str.ofString "powers", env.locals + 3), (Str.ofString "logs", env.locals + 4), (Str.ofString "by", env.locals + 5), (Str.ofString "behind", env.locals + 8)]) (C := C) (pos := p12) rfl hnC m0 rfl).toI (n := i) ⟨_, rfl⟩
    have v2 := ev_mul (pos := p14) (ev_mul (pos := p10) es eb (.of_left (bits_small (by omega)))) (ev_sub (pos := p13) eh ep) (.of_right (bits_small (by omega)))
    have v3 := ev_mod (pos := p17) (ev_add (pos := p15) v1 v2) (ev_int (i := 255) (k := 0) (pos := p16)) (by decide)
    have v4 := v3.eqI (show _ = (((lgn word[i]! + step * b * (word.length - 1 - i)) % 255 : Nat) : Int) by
      rw [Int.fmod_eq_emod_of_nonneg _ (by decide)]
      have : (word.length : Int) - 1 - i = ((word.length - 1 - i : Nat) : Int) := by omega
      rw [this]; push_cast; rfl)
    have v5 := ev_idxL (pos := p18) (ev_ceC (w := w) (A := A) (sc := sc4) (C := C) (pos := p4) F hkp rfl mp (L.kC _ rfl) L.cPowers rfl rfl) v4 (hP.at fun o e => hkp _ o (F.keep _ _ e)) iP (by omega) (by rw [Int.toNat_natCast]; exact pwI_get (Nat.mod_lt _ (by decide))) (by omega)
    exact v5.eqI (by simp only [mulW, if_neg h0])
  · have h0 : word[i]! = 0 := by
      have : ((word[i]! : Nat) : Int) = 0 := by simpa using hb
      omega
    exact ev_int.eqI (by simp [h0, mulW])

abbrev sc0a : Scope := Scope.mk ScopeKind.function [(Str.ofString ".0", NameKind.local), (Str.ofString "octet", NameKind.local), (Str.ofString "by", NameKind.free)] false false []

/-- other = rs_encode_msg(bytearray([(octet + by + 1) % 256 for octet in word[:size]]), checks, first, powers[step]) -/
theorem kind0a {P Wd : Addr} {pvs wvs : List Value} {word : List Nat} {b n step size : Nat} {first : Int} {tb tc tf ts tz : Tok} {p0 p1 p2 p3 p4 p5 p6 p7 p8 p9 p10 p11 p12 p13 p14 p15 p16 p17 p18 p19 p20 p21 pos spos : Pos} {Q : Flow → Shared → Prop} (L : LE env) (W : World2 gl eB lB h₁) (F : Frm env h₁ s.heap l os) (hh : A.handled = none) (hroom : A.depth + 4 < recursionLimit)
    (mb : (Str.ofString "by", .int b tb) ∈ l) (mc : (Str.ofString "checks", .int n tc) ∈ l) (mf : (Str.ofString "first", .int first tf) ∈ l) (ms : (Str.ofString "step", .int step ts) ∈ l) (mz : (Str.ofString "size", .int size tz) ∈ l) (mp : (Str.ofString "powers", .ref P) ∈ l) (mw : (Str.ofString "word", .ref Wd) ∈ l)
    (hP : h₁.IsList P pvs.toArray) (iP : IntsAre pvs pwI) (hW : h₁.IsList Wd wvs.toArray) (iW : IntsAre wvs (toI word)) (wlen : word.length ≤ 100) (hs : step < 255) (hn : n ≤ 4)
    (hsw : swapsWith (.Call (.Name (Str.ofString "rs_encode_msg") p1) [.Call (.Name (Str.ofString "bytearray") p2) [.ListComp (.BinOp (.BinOp (.BinOp (.Name (Str.ofString "octet") p9) .Add (.Name (Str.ofString "by") p10) p11) .Add (.Constant (.int 1) 0 p12) p13) .Mod (.Constant (.int 256) 0 p14) p15)
        [⟨.Name (Str.ofString "octet") p16, .Subscript (.Name (Str.ofString "word") p17) (.Slice none (some (.Name (Str.ofString "size") p18)) none p19) p20, [], 0⟩] sc0a p21] [] p3, .Name (Str.ofString "checks") p4, .Name (Str.ofString "first") p5, .Subscript (.Name (Str.ofString "powers") p6) (.Name (Str.ofString "step") p7) p8] [] pos) (some (.Name (Str.ofString "other") p0)) spos.line env = pure false)
    (hQ : ∀ a h' tk, Frm env h₁ h' ((Str.ofString "other", .ref a) :: l.filter (fun p => p.1 != Str.ofString "other")) ((a, baObj (encA step first n (octN ((word.take size).map fun o => (o + b + 1) % 256)))) :: os) → Q .next { s with heap := h', toks := tk }) :
    wpN w A (exec (.Assign [.Name (Str.ofString "other") p0] (.Call (.Name (Str.ofString "rs_encode_msg") p1) [.Call (.Name (Str.ofString "bytearray") p2) [.ListComp (.BinOp (.BinOp (.BinOp (.Name (Str.ofString "octet") p9) .Add (.Name (Str.ofString "by") p10) p11) .Add (.Constant (.int 1) 0 p12) p13) .Mod (.Constant (.int 256) 0 p14) p15)
        [⟨.Name (Str.ofString "octet") p16, .Subscript (.Name (Str.ofString "word") p17) (.Slice none (some (.Name (Str.ofString "size") p18)) none p19) p20, [], 0⟩] sc0a p21] [] p3, .Name (Str.ofString "checks") p4, .Name (Str.ofString "first") p5, .Subscript (.Name (Str.ofString "powers") p6) (.Name (Str.ofString "step") p7) p8] [] pos) spos) env) Q s := by
  have tl : (toI word).length = word.length := by simp [toI]
  have ttl : ((toI word).take size).length ≤ 100 := by rw [List.length_take, tl]; omega
  have hcl : closureFor sc0a env = pure [(Str.ofString "by", env.locals + 5)] := by
    unfold closureFor
    simp [cellOf, L.cBy]
  refine assignN (encCall (m := (word.take size).map fun o => (o + b + 1) % 256) L W F hroom hh mc mf mp ms hP iP hs ?_ ?_ (by omega) ?_ ?_) hsw
  · intro x hx
    obtain ⟨y, _, rfl⟩ := List.mem_map.mp hx
    exact Nat.mod_lt _ (by decide)
  · simp; omega
  · intro tk Q' hq
    refine wpAny.n (compE (s := { s with toks := tk }) (n := ((toI word).take size).length) (src := fun i => ((toI word).take size).getD i 0) (g := fun o => (((o.toNat + b + 1) % 256 : Nat) : Int)) (by rw [sizeLine_eq]; omega) hcl (by decide) rfl (by decide) rfl ?_ ?_ ?_)
    · refine sliceTo (s := { s with toks := tk }) (k := size) (ev_loc F mw (L.kL _ rfl)) (evI_loc F mz (L.kL _ rfl)) (hW.at fun o e => F.keep _ o e) iW (by rw [sizeLine_eq, tl]; omega) ?_
      intro D h' tk' vs c k1 n1 o1 i1
      exact src_at (s := { s with toks := tk }) hh k1 ⟨_, o1, rfl, _, rfl⟩ i1
    · intro C i v g m hi' hnC hm hv hkp
      obtain ⟨t, rfl⟩ := hv
      have hgd : ((toI word).take size).getD i 0 = (((word.take size)[i]! : Nat) : Int) := by
        have hil : i < (word.take size).length := by
          rw [List.length_take, tl] at hi'; rw [List.length_take]; exact hi'
        rw [List.length_take] at hil
        simp [toI, List.getD, ← List.map_take, hil]
      rw [hgd] at hm ⊢
      have eo := (ev_ceL (w := w) (A := A) (sc := sc0a) (env := env) (cl := [(Str.ofString "by", env.locals + 5)]) (C := C) (pos := p9) rfl hnC hm rfl).toI ⟨_, rfl⟩
      have eb := (ev_ceC (w := w) (A := A) (sc := sc0a) (cl := [(Str.ofString "by", env.locals + 5)]) (C := C) (pos := p10) F hkp rfl mb (L.kC _ rfl) L.cBy rfl rfl).toI (n := b) ⟨_, rfl⟩
      refine (ev_mod (pos := p15) (ev_add (pos := p13) (ev_add (pos := p11) eo eb) (ev_int (i := 1) (k := 0) (pos := p12))) (ev_int (i := 256) (k := 0) (pos := p14)) (by decide)).eqI ?_
      rw [Int.fmod_eq_emod_of_nonneg _ (by decide), Int.toNat_natCast]
      omega
    · intro D h' tk' vs c k1 n1 o1 i1
      refine hq D h' tk' vs c k1 o1 ?_
      have e : toI ((word.take size).map fun o => (o + b + 1) % 256) = ((toI word).take size).map fun o => (((o.toNat + b + 1) % 256 : Nat) : Int) := by
        rw [toI, toI, ← List.map_take, List.map_map, List.map_map]
        refine List.map_congr_left fun o _ => ?_
        simp only [Function.comp, Int.toNat_natCast]
      rw [e, ← range_getD]; exact i1
  · intro a h' tk k1 n1 o1
    refine wpAny.n (st_cell (s := { s with heap := h', toks := tk }) (F.new k1 n1 o1) (L.kC _ rfl) L.cOther fun h'' tk' F' => ?_)
    exact hQ a h'' tk' F'
end
end Mine
end

/-! part LK -/
section
open PySem PySem.W PyProof.Rows
namespace Mine
local macro_rules | `(tactic| k_mem) => `(tactic| (refine mem_filter_ne ?_ (by decide); k_mem))

theorem turnS_0 {n : Nat} {s : LSt} {k : Int} (h : k.fmod 8 = 0) : turnS n s k = { s with word := s.word.zipWith (· ^^^ ·) (encW s.step s.first n ((s.word.take s.size).map fun o => (o + byOf k + 1) % 256)) } := by unfold turnS; rw [h]; rfl
theorem turnS_1 {n : Nat} {s : LSt} {k : Int} (h : k.fmod 8 = 1) : turnS n s k = { s with word := s.word.map (mulW (byOf k)) } := by unfold turnS; rw [h]; rfl
theorem turnS_2 {n : Nat} {s : LSt} {k : Int} (h : k.fmod 8 = 2) : turnS n s k = { s with word := s.word.map (powW (2 ^ (byOf k % 8))), step := s.step * 2 ^ (byOf k % 8) % 255 } := by unfold turnS; rw [h]; rfl
theorem turnS_3 {n : Nat} {s : LSt} {k : Int} (h : k.fmod 8 = 3) : turnS n s k = { s with word := s.word.reverse, first := 1 - n - s.first } := by unfold turnS; rw [h]; rfl
theorem turnS_4 {n : Nat} {s : LSt} {k : Int} (h : k.fmod 8 = 4) : turnS n s k = { s with word := shiftW (s.step * byOf k) s.word, first := s.first - byOf k } := by unfold turnS; rw [h]; rfl
theorem turnS_5 {n : Nat} {s : LSt} {k : Int} (h : k.fmod 8 = 5) : turnS n s k = { s with step := (255 - s.step) % 255, first := 1 - n - s.first } := by unfold turnS; rw [h]; rfl
theorem turnS_6 {n : Nat} {s : LSt} {k : Int} (h : k.fmod 8 = 6) : turnS n s k = { s with word := s.word ++ [0], size := s.size + 1 } := by unfold turnS; rw [h]; rfl
theorem turnS_7 {n : Nat} {s : LSt} {k : Int} (h : k.fmod 8 = 7) : turnS n s k = { s with word := 0 :: s.word, size := s.size + 1 } := by unfold turnS; rw [h]; rfl

section
variable {w : World} {A : Around} {env : Env} {h h₁ : Heap} {l : Vars} {os : Objs} {gl : Vars} {eB lB : Array UInt8} {s : Shared} {E : Value → Shared → Prop}

theorem execsN_one {st : Stmt} {Q : Flow → Shared → Prop} (h : wpN w A (exec st env) Q s) : wpN w A (execs [st] env) Q s := by
  refine execsN_cons' (wpN_mono h fun f s' hf => ?_)
  cases f <;> first | exact hf | exact execsN_nil hf

/-- x = e, x a cell -/
theorem setCN {x : Str} {e : Expr} {px pos : Pos} {R : Value → Prop} {h₀ : Heap} {c : Addr} {Q : Flow → Shared → Prop} (F : Frm env h₀ s.heap l os) (he : Ev w A env s.heap e R) (hl : env.kindOf x = some .cell) (hc : env.cells.lookup x = some c)
    (hq : ∀ v h' tk, R v → Frm env h₀ h' ((x, v) :: l.filter (fun p => p.1 != x)) os → Q .next { s with heap := h', toks := tk })
    (hs : swapsWith e (some (.Name x px)) pos.line env = pure false := by rfl) : wpN w A (exec (.Assign [.Name x px] e pos) env) Q s :=
  assignN (he.useN fun v tk hv => wpAny.n (st_cell (s := { s with toks := tk }) F hl hc fun h' tk' F' => hq v h' tk' hv F')) hs

/-- if list(rs_encode_msg(bytearray(word[:size]), checks, first, powers[step])) != word: .. -/
theorem checkT {P Wd : Addr} {pvs wvs : List Value} {word : List Nat} {n step size : Nat} {first : Int} {tc tf ts tz : Tok} {p1 p2 p3 p4 p5 p6 p7 p8 p9 p10 p11 p12 p13 p14 p15 p16 pos spos : Pos} {body : List Stmt} {Q : Flow → Shared → Prop} (L : LE env) (W : World2 gl eB lB h₁) (F : Frm env h₁ s.heap l os) (hh : A.handled = none) (hroom : A.depth + 4 < recursionLimit) (hu : A.units < cLine)
    (mc : (Str.ofString "checks", .int n tc) ∈ l) (mf : (Str.ofString "first", .int first tf) ∈ l) (ms : (Str.ofString "step", .int step ts) ∈ l) (mz : (Str.ofString "size", .int size tz) ∈ l) (mp : (Str.ofString "powers", .ref P) ∈ l) (mw : (Str.ofString "word", .ref Wd) ∈ l)
    (hP : h₁.IsList P pvs.toArray) (iP : IntsAre pvs pwI) (hW : s.heap.IsList Wd wvs.toArray) (iW : IntsAre wvs (toI word)) (wlt : ∀ x ∈ word, x < 256) (wlen : word.length ≤ 100) (hs : step < 255) (hn : n ≤ 4) (henc : encW step first n (word.take size) = word)
    (hQ : ∀ h' tk, Frm env h₁ h' l os → Q .next { s with heap := h', toks := tk }) :
    wpN w A (exec (.If (.Compare (.Call (.Name (Str.ofString "list") p1) [.Call (.Name (Str.ofString "rs_encode_msg") p2) [.Call (.Name (Str.ofString "bytearray") p3) [.Subscript (.Name (Str.ofString "word") p4) (.Slice none (some (.Name (Str.ofString "size") p5)) none p6) p7] [] p8, .Name (Str.ofString "checks") p9, .Name (Str.ofString "first") p10, .Subscript (.Name (Str.ofString "powers") p11) (.Name (Str.ofString "step") p12) p13] [] p14] [] p15) [.NotEq] [.Name (Str.ofString "word") p16] pos) body [] spos) env) Q s := by
  have tl : (toI word).length = word.length := by simp [toI]
  refine ifN (cmpTestN (evalN_Call rfl (Ev.useN (ev_bl (W.keeps F.keep).W.g (by decide) boot_list (L.kG _ rfl) L.kd L.gl L.bl) fun v tk1 hv => ?_)))
  cases hv
  refine callWithN_type rfl (splicedN_cons (encCall (s := { s with toks := tk1 }) (m := word.take size) L W F hroom hh mc mf mp ms hP iP hs (fun x hx => wlt x (List.mem_of_mem_take hx)) (by simp; omega) (by omega) ?_ fun a h3 tk4 k3 n3 o3 => ?_))
  · intro tk Q' hq
    refine wpAny.n (sliceTo (s := { s with toks := tk }) (k := size) (ev_loc F mw (L.kL _ rfl)) (evI_loc F mz (L.kL _ rfl)) hW iW (by rw [sizeLine_eq, tl]; omega) ?_)
    intro D h' tk' vs c k1 n1 o1 i1
    refine hq D h' tk' vs c k1 o1 ?_
    rw [toI, List.map_take]; exact i1
  have F4 := F.keeps k3
  refine splicedN_nil (wpAny.n (ba_list (s := { s with heap := h3, toks := tk4 }) hh o3 ?_ fun h4 tk5 dvs c4 k4 o4 i4 => ?_))
  · have := encW_len step first n (word.take size)
    simp only [encW, List.length_map, Array.length_toList] at this
    rw [sizeLine_eq]
    have h2 : (word.take size).length ≤ 100 := by simp; omega
    omega
  have F5 := F4.keeps k4
  have iD : IntsAre dvs (toI word) := by
    have : toI word = (encA step first n (octN (word.take size))).toList.map fun x => (x.toNat : Int) := by
      have e : toI word = toI (encW step first n (word.take size)) := by rw [henc]
      rw [e]; simp [toI, encW]
    rw [this]; exact i4
  refine Ev.useN (s := { s with heap := h4, toks := tk5 }) (ev_loc F5 mw (L.kL _ rfl)) fun v tk6 hv => ?_
  cases hv
  refine wpAny.n (neL_same (s := { s with heap := h4, toks := tk6 }) (vs := dvs) (ws := wvs) ⟨_, o4, rfl, _, rfl⟩ (hW.at fun o e => k4 _ _ (k3 _ _ e)) iD iW hu ?_)
  refine wpAny.n (wpAny_truthy_bool ?_)
  simp only [Bool.false_eq_true, if_false]
  exact execsN_nil (hQ h4 tk6 F5)
end
end Mine
end

/-! part LL -/
section
open PySem PySem.W PyProof.Rows
namespace Mine
local macro_rules | `(tactic| k_mem) => `(tactic| (refine mem_filter_ne ?_ (by decide); k_mem))

section
variable {w : World} {A : Around} {env : Env} {h h₁ : Heap} {l : Vars} {os : Objs} {gl : Vars} {eB lB : Array UInt8} {s : Shared} {E : Value → Shared → Prop}

/-- the state ahead of the turn i -/
def stAt (n : Nat) (st : LSt) (ks : List Int) (i : Nat) : LSt := (ks.take i).foldl (turnS n) st
theorem stAt_succ {n : Nat} {st : LSt} {ks : List Int} {i : Nat} {k : Int} (h : ks[i]? = some k) : stAt n st ks (i + 1) = turnS n (stAt n st ks i) k := by
  unfold stAt
  rw [List.take_add_one, h, List.foldl_append]; rfl

/-- the loop over later[:5] -/
theorem lawD {P La Lg Wd : Addr} {pvs lvs gvs wvs : List Value} {c n : Nat} {st : LSt} {later r : List Int} {tc tf ts tz : Tok} {Q : Flow → Shared → Prop} (L : LE env) (W : World2 gl eB lB h₁)
    (F : Frm env h₁ s.heap [(Str.ofString "checks", .int n tc), (Str.ofString "first", .int st.first tf), (Str.ofString "step", .int st.step ts), (Str.ofString "size", .int st.size tz), (Str.ofString "later", .ref La), (Str.ofString "powers", .ref P), (Str.ofString "logs", .ref Lg), (Str.ofString "word", .ref Wd)] [(Wd, lsObj wvs c)])
    (hh : A.handled = none) (hroom : A.depth + 4 < recursionLimit) (hu : A.units < cLine) (hP : h₁.IsList P pvs.toArray) (iP : IntsAre pvs pwI) (hLa : h₁.IsList La lvs.toArray) (iLa : IntsAre lvs later) (hG : h₁.IsList Lg gvs.toArray) (iG : IntsAre gvs r) (hr : LogsUp 255 r) (iW : IntsAre wvs (toI st.word)) (hn : n ≤ 4) (hl1 : later.length ≤ 100)
    (hI : ∀ i, i ≤ (later.take 5).length → Inv n (stAt n st (later.take 5) i) ∧ (stAt n st (later.take 5) i).word.length ≤ 100)
    (hQ : ∀ h₂ h' tk (Wd : Addr) (wvs : List Value) tf ts, (∀ b o, h₁.get? b = some o → h₂.get? b = some o) → h₂.IsList Wd wvs.toArray → IntsAre wvs (toI (stAt n st (later.take 5) (later.take 5).length).word) →
      Frm env h₂ h' [(Str.ofString "checks", .int n tc), (Str.ofString "first", .int (stAt n st (later.take 5) (later.take 5).length).first tf), (Str.ofString "step", .int (stAt n st (later.take 5) (later.take 5).length).step ts), (Str.ofString "powers", .ref P), (Str.ofString "logs", .ref Lg), (Str.ofString "word", .ref Wd)] [] →
      wpN w A (execs (dLaw.body.drop 13) env) Q { s with heap := h', toks := tk }) : wpN w A (execs (dLaw.body.drop 12) env) Q s := by
  conv => arg 3; arg 1; whnf
  have hk := L.kd
  refine execsN_cons (forN (wpAny.n (sliceTo (k := 5) (ev_cell F (by k_mem) (L.kC _ rfl) L.cLater) ev_int (hLa.at fun o e => F.keep _ o e) iLa (by rw [sizeLine_eq]; omega) fun D h1 tk1 dvs c1 k1 n1 o1 i1 => ?_)))
  obtain ⟨b1, F1, kb1, oD⟩ := (F.new k1 n1 o1).freeze
  refine listLoopN (s := { s with heap := h1, toks := tk1 }) (vs := dvs) (ns := later.take 5)
    (fun i l os => ∃ tf ts tz Wd wvs c, l = [(Str.ofString "checks", .int n tc), (Str.ofString "first", .int (stAt n st (later.take 5) i).first tf), (Str.ofString "step", .int (stAt n st (later.take 5) i).step ts), (Str.ofString "size", .int (stAt n st (later.take 5) i).size tz), (Str.ofString "powers", .ref P), (Str.ofString "logs", .ref Lg), (Str.ofString "word", .ref Wd)] ∧ os = [(Wd, lsObj wvs c)] ∧ IntsAre wvs (toI (stAt n st (later.take 5) i).word))
    hh ⟨_, oD, rfl, _, rfl⟩ i1 (F1.subV ?_) ⟨tf, ts, tz, Wd, wvs, c, rfl, rfl, iW⟩ ?_ ?_
  · intro p hp
    simp only [List.mem_cons, List.not_mem_nil, or_false] at hp
    rcases hp with rfl | rfl | rfl | rfl | rfl | rfl | rfl <;> simp [stAt]
  · rintro i k tk' l os h₂ g tk hki ⟨tf, ts, tz, Wd, wvs, c, rfl, rfl, iW⟩ G k2
    have hil : i < (later.take 5).length := (List.getElem?_eq_some_iff.mp hki).1
    obtain ⟨I0, l0⟩ := hI i (by omega)
    obtain ⟨I1, l1⟩ := hI (i + 1) (by omega)
    have up := stAt_succ (n := n) (st := st) hki
    generalize stAt n st (later.take 5) i = sa at *
    generalize stAt n st (later.take 5) (i + 1) = sb at *
    have kk : ∀ b o, h₁.get? b = some o → h₂.get? b = some o := fun b o e => k2 _ _ (kb1 _ _ e)
    have W2 := W.keeps kk
    have hP2 : h₂.IsList P pvs.toArray := hP.at fun o e => kk _ o e
    have hG2 : h₂.IsList Lg gvs.toArray := hG.at fun o e => kk _ o e
    clear F F1 k1 n1 o1 oD
    refine asgN (s := { s with heap := g, toks := tk }) G (L.kL _ rfl) fun g1 tk1 G1 => ?_
    refine execsN_cons (setN (s := { s with heap := g1, toks := tk1 }) G1 (ev_mod (evI_loc G1 (by k_mem) (L.kL _ rfl)) ev_int (by decide)) (L.kL _ rfl) fun v g2 tk2 hv G2 => ⟨rfl, ?_⟩)
    obtain ⟨t2, rfl⟩ := hv
    have hby0 := Int.fmod_nonneg_of_pos (k.fdiv 8) (b := 255) (by decide)
    have hby1 := Int.fmod_lt_of_pos (k.fdiv 8) (b := 255) (by decide)
    have hm0 := Int.fmod_nonneg_of_pos k (b := 8) (by decide)
    have hm1 := Int.fmod_lt_of_pos k (b := 8) (by decide)
    have hbl : byOf k < 255 := by unfold byOf; omega
    refine execsN_cons (setCN (s := { s with heap := g2, toks := tk2 }) G2 ((ev_mod (ev_fdiv (evI_loc G2 (by k_mem) (L.kL _ rfl)) ev_int (by decide) (PyProof.noPylong_small (by decide))) ev_int (by decide)).eqI (show _ = ((byOf k : Nat) : Int) by unfold byOf; omega)) (L.kC _ rfl) L.cBy fun v g3 tk3 hv G3' => ⟨rfl, ?_⟩)
    obtain ⟨tb, rfl⟩ := hv
    have G3 := G3'.subV (l' := [(Str.ofString "checks", .int n tc), (Str.ofString "first", .int sa.first tf), (Str.ofString "step", .int sa.step ts), (Str.ofString "size", .int sa.size tz), (Str.ofString "powers", .ref P), (Str.ofString "logs", .ref Lg), (Str.ofString "word", .ref Wd), (Str.ofString "kind", .int (k.fmod 8) t2), (Str.ofString "by", .int (byOf k) tb)]) (by
      intro p hp
      simp only [List.mem_cons, List.not_mem_nil, or_false] at hp
      rcases hp with rfl | rfl | rfl | rfl | rfl | rfl | rfl | rfl | rfl <;> k_mem)
    clear G G1 G2 G3'
    -- the check behind the kinds
    have fin : ∀ (l' : Vars) (os' : Objs) (g' : Heap) (tk' : Nat) (D : Addr) (vs : List Value) (c' : Nat) (tf' ts' tz' : Tok), Frm env h₂ g' l' ((D, lsObj vs c') :: os') → IntsAre vs (toI sb.word) →
        (Str.ofString "checks", .int n tc) ∈ l' → (Str.ofString "first", .int sb.first tf') ∈ l' → (Str.ofString "step", .int sb.step ts') ∈ l' → (Str.ofString "size", .int sb.size tz') ∈ l' → (Str.ofString "powers", .ref P) ∈ l' → (Str.ofString "logs", .ref Lg) ∈ l' → (Str.ofString "word", .ref D) ∈ l' →
        wpN w A (execs [.If (.Compare (.Call (.Name (Str.ofString "list") ⟨111, 11, 111, 15⟩) [.Call (.Name (Str.ofString "rs_encode_msg") ⟨111, 16, 111, 29⟩) [.Call (.Name (Str.ofString "bytearray") ⟨111, 30, 111, 39⟩) [.Subscript (.Name (Str.ofString "word") ⟨111, 40, 111, 44⟩) (.Slice none (some (.Name (Str.ofString "size") ⟨111, 46, 111, 50⟩)) none ⟨111, 45, 111, 50⟩) ⟨111, 40, 111, 51⟩] [] ⟨111, 30, 111, 52⟩, .Name (Str.ofString "checks") ⟨111, 54, 111, 60⟩, .Name (Str.ofString "first") ⟨111, 62, 111, 67⟩, .Subscript (.Name (Str.ofString "powers") ⟨111, 69, 111, 75⟩) (.Name (Str.ofString "step") ⟨111, 76, 111, 80⟩) ⟨111, 69, 111, 81⟩] [] ⟨111, 16, 111, 82⟩] [] ⟨111, 11, 111, 83⟩) [.NotEq] [.Name (Str.ofString "word") ⟨111, 87, 111, 91⟩] ⟨111, 11, 111, 91⟩) [.Return (some (.Constant (.bool false) 0 ⟨112, 19, 112, 24⟩)) ⟨112, 12, 112, 24⟩] [] ⟨111, 8, 112, 24⟩] env)
          (fun f s₃ => f = .next ∧ ∃ h' tk' l' os', s₃ = { s with heap := h', toks := tk' } ∧ Frm env h₂ h' l' os' ∧ ∃ tf ts tz Wd wvs c, l' = [(Str.ofString "checks", .int n tc), (Str.ofString "first", .int sb.first tf), (Str.ofString "step", .int sb.step ts), (Str.ofString "size", .int sb.size tz), (Str.ofString "powers", .ref P), (Str.ofString "logs", .ref Lg), (Str.ofString "word", .ref Wd)] ∧ os' = [(Wd, lsObj wvs c)] ∧ IntsAre wvs (toI sb.word)) { s with heap := g', toks := tk' } := by
      intro l' os' g' tk' D vs c' tf' ts' tz' K iD mc mf ms mz mp mg mw
      refine execsN_one (checkT (s := { s with heap := g', toks := tk' }) (wvs := vs) (word := sb.word) L W2 K hh hroom hu mc mf ms mz mp mw hP2 iP ⟨_, K.get (List.mem_cons_self ..), rfl, _, rfl⟩ iD I1.lt l1 I1.slt hn I1.enc fun g5 tk5 K5 => ⟨rfl, g5, tk5, _, _, rfl, (K5.subV ?_).subO ?_, tf', ts', tz', D, vs, c', rfl, rfl, iD⟩)
      · intro p hp
        simp only [List.mem_cons, List.not_mem_nil, or_false] at hp
        rcases hp with rfl | rfl | rfl | rfl | rfl | rfl | rfl <;> assumption
      · exact List.Sublist.cons₂ _ (List.nil_sublist _)
    have ls : (toI sa.word).length = sa.word.length := by simp [toI]
    have hlW : ∀ {g' l' os'}, Frm env h₂ g' l' ((Wd, lsObj wvs c) :: os') → g'.IsList Wd wvs.toArray := fun K => ⟨_, K.get (List.mem_cons_self ..), rfl, _, rfl⟩
    obtain ⟨b3, B3, kb3, oW⟩ := G3.freeze
    have W3 := W2.keeps kb3
    have hP3 : b3.IsList P pvs.toArray := hP2.at fun o e => kb3 _ o e
    have hG3 : b3.IsList Lg gvs.toArray := hG2.at fun o e => kb3 _ o e
    have hW3 : b3.IsList Wd wvs.toArray := ⟨_, oW, rfl, _, rfl⟩
    have test : ∀ (j : Int) (p1 p2 p3 : Pos), EvB w A env g3 (.Compare (.Name (Str.ofString "kind") p1) [.Eq] [.Constant (.int j) 0 p2] p3) (k.fmod 8 == j) := fun j p1 p2 p3 => evB_eq (evI_loc G3 (by k_mem) (L.kL _ rfl)) ev_int
    refine execsN_cons (ifN (testN (s := { s with heap := g3, toks := tk3 }) (h := g3) (test _ _ _ _) fun tk4 => ?_))
    have kWord : env.kindOf (Str.ofString "word") = some .local := L.kL _ rfl
    by_cases h0 : k.fmod 8 = 0
    · rw [if_pos (by rw [h0]; rfl)]
      rw [turnS_0 h0] at up
      refine execsN_cons (kind0a (s := { s with heap := g3, toks := tk4 }) (size := sa.size) (b := byOf k) L W3 B3 hh hroom (by k_mem) (by k_mem) (by k_mem) (by k_mem) (by k_mem) (by k_mem) (by k_mem) hP3 iP hW3 iW l0 I0.slt hn rfl fun a g5 tk5 K5 => ⟨rfl, ?_⟩)
      obtain ⟨b5, K6, kb5, oO⟩ := K5.freeze
      refine execsN_one (wpAny.n (kind0b (s := { s with heap := g5, toks := tk5 }) L (W3.keeps kb5) K6 hh (by k_mem) (by k_mem) oO ?_ (hW3.at fun o e => kb5 _ o e) iW l0 ?_ fun D g7 tk7 vs c' K7 iD => ⟨rfl, ?_⟩))
      · have e1 := encW_len sa.step sa.first n ((sa.word.take sa.size).map fun o => (o + byOf k + 1) % 256)
        simp only [encW, List.length_map, Array.length_toList, List.length_take] at e1
        have := I0.len
        omega
      · simp only [swapsWith, Env.blockKind, hk, kWord]; rfl
      refine fin _ _ _ _ D vs c' tf ts tz (K7.base fun b o e => kb5 _ _ (kb3 _ _ e)) (by rw [up]; exact iD) ?_ ?_ ?_ ?_ ?_ ?_ ?_ <;> first | (simp only [up]; k_mem) | k_mem
    rw [if_neg (by simpa using h0)]
    refine execsN_one (ifN (testN (s := { s with heap := g3, toks := tk4 }) (h := g3) (test _ _ _ _) fun tk4 => ?_))
    by_cases h1 : k.fmod 8 = 1
    · rw [if_pos (by rw [h1]; rfl)]
      rw [turnS_1 h1] at up
      refine execsN_one (wpAny.n (kind1 (s := { s with heap := g3, toks := tk4 }) L B3 hh (by k_mem) (by k_mem) (by k_mem) (by k_mem) hP3 iP hG3 iG hr hW3 iW I0.lt l0 ?_ fun D g7 tk7 vs c' K7 iD => ⟨rfl, ?_⟩))
      · simp only [swapsWith, Env.blockKind, hk, kWord]; rfl
      refine fin _ _ _ _ D vs c' tf ts tz (K7.base kb3) (by rw [up]; exact iD) ?_ ?_ ?_ ?_ ?_ ?_ ?_ <;> first | (simp only [up]; k_mem) | k_mem
    rw [if_neg (by simpa using h1)]
    refine execsN_one (ifN (testN (s := { s with heap := g3, toks := tk4 }) (h := g3) (test _ _ _ _) fun tk4 => ?_))
    by_cases h2 : k.fmod 8 = 2
    · rw [if_pos (by rw [h2]; rfl)]
      rw [turnS_2 h2] at up
      have hb8 : ((byOf k : Nat) : Int).fmod 8 = ((byOf k % 8 : Nat) : Int) := by rw [Int.fmod_eq_emod_of_nonneg _ (by decide)]; omega
      refine execsN_cons (setCN (s := { s with heap := g3, toks := tk4 }) B3 ((ev_pow ev_int (ev_mod ((ev_cell B3 (v := .int (byOf k) tb) (by k_mem) (L.kC _ rfl) L.cBy).toI ⟨_, rfl⟩) ev_int (by decide)) (by omega) (by omega) (by decide)).eqI (show _ = ((2 ^ (byOf k % 8) : Nat) : Int) by rw [hb8, Int.toNat_natCast]; push_cast; rfl)) (L.kC _ rfl) L.cPower fun v g5 tk5 hv K5 => ⟨rfl, ?_⟩)
      obtain ⟨t5, rfl⟩ := hv
      refine execsN_cons (wpAny.n (kind2 (s := { s with heap := g5, toks := tk5 }) L K5 hh (by k_mem) (by k_mem) (by k_mem) (by k_mem) hP3 iP hG3 iG hr hW3 iW I0.lt l0 ?_ fun D g7 tk7 vs c' K7 iD => ⟨rfl, ?_⟩))
      · simp only [swapsWith, Env.blockKind, hk, kWord]; rfl
      have hsl := I0.slt
      refine execsN_one (setCN (s := { s with heap := g7, toks := tk7 }) K7 ((ev_mod (ev_mul ((ev_cell K7 (v := .int sa.step ts) (by k_mem) (L.kC _ rfl) L.cStep).toI ⟨_, rfl⟩) ((ev_cell K7 (v := .int ((2 ^ (byOf k % 8) : Nat) : Int) t5) (by k_mem) (L.kC _ rfl) L.cPower).toI ⟨_, rfl⟩) (.of_left (bits_small (by omega)))) ev_int (by decide)).eqI (show _ = ((sa.step * 2 ^ (byOf k % 8) % 255 : Nat) : Int) by rw [Int.fmod_eq_emod_of_nonneg _ (by decide)]; push_cast; rfl)) (L.kC _ rfl) L.cStep fun v g8 tk8 hv K8 => ⟨rfl, ?_⟩)
      obtain ⟨t8, rfl⟩ := hv
      refine fin _ _ _ _ D vs c' tf t8 tz (K8.base kb3) (by rw [up]; exact iD) ?_ ?_ ?_ ?_ ?_ ?_ ?_ <;> first | (simp only [up]; k_mem) | k_mem
    rw [if_neg (by simpa using h2)]
    refine execsN_one (ifN (testN (s := { s with heap := g3, toks := tk4 }) (h := g3) (test _ _ _ _) fun tk4 => ?_))
    by_cases h3 : k.fmod 8 = 3
    · rw [if_pos (by rw [h3]; rfl)]
      rw [turnS_3 h3] at up
      refine execsN_cons (assignN (wpAny.n (sliceRev (s := { s with heap := g3, toks := tk4 }) (ev_loc B3 (by k_mem) (L.kL _ rfl)) (ev_neg ev_int) (hW3.at fun o e => B3.keep _ o e) iW (by rw [sizeLine_eq, ls]; omega) fun D g5 tk5 vs c' k5 n5 o5 i5 => ?_)))
      refine wpAny.n (st_loc (s := { s with heap := g5, toks := tk5 }) (B3.new k5 n5 o5) (L.kL _ rfl) fun g6 tk6 K6 => ⟨rfl, ?_⟩)
      refine execsN_one (setN (s := { s with heap := g6, toks := tk6 }) K6 (ev_sub (ev_sub ev_int (evI_loc K6 (n := n) (t := tc) (by k_mem) (L.kL _ rfl))) (evI_loc K6 (n := sa.first) (t := tf) (by k_mem) (L.kL _ rfl))) (L.kL _ rfl) fun v g8 tk8 hv K8 => ⟨rfl, ?_⟩)
      obtain ⟨t8, rfl⟩ := hv
      refine fin _ _ _ _ D vs c' t8 ts tz (K8.base kb3) (by rw [up]; simpa [toI] using i5) ?_ ?_ ?_ ?_ ?_ ?_ ?_ <;> first | (simp only [up]; k_mem) | k_mem
    rw [if_neg (by simpa using h3)]
    refine execsN_one (ifN (testN (s := { s with heap := g3, toks := tk4 }) (h := g3) (test _ _ _ _) fun tk4 => ?_))
    by_cases h4 : k.fmod 8 = 4
    · rw [if_pos (by rw [h4]; rfl)]
      rw [turnS_4 h4] at up
      refine execsN_cons (setCN (s := { s with heap := g3, toks := tk4 }) B3 ((ev_sub (ev_lenL (ev_bl (W3.keeps B3.keep).W.g (by decide) boot_len (L.kG _ rfl) L.kd L.gl L.bl) (ev_loc B3 (by k_mem) (L.kL _ rfl)) (hW3.at fun o e => B3.keep _ o e) (by rw [sizeLine_eq, List.size_toArray, iW.length, ls]; omega)) ev_int).eqI (show _ = (sa.word.length : Int) - 1 by rw [List.size_toArray, iW.length, ls])) (L.kC _ rfl) L.cBehind fun v g5 tk5 hv K5 => ⟨rfl, ?_⟩)
      obtain ⟨t5, rfl⟩ := hv
      refine execsN_cons (wpAny.n (kind4 (s := { s with heap := g5, toks := tk5 }) L W3 K5 hh (by k_mem) (by k_mem) (by k_mem) (by k_mem) (by k_mem) (by k_mem) hP3 iP hG3 iG hr hW3 iW I0.lt l0 I0.slt ?_ fun D g7 tk7 vs c' K7 iD => ⟨rfl, ?_⟩))
      · simp only [swapsWith, Env.blockKind, hk, kWord]; rfl
      refine execsN_one (setN (s := { s with heap := g7, toks := tk7 }) K7 (ev_sub (evI_loc K7 (n := sa.first) (t := tf) (by k_mem) (L.kL _ rfl)) ((ev_cell K7 (v := .int (byOf k) tb) (by k_mem) (L.kC _ rfl) L.cBy).toI ⟨_, rfl⟩)) (L.kL _ rfl) fun v g8 tk8 hv K8 => ⟨rfl, ?_⟩)
      obtain ⟨t8, rfl⟩ := hv
      refine fin _ _ _ _ D vs c' t8 ts tz (K8.base kb3) (by rw [up]; exact iD) ?_ ?_ ?_ ?_ ?_ ?_ ?_ <;> first | (simp only [up]; k_mem) | k_mem
    rw [if_neg (by simpa using h4)]
    refine execsN_one (ifN (testN (s := { s with heap := g3, toks := tk4 }) (h := g3) (test _ _ _ _) fun tk4 => ?_))
    by_cases h5 : k.fmod 8 = 5
    · rw [if_pos (by rw [h5]; rfl)]
      rw [turnS_5 h5] at up
      have hsl := I0.slt
      refine execsN_cons (setCN (s := { s with heap := g3, toks := tk4 }) G3 ((ev_mod (ev_neg ((ev_cell G3 (v := .int sa.step ts) (by k_mem) (L.kC _ rfl) L.cStep).toI ⟨_, rfl⟩)) ev_int (by decide)).eqI (show _ = (((255 - sa.step) % 255 : Nat) : Int) by rw [Int.fmod_eq_emod_of_nonneg _ (by decide)]; omega)) (L.kC _ rfl) L.cStep fun v g5 tk5 hv K5 => ⟨rfl, ?_⟩)
      obtain ⟨t5, rfl⟩ := hv
      refine execsN_one (setN (s := { s with heap := g5, toks := tk5 }) K5 (ev_sub (ev_sub ev_int (evI_loc K5 (n := n) (t := tc) (by k_mem) (L.kL _ rfl))) (evI_loc K5 (n := sa.first) (t := tf) (by k_mem) (L.kL _ rfl))) (L.kL _ rfl) fun v g8 tk8 hv K8 => ⟨rfl, ?_⟩)
      obtain ⟨t8, rfl⟩ := hv
      refine fin _ _ _ _ Wd wvs c t8 t5 tz K8 (by rw [up]; exact iW) ?_ ?_ ?_ ?_ ?_ ?_ ?_ <;> first | (simp only [up]; k_mem) | k_mem
    rw [if_neg (by simpa using h5)]
    refine execsN_one (ifN (testN (s := { s with heap := g3, toks := tk4 }) (h := g3) (test _ _ _ _) fun tk4 => ?_))
    by_cases h6 : k.fmod 8 = 6
    · rw [if_pos (by rw [h6]; rfl)]
      rw [turnS_6 h6] at up
      refine execsN_cons (assignN (binN (Ev.useN (s := { s with heap := g3, toks := tk4 }) (ev_loc B3 (by k_mem) (L.kL _ rfl)) fun v tk5 hv => ?_)))
      cases hv
      refine wpAny.n (consts (s := { s with heap := g3, toks := tk5 }) [(0, 0, ⟨106, 27, 106, 28⟩)] rfl (by rw [sizeLine_eq]; decide) fun D1 g5 tk6 vs1 c1 k5 n5 o5 i5 => ?_)
      have K5 := B3.keeps k5
      refine wpAny.n (addL (s := { s with heap := g5, toks := tk6 }) (vs := wvs) (ws := vs1) (hW3.at fun o e => K5.keep _ o e) ⟨_, o5, rfl, _, rfl⟩ iW i5 (by rw [sizeLine_eq]; simp [ls]; omega) fun D g6 tk7 vs c' k6 n6 o6 i6 => ?_)
      refine wpAny.n (st_loc (s := { s with heap := g6, toks := tk7 }) (K5.new k6 n6 o6) (L.kL _ rfl) fun g7 tk8 K7 => ⟨rfl, ?_⟩)
      refine execsN_one (setN (s := { s with heap := g7, toks := tk8 }) K7 ((ev_add (evI_loc K7 (n := sa.size) (t := tz) (by k_mem) (L.kL _ rfl)) ev_int).eqI (show _ = ((sa.size + 1 : Nat) : Int) by omega)) (L.kL _ rfl) fun v g8 tk9 hv K8 => ⟨rfl, ?_⟩)
      obtain ⟨t8, rfl⟩ := hv
      refine fin _ _ _ _ D vs c' tf ts t8 (K8.base kb3) (by rw [up]; simpa [toI] using i6) ?_ ?_ ?_ ?_ ?_ ?_ ?_ <;> first | (simp only [up]; k_mem) | k_mem
    rw [if_neg (by simpa using h6)]
    have h7 : k.fmod 8 = 7 := by omega
    rw [turnS_7 h7] at up
    refine execsN_cons (assignN (binN (wpAny.n (consts (s := { s with heap := g3, toks := tk4 }) [(0, 0, ⟨109, 20, 109, 21⟩)] rfl (by rw [sizeLine_eq]; decide) fun D1 g5 tk6 vs1 c1 k5 n5 o5 i5 => ?_))))
    have K5 := B3.keeps k5
    refine Ev.useN (s := { s with heap := g5, toks := tk6 }) (ev_loc K5 (by k_mem) (L.kL _ rfl)) fun v tk5 hv => ?_
    cases hv
    refine wpAny.n (addL (s := { s with heap := g5, toks := tk5 }) (vs := vs1) (ws := wvs) ⟨_, o5, rfl, _, rfl⟩ (hW3.at fun o e => K5.keep _ o e) i5 iW (by rw [sizeLine_eq]; simp [ls]; omega) fun D g6 tk7 vs c' k6 n6 o6 i6 => ?_)
    refine wpAny.n (st_loc (s := { s with heap := g6, toks := tk7 }) (K5.new k6 n6 o6) (L.kL _ rfl) fun g7 tk8 K7 => ⟨rfl, ?_⟩)
    refine execsN_one (setN (s := { s with heap := g7, toks := tk8 }) K7 ((ev_add (evI_loc K7 (n := sa.size) (t := tz) (by k_mem) (L.kL _ rfl)) ev_int).eqI (show _ = ((sa.size + 1 : Nat) : Int) by omega)) (L.kL _ rfl) fun v g8 tk9 hv K8 => ⟨rfl, ?_⟩)
    obtain ⟨t8, rfl⟩ := hv
    refine fin _ _ _ _ D vs c' tf ts t8 (K8.base kb3) (by rw [up]; simpa [toI] using i6) ?_ ?_ ?_ ?_ ?_ ?_ ?_ <;> first | (simp only [up]; k_mem) | k_mem
  · rintro g tk l os G ⟨tf, ts, tz, Wd, wvs, c, rfl, rfl, iW⟩
    refine ⟨rfl, ?_⟩
    obtain ⟨b2, G2, kb, oW⟩ := G.freeze
    refine hQ b2 g tk Wd wvs tf ts (fun b o e => kb _ _ (kb1 _ _ e)) ⟨_, oW, rfl, _, rfl⟩ iW (G2.subV ?_)
    intro p hp
    simp only [List.mem_cons, List.not_mem_nil, or_false] at hp
    rcases hp with rfl | rfl | rfl | rfl | rfl | rfl <;> k_mem
end
end Mine
end

/-! part LM -/
section
open PySem PySem.W PyProof.Rows
namespace Mine
local macro_rules | `(tactic| k_mem) => `(tactic| (refine mem_filter_ne ?_ (by decide); k_mem))

/-- the first word and what it was made by -/
def st0 (ns : List Int) : LSt := { word := encW (startOf ns).step (startOf ns).first (startOf ns).checks (msgOf (startOf ns).later (startOf ns).size), first := (startOf ns).first, step := (startOf ns).step, size := (startOf ns).size }
/-- what law's walk asks of the plain state -/
structure Plain (ns : List Int) : Prop where
  inv : ∀ i, i ≤ ((startOf ns).later.take 5).length → Inv (startOf ns).checks (stAt (startOf ns).checks (st0 ns) ((startOf ns).later.take 5) i) ∧ (stAt (startOf ns).checks (st0 ns) ((startOf ns).later.take 5) i).word.length ≤ 100
  tot : ∀ t, t < (startOf ns).checks → totUp (stAt (startOf ns).checks (st0 ns) ((startOf ns).later.take 5) ((startOf ns).later.take 5).length).word (stAt (startOf ns).checks (st0 ns) ((startOf ns).later.take 5) ((startOf ns).later.take 5).length).step
    ((stAt (startOf ns).checks (st0 ns) ((startOf ns).later.take 5) ((startOf ns).later.take 5).length).first + t) (stAt (startOf ns).checks (st0 ns) ((startOf ns).later.take 5) ((startOf ns).later.take 5).length).word.length = 0
theorem start_checks (ns : List Int) : 1 ≤ (startOf ns).checks ∧ (startOf ns).checks ≤ 4 := by
  have h1 := Int.fmod_lt_of_pos ((numsOf' ns).getD 0 0) (b := 4) (by decide)
  have h2 := Int.fmod_nonneg_of_pos ((numsOf' ns).getD 0 0) (b := 4) (by decide)
  simp only [startOf]; omega
theorem start_size (ns : List Int) : 1 ≤ (startOf ns).size ∧ (startOf ns).size ≤ 8 := by
  have h1 := Int.fmod_lt_of_pos ((numsOf' ns).getD 3 0) (b := 8) (by decide)
  have h2 := Int.fmod_nonneg_of_pos ((numsOf' ns).getD 3 0) (b := 8) (by decide)
  simp only [startOf]; omega
theorem start_step (ns : List Int) : (startOf ns).step < 255 ∧ Nat.gcd (startOf ns).step 255 = 1 := by
  have h1 := Int.fmod_lt_of_pos ((numsOf' ns).getD 2 0) (b := 8) (by decide)
  have h2 := Int.fmod_nonneg_of_pos ((numsOf' ns).getD 2 0) (b := 8) (by decide)
  have key : ∀ i : Nat, i < 8 → (gens8.getD i 0).toNat < 255 ∧ Nat.gcd (gens8.getD i 0).toNat 255 = 1 := by decide
  simp only [startOf]
  exact key _ (by omega)
theorem start_later (ns : List Int) : 5 ≤ (startOf ns).later.length ∧ (startOf ns).later.length ≤ 20 := by
  have := numsOf_len ns
  simp only [startOf, List.length_drop]; omega

section
variable {w : World} {A : Around} {env : Env} {h h₁ : Heap} {l : Vars} {os : Objs} {gl : Vars} {eB lB : Array UInt8} {s : Shared} {E : Value → Shared → Prop}
theorem law_spec {f a : Addr} {vs : List Value} {ns : List Int} {Q : Value → Shared → Prop} (W : World2 gl eB lB s.heap) (hf : FnAt s.heap dLaw f) (hroom : A.depth + 6 < recursionLimit) (hh : A.handled = none) (hu : A.units + 3 < cLine)
    (ha : s.heap.IsList a vs.toArray) (hi : IntsAre vs ns) (hlen : ns.length ≤ 100) (pl : Plain ns)
    (hQ : ∀ h' tk, (∀ b o, s.heap.get? b = some o → h'.get? b = some o) → Q (.bool true) { s with heap := h', toks := tk }) : wpN w A (call (.ref f) [.ref a]) Q s := by
  refine callD (binds := [("script", .ref a)]) W.W.g hf (by omega) (binds_none rfl (fun _ _ _ _ => by kernel_rfl)) (by rfl) (by decide +kernel) (by show (["script"] : List Str).Nodup; decide) (by rfl) (by rfl) (by rfl) fun env h' tk e1 e2 e3 e4 F => ?_
  have L : LE env := ⟨e1, e2, e3, e4, F.kind⟩
  have hroom' : (A.deeper env).depth + 5 < recursionLimit := by show A.depth + 1 + 5 < _; omega
  have hu' : (A.deeper env).units < cLine := hu
  have c1 := start_checks ns
  have z1 := start_size ns
  have s1 := start_step ns
  have l1 := start_later ns
  refine lawA (s := { s with heap := h', toks := tk }) (rest := []) (tk := 0) L W F hh hroom' ha hi hlen fun h₂ h2 tk2 P La pvs lvs tc tf ts tz k2 oP iP oLa iLa F2 => ?_
  refine lawB (s := { s with heap := h2, toks := tk2 }) (ns := []) (La := La) (lvs := []) (V := [(Str.ofString "checks", .int (startOf ns).checks tc), (Str.ofString "first", .int (startOf ns).first tf), (Str.ofString "step", .int (startOf ns).step ts), (Str.ofString "size", .int (startOf ns).size tz), (Str.ofString "later", .ref La)]) L (W.keeps k2) F2 hh oP iP ?_ fun h₃ h3 tk3 Lg gvs r k3 oG iG hr F3 => ?_
  · intro p hp
    simp only [List.mem_cons, List.not_mem_nil, or_false] at hp
    rcases hp with rfl | rfl | rfl | rfl | rfl <;> (dsimp only; decide)
  have W3 := (W.keeps k2).keeps k3
  have oP3 : h₃.IsList P pvs.toArray := oP.at fun o e => k3 _ o e
  have oL3 : h₃.IsList La lvs.toArray := oLa.at fun o e => k3 _ o e
  refine lawC (s := { s with heap := h3, toks := tk3 }) L W3 F3 hh (by omega) hu' oP3 iP oL3 iLa (by omega) (by omega) s1.1 c1.2 z1.2 fun h4 tk4 Wd wvs c iW F4 => ?_
  refine lawD (s := { s with heap := h4, toks := tk4 }) (st := st0 ns) L W3 F4 hh (by omega) hu' oP3 iP oL3 iLa oG iG hr iW c1.2 (by omega) pl.inv fun h₅ h5 tk5 Wd wvs tf ts k5 oW iW F5 => ?_
  obtain ⟨I, wl⟩ := pl.inv _ (Nat.le_refl _)
  refine lawE (s := { s with heap := h5, toks := tk5 }) L (W3.keeps k5) F5 hh (oP3.at fun o e => k5 _ o e) iP (oG.at fun o e => k5 _ o e) iG hr oW iW I.lt wl c1.2 I.slt pl.tot fun h6 tk6 k6 => ?_
  exact hQ h6 tk6 fun b o e => k6 _ _ (k5 _ _ (k3 _ _ (k2 _ _ e)))
end
end Mine
end

/-! part MA -/
section
namespace Mine
/-- a sum of weights by the bits of an octet -/
def lin (v : Nat → Nat) (x : Nat) : Nat → Nat
  | 0 => 0
  | i + 1 => lin v x i ^^^ (if x.testBit i then v i else 0)
theorem xor_swap (a b c d : Nat) : (a ^^^ b) ^^^ (c ^^^ d) = (a ^^^ c) ^^^ (b ^^^ d) := by
  rw [Nat.xor_assoc, ← Nat.xor_assoc b, Nat.xor_comm b c, Nat.xor_assoc c, ← Nat.xor_assoc a]
theorem xor_eq_zero {a b : Nat} (h : a ^^^ b = 0) : a = b := by
  have e : a ^^^ b ^^^ b = b := by rw [h, Nat.zero_xor]
  rwa [Nat.xor_assoc, Nat.xor_self, Nat.xor_zero] at e
theorem lin_xor (v : Nat → Nat) (x y : Nat) : ∀ n, lin v (x ^^^ y) n = lin v x n ^^^ lin v y n
  | 0 => by simp [lin]
  | n + 1 => by
    simp only [lin, lin_xor v x y n, Nat.testBit_xor]
    rw [xor_swap]
    congr 1
    cases x.testBit n <;> cases y.testBit n <;> simp
theorem xt_lin : ∀ x : Fin 256, xt x.val = lin (fun i => if i = 7 then 29 else 2 ^ (i + 1)) x.val 8 := by decide +kernel
theorem oct_xor {a b : Nat} (ha : a < 256) (hb : b < 256) : a ^^^ b < 256 := Nat.xor_lt_two_pow (n := 8) ha hb
theorem xt_xor {a b : Nat} (ha : a < 256) (hb : b < 256) : xt (a ^^^ b) = xt a ^^^ xt b := by
  have h1 := xt_lin ⟨a, ha⟩
  have h2 := xt_lin ⟨b, hb⟩
  have h3 := xt_lin ⟨a ^^^ b, oct_xor ha hb⟩
  simp only at h1 h2 h3
  rw [h1, h2, h3, lin_xor]
theorem xt_zero : xt 0 = 0 := by decide

/-- times two to the k in the field -/
def mu : Nat → Nat → Nat
  | 0, x => x
  | k + 1, x => xt (mu k x)
theorem mu_lt : ∀ (k : Nat) {x : Nat}, x < 256 → mu k x < 256
  | 0, _, h => h
  | k + 1, _, h => xt_lt (mu_lt k h)
theorem mu_zero : ∀ k : Nat, mu k 0 = 0
  | 0 => rfl
  | k + 1 => by rw [mu, mu_zero k, xt_zero]
theorem mu_xor : ∀ (k : Nat) {a b : Nat}, a < 256 → b < 256 → mu k (a ^^^ b) = mu k a ^^^ mu k b
  | 0, _, _, _, _ => rfl
  | k + 1, a, b, ha, hb => by rw [mu, mu_xor k ha hb, xt_xor (mu_lt k ha) (mu_lt k hb)]; rfl
theorem mu_add (j x : Nat) : ∀ k : Nat, mu (k + j) x = mu k (mu j x)
  | 0 => by rw [Nat.zero_add]; rfl
  | k + 1 => by rw [Nat.succ_add_eq_add_succ, Nat.add_succ, mu, mu_add j x k]; rfl
theorem mu_pw (j : Nat) : ∀ k : Nat, mu k (pw j) = pw (j + k)
  | 0 => rfl
  | k + 1 => by rw [mu, mu_pw j k]; rfl
theorem mu_pw' {x : Nat} (hx : x < 256) (h0 : x ≠ 0) (k : Nat) : mu k x = pw (lgn x + k) := by
  rw [← mu_pw, pw_lgn hx h0]
theorem mu_congr {x : Nat} (hx : x < 256) {j k : Nat} (h : j % 255 = k % 255) : mu j x = mu k x := by
  by_cases h0 : x = 0
  · subst h0; rw [mu_zero, mu_zero]
  · rw [mu_pw' hx h0, mu_pw' hx h0, ← pw_mod, ← pw_mod (lgn x + k), Nat.add_mod, h, ← Nat.add_mod]
theorem mu_comm {x : Nat} (j k : Nat) : mu j (mu k x) = mu k (mu j x) := by rw [← mu_add, ← mu_add, Nat.add_comm]
theorem mu_ne {x : Nat} (hx : x < 256) (h0 : x ≠ 0) (k : Nat) : mu k x ≠ 0 := by rw [mu_pw' hx h0]; exact pw_ne _
theorem mu_eq_zero {x k : Nat} (hx : x < 256) (h : mu k x = 0) : x = 0 := Classical.byContradiction fun h0 => mu_ne hx h0 k h
theorem mu_inj {x j k : Nat} (hx : x < 256) (h0 : x ≠ 0) (h : mu j x = mu k x) : j % 255 = k % 255 := by
  rw [mu_pw' hx h0, mu_pw' hx h0, ← pw_mod, ← pw_mod (lgn x + k)] at h
  have := pw_inj (Nat.mod_lt _ (by decide)) (Nat.mod_lt _ (by decide)) h
  have hl := lgn_lt x
  omega

/-- the square in the field, and its turns -/
def sq (x : Nat) : Nat := if x = 0 then 0 else pw (lgn x * 2)
def sqUp : Nat → Nat → Nat → Bool
  | 0, _, _ => true
  | n + 1, x, y => lin (fun i => pw (2 * i)) x 8 == y && sqUp n (xt x) (xt (xt y))
theorem sqUp_pw : ∀ (n i : Nat), sqUp n (pw i) (pw (i * 2)) = true → ∀ j, j < n → lin (fun i => pw (2 * i)) (pw (i + j)) 8 = pw ((i + j) * 2)
  | 0, _, _, _, hj => absurd hj (Nat.not_lt_zero _)
  | n + 1, i, h, j, hj => by
    obtain ⟨h1, h2⟩ := Bool.and_eq_true_iff.mp h
    cases j with
    | zero => exact eq_of_beq h1
    | succ j =>
      have := sqUp_pw n (i + 1) (by rw [show (i + 1) * 2 = i * 2 + 2 by omega]; exact h2) j (by omega)
      rw [show i + (j + 1) = i + 1 + j by omega]; exact this
theorem sqUp_all : sqUp 255 1 1 = true := by decide +kernel
theorem sq_lin (x : Fin 256) : sq x.val = lin (fun i => pw (2 * i)) x.val 8 := by
  obtain ⟨x, hx⟩ := x
  dsimp only
  by_cases h0 : x = 0
  · subst h0; decide +kernel
  · obtain ⟨i, hi, rfl⟩ := pw_surj hx h0
    have := sqUp_pw 255 0 sqUp_all i hi
    rw [Nat.zero_add] at this
    rw [this, sq, if_neg (pw_ne i), lgn_pw hi]
theorem sq_lt (x : Nat) : sq x < 256 := by unfold sq; split; decide; exact pw_lt _
theorem sq_xor {a b : Nat} (ha : a < 256) (hb : b < 256) : sq (a ^^^ b) = sq a ^^^ sq b := by
  have h1 := sq_lin ⟨a, ha⟩
  have h2 := sq_lin ⟨b, hb⟩
  have h3 := sq_lin ⟨a ^^^ b, oct_xor ha hb⟩
  simp only at h1 h2 h3
  rw [h1, h2, h3, lin_xor]
theorem sq_zero : sq 0 = 0 := rfl
theorem lgn_pw_mod (i : Nat) : lgn (pw i) = i % 255 := by rw [← pw_mod, lgn_pw (Nat.mod_lt _ (by decide))]
theorem sq_mu {x : Nat} (hx : x < 256) (k : Nat) : sq (mu k x) = mu (k * 2) (sq x) := by
  by_cases h0 : x = 0
  · subst h0; rw [mu_zero, sq_zero, mu_zero]
  · rw [mu_pw' hx h0, sq, if_neg (pw_ne _), sq, if_neg h0, mu_pw, lgn_pw_mod, ← pw_mod, ← pw_mod (lgn x * 2 + k * 2)]
    congr 1
    omega

/-- the sum at the root two to the k, of the first N -/
def S (k : Nat) : Nat → (Nat → Nat) → Nat
  | 0, _ => 0
  | N + 1, c => mu k (S k N c) ^^^ c N
section
variable {k : Nat} {c d : Nat → Nat}
theorem S_lt : ∀ {N : Nat}, (∀ i, i < N → c i < 256) → S k N c < 256
  | 0, _ => by simp [S]
  | N + 1, h => oct_xor (mu_lt k (S_lt fun i hi => h i (by omega))) (h N (by omega))
theorem S_congr : ∀ {N : Nat}, (∀ i, i < N → c i = d i) → S k N c = S k N d
  | 0, _ => rfl
  | N + 1, h => by rw [S, S, S_congr fun i hi => h i (by omega), h N (by omega)]
theorem S_xor : ∀ {N : Nat}, (∀ i, i < N → c i < 256) → (∀ i, i < N → d i < 256) → S k N (fun i => c i ^^^ d i) = S k N c ^^^ S k N d
  | 0, _, _ => by simp [S]
  | N + 1, h1, h2 => by
    rw [S, S, S, S_xor (fun i hi => h1 i (by omega)) (fun i hi => h2 i (by omega)), mu_xor _ (S_lt fun i hi => h1 i (by omega)) (S_lt fun i hi => h2 i (by omega)), xor_swap]
theorem S_mu (a : Nat) : ∀ {N : Nat}, (∀ i, i < N → c i < 256) → S k N (fun i => mu a (c i)) = mu a (S k N c)
  | 0, _ => by simp [S, mu_zero]
  | N + 1, h => by
    rw [S, S, S_mu a fun i hi => h i (by omega), mu_xor _ (mu_lt _ (S_lt fun i hi => h i (by omega))) (h N (by omega)), mu_comm]
theorem S_zero : ∀ {N : Nat}, (∀ i, i < N → c i = 0) → S k N c = 0
  | 0, _ => rfl
  | N + 1, h => by rw [S, S_zero fun i hi => h i (by omega), h N (by omega), mu_zero]; rfl
theorem S_add (N : Nat) : ∀ {M : Nat}, (∀ i, i < N + M → c i < 256) → S k (N + M) c = mu (k * M) (S k N c) ^^^ S k M (fun i => c (N + i))
  | 0, _ => by simp [S, mu]
  | M + 1, h => by
    rw [← Nat.add_assoc, S, S, S_add N fun i hi => h i (by omega), mu_xor _ (mu_lt _ (S_lt fun i hi => h i (by omega))) (S_lt fun i hi => h _ (by omega)), ← mu_add, Nat.xor_assoc, Nat.mul_add, Nat.mul_one, Nat.add_comm k]
theorem S_root {j : Nat} (hjk : j % 255 = k % 255) : ∀ {N : Nat}, (∀ i, i < N → c i < 256) → S j N c = S k N c
  | 0, _ => rfl
  | N + 1, h => by rw [S, S, S_root hjk fun i hi => h i (by omega), mu_congr (S_lt fun i hi => h i (by omega)) hjk]
theorem S_sq : ∀ {N : Nat}, (∀ i, i < N → c i < 256) → S (k * 2) N (fun i => sq (c i)) = sq (S k N c)
  | 0, _ => rfl
  | N + 1, h => by
    have h1 : S k N c < 256 := S_lt fun i hi => h i (by omega)
    rw [S, S, S_sq fun i hi => h i (by omega), sq_xor (mu_lt _ h1) (h N (by omega)), sq_mu h1]
end

/-- xor of a list -/
def xs : List Nat → Nat
  | [] => 0
  | x :: l => x ^^^ xs l
theorem xs_append : ∀ (l m : List Nat), xs (l ++ m) = xs l ^^^ xs m
  | [], m => by simp [xs]
  | x :: l, m => by rw [List.cons_append, xs, xs, xs_append l m, Nat.xor_assoc]
theorem xs_reverse : ∀ (l : List Nat), xs l.reverse = xs l
  | [] => rfl
  | x :: l => by rw [List.reverse_cons, xs_append, xs_reverse l, xs, xs, xs, Nat.xor_zero, Nat.xor_comm]
theorem xs_lt : ∀ {l : List Nat}, (∀ x ∈ l, x < 256) → xs l < 256
  | [], _ => by simp [xs]
  | x :: l, h => oct_xor (h x (List.mem_cons_self ..)) (xs_lt fun y hy => h y (List.mem_cons_of_mem _ hy))
theorem xs_mu (k : Nat) : ∀ {l : List Nat}, (∀ x ∈ l, x < 256) → mu k (xs l) = xs (l.map (mu k))
  | [], _ => mu_zero k
  | x :: l, h => by
    have h2 : ∀ y ∈ l, y < 256 := fun y hy => h y (List.mem_cons_of_mem _ hy)
    rw [xs, mu_xor k (h x (List.mem_cons_self ..)) (xs_lt h2), xs_mu k h2]; rfl
theorem xs_filter {α : Type} (F : α → Nat) (q : α → Bool) : ∀ (l : List α), (∀ x ∈ l, q x = false → F x = 0) → xs ((l.filter q).map F) = xs (l.map F)
  | [], _ => rfl
  | x :: l, h => by
    have ih := xs_filter F q l fun y hy => h y (List.mem_cons_of_mem _ hy)
    rw [List.filter_cons]
    cases hq : q x with
    | true => simp only [if_true, List.map_cons, xs, ih]
    | false => simp only [Bool.false_eq_true, if_false, List.map_cons, xs, ih, h x (List.mem_cons_self ..) hq, Nat.zero_xor]
/-- the sum as a sum -/
theorem S_xs {k : Nat} {c : Nat → Nat} : ∀ {N : Nat}, (∀ i, i < N → c i < 256) → S k N c = xs ((List.range N).map fun i => mu (k * (N - 1 - i)) (c i))
  | 0, _ => rfl
  | N + 1, h => by
    have hl : ∀ x ∈ (List.range N).map (fun i => mu (k * (N - 1 - i)) (c i)), x < 256 := by
      intro x hx
      obtain ⟨i, hi, rfl⟩ := List.mem_map.mp hx
      exact mu_lt _ (h i (by have := List.mem_range.mp hi; omega))
    rw [S, S_xs fun i hi => h i (by omega), xs_mu k hl, List.range_succ, List.map_append, xs_append, List.map_map]
    congr 1
    · congr 1
      refine List.map_congr_left fun i hi => ?_
      have := List.mem_range.mp hi
      show mu k (mu _ _) = _
      rw [← mu_add]
      congr 1
      rw [show N + 1 - 1 - i = (N - 1 - i) + 1 by omega, Nat.mul_add, Nat.mul_one, Nat.add_comm]
    · simp [xs, mu]

/-- Vandermonde: sums at as many powers as there are places are noughts, so all are noughts -/
theorem vand : ∀ (l : List (Nat × Nat)), (∀ p ∈ l, p.2 < 256) → l.Pairwise (fun p q => p.1 % 255 ≠ q.1 % 255) → (∀ t, t < l.length → xs (l.map fun p => mu (p.1 * t) p.2) = 0) → ∀ p ∈ l, p.2 = 0
  | [], _, _, _ => fun p hp => nomatch hp
  | (a, c) :: l, hlt, hpw, hz => by
    obtain ⟨ha, hpw'⟩ := List.pairwise_cons.mp hpw
    have hc : c < 256 := hlt (a, c) (List.mem_cons_self ..)
    have hl : ∀ p ∈ l, p.2 < 256 := fun p hp => hlt p (List.mem_cons_of_mem _ hp)
    -- the sums of the rest
    have rest : ∀ t, t ≤ l.length → xs (l.map fun p => mu (p.1 * t) p.2) = mu (a * t) c := by
      intro t ht
      have := hz t (by simp only [List.length_cons]; omega)
      simp only [List.map_cons, xs] at this
      exact (xor_eq_zero this).symm
    have hxs : ∀ (l' : List (Nat × Nat)) t, (∀ p ∈ l', p.2 < 256) → xs (l'.map fun p => mu (p.1 * t) (mu p.1 p.2 ^^^ mu a p.2)) = xs (l'.map fun p => mu (p.1 * (t + 1)) p.2) ^^^ mu a (xs (l'.map fun p => mu (p.1 * t) p.2)) := by
      intro l' t hl'
      induction l' with
      | nil => simp [xs, mu_zero]
      | cons q l' ih =>
        have hq := hl' q (List.mem_cons_self ..)
        have hl2 : ∀ p ∈ l', p.2 < 256 := fun p hp => hl' p (List.mem_cons_of_mem _ hp)
        have hx : xs (l'.map fun p => mu (p.1 * t) p.2) < 256 := xs_lt fun x hx => by
          obtain ⟨p, hp, rfl⟩ := List.mem_map.mp hx
          exact mu_lt _ (hl2 p hp)
        simp only [List.map_cons, xs]
        rw [ih hl2, mu_xor _ (mu_lt _ hq) (mu_lt _ hq), mu_xor _ (mu_lt _ hq) hx, ← mu_add, Nat.mul_add, Nat.mul_one, mu_comm (q.1 * t) a, xor_swap]
    have ih := vand (l.map fun p => (p.1, mu p.1 p.2 ^^^ mu a p.2)) (by
        intro p hp
        obtain ⟨q, hq, rfl⟩ := List.mem_map.mp hp
        exact oct_xor (mu_lt _ (hl q hq)) (mu_lt _ (hl q hq))) (by
        rw [List.pairwise_map]; exact hpw') (by
        intro t ht
        rw [List.length_map] at ht
        rw [List.map_map]
        show xs (l.map fun p => mu (p.1 * t) (mu p.1 p.2 ^^^ mu a p.2)) = 0
        rw [hxs l t hl, rest t (by omega), rest (t + 1) (by omega), ← mu_add, Nat.mul_add, Nat.mul_one, Nat.add_comm a, Nat.xor_self])
    have hz' : ∀ p ∈ l, p.2 = 0 := by
      intro p hp
      have := ih _ (List.mem_map.mpr ⟨p, hp, rfl⟩)
      refine Classical.byContradiction fun h0 => ?_
      exact ha p hp (mu_inj (hl p hp) h0 (xor_eq_zero this)).symm
    intro p hp
    rcases List.mem_cons.mp hp with rfl | hp
    · have := rest 0 (Nat.zero_le _)
      rw [Nat.mul_zero] at this
      show c = 0
      have e : xs (l.map fun p => mu (p.1 * 0) p.2) = 0 := by
        have : l.map (fun p => mu (p.1 * 0) p.2) = l.map (fun _ => 0) := List.map_congr_left fun p hp => by rw [hz' p hp, mu_zero]
        rw [this]
        have : ∀ l : List (Nat × Nat), xs (l.map fun _ => 0) = 0 := by
          intro l
          induction l with
          | nil => rfl
          | cons _ _ ih => simp [xs, ih]
        exact this l
      rw [e] at this
      exact this.symm
    · exact hz' p hp
  termination_by l => l.length
end Mine
end

/-! part MB -/
section
open PySem PySem.W PyProof.Rows
namespace Mine

/-- the exponent of a root -/
def rt (e : Nat) (x : Int) : Nat := (((e : Int) * x).fmod 255).toNat
theorem rt_spec (e : Nat) (x : Int) : rt e x < 255 ∧ ∃ q : Int, ((rt e x : Nat) : Int) = (e : Int) * x + 255 * q := by
  have h1 := Int.fmod_nonneg_of_pos ((e : Int) * x) (b := 255) (by decide)
  have h2 := Int.fmod_lt_of_pos ((e : Int) * x) (b := 255) (by decide)
  refine ⟨by unfold rt; omega, -(((e : Int) * x).fdiv 255), ?_⟩
  have h3 := Int.mul_fdiv_add_fmod ((e : Int) * x) 255
  unfold rt
  rw [Int.toNat_of_nonneg h1]
  omega
theorem mod_of {a b : Nat} {q : Int} (h : (a : Int) = b + 255 * q) : a % 255 = b % 255 := by omega
theorem cop_cancel {e a b : Nat} (he : Nat.gcd e 255 = 1) (ha : a < 255) (hb : b < 255) (h : e * a % 255 = e * b % 255) : a = b := by
  have key : ∀ {a b : Nat}, a < 255 → b ≤ a → e * a % 255 = e * b % 255 → a = b := by
    intro a b ha hb h
    have hm : e * b ≤ e * a := Nat.mul_le_mul_left e hb
    have hd : 255 ∣ e * (a - b) := by
      have hd' : ∀ x y : Nat, y ≤ x → x % 255 = y % 255 → 255 ∣ x - y := fun x y h1 h2 => ⟨x / 255 - y / 255, by omega⟩
      rw [Nat.mul_sub]
      exact hd' _ _ hm h
    have hc : Nat.Coprime 255 e := by rw [Nat.coprime_comm]; exact he
    have := Nat.eq_zero_of_dvd_of_lt (hc.dvd_of_dvd_mul_left hd) (by omega)
    omega
  rcases Nat.le_total b a with hle | hle
  · exact key ha hle h
  · exact (key hb hle h.symm).symm

/-- the sums at n roots are noughts -/
def Z (n e : Nat) (f : Int) (N : Nat) (c : Nat → Nat) : Prop := ∀ t : Nat, t < n → S (rt e (f + t)) N c = 0

/-- no word but nought has so few places that are not nought -/
theorem bch {n e N : Nat} {f : Int} {c : Nat → Nat} (hc : ∀ i, i < N → c i < 256) (hN : N ≤ 255) (he : Nat.gcd e 255 = 1) (hz : Z n e f N c) (hn : ((List.range N).filter fun i => c i != 0).length ≤ n) : ∀ i, i < N → c i = 0 := by
  have hf := Int.emod_nonneg f (b := 255) (by decide)
  have hfe := Int.mul_ediv_add_emod f 255
  generalize hfq : f / 255 = fq at hfe
  obtain ⟨f', hf'⟩ := Int.eq_ofNat_of_zero_le hf
  rw [hf'] at hfe
  have mem : ∀ i ∈ (List.range N).filter fun i => c i != 0, i < N ∧ c i ≠ 0 := fun i hi => by
    have := List.mem_filter.mp hi
    exact ⟨List.mem_range.mp this.1, by simpa using this.2⟩
  have key := vand (((List.range N).filter fun i => c i != 0).map fun i => (e * (N - 1 - i), mu (e * f' * (N - 1 - i)) (c i))) ?_ ?_ ?_
  · intro i hi
    refine Classical.byContradiction fun h0 => ?_
    have hm : i ∈ (List.range N).filter fun i => c i != 0 := List.mem_filter.mpr ⟨List.mem_range.mpr hi, by simpa using h0⟩
    exact h0 (mu_eq_zero (hc i hi) (key _ (List.mem_map.mpr ⟨i, hm, rfl⟩)))
  · intro p hp
    obtain ⟨i, hi, rfl⟩ := List.mem_map.mp hp
    exact mu_lt _ (hc i (mem i hi).1)
  · rw [List.pairwise_map]
    have hnd : ((List.range N).filter fun i => c i != 0).Pairwise (· ≠ ·) := (List.nodup_range (n := N)).filter _
    refine hnd.imp_of_mem fun {i j} hi hj hne h => hne ?_
    have := cop_cancel he (by have := (mem i hi).1; omega) (by have := (mem j hj).1; omega) h
    have h1 := (mem i hi).1
    have h2 := (mem j hj).1
    omega
  · intro t ht
    rw [List.length_map] at ht
    rw [List.map_map]
    have hs := hz t (by omega)
    rw [S_xs hc, ← xs_filter _ (fun i => c i != 0)] at hs
    · refine Eq.trans ?_ hs
      congr 1
      refine List.map_congr_left fun i hi => ?_
      show mu (e * (N - 1 - i) * t) (mu (e * f' * (N - 1 - i)) (c i)) = _
      rw [← mu_add]
      refine mu_congr (hc i (mem i hi).1) ?_
      obtain ⟨q, hq⟩ := (rt_spec e (f + t)).2
      generalize N - 1 - i = p
      refine (mod_of (q := ((e : Int) * fq + q) * p) ?_).symm
      push_cast
      rw [hq]
      grind
    · intro i _ h0
      have : c i = 0 := by simpa using h0
      rw [this, mu_zero]

/-- an octet of an array -/
def oct (a : Array UInt8) (i : Nat) : Nat := a[i]!.toNat
theorem oct_lt (a : Array UInt8) (i : Nat) : oct a i < 256 := a[i]!.toNat_lt
theorem oct_set (r : Array UInt8) (i p x : Nat) (hi : i < r.size) (hx : x < 256) : oct (r.setIfInBounds i x.toUInt8) p = if p = i then x else oct r p := by
  unfold oct
  rw [getElem!_def, getElem!_def, Array.getElem?_setIfInBounds]
  by_cases h : p = i
  · subst h; simp only [if_true, if_pos hi]; exact u8 hx
  · rw [if_neg (Ne.symm h), if_neg h]
theorem oct_rep (n p : Nat) : oct (Array.replicate n 0) p = 0 := by
  unfold oct
  rw [getElem!_def, Array.getElem?_replicate]
  by_cases h : p < n
  · simp [h]
  · rw [if_neg h]; rfl

/-- a row of the product -/
theorem row_at (b : Array UInt8) (lq j : Nat) (r : Array UInt8) : ∀ m, m ≤ b.size → j + m ≤ r.size → ∀ p,
    oct ((List.range m).foldl (stepA b lq j) r) p = if j ≤ p ∧ p < j + m then oct r p ^^^ mu lq (oct b (p - j)) else oct r p
  | 0, _, _, p => by rw [if_neg (by omega)]; rfl
  | m + 1, hm, hj, p => by
    rw [range_fold_succ]
    have ih := row_at b lq j r m (by omega) (by omega)
    have hs := fold_size b lq j (List.range m) r
    generalize (List.range m).foldl (stepA b lq j) r = r' at *
    have hv : oct (stepA b lq j r' m) p = if p = m + j then oct r' p ^^^ mu lq (oct b m) else oct r' p := by
      unfold stepA
      by_cases h0 : b[m]!.toNat = 0
      · rw [if_pos h0]
        have : oct b m = 0 := h0
        rw [this, mu_zero, Nat.xor_zero, ite_self]
      · rw [if_neg h0]
        show oct (r'.setIfInBounds (m + j) (oct r' (m + j) ^^^ pw (lgn (oct b m) + lq)).toUInt8) p = _
        rw [oct_set _ _ _ _ (by omega) (oct_xor (oct_lt _ _) (pw_lt _))]
        by_cases hp : p = m + j
        · rw [if_pos hp, if_pos hp, mu_pw' (oct_lt b m) h0, hp]
        · rw [if_neg hp, if_neg hp]
    rw [hv, ih p]
    by_cases hp : p = m + j
    · subst hp
      rw [if_pos rfl, if_neg (by omega), if_pos (by omega), show m + j - j = m by omega]
    · rw [if_neg hp]
      by_cases h1 : j ≤ p ∧ p < j + m
      · rw [if_pos h1, if_pos (by omega)]
      · rw [if_neg h1, if_neg (by omega)]
theorem poly_at (b : Array UInt8) (k : Nat) (hk : k < 255) (p : Nat) : oct (polyA b [1, pw k]) p = (if p < b.size then oct b p else 0) ^^^ (if 1 ≤ p ∧ p < 1 + b.size then mu k (oct b (p - 1)) else 0) := by
  have e : polyA b [1, pw k] = rowA b (pw k) 1 (rowA b 1 0 (Array.replicate (b.size + 1) 0)) := rfl
  have l1 : lgn 1 = 0 := lgn_pw (i := 0) (by decide)
  have e1 : rowA b 1 0 (Array.replicate (b.size + 1) 0) = (List.range b.size).foldl (stepA b 0 0) (Array.replicate (b.size + 1) 0) := by rw [rowA, if_neg (by decide), l1]
  have hs : (rowA b 1 0 (Array.replicate (b.size + 1) 0)).size = b.size + 1 := by rw [rowA_size]; simp
  rw [e, rowA, if_neg (pw_ne k), lgn_pw hk, row_at _ _ _ _ _ (Nat.le_refl _) (by omega), e1, row_at _ _ _ _ _ (Nat.le_refl _) (by simp), oct_rep]
  simp only [Nat.zero_xor, Nat.zero_add, Nat.sub_zero, Nat.zero_le, true_and, mu]
  by_cases h : 1 ≤ p ∧ p < 1 + b.size
  · rw [if_pos h, if_pos h]
  · rw [if_neg h, if_neg h, Nat.xor_zero]

theorem gen_head (e : Nat) (f : Int) : ∀ n, oct (genA e f n) 0 = 1
  | 0 => rfl
  | n + 1 => by
    rw [genA]
    have hm := (rt_spec e ((n : Int) + f)).1
    unfold rt at hm
    rw [poly_at _ _ hm, if_pos (by rw [genA_size]; omega), if_neg (by omega), gen_head e f n]
    rfl
theorem gen_root (e : Nat) (f : Int) : ∀ n, Z n e f (n + 1) (oct (genA e f n))
  | 0 => fun t ht => absurd ht (Nat.not_lt_zero t)
  | n + 1 => by
    intro t ht
    have hm := (rt_spec e ((n : Int) + f)).1
    have hsz := genA_size e f n
    have hkn : rt e ((n : Int) + f) = rt e (f + n) := by rw [Int.add_comm]
    have hat : ∀ i, i < n + 1 + 1 → oct (genA e f (n + 1)) i = (if i < n + 1 then oct (genA e f n) i else 0) ^^^ (if 1 ≤ i then mu (rt e (f + n)) (oct (genA e f n) (i - 1)) else 0) := by
      intro i hi
      rw [genA]
      refine (poly_at _ _ hm i).trans ?_
      show _ ^^^ (if _ then mu (rt e ((n : Int) + f)) _ else 0) = _
      rw [hsz, hkn]
      congr 1
      by_cases h : 1 ≤ i
      · rw [if_pos (by omega), if_pos h]
      · rw [if_neg (by omega), if_neg h]
    have hX : ∀ i, i < n + 1 → oct (genA e f n) i < 256 := fun i _ => oct_lt _ _
    rw [S_congr hat, S_xor]
    · have s1 : S (rt e (f + t)) (n + 1 + 1) (fun i => if i < n + 1 then oct (genA e f n) i else 0) = mu (rt e (f + t)) (S (rt e (f + t)) (n + 1) (oct (genA e f n))) := by
        rw [S, if_neg (Nat.lt_irrefl _), Nat.xor_zero]
        congr 1
        exact S_congr fun i hi => if_pos hi
      have s2 : S (rt e (f + t)) (n + 1 + 1) (fun i => if 1 ≤ i then mu (rt e (f + n)) (oct (genA e f n) (i - 1)) else 0) = mu (rt e (f + n)) (S (rt e (f + t)) (n + 1) (oct (genA e f n))) := by
        rw [Nat.add_comm (n + 1) 1, S_add 1]
        · rw [S_zero (N := 1) (fun i hi => if_neg (by omega)), mu_zero, Nat.zero_xor, ← S_mu _ hX]
          refine S_congr fun i hi => ?_
          simp only [Nat.le_add_right, if_true, Nat.add_sub_cancel_left]
        · intro i hi
          split
          · exact mu_lt _ (oct_lt _ _)
          · decide
      rw [s1, s2]
      by_cases htn : t = n
      · subst htn; exact Nat.xor_self _
      · rw [gen_root e f n t (by omega), mu_zero, mu_zero]; rfl
    · intro i hi
      split
      · exact oct_lt _ _
      · decide
    · intro i hi
      split
      · exact mu_lt _ (oct_lt _ _)
      · decide
theorem gen_ne {e : Nat} {f : Int} {n : Nat} (he : Nat.gcd e 255 = 1) (hn : n ≤ 100) (j : Nat) (hj : j < n + 1) : oct (genA e f n) j ≠ 0 := by
  intro h0
  have := bch (n := n) (N := n + 1) (fun i _ => oct_lt (genA e f n) i) (by omega) he (gen_root e f n) (by
    have h1 : ((List.range (n + 1)).filter fun i => oct (genA e f n) i != 0).length < (List.range (n + 1)).length :=
      List.length_filter_lt_length_iff_exists.mpr ⟨j, List.mem_range.mpr hj, by simp [h0]⟩
    rw [List.length_range] at h1
    omega) 0 (by omega)
  rw [gen_head] at this
  cases this
end Mine
end

/-! part MC -/
section
open PySem PySem.W PyProof.Rows
namespace Mine

/-- the product in the field -/
def gm (a b : Nat) : Nat := if a = 0 then 0 else mu (lgn a) b
theorem gm_lt (a : Nat) {b : Nat} (hb : b < 256) : gm a b < 256 := by
  unfold gm; split
  · decide
  · exact mu_lt _ hb
theorem gm_one {a : Nat} (ha : a < 256) : gm a 1 = a := by
  unfold gm; split
  · rename_i h; exact h.symm
  · rename_i h
    have := mu_pw 0 (lgn a)
    rw [Nat.zero_add, pw_lgn ha h] at this
    exact this

theorem in_at (g : Array UInt8) (lc i : Nat) (r : Array UInt8) : ∀ m, i + m < r.size → ∀ p, oct ((List.range m).foldl (encIn g lc i) r) p = if i < p ∧ p ≤ i + m then oct r p ^^^ pw (lc + lgn (oct g (p - i))) else oct r p
  | 0, _, p => by rw [if_neg (by omega)]; rfl
  | m + 1, hm, p => by
    rw [range_fold_succ]
    have ih := in_at g lc i r m (by omega)
    have hs := encIn_fold_size g lc i (List.range m) r
    generalize (List.range m).foldl (encIn g lc i) r = r' at *
    show oct (r'.setIfInBounds (i + (1 + m)) (oct r' (i + (1 + m)) ^^^ pw (lc + lgn (oct g (1 + m)))).toUInt8) p = _
    rw [oct_set _ _ _ _ (by omega) (oct_xor (oct_lt _ _) (pw_lt _))]
    by_cases hp : p = i + (1 + m)
    · subst hp
      rw [if_pos rfl, if_pos (by omega), ih, if_neg (by omega), show i + (1 + m) - i = 1 + m by omega]
    · rw [if_neg hp, ih]
      by_cases h1 : i < p ∧ p ≤ i + m
      · rw [if_pos h1, if_pos (by omega)]
      · rw [if_neg h1, if_neg (by omega)]
theorem encRow_at {g r : Array UInt8} {i n : Nat} (hg : g.size = n + 1) (h0 : ∀ j, j < n + 1 → oct g j ≠ 0) (hi : i + n < r.size) (p : Nat) : oct (encRow g r i) p = if i < p ∧ p ≤ i + n then oct r p ^^^ gm (oct r i) (oct g (p - i)) else oct r p := by
  unfold encRow
  by_cases hz : r[i]!.toNat = 0
  · rw [if_pos hz]
    have : oct r i = 0 := hz
    rw [gm, if_pos this, Nat.xor_zero, ite_self]
  · rw [if_neg hz, hg, show n + 1 - 1 = n by omega, in_at _ _ _ _ _ hi]
    by_cases h1 : i < p ∧ p ≤ i + n
    · rw [if_pos h1, if_pos h1, gm, if_neg (show ¬ oct r i = 0 from hz), mu_pw' (oct_lt _ _) (h0 _ (by omega)), Nat.add_comm]; rfl
    · rw [if_neg h1, if_neg h1]

theorem oct_append (a b : Array UInt8) (p : Nat) : oct (a ++ b) p = if p < a.size then oct a p else oct b (p - a.size) := by
  unfold oct
  rw [getElem!_def, getElem!_def, getElem!_def, Array.getElem?_append]
  by_cases h : p < a.size
  · rw [if_pos h, if_pos h]
  · rw [if_neg h, if_neg h]
theorem oct_extract (a : Array UInt8) (i p : Nat) : oct (a.extract i a.size) p = oct a (i + p) := by
  unfold oct
  rw [getElem!_def, getElem!_def, Array.getElem?_extract]
  by_cases h : p < a.size - i
  · rw [Nat.min_self, if_pos h]
  · rw [Nat.min_self, if_neg h, Array.getElem?_eq_none (by omega)]

/-- the division: the sums stand -/
theorem enc_root {g b : Array UInt8} {n k : Nat} (hg : g.size = n + 1) (h0 : ∀ j, j < n + 1 → oct g j ≠ 0) (h1 : oct g 0 = 1) (hk : S k (n + 1) (oct g) = 0) : S k (b.size + n) (oct (encG g b)) = 0 := by
  have hus : ∀ i, (encUp b g i).size = b.size + n := fun i => by rw [encUp_size, hg]; rfl
  have key : ∀ i, i ≤ b.size → S k (b.size + n) (fun p => if p < i then 0 else oct (encUp b g i) p) = S k (b.size + n) (oct (encUp b g 0)) := by
    intro i
    induction i with
    | zero => intro _; exact S_congr fun p _ => if_neg (Nat.not_lt_zero p)
    | succ i ih =>
      intro hi
      rw [← ih (by omega)]
      have up : encUp b g (i + 1) = encRow g (encUp b g i) i := range_fold_succ ..
      have hs := hus i
      generalize encUp b g i = u at *
      have e1 : ∀ p, p < b.size + n → (if p < i + 1 then 0 else oct (encUp b g (i + 1)) p) = (if p < i then 0 else oct u p) ^^^ (if i ≤ p ∧ p ≤ i + n then gm (oct u i) (oct g (p - i)) else 0) := by
        intro p hp
        rw [up, encRow_at hg h0 (by omega)]
        by_cases c1 : p < i
        · rw [if_pos (by omega), if_pos c1, if_neg (by omega)]; rfl
        · rw [if_neg c1]
          by_cases c2 : p = i
          · subst c2
            rw [if_pos (by omega), if_pos (by omega), Nat.sub_self, h1, gm_one (oct_lt _ _), Nat.xor_self]
          · rw [if_neg (by omega)]
            by_cases c3 : p ≤ i + n
            · rw [if_pos (by omega), if_pos (by omega)]
            · rw [if_neg (by omega), if_neg (by omega), Nat.xor_zero]
      have lt1 : ∀ p, (if p < i then 0 else oct u p) < 256 := fun p => by
        split
        · decide
        · exact oct_lt _ _
      have lt2 : ∀ p, (if i ≤ p ∧ p ≤ i + n then gm (oct u i) (oct g (p - i)) else 0) < 256 := fun p => by
        split
        · exact gm_lt _ (oct_lt _ _)
        · decide
      rw [S_congr e1, S_xor (fun p _ => lt1 p) (fun p _ => lt2 p)]
      have e2 : S k (b.size + n) (fun p => if i ≤ p ∧ p ≤ i + n then gm (oct u i) (oct g (p - i)) else 0) = 0 := by
        rw [show b.size + n = i + (n + 1) + (b.size - i - 1) by omega, S_add _ (fun p _ => lt2 p), S_add _ (fun p _ => lt2 p), S_zero (N := i) (fun p hp => if_neg (by omega)), mu_zero, Nat.zero_xor,
          S_zero (N := b.size - i - 1) (fun p hp => if_neg (by omega)), Nat.xor_zero]
        have e3 : S k (n + 1) (fun p => if i ≤ i + p ∧ i + p ≤ i + n then gm (oct u i) (oct g (i + p - i)) else 0) = 0 := by
          rw [S_congr (d := fun p => gm (oct u i) (oct g p)) fun p hp => by rw [if_pos (by omega), show i + p - i = p by omega]]
          by_cases hc : oct u i = 0
          · exact S_zero fun p _ => by rw [gm, if_pos hc]
          · rw [S_congr (d := fun p => mu (lgn (oct u i)) (oct g p)) fun p hp => by rw [gm, if_neg hc], S_mu _ (fun p _ => oct_lt g p), hk, mu_zero]
        rw [e3, mu_zero]
      rw [e2, Nat.xor_zero]
  have hfin := key b.size (Nat.le_refl _)
  have ew : ∀ p, p < b.size + n → oct (encG g b) p = oct (encUp b g 0) p ^^^ (if p < b.size then 0 else oct (encUp b g b.size) p) := by
    intro p hp
    have eu : encUp b g 0 = b ++ Array.replicate n 0 := by
      show b ++ Array.replicate (g.size - 1) 0 = _
      rw [hg]; rfl
    rw [eu, oct_append, oct_rep, encG, oct_append, oct_extract]
    by_cases c : p < b.size
    · rw [if_pos c, if_pos c, if_pos c, Nat.xor_zero]
    · rw [if_neg c, if_neg c, if_neg c, Nat.zero_xor, show b.size + (p - b.size) = p by omega]
  rw [S_congr ew, S_xor (fun p _ => oct_lt _ _) (fun p _ => by
    split
    · decide
    · exact oct_lt _ _), hfin, Nat.xor_self]

theorem encW_at (e : Nat) (f : Int) (n : Nat) (m : List Nat) (i : Nat) : (encW e f n m)[i]! = oct (encA e f n (octN m)) i := by
  unfold encW oct
  rw [getElem!_def, getElem!_def, List.getElem?_map, Array.getElem?_toList]
  cases (encA e f n (octN m))[i]? <;> rfl
theorem bang_lt {w : List Nat} (h : ∀ x ∈ w, x < 256) (i : Nat) : w[i]! < 256 := by
  rw [getElem!_def]
  cases hq : w[i]? with
  | none => decide
  | some x => exact h x (List.mem_of_getElem? hq)
/-- what the encoder writes is a word -/
theorem encW_Z {e n : Nat} {f : Int} {m : List Nat} (he : Nat.gcd e 255 = 1) (hn : n ≤ 100) : Z n e f (m.length + n) (fun i => (encW e f n m)[i]!) := by
  intro t ht
  rw [S_congr fun i _ => encW_at e f n m i]
  have := enc_root (b := octN m) (genA_size e f n) (fun j hj => gen_ne he hn j hj) (gen_head e f n) (gen_root e f n t ht)
  have hs : (octN m).size = m.length := by simp [octN]
  rw [hs] at this
  exact this
/-- and a word is what the encoder writes for its head -/
theorem encW_uniq {e n size : Nat} {f : Int} {w : List Nat} (he : Nat.gcd e 255 = 1) (hn : n ≤ 100) (hl : w.length = size + n) (hN : size + n ≤ 255) (hlt : ∀ x ∈ w, x < 256) (hz : Z n e f (size + n) (fun i => w[i]!)) : encW e f n (w.take size) = w := by
  have htl : (w.take size).length = size := by simp; omega
  have hel : (encW e f n (w.take size)).length = size + n := by rw [encW_len, htl]
  have htk := encW_take e f n (w.take size) (fun x hx => hlt x (List.mem_of_mem_take hx))
  rw [htl] at htk
  have hz' := encW_Z (m := w.take size) (f := f) he hn
  rw [htl] at hz'
  have l1 := bang_lt hlt
  have l2 := bang_lt (encW_lt e f n (w.take size))
  have key := bch (n := n) (f := f) (c := fun i => w[i]! ^^^ (encW e f n (w.take size))[i]!) (fun i _ => oct_xor (l1 i) (l2 i)) hN he
    (fun t ht => by rw [S_xor (fun i _ => l1 i) (fun i _ => l2 i), hz t ht, hz' t ht]; rfl) (by
      rw [List.range_add, List.filter_append, List.length_append]
      have h1 : (List.range size).filter (fun i => w[i]! ^^^ (encW e f n (w.take size))[i]! != 0) = [] := by
        rw [List.filter_eq_nil_iff]
        intro i hi
        have hi' := List.mem_range.mp hi
        have e1 : (encW e f n (w.take size))[i]? = w[i]? := by
          have := congrArg (fun l => l[i]?) htk
          simpa [List.getElem?_take, hi'] using this
        rw [getElem!_def, getElem!_def, e1, Nat.xor_self]; decide
      rw [h1]
      have h2 := List.length_filter_le (fun i => w[i]! ^^^ (encW e f n (w.take size))[i]! != 0) ((List.range n).map (size + ·))
      rw [List.length_map, List.length_range] at h2
      simpa using h2)
  refine List.ext_getElem (by rw [hel, hl]) fun i h1 h2 => ?_
  have := xor_eq_zero (key i (by omega))
  rw [getElem!_pos w i h2, getElem!_pos (encW e f n (w.take size)) i h1] at this
  exact this.symm
end Mine
end

/-! part MD -/
section
open PySem PySem.W PyProof.Rows
namespace Mine

theorem mulW_mu {c o : Nat} (ho : o < 256) : mulW c o = mu c o := by
  unfold mulW
  by_cases h : o = 0
  · rw [if_pos h, h, mu_zero]
  · rw [if_neg h, mu_pw' ho h, pw_mod]
theorem powW_lt (c o : Nat) : powW c o < 256 := by
  unfold powW; split
  · decide
  · exact pw_lt _
theorem powW_one {o : Nat} (ho : o < 256) : powW (2 ^ 0) o = o := by
  unfold powW
  by_cases h : o = 0
  · rw [if_pos h, h]
  · rw [if_neg h, Nat.pow_zero, Nat.mul_one, pw_mod, pw_lgn ho h]
theorem powW_succ (j o : Nat) : powW (2 ^ (j + 1)) o = sq (powW (2 ^ j) o) := by
  unfold powW
  by_cases h : o = 0
  · rw [if_pos h, if_pos h, sq_zero]
  · rw [if_neg h, if_neg h, sq, if_neg (pw_ne _), lgn_pw_mod, pw_mod, ← pw_mod, ← pw_mod (lgn o * 2 ^ j % 255 % 255 * 2), Nat.pow_succ, ← Nat.mul_assoc]
    congr 1
    omega
theorem powW_zero (c : Nat) : powW c 0 = 0 := if_pos rfl
theorem S_pow {k N : Nat} {c : Nat → Nat} (h : ∀ i, i < N → c i < 256) : ∀ j, S (k * 2 ^ j) N (fun i => powW (2 ^ j) (c i)) = powW (2 ^ j) (S k N c)
  | 0 => by
    rw [powW_one (S_lt h), Nat.pow_zero, Nat.mul_one]
    exact S_congr fun i hi => powW_one (h i hi)
  | j + 1 => by
    rw [powW_succ, ← S_pow h j, ← S_sq (fun i _ => powW_lt _ _), Nat.pow_succ, ← Nat.mul_assoc]
    exact S_congr fun i _ => by rw [← Nat.pow_succ]; exact powW_succ j (c i)
/-- the word from behind -/
theorem S_rev {k k' N : Nat} {c : Nat → Nat} (h : ∀ i, i < N → c i < 256) (hk : (k + k') % 255 = 0) : S k' N (fun i => c (N - 1 - i)) = mu (k' * (N - 1)) (S k N c) := by
  rw [S_xs (fun i hi => h _ (by omega)), S_xs h, xs_mu]
  · have e1 : (List.range N).map (fun i => mu (k' * (N - 1 - i)) (c (N - 1 - i))) = ((List.range N).map fun i => mu (k' * i) (c i)).reverse := by
      rw [← List.map_reverse, ← range_rev, List.map_map]; rfl
    rw [e1, xs_reverse, List.map_map]
    congr 1
    refine List.map_congr_left fun i hi => ?_
    have hi' := List.mem_range.mp hi
    show _ = mu (k' * (N - 1)) (mu (k * (N - 1 - i)) (c i))
    rw [← mu_add]
    refine mu_congr (h i hi') ?_
    obtain ⟨p, hp⟩ : ∃ p, N - 1 = i + p := ⟨N - 1 - i, by omega⟩
    rw [show N - 1 - i = p by omega, hp, Nat.mul_add]
    obtain ⟨q, hq⟩ : ∃ q, k + k' = 255 * q := ⟨(k + k') / 255, by omega⟩
    have : k' * i + k' * p + k * p = k' * i + 255 * (q * p) := by
      rw [Nat.add_assoc, ← Nat.add_mul, Nat.add_comm k', hq, Nat.mul_assoc]
    rw [this, Nat.add_mul_mod_self_left]
  · intro x hx
    obtain ⟨i, hi, rfl⟩ := List.mem_map.mp hx
    exact mu_lt _ (h i (List.mem_range.mp hi))

/-- what stands after each turn, by the sums -/
structure Good (n : Nat) (s : LSt) : Prop where
  len : s.word.length = s.size + n
  lt : ∀ x ∈ s.word, x < 256
  z : Z n s.step s.first (s.size + n) (fun i => s.word[i]!)
  cop : Nat.gcd s.step 255 = 1
  slt : s.step < 255
theorem Good.inv {n : Nat} {s : LSt} (g : Good n s) (hn : n ≤ 100) (hN : s.size + n ≤ 255) : Inv n s :=
  ⟨g.len, g.lt, encW_uniq g.cop hn g.len hN g.lt g.z, g.cop, g.slt⟩

theorem map_bang {g : Nat → Nat} {w : List Nat} {i : Nat} (h : i < w.length) : (w.map g)[i]! = g w[i]! := by simp [h]
theorem byOf_lt (k : Int) : byOf k < 255 := by
  have h1 := Int.fmod_nonneg_of_pos (k.fdiv 8) (b := 255) (by decide)
  have h2 := Int.fmod_lt_of_pos (k.fdiv 8) (b := 255) (by decide)
  unfold byOf; omega

theorem good_turn {n : Nat} {s : LSt} (g : Good n s) (hn : n ≤ 100) (k : Int) : Good n (turnS n s k) ∧ (turnS n s k).size ≤ s.size + 1 := by
  have m0 := Int.fmod_nonneg_of_pos k (b := 8) (by decide)
  have m1 := Int.fmod_lt_of_pos k (b := 8) (by decide)
  have hl := g.len
  have bl := bang_lt g.lt
  have cases8 : k.fmod 8 = 0 ∨ k.fmod 8 = 1 ∨ k.fmod 8 = 2 ∨ k.fmod 8 = 3 ∨ k.fmod 8 = 4 ∨ k.fmod 8 = 5 ∨ k.fmod 8 = 6 ∨ k.fmod 8 = 7 := by omega
  rcases cases8 with h | h | h | h | h | h | h | h
  · rw [turnS_0 h]
    refine ⟨?_, Nat.le_succ _⟩
    have ml : ((s.word.take s.size).map fun o => (o + byOf k + 1) % 256).length = s.size := by simp; omega
    generalize ((s.word.take s.size).map fun o => (o + byOf k + 1) % 256) = m at *
    have el := encW_len s.step s.first n m
    have elt := encW_lt s.step s.first n m
    refine ⟨?_, ?_, ?_, g.cop, g.slt⟩
    · simp only [List.length_zipWith, el, ml]; omega
    · intro x hx
      obtain ⟨i, hi, rfl⟩ := List.mem_iff_getElem.mp hx
      simp only [List.getElem_zipWith]
      exact oct_xor (g.lt _ (List.getElem_mem _)) (elt _ (List.getElem_mem _))
    · intro t ht
      have e : ∀ i, i < s.size + n → (s.word.zipWith (· ^^^ ·) (encW s.step s.first n m))[i]! = s.word[i]! ^^^ (encW s.step s.first n m)[i]! := by
        intro i hi
        have h1 : i < s.word.length := by omega
        have h2 : i < (encW s.step s.first n m).length := by omega
        simp [h1, h2, List.getElem?_zipWith]
      show S _ _ (fun i => (s.word.zipWith (· ^^^ ·) (encW s.step s.first n m))[i]!) = 0
      have ez := encW_Z (m := m) (f := s.first) g.cop hn t ht
      rw [ml] at ez
      rw [S_congr e, S_xor (fun i _ => bl i) (fun i _ => bang_lt elt i), g.z t ht, ez]; rfl
  · rw [turnS_1 h]
    refine ⟨⟨by simpa using hl, ?_, ?_, g.cop, g.slt⟩, Nat.le_succ _⟩
    · intro x hx
      obtain ⟨y, hy, rfl⟩ := List.mem_map.mp hx
      rw [mulW_mu (g.lt y hy)]; exact mu_lt _ (g.lt y hy)
    · intro t ht
      show S _ (s.size + n) (fun i => (s.word.map (mulW (byOf k)))[i]!) = 0
      rw [S_congr (d := fun i => mu (byOf k) s.word[i]!) (fun i hi => by rw [map_bang (by omega), mulW_mu (bl i)]), S_mu _ (fun i _ => bl i), g.z t ht, mu_zero]
  · rw [turnS_2 h]
    generalize byOf k % 8 = j
    refine ⟨⟨by simpa using hl, ?_, ?_, ?_, Nat.mod_lt _ (by decide)⟩, Nat.le_succ _⟩
    · intro x hx
      obtain ⟨y, hy, rfl⟩ := List.mem_map.mp hx
      exact powW_lt _ _
    · intro t ht
      show S (rt (s.step * 2 ^ j % 255) (s.first + t)) (s.size + n) (fun i => (s.word.map (powW (2 ^ j)))[i]!) = 0
      rw [S_congr (d := fun i => powW (2 ^ j) s.word[i]!) (fun i hi => by rw [map_bang (by omega)]), S_root (k := rt s.step (s.first + t) * 2 ^ j) ?_ (fun i _ => powW_lt _ _), S_pow (fun i _ => bl i), g.z t ht, powW_zero]
      obtain ⟨q1, h1⟩ := (rt_spec (s.step * 2 ^ j % 255) (s.first + t)).2
      obtain ⟨q2, h2⟩ := (rt_spec s.step (s.first + t)).2
      generalize 2 ^ j = P at *
      have h3 : ((s.step * P % 255 : Nat) : Int) = (s.step : Int) * P - 255 * ((s.step * P / 255 : Nat) : Int) := by
        have := Nat.div_add_mod (s.step * P) 255
        have e : ((s.step * P : Nat) : Int) = (s.step : Int) * P := Int.natCast_mul _ _
        rw [← e]; omega
      rw [h3] at h1
      generalize ((s.step * P / 255 : Nat) : Int) = q3 at *
      refine mod_of (q := q1 - q2 * P - q3 * (s.first + t)) ?_
      rw [h1, Int.natCast_mul, h2]
      grind
    · show Nat.gcd (s.step * 2 ^ j % 255) 255 = 1
      rw [← Nat.gcd_rec, Nat.gcd_comm]
      exact Nat.Coprime.mul_left g.cop (Nat.Coprime.pow_left j (by decide))
  · rw [turnS_3 h]
    refine ⟨⟨by simpa using hl, fun x hx => g.lt x (List.mem_reverse.mp hx), ?_, g.cop, g.slt⟩, Nat.le_succ _⟩
    intro t ht
    show S (rt s.step (1 - n - s.first + t)) (s.size + n) (fun i => s.word.reverse[i]!) = 0
    rw [S_congr (d := fun i => s.word[s.size + n - 1 - i]!) (fun i hi => by
      have h1 : i < s.word.length := by omega
      rw [getElem!_def, getElem!_def, List.getElem?_reverse h1, hl]), S_rev (k := rt s.step (s.first + ((n - 1 - t : Nat) : Int))) (fun i _ => bl i), g.z _ (by omega), mu_zero]
    obtain ⟨q1, h1⟩ := (rt_spec s.step (1 - n - s.first + t)).2
    obtain ⟨q2, h2⟩ := (rt_spec s.step (s.first + ((n - 1 - t : Nat) : Int))).2
    have h3 : ((n - 1 - t : Nat) : Int) = n - 1 - t := by omega
    rw [h3] at h2 ⊢
    refine mod_of (b := 0) (q := q1 + q2) ?_
    rw [Int.natCast_add, h1, h2]
    grind
  · rw [turnS_4 h]
    have wl : (shiftW (s.step * byOf k) s.word).length = s.size + n := by simp [shiftW, hl]
    have e : ∀ i, i < s.size + n → (shiftW (s.step * byOf k) s.word)[i]! = mu (s.step * byOf k * (s.size + n - 1 - i)) s.word[i]! := by
      intro i hi
      have h1 : i < s.word.length := by omega
      rw [← mulW_mu (bl i), ← hl]
      simp [shiftW, h1]
    refine ⟨⟨wl, ?_, ?_, g.cop, g.slt⟩, Nat.le_succ _⟩
    · intro x hx
      obtain ⟨i, hi, rfl⟩ := List.mem_map.mp hx
      rw [mulW_mu (bl i)]; exact mu_lt _ (bl i)
    · intro t ht
      show S (rt s.step (s.first - byOf k + t)) _ (fun i => (shiftW (s.step * byOf k) s.word)[i]!) = 0
      rw [S_congr e, S_xs (fun i _ => mu_lt _ (bl i)), ← g.z t ht, S_xs (fun i _ => bl i)]
      congr 1
      refine List.map_congr_left fun i hi => ?_
      rw [← mu_add]
      refine mu_congr (bl i) ?_
      obtain ⟨q1, h1⟩ := (rt_spec s.step (s.first - byOf k + t)).2
      obtain ⟨q2, h2⟩ := (rt_spec s.step (s.first + t)).2
      generalize s.size + n - 1 - i = p
      refine mod_of (q := (q1 - q2) * p) ?_
      rw [Int.natCast_add, Int.natCast_mul, Int.natCast_mul, Int.natCast_mul, Int.natCast_mul, h1, h2]
      grind
  · rw [turnS_5 h]
    have hs := g.slt
    refine ⟨⟨hl, g.lt, ?_, ?_, Nat.mod_lt _ (by decide)⟩, Nat.le_succ _⟩
    · intro t ht
      show S (rt ((255 - s.step) % 255) (1 - n - s.first + t)) _ (fun i => s.word[i]!) = 0
      rw [S_root (k := rt s.step (s.first + ((n - 1 - t : Nat) : Int))) ?_ (fun i _ => bl i), g.z _ (by omega)]
      obtain ⟨q1, h1⟩ := (rt_spec ((255 - s.step) % 255) (1 - n - s.first + t)).2
      obtain ⟨q2, h2⟩ := (rt_spec s.step (s.first + ((n - 1 - t : Nat) : Int))).2
      have h3 : ((n - 1 - t : Nat) : Int) = n - 1 - t := by omega
      obtain ⟨q3, h4⟩ : ∃ q3 : Int, (((255 - s.step) % 255 : Nat) : Int) = 255 * q3 - s.step := by
        by_cases hz : s.step = 0
        · exact ⟨0, by omega⟩
        · exact ⟨1, by omega⟩
      rw [h3] at h2 ⊢
      rw [h4] at h1
      refine mod_of (q := q3 * (1 - n - s.first + t) + q1 - q2) ?_
      rw [h1, h2]
      grind
    · show Nat.gcd ((255 - s.step) % 255) 255 = 1
      rw [← Nat.gcd_rec, Nat.gcd_self_sub_right (by omega), Nat.gcd_comm]
      exact g.cop
  · rw [turnS_6 h]
    refine ⟨⟨by simp only [List.length_append, hl, List.length_cons, List.length_nil]; omega, ?_, ?_, g.cop, g.slt⟩, Nat.le_refl _⟩
    · intro x hx
      rcases List.mem_append.mp hx with hx | hx
      · exact g.lt x hx
      · rw [List.mem_singleton.mp hx]; decide
    · intro t ht
      show S _ (s.size + 1 + n) (fun i => (s.word ++ [0])[i]!) = 0
      rw [show s.size + 1 + n = s.size + n + 1 by omega, S, S_congr (d := fun i => s.word[i]!) (fun i hi => by
        rw [getElem!_def, getElem!_def, List.getElem?_append_left (by omega)])]
      show mu (rt s.step (s.first + t)) (S (rt s.step (s.first + t)) _ _) ^^^ _ = 0
      rw [g.z t ht, mu_zero, Nat.zero_xor, getElem!_def, List.getElem?_append_right (by omega), hl, Nat.sub_self]; rfl
  · rw [turnS_7 h]
    refine ⟨⟨by simp only [List.length_cons, hl]; omega, ?_, ?_, g.cop, g.slt⟩, Nat.le_refl _⟩
    · intro x hx
      rcases List.mem_cons.mp hx with rfl | hx
      · decide
      · exact g.lt x hx
    · intro t ht
      have bl' : ∀ i, (0 :: s.word)[i]! < 256 := bang_lt (by
        intro x hx
        rcases List.mem_cons.mp hx with rfl | hx
        · decide
        · exact g.lt x hx)
      show S (rt s.step (s.first + t)) (s.size + 1 + n) (fun i => (0 :: s.word)[i]!) = 0
      rw [show s.size + 1 + n = 1 + (s.size + n) by omega, S_add 1 (fun i _ => bl' i), S_zero (N := 1) (fun i hi => by
        obtain rfl : i = 0 := by omega
        rfl), mu_zero, Nat.zero_xor, S_congr (d := fun i => s.word[i]!) (fun i hi => by
        rw [Nat.add_comm, getElem!_def, getElem!_def, List.getElem?_cons_succ])]
      exact g.z t ht

theorem good_start (ns : List Int) : Good (startOf ns).checks (st0 ns) := by
  have c1 := start_checks ns
  have s1 := start_step ns
  have ml : (msgOf (startOf ns).later (startOf ns).size).length = (startOf ns).size := by simp [msgOf]
  refine ⟨?_, encW_lt _ _ _ _, ?_, s1.2, s1.1⟩
  · show (encW _ _ _ _).length = _
    rw [encW_len, ml]; rfl
  · have := encW_Z (m := msgOf (startOf ns).later (startOf ns).size) (f := (startOf ns).first) s1.2 (n := (startOf ns).checks) (by omega)
    rw [ml] at this
    exact this
theorem good_all (ns : List Int) : ∀ i, i ≤ ((startOf ns).later.take 5).length → Good (startOf ns).checks (stAt (startOf ns).checks (st0 ns) ((startOf ns).later.take 5) i) ∧ (stAt (startOf ns).checks (st0 ns) ((startOf ns).later.take 5) i).size ≤ 8 + i
  | 0, _ => ⟨good_start ns, (start_size ns).2⟩
  | i + 1, hi => by
    obtain ⟨g, hz⟩ := good_all ns i (by omega)
    have c1 := start_checks ns
    rw [stAt_succ (List.getElem?_eq_getElem (show i < ((startOf ns).later.take 5).length by omega))]
    have := good_turn g (by omega) ((startOf ns).later.take 5)[i]
    exact ⟨this.1, by omega⟩

theorem fm_spec (y : Int) : ∃ q : Int, (((y.fmod 255).toNat : Nat) : Int) = y + 255 * q := by
  have h1 := Int.fmod_nonneg_of_pos y (b := 255) (by decide)
  have h3 := Int.mul_fdiv_add_fmod y 255
  exact ⟨-(y.fdiv 255), by rw [Int.toNat_of_nonneg h1]; omega⟩
theorem tot_S {word : List Nat} {step : Nat} {fi : Int} (hlt : ∀ x ∈ word, x < 256) : totUp word step fi word.length = S (rt step fi) word.length (fun i => word[i]!) := by
  have bl := bang_lt hlt
  rw [S_xs (fun i _ => bl i)]
  have key : ∀ i, i ≤ word.length → totUp word step fi i = xs ((List.range i).map fun j => mu (rt step fi * (word.length - 1 - j)) word[j]!) := by
    intro i
    induction i with
    | zero => intro _; rfl
    | succ i ih =>
      intro hi
      have up : totUp word step fi (i + 1) = totAt word step fi (totUp word step fi i) i := range_fold_succ ..
      rw [up, ih (by omega), List.range_succ, List.map_append, xs_append]
      simp only [List.map_cons, List.map_nil, xs, Nat.xor_zero]
      unfold totAt
      by_cases h0 : word[i]! = 0
      · rw [if_pos h0, h0, mu_zero, Nat.xor_zero]
      · rw [if_neg h0, mu_pw' (bl i) h0]
        congr 1
        rw [← pw_mod, ← pw_mod (lgn word[i]! + _)]
        congr 1
        obtain ⟨q1, h1⟩ := fm_spec (((lgn word[i]! : Nat) : Int) + (step : Int) * fi * ((word.length : Int) - 1 - i))
        obtain ⟨q2, h2⟩ := (rt_spec step fi).2
        have h3 : (word.length : Int) - 1 - i = ((word.length - 1 - i : Nat) : Int) := by omega
        rw [h3] at h1 ⊢
        generalize word.length - 1 - i = p at *
        refine mod_of (q := q1 - q2 * p) ?_
        rw [h1, Int.natCast_add, Int.natCast_mul, h2]
        grind
  exact key _ (Nat.le_refl _)

/-- the plain law -/
theorem plain (ns : List Int) : Plain ns := by
  have c1 := start_checks ns
  have l5 : ((startOf ns).later.take 5).length ≤ 5 := by simp; omega
  refine ⟨fun i hi => ?_, fun t ht => ?_⟩
  · obtain ⟨g, hz⟩ := good_all ns i hi
    refine ⟨g.inv (by omega) (by omega), ?_⟩
    rw [g.len]; omega
  · obtain ⟨g, hz⟩ := good_all ns _ (Nat.le_refl _)
    rw [tot_S g.lt, g.len]
    exact g.z t ht
end Mine
end

/-! part TA -/
section
open PySem PySem.W PyProof.Rows
namespace Mine
theorem boot_isNs (P : Params) : (boot_heap P).isNs mainGlobals = true := by kernel_rfl
theorem boot_isNsB (P : Params) : (boot_heap P).isNs builtinsNs = true := by kernel_rfl
theorem boot_isNsC (P : Params) : (boot_heap P).isNs cStatics = true := by kernel_rfl
theorem boot_bltView (P : Params) : (boot_heap P).bltView = bltViewBooted := by rfl
theorem boot_keys (P : Params) : (boot_heap P).nsKeys mainGlobals = startupNames := by kernel_rfl
theorem boot_bmod (P : Params) : (boot_heap P).nsMap mainGlobals "__builtins__" = some (.ref 4) := by kernel_rfl
theorem boot_statics (P : Params) (x : Str) : (boot_heap P).nsMap cStatics x = none := by kernel_rfl
end Mine
end

/-! part TB -/
section
open PySem PySem.W PyProof.Rows
namespace Mine

theorem boot_lt {P : Params} {b : Addr} {o : Obj} (h : (boot_heap P).get? b = some o) : b < 11 := Heap.lt_size h

/-- a function of the text that stands above k -/
def FnUp (h : Heap) (k : Addr) (d : DefRec) (a : Addr) : Prop :=
  ∃ (o : Obj) (dV pm doc : Value) (cd : Addr) (an : Option Addr) (vs : List Value), k < a ∧ k < cd ∧ h.get? a = some o ∧ o.data = .func (fdOf d dV pm (.ref cd) doc an) ∧ h.CodeRec (.ref cd) d.name ∧ ConstVals d.params.defaults vs ∧ h.DefaultsAt (k + 1) vs dV
theorem FnUp.at {h h' : Heap} {k : Addr} {d : DefRec} {a : Addr} (x : FnUp h k d a) (hk : ∀ b o, k < b → h.get? b = some o → h'.get? b = some o) : FnUp h' k d a := by
  obtain ⟨o, dV, pm, doc, cd, an, vs, l1, l2, h1, h2, h3, h4, h5⟩ := x
  refine ⟨o, dV, pm, doc, cd, an, vs, l1, l2, hk _ _ l1 h1, h2, h3.at fun o e => hk _ o l2 e, h4, ?_⟩
  rcases h5 with h5 | ⟨hne, T, e, hT, g⟩
  · exact .inl h5
  · exact .inr ⟨hne, T, e, hT, hk _ _ hT g⟩
theorem FnUp.fn {h : Heap} {k : Addr} {d : DefRec} {a : Addr} (x : FnUp h k d a) : FnAt h d a := by
  obtain ⟨o, dV, pm, doc, cd, an, vs, l1, l2, h1, h2, h3, h4, h5⟩ := x
  refine ⟨o, dV, pm, .ref cd, doc, an, vs, h1, h2, h3, h4, ?_⟩
  rcases h5 with h5 | ⟨hne, T, e, hT, g⟩
  · exact .inl h5
  · exact .inr ⟨hne, T, _, _, e, g, rfl⟩

/-- the module's names: what the top has bound, then what the boot left -/
noncomputable def mgOf (P : Params) (gl : Vars) (x : Str) : Option Value := (gl.lookup x).or ((boot_heap P).nsMap mainGlobals x)
theorem mgOf_cons (P : Params) (gl : Vars) (x : Str) (v : Value) : (fun y => if y = x then some v else mgOf P gl y) = mgOf P ((x, v) :: gl) := by
  funext y
  unfold mgOf
  rw [List.lookup_cons]
  by_cases h : y = x
  · subst h; simp
  · rw [if_neg h, beq_eq_false_iff_ne.mpr h]

/-- where the top stands -/
structure TopS (P : Params) (k c : Addr) (ls : List Nat) (gl : Vars) (fs : List (DefRec × Addr)) (os : Objs) (h : Heap) : Prop where
  main : ∃ l, h.Main (mgOf P gl) c k (triples l).toArray ∧ ∀ q ∈ l, q.1.line ∈ ls
  keep : ∀ b o, (boot_heap P).get? b = some o → b ≠ mainGlobals → h.get? b = some o
  big : 11 ≤ k
  fn : ∀ x ∈ fs, FnUp h k x.1 x.2
  own : ∀ p ∈ os, h.get? p.1 = some p.2 ∧ p.1 ≠ k ∧ p.1 ≠ mainGlobals
section
variable {w : World} {A : Around} {P : Params} {k c F : Addr} {ls : List Nat} {gl : Vars} {fs : List (DefRec × Addr)} {os : Objs} {h h' : Heap} {s : Shared}

theorem TopS.low (T : TopS P k c ls gl fs os h) : mainGlobals < k := let ⟨_, a, _⟩ := T.main; a.low.2
theorem TopS.keeps (T : TopS P k c ls gl fs os h) (hk : ∀ b o, h.get? b = some o → h'.get? b = some o) : TopS P k c ls gl fs os h' :=
  ⟨let ⟨l, a, b⟩ := T.main; ⟨l, a.keeps hk, b⟩, fun b o e hn => hk _ _ (T.keep b o e hn), T.big, fun x hx => (T.fn x hx).at fun b o _ e => hk _ _ e, fun p hp => ⟨hk _ _ (T.own p hp).1, (T.own p hp).2⟩⟩
theorem TopS.store {x : Str} {v : Value} (T : TopS P k c ls gl fs os h) (hn : h'.Ns mainGlobals (fun y => if y = x then some v else mgOf P gl y)) (hs : Heap.SameBut mainGlobals h h') (hx : x ≠ "__builtins__") : TopS P k c ls ((x, v) :: gl) fs os h' := by
  obtain ⟨l, a, b⟩ := T.main
  have lo := a.low
  refine ⟨⟨l, ⟨mgOf_cons P gl x v ▸ hn, a.code.sameBut hs (Nat.ne_of_gt lo.1) (Nat.ne_of_gt lo.2), lo, ?_⟩, b⟩, fun b o e hb => (hs.2 _ hb).trans (T.keep b o e hb), T.big, fun y hy => (T.fn y hy).at fun b o hb e => (hs.2 _ (Nat.ne_of_gt (Nat.lt_trans lo.2 hb))).trans e,
    fun p hp => ⟨(hs.2 _ (T.own p hp).2.2).trans (T.own p hp).1, (T.own p hp).2⟩⟩
  obtain ⟨bm, o, h1, h2, h3, h4, h5, h6⟩ := a.bmod
  refine ⟨bm, o, ?_, h2, h3, h4, (hs.2 _ h3).trans h5, h6⟩
  rw [← mgOf_cons]
  show (if _ = x then _ else _) = _
  rw [if_neg (Ne.symm hx)]; exact h1

theorem topStore {x : Str} {v : Value} {Q : Unit → Shared → Prop} {E : Value → Shared → Prop} (T : TopS P k c ls gl fs os s.heap) (hl : PT.main.scope.names.lookup x = some .local) (hx : x ≠ "__builtins__")
    (hQ : ∀ h' tk, TopS P k c ls ((x, v) :: gl) fs os h' → Q () { s with heap := h', toks := tk }) : wpAny (model PT w) A (storeName (mainEnv PT c F) x v) Q E s := by
  obtain ⟨l, a, b⟩ := T.main
  exact wpAny_storeName_local (env := mainEnv PT c F) hl a.g (fun h' hn hs => hQ h' _ (T.store hn hs hx)) rfl
theorem topSet {x : Str} {e : Expr} {px pos : Pos} {Q : Flow → Shared → Prop} (T : TopS P k c ls gl fs os s.heap) (hl : PT.main.scope.names.lookup x = some .local) (hx : x ≠ "__builtins__") {R : Value → Prop}
    (he : ∀ Q' : Value → Shared → Prop, (∀ v tk, R v → Q' v { s with toks := tk }) → wpN w A (eval e (mainEnv PT c F)) Q' s)
    (hQ : ∀ v h' tk, R v → TopS P k c ls ((x, v) :: gl) fs os h' → Q .next { s with heap := h', toks := tk })
    (hs : swapsWith e (some (.Name x px)) pos.line (mainEnv PT c F) = pure false := by rfl) : wpN w A (exec (.Assign [.Name x px] e pos) (mainEnv PT c F)) Q s :=
  assignN (he _ fun v tk hv => wpAny.n (topStore (s := { s with toks := tk }) T hl hx fun h' tk' T' => hQ v h' tk' hv T')) hs

/-- what is asked of a def's record, all of it closed -/
structure DefOk (d : DefRec) : Prop where
  kw : d.params.kwonlyargs = []
  kd : d.params.kw_defaults = []
  con : d.params.defaults.all Expr.isPlainConst = true
  ann : ∀ env, annTrees d.params none env = []
  free : (d.scope.names.all fun x => x.2 != .free) = true
  loc : PT.main.scope.names.lookup d.name = some .local
  qual : qualnameIn { scope := PT.main.scope, locals := mainGlobals, globals := mainGlobals, cells := [] } d.name d.name = d.name
  nb : d.name ≠ "__builtins__"
theorem topDef {d : DefRec} {Q : Flow → Shared → Prop} (T : TopS P k c ls gl fs os s.heap) (hd : DefOk d) (hln : d.pos.line ∉ ls)
    (hQ : ∀ a h' tk, TopS P k c (d.pos.line :: ls) ((d.name, .ref a) :: gl) ((d, a) :: fs) os h' → Q .next { s with heap := h', toks := tk }) : wpN w A (exec d.stmt (mainEnv PT c F)) Q s := by
  obtain ⟨l, a, b⟩ := T.main
  have hk : k < s.heap.objs.size := a.code.lt.2
  refine wpAny.n (wpAny_defStmt (I := fun _ => True) (fun _ _ _ _ => trivial) hd.kw hd.kd (List.all_eq_true.mp hd.con) (by rw [hd.ann]; intro x hx; cases hx) trivial ?_ hd.loc hd.qual a ?_ hd.nb rfl ?_)
  · intro x hx e
    have := List.all_eq_true.mp hd.free x hx
    rw [e] at this; cases this
  · intro f c' doc dV annO vs h' tk hf hm hg hv hdef hc keep
    have hle : ∀ b, k < b → b ≠ k ∧ b ≠ mainGlobals := fun b hb => ⟨Nat.ne_of_gt hb, Nat.ne_of_gt (Nat.lt_trans a.low.2 hb)⟩
    refine hQ f h' tk ⟨⟨l ++ [(d.pos, c')], ?_, ?_⟩, fun b o e hb => ?_, T.big, ?_, fun p hp => ?_⟩
    · rw [triples_append, ← mgOf_cons]; simpa using hm
    · intro q hq
      rcases List.mem_append.mp hq with hq | hq
      · exact List.mem_cons_of_mem _ (b q hq)
      · rw [List.mem_singleton.mp hq]; exact List.mem_cons_self ..
    · exact keep b o (fun e' => absurd (boot_lt (e' ▸ e)) (Nat.not_lt.mpr T.big)) hb (T.keep b o e hb)
    · intro x hx
      rcases List.mem_cons.mp hx with rfl | hx
      · refine ⟨_, dV, _, doc, c', annO, vs, Nat.lt_of_lt_of_le hk hf, Nat.lt_of_lt_of_le hk hc.1, hg, rfl, hc.2, hv, ?_⟩
        rcases hdef with h5 | ⟨hne, T', e, hT, g⟩
        · exact .inl h5
        · exact .inr ⟨hne, T', e, Nat.lt_of_lt_of_le hk hT, g⟩
      · exact (T.fn x hx).at fun b o hb e => keep b o (hle b hb).1 (hle b hb).2 e
    · exact ⟨keep _ _ (T.own p hp).2.1 (T.own p hp).2.2 (T.own p hp).1, (T.own p hp).2⟩
  · rw [List.toList_toArray]
    exact codeAmong_triples _ _ fun q hq e => hln (e.1 ▸ b q hq)
end
theorem ok3 : DefOk dInit := ⟨rfl, rfl, by decide +kernel, fun _ => rfl, by decide +kernel, rfl, rfl, by decide +kernel⟩
theorem ok4 : DefOk dPow := ⟨rfl, rfl, by decide +kernel, fun _ => rfl, by decide +kernel, rfl, rfl, by decide +kernel⟩
theorem ok5 : DefOk dMul := ⟨rfl, rfl, by decide +kernel, fun _ => rfl, by decide +kernel, rfl, rfl, by decide +kernel⟩
theorem ok6 : DefOk dPoly := ⟨rfl, rfl, by decide +kernel, fun _ => rfl, by decide +kernel, rfl, rfl, by decide +kernel⟩
theorem ok7 : DefOk dGen := ⟨rfl, rfl, by decide +kernel, fun _ => rfl, by decide +kernel, rfl, rfl, by decide +kernel⟩
theorem ok8 : DefOk dEnc := ⟨rfl, rfl, by decide +kernel, fun _ => rfl, by decide +kernel, rfl, rfl, by decide +kernel⟩
theorem ok11 : DefOk dLp := ⟨rfl, rfl, by decide +kernel, fun _ => rfl, by decide +kernel, rfl, rfl, by decide +kernel⟩
theorem ok12 : DefOk dLaw := ⟨rfl, rfl, by decide +kernel, fun _ => rfl, by decide +kernel, rfl, rfl, by decide +kernel⟩
end Mine
end

/-! part TD -/
section
open PySem PySem.W PyProof.Rows
namespace Mine
section
variable {w : World} {A : Around} {P : Params} {k c F : Addr} {ls : List Nat} {gl : Vars} {fs : List (DefRec × Addr)} {os : Objs} {h h' : Heap} {s : Shared}

theorem blt_not (P : Params) : ∀ x ∈ bltNames, (boot_heap P).nsMap mainGlobals x = none := by
  intro x hx
  refine Heap.nsMap_none ?_
  rw [boot_keys]
  revert x
  decide +kernel
theorem TopS.gnd {gl' : Vars} (T : TopS P k c ls gl fs os h) (h1 : ∀ p ∈ gl', gl.lookup p.1 = some p.2) (h2 : ∀ x ∈ bltNames, gl.lookup x = none) : Gnd gl' h := by
  obtain ⟨l, a, b⟩ := T.main
  refine ⟨⟨_, _, a.g, (Heap.Ns.of_isNs (boot_isNsB P)).at fun o e => T.keep _ o e (by decide), fun p hp => ?_, fun x hx => ?_, fun x hx => Heap.of_bltView (boot_isNsB P) (boot_bltView P) x hx⟩, ⟨_, (Heap.Ns.of_isNs (boot_isNsC P)).at fun o e => T.keep _ o e (by decide), boot_statics P _⟩⟩
  · rw [mgOf, h1 p hp]; rfl
  · rw [mgOf, h2 x hx, blt_not P x hx]; rfl

/-- a name, read at the top -/
theorem topName {x : Str} {v : Value} {pos : Pos} {Q : Value → Shared → Prop} (T : TopS P k c ls gl fs os s.heap) (hv : gl.lookup x = some v) (hQ : Q v s) (hd : (x == ("__debug__" : Str)) = false := by decide) : wpN w A (eval (.Name x pos) (mainEnv PT c F)) Q s := by
  obtain ⟨l, a, b⟩ := T.main
  exact wpAny.n (Calls.Name_module (env := mainEnv PT c F) rfl rfl (Calls.loadGlobal_global a.g (by rw [mgOf, hv]; rfl) hQ) hd)
theorem topBlt {x : Str} {v : Value} {pos : Pos} {Q : Value → Shared → Prop} (T : TopS P k c ls gl fs os s.heap) (hx : x ∈ bltNames) (hn : gl.lookup x = none) (hv : bootBuiltins x = some v) (hQ : Q v s) (hm : x ≠ "__name__" := by decide) (hd : (x == ("__debug__" : Str)) = false := by decide) : wpN w A (eval (.Name x pos) (mainEnv PT c F)) Q s := by
  obtain ⟨l, a, b⟩ := T.main
  exact wpAny.n (Calls.Name_module (env := mainEnv PT c F) rfl rfl (Calls.loadGlobal_builtin a.g (by rw [mgOf, hn, blt_not P x hx]; rfl) ((Heap.Ns.of_isNs (boot_isNsB P)).at fun o e => T.keep _ o e (by decide)) ((Heap.of_bltView (boot_isNsB P) (boot_bltView P) x hm).trans hv) hQ) hd)

theorem assignTupleN {env : Env} {elts : List Expr} {x1 : Nat} {tpos pos : Pos} {value : Expr} {Q : Flow → Shared → Prop}
    (h : wpN w A (eval value env) (fun v s₁ => wpN w A (assign (.Tuple elts x1 tpos) env v) (fun _ => Q .next) s₁) s)
    (hs : swapsWithSole [.Tuple elts x1 tpos] value pos.line env = pure false := by rfl)
    (hw : swappedStores [.Tuple elts x1 tpos] value env = pure none := by rfl) :
    wpN w A (exec (.Assign [.Tuple elts x1 tpos] value pos) env) Q s := by
  rw [PyProof.Rows.exec_Assign]
  refine wpN_bind (wpN_standAt ?_)
  rw [hs]
  refine wpN_bind (wpN_pure ?_)
  rw [if_neg (by decide)]
  refine wpN_bind (wpN_mono h fun v s₁ h₁ => ?_)
  rw [hw]
  refine wpN_bind (wpN_pure ?_)
  show wpN w A (do assignAll v [assign (.Tuple elts x1 tpos) env]; pure .next) Q s₁
  exact wpN_bind (wpN_mono h₁ fun _ _ x => wpN_pure x)
theorem unpack3 {env : Env} {x y z : Str} {p1 p2 p3 pos : Pos} {x1 : Nat} {l : Addr} {a b d : Value} {n : Nat} {Q : Unit → Shared → Prop} (hh : A.handled = none) (hl : s.heap.get? l = some (lsObj [a, b, d] n))
    (h : ∀ h', Heap.ExtBut s.heap.objs.size s.heap h' → wpN w A (assign (.Name x p1) env a) (fun _ s₁ => wpN w A (assign (.Name y p2) env b) (fun _ s₂ => wpN w A (assign (.Name z p3) env d) Q s₂) s₁) { s with heap := h' }) :
    wpN w A (assign (.Tuple [.Name x p1, .Name y p2, .Name z p3] x1 pos) env (.ref l)) Q s := by
  rw [PyProof.Rows.assign_Tuple]
  refine wpN_bind (wpN_standAt ?_)
  show wpN w A (do assignInOrder [assign (.Name x p1) env, assign (.Name y p2) env, assign (.Name z p3) env] (← holding [.ref l] (unpackItems (.ref l) 3 none))) Q s
  refine wpN_bind (wpN_holding (wpAny.n (kun_itemsOf (items := #[a, b, d]) hh ⟨_, hl, rfl, _, rfl⟩ fun h' he => ?_)))
  show wpN w A (do holding [b, d] (assign (.Name x p1) env a); holding [d] (assign (.Name y p2) env b); holding [] (assign (.Name z p3) env d); pure ()) Q _
  exact wpN_bind (wpN_holding (wpN_mono (h h' he) fun _ s₁ h₁ => wpN_bind (wpN_holding (wpN_mono h₁ fun _ s₂ h₂ => wpN_bind (wpN_holding (wpN_mono h₂ fun _ s₃ h₃ => wpN_pure h₃))))))

theorem codeN_body {stmts : List Stmt} {env : Env} {R : Flow → Shared → Prop} (hann : hasAnns stmts = false) (hdoc : docOf stmts = none) (h : wpN w (A.deeper env) (execs stmts env) R s) : codeN w A (.body stmts env) R s := by
  refine codeN_of_tree rfl ?_
  show wpN _ (A.deeper env) (do blockStart stmts env; return Fin.done (← (execs stmts env).onRaise (leaving env))) _ s
  have hb : blockStart stmts env = pure () := by
    unfold blockStart
    rw [hann, hdoc]
    cases interactive env <;> rfl
  rw [hb]
  exact wpN_bind (wpN_pure (wpN_bind (wpN_onRaise (wpN_mono h fun f s' h' => wpN_pure h'))))
end

/-- the names that the top binds -/
abbrev glTop (aL aE : Addr) (t : Tok) (v0 v10 : Value) (f3 f4 f5 f6 f7 f8 f11 f12 : Addr) : Vars :=
  [(Str.ofString "law", .ref f12), (Str.ofString "_law_powers", .ref f11), (Str.ofString "__name__", v10), (Str.ofString "field_charac", .int 255 t), (Str.ofString "gf_exp", .ref aE), (Str.ofString "gf_log", .ref aL), (Str.ofString "rs_encode_msg", .ref f8), (Str.ofString "rs_generator_poly", .ref f7), (Str.ofString "gf_poly_mul", .ref f6), (Str.ofString "gf_mult_noLUT", .ref f5), (Str.ofString "gf_pow", .ref f4), (Str.ofString "init_tables", .ref f3), (Str.ofString "xrange", .type "range"), (Str.ofString "_bytearray", .type "bytearray"), (Str.ofString "__name__", v0)]
/-- what the top leaves -/
def TopEnd (P : Params) (h : Heap) : Prop :=
  ∃ k c aL aE t eB lB v0 v10 f3 f4 f5 f6 f7 f8 f11 f12, Tab eB lB ∧
    TopS P k c [68, 62, 44, 39, 28, 18, 16, 4] (glTop aL aE t v0 v10 f3 f4 f5 f6 f7 f8 f11 f12)
      [(dLaw, f12), (dLp, f11), (dEnc, f8), (dGen, f7), (dPoly, f6), (dMul, f5), (dPow, f4), (dInit, f3)] [(aE, baObj eB), (aL, baObj lB)] h

section
variable {w : World} {A : Around} {P : Params} {k c F : Addr} {s : Shared}
theorem topBody {Q : Flow → Shared → Prop} (T : TopS P k c [] [] [] [] s.heap) (hh : A.handled = none) (hroom : A.depth + 2 < recursionLimit)
    (hQ : ∀ h' tk, TopEnd P h' → Q .next { s with heap := h', toks := tk }) : wpN w A (execs (behindTheImports PT) (mainEnv PT c F)) Q s := by
  conv => arg 3; arg 1; whnf
  refine execsN_cons (topSet (R := fun _ => True) T rfl (by decide) (fun Q' hq => wpAny.n (Calls.Constant_str (hq _ _ trivial))) fun v0 h1 t1 _ T1 => ⟨rfl, ?_⟩)
  refine execsN_cons (topSet (s := { s with heap := h1, toks := t1 }) (R := fun v => v = .type "bytearray") T1 rfl (by decide) (fun Q' hq => topBlt (s := { s with heap := h1, toks := t1 }) T1 (by decide) rfl boot_bytearray (hq _ t1 rfl)) fun v h2 t2 hv T2 => ⟨rfl, ?_⟩)
  subst hv
  refine execsN_cons (topSet (s := { s with heap := h2, toks := t2 }) (R := fun v => v = .type "range") T2 rfl (by decide) (fun Q' hq => topBlt (s := { s with heap := h2, toks := t2 }) T2 (by decide) rfl boot_range (hq _ t2 rfl)) fun v h3 t3 hv T3 => ⟨rfl, ?_⟩)
  subst hv
  refine execsN_cons (topDef (d := dInit) (s := { s with heap := h3, toks := t3 }) T3 ok3 (by decide +kernel) fun f3 h4 t4 T4 => ⟨rfl, ?_⟩)
  refine execsN_cons (topDef (d := dPow) (s := { s with heap := h4, toks := t4 }) T4 ok4 (by decide +kernel) fun f4 h5 t5 T5 => ⟨rfl, ?_⟩)
  refine execsN_cons (topDef (d := dMul) (s := { s with heap := h5, toks := t5 }) T5 ok5 (by decide +kernel) fun f5 h6 t6 T6 => ⟨rfl, ?_⟩)
  refine execsN_cons (topDef (d := dPoly) (s := { s with heap := h6, toks := t6 }) T6 ok6 (by decide +kernel) fun f6 h7 t7 T7 => ⟨rfl, ?_⟩)
  refine execsN_cons (topDef (d := dGen) (s := { s with heap := h7, toks := t7 }) T7 ok7 (by decide +kernel) fun f7 h8 t8 T8 => ⟨rfl, ?_⟩)
  refine execsN_cons (topDef (d := dEnc) (s := { s with heap := h8, toks := t8 }) T8 ok8 (by decide +kernel) fun f8 h9 t9 T9 => ⟨rfl, ?_⟩)
  clear T1 T2 T3 T4 T5 T6 T7 T8
  have G9 : Gnd [(Str.ofString "_bytearray", .type "bytearray"), (Str.ofString "xrange", .type "range"), (Str.ofString "gf_mult_noLUT", .ref f5)] h9 := T9.gnd (by
    intro p hp
    simp only [List.mem_cons, List.not_mem_nil, or_false] at hp
    rcases hp with rfl | rfl | rfl <;> rfl) (by
    intro x hx
    simp only [bltNames, List.mem_cons, List.not_mem_nil, or_false] at hx
    rcases hx with rfl | rfl | rfl | rfl | rfl | rfl <;> rfl)
  have i3 := (T9.fn (dInit, f3) (by simp)).fn
  have i5 := (T9.fn (dMul, f5) (by simp)).fn
  obtain ⟨fd3, o3, e3, e3'⟩ := i3.func
  refine execsN_cons (assignTupleN (evalN_Call rfl (topName (s := { s with heap := h9, toks := t9 }) (v := .ref f3) T9 rfl (callWithN_fn0 (s := { s with heap := h9, toks := t9 }) e3 e3' (init_spec (s := { s with heap := h9, toks := t9 }) G9 (by simp) (by simp) i3 i5 (by simp) hroom hh fun h10 t10 R aL aE t eB lB k10 tab oR oL oE => ?_)))))
  refine unpack3 (s := { s with heap := h10, toks := t10 }) hh oR fun h11 x11 => ?_
  have k11 : ∀ b o, h10.get? b = some o → h11.get? b = some o := fun b o e => x11 b o (Nat.ne_of_lt (Heap.lt_size e)) e
  have T11 := (T9.keeps k10).keeps k11
  have own : ∀ p ∈ ([(aE, baObj eB), (aL, baObj lB)] : Objs), h11.get? p.1 = some p.2 ∧ p.1 ≠ k ∧ p.1 ≠ mainGlobals := by
    obtain ⟨l, a, b⟩ := T11.main
    obtain ⟨o, vs, file, tf, flags, tg, inF, text, tt, op, g1, g2, g3, g4, g5, g6, g7, g8, g9, g10⟩ := a.code
    obtain ⟨om, es, ep, m1, m2, m3⟩ := a.g
    have ne : ∀ a' bb, h11.get? a' = some (baObj bb) → a' ≠ k ∧ a' ≠ mainGlobals := by
      intro a' bb e
      constructor
      · rintro rfl
        rw [g8] at e; cases e; cases g9
      · rintro rfl
        rw [m1] at e; cases e; cases m2
    intro p hp
    simp only [List.mem_cons, List.not_mem_nil, or_false] at hp
    rcases hp with rfl | rfl
    · exact ⟨k11 _ _ oE, ne _ _ (k11 _ _ oE)⟩
    · exact ⟨k11 _ _ oL, ne _ _ (k11 _ _ oL)⟩
  have T12 : TopS P k c _ _ _ [(aE, baObj eB), (aL, baObj lB)] h11 := ⟨T11.main, T11.keep, T11.big, T11.fn, own⟩
  clear T11 G9 i3 i5
  refine wpAny.n (wpAny_assign_Name (topStore (s := { s with heap := h11, toks := t10 }) T12 rfl (by decide) fun h12 t12 T13 => ?_))
  refine wpAny.n (wpAny_assign_Name (topStore (s := { s with heap := h12, toks := t12 }) T13 rfl (by decide) fun h13 t13 T14 => ?_))
  refine wpAny.n (wpAny_assign_Name (topStore (s := { s with heap := h13, toks := t13 }) T14 rfl (by decide) fun h14 t14 T15 => ⟨rfl, ?_⟩))
  refine execsN_cons (topSet (s := { s with heap := h14, toks := t14 }) (R := fun _ => True) T15 rfl (by decide) (fun Q' hq => wpAny.n (Calls.Constant_str (hq _ _ trivial))) fun v10 h15 t15 _ T16 => ⟨rfl, ?_⟩)
  refine execsN_cons (topDef (d := dLp) (s := { s with heap := h15, toks := t15 }) T16 ok11 (by decide +kernel) fun f11 h16 t16 T17 => ⟨rfl, ?_⟩)
  refine execsN_cons (topDef (d := dLaw) (s := { s with heap := h16, toks := t16 }) T17 ok12 (by decide +kernel) fun f12 h17 t17 T18 => ⟨rfl, ?_⟩)
  exact execsN_nil (hQ h17 t17 ⟨k, c, aL, aE, t, eB, lB, v0, v10, f3, f4, f5, f6, f7, f8, f11, f12, tab, T18⟩)
end
end Mine
end

/-! part TE -/
section
open PySem PySem.W PyProof.Rows
namespace Mine

/-- the whole thread of the top -/
theorem topTree {w : World} {s : Shared} {Q : Fin → Shared → Prop} (hb : s.heap = boot_heap w.params) (hQ : ∀ h' tk, TopEnd w.params h' → Q (.done (.ret .none)) { s with heap := h', toks := tk }) : wpN w callerA (topStub PT).cur Q s := by
  have hk0 : ∀ b o, (boot_heap w.params).get? b = some o → s.heap.get? b = some o := fun b o e => hb ▸ e
  have hz : s.heap.objs.size = 11 := by rw [hb]; rfl
  show wpN w callerA (do let code ← moduleCode PT.main; let frame ← newBodyFrame code mainNs mainNs; let _ ← PySem.run (.body (behindTheImports PT) { scope := PT.main.scope, locals := mainNs, globals := mainNs, cells := [], code, frame := some frame }); ret .none) Q s
  refine wpN_bind (wpAny.n (wpAny_moduleCode fun c k h1 t1 k1 lc lk hcode => ?_))
  have ns1 : h1.Ns mainGlobals (mgOf w.params []) := (Heap.Ns.of_isNs (boot_isNs w.params)).at fun o e => k1 _ _ (hk0 _ _ e)
  unfold newBodyFrame
  refine wpN_bind (wpN_bind (wpAny.n (wpAny_nsGet (s := { s with heap := h1, toks := t1 }) ns1 (wpAny.n (wpAny_alloc ?_)))))
  rw [hz] at lc lk
  refine wpN_bind (wpN_run (codeN_body (by decide +kernel) (by decide +kernel) ?_))
  refine topBody (P := w.params) (k := k) (c := c) ?_ rfl (by show callerA.depth + 1 + 2 < recursionLimit; decide) fun h' tk T => ?_
  · refine ⟨⟨[], ⟨ns1.push _, hcode.push _, ⟨Nat.lt_of_lt_of_le (by decide) lc, Nat.lt_of_lt_of_le (by decide) lk⟩, ?_⟩, fun q hq => (nomatch hq)⟩, fun b o e hn => Heap.get?_push_of_some _ (k1 _ _ (hk0 _ _ e)), lk, fun x hx => (nomatch hx), fun p hp => (nomatch hp)⟩
    refine ⟨4, boot_o_4 w.params, ?_, by decide, by decide, fun e => ?_, Heap.get?_push_of_some _ (k1 _ _ (hk0 _ _ rfl)), rfl, rfl, rfl⟩
    · rw [mgOf, boot_bmod]; rfl
    · exact absurd lk (by rw [← e]; decide)
  · exact wpN_pure (hQ h' tk T)

theorem caller_wp {w : World} {t : Sem Fin} {Q : Fin → Shared → Prop} {s : Shared} (h : wpN w callerA t Q s) : Sem.wp (model PT w) ⟨.builtin "claim.caller" {}, none, none, [], none⟩ t (fun a _ s' => Q a s') (fun _ _ _ => False) default s :=
  h _ default caller_in (by decide +kernel) (fun x hx => nomatch hx)

/-- the scheduler runs the thread to its last leaf -/
theorem sched_top {w : World} {s : Shared} {t : Sem Fin} {R : Shared → Prop} (hz : s.asleep) (h : wpN w callerA t (fun fin s' => fin = .done (.ret .none) ∧ R s' ∧ s'.gens = #[]) s) :
    ∃ s', (∃ n th, schedN (denote table) PT w n (.single s ⟨t, .builtin "claim.caller" {}, default, []⟩) = .running (.single s' th) ∧ through th = true) ∧ R s' ∧ s'.gens = #[] ∧ s'.heap.life = s.heap.life := by
  have hw := caller_wp h
  -- it halts, so it is calm all the way
  have h1 : Sem.wp (model PT w) ⟨.builtin "claim.caller" {}, none, none, [], none⟩ t (Sem.finPost (model PT w) ⟨.builtin "claim.caller" {}, none, none, [], none⟩ fun r s' => True ∧ leftWithCleanup s'.gens = false)
      (fun e _ s' => True ∧ leftWithCleanup s'.gens = false) default s := by
    refine Sem.wp_mono _ _ t (fun fin p' s' h' => ?_) (fun _ _ _ f => f.elim) default s hw
    obtain ⟨rfl, _, hg⟩ := h'
    exact ⟨trivial, by rw [hg]; simp [leftWithCleanup]⟩
  obtain ⟨n₁, r, s₁, hn₁, _⟩ := (wp_iff_halts t (fun _ _ => True) default s).mp h1
  have hn₁' : runNI (model PT w).den (model PT w).prog (model PT w).w n₁ s ⟨t, .builtin "claim.caller" {}, default, []⟩ = .halted (outcomeOf r) s₁ := hn₁
  obtain ⟨s₂, hr₂, _, hc⟩ := runNI_real _ _ _ hn₁' (outcomeOf_ends r)
  have hne : ∀ k s₃, runN (model PT w).den (model PT w).prog (model PT w).w k s ⟨t, .builtin "claim.caller" {}, default, []⟩ ≠ .halted (.unsupported "lifetime:generator-with-cleanup-left-suspended") s₃ := by
    intro k s₃ hk
    have a := runN_mono _ _ _ n₁ k s _ _ s₂ hr₂
    have b := runN_mono _ _ _ k n₁ s _ _ s₃ hk
    rw [Nat.add_comm, b] at a
    injection a with a1 _
    have := outcomeOf_ends r
    rw [← a1] at this
    cases this
  -- and it reaches its leaf
  obtain ⟨n, s', σ, p', leaf, hn, hf, hl⟩ := wp_reaches (M := model PT w) (c := .builtin "claim.caller" {}) hw
  rcases hl with ⟨a, rfl, rfl, hR, hg⟩ | ⟨e, _, f⟩
  · obtain rfl := Shared.eq_of_forget_eq hf hg
    refine ⟨σ, ⟨n, _, (schedN_eq_runN _ _ _ s _ hz ⟨hc, hne⟩ n).trans (congrArg Run.lift hn), rfl⟩, hR, hg, runN_life_running hn⟩
  · exact f.elim
end Mine
end

/-! part TF -/
section
open PySem PySem.W PyProof.Rows
namespace Mine

theorem same_obj {P : Params} {k c : Addr} {ls : List Nat} {gl : Vars} {fs : List (DefRec × Addr)} {os : Objs} {h : Heap} (T : TopS P k c ls gl fs os h) {a : Addr} (ha : a ≠ mainGlobals) (hl : a < 11) : h.get? a = (boot_heap P).get? a := by
  cases hq : (boot_heap P).get? a with
  | some o => exact T.keep a o hq ha
  | none =>
    exfalso
    have : ∀ b : Nat, b < 11 → ((boot_heap P).get? b).isSome = true := by
      intro b hb
      match b, hb with
      | 0, _ => rfl
      | 1, _ => rfl
      | 2, _ => rfl
      | 3, _ => rfl
      | 4, _ => rfl
      | 5, _ => rfl
      | 6, _ => rfl
      | 7, _ => rfl
      | 8, _ => rfl
      | 9, _ => rfl
      | 10, _ => rfl
    have h2 := this a hl
    rw [hq] at h2; cases h2

theorem top_ran {w : World} {s₀ s₁ : Shared} (hb : s₀.heap = boot_heap w.params) (hs : ∃ n t, schedN (denote table) PT w n (.single s₀ (topStub PT)) = .running (.single s₁ t) ∧ through t = true) (hl : s₁.heap.life = s₀.heap.life) (ho : s₁.os = s₀.os) (hg : s₁.gens = #[]) (TE : TopEnd w.params s₁.heap) :
    TopRan PT w s₀ s₁ := by
  obtain ⟨k, c, aL, aE, t, eB, lB, v0, v10, f3, f4, f5, f6, f7, f8, f11, f12, tab, T⟩ := TE
  obtain ⟨l, a, b⟩ := T.main
  have eC := same_obj T (a := cStatics) (by decide) (by decide)
  have eB' := same_obj T (a := builtinsNs) (by decide) (by decide)
  have st1 : ∀ key, staticOf s₁.heap key = none := fun key => by
    have : staticOf s₁.heap key = staticOf (boot_heap w.params) key := by unfold staticOf; rw [eC]
    rw [this, Pin.staticOf_eq (boot_isNsC _), boot_statics]
  have st0 : ∀ key, staticOf s₀.heap key = none := fun key => by rw [hb, Pin.staticOf_eq (boot_isNsC _), boot_statics]
  have gl1 : ∀ x, globalOf s₁.heap x = mgOf w.params (glTop aL aE t v0 v10 f3 f4 f5 f6 f7 f8 f11 f12) x := fun x => Claim2Try.globalOf_of_ns a.g x
  refine ⟨hs, hl, Shared.rest_eq ho, fun b o e hn => T.keep b o (hb ▸ e) fun q => hn (.inl q), fun key v e => ?_, fun key => .inl ((st1 key).trans (st0 key).symm), ?_, fun x hx => ?_, ?_, fun g hg' => ?_, fun x v e => ?_, fun x hx => ?_⟩
  · rw [st1] at e; cases e
  · obtain ⟨o, es, ep, h1, h2, h3, _⟩ := a.g
    exact ⟨o, es, ep, h1, h2, h3⟩
  · have : builtinOf s₁.heap x = builtinOf (boot_heap w.params) x := by unfold builtinOf; rw [eB']
    rw [this]
    exact (Pin.builtinOf_eq (boot_isNsB _) x).trans (Heap.of_bltView (boot_isNsB _) (boot_bltView _) x hx)
  · obtain ⟨bm, o, h1, h2, h3, h4, h5, h6, h7, h8⟩ := a.bmod
    exact ⟨bm, o, (Claim2Try.globalOf_of_ns a.g _).trans h1, h5, h6, h7⟩
  · rw [hg] at hg'; simp at hg'
  · rw [gl1, mgOf] at e
    cases hq : (glTop aL aE t v0 v10 f3 f4 f5 f6 f7 f8 f11 f12).lookup x with
    | some u =>
      have hm := mem_of_lookup hq
      have hx : x ∈ (glTop aL aE t v0 v10 f3 f4 f5 f6 f7 f8 f11 f12).map (·.1) := List.mem_map.mpr ⟨_, hm, rfl⟩
      have key : ∀ y ∈ ([Str.ofString "law", Str.ofString "_law_powers", Str.ofString "__name__", Str.ofString "field_charac", Str.ofString "gf_exp", Str.ofString "gf_log", Str.ofString "rs_encode_msg", Str.ofString "rs_generator_poly", Str.ofString "gf_poly_mul", Str.ofString "gf_mult_noLUT", Str.ofString "gf_pow", Str.ofString "init_tables", Str.ofString "xrange", Str.ofString "_bytearray", Str.ofString "__name__"] : List Str), y ∈ startupNames ∨ y ∈ PT.boundNames := by decide +kernel
      exact key x hx
    | none =>
      rw [hq] at e
      refine .inl ?_
      rw [← boot_keys w.params]
      refine Classical.byContradiction fun hn => ?_
      rw [Heap.nsMap_none hn] at e; cases e
  · rw [gl1, hb, Pin.globalOf_eq (boot_isNs _), mgOf]
    have : (glTop aL aE t v0 v10 f3 f4 f5 f6 f7 f8 f11 f12).lookup x = none := by
      simp only [laidNames, List.mem_cons, List.not_mem_nil, or_false] at hx
      rcases hx with rfl | rfl | rfl | rfl | rfl <;> rfl
    rw [this]; rfl

theorem law_def : PT.theDef (Str.ofString "law") = some (dLaw.params, dLaw.body, dLaw.scope) := by kernel_rfl
theorem pin_law {P : Params} {h : Heap} (TE : TopEnd P h) : isTheDefsW PT h (Str.ofString "law") := by
  obtain ⟨k, c, aL, aE, t, eB, lB, v0, v10, f3, f4, f5, f6, f7, f8, f11, f12, tab, T⟩ := TE
  obtain ⟨l, a, b⟩ := T.main
  obtain ⟨o, dV, pm, doc, cd, an, vs, l1, l2, h1, h2, h3, h4, h5⟩ := T.fn (dLaw, f12) (by simp)
  refine ⟨f12, o, _, dLaw.params, dLaw.body, dLaw.scope, ?_, h1, h2, law_def, rfl, rfl, rfl, rfl, rfl, rfl, rfl, rfl, .inl ⟨rfl, ?_⟩, [], rfl, .inl ⟨rfl, rfl⟩⟩
  · rw [Claim2Try.globalOf_of_ns a.g, mgOf]; rfl
  · have hvs : vs = [] := by
      cases vs with
      | nil => rfl
      | cons _ _ => exact h4.elim
    rcases h5 with ⟨_, e⟩ | ⟨hne, _⟩
    · exact e
    · exact absurd hvs hne

/-- what law's walk leans on, as the top leaves it -/
theorem top_world {P : Params} {h : Heap} (TE : TopEnd P h) : ∃ gl eB lB f m, World2 gl eB lB h ∧ FnAt h dLaw f ∧ h.Ns mainGlobals m ∧ m (Str.ofString "law") = some (.ref f) := by
  obtain ⟨k, c, aL, aE, t, eB, lB, v0, v10, f3, f4, f5, f6, f7, f8, f11, f12, tab, T⟩ := TE
  have G : Gnd [(Str.ofString "_law_powers", .ref f11), (Str.ofString "field_charac", .int 255 t), (Str.ofString "gf_exp", .ref aE), (Str.ofString "gf_log", .ref aL), (Str.ofString "rs_encode_msg", .ref f8), (Str.ofString "rs_generator_poly", .ref f7), (Str.ofString "gf_poly_mul", .ref f6), (Str.ofString "gf_pow", .ref f4), (Str.ofString "xrange", .type "range"), (Str.ofString "_bytearray", .type "bytearray")] h := T.gnd (by
    intro p hp
    simp only [List.mem_cons, List.not_mem_nil, or_false] at hp
    rcases hp with rfl | rfl | rfl | rfl | rfl | rfl | rfl | rfl | rfl | rfl <;> rfl) (by
    intro x hx
    simp only [bltNames, List.mem_cons, List.not_mem_nil, or_false] at hx
    rcases hx with rfl | rfl | rfl | rfl | rfl | rfl <;> rfl)
  obtain ⟨l, a, b⟩ := T.main
  refine ⟨_, eB, lB, f12, _, ⟨⟨G, tab, ⟨aL, by simp, (T.own (aL, baObj lB) (by simp)).1⟩, ⟨aE, by simp, (T.own (aE, baObj eB) (by simp)).1⟩, ⟨t, by simp⟩, by simp, by simp⟩, ⟨f8, (T.fn (dEnc, f8) (by simp)).fn, by simp⟩, ⟨f7, (T.fn (dGen, f7) (by simp)).fn, by simp⟩, ⟨f6, (T.fn (dPoly, f6) (by simp)).fn, by simp⟩, ⟨f4, (T.fn (dPow, f4) (by simp)).fn, by simp⟩, ⟨f11, (T.fn (dLp, f11) (by simp)).fn, by simp⟩⟩, (T.fn (dLaw, f12) (by simp)).fn, a.g, ?_⟩
  rw [mgOf]; rfl

theorem data_ints {R : WRecords} {cl : Str → Option Addr} {h : Heap} : ∀ {vs : List Value} {xs : List WData} {as : List Addr}, WShape.hasItems R xs .int = true → ReadsAllW R cl h vs xs as → ∃ ns : List Int, xs = ns.map WData.int ∧ IntsAre vs ns
  | _, [], _, _, r => by cases r; exact ⟨[], rfl, .nil⟩
  | _, x :: xs, _, hx, r => by
    have hx' := Bool.and_eq_true_iff.mp hx
    obtain ⟨i, rfl⟩ := hasW_int hx'.1
    cases r with
    | cons r1 r2 =>
      cases r1
      obtain ⟨ns, rfl, hi⟩ := data_ints hx'.2 r2
      exact ⟨i :: ns, rfl, .cons _ _ hi⟩

/-- the call -/
theorem call_from {w : World} {s : Shared} {free : Addr → Prop} {gens : Prop} {kept : Heap → Prop} (hz : s.asleep) (hg : s.gens = #[]) (TE : TopEnd w.params s.heap) (hk : ∀ h, kept h) :
    ClaimW.CallFrom (callStub PySem.Challenge.rw_nc0020_01.row.name) PySem.Challenge.rw_nc0020_01.row.claim w free gens kept s := by
  intro args hpre hlay ord hord
  obtain ⟨⟨vs, s₁⟩, hlaid⟩ := Option.isSome_iff_exists.mp (layAllW_isSome (R := []) (cl := classAt s.heap) (P := w.params) (ord := ord) (fun c hc => (nomatch hc)) args PySem.Challenge.rw_nc0020_01.row.args s (pre_splitW hpre).1)
  have keeps := layAllW_keeps _ _ _ hlaid
  have hal := layAllW_rest _ _ _ hlaid
  obtain ⟨as, hrd, hin, hold⟩ := reads_layAllW hord _ _ _ hlaid hlay s₁.heap (fun _ _ e => e)
  obtain ⟨gl, eB, lB, f, m, W, hf, hns, hm⟩ := top_world TE
  -- the script
  obtain ⟨d, r, rfl, hd, hr⟩ := hasAllW_cons (pre_splitW hpre).1
  obtain rfl := hasAllW_nil hr
  obtain ⟨xs, rfl, hxs⟩ := hasW_list hd
  cases hrd with
  | cons r1 r2 =>
    cases r2
    cases r1 with
    | list g1 g2 g3 g4 =>
      rename_i a o its n bs
      obtain ⟨ns, rfl, hi⟩ := data_ints hxs g4
      have hlen : ns.length ≤ 63 := by
        have h2 : WTm.holds [] (.and (.not (.lt (.lit (.int (63 : Nat))) (.len (.arg 0)))) (.lit (.bool true))) { args := [.list (ns.map WData.int)] } = true := (pre_splitW hpre).2
        have e : less? (.int (63 : Nat)) (.int ((ns.map WData.int).length : Nat)) = some (decide (((63 : Nat) : Int) < ((ns.map WData.int).length : Nat))) := rfl
        simp only [WTm.holds, WTm.value, List.getElem?_cons_zero, e, Option.map_some] at h2
        by_cases hl : ((63 : Nat) : Int) < ((ns.map WData.int).length : Nat)
        · rw [decide_eq_true hl] at h2; cases h2
        · rw [List.length_map] at hl; omega
      have hla : s₁.heap.IsList a its.toList.toArray := ⟨o, g1, g2, n, by simpa using g3⟩
      have hwp : wpN w callerA (callStub (Str.ofString "law") [.ref a]).cur (fun fin s' => ∃ fl, fin = .done fl ∧ GoodW PySem.Challenge.rw_nc0020_01.row.claim (classAt s.heap) (ExcName.means s.heap) [.list (ns.map WData.int)] s₁ (.ok fl) s') s₁ := by
        show wpN w callerA (do match ← nsGet mainNs (Str.ofString "law") with
            | some f => do ret (← call f [.ref a])
            | none => unsupported "claim.caller:no-such-global") _ s₁
        refine wpN_bind (wpAny.n (wpAny_nsGet (hns.keeps keeps) ?_))
        rw [hm]
        refine wpN_bind (law_spec (W.keeps keeps) (hf.keeps keeps) (by decide) rfl (by decide) hla hi (by omega) (plain ns) fun h' tk hk' => ?_)
        refine wpN_pure ⟨_, rfl, .inl ⟨_, _, [], rfl, fun cls => rfl, .bool true, ?_, fun _ => ⟨.nil, fun a ha => (nomatch ha)⟩⟩, hk', rfl, hal.1.trans hg⟩
        show (WShape.has [] (.bool true) .bool && WTm.holds [] (.eq .res (.lit (.bool true))) { args := [.list (ns.map WData.int)], res := some (.bool true), after := [.list (ns.map WData.int)] }) = true
        have e1 : WShape.has [] (.bool true) .bool = true := by simp [WShape.has, WShape.arms]
        have e2 : same (.bool true) (.bool true) = true := by decide +kernel
        simp only [e1, WTm.holds, WTm.value, e2, Bool.and_self]
      have hi' := ident_freeW (r := PySem.Challenge.rw_nc0020_01.row.toRowW) rfl rfl rfl
      have h1 : Sem.wp (model PT w) ⟨.builtin "claim.caller" {}, none, none, [], none⟩ (callStub (Str.ofString "law") [.ref a]).cur (Sem.finPost (model PT w) ⟨.builtin "claim.caller" {}, none, none, [], none⟩ fun r s' =>
          (PySem.Challenge.rw_nc0020_01.row.claim.Ends s [.list (ns.map WData.int)] [.ref a] s₁ r s' ∧ s'.os = s.os) ∧ leftWithCleanup s'.gens = false)
          (fun e _ s' => (PySem.Challenge.rw_nc0020_01.row.claim.Ends s [.list (ns.map WData.int)] [.ref a] s₁ (.error e) s' ∧ s'.os = s.os) ∧ leftWithCleanup s'.gens = false) default s₁ := by
        refine Sem.wp_mono _ _ _ (fun fin p' s' h' => ?_) (fun _ _ _ f => f.elim) default s₁ (caller_wp hwp)
        obtain ⟨fl, rfl, g⟩ := h'
        have z := g.ends rfl hi' hord hlaid hlay
        exact ⟨⟨z.1, z.2.1⟩, by rw [z.2.2]; simp [leftWithCleanup]⟩
      obtain ⟨k, rr, s', s'', hsched, hrun, hfo, hcase, hos⟩ := wp_halts_full (M := model PT w) (R := fun r s' => PySem.Challenge.rw_nc0020_01.row.claim.Ends s [.list (ns.map WData.int)] [.ref a] s₁ r s' ∧ s'.os = s.os) (Shared.asleep_of_life hal.2.2.2 hz) h1
      obtain ⟨eh, _, _, eo, _⟩ := Shared.forget_eq hfo
      have hcase := hcase.congr eh
      rw [← eo] at hos
      have hlife : s''.heap.life = s.heap.life := (runN_life _ _ _ hrun).trans hal.2.2.2
      refine ⟨_, s₁, hlaid, k, _, s'', hsched, ?_, (fun _ i x hx => by rw [hg] at hx; simp at hx), hk _, by rw [hlife], Shared.rest_eq hos⟩
      rcases hcase with ⟨v, rfl, d1, d2, d3, d4, d5⟩ | ⟨e, ob, cls, rfl, d1, d2, d3, d4, d5⟩
      · exact .inl ⟨v, rfl, d1, d2, d3, fun b o y _ => d4 b o y, d5⟩
      · exact .inr ⟨e, ob, cls, rfl, d1, d2, d3, d4, fun b o y _ => d5 b o y⟩
end Mine
end

/-! part TG -/
section
open PySem PySem.W PyProof.Rows
namespace Mine
theorem open_eq : opening PT = plainProg PT.main.scope.names := by kernel_rfl
theorem fence_eq (s : Shared) : fenceModules? PT s = some s := by kernel_rfl
theorem law_witness : PySem.Challenge.rw_nc0020_01.row.promised := by
  w_witness2
theorem opens_well : opensWell PT = true := by decide +kernel
theorem every_world (w : World) : (∃ s, AfterRun (opening PT) w s) ∧ ∀ s, AfterRun (opening PT) w s → ∃ s₀, fenceModules? PT s = some s₀ ∧ s₀.gens = #[] ∧ ∃ s₁, TopRan PT w s₀ s₁ ∧ TopEnd w.params s₁.heap ∧ s₁.asleep ∧ s₁.gens = #[] := by
  have h := boot_open (p := PT) (N := 600) open_eq (by decide) fence_eq w
  rw [← table_eq_tree] at h
  obtain ⟨s₀, h1, h2⟩ := Option.map_eq_some_iff.mp h
  obtain ⟨s, h3, h4⟩ := Option.bind_eq_some_iff.mp h1
  rw [fence_eq] at h4
  cases h4
  have A := AfterImport.of_importEnds h3
  refine ⟨⟨s₀, A⟩, fun s' hs' => ?_⟩
  obtain rfl : s' = s₀ := AfterImport.unique hs' A
  have hb : s'.heap = boot_heap w.params := congrArg Prod.fst h2
  have hg : s'.gens = #[] := congrArg (fun x => x.2.1) h2
  obtain ⟨s₁, hs, ⟨hT, ho⟩, hg₁, hl⟩ := sched_top (R := fun s₁ => TopEnd w.params s₁.heap ∧ s₁.os = s'.os) A.life (topTree (Q := fun fin s₁ => fin = .done (.ret .none) ∧ (TopEnd w.params s₁.heap ∧ s₁.os = s'.os) ∧ s₁.gens = #[]) hb fun h' tk T => ⟨rfl, ⟨T, rfl⟩, hg⟩)
  exact ⟨s', fence_eq s', hg, s₁, top_ran hb hs hl ho hg₁ hT, hT, Shared.asleep_of_life hl A.life, hg₁⟩
end Mine
theorem PySem.Challenge.cw_nc0020_01_holds : PySem.Challenge.rw_nc0020_01.Holds := by
  w_on
  o_law
  rename_i said
  refine ⟨said, Mine.law_witness, ⟨⟨rfl, rfl, rfl, rfl, rfl, by decide +kernel⟩, Mine.opens_well, rfl⟩, Mine.law_witness.witness, fun w => ⟨(Mine.every_world w).1, fun s hs => ?_⟩⟩
  obtain ⟨s₀, hf, hg, s₁, hT, hE, hz, hg₁⟩ := (Mine.every_world w).2 s hs
  refine ⟨s₀, hf, hg, s₁, hT, fun n hn => ?_, fun x hx => (nomatch hx), fun x hx => (nomatch hx), Mine.call_from hz hg₁ hE fun h q => by cases q⟩
  rw [List.mem_singleton.mp (show n ∈ [PySem.Str.ofString "law"] from hn)]
  exact Mine.pin_law hE
end
