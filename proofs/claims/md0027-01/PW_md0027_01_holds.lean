import PyProof.Rows.All
import Wide.All
import KE.BitLaws
import Open.Line
import Open.Boot
import PySem.Challenge.RW_md0027_01
set_option Elab.async false
set_option maxRecDepth 100000
open PySem PyProof.Rows
namespace Mine

theorem slot_ba_getitem : Slot "bytearray" "__getitem__" "bytearray.__getitem__" :=
  .of (owner := "bytearray") (n := "__getitem__") (by rw [typeLookup_type, builtinLookup_eq_fast]; kernel_rfl) (by decide +kernel) (by decide +kernel) (by decide +kernel)
    (by first | exact .inl (by decide +kernel) | exact .inr (by decide +kernel)) (by rw [isSubtype_type]; kernel_rfl)
theorem slot_ba_setitem : Slot "bytearray" "__setitem__" "bytearray.__setitem__" :=
  .of (owner := "bytearray") (n := "__setitem__") (by rw [typeLookup_type, builtinLookup_eq_fast]; kernel_rfl) (by decide +kernel) (by decide +kernel) (by decide +kernel)
    (by first | exact .inl (by decide +kernel) | exact .inr (by decide +kernel)) (by rw [isSubtype_type]; kernel_rfl)
theorem slot_ba_len : Slot "bytearray" "__len__" "bytearray.__len__" :=
  .of (owner := "bytearray") (n := "__len__") (by rw [typeLookup_type, builtinLookup_eq_fast]; kernel_rfl) (by decide +kernel) (by decide +kernel) (by decide +kernel)
    (by first | exact .inl (by decide +kernel) | exact .inr (by decide +kernel)) (by rw [isSubtype_type]; kernel_rfl)
theorem entry_ba_getitem : entryFor table "bytearray.__getitem__" = some Builtin.«bytearray.__getitem__» := entryFor_of_fast (by kernel_rfl)
theorem entry_ba_setitem : entryFor table "bytearray.__setitem__" = some Builtin.«bytearray.__setitem__» := entryFor_of_fast (by kernel_rfl)
theorem entry_ba_len : entryFor table "bytearray.__len__" = some Builtin.«bytearray.__len__» := entryFor_of_fast (by kernel_rfl)
theorem args_ba_getitem (a b : Value) : argsOk "bytearray.__getitem__" ⟨[a, b], []⟩ := by unfold argsOk; kernel_rfl
theorem args_ba_setitem (a b c : Value) : argsOk "bytearray.__setitem__" ⟨[a, b, c], []⟩ := by unfold argsOk; kernel_rfl
theorem args_ba_len (a : Value) : argsOk "bytearray.__len__" ⟨[a], []⟩ := by unfold argsOk; kernel_rfl

abbrev ba (b : Array UInt8) : Obj := { cls := .type "bytearray", data := .bytearray b }

section
variable {prog : Program} {w : World} {A : Around} {E : Value → Shared → Prop} {s : Shared} {r : Addr} {b : Array UInt8}

theorem ba_type (hr : s.heap.get? r = some (ba b)) : s.TypeIs (.ref r) "bytearray" := ⟨_, hr, rfl⟩

theorem ba_payload {Q : Array UInt8 → Shared → Prop} (hr : s.heap.get? r = some (ba b)) (h : Q b s) : wpAny (model prog w) A (Builtin.Bytes.payload (.ref r)) Q E s := by
  unfold Builtin.Bytes.payload Builtin.Bytes.payload?
  refine wpAny_bind (wpAny_bind (wpAny_load hr ?_))
  exact wpAny_pure (wpAny_pure h)

theorem ba_subscript {k : Int} {t : Tok} {Q : Option Int → Shared → Prop} (h0 : -(2 ^ 63) ≤ k) (h1 : k < 2 ^ 63) (h : Q (some k) s) : wpAny (model prog w) A (Builtin.Bytes.subscript? (.int k t)) Q E s := by
  unfold Builtin.Bytes.subscript?
  refine wpAny_bind (wpAny_specialOf (T := "int") (typeIs_int s k t) int_index ?_)
  show wpAny _ _ (asIndex (.int k t) >>= _) Q E s
  refine wpAny_bind (wpAny_of_eq (a := k) rfl ?_)
  have hfit : Builtin.Bytes.fitsIndex k = true := by
    unfold Builtin.Bytes.fitsIndex; simp only [Bool.and_eq_true, decide_eq_true_eq]; exact ⟨h0, h1⟩
  show wpAny _ _ (if (!Builtin.Bytes.fitsIndex k) = true then _ else _) Q E s
  rw [if_neg (by rw [hfit]; decide)]
  exact wpAny_pure h

theorem ba_getItem {k : Int} {t : Tok} {Q : Value → Shared → Prop} (hr : s.heap.get? r = some (ba b)) (h0 : 0 ≤ k) (h1 : k < 2 ^ 63) {x : UInt8} (hx : b[k.toNat]? = some x)
    (h : Q (.int x.toNat s.toks) { s with toks := s.toks + 1 }) : wpAny (model prog w) A (getItem (.ref r) (.int k t)) Q E s := by
  unfold getItem
  try with_reducible refine wpAny_holding ?_
  first | refine wpAny_bind (wpAny_pure ?_) | skip
  refine wpAny_bind (wpAny_sequenceKey (ba_type hr) (by decide) ?_)
  refine wpAny_bind (wpAny_callSpecial?_slot (name := Str.ofString "__getitem__") (ba_type hr) slot_ba_getitem
    (wpAny_call_entry slot_ba_getitem (ba_type hr) entry_ba_getitem ?_ (args_ba_getitem _ _)))
  show wpAny _ _ (Builtin.Bytes.subscript? (.int k t) >>= _) _ _ s
  refine wpAny_bind (ba_subscript (Int.le_trans (by decide) h0) h1 ?_)
  show wpAny _ _ (Builtin.Bytes.payload (.ref r) >>= _) _ _ s
  refine wpAny_bind (ba_payload hr ?_)
  have hlt : k < (b.size : Int) := by
    have := (Array.getElem?_eq_some_iff.mp hx).1
    omega
  rw [seqIndex_of h0 hlt]
  show wpAny _ _ ((match b[k.toNat]? with | some x => _ | none => _) : Sem Fin) _ _ s
  rw [hx]
  exact wpAny_bind (wpAny_mkInt (wpAny_pure ⟨_, rfl, wpAny_pure h⟩))

theorem ba_byteValue {v : Int} {t : Tok} {Q : UInt8 → Shared → Prop} (h0 : 0 ≤ v) (h1 : v < 256) (h : Q v.toNat.toUInt8 s) : wpAny (model prog w) A (Builtin.Bytes.byteValue (.int v t)) Q E s := by
  unfold Builtin.Bytes.byteValue
  refine wpAny_bind (wpAny_of_eq (a := v) rfl ?_)
  show wpAny _ _ (if (decide (v < 0) || decide (v ≥ 256)) = true then _ else _) Q E s
  rw [if_neg (by simp; omega)]
  exact wpAny_pure h

theorem ba_write {f : Array UInt8 → Array UInt8} {Q : Unit → Shared → Prop} (hr : s.heap.get? r = some (ba b)) (hz : (f b).size ≤ sizeLine)
    (h : Q () { s with heap := s.heap.update r (Obj.mapBytearray f) }) : wpAny (model prog w) A (Builtin.Bytes.write (.ref r) f) Q E s := by
  show wpAny _ _ (updateBytearray r f) Q E s
  unfold updateBytearray
  refine wpAny_bind (wpAny_load hr ?_)
  refine wpAny_bind (wpAny_update hr ?_)
  refine wpAny_lookBehind (o := Obj.mapBytearray f (ba b)) (Heap.get?_update_self _ hr rfl) ?_ h
  show (if (f b).size > sizeLine then some "bytearray:memory" else none) = none
  rw [if_neg (Nat.not_lt.mpr hz)]

theorem ba_setItem {k v : Int} {t u : Tok} {Q : Unit → Shared → Prop} (hr : s.heap.get? r = some (ba b)) (hz : b.size ≤ sizeLine) (h0 : 0 ≤ k) (h1 : k < b.size) (v0 : 0 ≤ v) (v1 : v < 256)
    (h : Q () { s with heap := s.heap.update r (Obj.mapBytearray (·.setIfInBounds k.toNat v.toNat.toUInt8)) }) : wpAny (model prog w) A (setItem (.ref r) (.int k t) (.int v u)) Q E s := by
  unfold setItem
  try with_reducible refine wpAny_holding ?_
  first | refine wpAny_bind (wpAny_pure ?_) | skip
  refine wpAny_bind (wpAny_sequenceKey (ba_type hr) (by decide) ?_)
  refine wpAny_bind (wpAny_callSpecial?_slot (name := Str.ofString "__setitem__") (ba_type hr) slot_ba_setitem
    (wpAny_call_entry slot_ba_setitem (ba_type hr) entry_ba_setitem ?_ (args_ba_setitem _ _ _)))
  have hb : b.size ≤ 2 ^ 24 := hz
  show wpAny _ _ (Builtin.Bytes.subscript? (.int k t) >>= _) _ _ s
  refine wpAny_bind (ba_subscript (by omega) (by omega) ?_)
  show wpAny _ _ (Builtin.Bytes.byteValue (.int v u) >>= _) _ _ s
  refine wpAny_bind (ba_byteValue v0 v1 ?_)
  refine wpAny_bind (ba_payload hr ?_)
  rw [seqIndex_of h0 h1]
  show wpAny _ _ (Builtin.Bytes.write (.ref r) _ >>= _) _ _ s
  refine wpAny_bind (ba_write hr (by simpa using hz) ?_)
  first
    | exact wpAny_bind (wpAny_pure (wpAny_pure ⟨.none, rfl, wpAny_pure h⟩))
    | exact wpAny_pure ⟨.none, rfl, wpAny_pure h⟩

end
end Mine
namespace Mine
open Sem (wp)

/-! wpC: the library's wpAny for clean contexts alone: no code on the stack that may hold a bytearray's buffer. -/

def badIds : List String := ["bytearray.__contains__", "bytearray.__mod__", "bytearray.__rmod__", "_struct.pack_into.held", "bytearray.find.held"] ++ Builtin.Bytes.decodersThatHold
def badCode : Code → Bool
  | .builtin id _ => badIds.contains id
  | _ => false
def Clean (Γ : Ctx) : Prop := badCode Γ.code = false ∧ ∀ x ∈ Γ.below, badCode x.1 = false

theorem Clean.enter {Γ : Ctx} (h : Clean Γ) {c : Code} (hc : badCode c = false) (hd : Option Value) (p : Pos) : Clean (Γ.enter c hd p) :=
  ⟨hc, fun x hx => by
    rcases List.mem_cons.mp hx with rfl | hx
    · exact h.1
    · exact h.2 x hx⟩
theorem Clean.goto {Γ : Ctx} (h : Clean Γ) {c : Code} (hc : badCode c = false) : Clean (Γ.goto c) := ⟨hc, h.2⟩

def wpC {α : Type} (M : Model) (A : Around) (t : Sem α) (Q : α → Shared → Prop) (s : Shared) : Prop :=
  ∀ Γ p, Γ.In A → Clean Γ → wp M Γ t (fun a _ s' => Q a s') (fun _ _ _ => False) p s
def codeC (M : Model) (A : Around) (c : Code) (R : Value → Shared → Prop) (s : Shared) : Prop :=
  ∀ Γ p, Γ.code = c → Γ.Below A → Clean Γ → wpCode M Γ (fun r s' => ∃ v, r = .ok (.ret v) ∧ R v s') p s
/-- as codeC, for a code that ends by any flow (loops, bodies) -/
def flowC (M : Model) (A : Around) (c : Code) (R : Flow → Shared → Prop) (s : Shared) : Prop :=
  ∀ Γ p, Γ.code = c → Γ.Below A → Clean Γ → wpCode M Γ (fun r s' => ∃ f, r = .ok f ∧ R f s') p s

abbrev noE : Value → Shared → Prop := fun _ _ => False

section
variable {α β : Type} {M : Model} {A : Around} {s : Shared}

theorem wpC.of {t : Sem α} {Q : α → Shared → Prop} (h : wpAny M A t Q noE s) : wpC M A t Q s := fun Γ p hi _ => h Γ p hi
theorem wpC_pure {a : α} {Q : α → Shared → Prop} (h : Q a s) : wpC M A (pure a) Q s := fun _ _ _ _ => h
theorem wpC_mono {t : Sem α} {Q Q' : α → Shared → Prop} (h : wpC M A t Q s) (hQ : ∀ a s, Q a s → Q' a s) : wpC M A t Q' s :=
  fun Γ p hi hc => Sem.wp_mono M Γ t (fun a _ s => hQ a s) (fun _ _ _ h => h) p s (h Γ p hi hc)
theorem wpC_bind {m : Sem α} {f : α → Sem β} {Q : β → Shared → Prop} (h : wpC M A m (fun a s' => wpC M A (f a) Q s') s) : wpC M A (m >>= f) Q s := fun Γ p hi hc => by
  rw [Sem.wp_bind']
  exact Sem.wp_mono M Γ m (fun a p' s' h' => h' Γ p' hi hc) (fun _ _ _ h' => h') p s (h Γ p hi hc)
/-- a leaf of wpAny ahead of a clean rest -/
theorem wpC_bind_of {m : Sem α} {f : α → Sem β} {Q : β → Shared → Prop} (h : wpAny M A m (fun a s' => wpC M A (f a) Q s') noE s) : wpC M A (m >>= f) Q s := wpC_bind (wpC.of h)
theorem wpC_holding {vs : List Value} {m : Sem α} {Q : α → Shared → Prop} (h : wpC M A m Q s) : wpC M A (holding vs m) Q s :=
  fun Γ p hi hc => by rw [Sem.wp_holding]; exact h Γ p hi hc
theorem wpC_onRaise {m : Sem α} {k : Value → Sem Unit} {Q : α → Shared → Prop} (h : wpC M A m Q s) : wpC M A (m.onRaise k) Q s := fun Γ p hi hc => by
  rw [Sem.wp_onRaise]
  exact Sem.wp_mono M Γ m (fun _ _ _ h' => h') (fun _ _ _ h' => h'.elim) p s (h Γ p hi hc)
theorem wpC_keep {vs : List Value} {m : Sem α} {Q : α → Shared → Prop} (h : wpC M A m Q s) : wpC M A (m.keep vs) Q s :=
  fun Γ p hi hc => by rw [Sem.wp_keep]; exact h Γ p hi hc
theorem wpC_of_eq {t : Sem α} {a : α} {Q : α → Shared → Prop} (e : t = pure a) (h : Q a s) : wpC M A t Q s := e ▸ wpC_pure h
theorem wpC_ite {c : Prop} [Decidable c] {a b : Sem α} {Q : α → Shared → Prop} (h1 : c → wpC M A a Q s) (h2 : ¬ c → wpC M A b Q s) : wpC M A (if c then a else b) Q s := by
  split
  · exact h1 ‹_›
  · exact h2 ‹_›

theorem codeC.of {c : Code} {R : Value → Shared → Prop} (h : codeAny M A c (fun r s' => match r with | .ok (.ret v) => R v s' | _ => False) s) : codeC M A c R s :=
  fun Γ p hc hb _ => wpCode_mono (fun r s' hr => by
    cases r with
    | error e => exact hr.elim
    | ok f => cases f with
      | ret v => exact ⟨v, rfl, hr⟩
      | _ => exact hr.elim) (h Γ p hc hb)
theorem codeC_mono {c : Code} {R R' : Value → Shared → Prop} (h : codeC M A c R s) (hR : ∀ v s, R v s → R' v s) : codeC M A c R' s :=
  fun Γ p hc hb hk => wpCode_mono (fun _ _ ⟨v, e, hr⟩ => ⟨v, e, hR _ _ hr⟩) (h Γ p hc hb hk)

theorem wpC_runValue {c : Code} {Q : Value → Shared → Prop} (hb : badCode c = false) (hc : codeC M A c Q s) : wpC M A (runValue c) Q s := fun Γ p hi hk => by
  rw [Sem.wp_runValue]
  exact wpCode_mono (fun _ _ ⟨v, e, hr⟩ => e ▸ hr) (hc _ p rfl (hi.enter c none p (by intro x; cases x)) (hk.enter hb none p))
theorem wpC_call {f : Value} {pos : List Value} {kw : List (Str × Value)} {Q : Value → Shared → Prop} (hc : codeC M A (.call f ⟨pos, kw⟩) Q s) : wpC M A (call f pos kw) Q s := wpC_runValue rfl hc
theorem wpC_run {c : Code} {Q : Flow → Shared → Prop} (hb : badCode c = false) (hc : flowC M A c Q s) : wpC M A (run c) Q s := fun Γ p hi hk => by
  rw [Sem.wp_run]
  exact wpCode_mono (fun _ _ ⟨v, e, hr⟩ => e ▸ hr) (hc _ p rfl (hi.enter c none p (by intro x; cases x)) (hk.enter hb none p))

theorem codeC_of_tree {c : Code} {R : Value → Shared → Prop}
    (h : wpC M (A.under c) (M.den c) (fun fin s' => match fin with | .done f => ∃ v, f = .ret v ∧ R v s' | .again c' => c'.quiet = true ∧ badCode c' = false ∧ codeC M A c' R s') s) : codeC M A c R s := fun Γ p hc hb hk => by
  rw [wpCode_iff_wp, hc]
  refine Sem.wp_mono M Γ _ (fun fin p' s' h' => ?_) (fun _ _ _ h' => h'.elim) p s (h Γ p (hc ▸ hb.in) hk)
  cases fin with
  | done f => obtain ⟨v, rfl, hr⟩ := h'; exact ⟨v, rfl, hr⟩
  | again c' => exact ⟨h'.1, h'.2.2 (Γ.goto c') p' rfl (hb.goto c') (hk.goto h'.2.1)⟩
theorem flowC_of_tree {c : Code} {R : Flow → Shared → Prop}
    (h : wpC M (A.under c) (M.den c) (fun fin s' => match fin with | .done f => R f s' | .again c' => c'.quiet = true ∧ badCode c' = false ∧ flowC M A c' R s') s) : flowC M A c R s := fun Γ p hc hb hk => by
  rw [wpCode_iff_wp, hc]
  refine Sem.wp_mono M Γ _ (fun fin p' s' h' => ?_) (fun _ _ _ h' => h'.elim) p s (h Γ p (hc ▸ hb.in) hk)
  cases fin with
  | done f => exact ⟨f, rfl, h'⟩
  | again c' => exact ⟨h'.1, h'.2.2 (Γ.goto c') p' rfl (hb.goto c') (hk.goto h'.2.1)⟩

theorem flowC_loop {c : Code} {R : Flow → Shared → Prop} (hq : c.quiet = true) (hb : badCode c = false) (I : Nat → Shared → Prop)
    (turn : ∀ n s, I n s → wpC M (A.under c) (M.den c)
      (fun fin s' => match fin with
        | .done f => R f s'
        | .again c' => (c' = c ∧ ∃ m, m < n ∧ I m s') ∨ (c'.quiet = true ∧ badCode c' = false ∧ flowC M A c' R s')) s)
    (n : Nat) (h : I n s) : flowC M A c R s := by
  induction n using Nat.strongRecOn generalizing s with
  | ind n ih =>
    refine flowC_of_tree (wpC_mono (turn n s h) fun fin s' hf => ?_)
    cases fin with
    | done f => exact hf
    | again c' =>
      rcases hf with ⟨rfl, m, hm, hI⟩ | hf
      · exact ⟨hq, hb, ih m hm hI⟩
      · exact hf
end

/-! statements -/
section
variable {prog : Program} {w : World} {A : Around} {s : Shared} {env : Env}

theorem wpC_execs_nil {Q : Flow → Shared → Prop} (h : Q .next s) : wpC (model prog w) A (execs [] env) Q s := fun _ _ _ _ => h
theorem wpC_execs_cons {st : Stmt} {rest : List Stmt} {Q : Flow → Shared → Prop}
    (h : wpC (model prog w) A (exec st env) (fun f s' => match f with | .next => wpC (model prog w) A (execs rest env) Q s' | f => Q f s') s) :
    wpC (model prog w) A (execs (st :: rest) env) Q s := fun Γ p hi hc => by
  rw [execs_cons, Sem.wp_bind']
  refine Sem.wp_mono _ Γ _ (fun f p' s' h' => ?_) (fun _ _ _ h' => h') _ _ (h Γ p hi hc)
  cases f <;> first | exact h' Γ p' hi hc | exact h'
theorem wpC_Assign_Name {x pos' value pos} {Q : Flow → Shared → Prop}
    (h : wpC (model prog w) A (eval value env) (fun v s₁ => wpAny (model prog w) A (storeName env x v) (fun _ => Q .next) noE s₁) s)
    (hs : swapsWith value (some (.Name x pos')) pos.line env = pure false := by rfl) :
    wpC (model prog w) A (exec (.Assign [.Name x pos'] value pos) env) Q s := fun Γ p hi hc => by
  simp only [exec_Assign_Name env x pos' value pos hs, Sem.wp_bind', Sem.wp_cmd_standAt, Sem.wp_bindName, Sem.wp_pure']
  exact Sem.wp_mono _ Γ _ (fun v _ s₁ h₁ => h₁ Γ _ hi) (fun _ _ _ h' => h') _ _ (h Γ _ hi hc)
theorem wpC_Assign_Tuple {elts k tpos value pos} {Q : Flow → Shared → Prop}
    (h : wpC (model prog w) A (eval value env) (fun v s₁ => wpAny (model prog w) A (assign (.Tuple elts k tpos) env v) (fun _ => Q .next) noE s₁) s)
    (hs : swapsWithSole [.Tuple elts k tpos] value pos.line env = pure false := by rfl)
    (hw : swappedStores [.Tuple elts k tpos] value env = pure none := by rfl) :
    wpC (model prog w) A (exec (.Assign [.Tuple elts k tpos] value pos) env) Q s := by
  rw [exec_Assign]
  refine wpC_bind_of (wpAny_standAt ?_)
  rw [hs]
  refine wpC_bind (wpC_pure ?_)
  rw [if_neg (by decide)]
  refine wpC_bind (wpC_mono h (fun v s₁ h₁ => ?_))
  rw [hw]
  refine wpC_bind (wpC_pure ?_)
  show wpC _ A (do assignAll v [assign (.Tuple elts k tpos) env]; pure .next) Q s₁
  exact wpC_bind (wpC_mono (wpC.of h₁) (fun _ _ x => wpC_pure x))

theorem wpC_runOwn {c : Code} {Q : Flow → Shared → Prop} (hb : badCode c = false) (hc : flowC (model prog w) A c Q s) : wpC (model prog w) A (runOwn c env) Q s := by
  unfold runOwn
  exact wpC_onRaise (wpC_run hb hc)
theorem wpC_While {test body orelse pos} {Q : Flow → Shared → Prop} (h : flowC (model prog w) A (.whileLoop test body orelse env) Q s) :
    wpC (model prog w) A (exec (.While test body orelse pos) env) Q s := by
  rw [exec_While]; exact wpC_bind_of (wpAny_standAt (wpC_runOwn rfl h))
theorem wpC_For {target iter body orelse pos} {Q : Flow → Shared → Prop}
    (h : wpAny (model prog w) A (eval iter env) (fun x s₁ => wpAny (model prog w) A (pyIter x) (fun it s₂ =>
      flowC (model prog w) A (.forLoop target it body orelse env) Q s₂) noE s₁) noE s)
    (hs : ∀ x, foldedSetIterable iter env x = pure x := by intro _; rfl) :
    wpC (model prog w) A (exec (.For target iter body orelse pos) env) Q s := by
  rw [exec_For]
  exact wpC_bind_of (wpAny_standAt (wpC_bind_of (wpAny_mono h (fun x s₁ h₁ => wpC_bind (wpC_of_eq (hs x) (wpC_bind_of (wpAny_standAt (wpC_bind_of (wpAny_holding
    (wpAny_mono h₁ (fun it s₂ h₂ => wpC_runOwn rfl h₂) fun _ _ h' => h'))))))) fun _ _ h' => h')))
end
end Mine
namespace Mine
open Sem (wp)
section
variable {prog : Program} {w : World} {A : Around} {s : Shared} {env : Env}

theorem wpC_spliced_nil {Q : List Value → Shared → Prop} (h : Q [] s) : wpC (model prog w) A (spliced []) Q s := wpC_pure h
theorem wpC_spliced_cons {x : Sem Value} {rest : List (Bool × Sem Value)} {Q : List Value → Shared → Prop}
    (h : wpC (model prog w) A x (fun v s₁ => wpC (model prog w) A (spliced rest) (fun vs s₂ => Q (v :: vs) s₂) s₁) s) : wpC (model prog w) A (spliced ((false, x) :: rest)) Q s := by
  rw [spliced]
  refine wpC_bind (wpC_mono h fun v s₁ h₁ => ?_)
  simp only [Bool.false_eq_true, if_false]
  exact wpC_bind (wpC_pure (wpC_bind (wpC_holding (wpC_mono h₁ fun vs s₂ h₂ => wpC_pure h₂))))
theorem wpC_evalArgs {f : Value} {x : Sem Value} {rest : List (Bool × Sem Value)} {Q : Args → Shared → Prop}
    (h : wpC (model prog w) A (spliced ((false, x) :: rest)) (fun vs s' => Q ⟨vs, []⟩ s') s) : wpC (model prog w) A (evalArgs f true ((false, x) :: rest) []) Q s := by
  unfold evalArgs
  show wpC (model prog w) A (spliced ((false, x) :: rest) >>= _) Q s
  refine wpC_bind (wpC_mono h fun vs s' h' => ?_)
  refine wpC_holding ?_
  exact wpC_bind (wpC_pure (wpC_bind (wpC_pure (wpC_pure h'))))
theorem wpC_evalArgs_nil {f : Value} {Q : Args → Shared → Prop} (h : Q ⟨[], []⟩ s) : wpC (model prog w) A (evalArgs f true [] []) Q s := .of (evalArgs_nil3 h)

theorem wpC_callWith_type {pos : Pos} {T : String} {args : List (Bool × Sem Value)} {Q : Value → Shared → Prop} (hplain : args.any (·.1) = false)
    (h : wpC (model prog w) A (evalArgs (.type T) true args []) (fun a s₁ => wpC (model prog w) A (call (.type T) a.pos a.kw) Q s₁) s) :
    wpC (model prog w) A (callWith pos (.type T) [] args []) Q s := by
  unfold callWith
  refine wpC_bind (wpC_holding (wpC_mono h fun a s₁ h₁ => wpC_bind_of (wpAny_standAt ?_)))
  simp only [hplain, List.any_nil, Bool.or_false]
  refine wpC_bind (wpC_pure ?_)
  exact wpC_bind (wpC_mono h₁ fun r s₂ hr => wpC_bind_of (wpAny_holding (wpAny_point (wpC_pure hr))))

theorem wpC_callWith_fn {pos : Pos} {a : Addr} {args : List (Bool × Sem Value)} {Q : Value → Shared → Prop} (hplain : args.any (·.1) = false) (hlen : args.length ≤ 30)
    (h : wpC (model prog w) A (evalArgs (.ref a) true args []) (fun x s₁ => (∃ o fd, s₁.heap.get? a = some o ∧ o.data = .func fd) ∧ wpC (model prog w) A (call (.ref a) x.pos x.kw) Q s₁) s) :
    wpC (model prog w) A (callWith pos (.ref a) [] args []) Q s := by
  unfold callWith
  refine wpC_bind (wpC_holding (wpC_mono h fun x s₁ h₁ => wpC_bind_of (wpAny_standAt ?_)))
  obtain ⟨⟨o, fd, ho, hd⟩, h₁⟩ := h₁
  simp only [hplain, List.any_nil, Bool.or_false]
  refine wpC_bind (m := keeperOf (.ref a)) ?_
  unfold keeperOf
  refine wpC_bind_of (wpAny_load ho ?_)
  rw [hd]
  refine wpC_pure ?_
  show wpC _ _ (if args.length + 2 * ([] : List (Option Str × Sem Value)).length > 30 then _ else _) _ _
  rw [if_neg (by simp; omega)]
  unfold callMarked
  exact wpC_bind (wpC_keep (wpC_mono h₁ fun r s₂ hr => wpC_bind_of (wpAny_holding (wpAny_point (wpC_pure hr)))))

theorem wpC_Call_Name {x : Str} {p pos : Pos} {args : List Expr} {Q : Value → Shared → Prop}
    (h : wpAny (model prog w) A (eval (.Name x p) env) (fun f s₁ => wpC (model prog w) A (callWith pos f [] (backTo pos (starEach args env)) []) Q s₁) noE s) :
    wpC (model prog w) A (eval (.Call (.Name x p) args [] pos) env) Q s := by
  show wpC (model prog w) A (do callWith pos (← eval (.Name x p) env) [] (backTo pos (starEach args env)) (backToKw pos (keywordEach [] env))) Q s
  exact wpC_bind_of h

/-- a call by name of a def or a type: the arguments are evaluated from left to right -/
theorem wpC_Call_type1 {x : Str} {p pos : Pos} {e : Expr} {T : String} {Q : Value → Shared → Prop}
    (hf : ∀ K : Value → Shared → Prop, K (.type T) s → wpAny (model prog w) A (eval (.Name x p) env) K noE s)
    (h : wpC (model prog w) A (eval e env) (fun v s₁ => wpC (model prog w) A (call (.type T) [v]) Q s₁) s)
    (he : starEach [e] env = [(false, eval e env)] := by rfl) :
    wpC (model prog w) A (eval (.Call (.Name x p) [e] [] pos) env) Q s := by
  refine wpC_Call_Name (hf _ ?_)
  rw [he]
  exact wpC_callWith_type rfl (wpC_evalArgs (wpC_spliced_cons (wpC_mono h fun v s₁ h₁ => wpC_spliced_nil h₁)))
theorem wpC_Call_fn2 {x : Str} {p pos : Pos} {e₁ e₂ : Expr} {f : Addr} {Q : Value → Shared → Prop}
    (hf : ∀ K : Value → Shared → Prop, K (.ref f) s → wpAny (model prog w) A (eval (.Name x p) env) K noE s)
    (h : wpC (model prog w) A (eval e₁ env) (fun v s₁ => wpC (model prog w) A (eval e₂ env) (fun u s₂ => (∃ o fd, s₂.heap.get? f = some o ∧ o.data = .func fd) ∧ codeC (model prog w) A (.call (.ref f) ⟨[v, u], []⟩) Q s₂) s₁) s)
    (he : starEach [e₁, e₂] env = [(false, eval e₁ env), (false, eval e₂ env)] := by rfl) :
    wpC (model prog w) A (eval (.Call (.Name x p) [e₁, e₂] [] pos) env) Q s := by
  refine wpC_Call_Name (hf _ ?_)
  rw [he]
  exact wpC_callWith_fn rfl (by show 2 ≤ 30; decide) (wpC_evalArgs (wpC_spliced_cons (wpC_mono h fun v s₁ h₁ => wpC_spliced_cons (wpC_mono h₁ fun u s₂ h₂ => wpC_spliced_nil ⟨h₂.1, wpC_call h₂.2⟩))))
theorem wpC_Call_fn0 {x : Str} {p pos : Pos} {f : Addr} {Q : Value → Shared → Prop}
    (hf : ∀ K : Value → Shared → Prop, K (.ref f) s → wpAny (model prog w) A (eval (.Name x p) env) K noE s)
    (ho : ∃ o fd, s.heap.get? f = some o ∧ o.data = .func fd) (h : codeC (model prog w) A (.call (.ref f) ⟨[], []⟩) Q s) :
    wpC (model prog w) A (eval (.Call (.Name x p) [] [] pos) env) Q s := by
  refine wpC_Call_Name (hf _ ?_)
  exact wpC_callWith_fn rfl (by show 0 ≤ 30; decide) (wpC_evalArgs_nil ⟨ho, wpC_call h⟩)

/-- entering a def -/
theorem codeC_call_def {R : Value → Shared → Prop} {a : Addr} {o : Obj} {fd : FuncData} {body : List Stmt} {args : Args} {binds : List (Str × Value)}
    (hroom : A.depth < recursionLimit) (ho : s.heap.get? a = some o) (hdata : o.data = .func fd) (hlim : s.heap.NoLimit) (hcd : s.heap.CodeRec fd.code fd.qualname)
    (hbody : fd.body = .stmts body) (hbind : BindsTo s fd args binds)
    (hcell : ∀ x ∈ fd.scope.names, x.2 ≠ .cell) (hloc : ∀ x ∈ binds, fd.scope.names.lookup x.1 = some .local)
    (h : ∀ h₀, h₀.Ns s.heap.objs.size (fun x => binds.reverse.lookup x) → (∀ b o, s.heap.get? b = some o → h₀.get? b = some o) →
      wpC (model prog w) (A.deeper (callEnv fd s.heap.objs.size a)) (execs body (callEnv fd s.heap.objs.size a)) (fun f s' => R (match f with | .ret v => v | _ => .none) s')
        { s with heap := h₀, toks := s.toks + binds.length })
    (hco : fd.scope.isCoroutine = false := by rfl) (hgen : fd.scope.isGenerator = false := by rfl) (hk : fd.scope.kind = .function := by rfl) :
    codeC (model prog w) A (.call (.ref a) args) R s := by
  refine codeC_of_tree ?_
  show wpC _ A.in1 (callAny (.ref a) args) _ s
  simp only [callAny]
  refine wpC_bind_of (wpAny_load ho ?_)
  obtain ⟨c, oc, vs, tq, hc, hoc, hdc, hq⟩ := id hcd
  simp only [hdata, callFunction, hco, hgen, hbody, hc]
  refine wpC_bind_of (m := field (.ref c) 1) (wpAny_field hoc hdc hq (wpC_bind (wpC_pure ?_)))
  refine wpC_bind_of (hbind _ _ _ _ ?_)
  rw [← hc]
  refine wpC_bind_of (wpAny_newFunctionEnv hcell hloc (fun h₀ hns₀ hsb₀ => ?_) hk)
  refine wpC_bind_of (wpAny_enterFrame (hlim.fresh _ hsb₀) hroom (wpC_pure ⟨rfl, rfl, ?_⟩))
  refine codeC_of_tree ?_
  show wpC _ (A.deeper (callEnv fd s.heap.objs.size a)) (do point; match ← (execs body (callEnv fd s.heap.objs.size a)).onRaise (leaving (callEnv fd s.heap.objs.size a)) with | .ret v => ret v | _ => ret .none) _ _
  refine wpC_bind_of (wpAny_point (wpC_bind (wpC_onRaise (wpC_mono (h h₀ hns₀ fun b o e => ?_) fun f s' h' => ?_))))
  · exact hsb₀.extBut b o (Nat.ne_of_lt (Heap.lt_size e)) (Heap.get?_push_of_some _ e)
  · cases f <;> exact wpC_pure ⟨_, rfl, h'⟩

/-- a while whose turns are clean -/
theorem flowC_whileLoop {test : Expr} {body : List Stmt} {R : Flow → Shared → Prop} (I : Nat → Shared → Prop)
    (turn : ∀ n s, I n s → wpAny (model prog w) A (isTrue test env (eval test env)) (fun b s₂ =>
        if b then wpC (model prog w) A (execs body env) (fun f s₃ => match f with
            | .next | .cont => ∃ m, m < n ∧ I m s₃
            | .brk => R .next s₃
            | .ret v => R (.ret v) s₃) s₂
        else R .next s₂) noE s)
    (n : Nat) (h : I n s) : flowC (model prog w) A (.whileLoop test body [] env) R s := by
  refine flowC_loop rfl rfl I (fun n s hI => ?_) n h
  show wpC _ A ((whileTurn test body [] env).onRaise (fun x => do noteFrame x env; theTreesLotGoes x)) _ s
  refine wpC_onRaise ?_
  simp only [whileTurn]
  refine wpC_bind_of (wpAny_mono (turn n s hI) (fun b s₂ h₂ => ?_) fun _ _ h' => h')
  cases b with
  | false =>
    simp only [Bool.false_eq_true, if_false] at h₂ ⊢
    exact wpC_bind (wpC_execs_nil (wpC_pure h₂))
  | true =>
    simp only [if_true] at h₂ ⊢
    refine wpC_bind (wpC_mono h₂ fun f s₃ h₃ => ?_)
    cases f with
    | next => exact wpC_pure (.inl ⟨rfl, h₃⟩)
    | cont => exact wpC_pure (.inl ⟨rfl, h₃⟩)
    | brk => exact wpC_pure h₃
    | ret v => exact wpC_pure h₃

/-- a for whose turns are clean -/
theorem flowC_forLoop {target : Expr} {it : Value} {body : List Stmt} {R : Flow → Shared → Prop} (I : Nat → Shared → Prop)
    (turn : ∀ n s, I n s → wpAny (model prog w) A (pyNext it) (fun r s₁ => match r with
      | none => R .next s₁
      | some v => wpAny (model prog w) A (assign target env v) (fun _ s₂ => wpC (model prog w) A (execs body env) (fun f s₃ => match f with
          | .next | .cont => ∃ m, m < n ∧ I m s₃
          | .brk => R .next s₃
          | .ret v => R (.ret v) s₃) s₂) noE s₁) noE s)
    (n : Nat) (h : I n s) (ht : ∀ v, letOwnedTupleGo target it v = pure () := by intro _; rfl) : flowC (model prog w) A (.forLoop target it body [] env) R s := by
  refine flowC_loop rfl rfl I (fun n s hI => ?_) n h
  show wpC _ A ((forTurn target it body [] env).onRaise (fun x => do noteFrame x env; theTreesLotGoes x)) _ s
  refine wpC_onRaise ?_
  simp only [forTurn]
  refine wpC_bind_of (wpAny_standAt (wpC_bind (wpC_onRaise (wpC.of (wpAny_mono (turn n s hI) (fun r s₁ h₁ => ?_) fun _ _ h' => h')))))
  cases r with
  | none =>
    refine wpC_pure (.inr ⟨rfl, rfl, flowC_of_tree ?_⟩)
    show wpC _ _ (do return Fin.done (← (execs [] env).onRaise (fun x => do noteFrame x env; theTreesLotGoes x))) _ _
    exact wpC_bind (wpC_onRaise (wpC_execs_nil (wpC_pure h₁)))
  | some v =>
    refine wpC_bind (wpC_of_eq (ht v) ?_)
    refine wpC_bind_of (wpAny_mono h₁ (fun _ s₂ h₂ => wpC_bind (wpC_mono h₂ fun f s₃ h₃ => ?_)) fun _ _ h' => h')
    cases f with
    | next => exact wpC_pure (.inl ⟨rfl, h₃⟩)
    | cont => exact wpC_pure (.inl ⟨rfl, h₃⟩)
    | brk => exact wpC_pure h₃
    | ret v => exact wpC_pure h₃
end
end Mine
namespace Mine
open Sem (wp)

theorem slot_ba_init : Slot "bytearray" "__init__" "bytearray.__init__" :=
  .of (owner := "bytearray") (n := "__init__") (by rw [typeLookup_type, builtinLookup_eq_fast]; kernel_rfl) (by decide +kernel) (by decide +kernel) (by decide +kernel)
    (by first | exact .inl (by decide +kernel) | exact .inr (by decide +kernel)) (by rw [isSubtype_type]; kernel_rfl)
theorem mro_ba : mroOf (.type "bytearray") = pure [.type "bytearray", .type "object"] := by rw [mroOf_type]; kernel_rfl
theorem lookup_ba_new : typeLookup (.type "bytearray") "__new__" = pure (some (.builtin "bytearray.__new__")) := by rw [typeLookup_type, builtinLookup_eq_fast]; kernel_rfl
theorem called_ba : TypeCalled "bytearray" "bytearray.__new__" "bytearray.__init__" :=
  ⟨by decide +kernel, by decide +kernel, ⟨_, _, mro_ba⟩, madeBy_type mro_ba lookup_ba_new (by decide +kernel), by decide +kernel, by rw [isSubtype_type]; kernel_rfl, slot_ba_init⟩
theorem typeCall_ba_1 (a : Value) : checkTypeCall "bytearray" ⟨[a], []⟩ = pure () := by kernel_rfl
theorem newCall_ba_1 (a : Value) : checkBuiltinCall "bytearray.__new__" ⟨[.type "bytearray", a], []⟩ = pure () := by kernel_rfl
theorem entry_ba_new : entryFor table "bytearray.__new__" = some Builtin.«list.__new__» :=
  entryFor_alias (id' := "list.__new__") (by kernel_rfl) (by decide +kernel) (by decide +kernel) (by kernel_rfl)
theorem plain_ba_new : plainId "bytearray.__new__" = true := by decide +kernel
theorem entry_ba_init : entryFor table "bytearray.__init__" = some Builtin.«bytearray.__init__» := entryFor_of_fast (by kernel_rfl)
theorem args_ba_init (a b : Value) : argsOk "bytearray.__init__" ⟨[a, b], []⟩ := by unfold argsOk; kernel_rfl
set_option maxRecDepth 1000000 in
set_option maxHeartbeats 4000000 in
theorem owner_ba_new : ("bytearray.__new__".splitOn ".__new__").headD "" = "bytearray" := by simp +decide [String.splitOn, String.splitOnAux]
theorem sub_ba_self : isSubtype (.type "bytearray") (.type "bytearray") = pure true := by rw [isSubtype_type]; kernel_rfl

section
variable {prog : Program} {w : World} {A : Around} {E : Value → Shared → Prop} {s : Shared}

theorem code_ba_new (a : Value) {Q₁ : Value → Shared → Prop}
    (h : Q₁ (.ref s.heap.objs.size) { s with heap := s.heap.push (ba #[]) }) :
    codeAny (model prog w) A (.call (.builtin "bytearray.__new__") ⟨[.type "bytearray", a], []⟩) (wants Q₁ E) s := by
  refine codeAny_of_tree ?_
  show wpAny _ A.in1 (do checkBuiltinCall "bytearray.__new__" ⟨[.type "bytearray", a], []⟩; again (.builtin "bytearray.__new__" ⟨[.type "bytearray", a], []⟩)) _ _ s
  refine wpAny_bind (wpAny_of_eq (newCall_ba_1 a) (wpAny_pure ⟨plainId_quiet plain_ba_new _, codeAny_builtin_stack entry_ba_new rfl fun p st => ?_⟩))
  rw [Around.under_plainId plain_ba_new _]
  have hsub := sub_ba_self
  have hown := owner_ba_new
  obtain ⟨hp, g, d, tk, os⟩ := s
  simp only [hown]
  wp_walk
  exact h
end
end Mine
namespace Mine
open Sem (wp)
section
variable {prog : Program} {w : World} {A : Around} {s : Shared}

theorem badCode_builtin {id : String} {args : Args} (h : badIds.contains id = false) : badCode (.builtin id args) = false := h
theorem codeC_builtin {id : String} {args : Args} {b : Builtin} {R : Value → Shared → Prop} (hb : entryFor table id = some b)
    (h : wpC (model prog w) (A.under (.builtin id args)) (b args) (fun fin s' => match fin with | .done f => ∃ v, f = .ret v ∧ R v s' | .again c' => c'.quiet = true ∧ badCode c' = false ∧ codeC (model prog w) A c' R s') s) :
    codeC (model prog w) A (.builtin id args) R s := by
  refine codeC_of_tree ?_
  show wpC _ _ (match entryFor table id with | some b => b args | none => unsupported ((withoutEnding? id "#data").getD id)) _ s
  rw [hb]; exact h
theorem codeC_call_builtin {id : String} {args : Args} {b : Builtin} {R : Value → Shared → Prop} (hq : plainId id = true) (hbad : badIds.contains id = false) (hb : entryFor table id = some b)
    (hcheck : ∀ Q : Unit → Shared → Prop, Q () s → wpAny (model prog w) A.in1 (checkBuiltinCall id args) Q noE s)
    (h : wpC (model prog w) A.in1 (b args) (fun fin s' => match fin with | .done f => ∃ v, f = .ret v ∧ R v s' | .again c' => c'.quiet = true ∧ badCode c' = false ∧ codeC (model prog w) A c' R s') s) :
    codeC (model prog w) A (.call (.builtin id) args) R s := by
  refine codeC_of_tree ?_
  show wpC _ A.in1 (do checkBuiltinCall id args; again (.builtin id args)) _ s
  refine wpC_bind_of (hcheck _ (wpC_pure ⟨plainId_quiet hq args, hbad, codeC_builtin hb ?_⟩))
  rw [Around.under_plainId hq args]
  exact h

theorem wpC_callBa {a : Value} {Q : Value → Shared → Prop}
    (hinit : wpC (model prog w) A.in1.in1 (Builtin.«bytearray.__init__» ⟨[.ref s.heap.objs.size, a], []⟩) (fun fin s' => fin = .done (.ret .none) ∧ Q (.ref s.heap.objs.size) s') { s with heap := s.heap.push (ba #[]) }) :
    wpC (model prog w) A (call (.type "bytearray") [a]) Q s := by
  have ft := called_ba
  obtain ⟨c, tl, hmro⟩ := ft.mro
  have hmade := ft.made
  have hsub := ft.sub
  have h1 := ft.notType
  have h2 := ft.canCreate
  refine wpC_call (codeC_of_tree ?_)
  show wpC _ _ (callAny (.type "bytearray") _) _ _
  refine wpC_pure ⟨Code.quiet_builtin _ (by decide +kernel), badCode_builtin (by decide +kernel), codeC_builtin F.entry_type_call ?_⟩
  rw [Around.under_plain (weight_type_call_type "bytearray" [a] []) rfl]
  unfold Builtin.«type.__call__»
  simp only [h1, h2, Bool.false_eq_true, if_false]
  refine wpC_bind (wpC_of_eq (typeCall_ba_1 a) ?_)
  rw [hmro]
  refine wpC_bind (wpC_pure ?_)
  simp only [List.isEmpty_cons, Bool.false_eq_true, if_false]
  rw [hmade]
  refine wpC_bind (wpC_pure ?_)
  dsimp only
  refine wpC_bind (wpC_pure ?_)
  refine wpC_bind_of (wpAny_holding (wpAny_call (codeAny_mono (code_ba_new (E := noE) (Q₁ := fun obj s₁ => obj = .ref s.heap.objs.size ∧ s₁ = { s with heap := s.heap.push (ba #[]) }) a ⟨rfl, rfl⟩) fun r s₁ hr => ?_)))
  cases r with
  | error e => exact hr
  | ok fl =>
    cases fl with
    | ret obj =>
      obtain ⟨rfl, rfl⟩ := hr
      have hS : (s.heap.push (ba #[])).get? s.heap.objs.size = some (ba #[]) := Heap.get?_push_size _ rfl
      have hT : Shared.TypeIs { s with heap := s.heap.push (ba #[]) } (.ref s.heap.objs.size) "bytearray" := ⟨_, hS, rfl⟩
      refine wpC_bind_of (wpAny_isInstance (T := "bytearray") (b := true) hT hsub ?_)
      simp only [Bool.not_true, Bool.false_eq_true, if_false]
      refine wpC_bind (wpC_holding ?_)
      simp only [callSpecial?]
      refine wpC_bind_of (wpAny_specialOf hT ft.init.lookup ?_)
      simp only [ft.init.bind]
      refine wpC_holding (wpC_bind (wpC_pure (wpC_bind (wpC_mono (wpC_call (codeC_call_builtin (R := fun r s₂ => r = .none ∧ Q (.ref s.heap.objs.size) s₂) ft.init.plain (by decide +kernel) entry_ba_init
        (fun Q' hq => ft.init.check _ _ _ _ _ _ _ _ hT (args_ba_init _ _) hq) (wpC_mono hinit fun fin s' hf => ?_))) fun r s₂ hr => wpC_pure ?_))))
      · obtain ⟨rfl, hq⟩ := hf; exact ⟨_, rfl, rfl, hq⟩
      · obtain ⟨rfl, hq⟩ := hr
        simp only [bne_self_eq_false, Bool.false_eq_true, if_false]
        exact wpC_pure ⟨_, rfl, hq⟩
    | _ => exact hr.elim

/-! the parts of bytearray.__init__ -/
theorem lookup_ba_release : typeLookup (.type "bytearray") "__release_buffer__" = pure (some (.builtin "bytearray.__release_buffer__")) := by rw [typeLookup_type, builtinLookup_eq_fast]; kernel_rfl
theorem lookup_ba_buffer : typeLookup (.type "bytearray") "__buffer__" = pure (some (.builtin "bytearray.__buffer__")) := by rw [typeLookup_type, builtinLookup_eq_fast]; kernel_rfl
theorem lookup_ba_index : typeLookup (.type "bytearray") "__index__" = pure none := by rw [typeLookup_type, builtinLookup_eq_fast]; kernel_rfl
theorem lookup_list_index : typeLookup (.type "list") "__index__" = pure none := by rw [typeLookup_type, builtinLookup_eq_fast]; kernel_rfl
theorem lookup_list_buffer : typeLookup (.type "list") "__buffer__" = pure none := by rw [typeLookup_type, builtinLookup_eq_fast]; kernel_rfl

theorem ownRelease_ba {E : Value → Shared → Prop} {r : Addr} {Q : Bool → Shared → Prop} (hT : s.TypeIs (.ref r) "bytearray") (h : Q false s) : wpAny (model prog w) A (Builtin.Bytes.ownRelease (.ref r)) Q E s := by
  unfold Builtin.Bytes.ownRelease Builtin.Bytes.slotIsOwn
  refine wpAny_bind (wpAny_bind (wpAny_specialOf hT (by exact lookup_ba_release) ?_))
  generalize hid : ("bytearray.__release_buffer__" : String) = id0
  dsimp only
  rw [if_neg (by subst hid; decide +kernel)]
  rw [show id0.dropRight ("__release_buffer__".length + 1) = "bytearray" from by subst hid; decide +kernel]
  exact wpAny_isInstance (T := "bytearray") (b := true) hT sub_ba_self (wpAny_pure h)
theorem slotOwn_ba {E : Value → Shared → Prop} {r : Addr} {Q : Bool → Shared → Prop} (hT : s.TypeIs (.ref r) "bytearray") (h : Q true s) : wpAny (model prog w) A (Builtin.Bytes.slotIsOwn (.ref r) "__buffer__") Q E s := by
  unfold Builtin.Bytes.slotIsOwn
  refine wpAny_bind (wpAny_specialOf hT (by exact lookup_ba_buffer) ?_)
  generalize hid : ("bytearray.__buffer__" : String) = id0
  dsimp only
  rw [if_neg (by subst hid; decide +kernel)]
  rw [show id0.dropRight ("__buffer__".length + 1) = "bytearray" from by subst hid; decide +kernel]
  exact wpAny_isInstance (T := "bytearray") (b := true) hT sub_ba_self h

theorem exported_clean {self : Value} {l : List (Code × Pos)} (h : ∀ x ∈ l, badCode x.1 = false) : (l.any fun
    | (.builtin "bytearray.__contains__" ⟨v :: _, _⟩, _) | (.builtin "bytearray.__mod__" ⟨v :: _, _⟩, _)
    | (.builtin "bytearray.__rmod__" ⟨_ :: v :: _, _⟩, _) | (.builtin "_struct.pack_into.held" ⟨v :: _, _⟩, _) => Builtin.Bytes.sameRef v self
    | (.builtin "bytearray.find.held" ⟨_ :: _ :: held, _⟩, _) => held.any (Builtin.Bytes.sameRef self)
    | (.builtin id ⟨v :: _, _⟩, _) => Builtin.Bytes.sameRef v self && Builtin.Bytes.decodersThatHold.contains id
    | _ => false) = false := by
  rw [List.any_eq_false]
  intro x hx
  have hb := h x hx
  obtain ⟨c, p⟩ := x
  have bad : ∀ id args, c = .builtin id args → id ∈ badIds → False := fun id args e hm => by
    subst e
    have : badIds.contains id = true := List.contains_iff_mem.mpr hm
    rw [show badCode (.builtin id args) = badIds.contains id from rfl, this] at hb
    cases hb
  split
  · rename_i e; exact (bad _ _ (congrArg Prod.fst e) (by simp [badIds])).elim
  · rename_i e; exact (bad _ _ (congrArg Prod.fst e) (by simp [badIds])).elim
  · rename_i e; exact (bad _ _ (congrArg Prod.fst e) (by simp [badIds])).elim
  · rename_i e; exact (bad _ _ (congrArg Prod.fst e) (by simp [badIds])).elim
  · rename_i e; exact (bad _ _ (congrArg Prod.fst e) (by simp [badIds])).elim
  · rename_i id v _ _ _ _ _ _ _ _ e
    intro hh
    have hm := (Bool.and_eq_true_iff.mp hh).2
    exact bad _ _ (congrArg Prod.fst e) (List.mem_append_right _ (List.contains_iff_mem.mp hm))
  · exact Bool.false_ne_true

theorem wpC_exported {self : Value} {Q : Bool → Shared → Prop} (h : Q false s) : wpC (model prog w) A (Builtin.Bytes.exported self) Q s := fun Γ p _ hc => by
  have key := exported_clean (self := self) (l := (Γ.code, p) :: Γ.below) (fun x hx => by
    rcases List.mem_cons.mp hx with rfl | hx
    · exact hc.1
    · exact hc.2 x hx)
  show wp _ Γ (Sem.stack _) _ _ p s
  rw [Sem.wp_stack]
  show Q _ s
  refine Eq.mpr (congrArg (fun b => Q b s) ?_) h
  with_unfolding_all exact key
end
end Mine
namespace Mine
open Sem (wp)
section
variable {prog : Program} {w : World} {A : Around} {s : Shared}

theorem exportsOf_ba {E : Value → Shared → Prop} {r : Addr} {b : Array UInt8} {Q : Nat → Shared → Prop} (hr : s.heap.get? r = some (ba b)) (h : Q 0 s) : wpAny (model prog w) A (Builtin.Bytes.exportsOf (.ref r)) Q E s := by
  unfold Builtin.Bytes.exportsOf
  exact wpAny_bind (wpAny_load hr (wpAny_pure h))
theorem asStr_ba {E : Value → Shared → Prop} {r : Addr} {b : Array UInt8} {Q : Option Str → Shared → Prop} (hr : s.heap.get? r = some (ba b)) (h : Q none s) : wpAny (model prog w) A (asStr? (.ref r)) Q E s := by
  unfold asStr?
  exact wpAny_bind (wpAny_load hr (wpAny_pure h))
theorem asStr_list {E : Value → Shared → Prop} {r : Addr} {xs : Array Value} {Q : Option Str → Shared → Prop} (hr : s.heap.IsList r xs) (h : Q none s) : wpAny (model prog w) A (asStr? (.ref r)) Q E s := by
  obtain ⟨o, ho, hc, ne, hd⟩ := hr
  unfold asStr?
  refine wpAny_bind (wpAny_load ho ?_)
  rw [hd]
  exact wpAny_pure h
theorem empty_upd {r : Addr} {h : Heap} {b : Array UInt8} (hr : h.get? r = some (ba b)) (f : Array UInt8 → Array UInt8) :
    (h.update r (Obj.mapBytearray f)).get? r = some (ba (f b)) ∧ ∀ c o, c ≠ r → h.get? c = some o → (h.update r (Obj.mapBytearray f)).get? c = some o :=
  ⟨Heap.get?_update_self _ hr rfl, fun _ _ hc e => (Heap.get?_update_ne _ _ _ _ hc).trans e⟩

/-- the part of bytearray.__init__ that is alike for every source -/
theorem ba_init_head {r : Addr} {v : Value} {Q : Fin → Shared → Prop} {rest : Sem Fin} (hr : s.heap.get? r = some (ba #[]))
    (hk : Builtin.«bytearray.__init__» ⟨[.ref r, v], []⟩ = (do
      if ← Builtin.Bytes.ownRelease (.ref r) then unsupported "bytearray.__init__:own-__release_buffer__-on-a-subclass"
      if ← Builtin.Bytes.exported (.ref r) <||> (do return (← Builtin.Bytes.exportsOf (.ref r)) > 0) then
        if !(← Builtin.Bytes.payload (.ref r)).isEmpty then Builtin.Bytes.checkResize (.ref r)
        unsupported "bytearray.__init__:exported"
      Builtin.Bytes.write (.ref r) fun _ => #[]
      rest))
    (h : ∀ h', (∀ b o, b ≠ r → s.heap.get? b = some o → h'.get? b = some o) → h'.get? r = some (ba #[]) → wpAny (model prog w) A rest Q noE { s with heap := h' }) :
    wpC (model prog w) A (Builtin.«bytearray.__init__» ⟨[.ref r, v], []⟩) Q s := by
  rw [hk]
  refine wpC_bind_of (ownRelease_ba (ba_type hr) ?_)
  rw [if_neg (by decide)]
  refine wpC_bind (wpC_bind (wpC_exported ?_))
  show wpC _ _ (Builtin.Bytes.exportsOf (.ref r) >>= _) _ _
  refine wpC_bind_of (exportsOf_ba hr (wpC_pure ?_))
  rw [if_neg (by decide)]
  refine wpC_bind_of (ba_write hr (by simp) ?_)
  have e := empty_upd hr (fun _ => #[])
  exact .of (h _ e.2 e.1)

theorem ba_init_int {r : Addr} {n : Int} {t : Tok} {Q : Fin → Shared → Prop} (hr : s.heap.get? r = some (ba #[])) (h0 : 0 ≤ n) (h1 : n ≤ 2 ^ 24)
    (h : ∀ h', (∀ b o, b ≠ r → s.heap.get? b = some o → h'.get? b = some o) → h'.get? r = some (ba (Array.replicate n.toNat 0)) → Q (.done (.ret .none)) { s with heap := h' }) :
    wpC (model prog w) A (Builtin.«bytearray.__init__» ⟨[.ref r, .int n t], []⟩) Q s := by
  refine ba_init_head hr (by rfl) fun h' hk hr' => ?_
  refine wpAny_bind (wpAny_of_eq (a := none) (by rfl) ?_)
  rw [if_neg (by decide)]
  refine wpAny_bind (wpAny_of_eq (a := ()) (by rfl) ?_)
  refine wpAny_bind (wpAny_specialOf (T := "int") (typeIs_int _ n t) int_index ?_)
  dsimp only
  rw [if_pos (show (some (Value.builtin "int.__index__")).isSome = true from rfl)]
  refine wpAny_bind (wpAny_attempt (wpAny_of_eq (a := n) rfl ?_))
  dsimp only
  rw [if_neg (by unfold Builtin.Bytes.fitsIndex; simp; omega), if_neg (by omega), if_neg (by simp; omega), if_neg (by unfold Builtin.Bytes.tooLong sizeLine; simp; omega)]
  refine wpAny_bind (wpAny_rule ?_)
  by_cases hn : n > 0
  · rw [if_pos hn]
    refine wpAny_bind (ba_write hr' (by simp [sizeLine]; omega) (wpAny_pure ?_))
    have e := empty_upd hr' (fun _ => Array.replicate n.toNat 0)
    exact h _ (fun b o hb x => e.2 b o hb (hk b o hb x)) e.1
  · rw [if_neg hn]
    have : n = 0 := by omega
    subst this
    exact wpAny_pure (h _ hk hr')

theorem ba_init_ba {r q : Addr} {b : Array UInt8} {Q : Fin → Shared → Prop} (hr : s.heap.get? r = some (ba #[])) (hq : s.heap.get? q = some (ba b)) (hne : q ≠ r) (hz : b.size ≤ 2 ^ 24)
    (h : ∀ h', (∀ b o, b ≠ r → s.heap.get? b = some o → h'.get? b = some o) → h'.get? r = some (ba b) → Q (.done (.ret .none)) { s with heap := h' }) :
    wpC (model prog w) A (Builtin.«bytearray.__init__» ⟨[.ref r, .ref q], []⟩) Q s := by
  refine ba_init_head hr (by rfl) fun h' hk hr' => ?_
  have hq' := hk q _ hne hq
  have hT : Shared.TypeIs { s with heap := h' } (.ref q) "bytearray" := ⟨_, hq', rfl⟩
  refine wpAny_bind (asStr_ba hq' ?_)
  rw [if_neg (by decide)]
  refine wpAny_bind (wpAny_of_eq (a := ()) (by rfl) ?_)
  refine wpAny_bind (wpAny_specialOf hT (by exact lookup_ba_index) ?_)
  dsimp only
  rw [if_neg (by decide)]
  refine wpAny_bind ?_
  unfold Builtin.Bytes.buffer?
  refine wpAny_bind (wpAny_specialOf hT (by exact lookup_ba_buffer) ?_)
  refine wpAny_bind (slotOwn_ba hT ?_)
  rw [if_neg (by decide)]
  refine wpAny_bind (wpAny_specialOf hT (by exact lookup_ba_buffer) ?_)
  show wpAny _ _ (Builtin.Bytes.ownRelease (.ref q) >>= _) _ _ _
  refine wpAny_bind (ownRelease_ba hT ?_)
  rw [if_neg (by decide)]
  refine wpAny_bind (ba_payload hq' (wpAny_pure ?_))
  dsimp only
  refine wpAny_bind (wpAny_rule ?_)
  refine wpAny_bind (ba_write hr' hz (wpAny_pure ?_))
  have e := empty_upd hr' (fun _ => b)
  exact h _ (fun c o hc x => e.2 c o hc (hk c o hc x)) e.1

/-- a list of ints that are octets -/
def OctVals : List Value → List Nat → Prop
  | [], [] => True
  | v :: vs, n :: ns => (∃ t, v = .int (n : Int) t) ∧ n < 256 ∧ OctVals vs ns
  | _, _ => False
theorem OctVals.length : ∀ {vs : List Value} {ns : List Nat}, OctVals vs ns → vs.length = ns.length
  | [], [], _ => rfl
  | _ :: _, _ :: _, ⟨_, _, hr⟩ => by simp [OctVals.length hr]
  | [], _ :: _, h => h.elim
  | _ :: _, [], h => h.elim
theorem OctVals.take {p : Value → Bool} (hp : ∀ (n : Nat) t, n < 256 → p (.int (n : Int) t) = true) : ∀ {vs : List Value} {ns : List Nat}, OctVals vs ns → vs.takeWhile p = vs
  | [], [], _ => rfl
  | v :: vs, n :: ns, ⟨⟨t, e⟩, hn, hr⟩ => by subst e; rw [List.takeWhile_cons, hp n t hn, if_pos rfl, OctVals.take hp hr]
  | [], _ :: _, h => h.elim
  | _ :: _, [], h => h.elim
theorem OctVals.map {f : Value → Option UInt8} (hf : ∀ (n : Nat) t, f (.int (n : Int) t) = some n.toUInt8) : ∀ {vs : List Value} {ns : List Nat}, OctVals vs ns → vs.filterMap f = ns.map Nat.toUInt8
  | [], [], _ => rfl
  | v :: vs, n :: ns, ⟨⟨t, e⟩, hn, hr⟩ => by subst e; rw [List.filterMap_cons, hf n t]; simp only [List.map_cons, OctVals.map hf hr]
  | [], _ :: _, h => h.elim
  | _ :: _, [], h => h.elim

theorem ba_init_list {r q : Addr} {vs : List Value} {ns : List Nat} {Q : Fin → Shared → Prop} (hr : s.heap.get? r = some (ba #[])) (hq : s.heap.IsList q vs.toArray) (hne : q ≠ r) (hv : OctVals vs ns) (hz : ns.length ≤ 2 ^ 24)
    (h : ∀ h', (∀ b o, b ≠ r → s.heap.get? b = some o → h'.get? b = some o) → h'.get? r = some (ba (ns.map Nat.toUInt8).toArray) → Q (.done (.ret .none)) { s with heap := h' }) :
    wpC (model prog w) A (Builtin.«bytearray.__init__» ⟨[.ref r, .ref q], []⟩) Q s := by
  refine ba_init_head hr (by rfl) fun h' hk hr' => ?_
  have hq' : h'.IsList q vs.toArray := hq.at fun o e => hk q o hne e
  have hT : Shared.TypeIs { s with heap := h' } (.ref q) "list" := Heap.IsList.typeIs (s := { s with heap := h' }) hq'
  refine wpAny_bind (asStr_list hq' ?_)
  rw [if_neg (by decide)]
  refine wpAny_bind (wpAny_of_eq (a := ()) (by rfl) ?_)
  refine wpAny_bind (wpAny_specialOf hT (by exact lookup_list_index) ?_)
  dsimp only
  rw [if_neg (by decide)]
  refine wpAny_bind ?_
  unfold Builtin.Bytes.buffer?
  refine wpAny_bind (wpAny_specialOf hT (by exact lookup_list_buffer) ?_)
  refine wpAny_bind (wpAny_specialOf hT (by exact lookup_list_buffer) (wpAny_pure ?_))
  dsimp only
  refine wpAny_bind (wpAny_typeOf hT ?_)
  rw [if_pos (by decide)]
  obtain ⟨o, ho, hc, ne, hd⟩ := id hq'
  refine wpAny_bind (wpAny_seqItems ho hd ?_)
  dsimp only
  rw [hv.take (fun n t hn => by simp; omega), hv.map (fun n t => by simp), List.getElem?_toArray, List.getElem?_eq_none (Nat.le_refl _)]
  dsimp only
  refine wpAny_bind (wpAny_rule ?_)
  refine wpAny_bind (ba_write hr' (by rw [List.size_toArray, List.length_map]; exact hz) (wpAny_pure ?_))
  have e := empty_upd hr' (fun _ => (ns.map Nat.toUInt8).toArray)
  exact h _ (fun c o hc x => e.2 c o hc (hk c o hc x)) e.1

/-! the three calls -/
theorem push_keeps {h : Heap} {o : Obj} {h' : Heap} (hk : ∀ b x, b ≠ h.objs.size → (h.push o).get? b = some x → h'.get? b = some x) : ∀ b x, h.get? b = some x → h'.get? b = some x :=
  fun b x e => hk b x (Nat.ne_of_lt (Heap.lt_size e)) (Heap.get?_push_of_some _ e)

theorem baC_int {n : Int} {t : Tok} {Q : Value → Shared → Prop} (h0 : 0 ≤ n) (h1 : n ≤ 2 ^ 24)
    (h : ∀ h', (∀ b o, s.heap.get? b = some o → h'.get? b = some o) → h'.get? s.heap.objs.size = some (ba (Array.replicate n.toNat 0)) → Q (.ref s.heap.objs.size) { s with heap := h' }) :
    wpC (model prog w) A (call (.type "bytearray") [.int n t]) Q s :=
  wpC_callBa (ba_init_int (s := { s with heap := s.heap.push (ba #[]) }) (Heap.get?_push_size _ rfl) h0 h1 fun h' hk hr => ⟨rfl, h h' (push_keeps hk) hr⟩)
theorem baC_ba {q : Addr} {b : Array UInt8} {Q : Value → Shared → Prop} (hq : s.heap.get? q = some (ba b)) (hz : b.size ≤ 2 ^ 24)
    (h : ∀ h', (∀ b o, s.heap.get? b = some o → h'.get? b = some o) → h'.get? s.heap.objs.size = some (ba b) → Q (.ref s.heap.objs.size) { s with heap := h' }) :
    wpC (model prog w) A (call (.type "bytearray") [.ref q]) Q s :=
  wpC_callBa (ba_init_ba (s := { s with heap := s.heap.push (ba #[]) }) (Heap.get?_push_size _ rfl) (Heap.get?_push_of_some _ hq) (Nat.ne_of_lt (Heap.lt_size hq)) hz fun h' hk hr => ⟨rfl, h h' (push_keeps hk) hr⟩)
theorem baC_list {q : Addr} {vs : List Value} {ns : List Nat} {Q : Value → Shared → Prop} (hq : s.heap.IsList q vs.toArray) (hv : OctVals vs ns) (hz : ns.length ≤ 2 ^ 24)
    (h : ∀ h', (∀ b o, s.heap.get? b = some o → h'.get? b = some o) → h'.get? s.heap.objs.size = some (ba (ns.map Nat.toUInt8).toArray) → Q (.ref s.heap.objs.size) { s with heap := h' }) :
    wpC (model prog w) A (call (.type "bytearray") [.ref q]) Q s := by
  obtain ⟨o, ho, r⟩ := id hq
  exact wpC_callBa (ba_init_list (s := { s with heap := s.heap.push (ba #[]) }) (Heap.get?_push_size _ rfl) (hq.push _) (Nat.ne_of_lt (Heap.lt_size ho)) hv hz fun h' hk hr => ⟨rfl, h h' (push_keeps hk) hr⟩)
end
end Mine
namespace Mine

theorem slot_ba_iter : Slot "bytearray" "__iter__" "bytearray.__iter__" :=
  .of (owner := "bytearray") (n := "__iter__") (by rw [typeLookup_type, builtinLookup_eq_fast]; kernel_rfl) (by decide +kernel) (by decide +kernel) (by decide +kernel)
    (by first | exact .inl (by decide +kernel) | exact .inr (by decide +kernel)) (by rw [isSubtype_type]; kernel_rfl)
theorem slot_bait_next : Slot "bytearray_iterator" "__next__" "bytearray_iterator.__next__" :=
  .of (owner := "bytearray_iterator") (n := "__next__") (by rw [typeLookup_type, builtinLookup_eq_fast]; kernel_rfl) (by decide +kernel) (by decide +kernel) (by decide +kernel)
    (by first | exact .inl (by decide +kernel) | exact .inr (by decide +kernel)) (by rw [isSubtype_type]; kernel_rfl)
theorem slot_bait_iter : Slot "bytearray_iterator" "__iter__" "bytearray_iterator.__iter__" :=
  .of (owner := "bytearray_iterator") (n := "__iter__") (by rw [typeLookup_type, builtinLookup_eq_fast]; kernel_rfl) (by decide +kernel) (by decide +kernel) (by decide +kernel)
    (by first | exact .inl (by decide +kernel) | exact .inr (by decide +kernel)) (by rw [isSubtype_type]; kernel_rfl)
theorem entry_bait_iter : entryFor table "bytearray_iterator.__iter__" = some Builtin.«dict_keyiterator.__iter__» :=
  entryFor_alias (id' := "dict_keyiterator.__iter__") (by kernel_rfl) (by first | rfl | decide +kernel) (by decide +kernel) (by kernel_rfl)
theorem args_bait_iter (a : Value) : argsOk "bytearray_iterator.__iter__" ⟨[a], []⟩ := by unfold argsOk; kernel_rfl
theorem entry_ba_iter : entryFor table "bytearray.__iter__" = some Builtin.«bytearray.__iter__» := entryFor_of_fast (by kernel_rfl)
theorem entry_bait_next : entryFor table "bytearray_iterator.__next__" = some Builtin.«bytearray_iterator.__next__» := entryFor_of_fast (by kernel_rfl)
theorem args_ba_iter (a : Value) : argsOk "bytearray.__iter__" ⟨[a], []⟩ := by unfold argsOk; kernel_rfl
theorem args_bait_next (a : Value) : argsOk "bytearray_iterator.__next__" ⟨[a], []⟩ := by unfold argsOk; kernel_rfl

def baIter (r : Addr) (i : Nat) : Obj := { cls := .type "bytearray_iterator", data := .fields #[.ref r, .int i 0] }

section
variable {prog : Program} {w : World} {A : Around} {E : Value → Shared → Prop} {s : Shared} {r : Addr} {b : Array UInt8}

theorem ba_len {Q : Value → Shared → Prop} (hr : s.heap.get? r = some (ba b)) (hz : b.size ≤ 2 ^ 24)
    (h : Q (.int b.size (s.toks + 1)) { s with toks := s.toks + 1 + 1 }) : wpAny (model prog w) A (call (.builtin "len") [.ref r]) Q E s := by
  refine Calls.call_function_entry kind_len plain_len entry_len (args_len1 _) ?_
  unfold Builtin.«len»
  refine wpAny_bind (m := oneArg "len" _) (wpAny_pure ?_)
  refine wpAny_bind (m := callSpecial? (.ref r) (Str.ofString "__len__")) (wpAny_callSpecial?_slot (name := Str.ofString "__len__") (ba_type hr) slot_ba_len
    (wpAny_call_entry slot_ba_len (ba_type hr) entry_ba_len ?_ (args_ba_len _)))
  show wpAny _ _ (do retInt (← Builtin.Bytes.payload (.ref r)).size) _ _ s
  refine wpAny_bind (ba_payload hr ?_)
  refine wpAny_bind (wpAny_mkInt (wpAny_pure ⟨_, rfl, ?_⟩))
  refine wpAny_bind (wpAny_holding (wpAny_pure ?_))
  refine wpAny_bind (wpAny_letGo ?_)
  show wpAny _ _ (if ((b.size : Nat) : Int) < 0 then _ else _) _ _ _
  rw [if_neg (by omega)]
  show wpAny _ _ (if ((b.size : Nat) : Int) ≥ 2 ^ 63 then _ else _) _ _ _
  rw [if_neg (by omega)]
  exact wpAny_bind (wpAny_mkInt (wpAny_pure ⟨_, rfl, h⟩))

def bytesPart (v : Value) : Sem Value := do
  if v == .none then return .none
  if (← specialOf v "__index__").isNone then
    rule "bytes.slice.part-no-index"; raiseError "TypeError" "slice indices must be integers or None or have an __index__ method"
  return rawInt (← asIndex v)
theorem sliceParts_eq (s : Value) : Builtin.Bytes.sliceParts s = (do
    let step ← bytesPart (← field s 2)
    if step == rawInt 0 then rule "bytes.slice.step-zero"; raiseError "ValueError" "slice step cannot be zero"
    let first ← bytesPart (← field s 0)
    let last ← bytesPart (← field s 1)
    return (first, last, step)) := rfl
theorem ba_part {v : Value} {k : Option Int} {Q : Value → Shared → Prop} (hv : IsPart v k) (h : Q (rawPart k) s) : wpAny (model prog w) A (bytesPart v) Q E s := by
  cases hv with
  | none => exact wpAny_pure h
  | int i t =>
    unfold bytesPart
    rw [if_neg (show ¬ ((Value.int i t == Value.none) = true) from Bool.false_ne_true)]
    refine wpAny_bind (wpAny_specialOf (T := "int") (typeIs_int s i t) int_index ?_)
    simp only [Option.isNone_some, Bool.false_eq_true, if_false]
    exact wpAny_bind (wpAny_of_eq (a := i) rfl (wpAny_pure h))
theorem ba_sliceParts {sl : Addr} {vl vu : Value} {lo hi : Option Int} {Q : Value × Value × Value → Shared → Prop} (hs : s.heap.IsSliceOf sl vl vu .none) (pl : IsPart vl lo) (pu : IsPart vu hi)
    (h : Q (rawPart lo, rawPart hi, .none) s) : wpAny (model prog w) A (Builtin.Bytes.sliceParts (.ref sl)) Q E s := by
  obtain ⟨os, hos, hcs, hds⟩ := hs
  rw [sliceParts_eq]
  refine wpAny_bind (wpAny_field hos hds (x := .none) rfl (wpAny_bind (ba_part .none ?_)))
  rw [if_neg (by exact Bool.false_ne_true)]
  refine wpAny_bind (wpAny_field hos hds (x := vl) rfl (wpAny_bind (ba_part pl ?_)))
  exact wpAny_bind (wpAny_field hos hds (x := vu) rfl (wpAny_bind (ba_part pu (wpAny_pure h))))
theorem ba_subscript_slice {sl : Addr} {Q : Option Int → Shared → Prop} (hT : s.TypeIs (.ref sl) "slice") (h : Q none s) : wpAny (model prog w) A (Builtin.Bytes.subscript? (.ref sl)) Q E s := by
  unfold Builtin.Bytes.subscript?
  refine wpAny_bind (wpAny_specialOf hT slice_no_index ?_)
  exact wpAny_pure h

/-- what a slice by ones takes -/
def cutOf (b : Array UInt8) (lo hi : Option Int) : Array UInt8 := Builtin.Bytes.sliced b (sliceBounds lo hi none b.size).1 (sliceBounds lo hi none b.size).2.1 1
theorem cutOf_size (b : Array UInt8) (lo hi : Option Int) : (cutOf b lo hi).size ≤ b.size := by
  unfold cutOf Builtin.Bytes.sliced
  rw [List.size_toArray]
  refine Nat.le_trans (List.length_filterMap_le _ _) (sliceRange_length_le _ _ _ _ (fun _ => ?_) fun hc => absurd (by decide) hc)
  unfold sliceBounds
  constructor
  · cases lo with
    | none => simp
    | some i => simp; omega
  · cases hi with
    | none => simp
    | some i => simp; omega

theorem ba_getSlice {sl : Addr} {vl vu : Value} {lo hi : Option Int} {Q : Value → Shared → Prop} (hr : s.heap.get? r = some (ba b)) (hs : s.heap.IsSliceOf sl vl vu .none) (pl : IsPart vl lo) (pu : IsPart vu hi) (hz : b.size ≤ 2 ^ 24)
    (h : Q (.ref s.heap.objs.size) { s with heap := s.heap.push (ba (cutOf b lo hi)) }) : wpAny (model prog w) A (getItem (.ref r) (.ref sl)) Q E s := by
  obtain ⟨os, hos, hcs, hds⟩ := id hs
  have hTs : s.TypeIs (.ref sl) "slice" := ⟨os, hos, hcs⟩
  unfold getItem
  try with_reducible refine wpAny_holding ?_
  first | refine wpAny_bind (wpAny_pure ?_) | skip
  refine wpAny_bind (wpAny_sequenceKey (ba_type hr) (by decide) ?_)
  refine wpAny_bind (wpAny_callSpecial?_slot (name := Str.ofString "__getitem__") (ba_type hr) slot_ba_getitem
    (wpAny_call_entry slot_ba_getitem (ba_type hr) entry_ba_getitem ?_ (args_ba_getitem _ _)))
  show wpAny _ _ (Builtin.Bytes.subscript? (.ref sl) >>= _) _ _ s
  refine wpAny_bind (ba_subscript_slice hTs ?_)
  show wpAny _ _ (typeOf (.ref sl) >>= _) _ _ s
  refine wpAny_bind (wpAny_typeOf hTs ?_)
  rw [if_neg (by decide)]
  refine wpAny_bind (ba_sliceParts hs pl pu ?_)
  refine wpAny_bind (ba_payload hr ?_)
  refine wpAny_bind (wpAny_of_eq (sliceIndices_raw lo hi none b.size (by simp)) ?_)
  have hz' : (cutOf b lo hi).size ≤ sizeLine := Nat.le_trans (cutOf_size b lo hi) hz
  show wpAny _ _ (Builtin.Bytes.newBytearray (cutOf b lo hi) >>= _) _ _ s
  unfold Builtin.Bytes.newBytearray
  refine wpAny_bind (wpAny_newObj_type (wpAny_pure ⟨_, rfl, wpAny_pure h⟩) hz')

theorem ba_setSlice {sl q : Addr} {vl vu : Value} {lo hi : Option Int} {b' : Array UInt8} {Q : Unit → Shared → Prop} (hr : s.heap.get? r = some (ba b)) (hq : s.heap.get? q = some (ba b')) (hne : r ≠ q)
    (hs : s.heap.IsSliceOf sl vl vu .none) (pl : IsPart vl lo) (pu : IsPart vu hi) (hz : b.size ≤ 2 ^ 24)
    (hfit : (b'.size : Int) = max (sliceBounds lo hi none b.size).1 (sliceBounds lo hi none b.size).2.1 - (sliceBounds lo hi none b.size).1)
    (hsz : (b.extract 0 (sliceBounds lo hi none b.size).1.toNat ++ b' ++ b.extract (max (sliceBounds lo hi none b.size).1 (sliceBounds lo hi none b.size).2.1).toNat b.size).size ≤ 2 ^ 24)
    (h : ∀ h', (∀ c o, c ≠ r → s.heap.get? c = some o → h'.get? c = some o) →
      h'.get? r = some (ba (b.extract 0 (sliceBounds lo hi none b.size).1.toNat ++ b' ++ b.extract (max (sliceBounds lo hi none b.size).1 (sliceBounds lo hi none b.size).2.1).toNat b.size)) → Q () { s with heap := h' }) :
    wpAny (model prog w) A (setItem (.ref r) (.ref sl) (.ref q)) Q E s := by
  obtain ⟨os, hos, hcs, hds⟩ := id hs
  have hTs : s.TypeIs (.ref sl) "slice" := ⟨os, hos, hcs⟩
  unfold setItem
  try with_reducible refine wpAny_holding ?_
  first | refine wpAny_bind (wpAny_pure ?_) | skip
  refine wpAny_bind (wpAny_sequenceKey (ba_type hr) (by decide) ?_)
  refine wpAny_bind (wpAny_callSpecial?_slot (name := Str.ofString "__setitem__") (ba_type hr) slot_ba_setitem
    (wpAny_call_entry slot_ba_setitem (ba_type hr) entry_ba_setitem ?_ (args_ba_setitem _ _ _)))
  show wpAny _ _ (Builtin.Bytes.subscript? (.ref sl) >>= _) _ _ s
  refine wpAny_bind (ba_subscript_slice hTs ?_)
  show wpAny _ _ (typeOf (.ref sl) >>= _) _ _ s
  refine wpAny_bind (wpAny_typeOf hTs ?_)
  dsimp only
  rw [if_neg (by decide)]
  refine wpAny_bind (ba_sliceParts hs pl pu ?_)
  rw [if_neg (by simp [Builtin.Bytes.sameRef, hne])]
  refine wpAny_bind (wpAny_isInstance (T := "bytearray") (b := true) (ba_type hq) sub_ba_self ?_)
  rw [if_neg (by decide)]
  refine wpAny_bind (ba_payload hq ?_)
  refine wpAny_bind (ba_payload hr ?_)
  refine wpAny_bind (wpAny_of_eq (sliceIndices_raw lo hi none b.size (by simp)) ?_)
  have h1 : (sliceBounds lo hi none b.size).2.2 = 1 := rfl
  rw [if_pos (by rw [h1]; rfl)]
  refine wpAny_bind (wpAny_rule ?_)
  rw [if_neg (by simpa using hfit)]
  refine wpAny_bind (ba_write hr hsz ?_)
  have e := empty_upd hr (fun b_1 => b_1.extract 0 (sliceBounds lo hi none b.size).1.toNat ++ b' ++ b_1.extract (max (sliceBounds lo hi none b.size).1 (sliceBounds lo hi none b.size).2.1).toNat b_1.size)
  exact wpAny_pure ⟨.none, rfl, wpAny_pure (h _ e.2 e.1)⟩

/-! walking a bytearray, list(bytearray) -/
theorem ba_pyIter {Q : Value → Shared → Prop} (hr : s.heap.get? r = some (ba b)) (hQ : Q (.ref s.heap.objs.size) { s with heap := s.heap.push (baIter r 0) }) : wpAny (model prog w) A (pyIter (.ref r)) Q E s := by
  refine wpAny_pyIter_slot (ba_type hr) slot_ba_iter (wpAny_call_entry slot_ba_iter (ba_type hr) entry_ba_iter ?_ (args_ba_iter _))
  show wpAny _ _ (do ret (← newFields "bytearray_iterator" [.ref r, rawInt 0])) _ _ s
  exact wpAny_bind (wpAny_newObj_type (wpAny_pure ⟨_, rfl, "bytearray_iterator", _, ⟨_, Heap.get?_push_size _ rfl, rfl⟩, slot_bait_next.lookup, hQ⟩))
theorem baIter_type {I : Addr} {i : Nat} (hI : s.heap.get? I = some (baIter r i)) : s.TypeIs (.ref I) "bytearray_iterator" := ⟨_, hI, rfl⟩
theorem ba_next_item {I : Addr} {i : Nat} {c : UInt8} {Q : Option Value → Shared → Prop} (hI : s.heap.get? I = some (baIter r i)) (hr : s.heap.get? r = some (ba b)) (hx : b[i]? = some c)
    (hQ : ∀ h', h'.get? I = some (baIter r (i + 1)) → Heap.SameBut I s.heap h' → Q (some (.int c.toNat s.toks)) { s with heap := h', toks := s.toks + 1 }) : wpAny (model prog w) A (pyNext (.ref I)) Q E s := by
  unfold pyNext
  refine wpAny_bind (wpAny_attempt (wpAny_callSpecial?_slot (name := Str.ofString "__next__") (baIter_type hI) slot_bait_next
    (wpAny_call_entry slot_bait_next (baIter_type hI) entry_bait_next ?_ (args_bait_next _))))
  show wpAny _ _ (field (.ref I) 0 >>= _) _ _ s
  refine wpAny_bind (wpAny_field hI rfl (x := .ref r) rfl ?_)
  show wpAny _ _ (load r >>= _) _ _ s
  refine wpAny_bind (wpAny_load hr ?_)
  show wpAny _ _ (field (.ref I) 1 >>= _) _ _ s
  refine wpAny_bind (wpAny_field hI rfl (x := .int i 0) rfl ?_)
  simp only [Int.toNat_natCast, hx]
  refine wpAny_bind (wpAny_setField hI rfl (by simp) (wpAny_bind (wpAny_mkInt (wpAny_pure ⟨_, rfl, wpAny_pure (hQ _ ?_ (Heap.SameBut.update ..))⟩))))
  exact Heap.get?_update_self _ hI rfl
theorem ba_next_end {I : Addr} {i : Nat} {Q : Option Value → Shared → Prop} (hh : A.handled = none) (hI : s.heap.get? I = some (baIter r i)) (hr : s.heap.get? r = some (ba b)) (hx : b[i]? = none)
    (hQ : ∀ h', Heap.ExtBut I s.heap h' → Q none { s with heap := h' }) : wpAny (model prog w) A (pyNext (.ref I)) Q E s := by
  unfold pyNext
  refine wpAny_bind (wpAny_attempt (wpAny_callSpecial?_slot (name := Str.ofString "__next__") (baIter_type hI) slot_bait_next
    (wpAny_call_entry slot_bait_next (baIter_type hI) entry_bait_next ?_ (args_bait_next _))))
  show wpAny _ _ (field (.ref I) 0 >>= _) _ _ s
  refine wpAny_bind (wpAny_field hI rfl (x := .ref r) rfl ?_)
  show wpAny _ _ (load r >>= _) _ _ s
  refine wpAny_bind (wpAny_load hr ?_)
  show wpAny _ _ (field (.ref I) 1 >>= _) _ _ s
  refine wpAny_bind (wpAny_field hI rfl (x := .int i 0) rfl ?_)
  simp only [Int.toNat_natCast, hx]
  refine wpAny_bind (wpAny_rule (wpAny_bind (wpAny_setField hI rfl (by simp) (wpAny_bind (wpAny_letGo ?_)))))
  show wpAny _ _ (newExc (.type "StopIteration") [] >>= _) _ _ _
  refine wpAny_bind ?_
  simp only [newExc, newTuple]
  refine wpAny_bind (wpAny_newObj_type ?_ (by size_fits))
  refine wpAny_bind (m := firstArgMember _ _) (wpAny_of_eq (a := Value.none) (by first | rfl | (simp only [firstArgMember]; rfl)) ?_)
  refine wpAny_newObj_type ?_ (by size_fits)
  simp only [raiseNew]
  refine wpAny_bind (wpAny_handled ?_)
  rw [show A.in1.handled = none from hh]
  refine wpAny_bind (wpAny_pure (wpAny_throw ?_))
  refine wpAny_bind (wpAny_isInstance (T := "StopIteration") (b := true) ⟨_, Heap.get?_push_size _ rfl, rfl⟩ isSubtype_stop ?_)
  exact wpAny_pure (hQ _ (((Heap.SameBut.update ..).extBut.push _).push _))

theorem walks_ba (hh : A.handled = none) (I r : Addr) (hne : r ≠ I) (b : Array UInt8) :
    Walks prog w A I [I, r] [I] b.size (fun i v => ∃ t, v = .int ((b.getD i 0).toNat : Int) t) (fun i h => h.get? I = some (baIter r i) ∧ h.get? r = some (ba b)) where
  sub := fun b hb => by simp at hb; simp [hb]
  frame := fun _ _ _ st hk => ⟨hk I (by simp) _ st.1, hk r (by simp) _ st.2⟩
  item := fun i s Q E hi st hQ => by
    refine ba_next_item st.1 st.2 (c := b[i]) (by simp [hi]) fun h' hI hs' => ?_
    exact hQ _ h' _ ⟨s.toks, by simp [hi]⟩ ⟨hI, hs'.extBut r _ hne st.2⟩ fun b o hb e => hs'.extBut b o (fun h => hb (by simp [h])) e
  done := fun s Q E st hQ => ba_next_end hh st.1 st.2 (by simp) fun h' he' => hQ h' s.toks fun b o hb e => he' b o (fun h => hb (by simp [h])) e
  self := fun i s Q E st hQ => by
    refine wpAny_pyIter_slot (baIter_type st.1) slot_bait_iter (wpAny_call_entry slot_bait_iter (baIter_type st.1) entry_bait_iter ?_ (args_bait_iter _))
    exact wpAny_pure ⟨_, rfl, "bytearray_iterator", _, baIter_type st.1, slot_bait_next.lookup, hQ⟩
end
end Mine
namespace Mine
section
variable {prog : Program} {w : World} {A : Around} {E : Value → Shared → Prop} {s : Shared} {r : Addr} {b : Array UInt8}

theorem ba_hint {Q : Bool → Shared → Prop} (hr : s.heap.get? r = some (ba b)) (h : Q false s) : wpAny (model prog w) A (Builtin.List.listLengthHint (.ref r)) Q E s := by
  unfold Builtin.List.listLengthHint
  refine wpAny_bind (wpAny_specialOf (ba_type hr) slot_ba_len.lookup ?_)
  generalize hid : ("bytearray.__len__" : String) = id0
  dsimp only
  rw [show splitId id0 = some ("bytearray", "__len__") from by subst hid; decide +kernel]
  dsimp only
  refine wpAny_bind (wpAny_isInstance (T := "bytearray") (b := true) (ba_type hr) sub_ba_self ?_)
  rw [if_neg (by decide), if_pos (by subst hid; decide +kernel)]
  refine wpAny_bind (wpAny_typeOf (ba_type hr) ?_)
  exact wpAny_pure h

theorem ba_extend {R : Result → Shared → Prop} (hh : A.handled = none) (hr : s.heap.get? r = some (ba b)) (hz : b.size ≤ 2 ^ 24) (S : Addr) (res : Value) (c₀ : Nat) (hS : s.heap.get? S = some { cls := .type "list", data := .seq #[] c₀ })
    (hR : ∀ h' tk acc' c', (∀ b o, b ≠ S → s.heap.get? b = some o → h'.get? b = some o) → h'.get? S = some { cls := .type "list", dict := none, data := .seq acc' c', slots := #[] } →
      ItemsOf (fun i v => ∃ t, v = .int ((b.getD i 0).toNat : Int) t) acc' b.size → R (.ok (.ret res)) { s with heap := h', toks := tk }) :
    wpAny (model prog w) A.in1 (Builtin.List.listExtendWith (.ref S) (.ref r) res)
      (fun fin s' => match fin with | .done f => R (.ok f) s' | .again c' => c'.quiet = true ∧ codeAny (model prog w) A c' R s') (fun e s' => R (.error e) s') s := by
  have hSr : S ≠ r := fun e => by rw [e, hr] at hS; simp at hS
  have hSlt : S < s.heap.objs.size := Heap.lt_size hS
  have hSI : S ≠ s.heap.objs.size := Nat.ne_of_lt hSlt
  have hrI : r ≠ s.heap.objs.size := Nat.ne_of_lt (Heap.lt_size hr)
  have hSf : S ∉ [s.heap.objs.size, r] := fun hm => by
    rcases List.mem_cons.mp hm with e | hm
    · exact hSI e
    · exact hSr (List.mem_singleton.mp hm)
  have W := (walks_ba (prog := prog) (w := w) (A := A.in1) hh s.heap.objs.size r hrI b).toS
  unfold Builtin.List.listExtendWith
  refine wpAny_bind (wpAny_typeOf (T := "bytearray") (ba_type hr) ?_)
  have h1 : Builtin.List.listSameRef (.ref S) (.ref r) = false := by simp [Builtin.List.listSameRef, hSr]
  have h2 : (Value.type "bytearray" == Value.type "list") = false := by decide
  have h3 : (Value.type "bytearray" == Value.type "tuple") = false := by decide
  simp only [h1, h2, h3, Bool.or_false, Bool.false_eq_true, if_false]
  refine wpAny_bind (ba_pyIter hr ?_)
  refine wpAny_bind (wpAny_holding (ba_hint (Heap.get?_push_of_some _ hr) ?_))
  rw [if_neg (by decide +kernel)]
  refine wpAny_pure ⟨plainId_quiet F.plain_extend_loop _, ?_⟩
  refine codeAny_extend_loopS W hz S hSf res b.size 0 _ #[] c₀ rfl (Nat.zero_le _) ⟨Heap.get?_push_size _ rfl, Heap.get?_push_of_some _ hr⟩ (Heap.get?_push_of_some _ hS) (ItemsOf.nil _) fun s' acc' c' hm hS' hacc => ?_
  rw [Moved.eq_with hm]
  refine hR s'.heap s'.toks acc' c' (fun b o hb e => hm.heap b o (fun hmem => ?_) (Heap.get?_push_of_some _ e)) hS' hacc
  rcases List.mem_cons.mp hmem with e' | hmem
  · exact hb e'
  · exact absurd (Heap.lt_size e) (by rw [List.mem_singleton.mp hmem]; exact Nat.lt_irrefl _)

theorem ba_list_init {R : Result → Shared → Prop} (hh : A.handled = none) (hr : s.heap.get? r = some (ba b)) (hz : b.size ≤ 2 ^ 24) (S : Addr) (hS : s.heap.get? S = some { cls := .type "list", data := .seq #[] })
    (hR : ∀ h' tk acc' c', (∀ b o, b ≠ S → s.heap.get? b = some o → h'.get? b = some o) → h'.get? S = some { cls := .type "list", dict := none, data := .seq acc' c', slots := #[] } →
      ItemsOf (fun i v => ∃ t, v = .int ((b.getD i 0).toNat : Int) t) acc' b.size → R (.ok (.ret .none)) { s with heap := h', toks := tk }) :
    wpAny (model prog w) A.in1 (Builtin.«list.__init__» ⟨[.ref S, .ref r], []⟩)
      (fun fin s' => match fin with | .done f => R (.ok f) s' | .again c' => c'.quiet = true ∧ codeAny (model prog w) A c' R s') (fun e s' => R (.error e) s') s := by
  have hSr : S ≠ r := fun e => by rw [e, hr] at hS; simp at hS
  show wpAny _ _ (do let old ← Builtin.List.listItems (.ref S); Builtin.List.listUpdate (.ref S) (fun _ => #[]); letGo old.toList.reverse; Builtin.List.listExtendWith (.ref S) (.ref r) .none) _ _ s
  refine wpAny_bind ?_
  unfold Builtin.List.listItems
  refine wpAny_bind (wpAny_seqItems hS rfl (wpAny_pure ?_))
  show wpAny _ _ (updateSeq S (fun _ => #[]) >>= fun _ => letGo (#[] : Array Value).toList.reverse >>= fun _ => Builtin.List.listExtendWith (.ref S) (.ref r) .none) _ _ s
  refine wpAny_bind (wpAny_updateSeq hS rfl ?_)
  have hS₂ := Heap.get?_update_self (Obj.mapSeq (fun _ => (#[] : Array Value))) hS rfl
  have oth : ∀ b o, b ≠ S → s.heap.get? b = some o → (s.heap.update S (Obj.mapSeq (fun _ => (#[] : Array Value)))).get? b = some o :=
    fun b o hb e => (Heap.get?_update_other _ _ (Ne.symm hb)).trans e
  refine wpAny_bind (wpAny_letGo ?_)
  refine ba_extend hh (oth r _ (Ne.symm hSr) hr) hz S .none _ hS₂ fun h' tk acc' c' hk hS' hacc => ?_
  exact hR h' tk acc' c' (fun b o hb e => hk b o hb (oth b o hb e)) hS' hacc

theorem ba_list {Q : Value → Shared → Prop} (hh : A.handled = none) (hr : s.heap.get? r = some (ba b)) (hz : b.size ≤ 2 ^ 24)
    (hQ : ∀ h' tk acc' c', (∀ b o, s.heap.get? b = some o → h'.get? b = some o) →
      h'.get? s.heap.objs.size = some { cls := .type "list", dict := none, data := .seq acc' c', slots := #[] } → ItemsOf (fun i v => ∃ t, v = .int ((b.getD i 0).toNat : Int) t) acc' b.size → Q (.ref s.heap.objs.size) { s with heap := h', toks := tk }) :
    wpAny (model prog w) A (call (.type "list") [.ref r]) Q E s := by
  refine callType_codes (Q₁ := fun obj s₁ => obj = .ref s.heap.objs.size ∧ s₁ = { s with heap := s.heap.push { cls := .type "list", data := .seq #[] } }) F.called_list (F.typeCall_list_1 _) F.entry_list_init
    (code_list_new _ ⟨rfl, rfl⟩) fun obj s₁ h₁ => ?_
  obtain ⟨rfl, rfl⟩ := h₁
  have hS : (s.heap.push { cls := .type "list", data := .seq #[] }).get? s.heap.objs.size = some { cls := .type "list", data := .seq #[] } := Heap.get?_push_size _ rfl
  refine ⟨⟨_, hS, rfl⟩, F.args_list_init_2 _ _, ba_list_init (A := A.in1) hh (Heap.get?_push_of_some _ hr) hz _ hS fun h' tk acc' c' hk hS' hacc => ?_⟩
  exact ⟨rfl, hQ h' tk acc' c' (fun b o e => hk b o (Nat.ne_of_lt (Heap.lt_size e)) (Heap.get?_push_of_some _ e)) hS' hacc⟩
end
end Mine
namespace Mine

abbrev Ext (h h' : Heap) : Prop := ∀ b o, h.get? b = some o → h'.get? b = some o
theorem Ext.refl (h : Heap) : Ext h h := fun _ _ e => e
theorem Ext.trans {a b c : Heap} (x : Ext a b) (y : Ext b c) : Ext a c := fun p o e => y p o (x p o e)

/-- the state s with another heap and count of tokens -/
abbrev sh (s : Shared) (h : Heap) (tk : Nat) : Shared := { s with heap := h, toks := tk }
abbrev up (m : Str → Option Value) (x : Str) (v : Value) : Str → Option Value := fun y => if y = x then some v else m y

/-- a frame L with its names m over a base heap g that is kept; N: what the frame has made and may change -/
structure St (g : Heap) (L : Addr) (m : Str → Option Value) (N : List (Addr × Obj)) (h : Heap) : Prop where
  ns : h.Ns L m
  keep : Ext g h
  off : g.get? L = none
  news : ∀ p ∈ N, h.get? p.1 = some p.2 ∧ p.1 ≠ L ∧ g.get? p.1 = none

section
variable {g h h' : Heap} {L : Addr} {m m' : Str → Option Value} {N : List (Addr × Obj)}

theorem St.get (S : St g L m N h) {a : Addr} {o : Obj} (hm : (a, o) ∈ N) : h.get? a = some o := (S.news _ hm).1
theorem St.set (S : St g L m N h) (hn : h'.Ns L m') (hs : Heap.SameBut L h h') : St g L m' N h' :=
  ⟨hn, fun b o e => (hs.2 b fun q => by rw [q, S.off] at e; cases e).trans (S.keep b o e), S.off, fun p hp => ⟨(hs.2 _ (S.news p hp).2.1).trans (S.news p hp).1, (S.news p hp).2⟩⟩
theorem St.ext (S : St g L m N h) (e : Ext h h') : St g L m N h' :=
  ⟨S.ns.keeps e, fun b o x => e _ _ (S.keep b o x), S.off, fun p hp => ⟨e _ _ (S.news p hp).1, (S.news p hp).2⟩⟩
theorem Ext.push (h : Heap) (o : Obj) : Ext h (h.push o) := fun _ _ e => Heap.get?_push_of_some _ e
theorem St.fresh (S : St g L m N h) : g.get? h.objs.size = none := by
  cases q : g.get? h.objs.size with
  | none => rfl
  | some o => exact absurd (Heap.lt_size (S.keep _ _ q)) (Nat.lt_irrefl _)
/-- a new object joins the ledger -/
theorem St.alloc (S : St g L m N h) (e : Ext h h') {o : Obj} (hg : h'.get? h.objs.size = some o) : St g L m ((h.objs.size, o) :: N) h' := by
  have T := S.ext e
  refine ⟨T.ns, T.keep, T.off, fun p hp => ?_⟩
  rcases List.mem_cons.mp hp with rfl | hp
  · exact ⟨hg, Nat.ne_of_gt S.ns.lt, S.fresh⟩
  · exact T.news p hp
theorem St.lt (S : St g L m N h) {a : Addr} {o : Obj} (hm : (a, o) ∈ N) : a < h.objs.size := Heap.lt_size (S.get hm)
/-- the one object of the ledger changes -/
theorem St.upd1 {a : Addr} {o o' : Obj} (S : St g L m [(a, o)] h) (hk : ∀ b x, b ≠ a → h.get? b = some x → h'.get? b = some x) (ha : h'.get? a = some o') : St g L m [(a, o')] h' := by
  have D := S.news (a, o) (by simp)
  obtain ⟨oL, es, ep, hL, r⟩ := S.ns
  refine ⟨⟨oL, es, ep, hk L oL (Ne.symm D.2.1) hL, r⟩, fun b x e => hk b x (fun q => ?_) (S.keep b x e), S.off, fun p hp => ?_⟩
  · have := D.2.2; rw [← q, e] at this; cases this
  · obtain rfl := List.mem_singleton.mp hp; exact ⟨ha, D.2⟩
theorem St.upd {a : Addr} {o o' : Obj} (S : St g L m ((a, o) :: N) h) (hne : ∀ p ∈ N, p.1 ≠ a) (hk : ∀ b x, b ≠ a → h.get? b = some x → h'.get? b = some x) (ha : h'.get? a = some o') : St g L m ((a, o') :: N) h' := by
  have D := S.news (a, o) (by simp)
  obtain ⟨oL, es, ep, hL, r⟩ := S.ns
  refine ⟨⟨oL, es, ep, hk L oL (Ne.symm D.2.1) hL, r⟩, fun b x e => hk b x (fun q => ?_) (S.keep b x e), S.off, fun p hp => ?_⟩
  · have := D.2.2; rw [← q, e] at this; cases this
  · rcases List.mem_cons.mp hp with rfl | hp
    · exact ⟨ha, D.2⟩
    · have P := S.news p (.tail _ hp); exact ⟨hk _ _ (hne p hp) P.1, P.2⟩
theorem St.drop {p : Addr × Obj} (S : St g L m (p :: N) h) : St g L m N h := ⟨S.ns, S.keep, S.off, fun q hq => S.news q (.tail _ hq)⟩
theorem St.sub {N' : List (Addr × Obj)} (S : St g L m N h) (hs : ∀ p ∈ N', p ∈ N) : St g L m N' h := ⟨S.ns, S.keep, S.off, fun q hq => S.news q (hs q hq)⟩
end

/-- what the law's text leaves behind: the names that the defs read -/
structure Gl (g₀ : Heap) (mg mb : Str → Option Value) : Prop where
  g : g₀.Ns mainGlobals mg
  b : g₀.Ns builtinsNs mb
  lim : g₀.NoLimit
theorem Gl.ext {g g' : Heap} {mg mb : Str → Option Value} (G : Gl g mg mb) (e : Ext g g') : Gl g' mg mb := ⟨G.g.keeps e, G.b.keeps e, G.lim.keeps e⟩

section
variable {prog : Program} {w : World} {A : Around} {E : Value → Shared → Prop} {s : Shared} {g h : Heap} {tk : Nat} {L : Addr} {m : Str → Option Value} {N : List (Addr × Obj)} {mg mb : Str → Option Value}

theorem nm {env : Env} {x : Str} {pos : Pos} {v : Value} {Q : Value → Shared → Prop} (S : St g L m N h) (hv : m x = some v) (q : Q v (sh s h tk))
    (hk : env.scope.kind = .function := by rfl) (hl : env.kindOf x = some .local := by rfl) (hL : env.locals = L := by rfl) (hd : (x == ("__debug__" : Str)) = false := by decide) :
    wpAny (model prog w) A (eval (.Name x pos) env) Q E (sh s h tk) := wpAny_Name (wpAny_loadName_local hk hl (hL ▸ S.ns) hv q) hd
theorem nmG {env : Env} {x : Str} {pos : Pos} {v : Value} {Q : Value → Shared → Prop} (S : St g L m N h) (G : Gl g mg mb) (hv : mg x = some v) (q : Q v (sh s h tk))
    (hk : env.scope.kind = .function := by rfl) (hx : env.kindOf x = some .globalImplicit := by rfl) (hgl : env.globals = mainGlobals := by rfl) (hd : (x == ("__debug__" : Str)) = false := by decide) :
    wpAny (model prog w) A (eval (.Name x pos) env) Q E (sh s h tk) :=
  Calls.Name_function_global hk hx (Calls.loadGlobal_global (env := env) (by rw [hgl]; exact G.g.keeps S.keep) hv q) hd
theorem nmB {env : Env} {x : Str} {pos : Pos} {v : Value} {Q : Value → Shared → Prop} (S : St g L m N h) (G : Gl g mg mb) (hm : mg x = none) (hv : mb x = some v) (q : Q v (sh s h tk))
    (hk : env.scope.kind = .function := by rfl) (hx : env.kindOf x = some .globalImplicit := by rfl) (hgl : env.globals = mainGlobals := by rfl) (hbl : env.builtins = builtinsNs := by rfl) (hd : (x == ("__debug__" : Str)) = false := by decide) :
    wpAny (model prog w) A (eval (.Name x pos) env) Q E (sh s h tk) :=
  Calls.Name_function_global hk hx (Calls.loadGlobal_builtin (env := env) (by rw [hgl]; exact G.g.keeps S.keep) hm (by rw [hbl]; exact G.b.keeps S.keep) hv q) hd
theorem str {env : Env} {x : Str} {v : Value} {Q : Unit → Shared → Prop} (S : St g L m N h) (q : ∀ h', St g L (up m x v) N h' → Q () (sh s h' (tk + 1)))
    (hk : env.scope.kind = .function := by rfl) (hl : env.kindOf x = some .local := by rfl) (hL : env.locals = L := by rfl) :
    wpAny (model prog w) A (storeName env x v) Q E (sh s h tk) := by
  subst hL
  exact wpAny_storeName_local (env := env) hl S.ns (fun h' hn hs => q h' (S.set hn hs)) (by rw [hk]; rfl)
theorem cst {i : Int} {k : Nat} {pos : Pos} {env : Env} {Q : Value → Shared → Prop} (q : Q (.int i tk) (sh s h (tk + 1))) : wpAny (model prog w) A (eval (.Constant (.int i) k pos) env) Q E (sh s h tk) := wpAny_Constant_int q
theorem addR {x y : Int} {t u : Tok} {Q : Value → Shared → Prop} (q : Q (.int (x + y) tk) (sh s h (tk + 1))) : wpAny (model prog w) A (binaryOp .Add (.int x t) (.int y u)) Q E (sh s h tk) := add_int q
theorem subR {x y : Int} {t u : Tok} {Q : Value → Shared → Prop} (q : Q (.int (x - y) tk) (sh s h (tk + 1))) : wpAny (model prog w) A (binaryOp .Sub (.int x t) (.int y u)) Q E (sh s h tk) := sub_int q
theorem xorR {x y : Int} {t u : Tok} {Q : Value → Shared → Prop} (q : Q (.int (Builtin.bitXor x y) tk) (sh s h (tk + 1))) : wpAny (model prog w) A (binaryOp .BitXor (.int x t) (.int y u)) Q E (sh s h tk) := xor_int q
theorem ixorR {x y : Int} {t u : Tok} {Q : Value → Shared → Prop} (q : Q (.int (Builtin.bitXor x y) tk) (sh s h (tk + 1))) : wpAny (model prog w) A (inplaceOp .BitXor (.int x t) (.int y u)) Q E (sh s h tk) := ixor_int q
theorem modR {x y : Int} {t u : Tok} {Q : Value → Shared → Prop} (hy : y ≠ 0) (q : Q (.int (x.fmod y) tk) (sh s h (tk + 1))) : wpAny (model prog w) A (binaryOp .Mod (.int x t) (.int y u)) Q E (sh s h tk) := mod_int' hy q
theorem eqR {x y : Int} {t u : Tok} {Q : Value → Shared → Prop} (q : Q (.bool (x == y)) (sh s h tk)) : wpAny (model prog w) A (compareOp .Eq (.int x t) (.int y u)) Q E (sh s h tk) := eq_int q
theorem neR {x y : Int} {t u : Tok} {Q : Value → Shared → Prop} (q : Q (.bool (x != y)) (sh s h tk)) : wpAny (model prog w) A (compareOp .NotEq (.int x t) (.int y u)) Q E (sh s h tk) := ne_int q
theorem gtR {x y : Int} {t u : Tok} {Q : Value → Shared → Prop} (q : Q (.bool (decide (y < x))) (sh s h tk)) : wpAny (model prog w) A (compareOp .Gt (.int x t) (.int y u)) Q E (sh s h tk) := gt_int q
theorem truR {b : Bool} {Q : Bool → Shared → Prop} (q : Q b (sh s h tk)) : wpAny (model prog w) A (truthy (.bool b)) Q E (sh s h tk) := wpAny_truthy_bool q

/-- an octet of a bytearray -/
theorem itR {value slice : Expr} {r : Addr} {b : Array UInt8} {k : Int} {u : Tok} {Q : Value → Shared → Prop} (hr : h.get? r = some (ba b)) (h0 : 0 ≤ k) (h1 : k < b.size) (hz : b.size ≤ 2 ^ 24)
    (q : Q (.int ((b.getD k.toNat 0).toNat : Int) tk) (sh s h (tk + 1)))
    (hs : subscripted slice false (.ref r) (.int k u) = operate [.ref r, .int k u] (getItem (.ref r) (.int k u)) := by with_unfolding_all rfl) :
    wpAny (model prog w) A (subscriptTail value slice (.ref r) (.int k u)) Q E (sh s h tk) := by
  have hlt : k.toNat < b.size := by omega
  exact tail_any (ba_type (s := sh s h tk) hr) slot_ba_getitem.lookup (ba_getItem (s := sh s h tk) hr h0 (by omega) (x := b.getD k.toNat 0) (by simp [hlt]) q) hs
end
end Mine
namespace Mine

/-! hiding what may change: the rest is kept by a turn -/
def hideL (h : Heap) : List Addr → Heap
  | [] => h
  | a :: r => hideL (h.hide a) r
theorem of_hideL : ∀ (l : List Addr) {h : Heap} {b : Addr} {o : Obj}, (hideL h l).get? b = some o → h.get? b = some o
  | [], _, _, _, e => e
  | _ :: r, _, _, _, e => Heap.of_hide (of_hideL r e)
theorem hideL_get : ∀ (l : List Addr) {h : Heap} {b : Addr} {o : Obj}, h.get? b = some o → b ∉ l → (hideL h l).get? b = some o
  | [], _, _, _, e, _ => e
  | a :: r, h, b, _, e, n => hideL_get r ((Heap.hide_ne h fun (q : b = a) => n (by rw [q]; exact .head _)).trans e) fun q => n (.tail _ q)
theorem hideL_none : ∀ (l : List Addr) {h : Heap} {b : Addr}, b ∈ l → (hideL h l).get? b = none
  | a :: r, h, _, .head _ => by
    cases q : (hideL h (a :: r)).get? a with
    | none => rfl
    | some o => have := of_hideL r q; rw [Heap.hide_self] at this; cases this
  | _ :: r, _, _, .tail _ m => hideL_none r m

section
variable {g h : Heap} {L : Addr} {m : Str → Option Value} {N : List (Addr × Obj)}
/-- all but the frame and its ledger becomes base -/
theorem St.rebase (S : St g L m N h) : Ext g (hideL h (L :: N.map (·.1))) ∧ St (hideL h (L :: N.map (·.1))) L m N h := by
  refine ⟨fun b o e => hideL_get _ (S.keep b o e) fun hm => ?_, S.ns, fun b o e => of_hideL _ e, hideL_none _ (.head _), fun p hp => ⟨(S.news p hp).1, (S.news p hp).2.1, hideL_none _ (.tail _ (List.mem_map_of_mem hp))⟩⟩
  rcases List.mem_cons.mp hm with q | q
  · rw [q, S.off] at e; cases e
  · obtain ⟨p, hp, q⟩ := List.mem_map.mp q
    have := (S.news p hp).2.2; rw [q, e] at this; cases this
theorem St.down {g' : Heap} (S : St g' L m N h) (e : Ext g g') : St g L m N h := by
  have no : ∀ b, g'.get? b = none → g.get? b = none := fun b hb => by
    cases q : g.get? b with
    | none => rfl
    | some o => rw [e b o q] at hb; cases hb
  exact ⟨S.ns, fun b o x => S.keep b o (e b o x), no _ S.off, fun p hp => ⟨(S.news p hp).1, (S.news p hp).2.1, no _ (S.news p hp).2.2⟩⟩
end

section
variable {prog : Program} {w : World} {A : Around} {E : Value → Shared → Prop} {s : Shared} {g h : Heap} {tk : Nat} {env : Env} {L : Addr} {m : Str → Option Value} {N : List (Addr × Obj)}

/-- a turn's end -/
def Turn (s : Shared) (g : Heap) (L : Addr) (adr : List Addr) (J : (Str → Option Value) → List (Addr × Obj) → Prop) (f : Flow) (s₂ : Shared) : Prop :=
  f = .next ∧ ∃ h₂ tk₂ m₂ N₂, s₂ = sh s h₂ tk₂ ∧ St g L m₂ N₂ h₂ ∧ N₂.map (·.1) = adr ∧ J m₂ N₂
theorem Turn.intro {adr : List Addr} {J : (Str → Option Value) → List (Addr × Obj) → Prop} {h₂ : Heap} {tk₂ : Nat} {m₂ : Str → Option Value} {N₂ : List (Addr × Obj)} (S : St g L m₂ N₂ h₂) (ha : N₂.map (·.1) = adr) (j : J m₂ N₂) : Turn s g L adr J .next (sh s h₂ tk₂) :=
  ⟨rfl, h₂, tk₂, m₂, N₂, rfl, S, ha, j⟩

theorem step_walk {I : Addr} {fp wr : List Addr} {n : Nat} {P : Nat → Value → Prop} {Sw : Nat → Heap → Prop} (W : Walks prog w A I fp wr n P Sw) {h₀ h₁ : Heap} (S : St g L m N h₀) (hL : L ∉ fp) (hN : ∀ b ∈ N.map (·.1), b ∉ fp)
    (hg : ∀ b ∈ wr, g.get? b = none) (hk : ∀ b o, b ∉ wr → h₀.get? b = some o → h₁.get? b = some o) : St g L m N h₁ := by
  obtain ⟨oL, es, ep, e, r⟩ := S.ns
  refine ⟨⟨oL, es, ep, hk L oL (fun q => hL (W.sub _ q)) e, r⟩, fun b o e => hk b o (fun q => ?_) (S.keep b o e), S.off, fun p hp => ⟨hk _ _ (fun q => hN _ (List.mem_map_of_mem hp) (W.sub _ q)) (S.news p hp).1, (S.news p hp).2⟩⟩
  rw [hg b q] at e; cases e

theorem forW {x : Str} {px : Pos} {body : List Stmt} {R : Result → Shared → Prop} {I : Addr} {fp wr : List Addr} {n : Nat} {P : Nat → Value → Prop} {Sw : Nat → Heap → Prop}
    (W : Walks prog w A I fp wr n P Sw) (S : St g L m N h) (hL : L ∉ fp) (hN : ∀ b ∈ N.map (·.1), b ∉ fp) (hg : ∀ b ∈ wr, g.get? b = none) (hst : Sw 0 h)
    (J : Nat → (Str → Option Value) → List (Addr × Obj) → Prop) (j0 : J 0 m N)
    (turn : ∀ i v m₁ N₁ g₁ h₁ tk₁, i < n → P i v → J i m₁ N₁ → N₁.map (·.1) = N.map (·.1) → Ext g g₁ → St g₁ L (up m₁ x v) N₁ h₁ →
      wpAny (model prog w) A (execs body env) (Turn s g₁ L (N.map (·.1)) (J (i + 1))) noE (sh s h₁ tk₁))
    (done : ∀ m₁ N₁ h₁ tk₁, J n m₁ N₁ → N₁.map (·.1) = N.map (·.1) → St g L m₁ N₁ h₁ → R (.ok .next) (sh s h₁ tk₁))
    (hk : env.scope.kind = .function := by rfl) (hx : env.kindOf x = some .local := by rfl) (hLo : env.locals = L := by rfl) :
    codeAny (model prog w) A (.forLoop (.Name x px) (.ref I) body [] env) R (sh s h tk) := by
  subst hLo
  refine codeAny_forLoop (fun k s' => ∃ h' tk' m' N' i, s' = sh s h' tk' ∧ i ≤ n ∧ k = n + 1 - i ∧ Sw i h' ∧ St g env.locals m' N' h' ∧ N'.map (·.1) = N.map (·.1) ∧ J i m' N') ?_ (n + 1) ⟨h, tk, m, N, 0, rfl, Nat.zero_le _, rfl, hst, S, rfl, j0⟩
  rintro k s' ⟨h', tk', m', N', i, rfl, hi, rfl, hst', S', ha, j⟩
  have hN' : ∀ b ∈ N'.map (·.1), b ∉ fp := by rw [ha]; exact hN
  by_cases hlt : i < n
  · refine W.item i _ _ _ hlt hst' fun v h₁ tk₁ hP hst₁ hk₁ => ?_
    have S₁ := step_walk W S' hL hN' hg hk₁
    refine wpAny_assign_Name (wpAny_storeName_local (env := env) hx S₁.ns (fun h₂ hn₂ hs₂ => ?_) (by rw [hk]; rfl))
    obtain ⟨hgg, S₂⟩ := (S₁.set hn₂ hs₂).rebase
    have hst₂ : Sw (i + 1) h₂ := W.frame _ _ _ hst₁ fun b hb o e => (hs₂.2 b fun q => hL (q ▸ hb)).trans e
    refine wpAny_mono (turn i v m' N' _ h₂ _ hlt hP j ha hgg S₂) (fun f s₃ h₃ => ?_) fun _ _ e => e.elim
    obtain ⟨rfl, h₃, tk₃, m₃, N₃, rfl, S₃, ha₃, j₃⟩ := h₃
    refine ⟨n + 1 - (i + 1), by omega, h₃, tk₃, m₃, N₃, i + 1, rfl, hlt, rfl, ?_, S₃.down hgg, ha₃, j₃⟩
    refine W.frame _ _ _ hst₂ fun b hb o e => S₃.keep b o (hideL_get _ e fun hm => ?_)
    rcases List.mem_cons.mp hm with q | q
    · exact hL (q ▸ hb)
    · exact hN' b q hb
  · obtain rfl : i = n := by omega
    refine W.done _ _ _ hst' fun h₁ tk₁ hk₁ => wpAny_execs_nil ?_
    exact done m' N' h₁ tk₁ j ha (step_walk W S' hL hN' hg hk₁)

/-- the same for turns that must be clean -/
theorem forWC {x : Str} {px : Pos} {body : List Stmt} {R : Flow → Shared → Prop} {I : Addr} {fp wr : List Addr} {n : Nat} {P : Nat → Value → Prop} {Sw : Nat → Heap → Prop}
    (W : Walks prog w A I fp wr n P Sw) (S : St g L m N h) (hL : L ∉ fp) (hN : ∀ b ∈ N.map (·.1), b ∉ fp) (hg : ∀ b ∈ wr, g.get? b = none) (hst : Sw 0 h)
    (J : Nat → Heap → (Str → Option Value) → Prop) (jk : ∀ i g₁ g₂ m, Ext g₁ g₂ → J i g₁ m → J i g₂ m) (jh : ∀ i g₁ m, Sw i g₁ → J i g₁ m → J i (hideL g₁ wr) m) (j0 : J 0 g m) (hNn : N = [])
    (turn : ∀ i v m₁ g₁ h₁ tk₁, i < n → P i v → J i g₁ m₁ → Ext g g₁ → St g₁ L (up m₁ x v) [] h₁ →
      wpC (model prog w) A (execs body env) (fun f s₂ => f = .next ∧ ∃ h₂ tk₂ m₂ g₂, s₂ = sh s h₂ tk₂ ∧ Ext g₁ g₂ ∧ St g₂ L m₂ [] h₂ ∧ J (i + 1) g₂ m₂) (sh s h₁ tk₁))
    (done : ∀ m₁ g₁ h₁ tk₁, J n g₁ m₁ → Ext g g₁ → St g₁ L m₁ [] h₁ → R .next (sh s h₁ tk₁))
    (hk : env.scope.kind = .function := by rfl) (hx : env.kindOf x = some .local := by rfl) (hLo : env.locals = L := by rfl) :
    flowC (model prog w) A (.forLoop (.Name x px) (.ref I) body [] env) R (sh s h tk) := by
  subst hNn
  subst hLo
  refine flowC_forLoop (fun k s' => ∃ h' tk' m' g' i, s' = sh s h' tk' ∧ i ≤ n ∧ k = n + 1 - i ∧ Sw i h' ∧ Ext g g' ∧ (∀ b ∈ wr, g'.get? b = none) ∧ St g' env.locals m' [] h' ∧ J i g' m') ?_ (n + 1) ⟨h, tk, m, g, 0, rfl, Nat.zero_le _, rfl, hst, Ext.refl _, hg, S, j0⟩
  rintro k s' ⟨h', tk', m', g', i, rfl, hi, rfl, hst', hgg, hw', S', j⟩
  by_cases hlt : i < n
  · refine W.item i _ _ _ hlt hst' fun v h₁ tk₁ hP hst₁ hk₁ => ?_
    have S₁ := step_walk W S' hL hN hw' hk₁
    refine wpAny_assign_Name (wpAny_storeName_local (env := env) hx S₁.ns (fun h₂ hn₂ hs₂ => ?_) (by rw [hk]; rfl))
    obtain ⟨hg₂, S₂⟩ := (S₁.set hn₂ hs₂).rebase
    have hst₂ : Sw (i + 1) h₂ := W.frame _ _ _ hst₁ fun b hb o e => (hs₂.2 b fun q => hL (q ▸ hb)).trans e
    refine wpC_mono (turn i v m' _ h₂ _ hlt hP (jk _ _ _ _ hg₂ j) (hgg.trans hg₂) S₂) fun f s₃ h₃ => ?_
    obtain ⟨rfl, h₃, tk₃, m₃, g₃, rfl, e₃, S₃, j₃⟩ := h₃
    have hkeep : ∀ b ∈ fp, ∀ o, h₂.get? b = some o → g₃.get? b = some o := fun b hb o e => e₃ b o (hideL_get _ e fun hm => by
      rcases List.mem_cons.mp hm with q | q
      · exact hL (q ▸ hb)
      · exact (List.not_mem_nil q).elim)
    have hst₃ : Sw (i + 1) h₃ := W.frame _ _ _ hst₂ fun b hb o e => S₃.keep b o (hkeep b hb o e)
    /- the base for the next turn: all but the iterator -/
    refine ⟨n + 1 - (i + 1), by omega, h₃, tk₃, m₃, hideL g₃ wr, i + 1, rfl, hlt, rfl, hst₃, ?_, fun b hb => hideL_none _ hb, ?_, ?_⟩
    · exact fun b o e => hideL_get _ (e₃ b o (hg₂ b o (hgg b o e))) fun hm => by rw [hg b hm] at e; cases e
    · exact S₃.down fun b o e => of_hideL _ e
    · exact jh _ _ _ (W.frame _ _ _ hst₂ hkeep) j₃
  · obtain rfl : i = n := by omega
    refine W.done _ _ _ hst' fun h₁ tk₁ hk₁ => ?_
    exact done m' g' h₁ tk₁ j hgg (step_walk W S' hL hN hw' hk₁)
end
end Mine
namespace Mine
section
variable {prog : Program} {w : World} {A : Around} {s : Shared} {g h : Heap} {tk : Nat} {env : Env} {L : Addr} {m : Str → Option Value} {N : List (Addr × Obj)}

/-- a loop over a range object's iterator that has just been made -/
theorem for_iter {x : Str} {px : Pos} {body : List Stmt} {Q : Flow → Shared → Prop} {h₁ : Heap} {tk₁ : Nat} {r : Addr} {lo hi c : Int} {t u v : Tok} {n : Nat} {EE : Value → Shared → Prop}
    (S : St g L m N h) (hh : A.handled = none) (e : Ext h h₁) (hr : IsRange h₁ r lo hi c t u v) (hsm : Builtin.Range.small lo hi c = true) (hn : Builtin.Range.rangeSize lo hi c = n)
    (J : Nat → (Str → Option Value) → List (Addr × Obj) → Prop) (j0 : J 0 m N)
    (turn : ∀ i t m₁ N₁ g₁ h₁ tk₁, i < n → J i m₁ N₁ → N₁.map (·.1) = N.map (·.1) → Ext g g₁ → St g₁ L (up m₁ x (.int (lo + i * c) t)) N₁ h₁ →
      wpAny (model prog w) A (execs body env) (Turn s g₁ L (N.map (·.1)) (J (i + 1))) noE (sh s h₁ tk₁))
    (done : ∀ m₁ N₁ h₁ tk₁, J n m₁ N₁ → N₁.map (·.1) = N.map (·.1) → St g L m₁ N₁ h₁ → Q .next (sh s h₁ tk₁))
    (hk : env.scope.kind = .function := by rfl) (hx : env.kindOf x = some .local := by rfl) (hLo : env.locals = L := by rfl) :
    wpAny (model prog w) A (pyIter (.ref r)) (fun it s₂ => codeAny (model prog w) A (.forLoop (.Name x px) it body [] env) (fun r s' => match r with | .ok f => Q f s' | .error e => EE e s') s₂) noE (sh s h₁ tk₁) := by
  refine wpAny_pyIter_range (s := sh s h₁ tk₁) hr hsm ?_
  have S₁ := (S.ext e).ext (Ext.push h₁ { cls := .type "range_iterator", data := .fields #[rawInt lo, rawInt (Builtin.Range.rangeSize lo hi c), rawInt c] })
  have hit : IsRangeIter (h₁.push { cls := .type "range_iterator", data := .fields #[rawInt lo, rawInt (Builtin.Range.rangeSize lo hi c), rawInt c] }) h₁.objs.size (lo + ((0 : Nat) : Int) * c) ((n : Int) - ((0 : Nat) : Int)) c := by
    show _ = _; rw [← hn]; simpa using Heap.get?_push_size _ rfl
  refine forW (Walks.range hh h₁.objs.size lo c n) S₁ ?_ ?_ ?_ hit J j0 (fun i v m₁ N₁ g₁ h₂ tk₂ hi hP j ha hg S₂ => ?_) done hk hx hLo
  · intro hm
    have := (S.ext e).ns.lt
    rw [List.mem_singleton.mp hm] at this; exact absurd this (Nat.lt_irrefl _)
  · intro b hb hm
    obtain ⟨p, hp, rfl⟩ := List.mem_map.mp hb
    have := (S.ext e).lt hp
    rw [List.mem_singleton.mp hm] at this; exact absurd this (Nat.lt_irrefl _)
  · intro b hb
    rw [List.mem_singleton.mp hb]; exact (S.ext e).fresh
  · obtain ⟨t, rfl⟩ := hP
    exact turn i t m₁ N₁ g₁ h₂ tk₂ hi j ha hg S₂

theorem For_r1 {nm x : Str} {px rp rpos pos : Pos} {e : Expr} {body : List Stmt} {Q : Flow → Shared → Prop} {hi : Int} {n : Nat}
    (S : St g L m N h) (hh : A.handled = none)
    (hname : ∀ K : Value → Shared → Prop, K (.type "range") (sh s h tk) → wpAny (model prog w) A (eval (.Name nm rp) env) K noE (sh s h tk))
    (he : ∀ K : Value → Shared → Prop, (∀ t tk', K (.int hi t) (sh s h tk')) → wpAny (model prog w) A (eval e env) K noE (sh s h tk))
    (hb : hi < 2 ^ 62) (hlo : -(2 ^ 62) ≤ hi) (hn : n = hi.toNat)
    (J : Nat → (Str → Option Value) → List (Addr × Obj) → Prop) (j0 : J 0 m N)
    (turn : ∀ i t m₁ N₁ g₁ h₁ tk₁, i < n → J i m₁ N₁ → N₁.map (·.1) = N.map (·.1) → Ext g g₁ → St g₁ L (up m₁ x (.int (i : Int) t)) N₁ h₁ →
      wpAny (model prog w) A (execs body env) (Turn s g₁ L (N.map (·.1)) (J (i + 1))) noE (sh s h₁ tk₁))
    (done : ∀ m₁ N₁ h₁ tk₁, J n m₁ N₁ → N₁.map (·.1) = N.map (·.1) → St g L m₁ N₁ h₁ → Q .next (sh s h₁ tk₁))
    (hse : starEach [e] env = [(false, eval e env)] := by rfl)
    (hk : env.scope.kind = .function := by rfl) (hx : env.kindOf x = some .local := by rfl) (hLo : env.locals = L := by rfl) :
    wpAny (model prog w) A (exec (.For (.Name x px) (.Call (.Name nm rp) [e] [] rpos) body [] pos) env) Q noE (sh s h tk) := by
  refine wpAny_For (wpAny_Call_NameR (hname _ ?_))
  rw [hse]
  refine PySem.callWith_type rfl (Calls.evalArgs_plain (Calls.spliced_cons (he _ fun t tk' => Calls.spliced_nil ?_)))
  refine call_range_1 (s := sh s h tk') ?_
  refine for_iter S hh (Ext.push h _) (IsRange.new ..) (small_one (by decide) (by decide) hlo hb) (n := n) (by rw [rangeSize_one, hn]; split <;> omega) J j0 (fun i t m₁ N₁ g₁ h₁ tk₁ hi' j ha hg S₁ => ?_) done hk hx hLo
  rw [show (0 : Int) + (i : Int) * 1 = (i : Int) by omega] at S₁
  exact turn i t m₁ N₁ g₁ h₁ tk₁ hi' j ha hg S₁

theorem For_r2 {nm x : Str} {px rp rpos pos : Pos} {e₁ e₂ : Expr} {body : List Stmt} {Q : Flow → Shared → Prop} {lo hi : Int} {n : Nat}
    (S : St g L m N h) (hh : A.handled = none)
    (hname : ∀ K : Value → Shared → Prop, K (.type "range") (sh s h tk) → wpAny (model prog w) A (eval (.Name nm rp) env) K noE (sh s h tk))
    (he₁ : ∀ tk (K : Value → Shared → Prop), (∀ t tk', K (.int lo t) (sh s h tk')) → wpAny (model prog w) A (eval e₁ env) K noE (sh s h tk))
    (he₂ : ∀ tk (K : Value → Shared → Prop), (∀ t tk', K (.int hi t) (sh s h tk')) → wpAny (model prog w) A (eval e₂ env) K noE (sh s h tk))
    (hb : hi < 2 ^ 62) (hlo : -(2 ^ 62) ≤ hi) (hb' : lo < 2 ^ 62) (hlo' : -(2 ^ 62) ≤ lo) (hn : n = (hi - lo).toNat)
    (J : Nat → (Str → Option Value) → List (Addr × Obj) → Prop) (j0 : J 0 m N)
    (turn : ∀ i t m₁ N₁ g₁ h₁ tk₁, i < n → J i m₁ N₁ → N₁.map (·.1) = N.map (·.1) → Ext g g₁ → St g₁ L (up m₁ x (.int (lo + i) t)) N₁ h₁ →
      wpAny (model prog w) A (execs body env) (Turn s g₁ L (N.map (·.1)) (J (i + 1))) noE (sh s h₁ tk₁))
    (done : ∀ m₁ N₁ h₁ tk₁, J n m₁ N₁ → N₁.map (·.1) = N.map (·.1) → St g L m₁ N₁ h₁ → Q .next (sh s h₁ tk₁))
    (hse : starEach [e₁, e₂] env = [(false, eval e₁ env), (false, eval e₂ env)] := by rfl)
    (hk : env.scope.kind = .function := by rfl) (hx : env.kindOf x = some .local := by rfl) (hLo : env.locals = L := by rfl) :
    wpAny (model prog w) A (exec (.For (.Name x px) (.Call (.Name nm rp) [e₁, e₂] [] rpos) body [] pos) env) Q noE (sh s h tk) := by
  refine wpAny_For (wpAny_Call_NameR (hname _ ?_))
  rw [hse]
  refine PySem.callWith_type rfl (Calls.evalArgs_plain (Calls.spliced_cons (he₁ _ _ fun t tk' => Calls.spliced_cons (he₂ _ _ fun t' tk'' => Calls.spliced_nil ?_))))
  refine call_range_2 (s := sh s h tk'') ?_
  refine for_iter S hh (Ext.push h _) (IsRange.new ..) (small_one hlo' hb' hlo hb) (n := n) (by rw [rangeSize_one, hn]; split <;> omega) J j0 (fun i t m₁ N₁ g₁ h₁ tk₁ hi' j ha hg S₁ => ?_) done hk hx hLo
  rw [Int.mul_one] at S₁
  exact turn i t m₁ N₁ g₁ h₁ tk₁ hi' j ha hg S₁
end

/-! octets as lists of numbers -/
def Oct (l : List Nat) : Prop := ∀ x ∈ l, x < 256
def u8 (l : List Nat) : Array UInt8 := (l.map Nat.toUInt8).toArray
abbrev bl (l : List Nat) : Obj := ba (u8 l)
theorem u8_size (l : List Nat) : (u8 l).size = l.length := by simp [u8]
theorem toUInt8_toNat {n : Nat} (h : n < 256) : n.toUInt8.toNat = n := by
  show (UInt8.ofNat n).toNat = n
  simp [UInt8.toNat_ofNat]; omega
theorem Oct.getD {l : List Nat} (h : Oct l) (i : Nat) : l.getD i 0 < 256 := by
  by_cases hi : i < l.length
  · rw [List.getD_eq_getElem?_getD, List.getElem?_eq_getElem hi]; exact h _ (List.getElem_mem hi)
  · rw [List.getD_eq_getElem?_getD, List.getElem?_eq_none (Nat.not_lt.mp hi)]; decide
theorem u8_getD {l : List Nat} (h : Oct l) (i : Nat) : ((u8 l).getD i 0).toNat = l.getD i 0 := by
  unfold u8
  by_cases hi : i < l.length
  · simp [hi]
    have := h _ (List.getElem_mem hi)
    simpa [UInt8.toNat_ofNat] using Nat.mod_eq_of_lt this
  · simp [hi]
theorem u8_set (l : List Nat) (i v : Nat) : (u8 l).setIfInBounds i v.toUInt8 = u8 (l.set i v) := by
  unfold u8
  rw [List.setIfInBounds_toArray, List.map_set]
theorem Oct.set {l : List Nat} (h : Oct l) (i : Nat) {v : Nat} (hv : v < 256) : Oct (l.set i v) := fun x hx => by
  rcases List.mem_or_eq_of_mem_set hx with h' | rfl
  · exact h x h'
  · exact hv
theorem u8_replicate (n : Nat) : Array.replicate n 0 = u8 (List.replicate n 0) := by
  unfold u8; simp
theorem oct_replicate (n : Nat) : Oct (List.replicate n 0) := fun x hx => by rw [(List.mem_replicate.mp hx).2]; decide

section
variable {prog : Program} {w : World} {A : Around} {E : Value → Shared → Prop} {s : Shared} {g h : Heap} {tk : Nat} {env : Env} {L : Addr} {m : Str → Option Value} {N : List (Addr × Obj)}
/-- an octet, read -/
theorem itL {value slice : Expr} {r : Addr} {l : List Nat} {k : Int} {u : Tok} {Q : Value → Shared → Prop} (hr : h.get? r = some (bl l)) (ho : Oct l) (h0 : 0 ≤ k) (h1 : k < l.length) (hz : l.length ≤ 2 ^ 24)
    (q : Q (.int (l.getD k.toNat 0 : Nat) tk) (sh s h (tk + 1)))
    (hs : subscripted slice false (.ref r) (.int k u) = operate [.ref r, .int k u] (getItem (.ref r) (.int k u)) := by with_unfolding_all rfl) :
    wpAny (model prog w) A (subscriptTail value slice (.ref r) (.int k u)) Q E (sh s h tk) :=
  itR hr h0 (by rw [u8_size]; exact h1) (by rw [u8_size]; exact hz) (by rw [u8_getD ho]; exact q) hs
theorem gtL {r : Addr} {l : List Nat} {k : Int} {u : Tok} {Q : Value → Shared → Prop} (hr : h.get? r = some (bl l)) (ho : Oct l) (h0 : 0 ≤ k) (h1 : k < l.length) (hz : l.length ≤ 2 ^ 24)
    (q : Q (.int (l.getD k.toNat 0 : Nat) tk) (sh s h (tk + 1))) : wpAny (model prog w) A (getItem (.ref r) (.int k u)) Q E (sh s h tk) := by
  have hlt : k.toNat < (u8 l).size := by rw [u8_size]; omega
  exact ba_getItem (s := sh s h tk) hr h0 (by omega) (x := (u8 l).getD k.toNat 0) (by simp [hlt]) (by rw [u8_getD ho]; exact q)
/-- an octet, stored -/
theorem setL {r : Addr} {l : List Nat} {k v : Int} {t u : Tok} {Q : Unit → Shared → Prop} (S : St g L m [(r, bl l)] h) (hz : l.length ≤ 2 ^ 24) (h0 : 0 ≤ k) (h1 : k < l.length) (v0 : 0 ≤ v) (v1 : v < 256)
    (q : ∀ h', St g L m [(r, bl (l.set k.toNat v.toNat))] h' → Q () (sh s h' tk)) : wpAny (model prog w) A (setItem (.ref r) (.int k t) (.int v u)) Q E (sh s h tk) := by
  have hr := S.get (a := r) (o := bl l) (by simp)
  refine ba_setItem (s := sh s h tk) hr (by rw [u8_size]; exact hz) h0 (by rw [u8_size]; exact h1) v0 v1 (q _ ?_)
  have e := empty_upd hr (·.setIfInBounds k.toNat v.toNat.toUInt8)
  exact S.upd1 e.2 (e.1.trans (by rw [u8_set]))
/-- the same by a number -/
theorem itN (j : Nat) {value slice : Expr} {r : Addr} {l : List Nat} {k : Int} {u : Tok} {Q : Value → Shared → Prop} (hj : k = (j : Int)) (hr : h.get? r = some (bl l)) (ho : Oct l) (h1 : j < l.length) (hz : l.length ≤ 2 ^ 24)
    (q : Q (.int (l.getD j 0 : Nat) tk) (sh s h (tk + 1)))
    (hs : subscripted slice false (.ref r) (.int k u) = operate [.ref r, .int k u] (getItem (.ref r) (.int k u)) := by with_unfolding_all rfl) :
    wpAny (model prog w) A (subscriptTail value slice (.ref r) (.int k u)) Q E (sh s h tk) := by
  subst hj
  exact itL hr ho (Int.natCast_nonneg _) (by omega) hz q hs
theorem gtN (j : Nat) {r : Addr} {l : List Nat} {k : Int} {u : Tok} {Q : Value → Shared → Prop} (hj : k = (j : Int)) (hr : h.get? r = some (bl l)) (ho : Oct l) (h1 : j < l.length) (hz : l.length ≤ 2 ^ 24)
    (q : Q (.int (l.getD j 0 : Nat) tk) (sh s h (tk + 1))) : wpAny (model prog w) A (getItem (.ref r) (.int k u)) Q E (sh s h tk) := by
  subst hj
  exact gtL hr ho (Int.natCast_nonneg _) (by omega) hz q
theorem setN (j x : Nat) {r : Addr} {l : List Nat} {k v : Int} {t u : Tok} {Q : Unit → Shared → Prop} (hj : k = (j : Int)) (hv : v = (x : Int)) (S : St g L m [(r, bl l)] h) (hz : l.length ≤ 2 ^ 24) (h1 : j < l.length) (v1 : x < 256)
    (q : ∀ h', St g L m [(r, bl (l.set j x))] h' → Q () (sh s h' tk)) : wpAny (model prog w) A (setItem (.ref r) (.int k t) (.int v u)) Q E (sh s h tk) := by
  subst hj hv
  exact setL S hz (Int.natCast_nonneg _) (by omega) (Int.natCast_nonneg _) (by omega) q
theorem bne_nat (n : Nat) : (((n : Nat) : Int) != 0) = (n != 0) := by
  cases n with
  | zero => rfl
  | succ n => rfl
theorem bneT {n : Nat} (h : n ≠ 0) : (((n : Nat) : Int) != 0) = true := by rw [bne_nat]; simpa using h
theorem bneF {n : Nat} (h : n = 0) : ¬ ((((n : Nat) : Int) != 0) = true) := by rw [bne_nat, h]; decide
theorem negR {x : Int} {t : Tok} {Q : Value → Shared → Prop} (q : Q (.int (-x) tk) (sh s h (tk + 1))) : wpAny (model prog w) A (unaryOp .USub (.int x t)) Q E (sh s h tk) := neg_int q
/-- len of a bytearray -/
theorem lenL {r : Addr} {l : List Nat} {Q : Value → Shared → Prop} (hr : h.get? r = some (bl l)) (hz : l.length ≤ 2 ^ 24) (q : Q (.int l.length (tk + 1)) (sh s h (tk + 1 + 1))) :
    wpAny (model prog w) A (call (.builtin "len") [.ref r]) Q E (sh s h tk) := ba_len (s := sh s h tk) hr (by rw [u8_size]; exact hz) (by rw [u8_size]; exact q)
end
end Mine
namespace Mine
section
variable {prog : Program} {w : World} {A : Around} {E : Value → Shared → Prop} {s : Shared} {env : Env}
theorem Call_b1 {x : Str} {p pos : Pos} {e : Expr} {id : String} {Q : Value → Shared → Prop}
    (hf : ∀ K : Value → Shared → Prop, K (.builtin id) s → wpAny (model prog w) A (eval (.Name x p) env) K E s)
    (h : wpAny (model prog w) A (eval e env) (fun v s₁ => wpAny (model prog w) A (call (.builtin id) [v]) Q E s₁) E s)
    (he : starEach [e] env = [(false, eval e env)] := by rfl) :
    wpAny (model prog w) A (eval (.Call (.Name x p) [e] [] pos) env) Q E s := by
  refine wpAny_Call_NameR (hf _ ?_)
  rw [he]
  exact Calls.callWith_builtin rfl (Calls.evalArgs_plain (Calls.spliced_cons (wpAny_mono h (fun v s₁ h₁ => Calls.spliced_nil h₁) fun _ _ x => x)))
theorem Call_b2 {x : Str} {p pos : Pos} {e₁ e₂ : Expr} {id : String} {Q : Value → Shared → Prop}
    (hf : ∀ K : Value → Shared → Prop, K (.builtin id) s → wpAny (model prog w) A (eval (.Name x p) env) K E s)
    (h : wpAny (model prog w) A (eval e₁ env) (fun v s₁ => wpAny (model prog w) A (eval e₂ env) (fun u s₂ => wpAny (model prog w) A (call (.builtin id) [v, u]) Q E s₂) E s₁) E s)
    (he : starEach [e₁, e₂] env = [(false, eval e₁ env), (false, eval e₂ env)] := by rfl) :
    wpAny (model prog w) A (eval (.Call (.Name x p) [e₁, e₂] [] pos) env) Q E s := by
  refine wpAny_Call_NameR (hf _ ?_)
  rw [he]
  exact Calls.callWith_builtin rfl (Calls.evalArgs_plain (Calls.spliced_cons (wpAny_mono h (fun v s₁ h₁ => Calls.spliced_cons (wpAny_mono h₁ (fun u s₂ h₂ => Calls.spliced_nil h₂) fun _ _ x => x)) fun _ _ x => x)))
theorem Call_t1 {x : Str} {p pos : Pos} {e : Expr} {T : String} {Q : Value → Shared → Prop}
    (hf : ∀ K : Value → Shared → Prop, K (.type T) s → wpAny (model prog w) A (eval (.Name x p) env) K E s)
    (h : wpAny (model prog w) A (eval e env) (fun v s₁ => wpAny (model prog w) A (call (.type T) [v]) Q E s₁) E s)
    (he : starEach [e] env = [(false, eval e env)] := by rfl) :
    wpAny (model prog w) A (eval (.Call (.Name x p) [e] [] pos) env) Q E s := by
  refine wpAny_Call_NameR (hf _ ?_)
  rw [he]
  exact PySem.callWith_type rfl (Calls.evalArgs_plain (Calls.spliced_cons (wpAny_mono h (fun v s₁ h₁ => Calls.spliced_nil h₁) fun _ _ x => x)))
theorem Call_f1 {x : Str} {p pos : Pos} {e₁ : Expr} {f : Addr} {o : Obj} {fd : FuncData} {Q : Value → Shared → Prop}
    (hf : ∀ K : Value → Shared → Prop, K (.ref f) s → wpAny (model prog w) A (eval (.Name x p) env) K E s)
    (h : wpAny (model prog w) A (eval e₁ env) (fun v s₁ => (s₁.heap.get? f = some o ∧ o.data = .func fd) ∧ codeAny (model prog w) A (.call (.ref f) ⟨[v], []⟩) (fun r s' => match r with | .ok (.ret v) => Q v s' | .ok _ => False | .error e => E e s') s₁) E s)
    (he : starEach [e₁] env = [(false, eval e₁ env)] := by rfl) :
    wpAny (model prog w) A (eval (.Call (.Name x p) [e₁] [] pos) env) Q E s := by
  refine wpAny_Call_NameR (hf _ ?_)
  rw [he]
  exact Calls.callWith_function (Calls.evalArgs_plain (Calls.spliced_cons (wpAny_mono h (fun v s₁ h₁ => Calls.spliced_nil ⟨h₁.1, wpAny_call h₁.2⟩) fun _ _ x => x)))
theorem Call_f2 {x : Str} {p pos : Pos} {e₁ e₂ : Expr} {f : Addr} {o : Obj} {fd : FuncData} {Q : Value → Shared → Prop}
    (hf : ∀ K : Value → Shared → Prop, K (.ref f) s → wpAny (model prog w) A (eval (.Name x p) env) K E s)
    (h : wpAny (model prog w) A (eval e₁ env) (fun v s₁ => wpAny (model prog w) A (eval e₂ env) (fun u s₂ => (s₂.heap.get? f = some o ∧ o.data = .func fd) ∧ codeAny (model prog w) A (.call (.ref f) ⟨[v, u], []⟩) (fun r s' => match r with | .ok (.ret v) => Q v s' | .ok _ => False | .error e => E e s') s₂) E s₁) E s)
    (he : starEach [e₁, e₂] env = [(false, eval e₁ env), (false, eval e₂ env)] := by rfl) :
    wpAny (model prog w) A (eval (.Call (.Name x p) [e₁, e₂] [] pos) env) Q E s := by
  refine wpAny_Call_NameR (hf _ ?_)
  rw [he]
  exact Calls.callWith_function (Calls.evalArgs_plain (Calls.spliced_cons (wpAny_mono h (fun v s₁ h₁ => Calls.spliced_cons (wpAny_mono h₁ (fun u s₂ h₂ => Calls.spliced_nil ⟨h₂.1, wpAny_call h₂.2⟩) fun _ _ x => x)) fun _ _ x => x)))
theorem Call_f3 {x : Str} {p pos : Pos} {e₁ e₂ e₃ : Expr} {f : Addr} {o : Obj} {fd : FuncData} {Q : Value → Shared → Prop}
    (hf : ∀ K : Value → Shared → Prop, K (.ref f) s → wpAny (model prog w) A (eval (.Name x p) env) K E s)
    (h : wpAny (model prog w) A (eval e₁ env) (fun v s₁ => wpAny (model prog w) A (eval e₂ env) (fun u s₂ => wpAny (model prog w) A (eval e₃ env) (fun y s₃ => (s₃.heap.get? f = some o ∧ o.data = .func fd) ∧ codeAny (model prog w) A (.call (.ref f) ⟨[v, u, y], []⟩) (fun r s' => match r with | .ok (.ret v) => Q v s' | .ok _ => False | .error e => E e s') s₃) E s₂) E s₁) E s)
    (he : starEach [e₁, e₂, e₃] env = [(false, eval e₁ env), (false, eval e₂ env), (false, eval e₃ env)] := by rfl) :
    wpAny (model prog w) A (eval (.Call (.Name x p) [e₁, e₂, e₃] [] pos) env) Q E s := by
  refine wpAny_Call_NameR (hf _ ?_)
  rw [he]
  exact Calls.callWith_function (Calls.evalArgs_plain (Calls.spliced_cons (wpAny_mono h (fun v s₁ h₁ => Calls.spliced_cons (wpAny_mono h₁ (fun u s₂ h₂ => Calls.spliced_cons (wpAny_mono h₂ (fun y s₃ h₃ => Calls.spliced_nil ⟨h₃.1, wpAny_call h₃.2⟩) fun _ _ x => x)) fun _ _ x => x)) fun _ _ x => x)))
theorem Call_f4 {x : Str} {p pos : Pos} {e₁ e₂ e₃ e₄ : Expr} {f : Addr} {o : Obj} {fd : FuncData} {Q : Value → Shared → Prop}
    (hf : ∀ K : Value → Shared → Prop, K (.ref f) s → wpAny (model prog w) A (eval (.Name x p) env) K E s)
    (h : wpAny (model prog w) A (eval e₁ env) (fun v s₁ => wpAny (model prog w) A (eval e₂ env) (fun u s₂ => wpAny (model prog w) A (eval e₃ env) (fun y s₃ => wpAny (model prog w) A (eval e₄ env) (fun z s₄ => (s₄.heap.get? f = some o ∧ o.data = .func fd) ∧ codeAny (model prog w) A (.call (.ref f) ⟨[v, u, y, z], []⟩) (fun r s' => match r with | .ok (.ret v) => Q v s' | .ok _ => False | .error e => E e s') s₄) E s₃) E s₂) E s₁) E s)
    (he : starEach [e₁, e₂, e₃, e₄] env = [(false, eval e₁ env), (false, eval e₂ env), (false, eval e₃ env), (false, eval e₄ env)] := by rfl) :
    wpAny (model prog w) A (eval (.Call (.Name x p) [e₁, e₂, e₃, e₄] [] pos) env) Q E s := by
  refine wpAny_Call_NameR (hf _ ?_)
  rw [he]
  exact Calls.callWith_function (Calls.evalArgs_plain (Calls.spliced_cons (wpAny_mono h (fun v s₁ h₁ => Calls.spliced_cons (wpAny_mono h₁ (fun u s₂ h₂ => Calls.spliced_cons (wpAny_mono h₂ (fun y s₃ h₃ => Calls.spliced_cons (wpAny_mono h₃ (fun z s₄ h₄ => Calls.spliced_nil ⟨h₄.1, wpAny_call h₄.2⟩) fun _ _ x => x)) fun _ _ x => x)) fun _ _ x => x)) fun _ _ x => x)))
end

/-! slices of octets -/
theorem sliceRange_ones (a b : Nat) : sliceRange (a : Int) (b : Int) 1 = (List.range (b - a)).map (a + ·) := sliceRange_one a b
theorem filterMap_shift (l : List UInt8) (a k : Nat) (h : a + k ≤ l.length) : ((List.range k).map (a + ·)).filterMap (l[·]?) = (l.drop a).take k := by
  induction k with
  | zero => simp
  | succ k ih =>
    rw [List.range_succ, List.map_append, List.filterMap_append, ih (by omega)]
    have hlt : a + k < l.length := by omega
    rw [List.take_add_one, List.getElem?_drop]
    simp [hlt]
theorem cut_list (l : List Nat) (lo hi : Option Int) (x y : Nat) (hx : (sliceBounds lo hi none l.length).1 = (x : Int)) (hy : (sliceBounds lo hi none l.length).2.1 = (y : Int)) (hxy : x ≤ y) (hyl : y ≤ l.length) :
    cutOf (u8 l) lo hi = u8 ((l.drop x).take (y - x)) := by
  unfold cutOf Builtin.Bytes.sliced
  rw [u8_size, hx, hy, sliceRange_ones]
  have e : ∀ i : Nat, (u8 l)[i]? = (l.map Nat.toUInt8)[i]? := fun i => by simp [u8]
  simp only [e]
  rw [filterMap_shift _ _ _ (by rw [List.length_map]; omega)]
  simp [u8, List.map_drop, List.map_take]

section
variable {prog : Program} {w : World} {A : Around} {E : Value → Shared → Prop} {s : Shared} {g h : Heap} {tk : Nat} {L : Addr} {m : Str → Option Value} {N : List (Addr × Obj)} {env : Env}
theorem St.add {h' : Heap} {a : Addr} {o : Obj} (S : St g L m N h) (e : Ext h h') (hle : h.objs.size ≤ a) (hg : h'.get? a = some o) : St g L m ((a, o) :: N) h' := by
  have T := S.ext e
  refine ⟨T.ns, T.keep, T.off, fun p hp => ?_⟩
  rcases List.mem_cons.mp hp with rfl | hp
  · refine ⟨hg, Nat.ne_of_gt (Nat.lt_of_lt_of_le S.ns.lt hle), ?_⟩
    cases q : g.get? a with
    | none => rfl
    | some o => exact absurd (Heap.lt_size (S.keep _ _ q)) (Nat.not_lt.mpr hle)
  · exact T.news p hp
/-- octets[lo:hi] -/
theorem slcL {value : Expr} {lower upper : Option Expr} {p pos : Pos} {r : Addr} {l : List Nat} {lo hi : Option Int} {x y : Nat} {Q : Value → Shared → Prop}
    (hv : ∀ K : Value → Shared → Prop, (∀ tk', K (.ref r) (sh s h tk')) → wpAny (model prog w) A (eval value env) K E (sh s h tk))
    (hlo : ∀ tk (K : Value → Shared → Prop), (∀ v tk', IsPart v lo → K v (sh s h tk')) → wpAny (model prog w) A (evalPart lower env) K E (sh s h tk))
    (hhi : ∀ tk (K : Value → Shared → Prop), (∀ v tk', IsPart v hi → K v (sh s h tk')) → wpAny (model prog w) A (evalPart upper env) K E (sh s h tk))
    (hr : h.get? r = some (bl l)) (hx : (sliceBounds lo hi none l.length).1 = (x : Int)) (hy : (sliceBounds lo hi none l.length).2.1 = (y : Int)) (hxy : x ≤ y) (hyl : y ≤ l.length) (hz : l.length ≤ 2 ^ 24)
    (q : ∀ a h' tk', Ext h h' → h.objs.size ≤ a → h'.get? a = some (bl ((l.drop x).take (y - x))) → Q (.ref a) (sh s h' tk'))
    (ht : ∀ o r, letTemporaryGo value o r = pure () := by intro _ _; rfl) :
    wpAny (model prog w) A (eval (.Subscript value (.Slice lower upper none p) pos) env) Q E (sh s h tk) := by
  refine wpAny_Subscript_Slice (T := "bytearray") slot_ba_getitem.lookup (hv _ fun tk₁ => wpAny_Slice (hlo _ _ fun vl tk₂ pl => hhi _ _ fun vu tk₃ pu => ?_)) ht
  rw [evalPart_none]
  refine wpAny_pure ⟨ba_type (b := u8 l) (Heap.get?_push_of_some _ hr), ?_⟩
  refine ba_getSlice (Heap.get?_push_of_some _ hr) (Heap.IsSliceOf.new ..) pl pu (by rw [u8_size]; exact hz) ?_
  rw [cut_list l lo hi x y hx hy hxy hyl]
  exact q _ _ _ ((Ext.push _ _).trans (Ext.push _ _)) (Nat.le_of_lt (by show h.objs.size < (h.push _).objs.size; rw [Heap.size_push]; exact Nat.lt_succ_self _)) (Heap.get?_push_size _ rfl)
theorem partNone {Q : Value → Shared → Prop} (q : ∀ v tk', IsPart v none → Q v (sh s h tk')) : wpAny (model prog w) A (evalPart none env) Q E (sh s h tk) := wpAny_pure (q _ _ .none)
end
end Mine
namespace Mine
section
variable {prog : Program} {w : World} {A : Around} {E : Value → Shared → Prop} {s : Shared} {g h : Heap} {tk : Nat} {env : Env} {L : Addr} {m : Str → Option Value} {N : List (Addr × Obj)}

theorem whileW {test : Expr} {body : List Stmt} {pos : Pos} {Q : Flow → Shared → Prop} (S : St g L m N h) (J : Nat → (Str → Option Value) → Prop) (n : Nat) (j0 : J n m)
    (turn : ∀ k m₁ h₁ tk₁, J k m₁ → St g L m₁ N h₁ → wpAny (model prog w) A (isTrue test env (eval test env)) (fun b s₂ =>
      if b then wpAny (model prog w) A (execs body env) (fun f s₃ => f = .next ∧ ∃ h' tk' m' k', s₃ = sh s h' tk' ∧ k' < k ∧ St g L m' N h' ∧ J k' m') noE s₂ else Q .next s₂) noE (sh s h₁ tk₁)) :
    wpAny (model prog w) A (exec (.While test body [] pos) env) Q noE (sh s h tk) := by
  refine wpAny_While (codeAny_whileLoop (fun k s' => ∃ h' tk' m', s' = sh s h' tk' ∧ St g L m' N h' ∧ J k m') ?_ n ⟨h, tk, m, rfl, S, j0⟩)
  rintro k s' ⟨h', tk', m', rfl, S', j⟩
  refine wpAny_mono (turn k m' h' tk' j S') (fun b s₂ h₂ => ?_) fun _ _ e => e.elim
  cases b with
  | false =>
    simp only [Bool.false_eq_true, if_false] at h₂ ⊢
    exact wpAny_execs_nil h₂
  | true =>
    simp only [if_true] at h₂ ⊢
    refine wpAny_mono h₂ (fun f s₃ h₃ => ?_) fun _ _ e => e.elim
    obtain ⟨rfl, h₄, tk₄, m₄, k₄, rfl, hk, S₄, j₄⟩ := h₃
    exact ⟨k₄, hk, h₄, tk₄, m₄, rfl, S₄, j₄⟩

theorem For_r3 {nm x : Str} {px rp rpos pos : Pos} {e₁ e₂ e₃ : Expr} {body : List Stmt} {Q : Flow → Shared → Prop} {lo hi c : Int} {n : Nat}
    (S : St g L m N h) (hh : A.handled = none)
    (hname : ∀ K : Value → Shared → Prop, K (.type "range") (sh s h tk) → wpAny (model prog w) A (eval (.Name nm rp) env) K noE (sh s h tk))
    (he₁ : ∀ tk (K : Value → Shared → Prop), (∀ t tk', K (.int lo t) (sh s h tk')) → wpAny (model prog w) A (eval e₁ env) K noE (sh s h tk))
    (he₂ : ∀ tk (K : Value → Shared → Prop), (∀ t tk', K (.int hi t) (sh s h tk')) → wpAny (model prog w) A (eval e₂ env) K noE (sh s h tk))
    (he₃ : ∀ tk (K : Value → Shared → Prop), (∀ t tk', K (.int c t) (sh s h tk')) → wpAny (model prog w) A (eval e₃ env) K noE (sh s h tk))
    (hc : c ≠ 0) (hp : c.natAbs < 1073741824) (hsm : Builtin.Range.small lo hi c = true) (hn : Builtin.Range.rangeSize lo hi c = n)
    (J : Nat → (Str → Option Value) → List (Addr × Obj) → Prop) (j0 : J 0 m N)
    (turn : ∀ i t m₁ N₁ g₁ h₁ tk₁, i < n → J i m₁ N₁ → N₁.map (·.1) = N.map (·.1) → Ext g g₁ → St g₁ L (up m₁ x (.int (lo + i * c) t)) N₁ h₁ →
      wpAny (model prog w) A (execs body env) (Turn s g₁ L (N.map (·.1)) (J (i + 1))) noE (sh s h₁ tk₁))
    (done : ∀ m₁ N₁ h₁ tk₁, J n m₁ N₁ → N₁.map (·.1) = N.map (·.1) → St g L m₁ N₁ h₁ → Q .next (sh s h₁ tk₁))
    (hse : starEach [e₁, e₂, e₃] env = [(false, eval e₁ env), (false, eval e₂ env), (false, eval e₃ env)] := by rfl)
    (hk : env.scope.kind = .function := by rfl) (hx : env.kindOf x = some .local := by rfl) (hLo : env.locals = L := by rfl) :
    wpAny (model prog w) A (exec (.For (.Name x px) (.Call (.Name nm rp) [e₁, e₂, e₃] [] rpos) body [] pos) env) Q noE (sh s h tk) := by
  refine wpAny_For (wpAny_Call_NameR (hname _ ?_))
  rw [hse]
  refine PySem.callWith_type rfl (Calls.evalArgs_plain (Calls.spliced_cons (he₁ _ _ fun t tk' => Calls.spliced_cons (he₂ _ _ fun t' tk'' => Calls.spliced_cons (he₃ _ _ fun t'' tk₃ => Calls.spliced_nil ?_)))))
  refine call_range_3 (s := sh s h tk₃) hc ?_ (.inl (PyProof.noPylong_small hp))
  exact for_iter S hh (Ext.push h _) (IsRange.new ..) hsm hn J j0 turn done hk hx hLo

/-! a list of numbers -/
def NL (h : Heap) (a : Addr) (l : List Nat) : Prop := ∃ vs : List Value, h.IsList a vs.toArray ∧ vs.length = l.length ∧ ∀ i (hi : i < l.length), ∃ t, vs[i]? = some (.int (l[i] : Nat) t)
theorem NL.ext {h h' : Heap} {a : Addr} {l : List Nat} (x : NL h a l) (e : Ext h h') : NL h' a l := let ⟨vs, h1, h2, h3⟩ := x; ⟨vs, h1.at fun o q => e _ o q, h2, h3⟩
theorem NL.lt {h : Heap} {a : Addr} {l : List Nat} (x : NL h a l) : a < h.objs.size := by obtain ⟨vs, ⟨o, ho, _⟩, _⟩ := x; exact Heap.lt_size ho

/-- a loop over a list of any values -/
theorem For_list {x : Str} {px pos : Pos} {e : Expr} {body : List Stmt} {Q : Flow → Shared → Prop} {a : Addr} {vs : List Value}
    (S : St g L m N h) (hh : A.handled = none)
    (he : ∀ K : Value → Shared → Prop, (∀ tk', K (.ref a) (sh s h tk')) → wpAny (model prog w) A (eval e env) K noE (sh s h tk))
    (hl : h.IsList a vs.toArray) (haL : a ≠ L) (haN : a ∉ N.map (·.1))
    (J : Nat → (Str → Option Value) → List (Addr × Obj) → Prop) (j0 : J 0 m N)
    (turn : ∀ i v m₁ N₁ g₁ h₁ tk₁, vs[i]? = some v → J i m₁ N₁ → N₁.map (·.1) = N.map (·.1) → Ext g g₁ → St g₁ L (up m₁ x v) N₁ h₁ →
      wpAny (model prog w) A (execs body env) (Turn s g₁ L (N.map (·.1)) (J (i + 1))) noE (sh s h₁ tk₁))
    (done : ∀ m₁ N₁ h₁ tk₁, J vs.length m₁ N₁ → N₁.map (·.1) = N.map (·.1) → St g L m₁ N₁ h₁ → Q .next (sh s h₁ tk₁))
    (hs : ∀ x, foldedSetIterable e env x = pure x := by intro _; rfl)
    (hk : env.scope.kind = .function := by rfl) (hx : env.kindOf x = some .local := by rfl) (hLo : env.locals = L := by rfl) :
    wpAny (model prog w) A (exec (.For (.Name x px) e body [] pos) env) Q noE (sh s h tk) := by
  refine wpAny_For (he _ fun tk' => ?_) hs
  refine wpAny_pyIter_list (s := sh s h tk') hl ?_
  have hlt : a < h.objs.size := by obtain ⟨o, ho, _⟩ := hl; exact Heap.lt_size ho
  have hne : a ≠ h.objs.size := Nat.ne_of_lt hlt
  have hsz : vs.toArray.size = vs.length := by simp
  refine forW (Walks.list hh h.objs.size a hne vs.toArray) (S.ext (Ext.push h _)) ?_ ?_ ?_ ⟨⟨_, Heap.get?_push_size _ rfl, rfl, rfl⟩, hl.push _⟩ J j0 (fun i v m₁ N₁ g₁ h₁ tk₁ hi hP j ha hg S₁ => ?_) (by rw [hsz]; exact done) hk hx hLo
  · intro hm
    rcases List.mem_cons.mp hm with q | q
    · have := S.ns.lt; rw [q] at this; exact absurd this (Nat.lt_irrefl _)
    · exact haL (List.mem_singleton.mp q).symm
  · intro b hb hm
    rcases List.mem_cons.mp hm with q | q
    · obtain ⟨p, hp, rfl⟩ := List.mem_map.mp hb
      have := S.lt hp; rw [q] at this; exact absurd this (Nat.lt_irrefl _)
    · rw [List.mem_singleton.mp q] at hb; exact haN hb
  · intro b hb
    rw [List.mem_singleton.mp hb]; exact S.fresh
  · exact turn i v m₁ N₁ g₁ h₁ tk₁ (by simpa using hP) j ha hg S₁

/-! numbers -/
theorem mulN {x y : Nat} {t u : Tok} {Q : Value → Shared → Prop} (hy : y < 2 ^ 63) (q : Q (.int (x * y : Nat) tk) (sh s h (tk + 1))) : wpAny (model prog w) A (binaryOp .Mult (.int (x : Int) t) (.int (y : Int) u)) Q E (sh s h tk) := by
  refine mul_int (s := sh s h tk) ?_ (.of_right ?_)
  · rw [← Int.natCast_mul]; exact q
  · exact intBits_le (by rw [Int.natAbs_natCast]; omega)
theorem addN {x y : Nat} {t u : Tok} {Q : Value → Shared → Prop} (q : Q (.int (x + y : Nat) tk) (sh s h (tk + 1))) : wpAny (model prog w) A (binaryOp .Add (.int (x : Int) t) (.int (y : Int) u)) Q E (sh s h tk) := addR (by rw [← Int.natCast_add]; exact q)
theorem divN {x y : Nat} {t u : Tok} {Q : Value → Shared → Prop} (h0 : y ≠ 0) (hy : y < 1073741824) (q : Q (.int (x / y : Nat) tk) (sh s h (tk + 1))) : wpAny (model prog w) A (binaryOp .FloorDiv (.int (x : Int) t) (.int (y : Int) u)) Q E (sh s h tk) := by
  refine floordiv_int (s := sh s h tk) (by omega) ?_ (.inl (PyProof.noPylong_small (by rw [Int.natAbs_natCast]; exact hy)))
  rw [Int.fdiv_eq_ediv_of_nonneg _ (Int.natCast_nonneg _), ← Int.natCast_ediv]; exact q
theorem modN {x y : Nat} {t u : Tok} {Q : Value → Shared → Prop} (h0 : y ≠ 0) (q : Q (.int (x % y : Nat) tk) (sh s h (tk + 1))) : wpAny (model prog w) A (binaryOp .Mod (.int (x : Int) t) (.int (y : Int) u)) Q E (sh s h tk) := by
  refine modR (by omega) ?_
  rw [Int.fmod_eq_emod_of_nonneg _ (Int.natCast_nonneg _), ← Int.natCast_emod]; exact q
theorem powN {x y : Nat} {t u : Tok} {Q : Value → Shared → Prop} (hx : x < 2 ^ 63) (hy : y ≤ 1000000) (q : Q (.int (x ^ y : Nat) tk) (sh s h (tk + 1))) : wpAny (model prog w) A (binaryOp .Pow (.int (x : Int) t) (.int (y : Int) u)) Q E (sh s h tk) := by
  refine pow_int_small (s := sh s h tk) (Int.natCast_nonneg _) (by omega) (by rw [Int.natAbs_natCast]; omega) ?_
  rw [Int.toNat_natCast, ← Int.natCast_pow]; exact q
theorem andN {x y : Nat} {t u : Tok} {Q : Value → Shared → Prop} (q : Q (.int (x &&& y : Nat) tk) (sh s h (tk + 1))) : wpAny (model prog w) A (binaryOp .BitAnd (.int (x : Int) t) (.int (y : Int) u)) Q E (sh s h tk) := by
  refine and_int (s := sh s h tk) ?_
  rw [bitAnd_pp (Int.natCast_nonneg _) (Int.natCast_nonneg _), Int.toNat_natCast, Int.toNat_natCast]; exact q
end
end Mine
namespace Mine
section
variable {prog : Program} {w : World} {A : Around} {E : Value → Shared → Prop} {s : Shared} {g h : Heap} {tk : Nat} {env : Env} {L : Addr} {m : Str → Option Value} {N : List (Addr × Obj)}

/-- entering a def with captured names -/
theorem codeC_call_cells {R : Value → Shared → Prop} {a : Addr} {o : Obj} {fd : FuncData} {body : List Stmt} {args : Args} {binds : List (Str × Value)}
    (hroom : A.depth < recursionLimit) (ho : s.heap.get? a = some o) (hdata : o.data = .func fd) (hlim : s.heap.NoLimit) (hcd : s.heap.CodeRec fd.code fd.qualname)
    (hbody : fd.body = .stmts body) (hbind : BindsTo s fd args binds) (hclo : fd.closure = [])
    (hkind : ∀ x ∈ binds, fd.scope.names.lookup x.1 = some .local ∨ (fd.scope.names.lookup x.1 = some .cell ∧ ((cellsFrom (s.heap.objs.size + 1) fd.scope.names []).lookup x.1).isSome = true))
    (h : ∀ s₁, InCallC s (callEnvC fd s.heap.objs.size a).locals (bindL (callEnvC fd s.heap.objs.size a).kindOf binds fun _ => none) (callEnvC fd s.heap.objs.size a).cells
        (bindC (callEnvC fd s.heap.objs.size a).kindOf binds fun _ => none) s₁ →
      wpC (model prog w) (A.deeper (callEnvC fd s.heap.objs.size a)) (execs body (callEnvC fd s.heap.objs.size a)) (fun f s' => R (match f with | .ret v => v | _ => .none) s') s₁)
    (hco : fd.scope.isCoroutine = false := by rfl) (hgen : fd.scope.isGenerator = false := by rfl) (hk : fd.scope.kind = .function := by rfl) :
    codeC (model prog w) A (.call (.ref a) args) R s := by
  refine codeC_of_tree ?_
  show wpC _ A.in1 (callAny (.ref a) args) _ s
  simp only [callAny]
  refine wpC_bind_of (wpAny_load ho ?_)
  obtain ⟨c, oc, vs, tq, hc, hoc, hdc, hq⟩ := id hcd
  simp only [hdata, callFunction, hco, hgen, hbody, hc]
  refine wpC_bind_of (m := field (.ref c) 1) (wpAny_field hoc hdc hq (wpC_bind (wpC_pure ?_)))
  refine wpC_bind_of (hbind _ _ _ _ ?_)
  rw [← hc, hclo]
  refine wpC_bind_of (wpAny_newFunctionEnv_cells hk hkind fun env he s₁ x => ?_)
  subst he
  refine wpC_bind_of (wpAny_enterFrame (hlim.keeps x.toInCall.keep) hroom (wpC_pure ⟨rfl, rfl, ?_⟩))
  refine codeC_of_tree ?_
  show wpC _ (A.deeper (callEnvC fd s.heap.objs.size a)) (do point; match ← (execs body (callEnvC fd s.heap.objs.size a)).onRaise (leaving (callEnvC fd s.heap.objs.size a)) with | .ret v => ret v | _ => ret .none) _ _
  refine wpC_bind_of (wpAny_point (wpC_bind (wpC_onRaise (wpC_mono (h s₁ x) fun f s' h' => ?_))))
  cases f <;> exact wpC_pure ⟨_, rfl, h'⟩

/-- a captured name -/
theorem nmC {x : Str} {pos : Pos} {v : Value} {c : Addr} {Q : Value → Shared → Prop} (S : St g L m N h) (hc : g.IsCell c (some v)) (q : Q v (sh s h tk))
    (hk : env.scope.kind = .function := by rfl) (hl : env.kindOf x = some .cell := by rfl) (he : env.cells.lookup x = some c := by rfl) (hd : (x == ("__debug__" : Str)) = false := by decide) :
    wpAny (model prog w) A (eval (.Name x pos) env) Q E (sh s h tk) := wpAny_Name (wpAny_loadName_cell hk hl he (hc.keeps S.keep) q) hd

/-- an item of a list of numbers -/
theorem itNL (j : Nat) {value slice : Expr} {r : Addr} {l : List Nat} {k : Int} {u : Tok} {Q : Value → Shared → Prop} (hj : k = (j : Int)) (hr : NL h r l) (h1 : j < l.length) (hz : l.length ≤ 2 ^ 24)
    (q : ∀ t, Q (.int (l.getD j 0 : Nat) t) (sh s h tk))
    (hs : subscripted slice false (.ref r) (.int k u) = operate [.ref r, .int k u] (getItem (.ref r) (.int k u)) := by with_unfolding_all rfl) :
    wpAny (model prog w) A (subscriptTail value slice (.ref r) (.int k u)) Q E (sh s h tk) := by
  subst hj
  obtain ⟨vs, hl, hlen, hv⟩ := hr
  obtain ⟨t, ht⟩ := hv j h1
  refine tail_any (Heap.IsList.typeIs (s := sh s h tk) hl) slot_list_getitem.lookup (wpAny_getItem_list (s := sh s h tk) hl (Int.natCast_nonneg _) (by omega) (by simpa using ht) ?_) hs
  have e : l.getD j 0 = l[j] := by simp [h1]
  rw [← e]; exact q t

theorem NL.of_items {h : Heap} {a : Addr} {l : List Nat} {ys : Array Value} (hl : h.IsList a ys) (hlen : ys.size = l.length) (hy : ∀ i (hi : i < l.length), ∃ t, ys[i]? = some (.int (l[i] : Nat) t)) : NL h a l :=
  ⟨ys.toList, by simpa using hl, by simpa using hlen, fun i hi => by simpa using hy i hi⟩

theorem paired_get {F : Value → Value → Prop} : ∀ {vs ys : List Value}, Paired F vs ys → ∀ (i : Nat) (v : Value), vs[i]? = some v → ∃ y, ys[i]? = some y ∧ F v y
  | _, _, .nil, i, v, e => by simp at e
  | _, _, .cons h t, 0, v, e => by simp at e; subst e; exact ⟨_, rfl, h⟩
  | _, _, .cons h t, i + 1, v, e => by
    obtain ⟨y, a, b⟩ := paired_get t i v (by simpa using e)
    exact ⟨y, by simpa using a, b⟩

/-- the frame of a comprehension -/
theorem St.comp {C : Addr} {m₃ : Str → Option Value} {h₃ : Heap} (hn : h₃.Ns C m₃) : St (hideL h₃ [C]) C m₃ [] h₃ :=
  ⟨hn, fun b o e => of_hideL _ e, hideL_none _ (.head _), fun _ hp => nomatch hp⟩

theorem walks_bounded {I : Addr} {fp wr : List Addr} {n : Nat} {P : Nat → Value → Prop} {Sw : Nat → Heap → Prop} (W : Walks prog w A I fp wr n P Sw) : Walks prog w A I fp wr n (fun i v => i < n ∧ P i v) Sw :=
  ⟨W.sub, W.frame, fun i s Q E hi st hQ => W.item i s Q E hi st fun v h' tk hP => hQ v h' tk ⟨hi, hP⟩, W.done, W.self⟩

/-- y = [elt for x in ..] over a walk -/
theorem compW {elt iter : Expr} {x y : Str} {px py : Pos} {scope : Scope} {cl : List (Str × Addr)} {pos spos : Pos} {Q : Flow → Shared → Prop} {n : Nat} {P : Nat → Value → Prop} (F : Value → Value → Prop)
    (S : St g L m N h)
    (hit : ∀ K : Value → Shared → Prop, (∀ I fp Sw h₁ tk₁, Ext h h₁ → h.objs.size ≤ h₁.objs.size → h.objs.size ≤ I → Walks prog w A I fp [I] n P Sw → Sw 0 h₁ → (∀ b ∈ fp, b < h₁.objs.size) → K (.ref I) (sh s h₁ tk₁)) →
      wpAny (model prog w) A (eval iter env) (fun xv s₁ => wpAny (model prog w) A (pyIter xv) K noE s₁) noE (sh s h tk))
    (hn : n ≤ 2 ^ 24)
    (helt : ∀ C i v (s₃ : Shared) m₃, i < n → P i v → Ext g (hideL s₃.heap [C]) → St (hideL s₃.heap [C]) C m₃ [] s₃.heap → m₃ x = some v →
      wpAny (model prog w) A (eval elt (compEnvC scope cl C env)) (fun y s₄ => F v y ∧ ∃ tk₄, s₄ = sh s₃ s₃.heap tk₄) noE (sh s₃ s₃.heap s₃.toks))
    (q : ∀ D h' tk' (zs : List Value), St g L (up m y (.ref D)) N h' → D ≠ L → g.get? D = none → D ∉ N.map (·.1) → h'.IsList D zs.toArray → zs.length = n → (∀ i, i < n → ∃ v z, P i v ∧ zs[i]? = some z ∧ F v z) → Q .next (sh s h' tk'))
    (hsw : swapsWith (.ListComp elt [⟨.Name x px, iter, [], 0⟩] scope pos) (some (.Name y py)) spos.line env = pure true)
    (hclos : closureFor scope env = pure cl) (hcell : ∀ z ∈ scope.names, z.2 ≠ .cell) (hkind : scope.kind = .function)
    (hnames : ∀ z ∈ scope.names, z.2 = .local → scope.names.lookup z.1 = some .local) (hx : scope.names.lookup x = some .local)
    (hs : ∀ x, foldedSetIterable iter env x = pure x := by intro _; rfl)
    (hk : env.scope.kind = .function := by rfl) (hy : env.kindOf y = some .local := by rfl) (hLo : env.locals = L := by rfl) :
    wpAny (model prog w) A (exec (.Assign [.Name y py] (.ListComp elt [⟨.Name x px, iter, [], 0⟩] scope pos) spos) env) Q noE (sh s h tk) := by
  subst hLo
  refine wpAny_Assign_ListComp_free (fun _ => true) F hsw hclos hcell hkind hnames hx hy (by rw [hk]; rfl) (hit _ fun I fp Sw h₁ tk₁ e₁ hle hI W hst hfp => ?_) hs
  have hLI : env.locals ≠ I := Nat.ne_of_lt (Nat.lt_of_lt_of_le S.ns.lt hI)
  have hgI : g.get? I = none := by
    cases q : g.get? I with
    | none => rfl
    | some o => exact absurd (Heap.lt_size (S.keep _ _ q)) (Nat.not_lt.mpr hI)
  refine ⟨I, fp, [I], n, (fun i v => i < n ∧ P i v), Sw, m, rfl, walks_bounded W, hn, hst, hfp, by simpa using hLI, S.ns.keeps e₁, ⟨?_, ?_⟩, ?_⟩
  · intro C i v s₃ m₃ E' _ _ _ _ _ _
    exact wpAny_pure ⟨rfl, s₃.heap, s₃.toks, rfl, fun _ _ e => e⟩
  · intro C i v s₃ m₃ E' hC hP _ hn₃ hm₃ hk₃ htk
    refine wpAny_mono (helt C i v s₃ m₃ hP.1 hP.2 (fun b o e => hideL_get _ (hk₃ b o (fun q => ?_) (e₁ _ _ (S.keep b o e))) fun q => ?_) (St.comp hn₃) hm₃) (fun y s₄ h₄ => ?_) fun _ _ e => e.elim
    · rw [List.mem_singleton.mp q, hgI] at e; cases e
    · have h1 := Heap.lt_size (S.keep b o e)
      have h2 : h₁.objs.size ≤ C := hC
      rw [List.mem_singleton.mp q] at h1; exact absurd h1 (Nat.not_lt.mpr (Nat.le_trans hle h2))
    · obtain ⟨hf, tk₄, rfl⟩ := h₄
      exact ⟨hf, _, _, rfl, fun _ _ e => e⟩
  · intro D h' tk' ys vs hD hl hpl hlen hP hF hns hkeep
    have hvf : vs.filter (fun _ => true) = vs := List.filter_eq_self.mpr fun _ _ => rfl
    rw [hvf] at hF
    have hDL : D ≠ env.locals := by rintro rfl; obtain ⟨o, _, _, ho, _⟩ := S.ns; rw [e₁ _ _ ho] at hD; cases hD
    have hgD : g.get? D = none := by
      cases q : g.get? D with
      | none => rfl
      | some o => rw [e₁ _ _ (S.keep _ _ q)] at hD; cases hD
    refine q D h' tk' ys.toList ⟨hns, fun b o e => hkeep b o (fun q => ?_) (fun q => ?_) (e₁ _ _ (S.keep b o e)), S.off, fun p hp => ⟨hkeep _ _ (S.news p hp).2.1 (fun q => ?_) (e₁ _ _ (S.news p hp).1), (S.news p hp).2⟩⟩ hDL hgD ?_ (by simpa using hl) ?_ ?_
    · rw [q, S.off] at e; cases e
    · rw [List.mem_singleton.mp q, hgI] at e; cases e
    · have h1 := S.lt hp; rw [List.mem_singleton.mp q] at h1; exact absurd h1 (Nat.not_lt.mpr hI)
    · intro hm
      obtain ⟨p, hp, rfl⟩ := List.mem_map.mp hm
      rw [e₁ _ _ (S.news p hp).1] at hD; cases hD
    · rw [← hlen]; exact hF.length.symm
    · intro i hi
      have hiv : i < vs.length := by omega
      obtain ⟨z, hz, hf⟩ := paired_get hF i vs[i] (by simp [hiv])
      exact ⟨vs[i], z, (hP i _ (by simp [hiv])).2, hz, hf⟩

theorem iterIt {hi : Int} {n : Nat} {r : Addr} {t u v : Tok} {h₁ : Heap} {tk₁ : Nat} {K : Value → Shared → Prop} (hh : A.handled = none) (e : Ext h h₁) (hle : h.objs.size ≤ h₁.objs.size) (hr : IsRange h₁ r 0 hi 1 t u v) (hb : hi < 2 ^ 62) (hlo : -(2 ^ 62) ≤ hi) (hn : n = hi.toNat)
    (k : ∀ I fp Sw h₁ tk₁, Ext h h₁ → h.objs.size ≤ h₁.objs.size → h.objs.size ≤ I → Walks prog w A I fp [I] n (fun i v => ∃ t, v = .int ((0 : Int) + i * 1) t) Sw → Sw 0 h₁ → (∀ b ∈ fp, b < h₁.objs.size) → K (.ref I) (sh s h₁ tk₁)) :
    wpAny (model prog w) A (pyIter (.ref r)) K noE (sh s h₁ tk₁) := by
  refine wpAny_pyIter_range (s := sh s h₁ tk₁) hr (small_one (by decide) (by decide) hlo hb) ?_
  have e1 : Builtin.Range.rangeSize 0 hi 1 = (n : Int) := by rw [rangeSize_one, hn]; split <;> omega
  have hit : IsRangeIter (h₁.push { cls := .type "range_iterator", data := .fields #[rawInt 0, rawInt (Builtin.Range.rangeSize 0 hi 1), rawInt 1] }) h₁.objs.size ((0 : Int) + ((0 : Nat) : Int) * 1) ((n : Int) - ((0 : Nat) : Int)) 1 := by
    show _ = _; rw [← e1]; simpa using Heap.get?_push_size _ rfl
  have hsz : (h₁.push { cls := .type "range_iterator", data := .fields #[rawInt 0, rawInt (Builtin.Range.rangeSize 0 hi 1), rawInt 1] }).objs.size = h₁.objs.size + 1 := Heap.size_push ..
  exact k h₁.objs.size [h₁.objs.size] (fun i h => IsRangeIter h h₁.objs.size ((0 : Int) + (i : Nat) * 1) ((n : Int) - (i : Nat)) 1) _ tk₁ (e.trans (Ext.push _ _)) (by rw [hsz]; omega) hle (Walks.range hh _ 0 1 n) hit
    (fun b hb => by rw [List.mem_singleton.mp hb, hsz]; exact Nat.lt_succ_self _)
theorem rangeIt {hi : Int} {n : Nat} {t : Tok} {K : Value → Shared → Prop} (hh : A.handled = none) (hb : hi < 2 ^ 62) (hlo : -(2 ^ 62) ≤ hi) (hn : n = hi.toNat)
    (k : ∀ I fp Sw h₁ tk₁, Ext h h₁ → h.objs.size ≤ h₁.objs.size → h.objs.size ≤ I → Walks prog w A I fp [I] n (fun i v => ∃ t, v = .int ((0 : Int) + i * 1) t) Sw → Sw 0 h₁ → (∀ b ∈ fp, b < h₁.objs.size) → K (.ref I) (sh s h₁ tk₁)) :
    wpAny (model prog w) A (call (.type "range") [.int hi t]) (fun xv s₁ => wpAny (model prog w) A (pyIter xv) K noE s₁) noE (sh s h tk) :=
  call_range_1 (s := sh s h tk) (iterIt hh (Ext.push h _) (by rw [Heap.size_push]; exact Nat.le_succ _) (IsRange.new ..) hb hlo hn k)
end
end Mine
namespace Mine

/-! the field of 256: tables as the program lays them -/
def xt (x : Nat) : Nat := if x < 128 then 2 * x else (2 * x) ^^^ 285
def expGo : Nat → Nat → List Nat
  | 0, _ => []
  | n + 1, x => x :: expGo n (xt x)
/-- the i-th power of two -/
def pw2 : Nat → Nat
  | 0 => 1
  | n + 1 => xt (pw2 n)
def expA : List Nat := expGo 255 1
def expL : List Nat := expA ++ expA
def logAt (n : Nat) : List Nat := (List.range n).foldl (fun l i => l.set (expA.getD i 0) i) (List.replicate 256 0)
def logL : List Nat := logAt 255

theorem expGo_length : ∀ n x, (expGo n x).length = n
  | 0, _ => rfl
  | n + 1, x => by simp [expGo, expGo_length n]
theorem expL_length : expL.length = 510 := by simp [expL, expA, expGo_length]
theorem logAt_length (n : Nat) : (logAt n).length = 256 := by
  unfold logAt
  generalize List.range n = l
  suffices ∀ (l : List Nat) (a : List Nat), a.length = 256 → (l.foldl (fun l i => l.set (expA.getD i 0) i) a).length = 256 from this l _ (by simp)
  intro l
  induction l with
  | nil => exact fun a h => h
  | cons x l ih => exact fun a h => ih _ (by simpa using h)
theorem logL_length : logL.length = 256 := logAt_length 255

/-! the same tables, written out -/
def expT : List Nat := [1, 2, 4, 8, 16, 32, 64, 128, 29, 58, 116, 232, 205, 135, 19, 38, 76, 152, 45, 90, 180, 117, 234, 201, 143, 3, 6, 12, 24, 48, 96, 192, 157, 39, 78, 156, 37, 74, 148, 53, 106, 212, 181, 119, 238, 193, 159, 35, 70, 140, 5, 10, 20, 40, 80, 160, 93, 186, 105, 210, 185, 111, 222, 161, 95, 190, 97, 194, 153, 47, 94, 188, 101, 202, 137, 15, 30, 60, 120, 240, 253, 231, 211, 187, 107, 214, 177, 127, 254, 225, 223, 163, 91, 182, 113, 226, 217, 175, 67, 134, 17, 34, 68, 136, 13, 26, 52, 104, 208, 189, 103, 206, 129, 31, 62, 124, 248, 237, 199, 147, 59, 118, 236, 197, 151, 51, 102, 204, 133, 23, 46, 92, 184, 109, 218, 169, 79, 158, 33, 66, 132, 21, 42, 84, 168, 77, 154, 41, 82, 164, 85, 170, 73, 146, 57, 114, 228, 213, 183, 115, 230, 209, 191, 99, 198, 145, 63, 126, 252, 229, 215, 179, 123, 246, 241, 255, 227, 219, 171, 75, 150, 49, 98, 196, 149, 55, 110, 220, 165, 87, 174, 65, 130, 25, 50, 100, 200, 141, 7, 14, 28, 56, 112, 224, 221, 167, 83, 166, 81, 162, 89, 178, 121, 242, 249, 239, 195, 155, 43, 86, 172, 69, 138, 9, 18, 36, 72, 144, 61, 122, 244, 245, 247, 243, 251, 235, 203, 139, 11, 22, 44, 88, 176, 125, 250, 233, 207, 131, 27, 54, 108, 216, 173, 71, 142]
def logT : List Nat := [0, 0, 1, 25, 2, 50, 26, 198, 3, 223, 51, 238, 27, 104, 199, 75, 4, 100, 224, 14, 52, 141, 239, 129, 28, 193, 105, 248, 200, 8, 76, 113, 5, 138, 101, 47, 225, 36, 15, 33, 53, 147, 142, 218, 240, 18, 130, 69, 29, 181, 194, 125, 106, 39, 249, 185, 201, 154, 9, 120, 77, 228, 114, 166, 6, 191, 139, 98, 102, 221, 48, 253, 226, 152, 37, 179, 16, 145, 34, 136, 54, 208, 148, 206, 143, 150, 219, 189, 241, 210, 19, 92, 131, 56, 70, 64, 30, 66, 182, 163, 195, 72, 126, 110, 107, 58, 40, 84, 250, 133, 186, 61, 202, 94, 155, 159, 10, 21, 121, 43, 78, 212, 229, 172, 115, 243, 167, 87, 7, 112, 192, 247, 140, 128, 99, 13, 103, 74, 222, 237, 49, 197, 254, 24, 227, 165, 153, 119, 38, 184, 180, 124, 17, 68, 146, 217, 35, 32, 137, 46, 55, 63, 209, 91, 149, 188, 207, 205, 144, 135, 151, 178, 220, 252, 190, 97, 242, 86, 211, 171, 20, 42, 93, 158, 132, 60, 57, 83, 71, 109, 65, 162, 31, 45, 67, 216, 183, 123, 164, 118, 196, 23, 73, 236, 127, 12, 111, 246, 108, 161, 59, 82, 41, 157, 85, 170, 251, 96, 134, 177, 187, 204, 62, 90, 203, 89, 95, 176, 156, 169, 160, 81, 11, 245, 22, 235, 122, 117, 44, 215, 79, 174, 213, 233, 230, 231, 173, 232, 116, 214, 244, 234, 168, 80, 88, 175]
theorem expA_lit : expA = expT := by decide +kernel
theorem logL_lit : logL = logT := by
  unfold logL logAt
  rw [expA_lit]
  decide +kernel

theorem all_of {l : List Nat} {p : Nat → Bool} (h : l.all p = true) {x : Nat} (hx : x ∈ l) : p x = true := List.all_eq_true.mp h x hx
theorem expL_oct : ∀ x ∈ expL, x < 256 := by
  have h : (expT ++ expT).all (fun x => decide (x < 256)) = true := by decide +kernel
  unfold expL
  rw [expA_lit]
  exact fun x hx => by simpa using all_of h hx
theorem logL_lt : ∀ x ∈ logL, x < 255 := by
  have h : logT.all (fun x => decide (x < 255)) = true := by decide +kernel
  rw [logL_lit]
  exact fun x hx => by simpa using all_of h hx

def gm (x y : Nat) : Nat := if x = 0 ∨ y = 0 then 0 else expL.getD ((logL.getD x 0 + logL.getD y 0) % 255) 0

/-- each octet but nought is the power that its log says -/
def tabOk : Bool := (List.range 256).all fun x => x == 0 || expL.getD (logL.getD x 0) 0 == x
theorem tab_ok : tabOk = true := by
  unfold tabOk expL
  rw [expA_lit, logL_lit]
  decide +kernel
theorem exp_log {x : Nat} (hx : x < 256) (h0 : x ≠ 0) : expL.getD (logL.getD x 0) 0 = x := by
  have := List.all_eq_true.mp tab_ok x (List.mem_range.mpr hx)
  simpa [h0] using this
def stepOk : Bool := (List.range 254).all fun i => expL.getD (i + 1) 0 == xt (expL.getD i 0)
theorem step_ok : stepOk = true := by
  unfold stepOk expL
  rw [expA_lit]
  decide +kernel
theorem exp_step {i : Nat} (hi : i < 254) : expL.getD (i + 1) 0 = xt (expL.getD i 0) := by
  have := List.all_eq_true.mp step_ok i (List.mem_range.mpr hi)
  simpa using this
theorem exp_last : xt (expL.getD 254 0) = 1 := by
  unfold expL
  rw [expA_lit]
  decide +kernel
theorem exp_zero : expL.getD 0 0 = 1 := by
  unfold expL
  rw [expA_lit]
  decide +kernel
theorem log_lt (x : Nat) : logL.getD x 0 < 255 := by
  by_cases h : x < logL.length
  · rw [List.getD_eq_getElem?_getD, List.getElem?_eq_getElem h]; exact logL_lt _ (List.getElem_mem h)
  · rw [List.getD_eq_getElem?_getD, List.getElem?_eq_none (Nat.not_lt.mp h)]; decide
theorem exp_lt (i : Nat) : expL.getD i 0 < 256 := by
  by_cases h : i < expL.length
  · rw [List.getD_eq_getElem?_getD, List.getElem?_eq_getElem h]; exact expL_oct _ (List.getElem_mem h)
  · rw [List.getD_eq_getElem?_getD, List.getElem?_eq_none (Nat.not_lt.mp h)]; decide
theorem gm_lt (x y : Nat) : gm x y < 256 := by
  unfold gm; split
  · decide
  · exact exp_lt _
theorem gm_comm (x y : Nat) : gm x y = gm y x := by
  unfold gm
  rw [Nat.add_comm]
  by_cases hx : x = 0 <;> by_cases hy : y = 0 <;> simp [hx, hy]
theorem gm_zero_left (y : Nat) : gm 0 y = 0 := by simp [gm]
theorem gm_zero_right (x : Nat) : gm x 0 = 0 := by simp [gm]
theorem log_one : logL.getD 1 0 = 0 := by
  rw [logL_lit]
  decide +kernel
theorem gm_one_right {x : Nat} (hx : x < 256) : gm x 1 = x := by
  unfold gm
  by_cases h : x = 0
  · simp [h]
  · rw [if_neg (by simp [h]), log_one, Nat.add_zero, Nat.mod_eq_of_lt (log_lt x), exp_log hx h]
/-- the second half of the table repeats the first -/
theorem exp_wrap {i : Nat} (hi : i < 510) : expL.getD i 0 = expL.getD (i % 255) 0 := by
  have hl : expA.length = 255 := expGo_length 255 1
  unfold expL
  by_cases h : i < 255
  · rw [Nat.mod_eq_of_lt h]
  · have e : i % 255 = i - 255 := by omega
    rw [e]
    rw [List.getD_eq_getElem?_getD, List.getD_eq_getElem?_getD, List.getElem?_append_right (by omega), List.getElem?_append_left (by omega), hl]
theorem gm_of_logs {x y : Nat} (hx : x ≠ 0) (hy : y ≠ 0) : expL.getD (logL.getD x 0 + logL.getD y 0) 0 = gm x y := by
  have h1 := log_lt x
  have h2 := log_lt y
  unfold gm
  rw [if_neg (by simp [hx, hy]), exp_wrap (by omega)]
end Mine
namespace Mine

abbrev pw : Program := PySem.Challenge.pw_md0027_01
def sInit : { x : Stmt // pw.main.body[3]? = some x } := ⟨_, rfl⟩
def sMul : { x : Stmt // pw.main.body[4]? = some x } := ⟨_, rfl⟩
def sLut : { x : Stmt // pw.main.body[5]? = some x } := ⟨_, rfl⟩
def sAdd : { x : Stmt // pw.main.body[6]? = some x } := ⟨_, rfl⟩
def sPmul : { x : Stmt // pw.main.body[7]? = some x } := ⟨_, rfl⟩
def sDiv : { x : Stmt // pw.main.body[8]? = some x } := ⟨_, rfl⟩
def sEv : { x : Stmt // pw.main.body[9]? = some x } := ⟨_, rfl⟩
def sNum : { x : Stmt // pw.main.body[12]? = some x } := ⟨_, rfl⟩
def sProd : { x : Stmt // pw.main.body[13]? = some x } := ⟨_, rfl⟩
def sLaw : { x : Stmt // pw.main.body[14]? = some x } := ⟨_, rfl⟩

def fdMk (st : Stmt) (dV : Value) (an : Option Addr) (pm code doc : Value) : FuncData := match st with
  | .FunctionDef name params body _ _ _ scope _ _ _ => defFd name name params body scope mainGlobals dV .none an pm code doc
  | _ => default
/-- the def of the text stands at a -/
def FnAt (st : Stmt) (name : Str) (h : Heap) (a : Addr) : Prop := ∃ an pm c doc, h.get? a = some { cls := .type "function", data := .func (fdMk st .none an pm (.ref c) doc) } ∧ h.CodeRec (.ref c) name
/-- the looks at a def's scope, of a closed term -/
def scopeOf (st : Stmt) : Scope := (fdMk st .none none .none .none .none).scope
theorem FnAt.ext {st : Stmt} {name : Str} {h h' : Heap} {a : Addr} (x : FnAt st name h a) (e : Ext h h') : FnAt st name h' a :=
  let ⟨an, pm, c, doc, h1, h2⟩ := x; ⟨an, pm, c, doc, e _ _ h1, h2.keeps e⟩

theorem FnAt.obj {st : Stmt} {name : Str} {h : Heap} {a : Addr} (x : FnAt st name h a) : ∃ o fd, h.get? a = some o ∧ o.data = .func fd :=
  let ⟨_, _, _, _, h1, _⟩ := x; ⟨_, _, h1, rfl⟩

/-- room in the stack -/
structure Room (A : Around) (n : Nat) : Prop where
  handled : A.handled = none
  depth : A.depth + n < recursionLimit
  units : A.units + 10 * n + 100 < cLine
theorem Room.deeper {A : Around} {n : Nat} (R : Room A (n + 1)) (env : Env) : Room (A.deeper env) n :=
  ⟨R.handled, by have := R.depth; show A.depth + 1 + n < _; omega, by have := R.units; show A.units + 3 + 10 * n + 100 < _; omega⟩
theorem Room.le {A : Around} {n k : Nat} (R : Room A n) (h : k ≤ n) : Room A k := ⟨R.handled, by have := R.depth; omega, by have := R.units; omega⟩

structure Fs where
  (mul add pmul div ev num prod exp log : Addr)
/-- the world of the law's defs -/
structure Wd (fs : Fs) (mg mb : Str → Option Value) (g₀ : Heap) : Prop where
  gl : Gl g₀ mg mb
  exp : g₀.get? fs.exp = some (bl expL)
  log : g₀.get? fs.log = some (bl logL)
  fMul : FnAt sMul.1 "gf_mul" g₀ fs.mul
  fAdd : FnAt sAdd.1 "gf_poly_add" g₀ fs.add
  fPmul : FnAt sPmul.1 "gf_poly_mul" g₀ fs.pmul
  fDiv : FnAt sDiv.1 "gf_poly_div" g₀ fs.div
  fEv : FnAt sEv.1 "gf_poly_eval" g₀ fs.ev
  fNum : FnAt sNum.1 "_law_number" g₀ fs.num
  fProd : FnAt sProd.1 "_law_product" g₀ fs.prod
  nMul : mg "gf_mul" = some (.ref fs.mul)
  nAdd : mg "gf_poly_add" = some (.ref fs.add)
  nPmul : mg "gf_poly_mul" = some (.ref fs.pmul)
  nDiv : mg "gf_poly_div" = some (.ref fs.div)
  nEv : mg "gf_poly_eval" = some (.ref fs.ev)
  nNum : mg "_law_number" = some (.ref fs.num)
  nProd : mg "_law_product" = some (.ref fs.prod)
  nExp : mg "gf_exp" = some (.ref fs.exp)
  nLog : mg "gf_log" = some (.ref fs.log)
  nFc : ∃ t, mg "field_charac" = some (.int 255 t)
  nBa : mg "_bytearray" = some (.type "bytearray")
  nXr : mg "xrange" = some (.type "range")
  oLen : mg "len" = none
  oMax : mg "max" = none
  oMin : mg "min" = none
  oRange : mg "range" = none
  oBa : mg "bytearray" = none
  oList : mg "list" = none
  bLen : mb "len" = some (.builtin "len")
  bMax : mb "max" = some (.builtin "max")
  bMin : mb "min" = some (.builtin "min")
  bRange : mb "range" = some (.type "range")
  bBa : mb "bytearray" = some (.type "bytearray")
  bList : mb "list" = some (.type "list")
theorem Wd.ext {fs : Fs} {mg mb : Str → Option Value} {g g' : Heap} (W : Wd fs mg mb g) (e : Ext g g') : Wd fs mg mb g' :=
  { W with gl := W.gl.ext e, exp := e _ _ W.exp, log := e _ _ W.log, fMul := W.fMul.ext e, fAdd := W.fAdd.ext e, fPmul := W.fPmul.ext e, fDiv := W.fDiv.ext e, fEv := W.fEv.ext e, fNum := W.fNum.ext e, fProd := W.fProd.ext e }

theorem none_at_size (h : Heap) : h.get? h.objs.size = none := Heap.get?_none_of_le (Nat.le_refl _)
theorem St.start {h h₁ : Heap} {m : Str → Option Value} (hns : h₁.Ns h.objs.size m) (hk : Ext h h₁) : St h h.objs.size m [] h₁ := ⟨hns, hk, none_at_size h, fun _ hp => nomatch hp⟩

/-- the end of a call: everything is kept -/
def Back (s : Shared) (R : Result → Shared → Prop) (P : Value → Heap → Prop) : Prop := ∀ v h' tk', Ext s.heap h' → P v h' → R (.ok (.ret v)) (sh s h' tk')

local macro_rules | `(tactic| walk_at "m") => `(tactic| first
  | with_reducible refine wpAny_execs_cons ?_
  | with_reducible refine wpAny_execs_nil ?_
  | with_reducible refine wpAny_If ?_
  | with_reducible refine wpAny_Return_some ?_
  | (with_reducible refine wpAny_Assign_Name (hs := ?hs) ?_; (case hs => with_unfolding_all rfl))
  | with_reducible refine isTrue_or ?_
  | with_reducible refine isTrue_or_nil ?_
  | with_reducible refine isTrue_and ?_
  | with_reducible refine isTrue_and_nil ?_
  | (with_reducible refine wpAny_isTrue_Compare1 (hm := ?hm) ?_; (case hm => with_unfolding_all rfl))
  | with_reducible refine wpAny_BinOp ?_
  | (with_reducible refine wpAny_Compare1 (hm := ?hm) ?_; (case hm => with_unfolding_all rfl))
  | with_reducible refine wpAny_UnaryOp ?_
  | with_reducible refine Subscript_ ?_
  | (with_reducible refine wpAny_AugAssign_Subscript_any (ha := ?ha) ?_; (case ha => intros; rfl))
  | with_reducible refine cst ?_
  | with_reducible refine addR ?_
  | with_reducible refine subR ?_
  | with_reducible refine xorR ?_
  | with_reducible refine ixorR ?_
  | with_reducible refine eqR ?_
  | with_reducible refine neR ?_
  | with_reducible refine gtR ?_
  | with_reducible refine negR ?_
  | with_reducible refine truR ?_)

theorem gf_mul_ok {w : World} {A : Around} {s : Shared} {R : Result → Shared → Prop} {fs : Fs} {mg mb : Str → Option Value} {x y : Nat} {u v : Tok}
    (W : Wd fs mg mb s.heap) (hR : Room A 1) (hx : x < 256) (hy : y < 256) (B : Back s R fun v _ => ∃ t, v = .int (gm x y : Nat) t) :
    codeAny (model pw w) A (.call (.ref fs.mul) ⟨[.int x u, .int y v], []⟩) R s := by
  obtain ⟨an, pm, c, doc, ho, hc⟩ := W.fMul
  refine codeAny_call_def (binds := [("x", .int x u), ("y", .int y v)]) (by have := hR.depth; omega) ho rfl W.gl.lim hc rfl (BindsTo.of_eq (by rfl)) (show ∀ x ∈ (scopeOf sMul.1).names, x.2 ≠ .cell from by decide)
    (show ∀ z ∈ [(("x" : Str), Value.int x u), ("y", Value.int y v)], (scopeOf sMul.1).names.lookup z.1 = some .local from by simp only [List.forall_mem_cons]; exact ⟨by rfl, by rfl, fun _ h => nomatch h⟩) fun h₁ hns hk => wpAny_mono (E := noE) ?_ (fun _ _ x => x) (fun _ _ x => x.elim)
  have S := St.start hns hk
  obtain ⟨tf, nFc⟩ := W.nFc
  have hgm : gm x y = if x = 0 ∨ y = 0 then 0 else expL.getD ((logL.getD x 0 + logL.getD y 0) % 255) 0 := rfl
  iterate 4 walk_at "m"
  refine nm S (by rfl) ?_
  iterate 3 walk_at "m"
  by_cases hx0 : x = 0
  · rw [if_pos (by simpa using hx0)]
    simp only [if_true]
    iterate 3 walk_at "m"
    exact B _ _ _ hk ⟨_, by rw [hgm, if_pos (.inl hx0)]; rfl⟩
  rw [if_neg (by simpa using hx0)]
  iterate 2 walk_at "m"
  refine nm S (by rfl) ?_
  iterate 3 walk_at "m"
  by_cases hy0 : y = 0
  · rw [if_pos (by simpa using hy0)]
    simp only [if_true]
    iterate 3 walk_at "m"
    exact B _ _ _ hk ⟨_, by rw [hgm, if_pos (.inr hy0)]; rfl⟩
  rw [if_neg (by simpa using hy0)]
  iterate 1 walk_at "m"
  simp only [Bool.false_eq_true, if_false]
  iterate 4 walk_at "m"
  refine nmG S W.gl W.nExp ?_
  iterate 3 walk_at "m"
  refine nmG S W.gl W.nLog ?_
  refine nm S (by rfl) ?_
  refine itL (S.keep _ _ W.log) (fun x hx => Nat.lt_trans (logL_lt x hx) (by decide)) (Int.natCast_nonneg _) (by rw [logL_length]; omega) (by rw [logL_length]; decide) ?_
  iterate 1 walk_at "m"
  refine nmG S W.gl W.nLog ?_
  refine nm S (by rfl) ?_
  refine itL (S.keep _ _ W.log) (fun x hx => Nat.lt_trans (logL_lt x hx) (by decide)) (Int.natCast_nonneg _) (by rw [logL_length]; omega) (by rw [logL_length]; decide) ?_
  walk_at "m"
  refine nmG S W.gl nFc ?_
  refine modR (by decide) ?_
  have e : ((((logL.getD (x : Int).toNat 0 : Nat) : Int) + ((logL.getD (y : Int).toNat 0 : Nat) : Int)).fmod 255) = (((logL.getD x 0 + logL.getD y 0) % 255 : Nat) : Int) := by
    rw [Int.fmod_eq_emod_of_nonneg _ (by decide)]; simp
  rw [e]
  refine itL (S.keep _ _ W.exp) expL_oct (Int.natCast_nonneg _) (by rw [expL_length]; omega) (by rw [expL_length]; decide) ?_
  exact B _ _ _ hk ⟨_, by rw [hgm, if_neg (by simp [hx0, hy0])]; rfl⟩
end Mine
namespace Mine

local macro_rules | `(tactic| walk_at "m") => `(tactic| first
  | with_reducible refine wpAny_execs_cons ?_
  | with_reducible refine wpAny_execs_nil ?_
  | with_reducible refine wpAny_If ?_
  | with_reducible refine wpAny_Return_some ?_
  | (with_reducible refine wpAny_Assign_Name (hs := ?hs) ?_; (case hs => with_unfolding_all rfl))
  | with_reducible refine isTrue_or ?_
  | with_reducible refine isTrue_or_nil ?_
  | with_reducible refine isTrue_and ?_
  | with_reducible refine isTrue_and_nil ?_
  | (with_reducible refine wpAny_isTrue_Compare1 (hm := ?hm) ?_; (case hm => with_unfolding_all rfl))
  | with_reducible refine wpAny_BinOp ?_
  | (with_reducible refine wpAny_Compare1 (hm := ?hm) ?_; (case hm => with_unfolding_all rfl))
  | with_reducible refine wpAny_UnaryOp ?_
  | with_reducible refine Subscript_ ?_
  | (with_reducible refine wpAny_AugAssign_Subscript_any (ha := ?ha) ?_; (case ha => intros; rfl))
  | with_reducible refine cst ?_
  | with_reducible refine addR ?_
  | with_reducible refine subR ?_
  | with_reducible refine xorR ?_
  | with_reducible refine ixorR ?_
  | with_reducible refine eqR ?_
  | with_reducible refine neR ?_
  | with_reducible refine gtR ?_
  | with_reducible refine negR ?_
  | with_reducible refine truR ?_)

/-! what gf_poly_div reckons -/
def inStep (b : List Nat) (coef i : Nat) (msg : List Nat) (j : Nat) : List Nat := msg.set (i + (1 + j)) (msg.getD (i + (1 + j)) 0 ^^^ gm (b.getD (1 + j) 0) coef)
def inD (b : List Nat) (coef i k : Nat) (msg : List Nat) : List Nat := (List.range k).foldl (inStep b coef i) msg
def divStep (b : List Nat) (msg : List Nat) (i : Nat) : List Nat := inD b (msg.getD i 0) i (b.length - 1) msg
def outD (b : List Nat) (n : Nat) (u : List Nat) : List Nat := (List.range n).foldl (divStep b) u

theorem inD_succ (b : List Nat) (coef i k : Nat) (msg : List Nat) : inD b coef i (k + 1) msg = inStep b coef i (inD b coef i k msg) k := by simp [inD, List.range_succ]
theorem outD_succ (b : List Nat) (n : Nat) (u : List Nat) : outD b (n + 1) u = divStep b (outD b n u) n := by simp [outD, List.range_succ]
theorem inD_length (b : List Nat) (coef i k : Nat) (msg : List Nat) : (inD b coef i k msg).length = msg.length := by
  induction k with
  | zero => rfl
  | succ k ih => rw [inD_succ, inStep, List.length_set, ih]
theorem outD_length (b : List Nat) (n : Nat) (u : List Nat) : (outD b n u).length = u.length := by
  induction n with
  | zero => rfl
  | succ n ih => rw [outD_succ, divStep, inD_length, ih]
theorem xor_lt256 {x y : Nat} (hx : x < 256) (hy : y < 256) : x ^^^ y < 256 := Nat.xor_lt_two_pow (n := 8) hx hy
theorem inD_oct (b : List Nat) (coef i k : Nat) {msg : List Nat} (h : Oct msg) : Oct (inD b coef i k msg) := by
  induction k with
  | zero => exact h
  | succ k ih => rw [inD_succ, inStep]; exact ih.set _ (xor_lt256 (ih.getD _) (gm_lt _ _))
theorem outD_oct (b : List Nat) (n : Nat) {u : List Nat} (h : Oct u) : Oct (outD b n u) := by
  induction n with
  | zero => exact h
  | succ n ih => rw [outD_succ, divStep]; exact inD_oct _ _ _ _ ih
theorem set_self (l : List Nat) (i : Nat) : l.set i (l.getD i 0) = l := by
  by_cases h : i < l.length
  · rw [List.getD_eq_getElem?_getD, List.getElem?_eq_getElem h]; simp
  · rw [List.set_eq_of_length_le (Nat.not_lt.mp h)]
theorem inStep_zero (b : List Nat) (coef i : Nat) (msg : List Nat) (j : Nat) (h : b.getD (1 + j) 0 = 0) : inStep b coef i msg j = msg := by
  rw [inStep, h, gm_zero_left, Nat.xor_zero, set_self]
theorem inD_zero (b : List Nat) (i k : Nat) (msg : List Nat) : inD b 0 i k msg = msg := by
  induction k with
  | zero => rfl
  | succ k ih => rw [inD_succ, ih, inStep, gm_zero_right, Nat.xor_zero, set_self]

theorem add_xor_and (x : Nat) : ∀ y : Nat, x + y = (x ^^^ y) + 2 * (x &&& y) := by
  induction x using Nat.strongRecOn with
  | ind x ih =>
    intro y
    by_cases hx : x = 0
    · subst hx; simp
    · have h := ih (x / 2) (by omega) (y / 2)
      have h1 : (x ^^^ y) / 2 = x / 2 ^^^ y / 2 := Nat.xor_div_two
      have h2 : (x &&& y) / 2 = x / 2 &&& y / 2 := Nat.and_div_two
      have h3 : (x ^^^ y) % 2 ^ 1 = x % 2 ^ 1 ^^^ y % 2 ^ 1 := Nat.xor_mod_two_pow
      have h4 : (x &&& y) % 2 ^ 1 = x % 2 ^ 1 &&& y % 2 ^ 1 := Nat.and_mod_two_pow
      simp only [Nat.pow_one] at h3 h4
      rcases Nat.mod_two_eq_zero_or_one x with a | a <;> rcases Nat.mod_two_eq_zero_or_one y with b | b <;> rw [a, b] at h3 h4 <;> simp only [Nat.xor_zero, Nat.zero_xor, Nat.xor_self, Nat.and_zero, Nat.zero_and, Nat.and_self] at h3 h4 <;> omega
theorem bitXor_nat (x y : Nat) : Builtin.bitXor (x : Int) (y : Int) = ((x ^^^ y : Nat) : Int) := by
  have h := add_xor_and x y
  rw [bitXor_and, bitAnd_pp (Int.natCast_nonneg _) (Int.natCast_nonneg _)]
  simp only [Int.toNat_natCast]
  omega

theorem gf_poly_div_ok {w : World} {A : Around} {s : Shared} {R : Value → Shared → Prop} {fs : Fs} {mg mb : Str → Option Value} {p q : Addr} {u b : List Nat}
    (W : Wd fs mg mb s.heap) (hR : Room A 2) (hp : s.heap.get? p = some (bl u)) (hq : s.heap.get? q = some (bl b)) (ou : Oct u) (ob : Oct b) (hu : u.length ≤ 2 ^ 20) (hb : b.length ≤ 2 ^ 20) (hb2 : 2 ≤ b.length)
    (B : ∀ h' tk' t x y, Ext s.heap h' → h'.get? t = some { cls := .type "tuple", data := .seq #[.ref x, .ref y] } →
      h'.get? x = some (bl ((outD b (u.length - (b.length - 1)) u).take (u.length - (b.length - 1)))) → h'.get? y = some (bl ((outD b (u.length - (b.length - 1)) u).drop (u.length - (b.length - 1)))) → R (.ref t) (sh s h' tk')) :
    codeC (model pw w) A (.call (.ref fs.div) ⟨[.ref p, .ref q], []⟩) R s := by
  obtain ⟨an, pm, c, doc, ho, hc⟩ := W.fDiv
  refine codeC_call_def (binds := [("dividend", .ref p), ("divisor", .ref q)]) (by have := hR.depth; omega) ho rfl W.gl.lim hc rfl (BindsTo.of_eq (by rfl)) (show ∀ x ∈ (scopeOf sDiv.1).names, x.2 ≠ .cell from by decide)
    (show ∀ z ∈ [(("dividend" : Str), Value.ref p), ("divisor", Value.ref q)], (scopeOf sDiv.1).names.lookup z.1 = some .local from by simp only [List.forall_mem_cons]; exact ⟨by rfl, by rfl, fun _ h => nomatch h⟩) fun h₁ hns hk => ?_
  have S := St.start hns hk
  have hR' := hR.deeper (callEnv (fdMk sDiv.1 .none an pm (.ref c) doc) s.heap.objs.size fs.div)
  generalize A.deeper (callEnv (fdMk sDiv.1 .none an pm (.ref c) doc) s.heap.objs.size fs.div) = A' at hR' ⊢
  generalize hL : s.heap.objs.size = L at S ⊢
  -- msg_out = _bytearray(dividend)
  refine wpC_execs_cons (wpC_Assign_Name (wpC_Call_type1 (T := "bytearray") (fun K k => nmG S W.gl W.nBa k) (wpC.of (nm S (by rfl) ?_))))
  refine baC_ba (hk _ _ hp) (by rw [u8_size]; omega) fun h₂ e₂ hr => ?_
  have S₂ := S.alloc e₂ hr
  generalize h₁.objs.size = r at S₂ hr ⊢
  refine str S₂ fun h₃ S₃ => ?_
  -- the loop
  refine wpC_execs_cons (wpC.of ?_)
  refine For_r1 (hi := (u.length : Int) - ((b.length : Int) - 1)) (n := u.length - (b.length - 1)) S₃ hR'.handled (fun K k => nmG S₃ W.gl W.nXr k) (fun K k => ?_) (by omega) (by omega) (by omega)
    (fun i m N => m "msg_out" = some (.ref r) ∧ m "divisor" = some (.ref q) ∧ N = [(r, bl (outD b i u))]) ⟨by rfl, by rfl, rfl⟩ ?_ ?_
  · walk_at "m"
    refine Call_b1 (fun K k => nmB S₃ W.gl W.oLen W.bLen k) (nm S₃ (by rfl) ?_)
    refine lenL (S₃.keep _ _ hp) (by omega) ?_
    walk_at "m"
    refine Call_b1 (fun K k => nmB S₃ W.gl W.oLen W.bLen k) (nm S₃ (by rfl) ?_)
    refine lenL (S₃.keep _ _ hq) (by omega) ?_
    iterate 3 walk_at "m"
    exact k _ _
  · rintro i t m₁ N₁ g₁ h₄ tk₄ hi ⟨m1, m2, rfl⟩ hadr eg S₄
    have W₁ := W.ext eg
    have hq₁ := eg _ _ hq
    have hlen := outD_length b i u
    have hoct := outD_oct b i ou
    iterate 3 walk_at "m"
    refine nm S₄ m1 ?_
    refine nm S₄ (by rfl) ?_
    refine itN i rfl (S₄.get (by simp)) hoct (by rw [hlen]; omega) (by rw [hlen]; omega) ?_
    refine str S₄ fun h₅ S₅ => ?_
    iterate 3 walk_at "m"
    refine nm S₅ (by rfl) ?_
    iterate 3 walk_at "m"
    have hstep : outD b (i + 1) u = inD b ((outD b i u).getD i 0) i (b.length - 1) (outD b i u) := outD_succ b i u
    have cL := hoct.getD i
    generalize hcoef : (outD b i u).getD i 0 = coef at S₅ hstep cL ⊢
    generalize hmsg : outD b i u = msg at S₅ hstep hlen hoct ⊢
    by_cases hc0 : coef = 0
    · rw [if_neg (bneF hc0)]
      iterate 2 walk_at "m"
      refine Turn.intro S₅ rfl ⟨m1, m2, ?_⟩
      rw [hstep, hc0, inD_zero]
    · rw [if_pos (bneT hc0)]
      walk_at "m"
      refine For_r2 (lo := 1) (hi := (b.length : Int)) (n := b.length - 1) S₅ hR'.handled (fun K k => nmG S₅ W₁.gl W₁.nXr k) (fun tk K k => cst (k _ _)) (fun tk K k => ?_) (by omega) (by omega) (by decide) (by decide) (by omega)
        (fun j m N => m "msg_out" = some (.ref r) ∧ m "divisor" = some (.ref q) ∧ (∃ t, m "i" = some (.int i t)) ∧ (∃ t, m "coef" = some (.int coef t)) ∧ N = [(r, bl (inD b coef i j msg))]) ⟨m1, m2, ⟨_, by rfl⟩, ⟨_, by rfl⟩, rfl⟩ ?_ ?_
      · refine Call_b1 (fun K k => nmB S₅ W₁.gl W₁.oLen W₁.bLen k) (nm S₅ (by exact m2) ?_)
        refine lenL (S₅.keep _ _ hq₁) (by omega) ?_
        exact k _ _
      · rintro j t m₂ N₂ g₂ h₆ tk₆ hj ⟨n1, n2, ⟨ti, n3⟩, ⟨tc, n4⟩, rfl⟩ hadr eg₂ S₆
        have W₂ := W₁.ext eg₂
        have hq₂ := eg₂ _ _ hq₁
        have hlen₂ := inD_length b coef i j msg
        have hoct₂ := inD_oct b coef i j hoct
        iterate 3 walk_at "m"
        walk_at "m"
        refine nm S₆ (by exact n2) ?_
        refine nm S₆ (by rfl) ?_
        refine itN (1 + j) (by omega) (S₆.keep _ _ hq₂) ob (by omega) (by omega) ?_
        iterate 3 walk_at "m"
        have hstep₂ : inD b coef i (j + 1) msg = inStep b coef i (inD b coef i j msg) j := inD_succ b coef i j msg
        by_cases hd0 : b.getD (1 + j) 0 = 0
        · rw [if_neg (bneF hd0)]
          iterate 2 walk_at "m"
          exact Turn.intro S₆ rfl ⟨n1, n2, ⟨ti, n3⟩, ⟨tc, n4⟩, by rw [hstep₂, inStep_zero b coef i _ j hd0]⟩
        · rw [if_pos (bneT hd0)]
          walk_at "m"
          with_reducible refine wpAny_AugAssign_SubscriptAny (hi := ?hi) ?_
          case hi => intros; rfl
          refine nm S₆ (by exact n1) ?_
          walk_at "m"
          refine nm S₆ (by exact n3) ?_
          refine nm S₆ (by rfl) ?_
          walk_at "m"
          have hk2 : i + (1 + j) < (inD b coef i j msg).length := by rw [hlen₂, hlen]; omega
          refine gtN (i + (1 + j)) (by omega) (S₆.get (by simp)) hoct₂ hk2 (by rw [hlen₂, hlen]; omega) ?_
          obtain ⟨oM, fdM, hoM, hdM⟩ := W₂.fMul.obj
          refine Call_f2 (o := oM) (fd := fdM) (fun K k => nmG S₆ W₂.gl W₂.nMul k) ?_
          walk_at "m"
          refine nm S₆ (by exact n2) ?_
          refine nm S₆ (by rfl) ?_
          refine itN (1 + j) (by omega) (S₆.keep _ _ hq₂) ob (by omega) (by omega) ?_
          refine nm S₆ (by exact n4) ?_
          refine ⟨⟨S₆.keep _ _ hoM, hdM⟩, gf_mul_ok (W₂.ext S₆.keep) hR' (ob.getD _) cL fun v h₇ tk₇ e₇ hv => ?_⟩
          obtain ⟨tm, rfl⟩ := hv
          have S₇ := S₆.ext e₇
          walk_at "m"
          refine setN (i + (1 + j)) _ (by omega) (bitXor_nat _ _) S₇ (by rw [hlen₂, hlen]; omega) hk2 (xor_lt256 (hoct₂.getD _) (gm_lt _ _)) fun h₈ S₈ => ?_
          dsimp only
          iterate 2 walk_at "m"
          exact Turn.intro S₈ rfl ⟨n1, n2, ⟨ti, n3⟩, ⟨tc, n4⟩, by rw [hstep₂]; rfl⟩
      · rintro m₂ N₂ h₆ tk₆ ⟨n1, n2, n3, n4, rfl⟩ hadr S₆
        iterate 2 walk_at "m"
        exact Turn.intro S₆ rfl ⟨n1, n2, by rw [hstep]⟩
  · rintro m₁ N₁ h₄ tk₄ ⟨m1, m2, rfl⟩ hadr S₄
    have hlen := outD_length b (u.length - (b.length - 1)) u
    generalize hmsg : outD b (u.length - (b.length - 1)) u = msg at S₄ hlen B ⊢
    refine wpC.of ?_
    iterate 4 walk_at "m"
    refine Call_b1 (fun K k => nmB S₄ W.gl W.oLen W.bLen k) (nm S₄ (by exact m2) ?_)
    refine lenL (S₄.keep _ _ hq) (by omega) ?_
    iterate 3 walk_at "m"
    refine str S₄ fun h₅ S₅ => ?_
    dsimp only
    iterate 2 walk_at "m"
    refine Tuple_ ?_
    have hr₅ := S₅.get (a := r) (o := bl msg) (by simp)
    have hb1 : sliceBounds none (some (-((b.length : Int) - 1))) none msg.length = (0, ((u.length - (b.length - 1) : Nat) : Int), 1) := by
      unfold sliceBounds; simp; omega
    have hb3 : sliceBounds (some (-((b.length : Int) - 1))) none none msg.length = (((u.length - (b.length - 1) : Nat) : Int), (msg.length : Int), 1) := by
      unfold sliceBounds; simp; omega
    refine Calls.spliced_cons ?_
    refine slcL (lo := none) (hi := some (-((b.length : Int) - 1))) (x := 0) (y := u.length - (b.length - 1)) (fun K k => nm S₅ (by exact m1) (k _)) (fun _ K k => partNone k) (fun _ K k => nm S₅ (by rfl) (k _ _ (.int _ _))) hr₅
      (by rw [hb1]; rfl) (by rw [hb1]) (Nat.zero_le _) (by omega) (by omega) fun x h₆ tk₆ e₆ hx₆ hgx => ?_
    have S₆ := S₅.ext e₆
    refine Calls.spliced_cons ?_
    refine slcL (lo := some (-((b.length : Int) - 1))) (hi := none) (x := u.length - (b.length - 1)) (y := msg.length) (fun K k => nm S₆ (by exact m1) (k _)) (fun _ K k => nm S₆ (by rfl) (k _ _ (.int _ _))) (fun _ K k => partNone k) (e₆ _ _ hr₅)
      (by rw [hb3]) (by rw [hb3]) (by omega) (by omega) (by omega) fun y h₇ tk₇ e₇ hx₇ hgy => ?_
    refine Calls.spliced_nil ?_
    refine wpAny_newObj_type ?_ (show 2 ≤ sizeLine by decide)
    have S₇ := S₆.ext e₇
    refine B _ _ _ x y (S₇.keep.trans (Ext.push _ _)) (Heap.get?_push_size _ rfl) (Heap.get?_push_of_some _ (e₇ _ _ (by simpa using hgx))) (Heap.get?_push_of_some _ ?_)
    rw [hgy, List.take_of_length_le (by rw [List.length_drop]; omega)]
end Mine
namespace Mine

local macro_rules | `(tactic| walk_at "m") => `(tactic| first
  | with_reducible refine wpAny_execs_cons ?_
  | with_reducible refine wpAny_execs_nil ?_
  | with_reducible refine wpAny_If ?_
  | with_reducible refine wpAny_Return_some ?_
  | (with_reducible refine wpAny_Assign_Name (hs := ?hs) ?_; (case hs => with_unfolding_all rfl))
  | with_reducible refine isTrue_or ?_
  | with_reducible refine isTrue_or_nil ?_
  | with_reducible refine isTrue_and ?_
  | with_reducible refine isTrue_and_nil ?_
  | (with_reducible refine wpAny_isTrue_Compare1 (hm := ?hm) ?_; (case hm => with_unfolding_all rfl))
  | with_reducible refine wpAny_BinOp ?_
  | (with_reducible refine wpAny_Compare1 (hm := ?hm) ?_; (case hm => with_unfolding_all rfl))
  | with_reducible refine wpAny_UnaryOp ?_
  | with_reducible refine Subscript_ ?_
  | (with_reducible refine wpAny_AugAssign_Subscript_any (ha := ?ha) ?_; (case ha => intros; rfl))
  | with_reducible refine cst ?_
  | with_reducible refine addR ?_
  | with_reducible refine subR ?_
  | with_reducible refine xorR ?_
  | with_reducible refine ixorR ?_
  | with_reducible refine eqR ?_
  | with_reducible refine neR ?_
  | with_reducible refine gtR ?_
  | with_reducible refine negR ?_
  | with_reducible refine truR ?_)

/-! gf_poly_eval -/
def evL (u : List Nat) (x k : Nat) : Nat := (List.range k).foldl (fun y i => gm y x ^^^ u.getD (1 + i) 0) (u.getD 0 0)
theorem evL_succ (u : List Nat) (x k : Nat) : evL u x (k + 1) = gm (evL u x k) x ^^^ u.getD (1 + k) 0 := by simp [evL, List.range_succ]
theorem evL_lt {u : List Nat} (ou : Oct u) (x k : Nat) : evL u x k < 256 := by
  induction k with
  | zero => exact ou.getD 0
  | succ k ih => rw [evL_succ]; exact xor_lt256 (gm_lt _ _) (ou.getD _)

theorem gf_poly_eval_ok {w : World} {A : Around} {s : Shared} {R : Result → Shared → Prop} {fs : Fs} {mg mb : Str → Option Value} {p : Addr} {x : Nat} {u : List Nat} {tx : Tok}
    (W : Wd fs mg mb s.heap) (hR : Room A 2) (hp : s.heap.get? p = some (bl u)) (ou : Oct u) (hu : u.length ≤ 2 ^ 20) (h1 : 1 ≤ u.length) (hx : x < 256)
    (B : Back s R fun v _ => ∃ t, v = .int (evL u x (u.length - 1) : Nat) t) :
    codeAny (model pw w) A (.call (.ref fs.ev) ⟨[.ref p, .int x tx], []⟩) R s := by
  obtain ⟨an, pm, c, doc, ho, hc⟩ := W.fEv
  refine codeAny_call_def (binds := [("poly", .ref p), ("x", .int x tx)]) (by have := hR.depth; omega) ho rfl W.gl.lim hc rfl (BindsTo.of_eq (by rfl)) (show ∀ x ∈ (scopeOf sEv.1).names, x.2 ≠ .cell from by decide)
    (show ∀ z ∈ [(("poly" : Str), Value.ref p), ("x", Value.int x tx)], (scopeOf sEv.1).names.lookup z.1 = some .local from by simp only [List.forall_mem_cons]; exact ⟨by rfl, by rfl, fun _ h => nomatch h⟩) fun h₁ hns hk => wpAny_mono (E := noE) ?_ (fun _ _ x => x) (fun _ _ x => x.elim)
  have S := St.start hns hk
  have hR' := hR.deeper (callEnv (fdMk sEv.1 .none an pm (.ref c) doc) s.heap.objs.size fs.ev)
  generalize A.deeper (callEnv (fdMk sEv.1 .none an pm (.ref c) doc) s.heap.objs.size fs.ev) = A' at hR' ⊢
  generalize hL : s.heap.objs.size = L at S ⊢
  iterate 3 walk_at "m"
  refine nm S (by rfl) ?_
  walk_at "m"
  refine itN 0 rfl (S.keep _ _ hp) ou (by omega) (by omega) ?_
  refine str S fun h₂ S₂ => ?_
  walk_at "m"
  refine For_r2 (lo := 1) (hi := (u.length : Int)) (n := u.length - 1) S₂ hR'.handled (fun K k => nmG S₂ W.gl W.nXr k) (fun tk K k => cst (k _ _)) (fun tk K k => ?_) (by omega) (by omega) (by decide) (by decide) (by omega)
    (fun i m N => m "poly" = some (.ref p) ∧ m "x" = some (.int x tx) ∧ (∃ t, m "y" = some (.int (evL u x i : Nat) t)) ∧ N = []) ⟨by rfl, by rfl, ⟨_, by rfl⟩, rfl⟩ ?_ ?_
  · refine Call_b1 (fun K k => nmB S₂ W.gl W.oLen W.bLen k) (nm S₂ (by rfl) ?_)
    refine lenL (S₂.keep _ _ hp) (by omega) ?_
    exact k _ _
  · rintro i t m₁ N₁ g₁ h₃ tk₃ hi ⟨m1, m2, ⟨ty, m3⟩, rfl⟩ hadr eg S₃
    have W₁ := W.ext eg
    have hp₁ := eg _ _ hp
    iterate 3 walk_at "m"
    obtain ⟨oM, fdM, hoM, hdM⟩ := W₁.fMul.obj
    refine Call_f2 (o := oM) (fd := fdM) (fun K k => nmG S₃ W₁.gl W₁.nMul k) ?_
    refine nm S₃ (by exact m3) ?_
    refine nm S₃ (by exact m2) ?_
    refine ⟨⟨S₃.keep _ _ hoM, hdM⟩, gf_mul_ok (W₁.ext S₃.keep) hR' (evL_lt ou x i) hx fun v h₄ tk₄ e₄ hv => ?_⟩
    obtain ⟨tm, rfl⟩ := hv
    have S₄ := S₃.ext e₄
    walk_at "m"
    refine nm S₄ (by exact m1) ?_
    refine nm S₄ (by rfl) ?_
    refine itN (1 + i) (by omega) (S₄.keep _ _ hp₁) ou (by omega) (by omega) ?_
    walk_at "m"
    rw [bitXor_nat]
    refine str S₄ fun h₅ S₅ => ?_
    dsimp only
    walk_at "m"
    exact Turn.intro S₅ rfl ⟨m1, m2, ⟨_, by rw [evL_succ]; rfl⟩, rfl⟩
  · rintro m₁ N₁ h₃ tk₃ ⟨m1, m2, ⟨ty, m3⟩, rfl⟩ hadr S₃
    iterate 2 walk_at "m"
    refine nm S₃ (by exact m3) ?_
    exact B _ _ _ S₃.keep ⟨_, rfl⟩

/-! gf_poly_add, the second no longer than the first -/
def adStep (n k : Nat) (q : List Nat) (r : List Nat) (i : Nat) : List Nat := r.set (i + n - k) (r.getD (i + n - k) 0 ^^^ q.getD i 0)
def adGo (p q : List Nat) (j : Nat) : List Nat := (List.range j).foldl (adStep p.length q.length q) p
def adL (p q : List Nat) : List Nat := adGo p q q.length
theorem adGo_succ (p q : List Nat) (j : Nat) : adGo p q (j + 1) = adStep p.length q.length q (adGo p q j) j := by simp [adGo, List.range_succ]
theorem adGo_length (p q : List Nat) (j : Nat) : (adGo p q j).length = p.length := by
  induction j with
  | zero => rfl
  | succ j ih => rw [adGo_succ, adStep, List.length_set, ih]
theorem adGo_oct {p q : List Nat} (op : Oct p) (oq : Oct q) (j : Nat) : Oct (adGo p q j) := by
  induction j with
  | zero => exact op
  | succ j ih => rw [adGo_succ, adStep]; exact ih.set _ (xor_lt256 (ih.getD _) (oq.getD _))

theorem gf_poly_add_ok {w : World} {A : Around} {s : Shared} {R : Value → Shared → Prop} {fs : Fs} {mg mb : Str → Option Value} {p q : Addr} {u b : List Nat}
    (W : Wd fs mg mb s.heap) (hR : Room A 2) (hp : s.heap.get? p = some (bl u)) (hq : s.heap.get? q = some (bl b)) (ou : Oct u) (ob : Oct b) (hu : u.length ≤ 2 ^ 20) (hle : b.length ≤ u.length)
    (B : ∀ h' tk' x, Ext s.heap h' → h'.get? x = some (bl (adL u b)) → R (.ref x) (sh s h' tk')) :
    codeC (model pw w) A (.call (.ref fs.add) ⟨[.ref p, .ref q], []⟩) R s := by
  obtain ⟨an, pm, c, doc, ho, hc⟩ := W.fAdd
  refine codeC_call_def (binds := [("p", .ref p), ("q", .ref q)]) (by have := hR.depth; omega) ho rfl W.gl.lim hc rfl (BindsTo.of_eq (by rfl)) (show ∀ x ∈ (scopeOf sAdd.1).names, x.2 ≠ .cell from by decide)
    (show ∀ z ∈ [(("p" : Str), Value.ref p), ("q", Value.ref q)], (scopeOf sAdd.1).names.lookup z.1 = some .local from by simp only [List.forall_mem_cons]; exact ⟨by rfl, by rfl, fun _ h => nomatch h⟩) fun h₁ hns hk => ?_
  have S := St.start hns hk
  have hR' := hR.deeper (callEnv (fdMk sAdd.1 .none an pm (.ref c) doc) s.heap.objs.size fs.add)
  generalize A.deeper (callEnv (fdMk sAdd.1 .none an pm (.ref c) doc) s.heap.objs.size fs.add) = A' at hR' ⊢
  generalize hL : s.heap.objs.size = L at S ⊢
  -- r = _bytearray(max(len(p), len(q)))
  refine wpC_execs_cons (wpC_Assign_Name (wpC_Call_type1 (T := "bytearray") (fun K k => nmG S W.gl W.nBa k) (wpC.of ?_)))
  refine Call_b2 (fun K k => nmB S W.gl W.oMax W.bMax k) ?_
  refine Call_b1 (fun K k => nmB S W.gl W.oLen W.bLen k) (nm S (by rfl) ?_)
  refine lenL (S.keep _ _ hp) (by omega) ?_
  refine Call_b1 (fun K k => nmB S W.gl W.oLen W.bLen k) (nm S (by rfl) ?_)
  refine lenL (S.keep _ _ hq) (by omega) ?_
  refine max_two_ints hR'.handled fun h₂ tk₂ e₂ => ?_
  have S₂ := S.ext e₂
  rw [if_neg (by omega)]
  refine baC_int (by omega) (by omega) fun h₃ e₃ hr => ?_
  rw [Int.toNat_natCast, u8_replicate] at hr
  have S₃ := S₂.alloc e₃ hr
  generalize h₂.objs.size = r at S₃ hr ⊢
  refine str S₃ fun h₄ S₄ => ?_
  -- r[len(r) - len(p):len(r)] = p
  refine wpC.of ?_
  walk_at "m"
  refine wpAny_Assign_Subscript ?_
  refine nm S₄ (by rfl) ?_
  refine nm S₄ (by rfl) ?_
  have hr₄ := S₄.get (a := r) (o := bl (List.replicate u.length 0)) (by simp)
  refine wpAny_Slice ?_
  rw [evalPart_some, evalPart_some, evalPart_none]
  walk_at "m"
  refine Call_b1 (fun K k => nmB S₄ W.gl W.oLen W.bLen k) (nm S₄ (by rfl) ?_)
  refine lenL hr₄ (by rw [List.length_replicate]; omega) ?_
  refine Call_b1 (fun K k => nmB S₄ W.gl W.oLen W.bLen k) (nm S₄ (by rfl) ?_)
  refine lenL (S₄.keep _ _ hp) (by omega) ?_
  walk_at "m"
  refine Call_b1 (fun K k => nmB S₄ W.gl W.oLen W.bLen k) (nm S₄ (by rfl) ?_)
  refine lenL hr₄ (by rw [List.length_replicate]; omega) ?_
  refine wpAny_pure ?_
  rw [List.length_replicate, Int.sub_self]
  have hne : r ≠ p := fun e => by
    have h1 := (S₄.news (r, bl (List.replicate u.length 0)) (by simp)).2.2
    rw [e] at h1; rw [hp] at h1; cases h1
  have hb1 : sliceBounds (some 0) (some (u.length : Int)) none (u8 (List.replicate u.length 0)).size = (0, (u.length : Int), 1) := by
    rw [u8_size, List.length_replicate]; unfold sliceBounds; simp; refine ⟨by omega, ?_⟩; rw [if_neg (by omega)]; omega
  refine ba_setSlice (b := u8 (List.replicate u.length 0)) (b' := u8 u) (Heap.get?_push_of_some _ hr₄) (Heap.get?_push_of_some _ (S₄.keep _ _ hp)) hne (Heap.IsSliceOf.new ..) (.int 0 _) (.int _ _) (by rw [u8_size, List.length_replicate]; omega)
    (by rw [hb1, u8_size]; simp) ?_ fun h₅ e₅ hr₅ => ?_
  · rw [hb1]; simp [u8_size]; omega
  have hnew : ((u8 (List.replicate u.length 0)).extract 0 (sliceBounds (some 0) (some (u.length : Int)) none (u8 (List.replicate u.length 0)).size).1.toNat ++ u8 u ++
      (u8 (List.replicate u.length 0)).extract (max (sliceBounds (some 0) (some (u.length : Int)) none (u8 (List.replicate u.length 0)).size).1 (sliceBounds (some 0) (some (u.length : Int)) none (u8 (List.replicate u.length 0)).size).2.1).toNat (u8 (List.replicate u.length 0)).size) = u8 u := by
    rw [hb1]
    have e1 : (max (0 : Int) (u.length : Int)).toNat = u.length := by omega
    have e2 : (u8 (List.replicate u.length 0)).size = u.length := by rw [u8_size, List.length_replicate]
    simp [e1, e2]
  rw [hnew] at hr₅
  have S₅ := (S₄.ext (Ext.push h₄ _)).upd1 (h' := h₅) e₅ hr₅
  dsimp only
  -- the loop
  walk_at "m"
  refine For_r1 (hi := (b.length : Int)) (n := b.length) S₅ hR'.handled (fun K k => nmG S₅ W.gl W.nXr k) (fun K k => ?_) (by omega) (by omega) (by omega)
    (fun i m N => m "r" = some (.ref r) ∧ m "q" = some (.ref q) ∧ N = [(r, bl (adGo u b i))]) ⟨by rfl, by rfl, rfl⟩ ?_ ?_
  · refine Call_b1 (fun K k => nmB S₅ W.gl W.oLen W.bLen k) (nm S₅ (by rfl) ?_)
    refine lenL (S₅.keep _ _ hq) (by omega) ?_
    exact k _ _
  · rintro i t m₁ N₁ g₁ h₆ tk₆ hi ⟨m1, m2, rfl⟩ hadr eg S₆
    have W₁ := W.ext eg
    have hq₁ := eg _ _ hq
    have hlen := adGo_length u b i
    have hoct := adGo_oct ou ob i
    walk_at "m"
    with_reducible refine wpAny_AugAssign_SubscriptAny (hi := ?hi) ?_
    case hi => intros; rfl
    refine nm S₆ (by exact m1) ?_
    iterate 2 walk_at "m"
    refine nm S₆ (by rfl) ?_
    refine Call_b1 (fun K k => nmB S₆ W₁.gl W₁.oLen W₁.bLen k) (nm S₆ (by exact m1) ?_)
    refine lenL (l := adGo u b i) (S₆.get (by simp)) (by rw [hlen]; omega) ?_
    walk_at "m"
    refine Call_b1 (fun K k => nmB S₆ W₁.gl W₁.oLen W₁.bLen k) (nm S₆ (by exact m2) ?_)
    refine lenL (S₆.keep _ _ hq₁) (by omega) ?_
    walk_at "m"
    refine gtN (i + u.length - b.length) (by rw [hlen]; omega) (S₆.get (by simp)) hoct (by rw [hlen]; omega) (by rw [hlen]; omega) ?_
    walk_at "m"
    refine nm S₆ (by exact m2) ?_
    refine nm S₆ (by rfl) ?_
    refine itN i rfl (S₆.keep _ _ hq₁) ob (by omega) (by omega) ?_
    walk_at "m"
    refine setN (i + u.length - b.length) _ (by rw [hlen]; omega) (bitXor_nat _ _) S₆ (by rw [hlen]; omega) (by rw [hlen]; omega) (xor_lt256 (hoct.getD _) (ob.getD _)) fun h₇ S₇ => ?_
    dsimp only
    walk_at "m"
    exact Turn.intro S₇ rfl ⟨m1, m2, by rw [adGo_succ]; rfl⟩
  · rintro m₁ N₁ h₆ tk₆ ⟨m1, m2, rfl⟩ hadr S₆
    iterate 2 walk_at "m"
    refine nm S₆ (by exact m1) ?_
    exact B _ _ _ S₆.keep (S₆.get (by simp [adL]))
end Mine
namespace Mine

local macro_rules | `(tactic| walk_at "m") => `(tactic| first
  | with_reducible refine wpAny_execs_cons ?_
  | with_reducible refine wpAny_execs_nil ?_
  | with_reducible refine wpAny_If ?_
  | with_reducible refine wpAny_Return_some ?_
  | (with_reducible refine wpAny_Assign_Name (hs := ?hs) ?_; (case hs => with_unfolding_all rfl))
  | with_reducible refine isTrue_or ?_
  | with_reducible refine isTrue_or_nil ?_
  | with_reducible refine isTrue_and ?_
  | with_reducible refine isTrue_and_nil ?_
  | (with_reducible refine wpAny_isTrue_Compare1 (hm := ?hm) ?_; (case hm => with_unfolding_all rfl))
  | with_reducible refine wpAny_BinOp ?_
  | (with_reducible refine wpAny_Compare1 (hm := ?hm) ?_; (case hm => with_unfolding_all rfl))
  | with_reducible refine wpAny_UnaryOp ?_
  | with_reducible refine Subscript_ ?_
  | (with_reducible refine wpAny_AugAssign_Subscript_any (ha := ?ha) ?_; (case ha => intros; rfl))
  | with_reducible refine cst ?_
  | with_reducible refine addR ?_
  | with_reducible refine subR ?_
  | with_reducible refine xorR ?_
  | with_reducible refine ixorR ?_
  | with_reducible refine eqR ?_
  | with_reducible refine neR ?_
  | with_reducible refine gtR ?_
  | with_reducible refine negR ?_
  | with_reducible refine truR ?_)

/-! _law_number -/
def numGo (w : Nat) (l : List Nat) : Nat := l.foldl (fun w x => w * 65536 + x) w
def numL (l : List Nat) : Nat := numGo 0 l

theorem law_number_ok {w : World} {A : Around} {s : Shared} {R : Result → Shared → Prop} {fs : Fs} {mg mb : Str → Option Value} {p : Addr} {u : List Nat}
    (W : Wd fs mg mb s.heap) (hR : Room A 1) (hp : NL s.heap p u) (B : Back s R fun v _ => ∃ t, v = .int (numL u : Nat) t) :
    codeAny (model pw w) A (.call (.ref fs.num) ⟨[.ref p], []⟩) R s := by
  obtain ⟨an, pm, c, doc, ho, hc⟩ := W.fNum
  refine codeAny_call_def (binds := [("octets", .ref p)]) (by have := hR.depth; omega) ho rfl W.gl.lim hc rfl (BindsTo.of_eq (by rfl)) (show ∀ x ∈ (scopeOf sNum.1).names, x.2 ≠ .cell from by decide)
    (show ∀ z ∈ [(("octets" : Str), Value.ref p)], (scopeOf sNum.1).names.lookup z.1 = some .local from by simp only [List.forall_mem_cons]; exact ⟨by rfl, fun _ h => nomatch h⟩) fun h₁ hns hk => wpAny_mono (E := noE) ?_ (fun _ _ x => x) (fun _ _ x => x.elim)
  have S := St.start hns hk
  have hR' := hR.deeper (callEnv (fdMk sNum.1 .none an pm (.ref c) doc) s.heap.objs.size fs.num)
  generalize A.deeper (callEnv (fdMk sNum.1 .none an pm (.ref c) doc) s.heap.objs.size fs.num) = A' at hR' ⊢
  have hpL : p ≠ s.heap.objs.size := Nat.ne_of_lt hp.lt
  generalize hL : s.heap.objs.size = L at S hpL ⊢
  iterate 3 walk_at "m"
  refine str S fun h₂ S₂ => ?_
  walk_at "m"
  obtain ⟨vs, hl, hlen, hvs⟩ := hp.ext S₂.keep
  refine For_list S₂ hR'.handled (fun K k => nm S₂ (by rfl) (k _)) hl hpL (by simp) (fun i m N => (∃ t, m "whole" = some (.int (numGo 0 (u.take i) : Nat) t)) ∧ N = []) ⟨⟨_, by rfl⟩, rfl⟩ ?_ ?_
  · rintro i v m₁ N₁ g₁ h₃ tk₃ hv ⟨⟨t, m1⟩, rfl⟩ hadr eg S₃
    have hi : i < u.length := by rw [← hlen]; exact (List.getElem?_eq_some_iff.mp hv).1
    obtain ⟨tv, hv'⟩ := hvs i hi
    rw [hv'] at hv
    obtain rfl := Option.some.inj hv
    iterate 4 walk_at "m"
    refine nm S₃ (by exact m1) ?_
    walk_at "m"
    refine mulN (y := 65536) (by decide) ?_
    refine nm S₃ (by rfl) ?_
    refine addN ?_
    refine str S₃ fun h₄ S₄ => ?_
    dsimp only
    walk_at "m"
    have e : numGo 0 (u.take (i + 1)) = numGo 0 (u.take i) * 65536 + u[i] := by
      have e2 : u.take (i + 1) = u.take i ++ [u[i]] := by rw [List.take_add_one, List.getElem?_eq_getElem hi]; rfl
      unfold numGo; rw [e2, List.foldl_append]; rfl
    exact Turn.intro S₄ rfl ⟨⟨_, by rw [e]; rfl⟩, rfl⟩
  · rintro m₁ N₁ h₃ tk₃ ⟨⟨t, m1⟩, rfl⟩ hadr S₃
    rw [hlen, List.take_length] at m1
    iterate 2 walk_at "m"
    refine nm S₃ (by exact m1) ?_
    exact B _ _ _ S₃.keep ⟨_, rfl⟩

/-! _law_product -/
theorem beq1T {x : Nat} (h : x = 1) : ((((x : Nat) : Int) == 1) = true) := by rw [h]; decide
theorem beq1F {x : Nat} (h : x ≠ 1) : ¬ ((((x : Nat) : Int) == 1) = true) := by
  intro e; rw [beq_iff_eq] at e; omega
def in8 (L R : Nat) (W k : Nat) : Nat := (List.range k).foldl (fun w p => if R / 2 ^ p % 2 = 1 then w ^^^ (L * 2 ^ p) else w) W
theorem in8_succ (L R W k : Nat) : in8 L R W (k + 1) = if R / 2 ^ k % 2 = 1 then in8 L R W k ^^^ (L * 2 ^ k) else in8 L R W k := by simp [in8, List.range_succ]
def pGo (W L R : Nat) : Nat := if R = 0 then W else pGo (in8 L R W 8) (L * 65536) (R / 65536)
termination_by R
decreasing_by omega
def redG (ones W k : Nat) : Nat := (List.range k).foldl (fun w t => w ^^^ ((w / 2 ^ (14 - t) &&& ones) * 285 * 2 ^ (6 - t))) W
theorem redG_succ (ones W k : Nat) : redG ones W (k + 1) = redG ones W k ^^^ ((redG ones W k / 2 ^ (14 - k) &&& ones) * 285 * 2 ^ (6 - k)) := by simp [redG, List.range_succ]
def prodN (L R size : Nat) : Nat := redG ((65536 ^ size - 1) / 65535) (pGo 0 L R) 7

theorem law_product_ok {w : World} {A : Around} {s : Shared} {R : Result → Shared → Prop} {fs : Fs} {mg mb : Str → Option Value} {l r size : Nat} {t₁ t₂ t₃ : Tok}
    (W : Wd fs mg mb s.heap) (hR : Room A 1) (hsz : size ≤ 1000) (B : Back s R fun v _ => ∃ t, v = .int (prodN l r size : Nat) t) :
    codeAny (model pw w) A (.call (.ref fs.prod) ⟨[.int l t₁, .int r t₂, .int size t₃], []⟩) R s := by
  obtain ⟨an, pm, c, doc, ho, hc⟩ := W.fProd
  refine codeAny_call_def (binds := [("left", .int l t₁), ("right", .int r t₂), ("size", .int size t₃)]) (by have := hR.depth; omega) ho rfl W.gl.lim hc rfl (BindsTo.of_eq (by rfl)) (show ∀ x ∈ (scopeOf sProd.1).names, x.2 ≠ .cell from by decide)
    (show ∀ z ∈ [(("left" : Str), Value.int l t₁), ("right", .int r t₂), ("size", .int size t₃)], (scopeOf sProd.1).names.lookup z.1 = some .local from by simp only [List.forall_mem_cons]; exact ⟨by rfl, by rfl, by rfl, fun _ h => nomatch h⟩) fun h₁ hns hk => wpAny_mono (E := noE) ?_ (fun _ _ x => x) (fun _ _ x => x.elim)
  have S := St.start hns hk
  have hR' := hR.deeper (callEnv (fdMk sProd.1 .none an pm (.ref c) doc) s.heap.objs.size fs.prod)
  generalize A.deeper (callEnv (fdMk sProd.1 .none an pm (.ref c) doc) s.heap.objs.size fs.prod) = A' at hR' ⊢
  generalize hL : s.heap.objs.size = L at S ⊢
  iterate 3 walk_at "m"
  refine str S fun h₂ S₂ => ?_
  walk_at "m"
  refine whileW S₂ (fun k m => ∃ a b t₄ t₅ t₆, pGo a b k = pGo 0 l r ∧ m "whole" = some (.int (a : Nat) t₄) ∧ m "left" = some (.int (b : Nat) t₅) ∧ m "right" = some (.int (k : Nat) t₆) ∧ m "size" = some (.int (size : Nat) t₃)) r
    ⟨0, l, _, _, _, rfl, by rfl, by rfl, by rfl, by rfl⟩ ?_
  rintro k m₁ h₃ tk₃ ⟨a, b, t₄, t₅, t₆, hgo, m1, m2, m3, m4⟩ S₃
  walk_at "m"
  refine nm S₃ (by exact m3) ?_
  iterate 3 walk_at "m"
  by_cases hk0 : k = 0
  · subst hk0
    rw [if_neg (by decide)]
    have ha : a = pGo 0 l r := by rw [← hgo]; unfold pGo; rw [if_pos rfl]
    -- ones
    iterate 6 walk_at "m"
    refine nm S₃ (by exact m4) ?_
    refine powN (x := 65536) (y := size) (by decide) (by omega) ?_
    iterate 2 walk_at "m"
    have hp1 : 1 ≤ 65536 ^ size := Nat.pow_pos (by decide)
    rw [show ((65536 ^ size : Nat) : Int) - 1 = ((65536 ^ size - 1 : Nat) : Int) by omega]
    walk_at "m"
    refine divN (y := 65535) (by decide) (by decide) ?_
    refine str S₃ fun h₄ S₄ => ?_
    dsimp only
    walk_at "m"
    refine For_r3 (lo := 14) (hi := 7) (c := -1) (n := 7) S₄ hR'.handled (fun K k => nmB S₄ W.gl W.oRange W.bRange k) (fun tk K k => cst (k _ _)) (fun tk K k => cst (k _ _)) (fun tk K k => ?_) (by decide) (by decide) (by decide) (by decide)
      (fun i m N => (∃ t, m "whole" = some (.int (redG ((65536 ^ size - 1) / 65535) a i : Nat) t)) ∧ (∃ t, m "ones" = some (.int ((65536 ^ size - 1) / 65535 : Nat) t)) ∧ N = []) ⟨⟨_, by exact m1⟩, ⟨_, by rfl⟩, rfl⟩ ?_ ?_
    · iterate 3 walk_at "m"
      exact k _ _
    · rintro i t m₂ N₂ g₁ h₅ tk₅ hi ⟨⟨t₇, n1⟩, ⟨t₈, n2⟩, rfl⟩ hadr eg S₅
      rw [show (14 : Int) + (i : Int) * -1 = ((14 - i : Nat) : Int) by omega] at S₅
      have h2i : 2 ^ (14 - i) < 1073741824 := Nat.pow_lt_pow_right (a := 2) (by decide) (show 14 - i < 30 by omega)
      have h2z : 2 ^ (14 - i) ≠ 0 := by have := Nat.pow_pos (n := 14 - i) (show 0 < 2 by decide); omega
      have h2j : 2 ^ (6 - i) < 1073741824 := Nat.pow_lt_pow_right (a := 2) (by decide) (show 6 - i < 30 by omega)
      iterate 3 walk_at "m"
      refine nm S₅ (by exact n1) ?_
      iterate 4 walk_at "m"
      refine nm S₅ (by exact n1) ?_
      iterate 2 walk_at "m"
      refine nm S₅ (by rfl) ?_
      refine powN (x := 2) (y := 14 - i) (by decide) (by omega) ?_
      refine divN h2z h2i ?_
      refine nm S₅ (by exact n2) ?_
      refine andN ?_
      walk_at "m"
      refine mulN (y := 285) (by decide) ?_
      iterate 3 walk_at "m"
      refine nm S₅ (by rfl) ?_
      iterate 2 walk_at "m"
      rw [show ((14 - i : Nat) : Int) - 8 = ((6 - i : Nat) : Int) by omega]
      refine powN (x := 2) (y := 6 - i) (by decide) (by omega) ?_
      refine mulN (Nat.lt_trans h2j (by decide)) ?_
      walk_at "m"
      rw [bitXor_nat]
      refine str S₅ fun h₆ S₆ => ?_
      dsimp only
      walk_at "m"
      exact Turn.intro S₆ rfl ⟨⟨_, by rw [redG_succ]; rfl⟩, ⟨_, n2⟩, rfl⟩
    · rintro m₂ N₂ h₅ tk₅ ⟨⟨t₇, n1⟩, ⟨t₈, n2⟩, rfl⟩ hadr S₅
      iterate 2 walk_at "m"
      refine nm S₅ (by exact n1) ?_
      exact B _ _ _ S₅.keep ⟨_, by rw [ha]; rfl⟩
  · rw [if_pos (by simp; omega)]
    walk_at "m"
    refine For_r1 (hi := (8 : Int)) (n := 8) S₃ hR'.handled (fun K k => nmB S₃ W.gl W.oRange W.bRange k) (fun K k => cst (k _ _)) (by decide) (by decide) (by decide)
      (fun i m N => (∃ t, m "whole" = some (.int (in8 b k a i : Nat) t)) ∧ m "left" = some (.int (b : Nat) t₅) ∧ m "right" = some (.int (k : Nat) t₆) ∧ m "size" = some (.int (size : Nat) t₃) ∧ N = []) ⟨⟨_, by exact m1⟩, m2, m3, m4, rfl⟩ ?_ ?_
    · rintro i t m₂ N₂ g₁ h₄ tk₄ hi ⟨⟨t₇, n1⟩, n2, n3, n4, rfl⟩ hadr eg S₄
      iterate 5 walk_at "m"
      refine nm S₄ (by exact n3) ?_
      iterate 2 walk_at "m"
      refine nm S₄ (by rfl) ?_
      refine powN (x := 2) (y := i) (by decide) (by omega) ?_
      have h2i : 2 ^ i < 1073741824 := Nat.pow_lt_pow_right (a := 2) (by decide) (show i < 30 by omega)
      have h2z : 2 ^ i ≠ 0 := by have := Nat.pow_pos (n := i) (show 0 < 2 by decide); omega
      refine divN h2z h2i ?_
      walk_at "m"
      refine modN (y := 2) (by decide) ?_
      iterate 3 walk_at "m"
      have hs := in8_succ b k a i
      by_cases hb : k / 2 ^ i % 2 = 1
      · rw [if_pos (beq1T hb)]
        rw [if_pos hb] at hs
        iterate 3 walk_at "m"
        refine nm S₄ (by exact n1) ?_
        walk_at "m"
        refine nm S₄ (by exact n2) ?_
        iterate 2 walk_at "m"
        refine nm S₄ (by rfl) ?_
        refine powN (x := 2) (y := i) (by decide) (by omega) ?_
        refine mulN (Nat.lt_trans h2i (by decide)) ?_
        walk_at "m"
        rw [bitXor_nat]
        refine str S₄ fun h₅ S₅ => ?_
        dsimp only
        iterate 2 walk_at "m"
        exact Turn.intro S₅ rfl ⟨⟨_, by rw [hs]; rfl⟩, n2, n3, n4, rfl⟩
      · rw [if_neg (beq1F hb)]
        rw [if_neg hb] at hs
        iterate 2 walk_at "m"
        exact Turn.intro S₄ rfl ⟨⟨_, by rw [hs]; exact n1⟩, n2, n3, n4, rfl⟩
    · rintro m₂ N₂ h₄ tk₄ ⟨⟨t₇, n1⟩, n2, n3, n4, rfl⟩ hadr S₄
      iterate 3 walk_at "m"
      refine nm S₄ (by exact n2) ?_
      walk_at "m"
      refine mulN (y := 65536) (by decide) ?_
      refine str S₄ fun h₅ S₅ => ?_
      dsimp only
      iterate 3 walk_at "m"
      refine nm S₅ (by exact n3) ?_
      walk_at "m"
      refine divN (y := 65536) (by decide) (by decide) ?_
      refine str S₅ fun h₆ S₆ => ?_
      dsimp only
      walk_at "m"
      refine ⟨rfl, h₆, _, _, k / 65536, rfl, by omega, S₆, in8 b k a 8, b * 65536, _, _, _, ?_, n1, by rfl, by rfl, n4⟩
      rw [← hgo]; conv => rhs; unfold pGo
      rw [if_neg hk0]
end Mine
namespace Mine

local macro_rules | `(tactic| walk_at "m") => `(tactic| first
  | with_reducible refine wpAny_execs_cons ?_
  | with_reducible refine wpAny_execs_nil ?_
  | with_reducible refine wpAny_If ?_
  | with_reducible refine wpAny_Return_some ?_
  | (with_reducible refine wpAny_Assign_Name (hs := ?hs) ?_; (case hs => with_unfolding_all rfl))
  | with_reducible refine isTrue_or ?_
  | with_reducible refine isTrue_or_nil ?_
  | with_reducible refine isTrue_and ?_
  | with_reducible refine isTrue_and_nil ?_
  | (with_reducible refine wpAny_isTrue_Compare1 (hm := ?hm) ?_; (case hm => with_unfolding_all rfl))
  | with_reducible refine wpAny_BinOp ?_
  | (with_reducible refine wpAny_Compare1 (hm := ?hm) ?_; (case hm => with_unfolding_all rfl))
  | with_reducible refine wpAny_UnaryOp ?_
  | with_reducible refine Subscript_ ?_
  | (with_reducible refine wpAny_AugAssign_Subscript_any (ha := ?ha) ?_; (case ha => intros; rfl))
  | with_reducible refine cst ?_
  | with_reducible refine addR ?_
  | with_reducible refine subR ?_
  | with_reducible refine xorR ?_
  | with_reducible refine ixorR ?_
  | with_reducible refine eqR ?_
  | with_reducible refine neR ?_
  | with_reducible refine gtR ?_
  | with_reducible refine negR ?_
  | with_reducible refine truR ?_)

/-! gf_poly_mul -/
def muIn (p : List Nat) (qj j : Nat) (r : List Nat) (k : Nat) : List Nat := (List.range k).foldl (fun r i => r.set (i + j) (r.getD (i + j) 0 ^^^ gm (p.getD i 0) qj)) r
def muGo (p q : List Nat) (k : Nat) : List Nat := (List.range k).foldl (fun r j => muIn p (q.getD j 0) j r p.length) (List.replicate (p.length + q.length - 1) 0)
def muL (p q : List Nat) : List Nat := muGo p q q.length
theorem muIn_succ (p : List Nat) (qj j : Nat) (r : List Nat) (k : Nat) : muIn p qj j r (k + 1) = (muIn p qj j r k).set (k + j) ((muIn p qj j r k).getD (k + j) 0 ^^^ gm (p.getD k 0) qj) := by simp [muIn, List.range_succ]
theorem muGo_succ (p q : List Nat) (k : Nat) : muGo p q (k + 1) = muIn p (q.getD k 0) k (muGo p q k) p.length := by simp [muGo, List.range_succ]
theorem muIn_length (p : List Nat) (qj j : Nat) (r : List Nat) (k : Nat) : (muIn p qj j r k).length = r.length := by
  induction k with
  | zero => rfl
  | succ k ih => rw [muIn_succ, List.length_set, ih]
theorem muGo_length (p q : List Nat) (k : Nat) : (muGo p q k).length = p.length + q.length - 1 := by
  induction k with
  | zero => simp [muGo]
  | succ k ih => rw [muGo_succ, muIn_length, ih]
theorem muIn_oct (p : List Nat) (qj j : Nat) {r : List Nat} (or : Oct r) (k : Nat) : Oct (muIn p qj j r k) := by
  induction k with
  | zero => exact or
  | succ k ih => rw [muIn_succ]; exact ih.set _ (xor_lt256 (ih.getD _) (gm_lt _ _))
theorem muGo_oct (p q : List Nat) (k : Nat) : Oct (muGo p q k) := by
  induction k with
  | zero => exact oct_replicate _
  | succ k ih => rw [muGo_succ]; exact muIn_oct _ _ _ ih _
theorem muIn_zero (p : List Nat) (j : Nat) (r : List Nat) (k : Nat) : muIn p 0 j r k = r := by
  induction k with
  | zero => rfl
  | succ k ih => rw [muIn_succ, ih, gm_zero_right, Nat.xor_zero, set_self]

theorem gf_poly_mul_ok {w : World} {A : Around} {s : Shared} {R : Value → Shared → Prop} {fs : Fs} {mg mb : Str → Option Value} {p q : Addr} {u b : List Nat}
    (W : Wd fs mg mb s.heap) (hR : Room A 2) (hp : s.heap.get? p = some (bl u)) (hq : s.heap.get? q = some (bl b)) (ou : Oct u) (ob : Oct b) (hu : u.length ≤ 2 ^ 20) (hb : b.length ≤ 2 ^ 20) (hu1 : 1 ≤ u.length) (hb1 : 1 ≤ b.length)
    (B : ∀ h' tk' x, Ext s.heap h' → h'.get? x = some (bl (muL u b)) → R (.ref x) (sh s h' tk')) :
    codeC (model pw w) A (.call (.ref fs.pmul) ⟨[.ref p, .ref q], []⟩) R s := by
  obtain ⟨an, pm, c, doc, ho, hc⟩ := W.fPmul
  refine codeC_call_cells (binds := [("p", .ref p), ("q", .ref q)]) (by have := hR.depth; omega) ho rfl W.gl.lim hc rfl (BindsTo.of_eq (by rfl)) rfl
    (show ∀ z ∈ [(("p" : Str), Value.ref p), ("q", Value.ref q)], (scopeOf sPmul.1).names.lookup z.1 = some .local ∨ ((scopeOf sPmul.1).names.lookup z.1 = some .cell ∧ ((cellsFrom (s.heap.objs.size + 1) (scopeOf sPmul.1).names []).lookup z.1).isSome = true) from by
      simp only [List.forall_mem_cons]; exact ⟨.inr ⟨by rfl, by rfl⟩, .inl (by rfl), fun _ h => nomatch h⟩) fun s₁ X => ?_
  have hR' := hR.deeper (callEnvC (fdMk sPmul.1 .none an pm (.ref c) doc) s.heap.objs.size fs.pmul)
  obtain ⟨⟨h₁, tk₁, rfl⟩, hns, hk, _⟩ := X.toInCall
  have hcell : h₁.IsCell (s.heap.objs.size + 1) (some (.ref p)) := X.cell "p" _ (by rfl)
  have S₀ : St s.heap s.heap.objs.size _ [] h₁ := St.start hns hk
  obtain ⟨eg, S⟩ := S₀.rebase
  have hcg : (hideL h₁ (s.heap.objs.size :: ([] : List (Addr × Obj)).map (·.1))).IsCell (s.heap.objs.size + 1) (some (.ref p)) := by
    obtain ⟨o, ho, hd⟩ := hcell
    exact ⟨o, hideL_get _ ho (by simp), hd⟩
  have W₁ := W.ext eg
  have hp₁ := eg _ _ hp
  have hq₁ := eg _ _ hq
  generalize hideL h₁ (s.heap.objs.size :: ([] : List (Addr × Obj)).map (·.1)) = g at eg S hcg W₁ hp₁ hq₁
  generalize A.deeper (callEnvC (fdMk sPmul.1 .none an pm (.ref c) doc) s.heap.objs.size fs.pmul) = A' at hR' ⊢
  generalize hL : s.heap.objs.size = L at S hcg ⊢
  -- r = _bytearray(len(p) + len(q) - 1)
  refine wpC_execs_cons (wpC_Assign_Name (wpC_Call_type1 (T := "bytearray") (fun K k => nmG S W₁.gl W₁.nBa k) (wpC.of ?_)))
  iterate 2 walk_at "m"
  refine Call_b1 (fun K k => nmB S W₁.gl W₁.oLen W₁.bLen k) (nmC S hcg ?_)
  refine lenL (S.keep _ _ hp₁) (by omega) ?_
  refine Call_b1 (fun K k => nmB S W₁.gl W₁.oLen W₁.bLen k) (nm S (by rfl) ?_)
  refine lenL (S.keep _ _ hq₁) (by omega) ?_
  iterate 3 walk_at "m"
  refine baC_int (by omega) (by omega) fun h₂ e₂ hr => ?_
  rw [show ((u.length : Int) + (b.length : Int) - 1).toNat = u.length + b.length - 1 by omega, u8_replicate] at hr
  have S₂ := S.alloc e₂ hr
  generalize h₁.objs.size = r at S₂ hr ⊢
  refine str S₂ fun h₃ S₃ => ?_
  -- lp = [gf_log[p[i]] for i in xrange(len(p))]
  refine wpC_execs_cons (wpC.of ?_)
  refine compW (cl := [("p", L + 1)]) (n := u.length) (P := fun i v => ∃ t, v = .int ((0 : Int) + i * 1) t) (fun v y => ∀ i t, v = .int ((i : Nat) : Int) t → ∃ t', y = .int (logL.getD (u.getD i 0) 0 : Nat) t') S₃ (fun K k => ?_) (by omega) ?_ ?_ (by rfl) (by rfl) (by decide) rfl (by decide) (by rfl)
  · refine wpAny_Call_NameR (nmG S₃ W₁.gl W₁.nXr ?_)
    refine PySem.callWith_type rfl (Calls.evalArgs_plain (Calls.spliced_cons ?_))
    refine Call_b1 (fun K k => nmB S₃ W₁.gl W₁.oLen W₁.bLen k) (nmC S₃ hcg ?_)
    refine lenL (S₃.keep _ _ hp₁) (by omega) ?_
    refine Calls.spliced_nil ?_
    exact rangeIt hR'.handled (by omega) (by omega) (by omega) k
  · rintro C i v s₃ m₃ hi ⟨t, rfl⟩ eg₃ S' hm₃
    have W₃ := W₁.ext eg₃
    walk_at "m"
    refine nmG S' W₃.gl W₃.nLog ?_
    walk_at "m"
    refine nmC S' (hcg.keeps eg₃) ?_
    refine nm S' hm₃ ?_
    refine itN i (by omega) (S'.keep _ _ (eg₃ _ _ hp₁)) ou hi (by omega) ?_
    have hui := ou.getD i
    refine itN (u.getD i 0) rfl (S'.keep _ _ W₃.log) (fun x hx => Nat.lt_trans (logL_lt x hx) (by decide)) (by rw [logL_length]; exact hui) (by rw [logL_length]; decide) ?_
    refine ⟨fun j t' e => ?_, _, rfl⟩
    have ej : j = i := by have := Value.int.inj e; omega
    rw [ej]; exact ⟨_, rfl⟩
  · intro D h₄ tk₄ zs S₄ hDL hgD hDN hlD hzs hzv
    have hlp : NL h₄ D (u.map fun x => logL.getD x 0) := by
      refine ⟨zs, hlD, by rw [hzs, List.length_map], fun i hi => ?_⟩
      rw [List.length_map] at hi
      obtain ⟨v, z, ⟨t, rfl⟩, hz, hf⟩ := hzv i hi
      obtain ⟨t', rfl⟩ := hf i t (by rw [show (0 : Int) + (i : Int) * 1 = (i : Int) by omega])
      refine ⟨t', ?_⟩
      rw [hz, List.getElem_map]
      have : u.getD i 0 = u[i] := by simp [hi]
      rw [this]
    obtain ⟨eg₄, S₅⟩ := S₄.rebase
    have hlpg : NL (hideL h₄ (L :: [(r, ba (u8 (List.replicate (u.length + b.length - 1) 0)))].map (·.1))) D (u.map fun x => logL.getD x 0) := by
      obtain ⟨vs, ⟨o, ho, hr⟩, h2⟩ := hlp
      exact ⟨vs, ⟨o, hideL_get _ ho (fun hm => by rcases List.mem_cons.mp hm with q | q; exact hDL q; exact hDN q), hr⟩, h2⟩
    have W₂ := W₁.ext eg₄
    have hp₂ := eg₄ _ _ hp₁
    have hq₂ := eg₄ _ _ hq₁
    have hc₂ := hcg.keeps eg₄
    have egg := eg.trans eg₄
    generalize hideL h₄ (L :: [(r, ba (u8 (List.replicate (u.length + b.length - 1) 0)))].map (·.1)) = g₂ at S₅ hlpg W₂ hp₂ hq₂ hc₂ egg
    clear S₄ S₃ S₂ S W₁ hcg
    dsimp only
    refine wpC.of ?_
    walk_at "m"
    refine For_r1 (hi := (b.length : Int)) (n := b.length) S₅ hR'.handled (fun K k => nmG S₅ W₂.gl W₂.nXr k) (fun K k => ?_) (by omega) (by omega) (by omega)
      (fun j m N => m "r" = some (.ref r) ∧ m "q" = some (.ref q) ∧ m "lp" = some (.ref D) ∧ N = [(r, bl (muGo u b j))]) ⟨by rfl, by rfl, by rfl, rfl⟩ ?_ ?_
    · refine Call_b1 (fun K k => nmB S₅ W₂.gl W₂.oLen W₂.bLen k) (nm S₅ (by rfl) ?_)
      refine lenL (S₅.keep _ _ hq₂) (by omega) ?_
      exact k _ _
    · rintro j t m₁ N₁ g₃ h₅ tk₅ hj ⟨m1, m2, m3, rfl⟩ hadr eg₃ S₆
      have W₃ := W₂.ext eg₃
      have hp₃ := eg₃ _ _ hp₂
      have hq₃ := eg₃ _ _ hq₂
      have hc₃ := hc₂.keeps eg₃
      have hlp₃ := hlpg.ext eg₃
      have hlen := muGo_length u b j
      have hoct := muGo_oct u b j
      iterate 3 walk_at "m"
      refine nm S₆ (by exact m2) ?_
      refine nm S₆ (by rfl) ?_
      refine itN j rfl (S₆.keep _ _ hq₃) ob (by omega) (by omega) ?_
      refine str S₆ fun h₆ S₇ => ?_
      dsimp only
      iterate 3 walk_at "m"
      refine nm S₇ (by rfl) ?_
      iterate 3 walk_at "m"
      have hstep : muGo u b (j + 1) = muIn u (b.getD j 0) j (muGo u b j) u.length := muGo_succ u b j
      have hqj := ob.getD j
      generalize hqj' : b.getD j 0 = qj at S₇ hstep hqj ⊢
      generalize hmu : muGo u b j = mu at S₇ hstep hlen hoct ⊢
      by_cases hq0 : qj = 0
      · rw [if_neg (bneF hq0)]
        iterate 2 walk_at "m"
        refine Turn.intro S₇ rfl ⟨m1, m2, m3, ?_⟩
        rw [hstep, hq0, muIn_zero]
      · rw [if_pos (bneT hq0)]
        iterate 3 walk_at "m"
        refine nmG S₇ W₃.gl W₃.nLog ?_
        refine nm S₇ (by rfl) ?_
        refine itN qj rfl (S₇.keep _ _ W₃.log) (fun x hx => Nat.lt_trans (logL_lt x hx) (by decide)) (by rw [logL_length]; exact hqj) (by rw [logL_length]; decide) ?_
        refine str S₇ fun h₇ S₈ => ?_
        dsimp only
        walk_at "m"
        refine For_r1 (hi := (u.length : Int)) (n := u.length) S₈ hR'.handled (fun K k => nmG S₈ W₃.gl W₃.nXr k) (fun K k => ?_) (by omega) (by omega) (by omega)
          (fun i m N => m "r" = some (.ref r) ∧ m "q" = some (.ref q) ∧ m "lp" = some (.ref D) ∧ (∃ t, m "j" = some (.int j t)) ∧ (∃ t, m "lq" = some (.int (logL.getD qj 0 : Nat) t)) ∧ N = [(r, bl (muIn u qj j mu i))]) ⟨m1, m2, m3, ⟨_, by rfl⟩, ⟨_, by rfl⟩, rfl⟩ ?_ ?_
        · refine Call_b1 (fun K k => nmB S₈ W₃.gl W₃.oLen W₃.bLen k) (nmC S₈ hc₃ ?_)
          refine lenL (S₈.keep _ _ hp₃) (by omega) ?_
          exact k _ _
        · rintro i t m₂ N₂ g₄ h₈ tk₈ hi ⟨n1, n2, n3, ⟨tj, n4⟩, ⟨tl, n5⟩, rfl⟩ hadr eg₄ S₉
          have W₄ := W₃.ext eg₄
          have hp₄ := eg₄ _ _ hp₃
          have hlen₂ := muIn_length u qj j mu i
          have hoct₂ := muIn_oct u qj j hoct i
          iterate 3 walk_at "m"
          walk_at "m"
          refine nmC S₉ (hc₃.keeps eg₄) ?_
          refine nm S₉ (by rfl) ?_
          refine itN i rfl (S₉.keep _ _ hp₄) ou hi (by omega) ?_
          iterate 3 walk_at "m"
          have hs₂ := muIn_succ u qj j mu i
          by_cases hu0 : u.getD i 0 = 0
          · rw [if_neg (bneF hu0)]
            iterate 2 walk_at "m"
            refine Turn.intro S₉ rfl ⟨n1, n2, n3, ⟨tj, n4⟩, ⟨tl, n5⟩, ?_⟩
            rw [hs₂, hu0, gm_zero_left, Nat.xor_zero, set_self]
          · rw [if_pos (bneT hu0)]
            walk_at "m"
            with_reducible refine wpAny_AugAssign_SubscriptAny (hi := ?hi) ?_
            case hi => intros; rfl
            refine nm S₉ (by exact n1) ?_
            walk_at "m"
            refine nm S₉ (by rfl) ?_
            refine nm S₉ (by exact n4) ?_
            walk_at "m"
            have hk2 : i + j < (muIn u qj j mu i).length := by rw [hlen₂, hlen]; omega
            refine gtN (i + j) (by omega) (S₉.get (by simp)) hoct₂ hk2 (by rw [hlen₂, hlen]; omega) ?_
            walk_at "m"
            refine nmG S₉ W₄.gl W₄.nExp ?_
            iterate 2 walk_at "m"
            refine nm S₉ (by exact n3) ?_
            refine nm S₉ (by rfl) ?_
            refine itNL i rfl ((hlp₃.ext eg₄).ext S₉.keep) (by rw [List.length_map]; exact hi) (by rw [List.length_map]; omega) fun ti => ?_
            refine nm S₉ (by exact n5) ?_
            refine addN ?_
            have el : (u.map fun x => logL.getD x 0).getD i 0 = logL.getD (u.getD i 0) 0 := by
              have : u.getD i 0 = u[i] := by simp [hi]
              rw [this]; simp [hi]
            rw [el]
            have l1 := log_lt (u.getD i 0)
            have l2 := log_lt qj
            refine itN _ rfl (S₉.keep _ _ W₄.exp) expL_oct (by rw [expL_length]; omega) (by rw [expL_length]; decide) ?_
            rw [gm_of_logs hu0 hq0]
            walk_at "m"
            refine setN (i + j) _ (by omega) (bitXor_nat _ _) S₉ (by rw [hlen₂, hlen]; omega) hk2 (xor_lt256 (hoct₂.getD _) (gm_lt _ _)) fun h₉ S₁₀ => ?_
            dsimp only
            iterate 2 walk_at "m"
            exact Turn.intro S₁₀ rfl ⟨n1, n2, n3, ⟨tj, n4⟩, ⟨tl, n5⟩, by rw [hs₂]⟩
        · rintro m₂ N₂ h₈ tk₈ ⟨n1, n2, n3, n4, n5, rfl⟩ hadr S₉
          iterate 2 walk_at "m"
          exact Turn.intro S₉ rfl ⟨n1, n2, n3, by rw [hstep]⟩
    · rintro m₁ N₁ h₅ tk₅ ⟨m1, m2, m3, rfl⟩ hadr S₆
      iterate 2 walk_at "m"
      refine nm S₆ (by exact m1) ?_
      exact B _ _ _ (egg.trans S₆.keep) (S₆.get (by simp [muL]))
end Mine
namespace Mine

/-! sums without carries -/
def xs (f : Nat → Nat) : Nat → Nat
  | 0 => 0
  | k + 1 => xs f k ^^^ f k
theorem xs_congr {f g : Nat → Nat} {k : Nat} (h : ∀ i, i < k → f i = g i) : xs f k = xs g k := by
  induction k with
  | zero => rfl
  | succ k ih => rw [xs, xs, ih fun i hi => h i (by omega), h k (by omega)]
theorem xs_zero {f : Nat → Nat} {k : Nat} (h : ∀ i, i < k → f i = 0) : xs f k = 0 := by
  induction k with
  | zero => rfl
  | succ k ih => rw [xs, ih fun i hi => h i (by omega), h k (by omega)]; rfl
theorem xs_trunc {f : Nat → Nat} {a b : Nat} (hab : a ≤ b) (h : ∀ i, a ≤ i → i < b → f i = 0) : xs f b = xs f a := by
  induction b with
  | zero => rw [Nat.le_zero.mp hab]
  | succ b ih =>
    by_cases hb : a = b + 1
    · rw [hb]
    · rw [xs, ih (by omega) fun i h1 h2 => h i h1 (by omega), h b (by omega) (by omega), Nat.xor_zero]
theorem xs_head (f : Nat → Nat) (k : Nat) : xs f (k + 1) = f 0 ^^^ xs (fun i => f (i + 1)) k := by
  induction k with
  | zero => simp [xs]
  | succ k ih => rw [xs, ih]; conv => rhs; rw [xs]
                 rw [Nat.xor_assoc]
theorem xs_rev (f : Nat → Nat) (k : Nat) : xs f k = xs (fun i => f (k - 1 - i)) k := by
  induction k generalizing f with
  | zero => rfl
  | succ k ih =>
    rw [xs_head, ih (fun i => f (i + 1))]
    conv => rhs; rw [xs]
    rw [Nat.xor_comm]
    congr 1
    · exact xs_congr fun i hi => by congr 1; omega
    · congr 1; omega
theorem xs_xor (f g : Nat → Nat) (k : Nat) : xs (fun i => f i ^^^ g i) k = xs f k ^^^ xs g k := by
  induction k with
  | zero => simp [xs]
  | succ k ih =>
    simp only [xs]; rw [ih]
    ac_rfl

theorem getD_set (l : List Nat) (i v x : Nat) (hi : i < l.length) : (l.set i v).getD x 0 = if x = i then v else l.getD x 0 := by
  rw [List.getD_eq_getElem?_getD, List.getElem?_set]
  by_cases h : x = i
  · subst h; simp [hi]
  · simp [h, Ne.symm h]

/-! the product -/
theorem muIn_getD (p : List Nat) (qj j : Nat) (r : List Nat) (k : Nat) (hk : k + j ≤ r.length) (x : Nat) :
    (muIn p qj j r k).getD x 0 = r.getD x 0 ^^^ (if j ≤ x ∧ x - j < k then gm (p.getD (x - j) 0) qj else 0) := by
  induction k with
  | zero => simp [muIn]
  | succ k ih =>
    rw [muIn_succ, getD_set _ _ _ _ (by rw [muIn_length]; omega)]
    by_cases hx : x = k + j
    · rw [if_pos hx, ← hx, ih (by omega), if_neg (by omega), if_pos (by omega), Nat.xor_zero, show x - j = k by omega]
    · rw [if_neg hx, ih (by omega)]
      by_cases hc : j ≤ x ∧ x - j < k
      · rw [if_pos hc, if_pos (by omega)]
      · rw [if_neg hc, if_neg (by omega)]
theorem muGo_getD (p q : List Nat) (k : Nat) (hk : k ≤ q.length) (x : Nat) :
    (muGo p q k).getD x 0 = xs (fun j => if j ≤ x ∧ x - j < p.length then gm (p.getD (x - j) 0) (q.getD j 0) else 0) k := by
  induction k with
  | zero =>
    simp only [muGo, List.range_zero, List.foldl_nil, xs]
    rw [List.getD_eq_getElem?_getD, List.getElem?_replicate]; split <;> rfl
  | succ k ih =>
    rw [muGo_succ, muIn_getD _ _ _ _ _ (by rw [muGo_length]; omega), ih (by omega)]
    rfl

/-! the division -/
theorem inD_getD (b : List Nat) (coef i k : Nat) (msg : List Nat) (hk : i + k < msg.length) (x : Nat) :
    (inD b coef i k msg).getD x 0 = msg.getD x 0 ^^^ (if i + 1 ≤ x ∧ x - (i + 1) < k then gm (b.getD (x - i) 0) coef else 0) := by
  induction k with
  | zero => simp [inD]
  | succ k ih =>
    rw [inD_succ, inStep, getD_set _ _ _ _ (by rw [inD_length]; omega)]
    by_cases hx : x = i + (1 + k)
    · rw [if_pos hx, ← hx, ih (by omega), if_neg (by omega), if_pos (by omega), Nat.xor_zero, show x - i = 1 + k by omega]
    · rw [if_neg hx, ih (by omega)]
      by_cases hc : i + 1 ≤ x ∧ x - (i + 1) < k
      · rw [if_pos hc, if_pos (by omega)]
      · rw [if_neg hc, if_neg (by omega)]
theorem outD_getD (b : List Nat) (u : List Nat) (n : Nat) (hn : n + (b.length - 1) ≤ u.length) (x : Nat) :
    (outD b n u).getD x 0 = u.getD x 0 ^^^ xs (fun i => if i + 1 ≤ x ∧ x - (i + 1) < b.length - 1 then gm (b.getD (x - i) 0) ((outD b i u).getD i 0) else 0) n := by
  induction n with
  | zero => simp [outD, xs]
  | succ n ih =>
    rw [outD_succ, divStep, inD_getD _ _ _ _ _ (by rw [outD_length]; omega), ih (by omega)]
    rw [xs, Nat.xor_assoc]
/-- a coefficient that is reached stays -/
theorem outD_fix (b : List Nat) (u : List Nat) (n i : Nat) (hn : n + (b.length - 1) ≤ u.length) (hi : i ≤ n) : (outD b n u).getD i 0 = (outD b i u).getD i 0 := by
  rw [outD_getD b u n hn i, outD_getD b u i (by omega) i]
  congr 1
  exact xs_trunc hi fun j h1 h2 => if_neg (by omega)

def divQ (b u : List Nat) : List Nat := (outD b (u.length - (b.length - 1)) u).take (u.length - (b.length - 1))
def divR (b u : List Nat) : List Nat := (outD b (u.length - (b.length - 1)) u).drop (u.length - (b.length - 1))
theorem divQ_length (b u : List Nat) : (divQ b u).length = u.length - (b.length - 1) := by
  rw [divQ, List.length_take, outD_length]; omega
theorem divR_length (b u : List Nat) : (divR b u).length = u.length - (u.length - (b.length - 1)) := by
  rw [divR, List.length_drop, outD_length]
theorem divQ_oct (b : List Nat) {u : List Nat} (ou : Oct u) : Oct (divQ b u) := fun x hx => outD_oct b _ ou x (List.mem_of_mem_take hx)
theorem divR_oct (b : List Nat) {u : List Nat} (ou : Oct u) : Oct (divR b u) := fun x hx => outD_oct b _ ou x (List.mem_of_mem_drop hx)

theorem getD_take (l : List Nat) (n x : Nat) : (l.take n).getD x 0 = if x < n then l.getD x 0 else 0 := by
  rw [List.getD_eq_getElem?_getD, List.getElem?_take]
  by_cases h : x < n <;> simp [h]
theorem getD_drop (l : List Nat) (n x : Nat) : (l.drop n).getD x 0 = l.getD (n + x) 0 := by
  rw [List.getD_eq_getElem?_getD, List.getElem?_drop, List.getD_eq_getElem?_getD]

theorem adGo_getD (p q : List Nat) (hle : q.length ≤ p.length) (j : Nat) (hj : j ≤ q.length) (x : Nat) :
    (adGo p q j).getD x 0 = p.getD x 0 ^^^ (if p.length - q.length ≤ x ∧ x - (p.length - q.length) < j then q.getD (x - (p.length - q.length)) 0 else 0) := by
  induction j with
  | zero => simp [adGo]
  | succ j ih =>
    rw [adGo_succ, adStep, getD_set _ _ _ _ (by rw [adGo_length]; omega)]
    by_cases hx : x = j + p.length - q.length
    · rw [if_pos hx, ← hx, ih (by omega), if_neg (by omega), if_pos (by omega), Nat.xor_zero, show x - (p.length - q.length) = j by omega]
    · rw [if_neg hx, ih (by omega)]
      by_cases hc : p.length - q.length ≤ x ∧ x - (p.length - q.length) < j
      · rw [if_pos hc, if_pos (by omega)]
      · rw [if_neg hc, if_neg (by omega)]

theorem ext_getD {l l' : List Nat} (hl : l.length = l'.length) (h : ∀ x, x < l.length → l.getD x 0 = l'.getD x 0) : l = l' := by
  apply List.ext_getElem hl
  intro i h1 h2
  have := h i h1
  simpa [h1, h2] using this

/-- q b + r = u -/
theorem div_back (b u : List Nat) (hb : 2 ≤ b.length) (hone : b.getD 0 0 = 1) (ou : Oct u) (hlt : b.length - 1 < u.length) : adL (muL (divQ b u) b) (divR b u) = u := by
  have hqn := divQ_length b u
  have hrn := divR_length b u
  have hml : (muL (divQ b u) b).length = u.length := by rw [muL, muGo_length, hqn]; omega
  apply ext_getD
  · rw [adL, adGo_length, hml]
  intro x hx
  rw [adL, adGo_length, hml] at hx
  rw [adL, adGo_getD _ _ (by omega) _ (Nat.le_refl _), hml, hrn, muL, muGo_getD _ _ _ (Nat.le_refl _)]
  have hout := outD_getD b u (u.length - (b.length - 1)) (by omega) x
  -- the sum over the base is the sum over the quotient
  have hsum : xs (fun j => if j ≤ x ∧ x - j < (divQ b u).length then gm ((divQ b u).getD (x - j) 0) (b.getD j 0) else 0) b.length
      = (if x < u.length - (b.length - 1) then (outD b (u.length - (b.length - 1)) u).getD x 0 else 0) ^^^
        xs (fun i => if i + 1 ≤ x ∧ x - (i + 1) < b.length - 1 then gm (b.getD (x - i) 0) ((outD b i u).getD i 0) else 0) (u.length - (b.length - 1)) := by
    rw [show b.length = (b.length - 1) + 1 by omega, xs_head]
    rw [show b.length - 1 + 1 - 1 = b.length - 1 by omega]
    congr 1
    · rw [hqn, Nat.sub_zero, hone]
      by_cases h : x < u.length - (b.length - 1)
      · rw [if_pos ⟨Nat.zero_le _, h⟩, if_pos h, divQ, getD_take, if_pos h, gm_one_right ((outD_oct b _ ou).getD x)]
      · rw [if_neg (by omega), if_neg h]
    · have e1 : xs (fun j => if j + 1 ≤ x ∧ x - (j + 1) < (divQ b u).length then gm ((divQ b u).getD (x - (j + 1)) 0) (b.getD (j + 1) 0) else 0) (b.length - 1)
          = xs (fun j => if j < b.length - 1 ∧ x - (j + 1) < (divQ b u).length then gm ((divQ b u).getD (x - (j + 1)) 0) (b.getD (j + 1) 0) else 0) x := by
        rcases Nat.le_total (b.length - 1) x with h | h
        · rw [xs_trunc (f := fun j => if j < b.length - 1 ∧ x - (j + 1) < (divQ b u).length then gm ((divQ b u).getD (x - (j + 1)) 0) (b.getD (j + 1) 0) else 0) h fun i h1 h2 => if_neg (by omega)]
          exact xs_congr fun i hi => by
            by_cases hc : x - (i + 1) < (divQ b u).length
            · rw [if_pos (by omega), if_pos (by omega)]
            · rw [if_neg (by omega), if_neg (by omega)]
        · rw [xs_trunc (f := fun j => if j + 1 ≤ x ∧ x - (j + 1) < (divQ b u).length then gm ((divQ b u).getD (x - (j + 1)) 0) (b.getD (j + 1) 0) else 0) h fun i h1 h2 => if_neg (by omega)]
          exact xs_congr fun i hi => by
            by_cases hc : x - (i + 1) < (divQ b u).length
            · rw [if_pos (by omega), if_pos (by omega)]
            · rw [if_neg (by omega), if_neg (by omega)]
      have e2 : xs (fun i => if i + 1 ≤ x ∧ x - (i + 1) < b.length - 1 then gm (b.getD (x - i) 0) ((outD b i u).getD i 0) else 0) (u.length - (b.length - 1))
          = xs (fun i => if i < u.length - (b.length - 1) ∧ x - (i + 1) < b.length - 1 then gm (b.getD (x - i) 0) ((outD b i u).getD i 0) else 0) x := by
        rcases Nat.le_total (u.length - (b.length - 1)) x with h | h
        · rw [xs_trunc (f := fun i => if i < u.length - (b.length - 1) ∧ x - (i + 1) < b.length - 1 then gm (b.getD (x - i) 0) ((outD b i u).getD i 0) else 0) h fun i h1 h2 => if_neg (by omega)]
          exact xs_congr fun i hi => by
            by_cases hc : x - (i + 1) < b.length - 1
            · rw [if_pos (by omega), if_pos (by omega)]
            · rw [if_neg (by omega), if_neg (by omega)]
        · rw [xs_trunc (f := fun i => if i + 1 ≤ x ∧ x - (i + 1) < b.length - 1 then gm (b.getD (x - i) 0) ((outD b i u).getD i 0) else 0) h fun i h1 h2 => if_neg (by omega)]
          exact xs_congr fun i hi => by
            by_cases hc : x - (i + 1) < b.length - 1
            · rw [if_pos (by omega), if_pos (by omega)]
            · rw [if_neg (by omega), if_neg (by omega)]
      rw [e1, e2, xs_rev]
      refine xs_congr fun i hi => ?_
      rw [hqn]
      by_cases hc : i < u.length - (b.length - 1) ∧ x - (i + 1) < b.length - 1
      · rw [if_pos (by omega), if_pos hc, show x - (x - 1 - i + 1) = i by omega, show x - 1 - i + 1 = x - i by omega, gm_comm, divQ, getD_take, if_pos hc.1, outD_fix b u _ i (by omega) (by omega)]
      · rw [if_neg (by omega), if_neg hc]
  rw [hsum]
  by_cases h : x < u.length - (b.length - 1)
  · rw [if_pos h, if_neg (by omega), Nat.xor_zero, hout, Nat.xor_assoc, Nat.xor_self, Nat.xor_zero]
  · rw [if_neg h, if_pos (by omega), divR, getD_drop, show u.length - (b.length - 1) + (x - (u.length - (u.length - (u.length - (b.length - 1))))) = x by omega, hout, Nat.zero_xor,
      Nat.xor_comm (u.getD x 0), ← Nat.xor_assoc, Nat.xor_self, Nat.zero_xor]

/-! where the base is x less an octet -/
theorem ev_out (u : List Nat) (x i : Nat) (hi : i + 1 ≤ u.length) : (outD [1, x] i u).getD i 0 = evL u x i := by
  induction i with
  | zero => rfl
  | succ i ih =>
    rw [outD_succ, divStep, inD_getD _ _ _ _ _ (by rw [outD_length]; simp; omega), if_pos (by simp), show i + 1 - i = 1 by omega, ih (by omega), evL_succ]
    have e : (outD [1, x] i u).getD (i + 1) 0 = u.getD (i + 1) 0 := by
      rw [outD_getD _ _ _ (by simp; omega), xs_zero (fun j hj => if_neg (by simp; omega)), Nat.xor_zero]
    rw [e, gm_comm, Nat.xor_comm, Nat.add_comm 1 i]
    rfl
theorem ev_rest (u : List Nat) (x : Nat) (h : 1 ≤ u.length) : divR [1, x] u = [evL u x (u.length - 1)] := by
  have e := ev_out u x (u.length - 1) (by omega)
  have hl := outD_length [1, x] (u.length - 1) u
  show (outD [1, x] (u.length - 1) u).drop (u.length - 1) = _
  apply ext_getD
  · rw [List.length_drop, hl]; simp; omega
  · intro y hy
    rw [List.length_drop, hl] at hy
    rw [getD_drop, show u.length - 1 + y = u.length - 1 by omega, e, show y = 0 by omega]
    rfl

/-! the digits -/
def digs (b u : List Nat) : List (List Nat) := if h : u.length = 0 ∨ b.length < 2 then [] else divR b u :: digs b (divQ b u)
termination_by u.length
decreasing_by rw [divQ_length]; omega
theorem digs_nil (b : List Nat) : digs b [] = [] := by rw [digs]; simp
theorem digs_cons (b u : List Nat) (hb : 2 ≤ b.length) (hu : u.length ≠ 0) : digs b u = divR b u :: digs b (divQ b u) := by
  rw [digs, dif_neg (by omega)]
end Mine
namespace Mine

/-! a whole number's cells of sixteen bits -/
def cell (N i : Nat) : Nat := N / 65536 ^ i % 65536
theorem cell_zero (N : Nat) : cell N 0 = N % 65536 := by simp [cell]
theorem cell_succ (N i : Nat) : cell N (i + 1) = cell (N / 65536) i := by
  unfold cell; rw [Nat.pow_succ, Nat.mul_comm, Nat.div_div_eq_div_mul]
theorem cell_nought (i : Nat) : cell 0 i = 0 := by simp [cell]
theorem cell_ext : ∀ (N M : Nat), (∀ i, cell N i = cell M i) → N = M := by
  intro N
  induction N using Nat.strongRecOn with
  | ind N ih =>
    intro M h
    have h0 := h 0
    rw [cell_zero, cell_zero] at h0
    have h1 : ∀ i, cell (N / 65536) i = cell (M / 65536) i := fun i => by rw [← cell_succ, ← cell_succ, h]
    by_cases hN : N = 0
    · subst hN
      -- all cells of M are nought
      have : ∀ M : Nat, (∀ i, cell M i = 0) → M = 0 := by
        intro M
        induction M using Nat.strongRecOn with
        | ind M ih2 =>
          intro h
          by_cases hM : M = 0
          · exact hM
          · have a0 := h 0
            rw [cell_zero] at a0
            have := ih2 (M / 65536) (by omega) fun i => by rw [← cell_succ]; exact h _
            omega
      exact (this M fun i => by rw [← h i, cell_nought]).symm
    · have := ih (N / 65536) (by omega) (M / 65536) h1
      omega
theorem cell_xor (N M i : Nat) : cell (N ^^^ M) i = cell N i ^^^ cell M i := by
  unfold cell
  rw [show (65536 : Nat) = 2 ^ 16 from rfl, ← Nat.pow_mul, Nat.xor_div_two_pow, Nat.xor_mod_two_pow]
theorem cell_and (N M i : Nat) : cell (N &&& M) i = cell N i &&& cell M i := by
  unfold cell
  rw [show (65536 : Nat) = 2 ^ 16 from rfl, ← Nat.pow_mul, Nat.and_div_two_pow, Nat.and_mod_two_pow]
theorem cell_push (N x i : Nat) (hx : x < 65536) : cell (N * 65536 + x) i = if i = 0 then x else cell N (i - 1) := by
  cases i with
  | zero => rw [cell_zero, if_pos rfl]; omega
  | succ i => rw [cell_succ, if_neg (by omega), show (N * 65536 + x) / 65536 = N by omega]; rfl
theorem cell_mul (c i : Nat) : ∀ N, (∀ i, cell N i * c < 65536) → cell (N * c) i = cell N i * c := by
  induction i with
  | zero =>
    intro N h
    have := h 0
    rw [cell_zero] at this ⊢
    rw [cell_zero]
    have e : N * c = 65536 * (N / 65536 * c) + N % 65536 * c := by
      conv => lhs; rw [← Nat.div_add_mod N 65536]
      rw [Nat.add_mul, Nat.mul_assoc]
    rw [e, Nat.mul_add_mod, Nat.mod_eq_of_lt this]
  | succ i ih =>
    intro N h
    have h0 := h 0
    rw [cell_zero] at h0
    have e : N * c = 65536 * (N / 65536 * c) + N % 65536 * c := by
      conv => lhs; rw [← Nat.div_add_mod N 65536]
      rw [Nat.add_mul, Nat.mul_assoc]
    rw [cell_succ, cell_succ, e, Nat.mul_add_div (by decide), Nat.div_eq_of_lt h0, Nat.add_zero]
    exact ih _ fun i => by rw [← cell_succ]; exact h _
def onesN : Nat → Nat
  | 0 => 0
  | n + 1 => onesN n * 65536 + 1
theorem ones_pow (n : Nat) : 65536 ^ n = 65535 * onesN n + 1 := by
  induction n with
  | zero => rfl
  | succ n ih => rw [Nat.pow_succ, ih, onesN]; generalize onesN n = o; omega
theorem ones_eq (n : Nat) : (65536 ^ n - 1) / 65535 = onesN n := by
  rw [ones_pow, Nat.add_sub_cancel, Nat.mul_div_cancel_left _ (by decide)]
theorem ones_succ (n : Nat) : (65536 ^ (n + 1) - 1) / 65535 = (65536 ^ n - 1) / 65535 * 65536 + 1 := by
  rw [ones_eq, ones_eq, onesN]
theorem cell_ones (n i : Nat) : cell ((65536 ^ n - 1) / 65535) i = if i < n then 1 else 0 := by
  induction n generalizing i with
  | zero => simp [cell_nought]
  | succ n ih =>
    rw [ones_succ, cell_push _ _ _ (by decide)]
    cases i with
    | zero => simp
    | succ i => rw [if_neg (by omega), show i + 1 - 1 = i by omega, ih]; simp
theorem cell_bit (N p i : Nat) (hp : p < 16) : cell (N / 2 ^ p) i &&& 1 = cell N i / 2 ^ p % 2 := by
  rw [Nat.and_one_is_mod]
  unfold cell
  rw [show (65536 : Nat) = 2 ^ 16 from rfl, ← Nat.pow_mul]
  rw [Nat.div_div_eq_div_mul, Nat.mul_comm, ← Nat.div_div_eq_div_mul]
  generalize N / 2 ^ (16 * i) = X
  rw [Nat.mod_mod_of_dvd _ (by decide)]
  have e : (2 : Nat) ^ 16 = 2 ^ p * 2 ^ (16 - p) := by rw [← Nat.pow_add]; congr 1; omega
  rw [e, Nat.mod_mul_right_div_self]
  rw [Nat.mod_mod_of_dvd]
  exact ⟨2 ^ (15 - p), by rw [← Nat.pow_succ']; congr 1; omega⟩

theorem numGo_append (w : Nat) (l : List Nat) (x : Nat) : numGo w (l ++ [x]) = numGo w l * 65536 + x := by simp [numGo]
theorem cell_num (l : List Nat) (o : Oct l) (i : Nat) : cell (numL l) i = if i < l.length then l.getD (l.length - 1 - i) 0 else 0 := by
  unfold numL
  have key : ∀ (n : Nat) (l : List Nat), l.length = n → Oct l → ∀ i, cell (numGo 0 l) i = if i < l.length then l.getD (l.length - 1 - i) 0 else 0 := by
    intro n
    induction n with
    | zero => intro l hl _ i; rw [List.length_eq_zero_iff.mp hl]; simp [numGo, cell_nought]
    | succ n ih =>
      intro l hl o i
      have hne : l ≠ [] := by intro e; rw [e] at hl; cases hl
      obtain ⟨l', x, rfl⟩ : ∃ l' x, l = l' ++ [x] := ⟨l.dropLast, l.getLast hne, (List.dropLast_concat_getLast hne).symm⟩
      have hx : x < 256 := o x (by simp)
      have hl' : l'.length = n := by simpa using hl
      rw [numGo_append, cell_push _ _ _ (by omega), ih l' hl' (fun y hy => o y (by simp [hy]))]
      rw [List.length_append, List.length_singleton]
      cases i with
      | zero =>
        rw [if_pos rfl, if_pos (by omega), show l'.length + 1 - 1 - 0 = l'.length by omega]
        simp
      | succ i =>
        rw [if_neg (by omega), show i + 1 - 1 = i by omega]
        by_cases h : i < l'.length
        · rw [if_pos h, if_pos (by omega), show l'.length + 1 - 1 - (i + 1) = l'.length - 1 - i by omega]
          simp only [List.getD_eq_getElem?_getD]
          rw [List.getElem?_append_left (by omega)]
        · rw [if_neg h, if_neg (by omega)]
  exact key _ l rfl o i

/-! reducing one cell -/
def redC (w k : Nat) : Nat := (List.range k).foldl (fun w t => w ^^^ ((w / 2 ^ (14 - t) % 2) * 285 * 2 ^ (6 - t))) w
theorem redC_succ (w k : Nat) : redC w (k + 1) = redC w k ^^^ ((redC w k / 2 ^ (14 - k) % 2) * 285 * 2 ^ (6 - k)) := by simp [redC, List.range_succ]
theorem redC_nought (k : Nat) : redC 0 k = 0 := by
  induction k with
  | zero => rfl
  | succ k ih => rw [redC_succ, ih]; simp
theorem bit_xor (a b p : Nat) : (a ^^^ b) / 2 ^ p % 2 = (a / 2 ^ p % 2) ^^^ (b / 2 ^ p % 2) := by
  rw [Nat.xor_div_two_pow]
  exact Nat.xor_mod_two_pow (n := 1)
theorem bits_mul {x y c : Nat} (hx : x < 2) (hy : y < 2) : (x ^^^ y) * c = (x * c) ^^^ (y * c) := by
  rcases (show x = 0 ∨ x = 1 by omega) with rfl | rfl <;> rcases (show y = 0 ∨ y = 1 by omega) with rfl | rfl <;> simp
theorem redC_xor (a b k : Nat) : redC (a ^^^ b) k = redC a k ^^^ redC b k := by
  induction k with
  | zero => rfl
  | succ k ih =>
    rw [redC_succ, redC_succ, redC_succ, ih, bit_xor, Nat.mul_assoc, Nat.mul_assoc, Nat.mul_assoc, bits_mul (Nat.mod_lt _ (by decide)) (Nat.mod_lt _ (by decide))]
    ac_rfl
theorem cell_red (n W k i : Nat) (hk : k ≤ 7) : cell (redG ((65536 ^ n - 1) / 65535) W k) i = if i < n then redC (cell W i) k else cell W i := by
  induction k generalizing i with
  | zero => simp [redG, redC]
  | succ k ih =>
    have hc : ∀ i, cell (redG ((65536 ^ n - 1) / 65535) W k / 2 ^ (14 - k) &&& (65536 ^ n - 1) / 65535) i = if i < n then cell (redG ((65536 ^ n - 1) / 65535) W k) i / 2 ^ (14 - k) % 2 else 0 := by
      intro i
      rw [cell_and, cell_ones]
      by_cases h : i < n
      · rw [if_pos h, if_pos h, cell_bit _ _ _ (by omega)]
      · rw [if_neg h, if_neg h, Nat.and_zero]
    have hb : 285 * 2 ^ (6 - k) ≤ 18240 := by
      have : 2 ^ (6 - k) ≤ 2 ^ 6 := Nat.pow_le_pow_right (by decide) (by omega)
      omega
    rw [redG_succ, cell_xor, Nat.mul_assoc, cell_mul]
    · rw [hc, ih i (by omega)]
      by_cases h : i < n
      · rw [if_pos h, if_pos h, if_pos h, redC_succ, Nat.mul_assoc]
      · rw [if_neg h, if_neg h, if_neg h, Nat.zero_mul, Nat.xor_zero]
    · intro j
      rw [hc]
      have : (if j < n then cell (redG ((65536 ^ n - 1) / 65535) W k) j / 2 ^ (14 - k) % 2 else 0) < 2 := by split <;> omega
      generalize (if j < n then cell (redG ((65536 ^ n - 1) / 65535) W k) j / 2 ^ (14 - k) % 2 else 0) = B at *
      rcases (show B = 0 ∨ B = 1 by omega) with rfl | rfl <;> omega

/-! the product of two octets without carries -/
def clm (a r : Nat) : Nat := xs (fun p => r / 2 ^ p % 2 * (a * 2 ^ p)) 8
theorem clm_mod (a r : Nat) : clm a (r % 65536) = clm a r := by
  refine xs_congr fun p hp => ?_
  congr 1
  have e : (65536 : Nat) = 2 ^ p * 2 ^ (16 - p) := by rw [← Nat.pow_add, show p + (16 - p) = 16 by omega]
  rw [e, Nat.mod_mul_right_div_self, Nat.mod_mod_of_dvd]
  exact ⟨2 ^ (15 - p), by rw [← Nat.pow_succ']; congr 1; omega⟩
theorem clm_right0 (a : Nat) : clm a 0 = 0 := xs_zero fun p _ => by simp
theorem clm_left0 (r : Nat) : clm 0 r = 0 := xs_zero fun p _ => by simp
theorem cell_in8 (L R W k i : Nat) (hk : k ≤ 8) (hL : ∀ i, cell L i < 256) : cell (in8 L R W k) i = cell W i ^^^ xs (fun p => R / 2 ^ p % 2 * (cell L i * 2 ^ p)) k := by
  induction k with
  | zero => simp [in8, xs]
  | succ k ih =>
    have hcell : cell (L * 2 ^ k) i = cell L i * 2 ^ k := cell_mul _ _ _ fun j => by
      have h1 := hL j
      have h2 : 2 ^ k ≤ 2 ^ 7 := Nat.pow_le_pow_right (by decide) (by omega)
      have := Nat.mul_le_mul (Nat.le_of_lt_succ h1) h2
      omega
    rw [in8_succ, xs]
    by_cases h : R / 2 ^ k % 2 = 1
    · rw [if_pos h, cell_xor, ih (by omega), hcell, h, Nat.one_mul, Nat.xor_assoc]
    · rw [if_neg h, ih (by omega), show R / 2 ^ k % 2 = 0 by omega, Nat.zero_mul, Nat.xor_zero]
theorem cell_pGo (n : Nat) : ∀ (W L R i : Nat), (∀ i, cell L i < 256) → (∀ j, n ≤ j → cell R j = 0) →
    cell (pGo W L R) i = cell W i ^^^ xs (fun j => if j ≤ i then clm (cell L (i - j)) (cell R j) else 0) n := by
  induction n with
  | zero =>
    intro W L R i hL hR
    have : R = 0 := cell_ext _ _ fun j => by rw [hR j (by omega), cell_nought]
    subst this
    rw [pGo, if_pos rfl]; simp [xs]
  | succ n ih =>
    intro W L R i hL hR
    by_cases h0 : R = 0
    · subst h0
      rw [pGo, if_pos rfl, xs_zero fun j _ => by rw [cell_nought, clm_right0]; simp]
      simp
    · rw [pGo, if_neg h0]
      have hL' : ∀ i, cell (L * 65536) i = if i = 0 then 0 else cell L (i - 1) := fun i => by
        have := cell_push L 0 i (by decide)
        rwa [Nat.add_zero] at this
      rw [ih _ _ _ _ (fun j => by rw [hL']; split; decide; exact hL _) (fun j hj => by rw [← cell_succ]; exact hR _ (by omega)),
        cell_in8 _ _ _ _ _ (by decide) hL, Nat.xor_assoc]
      conv => rhs; rw [xs_head]
      congr 1
      congr 1
      · show clm (cell L i) R = _
        rw [if_pos (Nat.zero_le _), Nat.sub_zero, cell_zero, clm_mod]
      · refine xs_congr fun j _ => ?_
        by_cases h : j + 1 ≤ i
        · rw [if_pos (by omega), if_pos h, hL', if_neg (by omega), cell_succ, show i - j - 1 = i - (j + 1) by omega]
        · rw [if_neg h]
          by_cases h' : j ≤ i
          · rw [if_pos h', hL', if_pos (by omega), clm_left0]
          · rw [if_neg h']

/-! reduced, it is the product in the field -/
theorem xt_form {x : Nat} (h : x < 256) : xt x = (x * 2) ^^^ (x / 2 ^ 7 % 2 * 285) := by
  unfold xt
  by_cases hx : x < 128
  · rw [if_pos hx, show x / 2 ^ 7 % 2 = 0 by omega, Nat.zero_mul, Nat.xor_zero, Nat.mul_comm]
  · rw [if_neg hx, show x / 2 ^ 7 % 2 = 1 by omega, Nat.one_mul, Nat.mul_comm]
theorem xor_mul2 (x y : Nat) : (x ^^^ y) * 2 = (x * 2) ^^^ (y * 2) := by
  have := Nat.shiftLeft_xor_distrib (a := x) (b := y) (i := 1)
  simpa [Nat.shiftLeft_eq] using this
theorem xt_xor {x y : Nat} (hx : x < 256) (hy : y < 256) : xt (x ^^^ y) = xt x ^^^ xt y := by
  rw [xt_form (xor_lt256 hx hy), xt_form hx, xt_form hy, bit_xor, xor_mul2, bits_mul (Nat.mod_lt _ (by decide)) (Nat.mod_lt _ (by decide))]
  ac_rfl
def mOk : Bool := (List.range 256).all fun a => (List.range 8).all fun p => redC (a * 2 ^ p) 7 < 256 && redC (xt a * 2 ^ p) 7 == xt (redC (a * 2 ^ p) 7)
theorem m_ok : mOk = true := by decide +kernel
theorem m_lt {a p : Nat} (ha : a < 256) (hp : p < 8) : redC (a * 2 ^ p) 7 < 256 := by
  have := List.all_eq_true.mp (List.all_eq_true.mp m_ok a (List.mem_range.mpr ha)) p (List.mem_range.mpr hp)
  rw [Bool.and_eq_true] at this
  simpa using this.1
theorem m_xt {a p : Nat} (ha : a < 256) (hp : p < 8) : redC (xt a * 2 ^ p) 7 = xt (redC (a * 2 ^ p) 7) := by
  have := List.all_eq_true.mp (List.all_eq_true.mp m_ok a (List.mem_range.mpr ha)) p (List.mem_range.mpr hp)
  rw [Bool.and_eq_true] at this
  simpa using this.2
def m1Ok : Bool := (List.range 256).all fun b => redC (clm 1 b) 7 == b
theorem m1_ok : m1Ok = true := by decide +kernel
theorem m_one {b : Nat} (hb : b < 256) : redC (clm 1 b) 7 = b := by
  have := List.all_eq_true.mp m1_ok b (List.mem_range.mpr hb)
  simpa using this
theorem redC_bit (x c k : Nat) (hx : x < 2) : redC (x * c) k = x * redC c k := by
  rcases (show x = 0 ∨ x = 1 by omega) with rfl | rfl
  · rw [Nat.zero_mul, Nat.zero_mul, redC_nought]
  · rw [Nat.one_mul, Nat.one_mul]
theorem redC_xs (f : Nat → Nat) (n k : Nat) : redC (xs f n) k = xs (fun i => redC (f i) k) n := by
  induction n with
  | zero => exact redC_nought k
  | succ n ih => rw [xs, xs, redC_xor, ih]
theorem xs_lt {f : Nat → Nat} {n : Nat} (h : ∀ i, i < n → f i < 256) : xs f n < 256 := by
  induction n with
  | zero => exact (by decide : 0 < 256)
  | succ n ih => exact xor_lt256 (ih fun i hi => h i (by omega)) (h n (by omega))
theorem xt_xs {f : Nat → Nat} {n : Nat} (h : ∀ i, i < n → f i < 256) : xt (xs f n) = xs (fun i => xt (f i)) n := by
  induction n with
  | zero => rfl
  | succ n ih => rw [xs, xs, xt_xor (xs_lt fun i hi => h i (by omega)) (h n (by omega)), ih fun i hi => h i (by omega)]
theorem m_step {a : Nat} (ha : a < 256) (b : Nat) : redC (clm (xt a) b) 7 = xt (redC (clm a b) 7) := by
  unfold clm
  have e : ∀ a p, redC (b / 2 ^ p % 2 * (a * 2 ^ p)) 7 = b / 2 ^ p % 2 * redC (a * 2 ^ p) 7 := fun a p => redC_bit _ _ _ (Nat.mod_lt _ (by decide))
  rw [redC_xs, redC_xs, xt_xs]
  · refine xs_congr fun p hp => ?_
    rw [e, e, m_xt ha hp]
    rcases (show b / 2 ^ p % 2 = 0 ∨ b / 2 ^ p % 2 = 1 by omega) with h | h <;> rw [h]
    · simp [xt]
    · simp
  · intro p hp
    rw [e]
    have := m_lt ha hp
    rcases (show b / 2 ^ p % 2 = 0 ∨ b / 2 ^ p % 2 = 1 by omega) with h | h <;> rw [h] <;> omega
theorem m_gm {a b : Nat} (ha : a < 256) (hb : b < 256) : redC (clm a b) 7 = gm a b := by
  by_cases ha0 : a = 0
  · rw [ha0, clm_left0, redC_nought, gm_zero_left]
  by_cases hb0 : b = 0
  · rw [hb0, clm_right0, redC_nought, gm_zero_right]
  have hlb := log_lt b
  have key : ∀ i, i < 255 → redC (clm (expL.getD i 0) b) 7 = expL.getD ((i + logL.getD b 0) % 255) 0 := by
    intro i
    induction i with
    | zero => intro _; rw [exp_zero, m_one hb, Nat.zero_add, Nat.mod_eq_of_lt hlb, exp_log hb hb0]
    | succ i ih =>
      intro hi
      rw [exp_step (by omega), m_step (exp_lt i), ih (by omega)]
      by_cases h : (i + logL.getD b 0) % 255 = 254
      · rw [h, exp_last, show (i + 1 + logL.getD b 0) % 255 = 0 by omega, exp_zero]
      · rw [← exp_step (by omega), show (i + 1 + logL.getD b 0) % 255 = (i + logL.getD b 0) % 255 + 1 by omega]
  have := key _ (log_lt a)
  rw [exp_log ha ha0] at this
  rw [this, gm, if_neg (by simp [ha0, hb0])]

theorem prod_num (q b : List Nat) (oq : Oct q) (ob : Oct b) (hq : 0 < q.length) (hb : 0 < b.length) (hl : q.length + b.length - 1 ≤ 20) : prodN (numL q) (numL b) 20 = numL (muL q b) := by
  apply cell_ext
  intro i
  have ol : ∀ i, cell (numL q) i < 256 := fun i => by rw [cell_num q oq]; split; exact oq.getD _; decide
  have ob' : ∀ i, cell (numL b) i < 256 := fun i => by rw [cell_num b ob]; split; exact ob.getD _; decide
  rw [prodN, cell_red _ _ _ _ (by decide), cell_pGo b.length _ _ _ _ ol (fun j hj => by rw [cell_num b ob, if_neg (by omega)]), cell_nought, Nat.zero_xor, cell_num (muL q b) (muGo_oct _ _ _)]
  rw [show (muL q b).length = q.length + b.length - 1 from muGo_length _ _ _]
  by_cases hi : i < q.length + b.length - 1
  · rw [if_pos (by omega), if_pos hi, redC_xs, muL, muGo_getD _ _ _ (Nat.le_refl _), xs_rev]
    refine xs_congr fun j hj => ?_
    by_cases hc : b.length - 1 - j ≤ i ∧ i - (b.length - 1 - j) < q.length
    · rw [if_pos hc.1, if_pos (by omega), m_gm (ol _) (ob' _), cell_num q oq, cell_num b ob, if_pos (by omega), if_pos (by omega)]
      congr 2 <;> omega
    · rw [if_neg (show ¬ (j ≤ q.length + b.length - 1 - 1 - i ∧ q.length + b.length - 1 - 1 - i - j < q.length) by omega)]
      by_cases h1 : b.length - 1 - j ≤ i
      · rw [if_pos h1, cell_num q oq, if_neg (by omega), clm_left0, redC_nought]
      · rw [if_neg h1, redC_nought]
  · rw [if_neg hi]
    have : xs (fun j => if j ≤ i then clm (cell (numL q) (i - j)) (cell (numL b) j) else 0) b.length = 0 := xs_zero fun j hj => by
      rw [if_pos (by omega), cell_num q oq, if_neg (by omega), clm_left0]
    rw [this, redC_nought]
    split <;> rfl
theorem add_num (p q : List Nat) (op : Oct p) (oq : Oct q) (h : q.length ≤ p.length) : numL p ^^^ numL q = numL (adL p q) := by
  apply cell_ext
  intro i
  have e := adGo_length p q q.length
  rw [cell_xor, cell_num p op, cell_num q oq, cell_num (adL p q) (adGo_oct op oq _), adL, e]
  by_cases hi : i < p.length
  · rw [if_pos hi, if_pos hi, adGo_getD p q h _ (Nat.le_refl _)]
    congr 1
    by_cases hc : i < q.length
    · rw [if_pos hc, if_pos (by omega)]; congr 1; omega
    · rw [if_neg hc, if_neg (by omega)]
  · rw [if_neg hi, if_neg hi, if_neg (by omega)]; rfl

theorem prod_nought (r n : Nat) : prodN 0 r n = 0 := by
  have h : ∀ i, cell (prodN 0 r n) i = cell 0 i := by
    intro i
    have hz : pGo 0 0 r = 0 := by
      have key : ∀ r, pGo 0 0 r = 0 := by
        intro r
        induction r using Nat.strongRecOn with
        | ind r ih =>
          rw [pGo]
          by_cases h0 : r = 0
          · rw [if_pos h0]
          · rw [if_neg h0]
            have : in8 0 r 0 8 = 0 := by
              have k : ∀ k, in8 0 r 0 k = 0 := by
                intro k
                induction k with
                | zero => rfl
                | succ k ih => rw [in8_succ, ih]; simp
              exact k 8
            rw [this, Nat.zero_mul]
            exact ih _ (by omega)
      exact key r
    rw [prodN, hz, cell_red _ _ _ _ (by decide), cell_nought, redC_nought]; split <;> rfl
  exact cell_ext _ _ h

/-! the digits by the powers of the base -/
def whole (b : List Nat) (ds : List (List Nat)) : Nat := ds.foldr (fun d w => prodN w (numL b) 20 ^^^ numL d) 0
def built (b : List Nat) : List (List Nat) → List Nat
  | [] => []
  | [d] => d
  | d :: ds => adL (muL (built b ds) b) d
theorem digs_ne (b u : List Nat) (hb : 2 ≤ b.length) (hu : u.length ≠ 0) : digs b u ≠ [] := by rw [digs_cons b u hb hu]; exact fun h => nomatch h
theorem div_short (b u : List Nat) (h : u.length ≤ b.length - 1) : divQ b u = [] ∧ divR b u = u := by
  unfold divQ divR
  rw [show u.length - (b.length - 1) = 0 by omega]
  exact ⟨rfl, rfl⟩
theorem digs_whole (b : List Nat) (ob : Oct b) (hb : 2 ≤ b.length) (hone : b.getD 0 0 = 1) (n : Nat) : ∀ u : List Nat, u.length = n → Oct u → u.length ≠ 0 → u.length ≤ 20 → whole b (digs b u) = numL u ∧ built b (digs b u) = u := by
  induction n using Nat.strongRecOn with
  | ind n ih =>
    intro u hn ou hu h14
    rw [digs_cons b u hb hu]
    by_cases hs : u.length ≤ b.length - 1
    · rw [(div_short b u hs).1, (div_short b u hs).2, digs_nil]
      refine ⟨?_, rfl⟩
      show prodN 0 (numL b) 20 ^^^ numL u = numL u
      rw [prod_nought, Nat.zero_xor]
    · have hql := divQ_length b u
      have hrl := divR_length b u
      obtain ⟨i1, i2⟩ := ih (divQ b u).length (by omega) (divQ b u) rfl (divQ_oct b ou) (by omega) (by omega)
      have hback := div_back b u hb hone ou (by omega)
      constructor
      · show prodN (whole b (digs b (divQ b u))) (numL b) 20 ^^^ numL (divR b u) = numL u
        rw [i1, prod_num _ _ (divQ_oct b ou) ob (by omega) (by omega) (by omega), add_num (muL (divQ b u) b) _ (muGo_oct _ _ _) (divR_oct b ou) (by rw [muL, muGo_length]; omega), hback]
      · have hne := digs_ne b (divQ b u) hb (by omega)
        cases hd : digs b (divQ b u) with
        | nil => exact absurd hd hne
        | cons d ds =>
          show adL (muL (built b (d :: ds)) b) (divR b u) = u
          rw [← hd, i2, hback]
end Mine
namespace Mine

abbrev lob (vs : List Value) : Obj := { cls := .type "list", data := .seq vs.toArray }
theorem lob_is {h : Heap} {a : Addr} {vs : List Value} (e : h.get? a = some (lob vs)) : h.IsList a vs.toArray := ⟨_, e, rfl, _, rfl⟩
theorem IsList_ext {h h' : Heap} {a : Addr} {vs : Array Value} (x : h.IsList a vs) (e : Ext h h') : h'.IsList a vs := x.at fun o q => e _ o q

/-- everything that stands becomes base -/
theorem St.grow {g h h' : Heap} {L : Addr} {m : Str → Option Value} {N : List (Addr × Obj)} (S : St g L m N h) (e : Ext h h') :
    ∃ g', Ext g g' ∧ St g' L m N h' ∧ ∀ b o, h'.get? b = some o → b ≠ L → b ∉ N.map (·.1) → g'.get? b = some o := by
  obtain ⟨a, b⟩ := (S.ext e).rebase
  refine ⟨_, a, b, fun c o hc hL hN => hideL_get _ hc fun hm => ?_⟩
  rcases List.mem_cons.mp hm with q | q
  · exact hL q
  · exact hN q
theorem St.apart {g h : Heap} {L : Addr} {m : Str → Option Value} {N : List (Addr × Obj)} (S : St g L m N h) {a : Addr} (hle : h.objs.size ≤ a) : a ≠ L ∧ a ∉ N.map (·.1) :=
  ⟨Nat.ne_of_gt (Nat.lt_of_lt_of_le S.ns.lt hle), fun hm => by
    obtain ⟨p, hp, q⟩ := List.mem_map.mp hm
    have := S.lt hp
    rw [q] at this
    exact absurd this (Nat.not_lt.mpr hle)⟩

section
variable {prog : Program} {w : World} {A : Around} {E : Value → Shared → Prop} {s : Shared} {g h : Heap} {tk : Nat} {env : Env} {L : Addr} {m : Str → Option Value} {N : List (Addr × Obj)}

/-- list[lo:hi:st] -/
theorem slcV {value : Expr} {lower upper step : Option Expr} {p pos : Pos} {vs : List Value} {lo hi st : Option Int} {ops : Value → Value → List Value} {Q : Value → Shared → Prop}
    (hv : ∀ K : Value → Shared → Prop, (∀ r h₁ tk₁, Ext h h₁ → h.objs.size ≤ h₁.objs.size → h₁.IsList r vs.toArray → K (.ref r) (sh s h₁ tk₁)) → wpAny (model prog w) A (eval value env) K E (sh s h tk))
    (hlo : ∀ h₁ tk (K : Value → Shared → Prop), Ext h h₁ → (∀ v tk', IsPart v lo → K v (sh s h₁ tk')) → wpAny (model prog w) A (evalPart lower env) K E (sh s h₁ tk))
    (hhi : ∀ h₁ tk (K : Value → Shared → Prop), Ext h h₁ → (∀ v tk', IsPart v hi → K v (sh s h₁ tk')) → wpAny (model prog w) A (evalPart upper env) K E (sh s h₁ tk))
    (hst : ∀ h₁ tk (K : Value → Shared → Prop), Ext h h₁ → (∀ v tk', IsPart v st → K v (sh s h₁ tk')) → wpAny (model prog w) A (evalPart step env) K E (sh s h₁ tk))
    (h0 : st ≠ some 0) (hz : vs.length ≤ 2 ^ 20)
    (q : ∀ a h' tk', Ext h h' → h.objs.size ≤ a → h'.get? a = some { cls := .type "list", data := .seq (slicePick vs.toArray lo hi st) } → Q (.ref a) (sh s h' tk'))
    (hs : ∀ o i, subscripted (.Slice lower upper step p) false o i = operate (ops o i) (getItem o i) := by intro _ _; exact rfl) :
    wpAny (model prog w) A (eval (.Subscript value (.Slice lower upper step p) pos) env) Q E (sh s h tk) := by
  refine Subscript_ (hv _ fun r h₁ tk₁ e₁ hle hl => wpAny_Slice (hlo _ _ _ e₁ fun vl tk₂ pl => hhi _ _ _ e₁ fun vu tk₃ pu => hst _ _ _ e₁ fun vst tk₄ ps => ?_))
  refine tail_any (ops := ops _ _) (Heap.IsList.typeIs (s := sh s (h₁.push _) tk₄) (hl.push _)) slot_list_getitem.lookup ?_ (hs _ _)
  refine wpAny_getItem_list_slice (s := sh s (h₁.push _) tk₄) (hl.push _) (Heap.IsSliceOf.new ..) pl pu ps h0 ?_ (hsz := ?_)
  · refine q _ _ _ ((e₁.trans (Ext.push _ _)).trans (Ext.push _ _)) (Nat.le_trans hle ?_) (Heap.get?_push_size _ rfl)
    show h₁.objs.size ≤ (h₁.push _).objs.size
    rw [Heap.size_push]; exact Nat.le_succ _
  · rw [List.size_toArray]; exact Nat.le_trans hz (by decide)
theorem prtNone {h₁ : Heap} {Q : Value → Shared → Prop} (q : ∀ v tk', IsPart v none → Q v (sh s h₁ tk')) : wpAny (model prog w) A (evalPart none env) Q E (sh s h₁ tk) := wpAny_pure (q _ _ .none)
theorem prtNeg1 {h₁ : Heap} {p₁ p₂ : Pos} {Q : Value → Shared → Prop} (q : ∀ v tk', IsPart v (some (-1)) → Q v (sh s h₁ tk')) : wpAny (model prog w) A (evalPart (some (.UnaryOp .USub (.Constant (.int 1) 0 p₁) p₂)) env) Q E (sh s h₁ tk) := by
  rw [evalPart_some]
  refine wpAny_UnaryOp (cst (negR ?_))
  exact q _ _ (.int _ _)

theorem addV {a b : Addr} {vs ws : List Value} {Q : Value → Shared → Prop} (hl : h.IsList a vs.toArray) (hb : h.IsList b ws.toArray) (hz : vs.length + ws.length ≤ 2 ^ 20)
    (q : ∀ h', Ext h h' → h'.get? h.objs.size = some (lob (vs ++ ws)) → Q (.ref h.objs.size) (sh s h' tk)) : wpAny (model prog w) A (binaryOp .Add (.ref a) (.ref b)) Q E (sh s h tk) := by
  obtain ⟨⟨cls, dd, data, sl⟩, ho, hc, n, hd⟩ := id hl
  obtain ⟨⟨cls2, dd2, data2, sl2⟩, ho2, hc2, n2, hd2⟩ := id hb
  simp only at hc hd hc2 hd2
  subst hc hd hc2 hd2
  have e : vs.toArray ++ ws.toArray = (vs ++ ws).toArray := by simp
  refine concat_meets (s := sh s h tk) ⟨_, ho, rfl⟩ ⟨_, ho2, rfl⟩ noFill_list_add seq_list_add PySem.F.slot_list_add PySem.F.entry_list_add (PySem.F.args_list_add_2 _ _) (list_addW a b vs.toArray ws.toArray n n2 dd dd2 sl sl2 (by
    rw [List.size_toArray, List.size_toArray]; exact Nat.le_trans hz (by decide))) ⟨ho, ho2, ?_⟩
  rw [e]
  exact q _ (Ext.push _ _) (Heap.get?_push_size _ rfl)

/-- [e] -/
theorem disp1 {e : Expr} {pos : Pos} {Q : Value → Shared → Prop}
    (he : wpAny (model prog w) A (eval e env) (fun v s₁ => Q (.ref s₁.heap.objs.size) { s₁ with heap := s₁.heap.push (lob [v]) }) E (sh s h tk))
    (hse : starEach [e] env = [(false, eval e env)] := by rfl) : wpAny (model prog w) A (eval (.List [e] pos) env) Q E (sh s h tk) := by
  refine wpAny_List ?_
  rw [hse]
  exact Calls.spliced_cons (wpAny_mono he (fun v s₁ h₁ => Calls.spliced_nil ⟨(by decide : 1 ≤ sizeLine), h₁⟩) fun _ _ x => x)
theorem disp0 {pos : Pos} {Q : Value → Shared → Prop} (q : Q (.ref h.objs.size) (sh s (h.push (lob [])) tk)) : wpAny (model prog w) A (eval (.List [] pos) env) Q E (sh s h tk) :=
  wpAny_List (Calls.spliced_nil ⟨by decide, q⟩)

/-- equal lists of numbers -/
theorem eqNL {a b : Addr} {l : List Nat} {Q : Value → Shared → Prop} (ha : NL h a l) (hb : NL h b l) (hu : A.units < cLine) (q : Q (.bool true) (sh s h tk)) : wpAny (model prog w) A (compareOp .Eq (.ref a) (.ref b)) Q E (sh s h tk) := by
  obtain ⟨vs, h1, h2, h3⟩ := ha
  obtain ⟨ws, k1, k2, k3⟩ := hb
  refine SeqAt.eq_listAt (s := sh s h tk) (e := fun _ => true) h1 k1 (by simp [h2, k2]) hu (fun j j1 j2 => ?_) (by rw [show (List.range vs.toArray.size).all (fun _ => true) = true from List.all_eq_true.mpr fun _ _ => rfl]; exact q)
  obtain ⟨t, ht⟩ := h3 j (by simpa [h2] using j1)
  obtain ⟨u, hu⟩ := k3 j (by simpa [h2] using j1)
  have e1 : vs.toArray[j] = .int ((l[j]'(by simpa [h2] using j1) : Nat) : Int) t := by
    have := (List.getElem?_eq_some_iff.mp ht).2
    simpa using this
  have e2 : ws.toArray[j] = .int ((l[j]'(by simpa [h2] using j1) : Nat) : Int) u := by
    have := (List.getElem?_eq_some_iff.mp hu).2
    simpa using this
  rw [e1, e2]
  have := SeqAt.EqAt.int_int (A := A.in1) (s := sh s h tk) ((l[j]'(by simpa [h2] using j1) : Nat) : Int) t ((l[j]'(by simpa [h2] using j1) : Nat) : Int) u
  rwa [beq_self_eq_true] at this


theorem neNL {a b : Addr} {l : List Nat} {Q : Value → Shared → Prop} (ha : NL h a l) (hb : NL h b l) (hu : A.units < cLine) (q : Q (.bool false) (sh s h tk)) : wpAny (model prog w) A (compareOp .NotEq (.ref a) (.ref b)) Q E (sh s h tk) := by
  obtain ⟨vs, h1, h2, h3⟩ := ha
  obtain ⟨ws, k1, k2, k3⟩ := hb
  refine SeqAt.RcNeAt.lists (s := sh s h tk) (e := fun _ => true) h1 k1 (by simp [h2, k2]) hu (fun j j1 j2 => ?_) prog w E Q (by rw [show (List.range vs.toArray.size).all (fun _ => true) = true from List.all_eq_true.mpr fun _ _ => rfl]; exact q)
  obtain ⟨t, ht⟩ := h3 j (by simpa [h2] using j1)
  obtain ⟨u, hu⟩ := k3 j (by simpa [h2] using j1)
  have e1 : vs.toArray[j] = .int ((l[j]'(by simpa [h2] using j1) : Nat) : Int) t := by
    have := (List.getElem?_eq_some_iff.mp ht).2
    simpa using this
  have e2 : ws.toArray[j] = .int ((l[j]'(by simpa [h2] using j1) : Nat) : Int) u := by
    have := (List.getElem?_eq_some_iff.mp hu).2
    simpa using this
  rw [e1, e2]
  have := SeqAt.EqAt.int_int (A := A.in1) (s := sh s h tk) ((l[j]'(by simpa [h2] using j1) : Nat) : Int) t ((l[j]'(by simpa [h2] using j1) : Nat) : Int) u
  rwa [beq_self_eq_true] at this

/-- the iterator of a list -/
theorem listIt {a : Addr} {vs : List Value} {h₁ : Heap} {tk₁ : Nat} {K : Value → Shared → Prop} (hh : A.handled = none) (e : Ext h h₁) (hle : h.objs.size ≤ h₁.objs.size) (hl : h₁.IsList a vs.toArray)
    (k : ∀ I fp Sw h₁ tk₁, Ext h h₁ → h.objs.size ≤ h₁.objs.size → h.objs.size ≤ I → Walks prog w A I fp [I] vs.length (fun i v => vs[i]? = some v) Sw → Sw 0 h₁ → (∀ b ∈ fp, b < h₁.objs.size) → K (.ref I) (sh s h₁ tk₁)) :
    wpAny (model prog w) A (pyIter (.ref a)) K noE (sh s h₁ tk₁) := by
  refine wpAny_pyIter_list (s := sh s h₁ tk₁) hl ?_
  have hlt : a < h₁.objs.size := by obtain ⟨o, ho, _⟩ := hl; exact Heap.lt_size ho
  have hne : a ≠ h₁.objs.size := Nat.ne_of_lt hlt
  have hW := Walks.list (prog := prog) (w := w) (A := A) hh h₁.objs.size a hne vs.toArray
  have hst : h₁.objs.size < (h₁.push { cls := .type "list_iterator", data := .fields #[.ref a, rawInt 0] }).objs.size := by rw [Heap.size_push]; exact Nat.lt_succ_self _
  have hW' : Walks prog w A h₁.objs.size [h₁.objs.size, a] [h₁.objs.size] vs.length (fun i v => vs[i]? = some v) (fun i h => h.IsListIter h₁.objs.size a i ∧ h.IsList a vs.toArray) := by
    have h2 := hW
    simp only [List.size_toArray, List.getElem?_toArray] at h2
    exact h2
  refine k _ _ _ _ _ (e.trans (Ext.push _ _)) (Nat.le_trans hle ?_) hle hW' ⟨⟨_, Heap.get?_push_size _ rfl, rfl, rfl⟩, hl.push _⟩ fun b hb => ?_
  · rw [Heap.size_push]; exact Nat.le_succ _
  · rw [Heap.size_push]
    rcases List.mem_cons.mp hb with rfl | hb
    · exact Nat.lt_succ_self _
    · rw [List.mem_singleton.mp hb]; exact Nat.lt_succ_of_lt hlt
end

/-! int lists -/
def IL (h : Heap) (a : Addr) (l : List Int) : Prop := ∃ vs : List Value, h.IsList a vs.toArray ∧ vs.length = l.length ∧ ∀ i (hi : i < l.length), ∃ t, vs[i]? = some (.int l[i] t)
/-- values that are these ints -/
def Ivs (vs : List Value) (l : List Int) : Prop := vs.length = l.length ∧ ∀ i (hi : i < l.length), ∃ t, vs[i]? = some (.int l[i] t)
theorem Ivs.take {vs : List Value} {l : List Int} (x : Ivs vs l) (n : Nat) : Ivs (vs.take n) (l.take n) := by
  refine ⟨by simp [x.1], fun i hi => ?_⟩
  have hi2 := List.length_take ▸ hi
  obtain ⟨t, ht⟩ := x.2 i (by omega)
  exact ⟨t, by rw [List.getElem?_take, if_pos (by omega), ht]; simp⟩
theorem Ivs.drop {vs : List Value} {l : List Int} (x : Ivs vs l) (n : Nat) : Ivs (vs.drop n) (l.drop n) := by
  refine ⟨by simp [x.1], fun i hi => ?_⟩
  have hi2 := List.length_drop ▸ hi
  obtain ⟨t, ht⟩ := x.2 (n + i) (by omega)
  exact ⟨t, by rw [List.getElem?_drop, ht]; simp⟩
theorem Ivs.append {vs ws : List Value} {l k : List Int} (x : Ivs vs l) (y : Ivs ws k) : Ivs (vs ++ ws) (l ++ k) := by
  refine ⟨by simp [x.1, y.1], fun i hi => ?_⟩
  have hi2 := List.length_append ▸ hi
  by_cases h : i < l.length
  · obtain ⟨t, ht⟩ := x.2 i h
    exact ⟨t, by rw [List.getElem?_append_left (by rw [x.1]; exact h), ht, List.getElem_append_left h]⟩
  · obtain ⟨t, ht⟩ := y.2 (i - l.length) (by omega)
    exact ⟨t, by rw [List.getElem?_append_right (by rw [x.1]; omega), x.1, ht, List.getElem_append_right (by omega)]⟩
theorem Ivs.cons {v : Value} {vs : List Value} {x : Int} {l : List Int} {t : Tok} (hv : v = .int x t) (y : Ivs vs l) : Ivs (v :: vs) (x :: l) := by
  refine ⟨by simp [y.1], fun i hi => ?_⟩
  cases i with
  | zero => exact ⟨t, by simp [hv]⟩
  | succ i => obtain ⟨u, hu⟩ := y.2 i (by simpa using hi); exact ⟨u, by simpa using hu⟩
theorem Ivs.nil : Ivs [] [] := ⟨rfl, fun _ hi => nomatch hi⟩
/-- values that are these numbers -/
def Nvs (vs : List Value) (l : List Nat) : Prop := vs.length = l.length ∧ ∀ i (hi : i < l.length), ∃ t, vs[i]? = some (.int (l[i] : Nat) t)
theorem Nvs.nl {h : Heap} {a : Addr} {vs : List Value} {l : List Nat} (x : Nvs vs l) (hl : h.IsList a vs.toArray) : NL h a l := ⟨vs, hl, x.1, x.2⟩
theorem Nvs.cons {v : Value} {vs : List Value} {x : Nat} {l : List Nat} {t : Tok} (hv : v = .int (x : Nat) t) (y : Nvs vs l) : Nvs (v :: vs) (x :: l) := by
  refine ⟨by simp [y.1], fun i hi => ?_⟩
  cases i with
  | zero => exact ⟨t, by simp [hv]⟩
  | succ i => obtain ⟨u, hu⟩ := y.2 i (by simpa using hi); exact ⟨u, by simpa using hu⟩
theorem Nvs.oct : ∀ {vs : List Value} {l : List Nat}, Nvs vs l → Oct l → OctVals vs l
  | [], [], _, _ => trivial
  | [], _ :: _, x, _ => by have := x.1; simp at this
  | _ :: _, [], x, _ => by have := x.1; simp at this
  | v :: vs, n :: l, x, o => by
    obtain ⟨t, ht⟩ := x.2 0 (by simp)
    refine ⟨⟨t, by simpa using ht⟩, o n (by simp), Nvs.oct ⟨by have := x.1; simpa using this, fun i hi => ?_⟩ fun y hy => o y (by simp [hy])⟩
    obtain ⟨u, hu⟩ := x.2 (i + 1) (by simpa using hi)
    exact ⟨u, by simpa using hu⟩
end Mine
namespace Mine

local macro_rules | `(tactic| walk_at "m") => `(tactic| first
  | with_reducible refine wpAny_execs_cons ?_
  | with_reducible refine wpAny_execs_nil ?_
  | with_reducible refine wpAny_If ?_
  | with_reducible refine wpAny_Return_some ?_
  | (with_reducible refine wpAny_Assign_Name (hs := ?hs) ?_; (case hs => with_unfolding_all rfl))
  | with_reducible refine isTrue_or ?_
  | with_reducible refine isTrue_or_nil ?_
  | with_reducible refine isTrue_and ?_
  | with_reducible refine isTrue_and_nil ?_
  | (with_reducible refine wpAny_isTrue_Compare1 (hm := ?hm) ?_; (case hm => with_unfolding_all rfl))
  | with_reducible refine wpAny_BinOp ?_
  | (with_reducible refine wpAny_Compare1 (hm := ?hm) ?_; (case hm => with_unfolding_all rfl))
  | with_reducible refine wpAny_UnaryOp ?_
  | with_reducible refine Subscript_ ?_
  | (with_reducible refine wpAny_AugAssign_Subscript_any (ha := ?ha) ?_; (case ha => intros; rfl))
  | with_reducible refine cst ?_
  | with_reducible refine addR ?_
  | with_reducible refine subR ?_
  | with_reducible refine xorR ?_
  | with_reducible refine ixorR ?_
  | with_reducible refine eqR ?_
  | with_reducible refine neR ?_
  | with_reducible refine gtR ?_
  | with_reducible refine negR ?_
  | with_reducible refine truR ?_)

/-! the law: its loops -/
abbrev lawEnv (an : Option Addr) (pm : Value) (c : Addr) (doc : Value) (L f : Addr) : Env := callEnv (fdMk sLaw.1 .none an pm (.ref c) doc) L f
def lawBody : { x : List Stmt // ∀ an pm c doc, (fdMk sLaw.1 .none an pm c doc).body = .stmts x } := ⟨_, fun _ _ _ _ => rfl⟩
def sWhile : { x : Stmt // lawBody.1[8]? = some x } := ⟨_, rfl⟩
def sFor1 : { x : Stmt // lawBody.1[10]? = some x } := ⟨_, rfl⟩
def sFor2 : { x : Stmt // lawBody.1[14]? = some x } := ⟨_, rfl⟩

/-- a list of digits -/
def DL (g : Heap) (vs : List Value) (ds : List (List Nat)) : Prop := vs.length = ds.length ∧ ∀ i (hi : i < ds.length), ∃ r, vs[i]? = some (.ref r) ∧ NL g r ds[i]
theorem DL.ext {g g' : Heap} {vs : List Value} {ds : List (List Nat)} (x : DL g vs ds) (e : Ext g g') : DL g' vs ds := ⟨x.1, fun i hi => let ⟨r, a, b⟩ := x.2 i hi; ⟨r, a, b.ext e⟩⟩
theorem DL.push {g : Heap} {vs : List Value} {ds : List (List Nat)} {r : Addr} {d : List Nat} (x : DL g vs ds) (hr : NL g r d) : DL g (vs ++ [.ref r]) (ds ++ [d]) := by
  refine ⟨by simp [x.1], fun i hi => ?_⟩
  have hi2 := List.length_append ▸ hi
  by_cases h : i < ds.length
  · obtain ⟨q, a, b⟩ := x.2 i h
    exact ⟨q, by rw [List.getElem?_append_left (by rw [x.1]; exact h), a], by rw [List.getElem_append_left h]; exact b⟩
  · have hi3 : i = ds.length := by simp at hi2; omega
    subst hi3
    exact ⟨r, by rw [List.getElem?_append_right (by rw [x.1]; exact Nat.le_refl _), x.1]; simp, by simpa using hr⟩

theorem St.neNs {g h : Heap} {L : Addr} {m : Str → Option Value} {N : List (Addr × Obj)} (S : St g L m N h) {x : Addr} {o : Obj} (hx : h.get? x = some o) (hd : ∀ es ep, o.data ≠ .dict es ep) : x ≠ L := by
  rintro rfl
  obtain ⟨oL, es, ep, hL, hdL, _⟩ := S.ns
  rw [hx] at hL
  cases hL
  exact hd _ _ hdL

theorem St.ne1 {g h : Heap} {L D : Addr} {m : Str → Option Value} {o' : Obj} (S : St g L m [(D, o')] h) {x : Addr} {o : Obj} (hx : h.get? x = some o) (hne : o ≠ o') : x ∉ [(D, o')].map (·.1) := by
  intro hm
  obtain rfl : x = D := by simpa using hm
  have := S.get (a := x) (List.mem_singleton.mpr rfl)
  rw [hx] at this
  exact hne (Option.some.inj this)

theorem NL_of_ba {h : Heap} {a : Addr} {l : List Nat} (o : Oct l) {acc : Array Value} {c' : Nat} (hacc : h.get? a = some { cls := .type "list", dict := none, data := .seq acc c', slots := #[] })
    (hi : ItemsOf (fun i v => ∃ t, v = .int ((((u8 l).getD i 0).toNat : Nat) : Int) t) acc (u8 l).size) : NL h a l := by
  rw [u8_size] at hi
  refine NL.of_items ⟨_, hacc, rfl, _, rfl⟩ hi.1 fun i hlt => ?_
  have hlt2 : i < acc.size := by rw [hi.1]; exact hlt
  obtain ⟨t, ht⟩ := hi.2 i acc[i] (by simp [hlt2])
  refine ⟨t, ?_⟩
  rw [Array.getElem?_eq_getElem hlt2, ht, u8_getD o]
  simp [hlt]

/-- all names but those of a turn -/
def SameW (m m' : Str → Option Value) : Prop := ∀ x : Str, x ≠ "left" → x ≠ "quotient" → x ≠ "rest" → m' x = m x

theorem law_while {w : World} {A : Around} {s : Shared} {g h : Heap} {tk : Nat} {L f : Addr} {m : Str → Option Value} {fs : Fs} {mg mb : Str → Option Value} {an : Option Addr} {pm doc : Value} {c : Addr} {Q : Flow → Shared → Prop}
    {pu pb D : Addr} {u b : List Nat} {ts : Tok}
    (W : Wd fs mg mb g) (hR : Room A 3) (S : St g L m [(D, lob [])] h) (hu : g.get? pu = some (bl u)) (hb : g.get? pb = some (bl b)) (ou : Oct u) (ob : Oct b) (hul : u.length ≤ 14) (hb2 : 2 ≤ b.length) (hb5 : b.length ≤ 5)
    (nl : m "left" = some (.ref pu)) (nb : m "base" = some (.ref pb)) (nd : m "digits" = some (.ref D)) (nz : m "size" = some (.int ((b.length - 1 : Nat) : Int) ts))
    (q : ∀ g' h' tk' m' vs n, Ext g g' → St g' L m' [(D, { cls := .type "list", data := .seq vs.toArray n })] h' → DL g' vs (digs b u) → SameW m m' → Q .next (sh s h' tk')) :
    wpC (model pw w) A (exec sWhile.1 (lawEnv an pm c doc L f)) Q (sh s h tk) := by
  refine wpC_While (flowC_whileLoop (fun k s' => ∃ h' tk' m' g' vs n u' ds pl, s' = sh s h' tk' ∧ Ext g g' ∧ St g' L m' [(D, { cls := .type "list", data := .seq vs.toArray n })] h' ∧ k = u'.length ∧ DL g' vs ds ∧
    ds ++ digs b u' = digs b u ∧ ds.length + u'.length ≤ 14 ∧ Oct u' ∧ m' "left" = some (.ref pl) ∧ g'.get? pl = some (bl u') ∧ SameW m m') ?_ u.length
    ⟨h, tk, m, g, [], 0, u, [], pu, rfl, Ext.refl _, S, rfl, ⟨rfl, fun _ hi => nomatch hi⟩, rfl, by simpa using hul, ou, nl, hu, fun _ _ _ _ => rfl⟩)
  rintro k s' ⟨h₁, tk₁, m₁, g₁, vs, n, u₁, ds, pl, rfl, e₁, S₁, rfl, hds, hgo, hlen, ou₁, m1, hpl, hsame⟩
  have W₁ := W.ext e₁
  have hb₁ := e₁ _ _ hb
  have m2 : m₁ "base" = some (.ref pb) := (hsame _ (by decide) (by decide) (by decide)).trans nb
  have m3 : m₁ "digits" = some (.ref D) := (hsame _ (by decide) (by decide) (by decide)).trans nd
  have m4 : m₁ "size" = some (.int ((b.length - 1 : Nat) : Int) ts) := (hsame _ (by decide) (by decide) (by decide)).trans nz
  walk_at "m"
  refine Call_b1 (fun K k => nmB S₁ W₁.gl W₁.oLen W₁.bLen k) ?_
  refine nm S₁ (by exact m1) ?_
  refine lenL (l := u₁) (S₁.keep _ _ hpl) (by omega) ?_
  iterate 3 walk_at "m"
  by_cases h0 : u₁.length = 0
  · rw [if_neg (by simp [h0])]
    have : u₁ = [] := List.length_eq_zero_iff.mp h0
    subst this
    rw [digs_nil, List.append_nil] at hgo
    exact q g₁ h₁ _ m₁ vs n e₁ S₁ (hgo ▸ hds) hsame
  rw [if_pos (by simp; omega)]
  -- quotient, rest = gf_poly_div(left, base)
  refine wpC_execs_cons (wpC_Assign_Tuple (wpC_Call_fn2 (f := fs.div) (fun K k => nmG S₁ W₁.gl W₁.nDiv k) (.of (nm S₁ (by exact m1) (.of (nm S₁ (by exact m2) ⟨?_, ?_⟩))))))
  · obtain ⟨o, fd, h1, h2⟩ := W₁.fDiv.obj
    exact ⟨o, fd, S₁.keep _ _ h1, h2⟩
  refine gf_poly_div_ok (s := sh s h₁ _) (W₁.ext S₁.keep) (hR.le (by decide)) (S₁.keep _ _ hpl) (S₁.keep _ _ hb₁) ou₁ ob (by omega) (by omega) hb2 fun h₂ tk₂ t x y e₂ ht hx hy => ?_
  refine wpAny_assign_Tuple (s := sh s h₂ tk₂) (items := #[.ref x, .ref y]) hR.handled ⟨_, ht, rfl, _, rfl⟩ rfl rfl fun h₃ e₃ => ?_
  have e₃' : Ext h₂ h₃ := fun b o hb => e₃ b o (Nat.ne_of_lt (Heap.lt_size hb)) hb
  obtain ⟨g₂, eg, S₃, hin⟩ := S₁.grow (e₂.trans e₃')
  have hxg : g₂.get? x = some (bl (divQ b u₁)) := hin _ _ (e₃' _ _ hx) (S₃.neNs (e₃' _ _ hx) (fun _ _ e => nomatch e)) (by
    exact S₃.ne1 (e₃' _ _ hx) fun e => nomatch congrArg Obj.data e)
  have hyg : g₂.get? y = some (bl (divR b u₁)) := hin _ _ (e₃' _ _ hy) (S₃.neNs (e₃' _ _ hy) (fun _ _ e => nomatch e)) (by
    exact S₃.ne1 (e₃' _ _ hy) fun e => nomatch congrArg Obj.data e)
  have W₂ := W₁.ext eg
  have hpl₂ := eg _ _ hpl
  have hds₂ := hds.ext eg
  have hql := divQ_length b u₁
  have hrl := divR_length b u₁
  clear hin
  show wpAny _ _ (assignInOrder [assign (.Name "quotient" _) (lawEnv an pm c doc L f), assign (.Name "rest" _) (lawEnv an pm c doc L f)] [.ref x, .ref y]) _ _ _
  refine assignInOrder_cons (wpAny_assign_Name (str S₃ fun h₄ S₄ => assignInOrder_cons (wpAny_assign_Name (str S₄ fun h₅ S₅ => assignInOrder_nil ?_))))
  dsimp only
  -- if len(rest) != min(len(left), size) or ..
  refine .of ?_
  iterate 4 walk_at "m"
  refine Call_b1 (fun K k => nmB S₅ W₂.gl W₂.oLen W₂.bLen k) ?_
  refine nm S₅ (by rfl) ?_
  refine lenL (l := divR b u₁) (S₅.keep _ _ hyg) (by omega) ?_
  refine Call_b2 (fun K k => nmB S₅ W₂.gl W₂.oMin W₂.bMin k) ?_
  refine Call_b1 (fun K k => nmB S₅ W₂.gl W₂.oLen W₂.bLen k) ?_
  refine nm S₅ (by exact m1) ?_
  refine lenL (l := u₁) (S₅.keep _ _ hpl₂) (by omega) ?_
  refine nm S₅ (by exact m4) ?_
  refine min_two_ints (s := sh s h₅ _) hR.handled fun h₆ tk₆ e₆ => ?_
  have S₆ := S₅.ext e₆
  have hm : ∀ tq, ∃ tm, (if ((b.length - 1 : Nat) : Int) < ((u₁.length : Nat) : Int) then Value.int ((b.length - 1 : Nat) : Int) ts else Value.int ((u₁.length : Nat) : Int) tq) = Value.int (((divR b u₁).length : Nat) : Int) tm := by
    intro tq
    by_cases hlt : b.length - 1 < u₁.length
    · exact ⟨_, by rw [if_pos (by omega), show (divR b u₁).length = b.length - 1 by omega]⟩
    · exact ⟨_, by rw [if_neg (by omega), show (divR b u₁).length = u₁.length by omega]⟩
  rw [(hm _).choose_spec]
  iterate 2 walk_at "m"
  rw [if_neg (by simp)]
  iterate 2 walk_at "m"
  refine Call_b1 (fun K k => nmB S₆ W₂.gl W₂.oLen W₂.bLen k) ?_
  refine nm S₆ (by rfl) ?_
  refine lenL (l := divQ b u₁) (S₆.keep _ _ hxg) (by omega) ?_
  walk_at "m"
  refine Call_b1 (fun K k => nmB S₆ W₂.gl W₂.oLen W₂.bLen k) ?_
  refine nm S₆ (by exact m1) ?_
  refine lenL (l := u₁) (S₆.keep _ _ hpl₂) (by omega) ?_
  refine Call_b1 (fun K k => nmB S₆ W₂.gl W₂.oLen W₂.bLen k) ?_
  refine nm S₆ (by rfl) ?_
  refine lenL (l := divR b u₁) (S₆.keep _ _ hyg) (by omega) ?_
  iterate 3 walk_at "m"
  rw [if_neg (by rw [show ((u₁.length : Nat) : Int) - (((divR b u₁).length : Nat) : Int) = (((divQ b u₁).length : Nat) : Int) by omega]; simp)]
  walk_at "m"
  simp only [Bool.false_eq_true, if_false]
  iterate 2 walk_at "m"
  -- digits.append(list(rest))
  refine wpAny_Expr (wpAny_Call_append (by rfl) (by rfl) (by rfl) (by rfl) ?_)
  refine nm S₆ (by exact m3) ?_
  refine ⟨D, vs.toArray, rfl, ⟨_, _, S₆.get (a := D) (List.mem_singleton.mpr rfl), rfl, rfl, rfl⟩, ?_⟩
  refine Call_t1 (fun K k => nmB S₆ W₂.gl W₂.oList W₂.bList k) ?_
  refine nm S₆ (by rfl) ?_
  refine ba_list (s := sh s h₆ _) (b := u8 (divR b u₁)) hR.handled (S₆.keep _ _ hyg) (by rw [u8_size]; omega) fun h₇ tk₇ acc c' e₇ hacc hitems => ?_
  have hnl := NL_of_ba (divR_oct b ou₁) hacc hitems
  obtain ⟨hr1, hr2⟩ := S₆.apart (Nat.le_refl _)
  obtain ⟨g₃, eg₃, S₇, hin⟩ := S₆.grow e₇
  have hnl₃ : NL g₃ h₆.objs.size (divR b u₁) := by
    obtain ⟨vs', ⟨o, ho, r⟩, r2⟩ := hnl
    exact ⟨vs', ⟨o, hin _ _ ho hr1 hr2, r⟩, r2⟩
  have hvs : vs.length ≤ 14 := by rw [hds.1]; omega
  refine wpAny_list_append_plain (s := sh s h₇ tk₇) (items := vs.toArray) ⟨_, S₇.get (a := D) (List.mem_singleton.mpr rfl)⟩ (fun h₈ hp₈ hs₈ => ?_) (by rw [List.size_toArray]; exact Nat.le_trans hvs (by decide))
  obtain ⟨n', hp₈⟩ := hp₈
  have ev : vs.toArray.push (Value.ref h₆.objs.size) = (vs ++ [Value.ref h₆.objs.size]).toArray := by simp
  rw [ev] at hp₈
  have S₈ := S₇.upd1 (h' := h₈) (fun b x hb e => (hs₈.2 b hb).trans e) hp₈
  show wpAny _ _ _ _ _ _
  iterate 2 walk_at "m"
  refine nm S₈ (by rfl) ?_
  refine str S₈ fun h₉ S₉ => ?_
  dsimp only
  walk_at "m"
  have hdc := digs_cons b u₁ hb2 h0
  refine ⟨(divQ b u₁).length, by omega, h₉, _, _, g₃, _, n', divQ b u₁, ds ++ [divR b u₁], x, rfl, (e₁.trans eg).trans eg₃, S₉, rfl, (hds₂.ext eg₃).push hnl₃, ?_, ?_, divQ_oct b ou₁, by rfl, eg₃ _ _ hxg, ?_⟩
  · rw [← hgo, hdc]; simp
  · simp only [List.length_append, List.length_singleton]; omega
  · intro z z1 z2 z3
    simp only [up, if_neg z1, if_neg z2, if_neg z3]
    exact hsame z z1 z2 z3
end Mine
namespace Mine

local macro_rules | `(tactic| walk_at "m") => `(tactic| first
  | with_reducible refine wpAny_execs_cons ?_
  | with_reducible refine wpAny_execs_nil ?_
  | with_reducible refine wpAny_If ?_
  | with_reducible refine wpAny_Return_some ?_
  | (with_reducible refine wpAny_Assign_Name (hs := ?hs) ?_; (case hs => with_unfolding_all rfl))
  | with_reducible refine isTrue_or ?_
  | with_reducible refine isTrue_or_nil ?_
  | with_reducible refine isTrue_and ?_
  | with_reducible refine isTrue_and_nil ?_
  | (with_reducible refine wpAny_isTrue_Compare1 (hm := ?hm) ?_; (case hm => with_unfolding_all rfl))
  | with_reducible refine wpAny_BinOp ?_
  | (with_reducible refine wpAny_Compare1 (hm := ?hm) ?_; (case hm => with_unfolding_all rfl))
  | with_reducible refine wpAny_UnaryOp ?_
  | with_reducible refine Subscript_ ?_
  | (with_reducible refine wpAny_AugAssign_Subscript_any (ha := ?ha) ?_; (case ha => intros; rfl))
  | with_reducible refine cst ?_
  | with_reducible refine addR ?_
  | with_reducible refine subR ?_
  | with_reducible refine xorR ?_
  | with_reducible refine ixorR ?_
  | with_reducible refine eqR ?_
  | with_reducible refine neR ?_
  | with_reducible refine gtR ?_
  | with_reducible refine negR ?_
  | with_reducible refine truR ?_)

theorem slicePick_rev (vs : List Value) : slicePick vs.toArray none none (some (-1)) = vs.reverse.toArray := by
  unfold slicePick
  have hb : sliceBounds none none (some (-1)) vs.toArray.size = ((vs.length : Int) - 1, -1, -1) := by
    simp [sliceBounds]
  rw [hb]
  congr 1
  simp only [sliceRange]
  have hc : (if (-1 : Int) > 0 then (if (vs.length : Int) - 1 < -1 then (-1 - ((vs.length : Int) - 1) + -1 - 1) / -1 else 0) else (if (vs.length : Int) - 1 > -1 then ((vs.length : Int) - 1 - -1 - -1 - 1) / (- -1) else 0)).toNat = vs.length := by
    rw [if_neg (by decide)]
    by_cases h : vs.length = 0
    · rw [if_neg (by omega), h]; rfl
    · rw [if_pos (by omega), show ((vs.length : Int) - 1 - -1 - -1 - 1) = vs.length by omega, show (- -1 : Int) = 1 by decide, Int.ediv_one]; omega
  rw [hc]
  apply List.ext_getElem?
  intro i
  have key : ∀ n, n ≤ vs.length → ((List.range n).map fun k : Nat => ((vs.length : Int) - 1 + -1 * (k : Int)).toNat).filterMap (vs.toArray[·]?) = vs.reverse.take n := by
    intro n
    induction n with
    | zero => intro _; simp
    | succ n ih =>
      intro hn
      rw [List.range_succ, List.map_append, List.filterMap_append, ih (by omega), List.take_add_one]
      congr 1
      have e : ((vs.length : Int) - 1 + -1 * (n : Int)).toNat = vs.length - 1 - n := by omega
      simp only [List.map_cons, List.map_nil, List.filterMap_cons, List.filterMap_nil, e]
      rw [List.getElem?_reverse (by omega)]
      have hlt : vs.length - 1 - n < vs.length := by omega
      simp [hlt]
  rw [key _ (Nat.le_refl _), List.take_of_length_le (by simp)]

section
variable {prog : Program} {w : World} {A : Around} {E : Value → Shared → Prop} {s : Shared} {g h : Heap} {tk : Nat} {env : Env} {L : Addr} {m : Str → Option Value} {N : List (Addr × Obj)}
/-- a loop over a list that is made there -/
theorem For_listE {x : Str} {px pos : Pos} {e : Expr} {body : List Stmt} {Q : Flow → Shared → Prop} {vs : List Value}
    (S : St g L m N h) (hh : A.handled = none)
    (he : ∀ K : Value → Shared → Prop, (∀ a h₁ tk₁, Ext h h₁ → h.objs.size ≤ a → h₁.IsList a vs.toArray → K (.ref a) (sh s h₁ tk₁)) → wpAny (model prog w) A (eval e env) K noE (sh s h tk))
    (J : Nat → (Str → Option Value) → List (Addr × Obj) → Prop) (j0 : J 0 m N)
    (turn : ∀ i v m₁ N₁ g₁ h₁ tk₁, vs[i]? = some v → J i m₁ N₁ → N₁.map (·.1) = N.map (·.1) → Ext g g₁ → St g₁ L (up m₁ x v) N₁ h₁ →
      wpAny (model prog w) A (execs body env) (Turn s g₁ L (N.map (·.1)) (J (i + 1))) noE (sh s h₁ tk₁))
    (done : ∀ m₁ N₁ h₁ tk₁, J vs.length m₁ N₁ → N₁.map (·.1) = N.map (·.1) → St g L m₁ N₁ h₁ → Q .next (sh s h₁ tk₁))
    (hs : ∀ x, foldedSetIterable e env x = pure x := by intro _; rfl)
    (hk : env.scope.kind = .function := by rfl) (hx : env.kindOf x = some .local := by rfl) (hLo : env.locals = L := by rfl) :
    wpAny (model prog w) A (exec (.For (.Name x px) e body [] pos) env) Q noE (sh s h tk) := by
  refine wpAny_For (he _ fun a h₀ tk' e₀ hle hl => ?_) hs
  have hap := S.apart hle
  have S₀ := S.ext e₀
  refine wpAny_pyIter_list (s := sh s h₀ tk') hl ?_
  have hlt : a < h₀.objs.size := by obtain ⟨o, ho, _⟩ := hl; exact Heap.lt_size ho
  have hne : a ≠ h₀.objs.size := Nat.ne_of_lt hlt
  have hsz : vs.toArray.size = vs.length := by simp
  refine forW (Walks.list hh h₀.objs.size a hne vs.toArray) (S₀.ext (Ext.push h₀ _)) ?_ ?_ ?_ ⟨⟨_, Heap.get?_push_size _ rfl, rfl, rfl⟩, hl.push _⟩ J j0 (fun i v m₁ N₁ g₁ h₁ tk₁ hi hP j ha hg S₁ => ?_) (by rw [hsz]; exact done) hk hx hLo
  · intro hm
    rcases List.mem_cons.mp hm with q | q
    · have := S₀.ns.lt; rw [q] at this; exact absurd this (Nat.lt_irrefl _)
    · exact hap.1 (List.mem_singleton.mp q).symm
  · intro b hb hm
    rcases List.mem_cons.mp hm with q | q
    · obtain ⟨p, hp, rfl⟩ := List.mem_map.mp hb
      have := S₀.lt hp; rw [q] at this; exact absurd this (Nat.lt_irrefl _)
    · rw [List.mem_singleton.mp q] at hb; exact hap.2 hb
  · intro b hb
    rw [List.mem_singleton.mp hb]; exact S₀.fresh
  · exact turn i v m₁ N₁ g₁ h₁ tk₁ (by simpa using hP) j ha hg S₁

/-- the same with clean turns -/
theorem For_listC {x : Str} {px pos : Pos} {e : Expr} {body : List Stmt} {Q : Flow → Shared → Prop} {vs : List Value}
    (S : St g L m [] h) (hh : A.handled = none)
    (he : ∀ K : Value → Shared → Prop, (∀ a h₁ tk₁, Ext h h₁ → h.objs.size ≤ a → h₁.IsList a vs.toArray → K (.ref a) (sh s h₁ tk₁)) → wpAny (model prog w) A (eval e env) K noE (sh s h tk))
    (J : Nat → Heap → (Str → Option Value) → Prop) (jk : ∀ i g₁ g₂ m, Ext g₁ g₂ → J i g₁ m → J i g₂ m)
    (jh : ∀ i I a k g₁ m, g₁.IsListIter I a k → J i g₁ m → J i (hideL g₁ [I]) m) (j0 : J 0 g m)
    (turn : ∀ i v m₁ g₁ h₁ tk₁, vs[i]? = some v → J i g₁ m₁ → Ext g g₁ → St g₁ L (up m₁ x v) [] h₁ →
      wpC (model prog w) A (execs body env) (fun f s₂ => f = .next ∧ ∃ h₂ tk₂ m₂ g₂, s₂ = sh s h₂ tk₂ ∧ Ext g₁ g₂ ∧ St g₂ L m₂ [] h₂ ∧ J (i + 1) g₂ m₂) (sh s h₁ tk₁))
    (done : ∀ m₁ g₁ h₁ tk₁, J vs.length g₁ m₁ → Ext g g₁ → St g₁ L m₁ [] h₁ → Q .next (sh s h₁ tk₁))
    (hs : ∀ x, foldedSetIterable e env x = pure x := by intro _; rfl)
    (hk : env.scope.kind = .function := by rfl) (hx : env.kindOf x = some .local := by rfl) (hLo : env.locals = L := by rfl) :
    wpC (model prog w) A (exec (.For (.Name x px) e body [] pos) env) Q (sh s h tk) := by
  refine wpC_For (he _ fun a h₀ tk' e₀ hle hl => ?_) hs
  have hap := S.apart hle
  have S₀ := S.ext e₀
  refine wpAny_pyIter_list (s := sh s h₀ tk') hl ?_
  have hlt : a < h₀.objs.size := by obtain ⟨o, ho, _⟩ := hl; exact Heap.lt_size ho
  have hne : a ≠ h₀.objs.size := Nat.ne_of_lt hlt
  have hsz : vs.toArray.size = vs.length := by simp
  refine forWC (Walks.list hh h₀.objs.size a hne vs.toArray) (S₀.ext (Ext.push h₀ _)) ?_ ?_ ?_ ⟨⟨_, Heap.get?_push_size _ rfl, rfl, rfl⟩, hl.push _⟩ J jk (fun i g₁ m hsw j => jh i _ _ _ g₁ m hsw.1 j) j0 rfl (fun i v m₁ g₁ h₁ tk₁ hi hP j hg S₁ => ?_) (by rw [hsz]; exact done) hk hx hLo
  · intro hm
    rcases List.mem_cons.mp hm with q | q
    · have := S₀.ns.lt; rw [q] at this; exact absurd this (Nat.lt_irrefl _)
    · exact hap.1 (List.mem_singleton.mp q).symm
  · intro b hb hm
    exact (List.not_mem_nil hb).elim
  · intro b hb
    rw [List.mem_singleton.mp hb]; exact S₀.fresh
  · exact turn i v m₁ g₁ h₁ tk₁ (by simpa using hP) j hg S₁
end

theorem DL.reverse {g : Heap} {vs : List Value} {ds : List (List Nat)} (x : DL g vs ds) : DL g vs.reverse ds.reverse := by
  refine ⟨by simp [x.1], fun i hi => ?_⟩
  have hi2 := List.length_reverse ▸ hi
  obtain ⟨r, a, b⟩ := x.2 (ds.length - 1 - i) (by omega)
  refine ⟨r, ?_, by rw [List.getElem_reverse]; exact b⟩
  rw [List.getElem?_reverse (by rw [x.1]; exact hi2), x.1]; exact a
theorem DL.take {g : Heap} {vs : List Value} {ds : List (List Nat)} (x : DL g vs ds) (n : Nat) : DL g (vs.take n) (ds.take n) := by
  refine ⟨by simp [x.1], fun i hi => ?_⟩
  have hi2 := List.length_take ▸ hi
  obtain ⟨r, a, b⟩ := x.2 i (by omega)
  exact ⟨r, by rw [List.getElem?_take, if_pos (by omega), a], by rw [List.getElem_take]; exact b⟩

def whGo (b : List Nat) (ds : List (List Nat)) : Nat := ds.foldl (fun w d => prodN w (numL b) 20 ^^^ numL d) 0
theorem whole_rev (b : List Nat) (ds : List (List Nat)) : whGo b ds.reverse = whole b ds := by simp [whGo, whole]

def SameF (m m' : Str → Option Value) : Prop := ∀ x : Str, x ≠ "whole" → x ≠ "digit" → m' x = m x

theorem law_for1 {w : World} {A : Around} {s : Shared} {g h : Heap} {tk : Nat} {L f : Addr} {m : Str → Option Value} {fs : Fs} {mg mb : Str → Option Value} {an : Option Addr} {pm doc : Value} {c : Addr} {Q : Flow → Shared → Prop}
    {D pbh : Addr} {vs : List Value} {ds : List (List Nat)} {bh : List Nat} {tw : Tok}
    (W : Wd fs mg mb g) (hR : Room A 3) (S : St g L m [] h) (hD : g.IsList D vs.toArray) (hds : DL g vs ds) (hbh : NL g pbh bh) (hdl : ds.length ≤ 14) (hbl : bh.length ≤ 5)
    (nw : m "whole" = some (.int 0 tw)) (nd : m "digits" = some (.ref D)) (nb : m "behind" = some (.ref pbh))
    (q : ∀ h' tk' m' t, St g L m' [] h' → SameF m m' → m' "whole" = some (.int (whole (1 :: bh) ds : Nat) t) → Q .next (sh s h' tk')) :
    wpAny (model pw w) A (exec sFor1.1 (lawEnv an pm c doc L f)) Q noE (sh s h tk) := by
  have hrev := hds.reverse
  refine For_listE (vs := vs.reverse) S hR.handled (fun K k => ?_) (fun i m' N => N = [] ∧ SameF m m' ∧ ∃ t, m' "whole" = some (.int (whGo (1 :: bh) (ds.reverse.take i) : Nat) t)) ⟨rfl, fun _ _ _ => rfl, _, nw⟩ ?_ ?_
  · refine slcV (vs := vs) (fun K k => nm S (by exact nd) (k _ _ _ (Ext.refl _) (Nat.le_refl _) (IsList_ext hD S.keep))) (fun h₁ tk K e k => prtNone k) (fun h₁ tk K e k => prtNone k) (fun h₁ tk K e k => prtNeg1 k) (by decide) (by rw [hds.1]; omega) fun a h' tk' e hle ha => ?_
    rw [slicePick_rev] at ha
    exact k a h' tk' e hle (lob_is ha)
  · rintro i v m₁ N₁ g₁ h₁ tk₁ hv ⟨rfl, hsm, tw', hw⟩ _ eg S₁
    have hi : i < ds.reverse.length := by rw [← hrev.1]; exact (List.getElem?_eq_some_iff.mp hv).1
    obtain ⟨r, hr, hnl⟩ := hrev.2 i hi
    rw [hr] at hv
    obtain rfl := Option.some.inj hv
    have W₁ := W.ext eg
    have nb₁ : m₁ "behind" = some (.ref pbh) := (hsm _ (by decide) (by decide)).trans nb
    obtain ⟨oN, fdN, hoN, hdN⟩ := W₁.fNum.obj
    obtain ⟨oP, fdP, hoP, hdP⟩ := W₁.fProd.obj
    iterate 3 walk_at "m"
    refine Call_f3 (o := oP) (fd := fdP) (f := fs.prod) (fun K k => nmG S₁ W₁.gl W₁.nProd k) ?_
    refine nm S₁ (by exact hw) ?_
    refine Call_f1 (o := oN) (fd := fdN) (f := fs.num) (fun K k => nmG S₁ W₁.gl W₁.nNum k) ?_
    walk_at "m"
    refine disp1 (cst ?_)
    have S₂ := S₁.ext (Ext.push h₁ (lob [Value.int 1 tk₁]))
    refine nm S₂ (by exact nb₁) ?_
    obtain ⟨ws, hws, hwl, hwv⟩ := (hbh.ext eg).ext S₂.keep
    refine addV (vs := [Value.int 1 tk₁]) (ws := ws) (lob_is (Heap.get?_push_size _ rfl)) hws (by simp [hwl]; omega) fun h₃ e₃ hl₃ => ?_
    have S₃ := S₂.ext e₃
    refine ⟨⟨S₃.keep _ _ hoN, hdN⟩, ?_⟩
    refine law_number_ok (s := sh s h₃ _) (u := 1 :: bh) (W₁.ext S₃.keep) (hR.le (by decide)) (Nvs.nl (Nvs.cons (t := tk₁) (x := 1) rfl ⟨hwl, hwv⟩) (lob_is hl₃)) fun v h₄ tk₄ e₄ hv₄ => ?_
    obtain ⟨t₄, rfl⟩ := hv₄
    have S₄ := S₃.ext e₄
    refine cst ?_
    refine ⟨⟨S₄.keep _ _ hoP, hdP⟩, ?_⟩
    refine law_product_ok (s := sh s h₄ _) (size := 20) (W₁.ext S₄.keep) (hR.le (by decide)) (by decide) fun v h₅ tk₅ e₅ hv₅ => ?_
    obtain ⟨t₅, rfl⟩ := hv₅
    have S₅ := S₄.ext e₅
    refine Call_f1 (o := oN) (fd := fdN) (f := fs.num) (fun K k => nmG S₅ W₁.gl W₁.nNum k) ?_
    refine nm S₅ (by rfl) ?_
    refine ⟨⟨S₅.keep _ _ hoN, hdN⟩, ?_⟩
    refine law_number_ok (s := sh s h₅ _) (u := ds.reverse[i]) (W₁.ext S₅.keep) (hR.le (by decide)) ((hnl.ext eg).ext S₅.keep) fun v h₆ tk₆ e₆ hv₆ => ?_
    obtain ⟨t₆, rfl⟩ := hv₆
    have S₆ := S₅.ext e₆
    refine xorR ?_
    rw [bitXor_nat]
    refine str S₆ fun h₇ S₇ => ?_
    dsimp only
    walk_at "m"
    refine Turn.intro S₇ rfl ⟨rfl, fun z z1 z2 => ?_, ?_⟩
    · simp only [up, if_neg z1, if_neg z2]; exact hsm z z1 z2
    · have e : ds.reverse.take (i + 1) = ds.reverse.take i ++ [ds.reverse[i]] := by rw [List.take_add_one, List.getElem?_eq_getElem hi]; rfl
      have e2 : whGo (1 :: bh) (ds.reverse.take (i + 1)) = prodN (whGo (1 :: bh) (ds.reverse.take i)) (numL (1 :: bh)) 20 ^^^ numL ds.reverse[i] := by rw [e]; simp [whGo]
      exact ⟨_, by rw [e2]; rfl⟩
  · rintro m₁ N₁ h₁ tk₁ ⟨rfl, hsm, tw', hw⟩ _ S₁
    rw [hrev.1, List.take_length, whole_rev] at hw
    exact q h₁ tk₁ m₁ tw' S₁ hsm hw
end Mine
namespace Mine

local macro_rules | `(tactic| walk_at "m") => `(tactic| first
  | with_reducible refine wpAny_execs_cons ?_
  | with_reducible refine wpAny_execs_nil ?_
  | with_reducible refine wpAny_If ?_
  | with_reducible refine wpAny_Return_some ?_
  | (with_reducible refine wpAny_Assign_Name (hs := ?hs) ?_; (case hs => with_unfolding_all rfl))
  | with_reducible refine isTrue_or ?_
  | with_reducible refine isTrue_or_nil ?_
  | with_reducible refine isTrue_and ?_
  | with_reducible refine isTrue_and_nil ?_
  | (with_reducible refine wpAny_isTrue_Compare1 (hm := ?hm) ?_; (case hm => with_unfolding_all rfl))
  | with_reducible refine wpAny_BinOp ?_
  | (with_reducible refine wpAny_Compare1 (hm := ?hm) ?_; (case hm => with_unfolding_all rfl))
  | with_reducible refine wpAny_UnaryOp ?_
  | with_reducible refine Subscript_ ?_
  | (with_reducible refine wpAny_AugAssign_Subscript_any (ha := ?ha) ?_; (case ha => intros; rfl))
  | with_reducible refine cst ?_
  | with_reducible refine addR ?_
  | with_reducible refine subR ?_
  | with_reducible refine xorR ?_
  | with_reducible refine ixorR ?_
  | with_reducible refine eqR ?_
  | with_reducible refine neR ?_
  | with_reducible refine gtR ?_
  | with_reducible refine negR ?_
  | with_reducible refine truR ?_)

def buGo (b : List Nat) (a : List Nat) (ds : List (List Nat)) : List Nat := ds.foldl (fun a d => adL (muL a b) d) a
theorem built_snoc (b : List Nat) : ∀ (ds : List (List Nat)) (d : List Nat), built b (ds ++ [d]) = buGo b d ds.reverse := by
  intro ds
  induction ds with
  | nil => intro d; rfl
  | cons e ds ih =>
    intro d
    have hne : ds ++ [d] ≠ [] := by simp
    have : built b (e :: (ds ++ [d])) = adL (muL (built b (ds ++ [d])) b) e := by
      cases h : ds ++ [d] with
      | nil => exact absurd h hne
      | cons _ _ => rfl
    show built b (e :: (ds ++ [d])) = _
    rw [this, ih]
    simp [buGo]
theorem adL_length (p q : List Nat) : (adL p q).length = p.length := adGo_length _ _ _
theorem muL_length (p q : List Nat) : (muL p q).length = p.length + q.length - 1 := muGo_length _ _ _
theorem digs_all (b : List Nat) (hb : 2 ≤ b.length) (n : Nat) : ∀ u : List Nat, u.length = n → Oct u → ((digs b u).length ≤ u.length ∧ ∀ d ∈ digs b u, Oct d ∧ 1 ≤ d.length ∧ d.length ≤ b.length - 1) := by
  induction n using Nat.strongRecOn with
  | ind n ih =>
    intro u hn ou
    by_cases hu : u.length = 0
    · have : u = [] := List.length_eq_zero_iff.mp hu
      subst this
      rw [digs_nil]
      exact ⟨Nat.le_refl _, fun _ hd => nomatch hd⟩
    · rw [digs_cons b u hb hu]
      have hql := divQ_length b u
      have hrl := divR_length b u
      obtain ⟨i1, i2⟩ := ih _ (by omega) (divQ b u) rfl (divQ_oct b ou)
      refine ⟨by rw [List.length_cons]; omega, fun d hd => ?_⟩
      rcases List.mem_cons.mp hd with rfl | hd
      · exact ⟨divR_oct b ou, by omega, by omega⟩
      · exact i2 d hd
theorem buGo_ok {b a : List Nat} (oa : Oct a) (ha : 1 ≤ a.length) (hb : 1 ≤ b.length) : ∀ (ds : List (List Nat)), (∀ d ∈ ds, Oct d) → Oct (buGo b a ds) ∧ 1 ≤ (buGo b a ds).length ∧ (buGo b a ds).length = a.length + ds.length * (b.length - 1) := by
  intro ds
  induction ds generalizing a with
  | nil => intro _; exact ⟨oa, ha, by simp [buGo]⟩
  | cons d ds ih =>
    intro hd
    have hl : (adL (muL a b) d).length = a.length + (b.length - 1) := by rw [adL_length, muL_length]; omega
    obtain ⟨h1, h2, h3⟩ := ih (a := adL (muL a b) d) (adGo_oct (muGo_oct _ _ _) (hd d (by simp)) _) (by omega) (fun e he => hd e (by simp [he]))
    refine ⟨h1, h2, ?_⟩
    show (buGo b (adL (muL a b) d) ds).length = _
    rw [h3, hl, List.length_cons, Nat.add_mul]; omega

def SameB (m m' : Str → Option Value) : Prop := ∀ x : Str, x ≠ "built" → x ≠ "digit" → m' x = m x

theorem law_for2 {w : World} {A : Around} {s : Shared} {g h : Heap} {tk : Nat} {L f : Addr} {m : Str → Option Value} {fs : Fs} {mg mb : Str → Option Value} {an : Option Addr} {pm doc : Value} {c : Addr} {Q : Flow → Shared → Prop}
    {D pb pa : Addr} {vs : List Value} {ds : List (List Nat)} {b a : List Nat}
    (W : Wd fs mg mb g) (hR : Room A 3) (S : St g L m [] h) (hD : g.IsList D vs.toArray) (hds : DL g vs ds) (hb : g.get? pb = some (bl b)) (hdl : ds.length ≤ 14) (ob : Oct b) (hb2 : 2 ≤ b.length) (hb5 : b.length ≤ 5)
    (hall : ∀ d ∈ ds, Oct d ∧ 1 ≤ d.length ∧ d.length ≤ b.length - 1) (ha : g.get? pa = some (bl a)) (oa : Oct a) (ha1 : 1 ≤ a.length) (ha5 : a.length ≤ 5)
    (nu : m "built" = some (.ref pa)) (nd : m "digits" = some (.ref D)) (nb : m "base" = some (.ref pb))
    (q : ∀ g' h' tk' m' p, Ext g g' → St g' L m' [] h' → SameB m m' → m' "built" = some (.ref p) → g'.get? p = some (bl (buGo b a (ds.take (ds.length - 1)).reverse)) → Q .next (sh s h' tk')) :
    wpC (model pw w) A (exec sFor2.1 (lawEnv an pm c doc L f)) Q (sh s h tk) := by
  have hrev := (hds.take (ds.length - 1)).reverse
  have hvl := hds.1
  have hmem : ∀ d ∈ (ds.take (ds.length - 1)).reverse, Oct d ∧ 1 ≤ d.length ∧ d.length ≤ b.length - 1 := fun d hd => hall d (List.mem_of_mem_take (List.mem_reverse.mp hd))
  have hrl : (ds.take (ds.length - 1)).reverse.length ≤ 14 := by simp; omega
  generalize (ds.take (ds.length - 1)).reverse = rs at hrev hmem hrl q ⊢
  refine For_listC (vs := (vs.take (ds.length - 1)).reverse) S hR.handled (fun K k => ?_) (fun i g' m' => SameB m m' ∧ ∃ p, m' "built" = some (.ref p) ∧ g'.get? p = some (bl (buGo b a (rs.take i)))) ?_ ?_ ⟨fun _ _ _ => rfl, pa, nu, ha⟩ ?_ ?_
  · refine slcV (vs := vs.take (ds.length - 1)) (fun K k => ?_) (fun h₁ tk K e k => prtNone k) (fun h₁ tk K e k => prtNone k) (fun h₁ tk K e k => prtNeg1 k) (by decide) (by rw [List.length_take]; omega) fun a h' tk' e hle ha => ?_
    · refine slcV (vs := vs) (fun K k => nm S (by exact nd) (k _ _ _ (Ext.refl _) (Nat.le_refl _) (IsList_ext hD S.keep))) (fun h₁ tk K e k => prtNone k) (fun h₁ tk K e k => prtNeg1 k) (fun h₁ tk K e k => prtNone k) (by decide) (by omega) fun a h' tk' e hle ha => ?_
      have e1 := slicePick_butLast vs.toArray 1 (Nat.le_refl _)
      rw [show ((-((1 : Nat) : Int)) : Int) = -1 from rfl] at e1
      rw [e1] at ha
      refine k a h' tk' e (Nat.le_trans hle (Nat.le_of_lt (Heap.lt_size ha))) ?_
      have := lob_is ha
      simp only [List.size_toArray, hvl] at this
      exact this
    · rw [slicePick_rev] at ha
      exact k a h' tk' e hle (lob_is ha)
  · rintro i g₁ g₂ m' e ⟨h1, p, h2, h3⟩
    exact ⟨h1, p, h2, e _ _ h3⟩
  · rintro i I a' k g₁ m' hI ⟨h1, p, h2, h3⟩
    refine ⟨h1, p, h2, hideL_get _ h3 fun hm => ?_⟩
    obtain rfl := List.mem_singleton.mp hm
    obtain ⟨o, ho, hc, hd⟩ := hI
    rw [h3] at ho
    cases ho
    cases hd
  · rintro i v m₁ g₁ h₁ tk₁ hv ⟨hsm, p, hp, hpb⟩ eg S₁
    have hi : i < rs.length := by rw [← hrev.1]; exact (List.getElem?_eq_some_iff.mp hv).1
    obtain ⟨r, hr, hnl⟩ := hrev.2 i hi
    rw [hr] at hv
    obtain rfl := Option.some.inj hv
    have W₁ := W.ext eg
    have nb₁ : m₁ "base" = some (.ref pb) := (hsm _ (by decide) (by decide)).trans nb
    have hb₁ := eg _ _ hb
    obtain ⟨o1, o2, o3⟩ := hmem rs[i] (List.getElem_mem hi)
    obtain ⟨b1, b2, b3⟩ := buGo_ok (b := b) oa ha1 (by omega) (rs.take i) fun d hd => (hmem d (List.mem_of_mem_take hd)).1
    have hmul : (rs.take i).length * (b.length - 1) ≤ 14 * 4 := Nat.mul_le_mul (by rw [List.length_take]; omega) (by omega)
    have hml := muL_length (buGo b a (rs.take i)) b
    refine wpC_execs_cons (wpC_Assign_Name (wpC_Call_fn2 (f := fs.add) (fun K k => nmG S₁ W₁.gl W₁.nAdd k) (wpC_Call_fn2 (f := fs.pmul) (fun K k => nmG S₁ W₁.gl W₁.nPmul k) (.of (nm S₁ (by exact hp) (.of (nm S₁ (by exact nb₁) ⟨?_, ?_⟩)))))))
    · obtain ⟨o, fd, h1, h2⟩ := W₁.fPmul.obj
      exact ⟨o, fd, S₁.keep _ _ h1, h2⟩
    refine gf_poly_mul_ok (s := sh s h₁ _) (W₁.ext S₁.keep) (hR.le (by decide)) (S₁.keep _ _ hpb) (S₁.keep _ _ hb₁) b1 ob (by omega) (by omega) b2 (by omega) fun h₂ tk₂ x e₂ hx => ?_
    have S₂ := S₁.ext e₂
    refine wpC_Call_type1 (T := "bytearray") (fun K k => nmB S₂ W₁.gl W₁.oBa W₁.bBa k) (.of (nm S₂ (by rfl) ?_))
    obtain ⟨ws, hws, hwl, hwv⟩ := (hnl.ext eg).ext S₂.keep
    refine baC_list (s := sh s h₂ _) (ns := rs[i]) hws (Nvs.oct ⟨hwl, hwv⟩ o1) (by omega) fun h₃ e₃ hy => ?_
    have S₃ := S₂.ext e₃
    refine ⟨?_, ?_⟩
    · obtain ⟨o, fd, h1, h2⟩ := W₁.fAdd.obj
      exact ⟨o, fd, S₃.keep _ _ h1, h2⟩
    refine gf_poly_add_ok (s := sh s h₃ _) (b := rs[i]) (W₁.ext S₃.keep) (hR.le (by decide)) (e₃ _ _ hx) hy (muGo_oct _ _ _) o1 (by omega) (by omega) fun h₄ tk₄ z e₄ hz => ?_
    obtain ⟨g₂, eg₂, S₄, hin⟩ := S₃.grow e₄
    have hzg := hin _ _ hz (S₄.neNs hz (fun _ _ e => nomatch e)) (by simp)
    refine str S₄ fun h₅ S₅ => ?_
    dsimp only
    refine wpC_execs_nil ⟨rfl, h₅, _, _, g₂, rfl, eg₂, S₅, fun y y1 y2 => ?_, z, by rfl, ?_⟩
    · simp only [up, if_neg y1, if_neg y2]; exact hsm y y1 y2
    · have e : rs.take (i + 1) = rs.take i ++ [rs[i]] := by rw [List.take_add_one, List.getElem?_eq_getElem hi]; rfl
      have e2 : buGo b a (rs.take (i + 1)) = adL (muL (buGo b a (rs.take i)) b) rs[i] := by rw [e]; unfold buGo; rw [List.foldl_append]; rfl
      rw [e2]; exact hzg
  · rintro m₁ g₁ h₁ tk₁ ⟨hsm, p, hp, hpb⟩ eg S₁
    rw [hrev.1, List.take_length] at hpb
    exact q g₁ h₁ tk₁ m₁ p eg S₁ hsm hp hpb
end Mine
namespace Mine

local macro_rules | `(tactic| walk_at "m") => `(tactic| first
  | with_reducible refine wpAny_execs_cons ?_
  | with_reducible refine wpAny_execs_nil ?_
  | with_reducible refine wpAny_If ?_
  | with_reducible refine wpAny_Return_some ?_
  | (with_reducible refine wpAny_Assign_Name (hs := ?hs) ?_; (case hs => with_unfolding_all rfl))
  | with_reducible refine isTrue_or ?_
  | with_reducible refine isTrue_or_nil ?_
  | with_reducible refine isTrue_and ?_
  | with_reducible refine isTrue_and_nil ?_
  | (with_reducible refine wpAny_isTrue_Compare1 (hm := ?hm) ?_; (case hm => with_unfolding_all rfl))
  | with_reducible refine wpAny_BinOp ?_
  | (with_reducible refine wpAny_Compare1 (hm := ?hm) ?_; (case hm => with_unfolding_all rfl))
  | with_reducible refine wpAny_UnaryOp ?_
  | with_reducible refine Subscript_ ?_
  | (with_reducible refine wpAny_AugAssign_Subscript_any (ha := ?ha) ?_; (case ha => intros; rfl))
  | with_reducible refine cst ?_
  | with_reducible refine addR ?_
  | with_reducible refine subR ?_
  | with_reducible refine xorR ?_
  | with_reducible refine ixorR ?_
  | with_reducible refine eqR ?_
  | with_reducible refine neR ?_
  | with_reducible refine gtR ?_
  | with_reducible refine negR ?_
  | with_reducible refine truR ?_)

theorem slicePick_ab (vs : List Value) (a b : Nat) : slicePick vs.toArray (some (a : Int)) (some (b : Int)) none = ((vs.drop a).take (b - a)).toArray := by
  rw [slicePick_plain]
  simp only [Option.elim, clipAt_nat, List.size_toArray]
  congr 1
  rcases Nat.le_total a vs.length with h | h
  · rw [Nat.min_eq_left h]
    rcases Nat.le_total b vs.length with h2 | h2
    · rw [Nat.min_eq_left h2]
    · rw [Nat.min_eq_right h2, List.take_of_length_le (by simp), List.take_of_length_le (by simp; omega)]
  · rw [Nat.min_eq_right h]
    simp [h]

def oc (x : Int) : Nat := (x.fmod 256).toNat
theorem oc_lt (x : Int) : oc x < 256 := by
  have h1 := Int.fmod_lt_of_pos x (show (0 : Int) < 256 by decide)
  have h2 := Int.fmod_nonneg_of_pos x (show (0 : Int) < 256 by decide)
  unfold oc; omega
theorem oc_cast (x : Int) : ((oc x : Nat) : Int) = x.fmod 256 := by
  have h2 := Int.fmod_nonneg_of_pos x (show (0 : Int) < 256 by decide)
  unfold oc; omega
theorem oct_map (l : List Int) : Oct (l.map oc) := fun x hx => by
  obtain ⟨y, _, rfl⟩ := List.mem_map.mp hx
  exact oc_lt y

def tailL : List Int := [2, 200, 87, 0, 5, 255, 16, 29, 31, 0, 1]
def numsL (ns : List Int) : List Int := ns.take 19 ++ tailL.drop ns.length
theorem numsL_len (ns : List Int) : 11 ≤ (numsL ns).length ∧ (numsL ns).length ≤ 19 := by
  simp only [numsL, List.length_append, List.length_take, List.length_drop]
  have : tailL.length = 11 := rfl
  omega
def szL (ns : List Int) : Nat := (((numsL ns).getD 0 0).fmod 4).toNat + 1
theorem szL_le (ns : List Int) : 1 ≤ szL ns ∧ szL ns ≤ 4 := by
  have h1 := Int.fmod_lt_of_pos ((numsL ns).getD 0 0) (show (0 : Int) < 4 by decide)
  unfold szL; omega
theorem szL_cast (ns : List Int) : ((szL ns : Nat) : Int) = ((numsL ns).getD 0 0).fmod 4 + 1 := by
  have h2 := Int.fmod_nonneg_of_pos ((numsL ns).getD 0 0) (show (0 : Int) < 4 by decide)
  unfold szL; omega
def bhL (ns : List Int) : List Nat := (((numsL ns).drop 1).take (1 + szL ns - 1)).map oc
def ocL (ns : List Int) : List Nat := (((numsL ns).drop (1 + szL ns)).take (15 + szL ns - (1 + szL ns))).map oc
theorem bhL_len (ns : List Int) : (bhL ns).length = szL ns := by
  have := numsL_len ns; have := szL_le ns
  simp only [bhL, List.length_map, List.length_take, List.length_drop]; omega
theorem ocL_len (ns : List Int) : 6 ≤ (ocL ns).length ∧ (ocL ns).length ≤ 14 := by
  have := numsL_len ns; have := szL_le ns
  simp only [ocL, List.length_map, List.length_take, List.length_drop]; omega

section
variable {prog : Program} {w : World} {A : Around} {E : Value → Shared → Prop} {s : Shared} {g h : Heap} {tk : Nat} {env : Env} {L : Addr} {m : Str → Option Value} {N : List (Addr × Obj)}
theorem prtE {e : Expr} {h₁ : Heap} {i : Int} {Q : Value → Shared → Prop} (he : ∀ K : Value → Shared → Prop, (∀ t tk', K (.int i t) (sh s h₁ tk')) → wpAny (model prog w) A (eval e env) K E (sh s h₁ tk))
    (q : ∀ v tk', IsPart v (some i) → Q v (sh s h₁ tk')) : wpAny (model prog w) A (evalPart (some e) env) Q E (sh s h₁ tk) := by
  rw [evalPart_some]
  exact he _ fun t tk' => q _ _ (.int _ _)
theorem gtV {r : Addr} {vs : List Value} {j : Nat} {v : Value} {u : Tok} {value slice : Expr} {Q : Value → Shared → Prop} (hr : h.IsList r vs.toArray) (hj : vs[j]? = some v) (hz : vs.length ≤ 2 ^ 20) (q : Q v (sh s h tk))
    (hs : subscripted slice false (.ref r) (.int (j : Int) u) = operate [.ref r, .int (j : Int) u] (getItem (.ref r) (.int (j : Int) u)) := by with_unfolding_all rfl) :
    wpAny (model prog w) A (subscriptTail value slice (.ref r) (.int (j : Int) u)) Q E (sh s h tk) := by
  have hlt : j < vs.length := (List.getElem?_eq_some_iff.mp hj).1
  exact tail_any (Heap.IsList.typeIs (s := sh s h tk) hr) slot_list_getitem.lookup (wpAny_getItem_list (s := sh s h tk) hr (Int.natCast_nonneg _) (by omega) (by simpa using hj) q) hs
theorem mods {x : Str} {p₁ p₂ p₃ : Pos} {i : Int} {t : Tok} {env : Env} {C : Addr} {Q : Value → Shared → Prop} {g' h' : Heap} {m' : Str → Option Value} {tk' : Nat}
    (S : St g' C m' [] h') (hv : m' x = some (.int i t)) (q : ∀ t tk₂, Q (.int (oc i : Nat) t) (sh s h' tk₂))
    (hk : env.scope.kind = .function := by rfl) (hl : env.kindOf x = some .local := by rfl) (hL : env.locals = C := by rfl) (hd : (x == ("__debug__" : Str)) = false := by decide) :
    wpAny (model prog w) A (eval (.BinOp (.Name x p₁) .Mod (.Constant (.int 256) 0 p₂) p₃) env) Q E (sh s h' tk') := by
  refine wpAny_BinOp (nm S hv (cst (modR (by decide) ?_)) hk hl hL hd)
  rw [← oc_cast]
  exact q _ _
end

def sBeh : { x : Stmt // lawBody.1[2]? = some x } := ⟨_, rfl⟩
def sOcs : { x : Stmt // lawBody.1[3]? = some x } := ⟨_, rfl⟩

theorem comp_res {h' : Heap} {D : Addr} {vs zs : List Value} {xs : List Int} (hv : Ivs vs xs) (hl : h'.IsList D zs.toArray) (hzs : zs.length = vs.length)
    (hzv : ∀ i, i < vs.length → ∃ v z, vs[i]? = some v ∧ zs[i]? = some z ∧ ∀ x t, v = .int x t → ∃ t', z = .int (oc x : Nat) t') : NL h' D (xs.map oc) := by
  refine ⟨zs, hl, by rw [hzs, hv.1, List.length_map], fun i hi => ?_⟩
  rw [List.length_map] at hi
  obtain ⟨v, z, h1, h2, h3⟩ := hzv i (by rw [hv.1]; exact hi)
  obtain ⟨t, ht⟩ := hv.2 i hi
  rw [ht] at h1
  obtain rfl := Option.some.inj h1
  obtain ⟨t', rfl⟩ := h3 _ _ rfl
  exact ⟨t', by rw [h2]; simp⟩

section
variable {w : World} {A : Around} {s : Shared} {g h : Heap} {tk : Nat} {L f : Addr} {m : Str → Option Value} {fs : Fs} {mg mb : Str → Option Value} {an : Option Addr} {pm doc : Value} {c : Addr} {Q : Flow → Shared → Prop}
    {pn : Addr} {ns : List Int} {vs : List Value} {ts : Tok}
theorem law_beh (hh : A.handled = none) (S : St g L m [] h) (hp : g.IsList pn vs.toArray) (hv : Ivs vs (numsL ns)) (nn : m "numbers" = some (.ref pn)) (nz : m "size" = some (.int (szL ns : Nat) ts))
    (q : ∀ D g' h' tk', Ext g g' → St g' L (up m "behind" (.ref D)) [] h' → NL g' D (bhL ns) → Q .next (sh s h' tk')) :
    wpAny (model pw w) A (exec sBeh.1 (lawEnv an pm c doc L f)) Q noE (sh s h tk) := by
  have hl := numsL_len ns
  have hz := szL_le ns
  have hvl := hv.1
  have hn := bhL_len ns
  have hv' := (hv.drop 1).take (1 + szL ns - 1)
  have hnl : ((vs.drop 1).take (1 + szL ns - 1)).length ≤ 2 ^ 20 := by rw [List.length_take, List.length_drop]; omega
  refine compW (cl := []) (n := ((vs.drop 1).take (1 + szL ns - 1)).length) (P := fun i v => ((vs.drop 1).take (1 + szL ns - 1))[i]? = some v) (fun v y => ∀ x t, v = .int x t → ∃ t', y = .int (oc x : Nat) t') S (fun K k => ?_) (by omega) ?_ ?_ (by rfl) (by rfl) (by decide) rfl (by decide) (by rfl)
  · refine slcV (vs := vs) (lo := some ((1 : Nat) : Int)) (hi := some ((1 + szL ns : Nat) : Int)) (st := none) (fun K k => nm S (by exact nn) (k _ _ _ (Ext.refl _) (Nat.le_refl _) (IsList_ext hp S.keep)))
      (fun h₁ tk K e k => prtE (fun K k => cst (k _ _)) k) (fun h₁ tk K e k => prtE (fun K k => wpAny_BinOp (cst (nm (S.ext e) (by exact nz) (addN (x := 1) (k _ _))))) k) (fun h₁ tk K e k => prtNone k) (by decide) (by omega) fun a h' tk' e hle ha => ?_
    rw [slicePick_ab] at ha
    exact listIt hh e (Nat.le_trans hle (Nat.le_of_lt (Heap.lt_size ha))) (lob_is ha) k
  · rintro C i v s₃ m₃ hi hP eg₃ S' hm₃
    rw [hv'.1] at hi
    obtain ⟨t, ht⟩ := hv'.2 i hi
    rw [hP] at ht
    obtain rfl := Option.some.inj ht
    refine mods S' hm₃ fun t' tk₂ => ⟨fun x t₂ e => ?_, _, rfl⟩
    obtain ⟨rfl, _⟩ := Value.int.inj e
    exact ⟨_, rfl⟩
  · intro D h₄ tk₄ zs S₄ hDL hgD hDN hlD hzs hzv
    have hnl : NL h₄ D (bhL ns) := comp_res hv' hlD hzs hzv
    obtain ⟨g', eg, S₅, hin⟩ := S₄.grow (Ext.refl _)
    refine q D g' h₄ tk₄ eg S₅ ?_
    obtain ⟨vs', ⟨o, ho, r⟩, r2⟩ := hnl
    exact ⟨vs', ⟨o, hin _ _ ho hDL hDN, r⟩, r2⟩
theorem law_ocs (hh : A.handled = none) (S : St g L m [] h) (hp : g.IsList pn vs.toArray) (hv : Ivs vs (numsL ns)) (nn : m "numbers" = some (.ref pn)) (nz : m "size" = some (.int (szL ns : Nat) ts))
    (q : ∀ D g' h' tk', Ext g g' → St g' L (up m "octets" (.ref D)) [] h' → NL g' D (ocL ns) → Q .next (sh s h' tk')) :
    wpAny (model pw w) A (exec sOcs.1 (lawEnv an pm c doc L f)) Q noE (sh s h tk) := by
  have hl := numsL_len ns
  have hz := szL_le ns
  have hvl := hv.1
  have hv' := (hv.drop (1 + szL ns)).take (15 + szL ns - (1 + szL ns))
  have hnl : ((vs.drop (1 + szL ns)).take (15 + szL ns - (1 + szL ns))).length ≤ 2 ^ 20 := by rw [List.length_take, List.length_drop]; omega
  refine compW (cl := []) (n := ((vs.drop (1 + szL ns)).take (15 + szL ns - (1 + szL ns))).length) (P := fun i v => ((vs.drop (1 + szL ns)).take (15 + szL ns - (1 + szL ns)))[i]? = some v) (fun v y => ∀ x t, v = .int x t → ∃ t', y = .int (oc x : Nat) t') S (fun K k => ?_) (by omega) ?_ ?_ (by rfl) (by rfl) (by decide) rfl (by decide) (by rfl)
  · refine slcV (vs := vs) (lo := some ((1 + szL ns : Nat) : Int)) (hi := some ((15 + szL ns : Nat) : Int)) (st := none) (fun K k => nm S (by exact nn) (k _ _ _ (Ext.refl _) (Nat.le_refl _) (IsList_ext hp S.keep)))
      (fun h₁ tk K e k => prtE (fun K k => wpAny_BinOp (cst (nm (S.ext e) (by exact nz) (addN (x := 1) (k _ _))))) k) (fun h₁ tk K e k => prtE (fun K k => wpAny_BinOp (cst (nm (S.ext e) (by exact nz) (addN (x := 15) (k _ _))))) k) (fun h₁ tk K e k => prtNone k) (by decide) (by omega) fun a h' tk' e hle ha => ?_
    rw [slicePick_ab] at ha
    exact listIt hh e (Nat.le_trans hle (Nat.le_of_lt (Heap.lt_size ha))) (lob_is ha) k
  · rintro C i v s₃ m₃ hi hP eg₃ S' hm₃
    rw [hv'.1] at hi
    obtain ⟨t, ht⟩ := hv'.2 i hi
    rw [hP] at ht
    obtain rfl := Option.some.inj ht
    refine mods S' hm₃ fun t' tk₂ => ⟨fun x t₂ e => ?_, _, rfl⟩
    obtain ⟨rfl, _⟩ := Value.int.inj e
    exact ⟨_, rfl⟩
  · intro D h₄ tk₄ zs S₄ hDL hgD hDN hlD hzs hzv
    have hnl : NL h₄ D (ocL ns) := comp_res hv' hlD hzs hzv
    obtain ⟨g', eg, S₅, hin⟩ := S₄.grow (Ext.refl _)
    refine q D g' h₄ tk₄ eg S₅ ?_
    obtain ⟨vs', ⟨o, ho, r⟩, r2⟩ := hnl
    exact ⟨vs', ⟨o, hin _ _ ho hDL hDN, r⟩, r2⟩
end
end Mine
namespace Mine

local macro_rules | `(tactic| walk_at "m") => `(tactic| first
  | with_reducible refine wpAny_execs_cons ?_
  | with_reducible refine wpAny_execs_nil ?_
  | with_reducible refine wpAny_If ?_
  | with_reducible refine wpAny_Return_some ?_
  | (with_reducible refine wpAny_Assign_Name (hs := ?hs) ?_; (case hs => with_unfolding_all rfl))
  | with_reducible refine isTrue_or ?_
  | with_reducible refine isTrue_or_nil ?_
  | with_reducible refine isTrue_and ?_
  | with_reducible refine isTrue_and_nil ?_
  | (with_reducible refine wpAny_isTrue_Compare1 (hm := ?hm) ?_; (case hm => with_unfolding_all rfl))
  | with_reducible refine wpAny_BinOp ?_
  | (with_reducible refine wpAny_Compare1 (hm := ?hm) ?_; (case hm => with_unfolding_all rfl))
  | with_reducible refine wpAny_UnaryOp ?_
  | with_reducible refine Subscript_ ?_
  | (with_reducible refine wpAny_AugAssign_Subscript_any (ha := ?ha) ?_; (case ha => intros; rfl))
  | with_reducible refine cst ?_
  | with_reducible refine addR ?_
  | with_reducible refine subR ?_
  | with_reducible refine xorR ?_
  | with_reducible refine ixorR ?_
  | with_reducible refine eqR ?_
  | with_reducible refine neR ?_
  | with_reducible refine gtR ?_
  | with_reducible refine negR ?_
  | with_reducible refine truR ?_)

/-! the law's head -/
def cvals : List (Int × Pos) → Nat → List Value
  | [], _ => []
  | x :: l, t => .int x.1 t :: cvals l (t + 1)
theorem cvals_is : ∀ (l : List (Int × Pos)) (t : Nat), Ivs (cvals l t) (l.map (·.1))
  | [], _ => .nil
  | x :: l, t => .cons rfl (cvals_is l (t + 1))
theorem cvals_len : ∀ (l : List (Int × Pos)) (t : Nat), (cvals l t).length = l.length
  | [], _ => rfl
  | x :: l, t => congrArg (· + 1) (cvals_len l (t + 1))
def cexprs (l : List (Int × Pos)) : List Expr := l.map fun x => .Constant (.int x.1) 0 x.2
theorem spliced_consts {prog : Program} {w : World} {A : Around} {E : Value → Shared → Prop} {s : Shared} {h : Heap} {env : Env} {pos : Pos} : ∀ (l : List (Int × Pos)) (tk : Nat) (Q : List Value → Shared → Prop), (∀ tk', Q (cvals l tk) (sh s h tk')) →
    wpAny (model prog w) A (spliced (backTo pos (starEach (cexprs l) env))) Q E (sh s h tk)
  | [], tk, Q, q => Calls.spliced_nil (q _)
  | x :: l, tk, Q, q => Calls.spliced_cons (cst (k := 0) (pos := x.2) (spliced_consts l (tk + 1) _ fun tk' => q tk'))
/-- a list of constants -/
theorem dispC {prog : Program} {w : World} {A : Around} {E : Value → Shared → Prop} {s : Shared} {h : Heap} {tk : Nat} {env : Env} {pos : Pos} (l : List (Int × Pos)) (hl : l.length ≤ 1000) {Q : Value → Shared → Prop}
    (q : ∀ tk', Q (.ref h.objs.size) (sh s (h.push (lob (cvals l tk))) tk')) : wpAny (model prog w) A (eval (.List (cexprs l) pos) env) Q E (sh s h tk) :=
  wpAny_List (spliced_consts l tk _ fun tk' => ⟨by rw [cvals_len]; exact Nat.le_trans hl (by decide), q tk'⟩)
def sNums : { x : Stmt // lawBody.1[0]? = some x } := ⟨_, rfl⟩
def tailC : List (Int × Pos) := [(2, ⟨82, 29, 82, 30⟩), (200, ⟨82, 32, 82, 35⟩), (87, ⟨82, 37, 82, 39⟩), (0, ⟨82, 41, 82, 42⟩), (5, ⟨82, 44, 82, 45⟩), (255, ⟨82, 47, 82, 50⟩), (16, ⟨82, 52, 82, 54⟩), (29, ⟨82, 56, 82, 58⟩), (31, ⟨82, 60, 82, 62⟩), (0, ⟨82, 64, 82, 65⟩), (1, ⟨82, 67, 82, 68⟩)]
theorem dispC' {prog : Program} {w : World} {A : Around} {E : Value → Shared → Prop} {s : Shared} {h : Heap} {tk : Nat} {env : Env} {pos : Pos} {es : List Expr} (l : List (Int × Pos)) (he : es = cexprs l) (hl : l.length ≤ 1000) {Q : Value → Shared → Prop}
    (q : ∀ tk', Q (.ref h.objs.size) (sh s (h.push (lob (cvals l tk))) tk')) : wpAny (model prog w) A (eval (.List es pos) env) Q E (sh s h tk) := by
  subst he; exact dispC l hl q
theorem tailC_len : tailC.length ≤ 1000 := by decide
theorem tailC_exprs : [Expr.Constant (.int 2) 0 ⟨82, 29, 82, 30⟩, .Constant (.int 200) 0 ⟨82, 32, 82, 35⟩, .Constant (.int 87) 0 ⟨82, 37, 82, 39⟩, .Constant (.int 0) 0 ⟨82, 41, 82, 42⟩, .Constant (.int 5) 0 ⟨82, 44, 82, 45⟩, .Constant (.int 255) 0 ⟨82, 47, 82, 50⟩, .Constant (.int 16) 0 ⟨82, 52, 82, 54⟩, .Constant (.int 29) 0 ⟨82, 56, 82, 58⟩, .Constant (.int 31) 0 ⟨82, 60, 82, 62⟩, .Constant (.int 0) 0 ⟨82, 64, 82, 65⟩, .Constant (.int 1) 0 ⟨82, 67, 82, 68⟩] = cexprs tailC := rfl
theorem tailC_is : tailC.map (·.1) = tailL := rfl
section
variable {w : World} {A : Around} {s : Shared} {g h : Heap} {tk : Nat} {L f : Addr} {m : Str → Option Value} {fs : Fs} {mg mb : Str → Option Value} {an : Option Addr} {pm doc : Value} {c : Addr} {Q : Flow → Shared → Prop}
theorem law_nums {p : Addr} {ns : List Int} (W : Wd fs mg mb g) (S : St g L m [] h) (hp : IL g p ns) (hn : ns.length ≤ 63) (nn : m "script" = some (.ref p))
    (q : ∀ D g' h' tk' vs, Ext g g' → St g' L (up m "numbers" (.ref D)) [] h' → g'.IsList D (List.toArray vs) → Ivs vs (numsL ns) → Q .next (sh s h' tk')) :
    wpAny (model pw w) A (exec sNums.1 (lawEnv an pm c doc L f)) Q noE (sh s h tk) := by
  obtain ⟨vs, hl, hlen, hv⟩ := hp
  have hV : Ivs vs ns := ⟨hlen, hv⟩
  unfold sNums
  dsimp only
  walk_at "m"
  walk_at "m"
  refine slcV (vs := vs) (lo := none) (hi := some 19) (st := none) ?_ ?_ ?_ ?_ (by decide) (by omega) ?_
  · intro K k
    exact nm S (by exact nn) (k _ _ _ (Ext.refl _) (Nat.le_refl _) (IsList_ext hl S.keep))
  · intro h₁ tk K e k
    exact prtNone k
  · intro h₁ tk K e k
    exact prtE (fun K k => cst (k _ _)) k
  · intro h₁ tk K e k
    exact prtNone k
  intro a h₁ tk₁ e₁ hle₁ ha
  have hu := slicePick_upto' vs.toArray 19
  rw [show slicePick vs.toArray none (some 19) none = _ from hu] at ha
  have S₁ := S.ext e₁
  with_reducible refine slcV (vs := cvals tailC tk₁) (lo := some ((ns.length : Nat) : Int)) (hi := none) (st := none) (ops := ?ops) ?_ ?_ ?_ ?_ (by decide) ?_ ?_ (hs := ?hs)
  case hs => intro o i; exact rfl
  · intro K k
    have hd : ∀ tk', K (.ref h₁.objs.size) (sh s (h₁.push (lob (cvals tailC tk₁))) tk') := fun tk' => k _ _ _ (Ext.push _ _) (by rw [Heap.size_push]; exact Nat.le_succ _) (lob_is (Heap.get?_push_size _ rfl))
    with_reducible exact dispC' tailC tailC_exprs tailC_len hd
  · intro h₂ tk K e k
    refine prtE (fun K k => ?_) k
    refine Call_b1 (fun K k => nmB (S₁.ext e) W.gl W.oLen W.bLen k) ?_
    refine nm (S₁.ext e) (by exact nn) ?_
    refine PySem.Calls.call_len_list (s := sh s h₂ _) (IsList_ext hl (S₁.ext e).keep) (by rw [List.size_toArray]; omega) ?_
    rw [List.size_toArray, hlen]
    exact k _ _
  · intro h₁ tk K e k
    exact prtNone k
  · intro h₁ tk K e k
    exact prtNone k
  · rw [cvals_len]; decide
  intro b h₂ tk₂ e₂ hle₂ hb
  rw [slicePick_from'] at hb
  have S₂ := S₁.ext e₂
  have ha' := lob_is (e₂ _ _ ha)
  have hb' := lob_is hb
  with_reducible refine addV ha' hb' ?hz fun h₃ e₃ hD => ?_
  case hz => rw [List.length_take, List.length_drop, cvals_len]; have : tailC.length = 11 := rfl; omega
  have hap := S₂.apart (Nat.le_refl _)
  obtain ⟨g', eg, S₃, hin⟩ := S₂.grow e₃
  have hDg := hin _ _ hD hap.1 hap.2
  refine str S₃ fun h₄ S₄ => ?_
  refine q _ g' h₄ _ _ eg S₄ (lob_is hDg) ?_
  exact (hV.take 19).append ((tailC_is ▸ cvals_is tailC tk₁).drop ns.length)
end
end Mine
namespace Mine

local macro_rules | `(tactic| walk_at "m") => `(tactic| first
  | with_reducible refine wpAny_execs_cons ?_
  | with_reducible refine wpAny_execs_nil ?_
  | with_reducible refine wpAny_If ?_
  | with_reducible refine wpAny_Return_some ?_
  | (with_reducible refine wpAny_Assign_Name (hs := ?hs) ?_; (case hs => with_unfolding_all rfl))
  | with_reducible refine isTrue_or ?_
  | with_reducible refine isTrue_or_nil ?_
  | with_reducible refine isTrue_and ?_
  | with_reducible refine isTrue_and_nil ?_
  | (with_reducible refine wpAny_isTrue_Compare1 (hm := ?hm) ?_; (case hm => with_unfolding_all rfl))
  | with_reducible refine wpAny_BinOp ?_
  | (with_reducible refine wpAny_Compare1 (hm := ?hm) ?_; (case hm => with_unfolding_all rfl))
  | with_reducible refine wpAny_UnaryOp ?_
  | with_reducible refine Subscript_ ?_
  | (with_reducible refine wpAny_AugAssign_Subscript_any (ha := ?ha) ?_; (case ha => intros; rfl))
  | with_reducible refine cst ?_
  | with_reducible refine addR ?_
  | with_reducible refine subR ?_
  | with_reducible refine xorR ?_
  | with_reducible refine ixorR ?_
  | with_reducible refine eqR ?_
  | with_reducible refine neR ?_
  | with_reducible refine gtR ?_
  | with_reducible refine negR ?_
  | with_reducible refine truR ?_)

def sSize : { x : Stmt // lawBody.1[1]? = some x } := ⟨_, rfl⟩
def sBase : { x : Stmt // lawBody.1[4]? = some x } := ⟨_, rfl⟩
def sGiven : { x : Stmt // lawBody.1[5]? = some x } := ⟨_, rfl⟩
def sDigs : { x : Stmt // lawBody.1[6]? = some x } := ⟨_, rfl⟩
def sLeft : { x : Stmt // lawBody.1[7]? = some x } := ⟨_, rfl⟩
def sWh : { x : Stmt // lawBody.1[9]? = some x } := ⟨_, rfl⟩
def sIf1 : { x : Stmt // lawBody.1[11]? = some x } := ⟨_, rfl⟩
def sIf2 : { x : Stmt // lawBody.1[12]? = some x } := ⟨_, rfl⟩
def sBuilt : { x : Stmt // lawBody.1[13]? = some x } := ⟨_, rfl⟩
def sRet : { x : Stmt // lawBody.1[15]? = some x } := ⟨_, rfl⟩
theorem lawBody_eq : lawBody.1 = [sNums.1, sSize.1, sBeh.1, sOcs.1, sBase.1, sGiven.1, sDigs.1, sLeft.1, sWhile.1, sWh.1, sFor1.1, sIf1.1, sIf2.1, sBuilt.1, sFor2.1, sRet.1] := rfl

theorem NL.cons {h : Heap} {a : Addr} {x : Nat} {l : List Nat} {t : Tok} {ws : List Value} (hws : ws.length = l.length) (hv : ∀ i (hi : i < l.length), ∃ t, ws[i]? = some (.int (l[i] : Nat) t)) (hl : h.get? a = some (lob ([.int (x : Int) t] ++ ws))) : NL h a (x :: l) :=
  Nvs.nl (Nvs.cons (t := t) (x := x) rfl ⟨hws, hv⟩) (lob_is hl)

section
variable {w : World} {A : Around} {s : Shared} {g h : Heap} {tk : Nat} {L f : Addr} {m : Str → Option Value} {fs : Fs} {mg mb : Str → Option Value} {an : Option Addr} {pm doc : Value} {c : Addr} {Q : Flow → Shared → Prop}

theorem law_size {pn : Addr} {ns : List Int} {vs : List Value} (S : St g L m [] h) (hp : g.IsList pn vs.toArray) (hv : Ivs vs (numsL ns)) (nn : m "numbers" = some (.ref pn))
    (q : ∀ h' tk' t, St g L (up m "size" (.int (szL ns : Nat) t)) [] h' → Q .next (sh s h' tk')) : wpAny (model pw w) A (exec sSize.1 (lawEnv an pm c doc L f)) Q noE (sh s h tk) := by
  have hl := numsL_len ns
  obtain ⟨t0, ht0⟩ := hv.2 0 (by omega)
  unfold sSize
  dsimp only
  iterate 4 walk_at "m"
  refine nm S (by exact nn) ?_
  walk_at "m"
  refine gtV (j := 0) (IsList_ext hp S.keep) ht0 (by rw [hv.1]; omega) ?_
  walk_at "m"
  refine modR (by decide) ?_
  iterate 2 walk_at "m"
  have e : (numsL ns)[0].fmod 4 + 1 = ((szL ns : Nat) : Int) := by rw [szL_cast]; simp [List.getD_eq_getElem?_getD, show 0 < (numsL ns).length by omega]
  rw [e]
  exact str S fun h' S' => q _ _ _ S'

theorem law_base {pbh : Addr} {bh : List Nat} (W : Wd fs mg mb g) (S : St g L m [] h) (hbh : NL g pbh bh) (ob : Oct bh) (hb : bh.length ≤ 5) (nb : m "behind" = some (.ref pbh))
    (q : ∀ g' h' tk' p, Ext g g' → St g' L (up m "base" (.ref p)) [] h' → g'.get? p = some (bl (1 :: bh)) → Q .next (sh s h' tk')) : wpC (model pw w) A (exec sBase.1 (lawEnv an pm c doc L f)) Q (sh s h tk) := by
  unfold sBase
  dsimp only
  refine wpC_Assign_Name (wpC_Call_type1 (T := "bytearray") (fun K k => nmB S W.gl W.oBa W.bBa k) (.of ?_))
  walk_at "m"
  refine disp1 (cst ?_)
  have S₂ := S.ext (Ext.push h (lob [Value.int 1 tk]))
  refine nm S₂ (by exact nb) ?_
  obtain ⟨ws, hws, hwl, hwv⟩ := hbh.ext S₂.keep
  refine addV (vs := [Value.int 1 tk]) (ws := ws) (lob_is (Heap.get?_push_size _ rfl)) hws (by simp [hwl]; omega) fun h₃ e₃ hl₃ => ?_
  have S₃ := S₂.ext e₃
  have hN : Nvs ([Value.int 1 tk] ++ ws) (1 :: bh) := Nvs.cons (t := tk) (x := 1) rfl ⟨hwl, hwv⟩
  have ho : Oct (1 :: bh) := fun x hx => by rcases List.mem_cons.mp hx with rfl | hx; decide; exact ob x hx
  refine baC_list (s := sh s h₃ _) (ns := 1 :: bh) (lob_is hl₃) (hN.oct ho) (by simp; omega) fun h₄ e₄ hy => ?_
  have hap := S₃.apart (Nat.le_refl _)
  obtain ⟨g', eg, S₄, hin⟩ := S₃.grow e₄
  have hyg := hin _ _ hy hap.1 hap.2
  exact str S₄ fun h' S' => q _ _ _ _ eg S' hyg

theorem law_given {po : Addr} {u : List Nat} (W : Wd fs mg mb g) (S : St g L m [] h) (hu : NL g po u) (ou : Oct u) (hl : u.length ≤ 14) (no : m "octets" = some (.ref po))
    (q : ∀ g' h' tk' p, Ext g g' → St g' L (up m "given" (.ref p)) [] h' → g'.get? p = some (bl u) → Q .next (sh s h' tk')) : wpC (model pw w) A (exec sGiven.1 (lawEnv an pm c doc L f)) Q (sh s h tk) := by
  unfold sGiven
  dsimp only
  refine wpC_Assign_Name (wpC_Call_type1 (T := "bytearray") (fun K k => nmB S W.gl W.oBa W.bBa k) (.of ?_))
  refine nm S (by exact no) ?_
  obtain ⟨ws, hws, hwl, hwv⟩ := hu.ext S.keep
  refine baC_list (s := sh s h _) (ns := u) hws (Nvs.oct ⟨hwl, hwv⟩ ou) (by omega) fun h₄ e₄ hy => ?_
  have hap := S.apart (Nat.le_refl _)
  obtain ⟨g', eg, S₄, hin⟩ := S.grow e₄
  have hyg := hin _ _ hy hap.1 hap.2
  exact str S₄ fun h' S' => q _ _ _ _ eg S' hyg

theorem law_digs (S : St g L m [] h) (q : ∀ h' tk' D, St g L (up m "digits" (.ref D)) [(D, lob [])] h' → Q .next (sh s h' tk')) : wpAny (model pw w) A (exec sDigs.1 (lawEnv an pm c doc L f)) Q noE (sh s h tk) := by
  unfold sDigs
  dsimp only
  walk_at "m"
  refine disp0 ?_
  have S₂ := S.alloc (Ext.push h (lob [])) (Heap.get?_push_size _ rfl)
  exact str S₂ fun h' S' => q _ _ _ S'

theorem law_left {N : List (Addr × Obj)} {pg : Addr} (S : St g L m N h) (ng : m "given" = some (.ref pg)) (q : ∀ h' tk', St g L (up m "left" (.ref pg)) N h' → Q .next (sh s h' tk')) :
    wpAny (model pw w) A (exec sLeft.1 (lawEnv an pm c doc L f)) Q noE (sh s h tk) := by
  unfold sLeft
  dsimp only
  walk_at "m"
  refine nm S (by exact ng) ?_
  exact str S fun h' S' => q _ _ S'

theorem law_wh (S : St g L m [] h) (q : ∀ h' tk' t, St g L (up m "whole" (.int 0 t)) [] h' → Q .next (sh s h' tk')) : wpAny (model pw w) A (exec sWh.1 (lawEnv an pm c doc L f)) Q noE (sh s h tk) := by
  unfold sWh
  dsimp only
  iterate 2 walk_at "m"
  exact str S fun h' S' => q _ _ _ S'

theorem law_if1 {po : Addr} {u : List Nat} {tw : Tok} (W : Wd fs mg mb g) (hR : Room A 3) (S : St g L m [] h) (hu : NL g po u) (no : m "octets" = some (.ref po)) (nw : m "whole" = some (.int (numL u : Nat) tw))
    (q : ∀ h' tk', St g L m [] h' → Q .next (sh s h' tk')) : wpAny (model pw w) A (exec sIf1.1 (lawEnv an pm c doc L f)) Q noE (sh s h tk) := by
  obtain ⟨oN, fdN, hoN, hdN⟩ := W.fNum.obj
  unfold sIf1
  dsimp only
  iterate 2 walk_at "m"
  refine nm S (by exact nw) ?_
  refine Call_f1 (o := oN) (fd := fdN) (f := fs.num) (fun K k => nmG S W.gl W.nNum k) ?_
  refine nm S (by exact no) ?_
  refine ⟨⟨S.keep _ _ hoN, hdN⟩, ?_⟩
  refine law_number_ok (s := sh s h _) (u := u) (W.ext S.keep) (hR.le (by decide)) (hu.ext S.keep) fun v h₄ tk₄ e₄ hv₄ => ?_
  obtain ⟨t₄, rfl⟩ := hv₄
  have S₄ := S.ext e₄
  iterate 2 walk_at "m"
  rw [if_neg (by simp)]
  walk_at "m"
  exact q _ _ S₄
end
end Mine
namespace Mine

local macro_rules | `(tactic| walk_at "m") => `(tactic| first
  | with_reducible refine wpAny_execs_cons ?_
  | with_reducible refine wpAny_execs_nil ?_
  | with_reducible refine wpAny_If ?_
  | with_reducible refine wpAny_Return_some ?_
  | (with_reducible refine wpAny_Assign_Name (hs := ?hs) ?_; (case hs => with_unfolding_all rfl))
  | with_reducible refine isTrue_or ?_
  | with_reducible refine isTrue_or_nil ?_
  | with_reducible refine isTrue_and ?_
  | with_reducible refine isTrue_and_nil ?_
  | (with_reducible refine wpAny_isTrue_Compare1 (hm := ?hm) ?_; (case hm => with_unfolding_all rfl))
  | with_reducible refine wpAny_BinOp ?_
  | (with_reducible refine wpAny_Compare1 (hm := ?hm) ?_; (case hm => with_unfolding_all rfl))
  | with_reducible refine wpAny_UnaryOp ?_
  | with_reducible refine Subscript_ ?_
  | (with_reducible refine wpAny_AugAssign_Subscript_any (ha := ?ha) ?_; (case ha => intros; rfl))
  | with_reducible refine cst ?_
  | with_reducible refine addR ?_
  | with_reducible refine subR ?_
  | with_reducible refine xorR ?_
  | with_reducible refine ixorR ?_
  | with_reducible refine eqR ?_
  | with_reducible refine neR ?_
  | with_reducible refine gtR ?_
  | with_reducible refine negR ?_
  | with_reducible refine truR ?_)

section
variable {w : World} {A : Around} {s : Shared} {g h : Heap} {tk : Nat} {L f : Addr} {m : Str → Option Value} {fs : Fs} {mg mb : Str → Option Value} {an : Option Addr} {pm doc : Value} {c : Addr} {Q : Flow → Shared → Prop}

theorem law_if2 {pg pbh D : Addr} {u bh : List Nat} {vs : List Value} {ts : Tok} (W : Wd fs mg mb g) (hR : Room A 3) (S : St g L m [] h) (hu : g.get? pg = some (bl u)) (ou : Oct u) (h1 : 1 ≤ u.length) (hul : u.length ≤ 14)
    (hbh : NL g pbh bh) (ob : Oct bh) (hb1 : 1 ≤ bh.length) (hb4 : bh.length ≤ 4) (hD : g.IsList D vs.toArray) (hds : DL g vs (digs (1 :: bh) u)) (hdl : (digs (1 :: bh) u).length ≤ 14)
    (ng : m "given" = some (.ref pg)) (nb : m "behind" = some (.ref pbh)) (nd : m "digits" = some (.ref D)) (nz : m "size" = some (.int (bh.length : Nat) ts))
    (q : ∀ h' tk', St g L m [] h' → Q .next (sh s h' tk')) : wpAny (model pw w) A (exec sIf2.1 (lawEnv an pm c doc L f)) Q noE (sh s h tk) := by
  obtain ⟨oN, fdN, hoN, hdN⟩ := W.fEv.obj
  unfold sIf2
  dsimp only
  iterate 3 walk_at "m"
  refine nm S (by exact nz) ?_
  iterate 3 walk_at "m"
  by_cases hb : bh.length = 1
  · rw [if_pos (beq1T hb)]
    obtain ⟨x, rfl⟩ : ∃ x, bh = [x] := List.length_eq_one_iff.mp hb
    iterate 2 walk_at "m"
    refine disp1 ?_
    refine Call_f2 (o := oN) (fd := fdN) (f := fs.ev) (fun K k => nmG S W.gl W.nEv k) ?_
    refine nm S (by exact ng) ?_
    walk_at "m"
    refine nm S (by exact nb) ?_
    walk_at "m"
    refine itNL 0 rfl (hbh.ext S.keep) (by simp) (by simp) fun t => ?_
    refine ⟨⟨S.keep _ _ hoN, hdN⟩, ?_⟩
    refine gf_poly_eval_ok (s := sh s h _) (x := x) (W.ext S.keep) (hR.le (by decide)) (S.keep _ _ hu) ou (by omega) h1 (ob x (by simp)) fun v h₄ tk₄ e₄ hv₄ => ?_
    obtain ⟨t₄, rfl⟩ := hv₄
    have S₄ := S.ext e₄
    dsimp only
    have S₅ := S₄.ext (Ext.push h₄ (lob [Value.int (evL u x (u.length - 1) : Nat) t₄]))
    walk_at "m"
    refine nm S₅ (by exact nd) ?_
    walk_at "m"
    have hdc := digs_cons [1, x] u (by simp) (by omega)
    rw [hdc] at hds hdl
    obtain ⟨r, hr, hnl⟩ := hds.2 0 (by simp)
    refine gtV (j := 0) (IsList_ext hD S₅.keep) hr (by rw [hds.1]; exact Nat.le_trans hdl (by decide)) ?_
    have hev := ev_rest u x h1
    have hnl' : NL g r [evL u x (u.length - 1)] := by rw [← hev]; exact hnl
    refine neNL (l := [evL u x (u.length - 1)]) (Nvs.nl (Nvs.cons (t := t₄) rfl ⟨rfl, fun _ hi => nomatch hi⟩) (lob_is (Heap.get?_push_size _ rfl))) (hnl'.ext S₅.keep) (by have := hR.units; omega) ?_
    walk_at "m"
    rw [if_neg (by decide)]
    simp only [Bool.false_eq_true, if_false]
    walk_at "m"
    exact q _ _ S₅
  · rw [if_neg (beq1F hb)]
    simp only [Bool.false_eq_true, if_false]
    walk_at "m"
    exact q _ _ S

theorem law_built {D : Addr} {vs : List Value} {ds : List (List Nat)} {d : List Nat} (W : Wd fs mg mb g) (S : St g L m [] h) (hD : g.IsList D vs.toArray) (hds : DL g vs (ds ++ [d])) (hdl : (ds ++ [d]).length ≤ 14) (od : Oct d) (hd : d.length ≤ 4)
    (nd : m "digits" = some (.ref D))
    (q : ∀ g' h' tk' p, Ext g g' → St g' L (up m "built" (.ref p)) [] h' → g'.get? p = some (bl d) → Q .next (sh s h' tk')) : wpC (model pw w) A (exec sBuilt.1 (lawEnv an pm c doc L f)) Q (sh s h tk) := by
  have hvl := hds.1
  obtain ⟨r, hr, hnl⟩ := hds.2 ds.length (by simp)
  have hnl' : NL g r d := by simpa using hnl
  unfold sBuilt
  dsimp only
  refine wpC_Assign_Name (wpC_Call_type1 (T := "bytearray") (fun K k => nmB S W.gl W.oBa W.bBa k) (.of ?_))
  walk_at "m"
  refine nm S (by exact nd) ?_
  iterate 3 walk_at "m"
  have hl := IsList_ext hD S.keep
  have hlen : vs.length = ds.length + 1 := by simpa using hvl
  have hdl' : ds.length + 1 ≤ 14 := by simpa using hdl
  refine tail_any (Heap.IsList.typeIs (s := sh s h _) hl) slot_list_getitem.lookup (wpAny_getItem_list_neg (s := sh s h _) (x := .ref r) hl (by decide) (by simp; omega) (by decide) (by
    rw [List.size_toArray, show ((-1 : Int) + (vs.length : Int)).toNat = ds.length by omega]; simpa using hr) ?_) (by with_unfolding_all rfl)
  obtain ⟨ws, hws, hwl, hwv⟩ := hnl'.ext S.keep
  refine baC_list (s := sh s h _) (ns := d) hws (Nvs.oct ⟨hwl, hwv⟩ od) (by omega) fun h₄ e₄ hy => ?_
  have hap := S.apart (Nat.le_refl _)
  obtain ⟨g', eg, S₄, hin⟩ := S.grow e₄
  have hyg := hin _ _ hy hap.1 hap.2
  exact str S₄ fun h' S' => q _ _ _ _ eg S' hyg

theorem law_ret {pb pg pu po pbh : Addr} {u bh : List Nat} (W : Wd fs mg mb g) (hR : Room A 3) (S : St g L m [] h) (hu : g.get? pu = some (bl u)) (hg : g.get? pg = some (bl u)) (hb : g.get? pb = some (bl (1 :: bh)))
    (ou : Oct u) (ob : Oct (1 :: bh)) (hul : u.length ≤ 14) (hbl : bh.length ≤ 4) (ho : NL g po u) (hbh : NL g pbh bh)
    (nu : m "built" = some (.ref pu)) (ng : m "given" = some (.ref pg)) (nb : m "base" = some (.ref pb)) (no : m "octets" = some (.ref po)) (nh : m "behind" = some (.ref pbh))
    (q : ∀ h' tk', St g L m [] h' → Q (.ret (.bool true)) (sh s h' tk')) : wpAny (model pw w) A (exec sRet.1 (lawEnv an pm c doc L f)) Q noE (sh s h tk) := by
  have hun := hR.units
  unfold sRet
  dsimp only
  walk_at "m"
  refine BoolOp_and ?_
  walk_at "m"
  refine Call_t1 (fun K k => nmB S W.gl W.oList W.bList k) ?_
  refine nm S (by exact nu) ?_
  refine ba_list (s := sh s h _) (b := u8 u) hR.handled (S.keep _ _ hu) (by rw [u8_size]; omega) fun h₇ tk₇ acc c' e₇ hacc hitems => ?_
  have S₇ := S.ext e₇
  refine nm S₇ (by exact no) ?_
  refine eqNL (l := u) (NL_of_ba ou hacc hitems) (ho.ext S₇.keep) (by omega) ?_
  walk_at "m"
  rw [if_pos rfl]
  clear hacc hitems
  refine BoolOp_and ?_
  walk_at "m"
  refine Call_t1 (fun K k => nmB S₇ W.gl W.oList W.bList k) ?_
  refine nm S₇ (by exact ng) ?_
  refine ba_list (s := sh s h₇ _) (b := u8 u) hR.handled (S₇.keep _ _ hg) (by rw [u8_size]; omega) fun h₈ tk₈ acc c' e₈ hacc hitems => ?_
  have S₈ := S₇.ext e₈
  refine nm S₈ (by exact no) ?_
  refine eqNL (l := u) (NL_of_ba ou hacc hitems) (ho.ext S₈.keep) (by omega) ?_
  walk_at "m"
  rw [if_pos rfl]
  clear hacc hitems
  refine BoolOp_one ?_
  walk_at "m"
  refine Call_t1 (fun K k => nmB S₈ W.gl W.oList W.bList k) ?_
  refine nm S₈ (by exact nb) ?_
  refine ba_list (s := sh s h₈ _) (b := u8 (1 :: bh)) hR.handled (S₈.keep _ _ hb) (by rw [u8_size]; simp; omega) fun h₉ tk₉ acc c' e₉ hacc hitems => ?_
  have S₉ := S₈.ext e₉
  have hN := NL_of_ba ob hacc hitems
  walk_at "m"
  refine disp1 (cst ?_)
  have e₁₀ := Ext.push h₉ (lob [Value.int 1 tk₉])
  have S₁₀ := S₉.ext e₁₀
  refine nm S₁₀ (by exact nh) ?_
  obtain ⟨ws, hws, hwl, hwv⟩ := hbh.ext S₁₀.keep
  refine addV (vs := [Value.int 1 tk₉]) (ws := ws) (lob_is (Heap.get?_push_size _ rfl)) hws (by simp [hwl]; omega) fun h₁₁ e₁₁ hl₁₁ => ?_
  refine eqNL (l := 1 :: bh) ((hN.ext e₁₀).ext e₁₁) (NL.cons hwl hwv hl₁₁) (by omega) ?_
  exact q _ _ (S₁₀.ext e₁₁)
end
end Mine
namespace Mine

/-! the law's body, whole -/
theorem St.settle {g h : Heap} {L D : Addr} {m : Str → Option Value} {o : Obj} (S : St g L m [(D, o)] h) : ∃ g', Ext g g' ∧ St g' L m [] h ∧ g'.get? D = some o := by
  have hD := S.get (a := D) (List.mem_singleton.mpr rfl)
  have hL := (S.news (D, o) (List.mem_singleton.mpr rfl)).2.1
  obtain ⟨g', e, S', hin⟩ := S.drop.grow (Ext.refl _)
  exact ⟨g', e, S', hin D o hD hL (by simp)⟩

section
variable {w : World} {A : Around} {s : Shared} {L f : Addr} {fs : Fs} {mg mb : Str → Option Value} {an : Option Addr} {pm doc : Value} {c : Addr}

theorem law_tail {g h : Heap} {tk : Nat} {m : Str → Option Value} {Q : Flow → Shared → Prop} {D pb pg po pbh : Addr} {vs : List Value} {u bh : List Nat} {ts : Tok}
    (W : Wd fs mg mb g) (hR : Room A 3) (S : St g L m [] h) (hD : g.IsList D vs.toArray) (hds : DL g vs (digs (1 :: bh) u)) (hg : g.get? pg = some (bl u)) (hb : g.get? pb = some (bl (1 :: bh)))
    (ou : Oct u) (ob : Oct bh) (hu6 : 6 ≤ u.length) (hu14 : u.length ≤ 14) (hb1 : 1 ≤ bh.length) (hb4 : bh.length ≤ 4) (ho : NL g po u) (hbh : NL g pbh bh)
    (ng : m "given" = some (.ref pg)) (nb : m "base" = some (.ref pb)) (no : m "octets" = some (.ref po)) (nh : m "behind" = some (.ref pbh)) (nd : m "digits" = some (.ref D)) (nz : m "size" = some (.int (bh.length : Nat) ts))
    (q : ∀ g' h' m' tk', Ext g g' → St g' L m' [] h' → Q (.ret (.bool true)) (sh s h' tk')) :
    wpC (model pw w) A (execs [sWh.1, sFor1.1, sIf1.1, sIf2.1, sBuilt.1, sFor2.1, sRet.1] (lawEnv an pm c doc L f)) Q (sh s h tk) := by
  have ob1 : Oct (1 :: bh) := fun x hx => by rcases List.mem_cons.mp hx with rfl | hx; decide; exact ob x hx
  have hb2 : 2 ≤ (1 :: bh).length := by simp; omega
  obtain ⟨hwh, hbu⟩ := digs_whole (1 :: bh) ob1 hb2 rfl u.length u rfl ou (by omega) (by omega)
  obtain ⟨hlen, hall⟩ := digs_all (1 :: bh) hb2 u.length u rfl ou
  have hdl : (digs (1 :: bh) u).length ≤ 14 := by omega
  have hne := digs_ne (1 :: bh) u hb2 (by omega)
  have hsnoc : (digs (1 :: bh) u).take ((digs (1 :: bh) u).length - 1) ++ [(digs (1 :: bh) u).getLast hne] = digs (1 :: bh) u := by rw [← List.dropLast_eq_take]; exact List.dropLast_concat_getLast hne
  generalize hE : (digs (1 :: bh) u).take ((digs (1 :: bh) u).length - 1) = ds at hsnoc
  generalize hF : (digs (1 :: bh) u).getLast hne = d at hsnoc
  have hd := hall d (by rw [← hsnoc]; simp)
  -- whole = 0
  refine wpC_execs_cons (.of (law_wh S fun h₁ tk₁ tw S₁ => ?_))
  dsimp only
  refine wpC_execs_cons (.of (law_for1 W hR S₁ hD hds hbh hdl (by omega) (by rfl) (by exact nd) (by exact nh) fun h₂ tk₂ m₂ tw₂ S₂ hs₂ hw₂ => ?_))
  dsimp only
  rw [hwh] at hw₂
  have no₂ : m₂ "octets" = some (.ref po) := (hs₂ _ (by decide) (by decide)).trans no
  have ng₂ : m₂ "given" = some (.ref pg) := (hs₂ _ (by decide) (by decide)).trans ng
  have nb₂ : m₂ "base" = some (.ref pb) := (hs₂ _ (by decide) (by decide)).trans nb
  have nh₂ : m₂ "behind" = some (.ref pbh) := (hs₂ _ (by decide) (by decide)).trans nh
  have nd₂ : m₂ "digits" = some (.ref D) := (hs₂ _ (by decide) (by decide)).trans nd
  have nz₂ : m₂ "size" = some (.int (bh.length : Nat) ts) := (hs₂ _ (by decide) (by decide)).trans nz
  refine wpC_execs_cons (.of (law_if1 W hR S₂ ho no₂ hw₂ fun h₃ tk₃ S₃ => ?_))
  dsimp only
  refine wpC_execs_cons (.of (law_if2 W hR S₃ hg ou (by omega) hu14 hbh ob hb1 hb4 hD hds hdl ng₂ nh₂ nd₂ nz₂ fun h₄ tk₄ S₄ => ?_))
  dsimp only
  refine wpC_execs_cons (law_built (ds := ds) (d := d) W S₄ hD (by rw [hsnoc]; exact hds) (by rw [hsnoc]; exact hdl) hd.1 (by have := hd.2.2; simp at this; omega) nd₂ fun g₅ h₅ tk₅ pa e₅ S₅ ha₅ => ?_)
  dsimp only
  have W₅ := W.ext e₅
  refine wpC_execs_cons (law_for2 (ds := digs (1 :: bh) u) (a := d) W₅ hR S₅ (IsList_ext hD e₅) (hds.ext e₅) (e₅ _ _ hb) hdl ob1 hb2 (by simp; omega) hall ha₅ hd.1 hd.2.1 (by have := hd.2.2; simp at this; omega) (by rfl) (by exact nd₂) (by exact nb₂)
    fun g₆ h₆ tk₆ m₆ p₆ e₆ S₆ hs₆ hp₆ hb₆ => ?_)
  dsimp only
  rw [hE, ← built_snoc, hsnoc, hbu] at hb₆
  have e₅₆ := e₅.trans e₆
  refine wpC_execs_cons (.of (law_ret (W₅.ext e₆) hR S₆ hb₆ (e₅₆ _ _ hg) (e₅₆ _ _ hb) ou ob1 hu14 hb4 (ho.ext e₅₆) (hbh.ext e₅₆) hp₆ ((hs₆ _ (by decide) (by decide)).trans ng₂) ((hs₆ _ (by decide) (by decide)).trans nb₂)
    ((hs₆ _ (by decide) (by decide)).trans no₂) ((hs₆ _ (by decide) (by decide)).trans nh₂) fun h₇ tk₇ S₇ => ?_))
  exact q _ _ _ _ e₅₆ S₇

theorem law_body {g h : Heap} {tk : Nat} {m : Str → Option Value} {Q : Flow → Shared → Prop} {p : Addr} {ns : List Int}
    (W : Wd fs mg mb g) (hR : Room A 3) (S : St g L m [] h) (hp : IL g p ns) (hn : ns.length ≤ 63) (nn : m "script" = some (.ref p))
    (q : ∀ g' h' m' tk', Ext g g' → St g' L m' [] h' → Q (.ret (.bool true)) (sh s h' tk')) :
    wpC (model pw w) A (execs lawBody.1 (lawEnv an pm c doc L f)) Q (sh s h tk) := by
  rw [lawBody_eq]
  have hbl := bhL_len ns
  have hol := ocL_len ns
  have hsz := szL_le ns
  have ob : Oct (bhL ns) := oct_map _
  have ou : Oct (ocL ns) := oct_map _
  refine wpC_execs_cons (.of (law_nums W S hp hn nn fun pn g₁ h₁ tk₁ vs e₁ S₁ hpn hv => ?_))
  dsimp only
  have W₁ := W.ext e₁
  refine wpC_execs_cons (.of (law_size S₁ hpn hv (by rfl) fun h₂ tk₂ ts S₂ => ?_))
  dsimp only
  refine wpC_execs_cons (.of (law_beh hR.handled S₂ hpn hv (by rfl) (by rfl) fun pbh g₃ h₃ tk₃ e₃ S₃ hbh => ?_))
  dsimp only
  refine wpC_execs_cons (.of (law_ocs hR.handled S₃ (IsList_ext hpn e₃) hv (by rfl) (by rfl) fun po g₄ h₄ tk₄ e₄ S₄ ho => ?_))
  dsimp only
  have W₄ := (W₁.ext e₃).ext e₄
  refine wpC_execs_cons (law_base W₄ S₄ (hbh.ext e₄) ob (by omega) (by rfl) fun g₅ h₅ tk₅ pb e₅ S₅ hb => ?_)
  dsimp only
  refine wpC_execs_cons (law_given (W₄.ext e₅) S₅ (ho.ext e₅) ou (by omega) (by rfl) fun g₆ h₆ tk₆ pg e₆ S₆ hg => ?_)
  dsimp only
  have W₆ := (W₄.ext e₅).ext e₆
  refine wpC_execs_cons (.of (law_digs S₆ fun h₇ tk₇ D S₇ => ?_))
  dsimp only
  refine wpC_execs_cons (.of (law_left S₇ (by rfl) fun h₈ tk₈ S₈ => ?_))
  dsimp only
  have hsz' : (1 :: bhL ns).length - 1 = szL ns := by simp [hbl]
  refine wpC_execs_cons (law_while (u := ocL ns) (b := 1 :: bhL ns) (ts := ts) W₆ hR S₈ hg (e₆ _ _ hb) ou (fun x hx => by rcases List.mem_cons.mp hx with rfl | hx; decide; exact ob x hx) (by omega) (by simp; omega) (by simp; omega) (by rfl) (by rfl) (by rfl) (by rw [hsz']; rfl)
    fun g₉ h₉ tk₉ m₉ vs₉ n₉ e₉ S₉ hds₉ hs₉ => ?_)
  dsimp only
  obtain ⟨g₁₀, e₁₀, S₁₀, hD⟩ := S₉.settle
  have e₆₁₀ := e₉.trans e₁₀
  have e₄₁₀ := (e₅.trans e₆).trans e₆₁₀
  refine law_tail (D := D) (pb := pb) (pg := pg) (po := po) (pbh := pbh) (u := ocL ns) (bh := bhL ns) (ts := ts) ((W₆.ext e₉).ext e₁₀) hR S₁₀ ⟨_, hD, rfl, _, rfl⟩ (hds₉.ext e₁₀) (e₆₁₀ _ _ hg) (e₆₁₀ _ _ (e₆ _ _ hb)) ou ob hol.1 hol.2 (by omega) (by omega) (ho.ext e₄₁₀) ((hbh.ext e₄).ext e₄₁₀)
    ((hs₉ _ (by decide) (by decide) (by decide)).trans (by rfl)) ((hs₉ _ (by decide) (by decide) (by decide)).trans (by rfl)) ((hs₉ _ (by decide) (by decide) (by decide)).trans (by rfl)) ((hs₉ _ (by decide) (by decide) (by decide)).trans (by rfl))
    ((hs₉ _ (by decide) (by decide) (by decide)).trans (by rfl)) ((hs₉ _ (by decide) (by decide) (by decide)).trans (by rw [hbl]; rfl)) fun g' h' m' tk' eg S' => ?_
  exact q g' h' m' tk' ((((((e₁.trans e₃).trans e₄).trans e₅).trans e₆).trans e₆₁₀).trans eg) S'

theorem law_ok {R : Value → Shared → Prop} {fl p : Addr} {ns : List Int} (W : Wd fs mg mb s.heap) (F : FnAt sLaw.1 "law" s.heap fl) (hR : Room A 4) (hp : IL s.heap p ns) (hn : ns.length ≤ 63)
    (q : ∀ h' tk', Ext s.heap h' → R (.bool true) (sh s h' tk')) : codeC (model pw w) A (.call (.ref fl) ⟨[.ref p], []⟩) R s := by
  obtain ⟨an, pm, c, doc, ho, hc⟩ := F
  refine codeC_call_def (binds := [("script", .ref p)]) (by have := hR.depth; omega) ho rfl W.gl.lim hc (lawBody.2 _ _ _ _) (BindsTo.of_eq (by rfl)) (show ∀ x ∈ (scopeOf sLaw.1).names, x.2 ≠ .cell from by decide)
    (show ∀ z ∈ [(("script" : Str), Value.ref p)], (scopeOf sLaw.1).names.lookup z.1 = some .local from by simp only [List.forall_mem_cons]; exact ⟨by rfl, fun _ h => nomatch h⟩) fun h₁ hns hk => ?_
  have S := St.start hns hk
  have hR' := hR.deeper (callEnv (fdMk sLaw.1 .none an pm (.ref c) doc) s.heap.objs.size fl)
  exact law_body (s := s) W hR' S hp hn (by rfl) fun g' h' m' tk' eg S' => q h' tk' (eg.trans S'.keep)
end
end Mine
namespace Mine

local macro_rules | `(tactic| walk_at "m") => `(tactic| first
  | with_reducible refine wpAny_execs_cons ?_
  | with_reducible refine wpAny_execs_nil ?_
  | with_reducible refine wpAny_If ?_
  | with_reducible refine wpAny_Return_some ?_
  | (with_reducible refine wpAny_Assign_Name (hs := ?hs) ?_; (case hs => with_unfolding_all rfl))
  | with_reducible refine isTrue_or ?_
  | with_reducible refine isTrue_or_nil ?_
  | with_reducible refine isTrue_and ?_
  | with_reducible refine isTrue_and_nil ?_
  | (with_reducible refine wpAny_isTrue_Compare1 (hm := ?hm) ?_; (case hm => with_unfolding_all rfl))
  | with_reducible refine wpAny_BinOp ?_
  | (with_reducible refine wpAny_Compare1 (hm := ?hm) ?_; (case hm => with_unfolding_all rfl))
  | with_reducible refine wpAny_UnaryOp ?_
  | with_reducible refine Subscript_ ?_
  | (with_reducible refine wpAny_AugAssign_Subscript_any (ha := ?ha) ?_; (case ha => intros; rfl))
  | with_reducible refine cst ?_
  | with_reducible refine addR ?_
  | with_reducible refine subR ?_
  | with_reducible refine xorR ?_
  | with_reducible refine ixorR ?_
  | with_reducible refine eqR ?_
  | with_reducible refine neR ?_
  | with_reducible refine gtR ?_
  | with_reducible refine negR ?_
  | with_reducible refine truR ?_)

/-! the tables: gf_mult_noLUT -/
/-- a def with defaults -/
def FnD (st : Stmt) (name : Str) (vs : List Value) (h : Heap) (a : Addr) : Prop := ∃ an pm c doc T, h.get? a = some { cls := .type "function", data := .func (fdMk st (.ref T) an pm (.ref c) doc) } ∧ h.CodeRec (.ref c) name ∧ h.get? T = some { cls := .type "tuple", data := .seq vs.toArray }
theorem FnD.ext {st : Stmt} {name : Str} {vs : List Value} {h h' : Heap} {a : Addr} (x : FnD st name vs h a) (e : Ext h h') : FnD st name vs h' a :=
  let ⟨an, pm, c, doc, T, h1, h2, h3⟩ := x; ⟨an, pm, c, doc, T, e _ _ h1, h2.keeps e, e _ _ h3⟩
theorem FnD.obj {st : Stmt} {name : Str} {vs : List Value} {h : Heap} {a : Addr} (x : FnD st name vs h a) : ∃ o fd, h.get? a = some o ∧ o.data = .func fd :=
  let ⟨_, _, _, _, _, h1, _, _⟩ := x; ⟨_, _, h1, rfl⟩

/-- the world of the tables' def -/
structure Wi (lut : Addr) (mg mb : Str → Option Value) (g₀ : Heap) : Prop where
  gl : Gl g₀ mg mb
  fLut : ∃ t u, FnD sLut.1 "gf_mult_noLUT" [.int 0 t, .int 256 u, .bool true] g₀ lut
  nLut : mg "gf_mult_noLUT" = some (.ref lut)
  nBa : mg "_bytearray" = some (.type "bytearray")
  nXr : mg "xrange" = some (.type "range")
  oInt : mg "int" = none
  bInt : mb "int" = some (.type "int")
theorem Wi.ext {lut : Addr} {mg mb : Str → Option Value} {g g' : Heap} (W : Wi lut mg mb g) (e : Ext g g') : Wi lut mg mb g' :=
  { W with gl := W.gl.ext e, fLut := let ⟨t, u, f⟩ := W.fLut; ⟨t, u, f.ext e⟩ }

def bit256 : Bool := (List.range 256).all fun x => ((x * 2) &&& 256 != 0) == !decide (x < 128)
theorem bit256_ok : bit256 = true := by decide +kernel
theorem bit256_at {x : Nat} (h : x < 256) : ((x * 2) &&& 256 = 0) ↔ x < 128 := by
  have := List.all_eq_true.mp bit256_ok x (List.mem_range.mpr h)
  by_cases h2 : x < 128 <;> simp_all
theorem xt_lt {x : Nat} (h : x < 256) : xt x < 256 := by
  rw [xt_form h]
  have hb : Bool := true
  have : (List.range 256).all (fun x => decide ((x * 2) ^^^ (x / 2 ^ 7 % 2 * 285) < 256)) = true := by decide +kernel
  simpa using List.all_eq_true.mp this x (List.mem_range.mpr h)

section
variable {prog : Program} {w : World} {A : Around} {E : Value → Shared → Prop} {s : Shared} {g h : Heap} {tk : Nat} {env : Env}
theorem shrN {x : Nat} {t u : Tok} {Q : Value → Shared → Prop} (q : Q (.int (x / 2 : Nat) tk) (sh s h (tk + 1))) : wpAny (model prog w) A (binaryOp .RShift (.int (x : Int) t) (.int 1 u)) Q E (sh s h tk) := by
  refine rshift_int (s := sh s h tk) (by decide) ?_
  rw [show ((2 : Int) ^ (1 : Int).toNat) = 2 by decide, Int.fdiv_eq_ediv_of_nonneg _ (by decide), show ((x : Int) / 2) = ((x / 2 : Nat) : Int) by omega]
  exact q
theorem shlN {x : Nat} {t u : Tok} {Q : Value → Shared → Prop} (hx : x < 2 ^ 63) (q : Q (.int (x * 2 : Nat) tk) (sh s h (tk + 1))) : wpAny (model prog w) A (binaryOp .LShift (.int (x : Int) t) (.int 1 u)) Q E (sh s h tk) := by
  refine lshift_int_small (s := sh s h tk) (by decide) (by decide) (by rw [Int.natAbs_natCast]; omega) ?_
  rw [show ((2 : Int) ^ (1 : Int).toNat) = 2 by decide, show ((x : Int) * 2) = ((x * 2 : Nat) : Int) by omega]
  exact q
theorem truN {x : Nat} {t : Tok} {Q : Bool → Shared → Prop} (q : Q (x != 0) (sh s h tk)) : wpAny (model prog w) A (truthy (.int (x : Int) t)) Q E (sh s h tk) := by
  refine PyProof.Rows.truthy_int (s := sh s h tk) ?_
  rw [bne_nat]; exact q
end

def lutBody : { x : List Stmt // ∀ T an pm c doc, (fdMk sLut.1 T an pm c doc).body = .stmts x } := ⟨_, fun _ _ _ _ _ => rfl⟩
def lutTurn : { x : List Stmt // ∃ t p, lutBody.1[1]? = some (.While t x [] p) } := ⟨_, _, _, rfl⟩
def lutTail : { x : List Stmt // ∃ a, lutTurn.1 = a :: x } := ⟨_, _, rfl⟩
def lutJ (x : Nat) (u3 u4 : Tok) (k : Nat) (m : Str → Option Value) : Prop := ∃ y z r t1 t2 t3, k = y ∧ m "y" = some (.int (y : Nat) t1) ∧ m "x" = some (.int (z : Nat) t2) ∧ m "r" = some (.int (r : Nat) t3) ∧ m "prim" = some (.int 285 u3) ∧ m "field_charac_full" = some (.int 256 u4) ∧ m "carryless" = some (.bool true) ∧ z < 256 ∧
    ((y = 2 ∧ z = x ∧ r = 0) ∨ (y = 1 ∧ z = xt x ∧ r = 0) ∨ (y = 0 ∧ r = xt x))
theorem lut_tail {w : World} {A' : Around} {s : Shared} {g : Heap} {L f c T : Addr} {an : Option Addr} {pm doc : Value} {x y z r' : Nat} {u3 u4 t1 t2 t4 : Tok} {m₂ : Str → Option Value} {h₄ : Heap} {tk₄ : Nat} (h0 : y ≠ 0) (hz : z < 256)
    (n1 : m₂ "y" = some (.int (y : Nat) t1)) (n2 : m₂ "x" = some (.int (z : Nat) t2)) (n3 : m₂ "r" = some (.int (r' : Nat) t4)) (n4 : m₂ "prim" = some (.int 285 u3)) (n5 : m₂ "field_charac_full" = some (.int 256 u4)) (n6 : m₂ "carryless" = some (.bool true))
    (hJ : (y / 2 = 2 ∧ xt z = x ∧ r' = 0) ∨ (y / 2 = 1 ∧ xt z = xt x ∧ r' = 0) ∨ (y / 2 = 0 ∧ r' = xt x)) (S₄ : St g L m₂ [] h₄) :
    wpAny (model pw w) A' (execs lutTail.1 (callEnv (fdMk sLut.1 (.ref T) an pm (.ref c) doc) L f)) (fun f s₃ => f = .next ∧ ∃ h' tk' m' k', s₃ = sh s h' tk' ∧ k' < y ∧ St g L m' [] h' ∧ lutJ x u3 u4 k' m') noE (sh s h₄ tk₄) := by
  unfold lutTail
  dsimp only
  iterate 3 walk_at "m"
  refine nm S₄ n1 (cst (shrN ?_))
  refine str S₄ fun h₅ S₅ => ?_
  dsimp only
  iterate 3 walk_at "m"
  refine nm S₅ (by exact n2) (cst (shlN (by omega) ?_))
  refine str S₅ fun h₆ S₆ => ?_
  dsimp only
  iterate 4 walk_at "m"
  refine nm S₆ (by exact n4) ?_
  iterate 3 walk_at "m"
  rw [if_pos (by decide)]
  walk_at "m"
  refine isTrue_plain ?_
  walk_at "m"
  refine nm S₆ (by rfl) (nm S₆ (by exact n5) (andN (y := 256) (truN ?_)))
  by_cases hb : z < 128
  · have hbit := (bit256_at hz).mpr hb
    rw [if_neg (by simp [hbit])]
    simp only [Bool.false_eq_true, if_false]
    iterate 2 walk_at "m"
    refine ⟨rfl, h₆, _, _, y / 2, rfl, by omega, S₆, y / 2, z * 2, r', _, _, t4, rfl, by rfl, by rfl, by exact n3, by exact n4, by exact n5, by exact n6, by omega, ?_⟩
    have : xt z = z * 2 := by unfold xt; rw [if_pos hb]; omega
    rw [← this]; exact hJ
  · have hbit : (z * 2) &&& 256 ≠ 0 := fun e => hb ((bit256_at hz).mp e)
    rw [if_pos (by simpa using hbit)]
    walk_at "m"
    simp only [if_true]
    iterate 3 walk_at "m"
    refine nm S₆ (by rfl) (nm S₆ (by exact n4) (xorR ?_))
    have hxt : xt z = (z * 2) ^^^ 285 := by unfold xt; rw [if_neg hb, Nat.mul_comm]
    rw [show Builtin.bitXor ((z * 2 : Nat) : Int) 285 = ((xt z : Nat) : Int) by rw [hxt]; exact bitXor_nat (z * 2) 285]
    refine str S₆ fun h₇ S₇ => ?_
    dsimp only
    iterate 2 walk_at "m"
    exact ⟨rfl, h₇, _, _, y / 2, rfl, by omega, S₇, y / 2, xt z, r', _, _, t4, rfl, by rfl, by rfl, by exact n3, by exact n4, by exact n5, by exact n6, xt_lt hz, hJ⟩

theorem lut_ok {w : World} {A : Around} {s : Shared} {R : Result → Shared → Prop} {lut : Addr} {mg mb : Str → Option Value} {x : Nat} {u1 u2 u3 u4 : Tok}
    (W : Wi lut mg mb s.heap) (hR : Room A 1) (hx : x < 256) (B : Back s R fun v _ => ∃ t, v = .int (xt x : Nat) t) :
    codeAny (model pw w) A (.call (.ref lut) ⟨[.int (x : Int) u1, .int 2 u2, .int 285 u3, .int 256 u4], []⟩) R s := by
  obtain ⟨t, u, an, pm, c, doc, T, ho, hc, hT⟩ := W.fLut
  refine codeAny_call_def (binds := [("x", .int (x : Int) u1), ("y", .int 2 u2), ("prim", .int 285 u3), ("field_charac_full", .int 256 u4), ("carryless", .bool true)]) (by have := hR.depth; omega) ho rfl W.gl.lim hc rfl (BindsTo.of_defaults (T := T) rfl hT rfl (by rfl) (by rfl))
    (show ∀ x ∈ (scopeOf sLut.1).names, x.2 ≠ .cell from by decide)
    (show ∀ z ∈ [(("x" : Str), Value.int (x : Int) u1), ("y", Value.int 2 u2), ("prim", .int 285 u3), ("field_charac_full", .int 256 u4), ("carryless", .bool true)], (scopeOf sLut.1).names.lookup z.1 = some .local from by simp only [List.forall_mem_cons]; exact ⟨by rfl, by rfl, by rfl, by rfl, by rfl, fun _ h => nomatch h⟩)
    fun h₁ hns hk => wpAny_mono (E := noE) ?_ (fun _ _ x => x) (fun _ _ x => x.elim)
  have S := St.start hns hk
  generalize A.deeper (callEnv (fdMk sLut.1 (.ref T) an pm (.ref c) doc) s.heap.objs.size lut) = A'
  generalize hL : s.heap.objs.size = L at S ⊢
  iterate 3 walk_at "m"
  refine str S fun h₂ S₂ => ?_
  walk_at "m"
  refine whileW S₂ (lutJ x u3 u4) 2 ⟨2, x, 0, _, _, _, rfl, by rfl, by rfl, by rfl, by rfl, by rfl, by rfl, hx, .inl ⟨rfl, rfl, rfl⟩⟩ ?_
  rintro y m₁ h₃ tk₃ ⟨_, z, r, t1, t2, t3, rfl, m1, m2, m3, m4, m5, m6, hz, hI⟩ S₃
  refine isTrue_plain ?_
  refine nm S₃ m1 (truN ?_)
  by_cases h0 : y = 0
  · rw [if_neg (by simp [h0])]
    rcases hI with ⟨rfl, _⟩ | ⟨rfl, _⟩ | ⟨_, hr⟩
    · cases h0
    · cases h0
    · dsimp only
      iterate 2 walk_at "m"
      refine nm S₃ m3 ?_
      exact B _ _ _ S₃.keep ⟨_, by rw [hr]⟩
  rw [if_pos (by simp [h0])]
  iterate 2 walk_at "m"
  refine isTrue_plain ?_
  walk_at "m"
  refine nm S₃ m1 (cst (andN (y := 1) (truN ?_)))
  rcases hI with ⟨rfl, rfl, rfl⟩ | ⟨rfl, rfl, rfl⟩ | ⟨rfl, _⟩
  · rw [if_neg (by decide)]
    iterate 1 walk_at "m"
    exact lut_tail (r' := 0) (by decide) hz m1 m2 m3 m4 m5 m6 (.inr (.inl ⟨rfl, rfl, rfl⟩)) S₃
  · rw [if_pos (by decide)]
    iterate 2 walk_at "m"
    refine IfExp_ ?_
    refine isTrue_plain ?_
    refine nm S₃ m6 ?_
    walk_at "m"
    rw [if_pos rfl]
    walk_at "m"
    refine nm S₃ m3 (nm S₃ m2 (xorR ?_))
    rw [show Builtin.bitXor ((0 : Nat) : Int) ((xt x : Nat) : Int) = ((xt x : Nat) : Int) by rw [bitXor_nat, Nat.zero_xor]]
    refine str S₃ fun h₄ S₄ => ?_
    dsimp only
    iterate 1 walk_at "m"
    exact lut_tail (r' := xt x) (by decide) hz (by exact m1) (by exact m2) (by rfl) (by exact m4) (by exact m5) (by exact m6) (.inr (.inr ⟨rfl, rfl⟩)) S₄
  · cases h0 rfl
end Mine
namespace Mine

local macro_rules | `(tactic| walk_at "m") => `(tactic| first
  | with_reducible refine wpAny_execs_cons ?_
  | with_reducible refine wpAny_execs_nil ?_
  | with_reducible refine wpAny_If ?_
  | with_reducible refine wpAny_Return_some ?_
  | (with_reducible refine wpAny_Assign_Name (hs := ?hs) ?_; (case hs => with_unfolding_all rfl))
  | with_reducible refine isTrue_or ?_
  | with_reducible refine isTrue_or_nil ?_
  | with_reducible refine isTrue_and ?_
  | with_reducible refine isTrue_and_nil ?_
  | (with_reducible refine wpAny_isTrue_Compare1 (hm := ?hm) ?_; (case hm => with_unfolding_all rfl))
  | with_reducible refine wpAny_BinOp ?_
  | (with_reducible refine wpAny_Compare1 (hm := ?hm) ?_; (case hm => with_unfolding_all rfl))
  | with_reducible refine wpAny_UnaryOp ?_
  | with_reducible refine Subscript_ ?_
  | (with_reducible refine wpAny_AugAssign_Subscript_any (ha := ?ha) ?_; (case ha => intros; rfl))
  | with_reducible refine cst ?_
  | with_reducible refine addR ?_
  | with_reducible refine subR ?_
  | with_reducible refine xorR ?_
  | with_reducible refine ixorR ?_
  | with_reducible refine eqR ?_
  | with_reducible refine neR ?_
  | with_reducible refine gtR ?_
  | with_reducible refine negR ?_
  | with_reducible refine truR ?_)

/-! the tables: init_tables -/
theorem expGo_snoc : ∀ n x k, pw2 k = x → expGo (n + 1) x = expGo n x ++ [pw2 (k + n)]
  | 0, x, k, h => by simp [expGo, h]
  | n + 1, x, k, h => by
    have ih := expGo_snoc n (xt x) (k + 1) (by simp [pw2, h])
    rw [show k + 1 + n = k + (n + 1) by omega] at ih
    show x :: expGo (n + 1) (xt x) = (x :: expGo n (xt x)) ++ [_]
    rw [ih]; rfl
theorem expGo_one (n : Nat) : expGo (n + 1) 1 = expGo n 1 ++ [pw2 n] := by
  have := expGo_snoc n 1 0 rfl
  rwa [Nat.zero_add] at this
theorem pw2_lt : ∀ n, pw2 n < 256
  | 0 => by decide
  | n + 1 => xt_lt (pw2_lt n)
theorem expGo_oct (n : Nat) : Oct (expGo n 1) := by
  induction n with
  | zero => exact fun x hx => nomatch hx
  | succ n ih =>
    rw [expGo_one]
    intro x hx
    rcases List.mem_append.mp hx with h | h
    · exact ih x h
    · rw [List.mem_singleton.mp h]; exact pw2_lt n
theorem expGo_get {n i : Nat} (h : i < n) : (expGo n 1).getD i 0 = pw2 i := by
  induction n with
  | zero => omega
  | succ n ih =>
    rw [expGo_one]
    by_cases hi : i < n
    · rw [List.getD_eq_getElem?_getD, List.getElem?_append_left (by rw [expGo_length]; exact hi), ← List.getD_eq_getElem?_getD, ih hi]
    · obtain rfl : i = n := by omega
      rw [List.getD_eq_getElem?_getD, List.getElem?_append_right (by rw [expGo_length]; exact Nat.le_refl _), expGo_length]; simp
theorem logAt_succ {n : Nat} (h : n < 255) : logAt (n + 1) = (logAt n).set (pw2 n) n := by
  have e : expA.getD n 0 = pw2 n := expGo_get h
  unfold logAt
  rw [List.range_succ, List.foldl_append]
  simp only [List.foldl_cons, List.foldl_nil, e]
theorem fill_set (p : List Nat) (k v : Nat) : (p ++ List.replicate (k + 1) 0).set p.length v = (p ++ [v]) ++ List.replicate k 0 := by
  rw [List.set_append_right _ _ (Nat.le_refl _), Nat.sub_self, List.replicate_succ, List.set_cons_zero]; simp
def e1 (n : Nat) : List Nat := expGo n 1 ++ List.replicate (510 - n) 0
theorem e1_length {n : Nat} (h : n ≤ 510) : (e1 n).length = 510 := by simp [e1, expGo_length]; omega
theorem e1_succ {n : Nat} (h : n < 510) : (e1 n).set n (pw2 n) = e1 (n + 1) := by
  have := fill_set (expGo n 1) (510 - (n + 1)) (pw2 n)
  rw [expGo_length, ← expGo_one, show 510 - (n + 1) + 1 = 510 - n by omega] at this
  exact this
def e2 (n : Nat) : List Nat := (expA ++ expA.take n) ++ List.replicate (255 - n) 0
theorem expA_length : expA.length = 255 := expGo_length 255 1
theorem e2_zero : e1 255 = e2 0 := by unfold e1 e2; simp [expA]
theorem e2_last : e2 255 = expL := by
  unfold e2 expL
  rw [List.take_of_length_le (Nat.le_of_eq expA_length)]; simp
theorem e2_length {n : Nat} (h : n ≤ 255) : (e2 n).length = 510 := by simp [e2, expA_length]; omega
theorem e2_get {n i : Nat} (h : i < 255) : (e2 n).getD i 0 = expA.getD i 0 := by
  unfold e2
  rw [List.append_assoc, List.getD_eq_getElem?_getD, List.getElem?_append_left (by rw [expA_length]; exact h), ← List.getD_eq_getElem?_getD]
theorem e2_oct (n : Nat) : Oct (e2 n) := fun x hx => by
  rcases List.mem_append.mp hx with h | h
  · rcases List.mem_append.mp h with h | h
    · exact expGo_oct 255 x h
    · exact expGo_oct 255 x (List.mem_of_mem_take h)
  · exact oct_replicate _ x h
theorem e2_succ {n : Nat} (h : n < 255) : (e2 n).set (255 + n) (expA.getD n 0) = e2 (n + 1) := by
  have := fill_set (expA ++ expA.take n) (255 - (n + 1)) (expA.getD n 0)
  have hl : (expA ++ expA.take n).length = 255 + n := by simp [expA_length]; omega
  have ht : expA.take (n + 1) = expA.take n ++ [expA.getD n 0] := by
    rw [List.take_add_one, List.getD_eq_getElem?_getD, List.getElem?_eq_getElem (by rw [expA_length]; exact h)]; rfl
  rw [hl, show 255 - (n + 1) + 1 = 255 - n by omega] at this
  unfold e2
  rw [this, ht, List.append_assoc expA]

section
variable {prog : Program} {w : World} {A : Around} {E : Value → Shared → Prop} {s : Shared} {g h : Heap} {tk : Nat} {L : Addr} {m : Str → Option Value} {N : List (Addr × Obj)}
theorem St.swap {p q : Addr × Obj} (S : St g L m [p, q] h) : St g L m [q, p] h := S.sub fun x hx => by
  rcases List.mem_cons.mp hx with rfl | hx
  · exact .tail _ (.head _)
  · rw [List.mem_singleton.mp hx]; exact .head _
/-- an octet stored into the first object of the ledger -/
theorem setH (j x : Nat) {r : Addr} {l : List Nat} {k v : Int} {t u : Tok} {Q : Unit → Shared → Prop} (hj : k = (j : Int)) (hv : v = (x : Int)) (S : St g L m ((r, bl l) :: N) h) (hne : ∀ p ∈ N, p.1 ≠ r) (hz : l.length ≤ 2 ^ 24) (h1 : j < l.length) (v1 : x < 256)
    (q : ∀ h', St g L m ((r, bl (l.set j x)) :: N) h' → Q () (sh s h' tk)) : wpAny (model prog w) A (setItem (.ref r) (.int k t) (.int v u)) Q E (sh s h tk) := by
  subst hj hv
  have hr := S.get (a := r) (o := bl l) (by simp)
  refine ba_setItem (s := sh s h tk) hr (by rw [u8_size]; exact hz) (Int.natCast_nonneg _) (by rw [u8_size]; omega) (Int.natCast_nonneg _) (by omega) (q _ ?_)
  have e := empty_upd hr (·.setIfInBounds (j : Int).toNat (x : Int).toNat.toUInt8)
  refine S.upd hne e.2 (e.1.trans ?_)
  rw [u8_set]; rfl
end

theorem init_ok {w : World} {A : Around} {s : Shared} {R : Value → Shared → Prop} {fi lut : Addr} {mg mb : Str → Option Value} (W : Wi lut mg mb s.heap) (F : ∃ t1 t2 t3, FnD sInit.1 "init_tables" [.int 285 t1, .int 2 t2, .int 8 t3] s.heap fi) (hR : Room A 2)
    (B : ∀ h' tk' t e l tf, Ext s.heap h' → h'.get? t = some (lob [.ref l, .ref e, .int 255 tf]) → h'.get? e = some (bl expL) → h'.get? l = some (bl logL) → R (.ref t) (sh s h' tk')) :
    codeC (model pw w) A (.call (.ref fi) ⟨[], []⟩) R s := by
  obtain ⟨t1, t2, t3, an, pm, c, doc, T, ho, hc, hT⟩ := F
  refine codeC_call_def (binds := [("prim", .int 285 t1), ("generator", .int 2 t2), ("c_exp", .int 8 t3)]) (by have := hR.depth; omega) ho rfl W.gl.lim hc rfl (BindsTo.of_defaults (T := T) rfl hT rfl (by rfl) (by rfl))
    (show ∀ x ∈ (scopeOf sInit.1).names, x.2 ≠ .cell from by decide)
    (show ∀ z ∈ [(("prim" : Str), Value.int 285 t1), ("generator", .int 2 t2), ("c_exp", .int 8 t3)], (scopeOf sInit.1).names.lookup z.1 = some .local from by simp only [List.forall_mem_cons]; exact ⟨by rfl, by rfl, by rfl, fun _ h => nomatch h⟩) fun h₁ hns hk => ?_
  have S := St.start hns hk
  have hR' := hR.deeper (callEnv (fdMk sInit.1 (.ref T) an pm (.ref c) doc) s.heap.objs.size fi)
  generalize A.deeper (callEnv (fdMk sInit.1 (.ref T) an pm (.ref c) doc) s.heap.objs.size fi) = A' at hR' ⊢
  generalize hL : s.heap.objs.size = L at S ⊢
  -- field_charac = int(2 ** c_exp - 1)
  refine wpC_execs_cons (.of ?_)
  walk_at "m"
  refine Call_t1 (fun K k => nmB S W.gl W.oInt W.bInt k) ?_
  iterate 3 walk_at "m"
  refine nm S (by rfl) (powN (x := 2) (y := 8) (by decide) (by decide) ?_)
  iterate 2 walk_at "m"
  rw [show (((2 ^ 8 : Nat) : Int) - 1) = 255 by decide]
  refine PySem.call_int_int (s := sh s h₁ _) ?_
  refine str S fun h₂ S₂ => ?_
  -- gf_exp = _bytearray(field_charac * 2)
  refine wpC_execs_cons (wpC_Assign_Name (wpC_Call_type1 (T := "bytearray") (fun K k => nmG S₂ W.gl W.nBa k) (.of ?_)))
  walk_at "m"
  refine nm S₂ (by rfl) (cst (mulN (x := 255) (y := 2) (by decide) ?_))
  refine baC_int (s := sh s h₂ _) (by decide) (by decide) fun h₃ e₃ hE => ?_
  have S₃ := S₂.alloc e₃ hE
  rw [show ((255 * 2 : Nat) : Int).toNat = 510 from rfl, u8_replicate] at S₃
  generalize h₂.objs.size = E at S₃ ⊢
  refine str S₃ fun h₄ S₄ => ?_
  -- gf_log = _bytearray(field_charac + 1)
  refine wpC_execs_cons (wpC_Assign_Name (wpC_Call_type1 (T := "bytearray") (fun K k => nmG S₄ W.gl W.nBa k) (.of ?_)))
  walk_at "m"
  refine nm S₄ (by rfl) (cst (addN (x := 255) (y := 1) ?_))
  refine baC_int (s := sh s h₄ _) (by decide) (by decide) fun h₅ e₅ hG => ?_
  have hEG : E ≠ h₄.objs.size := Nat.ne_of_lt (S₄.lt (List.mem_singleton.mpr rfl))
  have S₅ := (S₄.alloc e₅ hG).swap
  rw [show ((255 + 1 : Nat) : Int).toNat = 256 from rfl, u8_replicate] at S₅
  generalize h₄.objs.size = G at S₅ hEG ⊢
  refine str S₅ fun h₆ S₆ => ?_
  -- x = 1
  refine wpC_execs_cons (.of ?_)
  iterate 2 walk_at "m"
  refine str S₆ fun h₇ S₇ => ?_
  dsimp only
  -- the first loop
  refine wpC_execs_cons (.of ?_)
  refine For_r1 (hi := 255) (n := 255) S₇ hR'.handled (fun K k => nmG S₇ W.gl W.nXr k) (fun K k => nm S₇ (by rfl) (k _ _)) (by decide) (by decide) rfl
    (fun i m N => m "gf_exp" = some (.ref E) ∧ m "gf_log" = some (.ref G) ∧ (∃ t, m "x" = some (.int (pw2 i : Nat) t)) ∧ m "generator" = some (.int 2 t2) ∧ m "prim" = some (.int 285 t1) ∧ (∃ t, m "field_charac" = some (.int 255 t)) ∧ N = [(E, bl (e1 i)), (G, bl (logAt i))])
    ⟨by rfl, by rfl, ⟨_, by rfl⟩, by rfl, by rfl, ⟨_, by rfl⟩, rfl⟩ ?_ ?_
  · rintro i t m₁ N₁ g₁ h₈ tk₈ hi ⟨m1, m2, ⟨tx, m3⟩, m4, m5, ⟨tf, m6⟩, rfl⟩ hadr eg S₈
    have W₁ := W.ext eg
    walk_at "m"
    refine wpAny_Assign_Subscript ?_
    refine nm S₈ (by exact m3) (nm S₈ (by exact m1) (nm S₈ (by rfl) ?_))
    refine setH i (pw2 i) rfl rfl S₈ (fun p hp => by rw [List.mem_singleton.mp hp]; exact Ne.symm hEG) (by rw [e1_length (by omega)]; decide) (by rw [e1_length (by omega)]; omega) (pw2_lt i) fun h₉ S₉ => ?_
    rw [e1_succ (by omega)] at S₉
    dsimp only
    walk_at "m"
    refine wpAny_Assign_Subscript ?_
    refine nm S₉ (by rfl) (nm S₉ (by exact m2) (nm S₉ (by exact m3) ?_))
    refine setH (pw2 i) i rfl rfl S₉.swap (fun p hp => by rw [List.mem_singleton.mp hp]; exact hEG) (by rw [logAt_length]; decide) (by rw [logAt_length]; exact pw2_lt i) (by omega) fun h₁₀ S₁₀ => ?_
    rw [← logAt_succ hi] at S₁₀
    replace S₁₀ := S₁₀.swap
    dsimp only
    iterate 2 walk_at "m"
    obtain ⟨oN, fdN, hoN, hdN⟩ : ∃ o fd, g₁.get? lut = some o ∧ o.data = .func fd := by obtain ⟨_, _, f⟩ := W₁.fLut; exact f.obj
    refine Call_f4 (o := oN) (fd := fdN) (f := lut) (fun K k => nmG S₁₀ W₁.gl W₁.nLut k) ?_
    refine nm S₁₀ (by exact m3) (nm S₁₀ (by exact m4) (nm S₁₀ (by exact m5) ?_))
    walk_at "m"
    refine nm S₁₀ (by exact m6) (cst (addR ?_))
    rw [show ((255 : Int) + 1) = 256 by decide]
    refine ⟨⟨S₁₀.keep _ _ hoN, hdN⟩, ?_⟩
    refine lut_ok (s := sh s h₁₀ _) (W₁.ext S₁₀.keep) (hR'.le (by decide)) (pw2_lt i) fun v h₁₁ tk₁₁ e₁₁ hv => ?_
    obtain ⟨tv, rfl⟩ := hv
    have S₁₁ := S₁₀.ext e₁₁
    refine str S₁₁ fun h₁₂ S₁₂ => ?_
    dsimp only
    walk_at "m"
    exact Turn.intro S₁₂ rfl ⟨by exact m1, by exact m2, ⟨_, by rfl⟩, by exact m4, by exact m5, ⟨tf, by exact m6⟩, rfl⟩
  rintro m₁ N₁ h₈ tk₈ ⟨m1, m2, _, m4, m5, ⟨tf, m6⟩, rfl⟩ hadr S₈
  dsimp only
  rw [e2_zero] at S₈
  -- the second loop
  refine wpC_execs_cons (.of ?_)
  refine For_r2 (lo := 255) (hi := 510) (n := 255) S₈ hR'.handled (fun K k => nmG S₈ W.gl W.nXr k) (fun tk K k => nm S₈ m6 (k _ _)) (fun tk K k => wpAny_BinOp (nm S₈ m6 (cst (mulN (x := 255) (y := 2) (by decide) (k _ _))))) (by decide) (by decide) (by decide) (by decide) (by decide)
    (fun i m N => m "gf_exp" = some (.ref E) ∧ m "gf_log" = some (.ref G) ∧ m "field_charac" = some (.int 255 tf) ∧ N = [(E, bl (e2 i)), (G, bl logL)])
    ⟨m1, m2, m6, rfl⟩ ?_ ?_
  · rintro i t m₁ N₁ g₁ h₈ tk₈ hi ⟨m1, m2, m6, rfl⟩ hadr eg S₈
    walk_at "m"
    refine wpAny_Assign_Subscript ?_
    walk_at "m"
    refine nm S₈ (by exact m1) ?_
    walk_at "m"
    refine nm S₈ (by rfl) (nm S₈ (by exact m6) (subR ?_))
    refine itN i (by omega) (S₈.get (.head _)) (e2_oct i) (by rw [e2_length (by omega)]; omega) (by rw [e2_length (by omega)]; decide) ?_
    refine nm S₈ (by exact m1) (nm S₈ (by rfl) ?_)
    rw [e2_get hi]
    refine setH (255 + i) (expA.getD i 0) (by omega) rfl S₈ (fun p hp => by rw [List.mem_singleton.mp hp]; exact Ne.symm hEG) (by rw [e2_length (by omega)]; decide) (by rw [e2_length (by omega)]; omega) ((expGo_oct 255).getD i) fun h₉ S₉ => ?_
    rw [e2_succ hi] at S₉
    dsimp only
    walk_at "m"
    exact Turn.intro S₉ rfl ⟨by exact m1, by exact m2, by exact m6, rfl⟩
  rintro m₂ N₂ h₉ tk₉ ⟨n1, n2, n6, rfl⟩ _ S₉
  dsimp only
  rw [e2_last] at S₉
  -- return [gf_log, gf_exp, field_charac]
  refine wpC_execs_cons (.of ?_)
  walk_at "m"
  refine wpAny_List ?_
  refine Calls.spliced_cons (nm S₉ n2 (Calls.spliced_cons (nm S₉ n1 (Calls.spliced_cons (nm S₉ n6 (Calls.spliced_nil ⟨(by decide : 3 ≤ sizeLine), ?_⟩))))))
  have ex := Ext.push h₉ (lob [.ref G, .ref E, .int 255 tf])
  exact B _ _ _ E G tf (S₉.keep.trans ex) (Heap.get?_push_size _ rfl) (ex _ _ (S₉.get (.head _))) (ex _ _ (S₉.get (.tail _ (.head _))))
end Mine
namespace Mine

/-! the module's frame -/
structure Tp (c Pl : Addr) (mg : Str → Option Value) (ps : Array Value) (G h : Heap) : Prop where
  main : h.Main mg c Pl ps
  keep : Ext G h
  offG : G.get? mainGlobals = none
  offP : G.get? Pl = none

section
variable {c Pl : Addr} {mg mg' mb : Str → Option Value} {ps ps' : Array Value} {G h h' : Heap}
theorem hide2_get {b : Addr} {o : Obj} (e : h'.get? b = some o) (h1 : b ≠ mainGlobals) (h2 : b ≠ Pl) : (hideL h' [mainGlobals, Pl]).get? b = some o := hideL_get _ e fun hm => by
  rcases List.mem_cons.mp hm with q | q
  · exact h1 q
  · exact h2 (List.mem_singleton.mp q)
theorem Tp.next (T : Tp c Pl mg ps G h) (hm : h'.Main mg' c Pl ps') (hk : ∀ b o, b ≠ Pl → b ≠ mainGlobals → h.get? b = some o → h'.get? b = some o) :
    ∃ G', Ext G G' ∧ Tp c Pl mg' ps' G' h' ∧ ∀ b o, b ≠ mainGlobals → b ≠ Pl → h'.get? b = some o → G'.get? b = some o := by
  refine ⟨hideL h' [mainGlobals, Pl], fun b o e => ?_, ⟨hm, fun b o e => of_hideL _ e, hideL_none _ (.head _), hideL_none _ (.tail _ (.head _))⟩, fun b o h1 h2 e => hide2_get e h1 h2⟩
  have h1 : b ≠ mainGlobals := by rintro rfl; rw [T.offG] at e; cases e
  have h2 : b ≠ Pl := by rintro rfl; rw [T.offP] at e; cases e
  exact hide2_get (hk b o h2 h1 (T.keep b o e)) h1 h2
theorem Tp.ext (T : Tp c Pl mg ps G h) (e : Ext h h') : ∃ G', Ext G G' ∧ Tp c Pl mg ps G' h' ∧ ∀ b o, b ≠ mainGlobals → b ≠ Pl → h'.get? b = some o → G'.get? b = some o :=
  T.next (T.main.keeps e) fun b o _ _ x => e b o x
theorem Tp.gl (T : Tp c Pl mg ps G h) (hb : G.Ns builtinsNs mb) (hl : G.NoLimit) : Gl h mg mb := ⟨T.main.g, hb.keeps T.keep, hl.keeps T.keep⟩
theorem Tp.ltG (T : Tp c Pl mg ps G h) : mainGlobals < h.objs.size := T.main.g.lt
theorem Tp.ltP (T : Tp c Pl mg ps G h) : Pl < h.objs.size := T.main.code.lt.2
theorem Tp.apart (T : Tp c Pl mg ps G h) {a : Addr} (ha : h.objs.size ≤ a) : a ≠ mainGlobals ∧ a ≠ Pl := ⟨Nat.ne_of_gt (Nat.lt_of_lt_of_le T.ltG ha), Nat.ne_of_gt (Nat.lt_of_lt_of_le T.ltP ha)⟩
end

section
variable {w : World} {A : Around} {E : Value → Shared → Prop} {s : Shared} {c Pl F : Addr} {mg mb : Str → Option Value} {ps : Array Value} {G h : Heap} {tk : Nat}

/-- a name of the module, stored -/
theorem tstr {x : Str} {v : Value} {Q : Unit → Shared → Prop} (T : Tp c Pl mg ps G h) (hx : pw.main.scope.names.lookup x = some .local) (hnb : x ≠ "__builtins__")
    (q : ∀ G' h', Ext G G' → Tp c Pl (up mg x v) ps G' h' → Q () (sh s h' (tk + 1))) : wpAny (model pw w) A (storeName (mainEnv pw c F) x v) Q E (sh s h tk) := by
  refine wpAny_storeName_local (env := mainEnv pw c F) hx T.main.g (fun h' hg' hs' => ?_) (by rfl)
  have hl := T.main.low
  obtain ⟨bm, o, hbm, hne0, hneG, hneP, hbo, hrest⟩ := T.main.bmod
  have hm : h'.Main (up mg x v) c Pl ps := ⟨hg', T.main.code.sameBut hs' (Nat.ne_of_gt hl.1) (Nat.ne_of_gt hl.2), hl,
    ⟨bm, o, by show (if _ = x then some v else mg _) = _; rw [if_neg (Ne.symm hnb)]; exact hbm, hne0, hneG, hneP, (hs'.2 _ hneG).trans hbo, hrest⟩⟩
  obtain ⟨G', e, T', _⟩ := T.next hm fun b o _ hG x => (hs'.2 b hG).trans x
  exact q G' h' e T'

theorem tnmG {x : Str} {pos : Pos} {v : Value} {Q : Value → Shared → Prop} (T : Tp c Pl mg ps G h) (hv : mg x = some v) (q : Q v (sh s h tk)) (hd : (x == ("__debug__" : Str)) = false := by decide) :
    wpAny (model pw w) A (eval (.Name x pos) (mainEnv pw c F)) Q E (sh s h tk) :=
  Calls.Name_module rfl rfl (Calls.loadGlobal_global (env := mainEnv pw c F) T.main.g hv q) hd
theorem tnmB {x : Str} {pos : Pos} {v : Value} {Q : Value → Shared → Prop} (T : Tp c Pl mg ps G h) (hb : G.Ns builtinsNs mb) (hm : mg x = none) (hv : mb x = some v) (q : Q v (sh s h tk)) (hd : (x == ("__debug__" : Str)) = false := by decide) :
    wpAny (model pw w) A (eval (.Name x pos) (mainEnv pw c F)) Q E (sh s h tk) :=
  Calls.Name_module rfl rfl (Calls.loadGlobal_builtin (env := mainEnv pw c F) T.main.g hm (hb.keeps T.keep) hv q) hd

/-- a def of the module -/
theorem tdef {name : Str} {params : Arguments} {body : List Stmt} {scope : Scope} {pos : Pos} {Q : Flow → Shared → Prop} (T : Tp c Pl mg ps G h)
    (hkw : params.kwonlyargs = []) (hkd : params.kw_defaults = []) (hconst : ∀ e ∈ params.defaults, e.isPlainConst = true) (hann0 : annTrees params none (mainEnv pw c F) = [])
    (hfree : ∀ x ∈ scope.names, x.2 ≠ .free) (hloc : pw.main.scope.names.lookup name = some .local)
    (hq : qualnameIn { scope := pw.main.scope, locals := mainGlobals, globals := mainGlobals, cells := [] } name name = name)
    (q : ∀ a c' doc dV vs pm G' h' tk', Ext G G' → Tp c Pl (up mg name (.ref a)) (ps ++ #[rawInt pos.line, rawInt pos.col, .ref c']) G' h' →
      G'.get? a = some { cls := .type "function", data := .func (defFd name name params body scope mainGlobals dV .none none pm (.ref c') doc) } →
      ConstVals params.defaults vs → ((vs = [] ∧ dV = .none) ∨ (vs ≠ [] ∧ ∃ T, dV = .ref T ∧ G'.get? T = some { cls := .type "tuple", data := .seq vs.toArray })) → G'.CodeRec (.ref c') name → Q .next (sh s h' tk'))
    (hnb : name ≠ "__builtins__") (hnf : codeAmong pos ps.toList = none) :
    wpAny (model pw w) A (exec (.FunctionDef name params body [] none [] scope none name pos) (mainEnv pw c F)) Q E (sh s h tk) := by
  refine wpAny_defStmt0 (s := sh s h tk) hkw hkd hconst hann0 hfree hloc hq T.main (fun a c' doc dV vs h' tk' ha hm hf hcv hD hcd keep => ?_) hnb rfl hnf
  obtain ⟨G', e, T', hin⟩ := T.next hm keep
  have ha' := T.apart ha
  have hc' := T.apart hcd.1
  refine q a c' doc dV vs _ G' h' tk' e T' (hin _ _ ha'.1 ha'.2 hf) hcv ?_ ?_
  · rcases hD with hd | ⟨hne, X, e, hX, hg⟩
    · exact .inl hd
    · have hX' := T.apart hX
      exact .inr ⟨hne, X, e, hin _ _ hX'.1 hX'.2 hg⟩
  · obtain ⟨c₂, o₂, vs₂, t₂, e₂, g₂, r₂⟩ := hcd.2
    cases e₂
    exact ⟨c', o₂, vs₂, t₂, rfl, hin _ _ hc'.1 hc'.2 g₂, r₂⟩

/-- drawing from a list -/
theorem draw_list {I a : Addr} {items : Array Value} (hh : A.handled = none) (hne : a ≠ I) : ∀ (k i : Nat) (s : Shared) (Q : List Value → Shared → Prop), i + k ≤ items.size → (s.heap.IsListIter I a i ∧ s.heap.IsList a items) →
    (∀ h' tk, (h'.IsListIter I a (i + k) ∧ h'.IsList a items) → (∀ b o, b ∉ [I] → s.heap.get? b = some o → h'.get? b = some o) → Q ((items.toList.drop i).take k) { s with heap := h', toks := tk }) → wpAny (model pw w) A (draw (.ref I) k) Q E s
  | 0, i, s, Q, _, st, hQ => by
    show wpAny _ _ (pure []) Q E s
    exact wpAny_pure (by simpa using hQ s.heap s.toks st fun _ _ _ e => e)
  | k + 1, i, s, Q, hle, st, hQ => by
    have hlt : i < items.size := by omega
    have W := Walks.list (prog := pw) (w := w) hh I a hne items
    show wpAny _ _ (pyNext (.ref I) >>= _) Q E s
    refine wpAny_bind (W.item i s _ _ hlt st fun v h₁ tk₁ hP st₁ hk₁ => ?_)
    refine wpAny_bind (wpAny_holding (draw_list hh hne k (i + 1) _ _ (by omega) st₁ fun h₂ tk₂ st₂ hk₂ => wpAny_pure ?_))
    have hd : items.toList.drop i = v :: items.toList.drop (i + 1) := by
      have hv : items[i] = v := by simpa [hlt] using hP
      rw [List.drop_eq_getElem_cons (by simpa using hlt)]; simp [hv]
    have := hQ h₂ tk₂ (by rw [show i + (k + 1) = i + 1 + k by omega]; exact st₂) fun b o hb e => hk₂ b o hb (hk₁ b o hb e)
    rw [hd, List.take_succ_cons] at this
    exact this

/-- names out of a list -/
theorem assign_list {env : Env} {elts : List Expr} {x1 : Nat} {pos : Pos} {t : Addr} {items : Array Value} {Q : Unit → Shared → Prop} (hh : A.handled = none) (ht : h.IsList t items)
    (hn : (assignEach elts env).length = items.size) (hstar : (assignEach elts env).findIdx? (·.1) = none)
    (q : ∀ h' tk', Ext h h' → wpAny (model pw w) A (assignInOrder ((assignEach elts env).map (·.2)) items.toList) Q E (sh s h' tk')) :
    wpAny (model pw w) A (assign (.Tuple elts x1 pos) env (.ref t)) Q E (sh s h tk) := by
  have hne : t ≠ h.objs.size := by obtain ⟨o, ho, _⟩ := ht; exact Nat.ne_of_lt (Heap.lt_size ho)
  have W := Walks.list (prog := pw) (w := w) hh h.objs.size t hne items
  rw [arm_assign_Tuple]
  refine wpAny_bind (wpAny_standAt ?_)
  unfold unpack
  rw [hn, hstar]
  refine wpAny_bind (wpAny_holding ?_)
  unfold unpackItems
  refine wpAny_bind ?_
  unfold notIterableAtAll
  refine wpAny_bind (wpAny_specialOf (Heap.IsList.typeIs (s := sh s h tk) ht) PySem.slot_list_iter.lookup ?_)
  refine wpAny_pure ?_
  simp only [Bool.false_eq_true, if_false]
  refine wpAny_bind (wpAny_holding (wpAny_pyIter_list (s := sh s h tk) ht ?_))
  refine wpAny_bind (wpAny_holding (draw_list hh hne items.size 0 _ _ (by omega) ⟨⟨_, Heap.get?_push_size _ rfl, rfl, rfl⟩, ht.push _⟩ fun h₁ tk₁ st₁ hk₁ => ?_))
  have hall : List.take items.size (List.drop 0 items.toList) = items.toList := by
    rw [List.drop_zero]; exact List.take_of_length_le (by simp)
  rw [hall, if_neg (by simp)]
  rw [Nat.zero_add] at st₁
  refine wpAny_bind (wpAny_holding (W.done _ _ _ st₁ fun h₂ tk₂ hk₂ => ?_))
  simp only [Option.isSome_none, Bool.false_eq_true, if_false]
  refine wpAny_pure (q h₂ tk₂ fun b o e => ?_)
  have hb : b ∉ [h.objs.size] := fun hm => absurd (Heap.lt_size e) (by rw [List.mem_singleton.mp hm]; exact Nat.lt_irrefl _)
  exact hk₂ b o hb (hk₁ b o hb (Heap.get?_push_of_some _ e))
end

/-- the module's body, clean -/
theorem flowC_body {w : World} {A : Around} {s : Shared} {stmts : List Stmt} {env : Env} {R : Flow → Shared → Prop} (hann : hasAnns stmts = false) (hdoc : docOf stmts = none)
    (h : wpC (model pw w) (A.deeper env) (execs stmts env) R s) : flowC (model pw w) A (.body stmts env) R s := by
  refine flowC_of_tree ?_
  show wpC _ (A.deeper env) (do blockStart stmts env; return Fin.done (← (execs stmts env).onRaise (leaving env))) _ s
  have hb : blockStart stmts env = pure () := by
    unfold blockStart
    rw [hann, hdoc]
    cases interactive env <;> rfl
  rw [hb]
  exact wpC_bind (wpC_pure (wpC_bind (wpC_onRaise (wpC_mono h fun f s' h' => wpC_pure h'))))
end Mine
namespace Mine

def posOf : Stmt → Pos
  | .FunctionDef _ _ _ _ _ _ _ _ _ pos => pos
  | _ => default
abbrev ps' (ps : Array Value) (st : Stmt) (c' : Addr) : Array Value := ps ++ #[rawInt (posOf st).line, rawInt (posOf st).col, .ref c']
theorem cv_nil {vs : List Value} (h : ConstVals [] vs) : vs = [] := by cases vs with | nil => rfl | cons _ _ => exact h.elim
theorem cv_three {x y z : Expr} {vs : List Value} (h : ConstVals [x, y, z] vs) : ∃ a b c, vs = [a, b, c] := by
  match vs, h with
  | [a, b, c], _ => exact ⟨a, b, c, rfl⟩
theorem none_of {vs : List Value} {dV : Value} {G : Heap} (h : ConstVals [] vs) (hD : (vs = [] ∧ dV = .none) ∨ (vs ≠ [] ∧ ∃ T, dV = .ref T ∧ G.get? T = some { cls := .type "tuple", data := .seq vs.toArray })) : dV = .none := by
  rcases hD with ⟨_, e⟩ | ⟨hne, _⟩
  · exact e
  · exact absurd (cv_nil h) hne

section
variable {w : World} {A : Around} {s : Shared} {c Pl F : Addr} {mg mb : Str → Option Value} {ps : Array Value} {G h : Heap} {tk : Nat} {Q : Flow → Shared → Prop}

theorem tMul (T : Tp c Pl mg ps G h) (hnf : codeAmong (posOf sMul.1) ps.toList = none)
    (q : ∀ a c' G' h' tk', Ext G G' → Tp c Pl (up mg "gf_mul" (.ref a)) (ps' ps sMul.1 c') G' h' → FnAt sMul.1 "gf_mul" G' a → Q .next (sh s h' tk')) :
    wpAny (model pw w) A (exec sMul.1 (mainEnv pw c F)) Q noE (sh s h tk) := by
  refine tdef T (by rfl) (by rfl) (by decide) (by rfl) (by decide) (by rfl) (by rfl) (fun a c' doc dV vs pm G' h' tk' e T' hf hcv hD hcd => ?_) (by decide) hnf
  obtain rfl := none_of hcv hD
  exact q a c' G' h' tk' e T' ⟨none, pm, c', doc, hf, hcd⟩

theorem tAdd (T : Tp c Pl mg ps G h) (hnf : codeAmong (posOf sAdd.1) ps.toList = none)
    (q : ∀ a c' G' h' tk', Ext G G' → Tp c Pl (up mg "gf_poly_add" (.ref a)) (ps' ps sAdd.1 c') G' h' → FnAt sAdd.1 "gf_poly_add" G' a → Q .next (sh s h' tk')) :
    wpAny (model pw w) A (exec sAdd.1 (mainEnv pw c F)) Q noE (sh s h tk) := by
  refine tdef T (by rfl) (by rfl) (by decide) (by rfl) (by decide) (by rfl) (by rfl) (fun a c' doc dV vs pm G' h' tk' e T' hf hcv hD hcd => ?_) (by decide) hnf
  obtain rfl := none_of hcv hD
  exact q a c' G' h' tk' e T' ⟨none, pm, c', doc, hf, hcd⟩

theorem tPmul (T : Tp c Pl mg ps G h) (hnf : codeAmong (posOf sPmul.1) ps.toList = none)
    (q : ∀ a c' G' h' tk', Ext G G' → Tp c Pl (up mg "gf_poly_mul" (.ref a)) (ps' ps sPmul.1 c') G' h' → FnAt sPmul.1 "gf_poly_mul" G' a → Q .next (sh s h' tk')) :
    wpAny (model pw w) A (exec sPmul.1 (mainEnv pw c F)) Q noE (sh s h tk) := by
  refine tdef T (by rfl) (by rfl) (by decide) (by rfl) (by decide) (by rfl) (by rfl) (fun a c' doc dV vs pm G' h' tk' e T' hf hcv hD hcd => ?_) (by decide) hnf
  obtain rfl := none_of hcv hD
  exact q a c' G' h' tk' e T' ⟨none, pm, c', doc, hf, hcd⟩

theorem tDiv (T : Tp c Pl mg ps G h) (hnf : codeAmong (posOf sDiv.1) ps.toList = none)
    (q : ∀ a c' G' h' tk', Ext G G' → Tp c Pl (up mg "gf_poly_div" (.ref a)) (ps' ps sDiv.1 c') G' h' → FnAt sDiv.1 "gf_poly_div" G' a → Q .next (sh s h' tk')) :
    wpAny (model pw w) A (exec sDiv.1 (mainEnv pw c F)) Q noE (sh s h tk) := by
  refine tdef T (by rfl) (by rfl) (by decide) (by rfl) (by decide) (by rfl) (by rfl) (fun a c' doc dV vs pm G' h' tk' e T' hf hcv hD hcd => ?_) (by decide) hnf
  obtain rfl := none_of hcv hD
  exact q a c' G' h' tk' e T' ⟨none, pm, c', doc, hf, hcd⟩

theorem tEv (T : Tp c Pl mg ps G h) (hnf : codeAmong (posOf sEv.1) ps.toList = none)
    (q : ∀ a c' G' h' tk', Ext G G' → Tp c Pl (up mg "gf_poly_eval" (.ref a)) (ps' ps sEv.1 c') G' h' → FnAt sEv.1 "gf_poly_eval" G' a → Q .next (sh s h' tk')) :
    wpAny (model pw w) A (exec sEv.1 (mainEnv pw c F)) Q noE (sh s h tk) := by
  refine tdef T (by rfl) (by rfl) (by decide) (by rfl) (by decide) (by rfl) (by rfl) (fun a c' doc dV vs pm G' h' tk' e T' hf hcv hD hcd => ?_) (by decide) hnf
  obtain rfl := none_of hcv hD
  exact q a c' G' h' tk' e T' ⟨none, pm, c', doc, hf, hcd⟩

theorem tNum (T : Tp c Pl mg ps G h) (hnf : codeAmong (posOf sNum.1) ps.toList = none)
    (q : ∀ a c' G' h' tk', Ext G G' → Tp c Pl (up mg "_law_number" (.ref a)) (ps' ps sNum.1 c') G' h' → FnAt sNum.1 "_law_number" G' a → Q .next (sh s h' tk')) :
    wpAny (model pw w) A (exec sNum.1 (mainEnv pw c F)) Q noE (sh s h tk) := by
  refine tdef T (by rfl) (by rfl) (by decide) (by rfl) (by decide) (by rfl) (by rfl) (fun a c' doc dV vs pm G' h' tk' e T' hf hcv hD hcd => ?_) (by decide) hnf
  obtain rfl := none_of hcv hD
  exact q a c' G' h' tk' e T' ⟨none, pm, c', doc, hf, hcd⟩

theorem tProd (T : Tp c Pl mg ps G h) (hnf : codeAmong (posOf sProd.1) ps.toList = none)
    (q : ∀ a c' G' h' tk', Ext G G' → Tp c Pl (up mg "_law_product" (.ref a)) (ps' ps sProd.1 c') G' h' → FnAt sProd.1 "_law_product" G' a → Q .next (sh s h' tk')) :
    wpAny (model pw w) A (exec sProd.1 (mainEnv pw c F)) Q noE (sh s h tk) := by
  refine tdef T (by rfl) (by rfl) (by decide) (by rfl) (by decide) (by rfl) (by rfl) (fun a c' doc dV vs pm G' h' tk' e T' hf hcv hD hcd => ?_) (by decide) hnf
  obtain rfl := none_of hcv hD
  exact q a c' G' h' tk' e T' ⟨none, pm, c', doc, hf, hcd⟩

theorem tLaw (T : Tp c Pl mg ps G h) (hnf : codeAmong (posOf sLaw.1) ps.toList = none)
    (q : ∀ a c' G' h' tk', Ext G G' → Tp c Pl (up mg "law" (.ref a)) (ps' ps sLaw.1 c') G' h' → FnAt sLaw.1 "law" G' a → Q .next (sh s h' tk')) :
    wpAny (model pw w) A (exec sLaw.1 (mainEnv pw c F)) Q noE (sh s h tk) := by
  refine tdef T (by rfl) (by rfl) (by decide) (by rfl) (by decide) (by rfl) (by rfl) (fun a c' doc dV vs pm G' h' tk' e T' hf hcv hD hcd => ?_) (by decide) hnf
  obtain rfl := none_of hcv hD
  exact q a c' G' h' tk' e T' ⟨none, pm, c', doc, hf, hcd⟩

theorem tInit (T : Tp c Pl mg ps G h) (hnf : codeAmong (posOf sInit.1) ps.toList = none)
    (q : ∀ a c' G' h' tk', Ext G G' → Tp c Pl (up mg "init_tables" (.ref a)) (ps' ps sInit.1 c') G' h' → (∃ t1 t2 t3, FnD sInit.1 "init_tables" [.int 285 t1, .int 2 t2, .int 8 t3] G' a) → Q .next (sh s h' tk')) :
    wpAny (model pw w) A (exec sInit.1 (mainEnv pw c F)) Q noE (sh s h tk) := by
  refine tdef T (by rfl) (by rfl) (by decide) (by rfl) (by decide) (by rfl) (by rfl) (fun a c' doc dV vs pm G' h' tk' e T' hf hcv hD hcd => ?_) (by decide) hnf
  obtain ⟨v1, v2, v3, rfl⟩ := cv_three hcv
  obtain ⟨⟨t1, e1⟩, ⟨t2, e2⟩, ⟨t3, e3⟩, _⟩ := hcv
  change v1 = _ at e1
  change v2 = _ at e2
  change v3 = _ at e3
  subst e1 e2 e3
  rcases hD with ⟨x, _⟩ | ⟨_, X, rfl, hX⟩
  · cases x
  · exact q a c' G' h' tk' e T' ⟨t1, t2, t3, none, pm, c', doc, X, hf, hcd, hX⟩

theorem tLut (T : Tp c Pl mg ps G h) (hnf : codeAmong (posOf sLut.1) ps.toList = none)
    (q : ∀ a c' G' h' tk', Ext G G' → Tp c Pl (up mg "gf_mult_noLUT" (.ref a)) (ps' ps sLut.1 c') G' h' → (∃ t u, FnD sLut.1 "gf_mult_noLUT" [.int 0 t, .int 256 u, .bool true] G' a) → Q .next (sh s h' tk')) :
    wpAny (model pw w) A (exec sLut.1 (mainEnv pw c F)) Q noE (sh s h tk) := by
  refine tdef T (by rfl) (by rfl) (by decide) (by rfl) (by decide) (by rfl) (by rfl) (fun a c' doc dV vs pm G' h' tk' e T' hf hcv hD hcd => ?_) (by decide) hnf
  obtain ⟨v1, v2, v3, rfl⟩ := cv_three hcv
  obtain ⟨⟨t1, e1⟩, ⟨t2, e2⟩, e3, _⟩ := hcv
  change v1 = _ at e1
  change v2 = _ at e2
  change v3 = _ at e3
  subst e1 e2 e3
  rcases hD with ⟨x, _⟩ | ⟨_, X, rfl, hX⟩
  · cases x
  · exact q a c' G' h' tk' e T' ⟨t1, t2, none, pm, c', doc, X, hf, hcd, hX⟩
end
end Mine
open PySem.W
namespace Mine

/-! the top's run -/
def st0 : { x : Stmt // pw.main.body[0]? = some x } := ⟨_, rfl⟩
def st1 : { x : Stmt // pw.main.body[1]? = some x } := ⟨_, rfl⟩
def st2 : { x : Stmt // pw.main.body[2]? = some x } := ⟨_, rfl⟩
def st10 : { x : Stmt // pw.main.body[10]? = some x } := ⟨_, rfl⟩
def st11 : { x : Stmt // pw.main.body[11]? = some x } := ⟨_, rfl⟩
theorem body_eq : behindTheImports pw = [st0.1, st1.1, st2.1, sInit.1, sMul.1, sLut.1, sAdd.1, sPmul.1, sDiv.1, sEv.1, st10.1, st11.1, sNum.1, sProd.1, sLaw.1] := rfl

/-- what the boot leaves -/
structure Bt (mg mb : Str → Option Value) (h : Heap) : Prop where
  g : h.Ns mainGlobals mg
  b : h.Ns builtinsNs mb
  lim : h.NoLimit
  bm : ∃ bm o, mg "__builtins__" = some (.ref bm) ∧ bm ≠ builtinsNs ∧ bm ≠ mainGlobals ∧ h.get? bm = some o ∧ o.cls = .type "module" ∧ o.dict = some builtinsNs ∧ o.data = .plain
  no : ∀ x, x ∉ startupNames → mg x = none
  bLen : mb "len" = some (.builtin "len")
  bMax : mb "max" = some (.builtin "max")
  bMin : mb "min" = some (.builtin "min")
  bRange : mb "range" = some (.type "range")
  bBa : mb "bytearray" = some (.type "bytearray")
  bList : mb "list" = some (.type "list")
  bInt : mb "int" = some (.type "int")

section
variable {w : World} {A : Around} {s : Shared} {c Pl F : Addr} {mg mb : Str → Option Value} {ps : Array Value} {G h : Heap} {tk : Nat} {Q : Flow → Shared → Prop}
theorem t0 (T : Tp c Pl mg ps G h) (q : ∀ t G' h' tk', Ext G G' → Tp c Pl (up mg "__name__" (.str "reedsolo" t)) ps G' h' → Q .next (sh s h' tk')) : wpAny (model pw w) A (exec st0.1 (mainEnv pw c F)) Q noE (sh s h tk) := by
  unfold st0
  dsimp only
  refine wpAny_Assign_Name (Calls.Constant_str (s := sh s h tk) ?_) (by rfl)
  exact tstr T (by rfl) (by decide) fun G' h' e T' => q _ _ _ _ e T'
theorem t11 (T : Tp c Pl mg ps G h) (q : ∀ t G' h' tk', Ext G G' → Tp c Pl (up mg "__name__" (.str "law_md0027_01" t)) ps G' h' → Q .next (sh s h' tk')) : wpAny (model pw w) A (exec st11.1 (mainEnv pw c F)) Q noE (sh s h tk) := by
  unfold st11
  dsimp only
  refine wpAny_Assign_Name (Calls.Constant_str (s := sh s h tk) ?_) (by rfl)
  exact tstr T (by rfl) (by decide) fun G' h' e T' => q _ _ _ _ e T'
theorem t1 (T : Tp c Pl mg ps G h) (hb : G.Ns builtinsNs mb) (ho : mg "bytearray" = none) (hm : mb "bytearray" = some (.type "bytearray"))
    (q : ∀ G' h' tk', Ext G G' → Tp c Pl (up mg "_bytearray" (.type "bytearray")) ps G' h' → Q .next (sh s h' tk')) : wpAny (model pw w) A (exec st1.1 (mainEnv pw c F)) Q noE (sh s h tk) := by
  unfold st1
  dsimp only
  refine wpAny_Assign_Name (tnmB T hb ho hm ?_) (by rfl)
  exact tstr T (by rfl) (by decide) fun G' h' e T' => q _ _ _ e T'
theorem t2 (T : Tp c Pl mg ps G h) (hb : G.Ns builtinsNs mb) (ho : mg "range" = none) (hm : mb "range" = some (.type "range"))
    (q : ∀ G' h' tk', Ext G G' → Tp c Pl (up mg "xrange" (.type "range")) ps G' h' → Q .next (sh s h' tk')) : wpAny (model pw w) A (exec st2.1 (mainEnv pw c F)) Q noE (sh s h tk) := by
  unfold st2
  dsimp only
  refine wpAny_Assign_Name (tnmB T hb ho hm ?_) (by rfl)
  exact tstr T (by rfl) (by decide) fun G' h' e T' => q _ _ _ e T'

theorem NotDict.neG {x : Addr} {o : Obj} (T : Tp c Pl mg ps G h) (hx : h.get? x = some o) (hd : ∀ es ep, o.data ≠ .dict es ep) : x ≠ mainGlobals := by
  rintro rfl
  obtain ⟨oL, es, ep, hL, hdL, _⟩ := T.main.g
  rw [hx] at hL
  cases hL
  exact hd _ _ hdL

/-- gf_log, gf_exp, field_charac = init_tables() -/
theorem t10 {fi lut : Addr} (hR : Room A 2) (T : Tp c Pl mg ps G h) (hb : G.Ns builtinsNs mb) (hl : G.NoLimit) (F1 : ∃ t1 t2 t3, FnD sInit.1 "init_tables" [.int 285 t1, .int 2 t2, .int 8 t3] G fi) (F2 : ∃ t u, FnD sLut.1 "gf_mult_noLUT" [.int 0 t, .int 256 u, .bool true] G lut)
    (n1 : mg "init_tables" = some (.ref fi)) (n2 : mg "gf_mult_noLUT" = some (.ref lut)) (n3 : mg "_bytearray" = some (.type "bytearray")) (n4 : mg "xrange" = some (.type "range")) (n5 : mg "int" = none) (b5 : mb "int" = some (.type "int"))
    (q : ∀ e l t G' h' tk', Ext G G' → Tp c Pl (up (up (up mg "gf_log" (.ref l)) "gf_exp" (.ref e)) "field_charac" (.int 255 t)) ps G' h' → G'.get? e = some (bl expL) → G'.get? l = some (bl logL) → Q .next (sh s h' tk')) :
    wpC (model pw w) A (exec st10.1 (mainEnv pw c F)) Q (sh s h tk) := by
  have f1 : ∃ t1 t2 t3, FnD sInit.1 "init_tables" [.int 285 t1, .int 2 t2, .int 8 t3] h fi := let ⟨a, b, d, x⟩ := F1; ⟨a, b, d, x.ext T.keep⟩
  have f2 : ∃ t u, FnD sLut.1 "gf_mult_noLUT" [.int 0 t, .int 256 u, .bool true] h lut := let ⟨a, b, x⟩ := F2; ⟨a, b, x.ext T.keep⟩
  have hobj : ∃ o fd, h.get? fi = some o ∧ o.data = .func fd := by obtain ⟨_, _, _, x⟩ := f1; exact x.obj
  unfold st10
  dsimp only
  refine wpC_Assign_Tuple (wpC_Call_fn0 (f := fi) (fun K k => tnmG T n1 k) hobj ?_)
  refine init_ok (s := sh s h tk) (lut := lut) (mb := mb) ⟨T.gl hb hl, f2, n2, n3, n4, n5, b5⟩ f1 hR fun h₁ tk₁ t e l tf e₁ ht he hlg => ?_
  refine assign_list (items := #[.ref l, .ref e, .int 255 tf]) hR.handled ⟨_, ht, rfl, _, rfl⟩ rfl rfl fun h₂ tk₂ e₂ => ?_
  obtain ⟨G₂, eg, T₂, hin⟩ := T.ext (e₁.trans e₂)
  have neP : ∀ x b, h₂.get? x = some (bl b) → x ≠ Pl := by
    rintro x b hx rfl
    obtain ⟨_, _, _, _, _, _, _, _, _, op, _, _, _, _, _, _, _, hP, hd, _⟩ := T₂.main.code
    rw [hx] at hP
    cases hP
    cases hd
  have he₂ := hin _ _ (NotDict.neG T₂ (e₂ _ _ he) fun _ _ x => nomatch x) (neP _ _ (e₂ _ _ he)) (e₂ _ _ he)
  have hl₂ := hin _ _ (NotDict.neG T₂ (e₂ _ _ hlg) fun _ _ x => nomatch x) (neP _ _ (e₂ _ _ hlg)) (e₂ _ _ hlg)
  show wpAny _ _ (assignInOrder [assign (.Name "gf_log" _) (mainEnv pw c F), assign (.Name "gf_exp" _) (mainEnv pw c F), assign (.Name "field_charac" _) (mainEnv pw c F)] [.ref l, .ref e, .int 255 tf]) _ _ _
  refine assignInOrder_cons (wpAny_assign_Name (tstr T₂ (by rfl) (by decide) fun G₃ h₃ e₃ T₃ => ?_))
  refine assignInOrder_cons (wpAny_assign_Name (tstr T₃ (by rfl) (by decide) fun G₄ h₄ e₄ T₄ => ?_))
  refine assignInOrder_cons (wpAny_assign_Name (tstr T₄ (by rfl) (by decide) fun G₅ h₅ e₅ T₅ => assignInOrder_nil ?_))
  have e₂₅ := (e₃.trans e₄).trans e₅
  exact q e l tf G₅ h₅ _ (eg.trans e₂₅) T₅ (e₂₅ _ _ he₂) (e₂₅ _ _ hl₂)
end
end Mine
namespace Mine

def ownNames : List Str := ["__name__", "_bytearray", "xrange", "init_tables", "gf_mul", "gf_mult_noLUT", "gf_poly_add", "gf_poly_mul", "gf_poly_div", "gf_poly_eval", "gf_log", "gf_exp", "field_charac", "_law_number", "_law_product", "law"]

/-- what the top leaves -/
structure Left (mg mb : Str → Option Value) (h₀ : Heap) (mg' : Str → Option Value) (fs : Fs) (fl : Addr) (h' : Heap) : Prop where
  kept : ∀ b o, b ≠ mainGlobals → h₀.get? b = some o → h'.get? b = some o
  wd : Wd fs mg' mb h'
  law : FnAt sLaw.1 "law" h' fl
  nLaw : mg' "law" = some (.ref fl)
  same : ∀ x, x ∉ ownNames → mg' x = mg x

theorem top_body {w : World} {A : Around} {s : Shared} {c Pl F : Addr} {mg mb : Str → Option Value} {G h : Heap} {tk : Nat} {R : Flow → Shared → Prop} (hR : Room A 2) (B : Bt mg mb h) (T : Tp c Pl mg #[] G h) (hb : G.Ns builtinsNs mb) (hl : G.NoLimit)
    (q : ∀ h' tk' mg' fs fl G', Ext G G' → Ext G' h' → Wd fs mg' mb h' → FnAt sLaw.1 "law" h' fl → mg' "law" = some (.ref fl) → (∀ x, x ∉ ownNames → mg' x = mg x) → R .next (sh s h' tk')) :
    wpC (model pw w) A (execs [st0.1, st1.1, st2.1, sInit.1, sMul.1, sLut.1, sAdd.1, sPmul.1, sDiv.1, sEv.1, st10.1, st11.1, sNum.1, sProd.1, sLaw.1] (mainEnv pw c F)) R (sh s h tk) := by
  refine wpC_execs_cons (.of (t0 T fun tn G₁ h₁ tk₁ e₁ T₁ => ?_))
  dsimp only
  refine wpC_execs_cons (.of (t1 T₁ (hb.keeps e₁) (by exact B.no "bytearray" (by decide)) B.bBa fun G₂ h₂ tk₂ e₂ T₂ => ?_))
  dsimp only
  have E₂ := e₁.trans e₂
  refine wpC_execs_cons (.of (t2 T₂ (hb.keeps E₂) (by exact B.no "range" (by decide)) B.bRange fun G₃ h₃ tk₃ e₃ T₃ => ?_))
  dsimp only
  have E₃ := E₂.trans e₃
  refine wpC_execs_cons (.of (tInit T₃ (by kernel_rfl) fun fi c₁ G₄ h₄ tk₄ e₄ T₄ F₁ => ?_))
  dsimp only
  have E₄ := E₃.trans e₄
  refine wpC_execs_cons (.of (tMul T₄ (by kernel_rfl) fun fm c₂ G₅ h₅ tk₅ e₅ T₅ F₂ => ?_))
  dsimp only
  have E₅ := E₄.trans e₅
  refine wpC_execs_cons (.of (tLut T₅ (by kernel_rfl) fun lut c₃ G₆ h₆ tk₆ e₆ T₆ F₃ => ?_))
  dsimp only
  have E₆ := E₅.trans e₆
  refine wpC_execs_cons (.of (tAdd T₆ (by kernel_rfl) fun fa c₄ G₇ h₇ tk₇ e₇ T₇ F₄ => ?_))
  dsimp only
  have E₇ := E₆.trans e₇
  refine wpC_execs_cons (.of (tPmul T₇ (by kernel_rfl) fun fp c₅ G₈ h₈ tk₈ e₈ T₈ F₅ => ?_))
  dsimp only
  have E₈ := E₇.trans e₈
  refine wpC_execs_cons (.of (tDiv T₈ (by kernel_rfl) fun fd c₆ G₉ h₉ tk₉ e₉ T₉ F₆ => ?_))
  dsimp only
  have E₉ := E₈.trans e₉
  refine wpC_execs_cons (.of (tEv T₉ (by kernel_rfl) fun fe c₇ G₁₀ h₁₀ tk₁₀ e₁₀ T₁₀ F₇ => ?_))
  dsimp only
  have E₁₀ := E₉.trans e₁₀
  have x₁ : ∃ t1 t2 t3, FnD sInit.1 "init_tables" [.int 285 t1, .int 2 t2, .int 8 t3] G₁₀ fi := let ⟨a, b, d, x⟩ := F₁; ⟨a, b, d, x.ext (((((e₅.trans e₆).trans e₇).trans e₈).trans e₉).trans e₁₀)⟩
  have x₂ : ∃ t u, FnD sLut.1 "gf_mult_noLUT" [.int 0 t, .int 256 u, .bool true] G₁₀ lut := let ⟨a, b, x⟩ := F₃; ⟨a, b, x.ext (((e₇.trans e₈).trans e₉).trans e₁₀)⟩
  refine wpC_execs_cons (t10 hR T₁₀ (hb.keeps E₁₀) (hl.keeps E₁₀) x₁ x₂ (by rfl) (by rfl) (by rfl) (by rfl) (by exact B.no "int" (by decide)) B.bInt fun ae al tf G₁₁ h₁₁ tk₁₁ e₁₁ T₁₁ hE hG => ?_)
  dsimp only
  have E₁₁ := E₁₀.trans e₁₁
  refine wpC_execs_cons (.of (t11 T₁₁ fun tn' G₁₂ h₁₂ tk₁₂ e₁₂ T₁₂ => ?_))
  dsimp only
  refine wpC_execs_cons (.of (tNum T₁₂ (by kernel_rfl) fun fn c₈ G₁₃ h₁₃ tk₁₃ e₁₃ T₁₃ F₈ => ?_))
  dsimp only
  refine wpC_execs_cons (.of (tProd T₁₃ (by kernel_rfl) fun fq c₉ G₁₄ h₁₄ tk₁₄ e₁₄ T₁₄ F₉ => ?_))
  dsimp only
  refine wpC_execs_cons (.of (tLaw T₁₄ (by kernel_rfl) fun fl c₁₀ G₁₅ h₁₅ tk₁₅ e₁₅ T₁₅ F₁₀ => ?_))
  refine wpC_execs_nil ?_
  have k := T₁₅.keep
  have y₁₄ : Ext G₁₄ h₁₅ := e₁₅.trans k
  have y₁₃ : Ext G₁₃ h₁₅ := e₁₄.trans y₁₄
  have y₁₂ : Ext G₁₂ h₁₅ := e₁₃.trans y₁₃
  have y₁₁ : Ext G₁₁ h₁₅ := e₁₂.trans y₁₂
  have y₁₀ : Ext G₁₀ h₁₅ := e₁₁.trans y₁₁
  have y₉ : Ext G₉ h₁₅ := e₁₀.trans y₁₀
  have y₈ : Ext G₈ h₁₅ := e₉.trans y₉
  have y₇ : Ext G₇ h₁₅ := e₈.trans y₈
  have y₆ : Ext G₆ h₁₅ := e₇.trans y₇
  have y₅ : Ext G₅ h₁₅ := e₆.trans y₆
  have E₁₅ : Ext G G₁₅ := (((E₁₁.trans e₁₂).trans e₁₃).trans e₁₄).trans e₁₅
  have hW : Wd { mul := fm, add := fa, pmul := fp, div := fd, ev := fe, num := fn, prod := fq, exp := ae, log := al } _ mb h₁₅ := {
      gl := T₁₅.gl (hb.keeps E₁₅) (hl.keeps E₁₅)
      exp := y₁₁ _ _ hE
      log := y₁₁ _ _ hG
      fMul := F₂.ext y₅
      fAdd := F₄.ext y₇
      fPmul := F₅.ext y₈
      fDiv := F₆.ext y₉
      fEv := F₇.ext y₁₀
      fNum := F₈.ext y₁₃
      fProd := F₉.ext y₁₄
      nMul := by rfl
      nAdd := by rfl
      nPmul := by rfl
      nDiv := by rfl
      nEv := by rfl
      nNum := by rfl
      nProd := by rfl
      nExp := by rfl
      nLog := by rfl
      nFc := ⟨tf, by rfl⟩
      nBa := by rfl
      nXr := by rfl
      oLen := by exact B.no "len" (by decide)
      oMax := by exact B.no "max" (by decide)
      oMin := by exact B.no "min" (by decide)
      oRange := by exact B.no "range" (by decide)
      oBa := by exact B.no "bytearray" (by decide)
      oList := by exact B.no "list" (by decide)
      bLen := B.bLen
      bMax := B.bMax
      bMin := B.bMin
      bRange := B.bRange
      bBa := B.bBa
      bList := B.bList }
  refine q h₁₅ tk₁₅ _ _ fl G₁₅ E₁₅ k hW (F₁₀.ext k) (by rfl) ?_
  · intro x hx
    simp only [ownNames, List.mem_cons, List.not_mem_nil, or_false, not_or] at hx
    simp only [up, hx, if_false]

theorem top_ok {w : World} {s : Shared} {mg mb : Str → Option Value} {R : Shared → Prop} (B : Bt mg mb s.heap)
    (q : ∀ h' tk' mg' fs fl, Left mg mb s.heap mg' fs fl h' → R (sh s h' tk')) :
    wpC (model pw w) callerA (topStub pw).cur (fun fin s' => (∃ f, fin = .done f) ∧ R s') s := by
  show wpC _ _ (do let code ← moduleCode pw.main
                   let frame ← newBodyFrame code mainNs mainNs
                   let _ ← run (.body (behindTheImports pw) { scope := pw.main.scope, locals := mainNs, globals := mainNs, cells := [], code, frame := some frame })
                   ret .none) _ _
  refine wpC_bind_of (wpAny_moduleCode fun c Pl h₁ tk₁ hk₁ hc hPl hcode => ?_)
  unfold newBodyFrame
  refine wpC_bind_of (wpAny_bind (wpAny_nsGet (B.g.keeps hk₁) (wpAny_alloc ?_)))
  refine wpC_bind (wpC_run rfl (flowC_body (by rfl) (by rfl) ?_))
  rw [body_eq]
  generalize hfr : ({ cls := .type "frame", slots := _ } : Obj) = fr
  have e₂ : Ext s.heap (h₁.push fr) := Ext.trans hk₁ (Ext.push h₁ fr)
  obtain ⟨bm, o, b1, b2, b3, b4, b5⟩ := B.bm
  have hm : (h₁.push fr).Main mg c Pl #[] := ⟨B.g.keeps e₂, hcode.push _, ⟨Nat.lt_of_lt_of_le B.g.lt hc, Nat.lt_of_lt_of_le B.g.lt hPl⟩, ⟨bm, o, b1, b2, b3, Nat.ne_of_lt (Nat.lt_of_lt_of_le (Heap.lt_size b4) hPl), e₂ _ _ b4, b5⟩⟩
  have T : Tp c Pl mg #[] (hideL (h₁.push fr) [mainGlobals, Pl]) (h₁.push fr) := ⟨hm, fun b o e => of_hideL _ e, hideL_none _ (.head _), hideL_none _ (.tail _ (.head _))⟩
  have eG : ∀ b o, b ≠ mainGlobals → s.heap.get? b = some o → (hideL (h₁.push fr) [mainGlobals, Pl]).get? b = some o := fun b o hb e => hide2_get (e₂ b o e) hb (Nat.ne_of_lt (Nat.lt_of_lt_of_le (Heap.lt_size e) hPl))
  have hb : (hideL (h₁.push fr) [mainGlobals, Pl]).Ns builtinsNs mb := B.b.at fun o e => eG _ o (by decide) e
  have hl : (hideL (h₁.push fr) [mainGlobals, Pl]).NoLimit := B.lim.at fun o e => eG _ o (by decide) e
  have B' : Bt mg mb (h₁.push fr) := { B with g := hm.g, b := B.b.keeps e₂, lim := B.lim.keeps e₂, bm := ⟨bm, o, b1, b2, b3, e₂ _ _ b4, b5⟩ }
  have hR : Room (callerA.deeper (mainEnv pw c h₁.objs.size)) 2 := ⟨rfl, by show 1 + claimMargin + 1 + 2 < recursionLimit; decide, by show 4 + 3 + 10 * 2 + 100 < cLine; decide⟩
  refine top_body (s := s) (c := c) (Pl := Pl) hR B' T hb hl fun h' tk' mg' fs fl G' eg ek hW hF hn hs => wpC_pure ⟨⟨_, rfl⟩, q h' tk' mg' fs fl ⟨fun b o hb e => ek b o (eg b o (eG b o hb e)), hW, hF, hn, hs⟩⟩
end Mine
namespace Mine
open Sem (wp)

abbrev callerΓ : Ctx := ⟨.builtin "claim.caller" {}, none, none, [], none⟩
theorem clean_caller : Clean callerΓ := ⟨by decide +kernel, fun _ h => nomatch h⟩

theorem run_top {w : World} {s : Shared} {tree : Sem Fin} {R : Shared → Prop} (hz : s.asleep) (hg : ∀ s', R s' → s'.gens = #[])
    (h : wpC (model pw w) callerA tree (fun fin s' => (∃ f, fin = .done f) ∧ R s') s) :
    ∃ n t σ s', schedN (denote table) pw w n (.single s ⟨tree, .builtin "claim.caller" {}, default, []⟩) = .running (.single σ t) ∧ through t = true ∧ σ.heap.life = s.heap.life ∧ σ.heap = s'.heap ∧ σ.os = s'.os ∧ σ.gens = #[] ∧ R s' := by
  have hwp := h callerΓ default caller_in clean_caller
  have h1 : wp (model pw w) callerΓ tree (Sem.finPost (model pw w) callerΓ fun r s' => True ∧ leftWithCleanup s'.gens = false) (fun e _ s' => True ∧ leftWithCleanup s'.gens = false) default s := by
    refine Sem.wp_mono _ _ _ (fun fin p' s' h' => ?_) (fun _ _ _ h' => h'.elim) _ _ hwp
    obtain ⟨⟨f, rfl⟩, hR⟩ := h'
    exact ⟨trivial, leftWithCleanup_false_of_bare (AllBare.of_eq (hg s' hR))⟩
  obtain ⟨n0, r, s1, hn0, _⟩ := (wp_iff_halts (M := model pw w) tree (fun _ _ => True) default s).mp h1
  obtain ⟨s2, hr, hf, hc⟩ := runNI_real (denote table) pw w hn0 (outcomeOf_ends r)
  have hne : ∀ k s₂, runN (denote table) pw w k s ⟨tree, .builtin "claim.caller" {}, default, []⟩ ≠ .halted (.unsupported "lifetime:generator-with-cleanup-left-suspended") s₂ := by
    intro k s₂ hk
    have a := runN_mono (denote table) pw w n0 k s _ _ _ hr
    have b := runN_mono (denote table) pw w k n0 s _ _ s₂ hk
    rw [Nat.add_comm, b] at a
    injection a with a1 _
    have he := outcomeOf_ends r
    rw [← a1] at he
    cases he
  obtain ⟨n, s', σ, p', leaf, hrun, hfo, hl⟩ := wp_reaches (M := model pw w) (c := .builtin "claim.caller" {}) hwp
  rcases hl with ⟨a, rfl, ⟨⟨f, rfl⟩, hR⟩⟩ | ⟨e, _, hF⟩
  · obtain ⟨e1, _, _, e4, e5⟩ := Shared.forget_eq hfo
    refine ⟨n, _, σ, s', (schedN_eq_runN (denote table) pw w s _ hz ⟨hc, hne⟩ n).trans (congrArg Run.lift hrun), rfl, runN_life_running hrun, e1, e4, ?_, hR⟩
    rw [hg s' hR] at e5
    have : σ.gens.size = 0 := by have := congrArg Array.size e5; simpa using this
    exact Array.eq_empty_of_size_eq_zero this
  · exact hF.elim

/-! the boot -/
theorem opening_pw : opening pw = plainProg pw.main.scope.names := rfl
theorem fence_pw (s : Shared) : fenceModules? pw s = some s := rfl

theorem behind_pw (w : World) : (∃ s, AfterRun (opening pw) w s) ∧ ∀ s, AfterRun (opening pw) w s → ∃ s₀, fenceModules? pw s = some s₀ ∧ s₀.gens = #[] ∧ s₀.asleep ∧ s₀.heap = boot_heap w.params := by
  have h := boot_open (p := pw) (N := 600) opening_pw (by decide) fence_pw w
  rw [← table_eq_tree] at h
  obtain ⟨s₀, h1, e⟩ := Option.map_eq_some_iff.mp h
  obtain ⟨s, h4, h5⟩ := Option.bind_eq_some_iff.mp h1
  have A := AfterImport.of_importEnds h4
  refine ⟨⟨s, A⟩, fun s' hs' => ?_⟩
  obtain rfl : s' = s := AfterImport.unique hs' A
  exact ⟨s₀, h5, congrArg (fun x => x.2.1) e, Shared.asleep_of_life (fence_lifeW h5) A.life, congrArg (fun x => x.1) e⟩

theorem boot_isG (P : Params) : (boot_heap P).isNs mainGlobals = true := by kernel_rfl
theorem boot_isB (P : Params) : (boot_heap P).isNs builtinsNs = true := by kernel_rfl
theorem boot_isC (P : Params) : (boot_heap P).isNs cStatics = true := by kernel_rfl
theorem boot_keysG (P : Params) : (boot_heap P).nsKeys mainGlobals = startupNames := by kernel_rfl
theorem boot_keysC (P : Params) : (boot_heap P).nsKeys cStatics = [] := by kernel_rfl
theorem boot_view (P : Params) : (boot_heap P).bltView = bltViewBooted := by kernel_rfl
theorem boot_blt (P : Params) {x : Str} (hx : x ≠ "__name__") : (boot_heap P).nsMap builtinsNs x = bootBuiltins x := Heap.of_bltView (boot_isB P) (boot_view P) x hx

theorem boot_bt (P : Params) : Bt ((boot_heap P).nsMap mainGlobals) ((boot_heap P).nsMap builtinsNs) (boot_heap P) where
  g := .of_isNs (boot_isG P)
  b := .of_isNs (boot_isB P)
  lim := ⟨_, .of_isNs (boot_isC P), Heap.nsMap_none (by rw [boot_keysC]; exact List.not_mem_nil)⟩
  bm := ⟨4, { cls := .type "module", dict := some builtinsNs }, by kernel_rfl, by decide, by decide, by kernel_rfl, rfl, rfl, rfl⟩
  no := fun x hx => Heap.nsMap_none (by rw [boot_keysG]; exact hx)
  bLen := (boot_blt P (by decide)).trans (by kernel_rfl)
  bMax := (boot_blt P (by decide)).trans (by kernel_rfl)
  bMin := (boot_blt P (by decide)).trans (by kernel_rfl)
  bRange := (boot_blt P (by decide)).trans (by kernel_rfl)
  bBa := (boot_blt P (by decide)).trans (by kernel_rfl)
  bList := (boot_blt P (by decide)).trans (by kernel_rfl)
  bInt := (boot_blt P (by decide)).trans (by kernel_rfl)
end Mine
namespace Mine
open Sem (wp)

abbrev rw0 : OpenLaw := PySem.Challenge.rw_md0027_01
abbrev C0 : ClaimW := rw0.row.toRowW.claim

theorem ints_of : ∀ {xs : List WData}, WShape.hasItems [] xs .int = true → ∃ ns : List Int, xs = ns.map .int
  | [], _ => ⟨[], rfl⟩
  | x :: xs, h => by
    have h' : WShape.has [] x .int = true ∧ WShape.hasItems [] xs .int = true := by simpa [WShape.hasItems] using h
    obtain ⟨i, rfl⟩ := hasW_int h'.1
    obtain ⟨ns, rfl⟩ := ints_of h'.2
    exact ⟨i :: ns, rfl⟩
theorem args_of {args : List WData} (h : C0.pre args = true) : ∃ ns : List Int, args = [.list (ns.map .int)] ∧ ns.length ≤ 63 := by
  obtain ⟨h1, h2⟩ := pre_splitW h
  obtain ⟨d, r, rfl, hd, hr⟩ := hasAllW_cons (show WShape.hasAll [] args [.list .int] = true from h1)
  obtain rfl := hasAllW_nil hr
  obtain ⟨xs, rfl, hx⟩ := hasW_list hd
  obtain ⟨ns, rfl⟩ := ints_of hx
  refine ⟨ns, rfl, ?_⟩
  have h3 : (WTm.and (.not (.lt (.lit (.int 63)) (.len (.arg 0)))) (.lit (.bool true))).holds [] { args := [.list (ns.map .int)] } = true := h2
  simp [WTm.holds, WTm.value, less?] at h3
  rw [show Num.less? (WData.int 63) (WData.int (ns.length : Int)) = some (decide ((63 : Int) < (ns.length : Int))) from rfl] at h3
  by_cases hlt : (63 : Int) < (ns.length : Int)
  · simp [hlt] at h3
  · omega

theorem reads_ints {cl : Str → Option Addr} {h : Heap} : ∀ {ns : List Int} {vs : List Value} {as : List Addr}, ReadsAllW [] cl h vs (ns.map .int) as → vs.length = ns.length ∧ ∀ i (hi : i < ns.length), ∃ t, vs[i]? = some (.int ns[i] t)
  | [], vs, as, r => by cases r with | nil => exact ⟨rfl, fun _ hi => nomatch hi⟩
  | n :: ns, vs, as, r => by
    cases r with
    | cons r1 r2 =>
      obtain ⟨e, f⟩ := reads_ints r2
      cases r1 with
      | int _ t =>
        refine ⟨by simp [e], fun i hi => ?_⟩
        cases i with
        | zero => exact ⟨t, rfl⟩
        | succ i => obtain ⟨u, hu⟩ := f i (by simpa using hi); exact ⟨u, by simpa using hu⟩
theorem reads_IL {cl : Str → Option Addr} {h : Heap} {ns : List Int} {vs : List Value} {as : List Addr} (r : ReadsAllW [] cl h vs [.list (ns.map .int)] as) : ∃ p, vs = [.ref p] ∧ IL h p ns := by
  cases r with
  | cons r1 r2 =>
    cases r2 with
    | nil =>
      cases r1 with
      | list h1 h2 h3 h4 =>
        rename_i a o vs n as
        obtain ⟨e, f⟩ := reads_ints h4
        exact ⟨_, rfl, vs.toList, ⟨_, h1, h2, n, by simpa using h3⟩, e, f⟩

/-! the top has run -/
theorem top_ran {w : World} {s₀ : Shared} (hz : s₀.asleep) (hg : s₀.gens = #[]) (hh : s₀.heap = boot_heap w.params) :
    ∃ s₁ mg' fs fl, TopRan pw w s₀ s₁ ∧ s₁.asleep ∧ s₁.gens = #[] ∧ s₁.os = s₀.os ∧ Left ((boot_heap w.params).nsMap mainGlobals) ((boot_heap w.params).nsMap builtinsNs) s₀.heap mg' fs fl s₁.heap := by
  have B : Bt ((boot_heap w.params).nsMap mainGlobals) ((boot_heap w.params).nsMap builtinsNs) s₀.heap := by rw [hh]; exact boot_bt _
  obtain ⟨n, t, σ, s', hrun, ht, hl, e1, e2, e3, h', tk', mg', fs, fl, hs', L⟩ := run_top (w := w) (s := s₀) (tree := (topStub pw).cur)
    (R := fun s' => ∃ h' tk' mg' fs fl, s' = sh s₀ h' tk' ∧ Left ((boot_heap w.params).nsMap mainGlobals) ((boot_heap w.params).nsMap builtinsNs) s₀.heap mg' fs fl h') hz
    (fun s' ⟨h', tk', mg', fs, fl, e, _⟩ => by rw [e]; exact hg) (top_ok B fun h' tk' mg' fs fl L => ⟨h', tk', mg', fs, fl, rfl, L⟩)
  subst hs'
  have e1' : σ.heap = h' := e1
  have L' : Left ((boot_heap w.params).nsMap mainGlobals) ((boot_heap w.params).nsMap builtinsNs) s₀.heap mg' fs fl σ.heap := by rw [e1']; exact L
  have hos : σ.os = s₀.os := e2
  have gl := L'.wd.gl
  refine ⟨σ, mg', fs, fl, ⟨⟨n, t, hrun, ht⟩, hl, Shared.rest_eq hos, fun b o hb hn => L'.kept b o (fun q => hn (.inl q)) hb, ?_, ?_, Pin.keysAreStrs_of_ns gl.g, ?_, ?_, ?_, ?_, ?_⟩, Shared.asleep_of_life hl hz, e3, hos, L'⟩
  · -- statics accounted
    have hC : σ.heap.isNs cStatics = true := by
      obtain ⟨o, es, ep, ho, _⟩ := Heap.Ns.of_isNs (hh ▸ boot_isC w.params : s₀.heap.isNs cStatics = true)
      have h1 := boot_isC w.params
      rw [← hh] at h1
      unfold Heap.isNs at h1 ⊢
      rw [L'.kept _ _ (by decide) ho]
      rw [ho] at h1
      exact h1
    intro key v hv
    have hk := boot_keysC w.params
    rw [← hh] at hk
    obtain ⟨o, es, ep, ho, _⟩ := Heap.Ns.of_isNs (hh ▸ boot_isC w.params : s₀.heap.isNs cStatics = true)
    have : staticOf s₀.heap key = none := (Pin.staticOf_eq (hh ▸ boot_isC w.params) key).trans (Heap.nsMap_none (by rw [hk]; exact List.not_mem_nil))
    have e : staticOf σ.heap key = staticOf s₀.heap key := by unfold staticOf; rw [L'.kept _ _ (by decide) ho, ho]
    rw [e, this] at hv
    cases hv
  · intro key
    obtain ⟨o, es, ep, ho, _⟩ := Heap.Ns.of_isNs (hh ▸ boot_isC w.params : s₀.heap.isNs cStatics = true)
    exact .inl (by unfold staticOf; rw [L'.kept _ _ (by decide) ho, ho])
  · intro name hne
    obtain ⟨o, es, ep, ho, _⟩ := Heap.Ns.of_isNs (hh ▸ boot_isB w.params : s₀.heap.isNs builtinsNs = true)
    have e : builtinOf σ.heap name = builtinOf s₀.heap name := by unfold builtinOf; rw [L'.kept _ _ (by decide) ho, ho]
    rw [e, hh]
    exact (Pin.builtinOf_eq (boot_isB _) name).trans (boot_blt _ hne)
  · obtain ⟨bm, o, b1, b2, b3, b4, b5, b6, _⟩ := B.bm
    exact ⟨bm, o, (PySem.Claim2Try.globalOf_of_ns gl.g _).trans ((L'.same _ (by decide)).trans b1), L'.kept _ _ b3 b4, b5, b6⟩
  · rw [e3]; intro g hg; cases hg; contradiction
  · intro x v hv
    rw [PySem.Claim2Try.globalOf_of_ns gl.g] at hv
    by_cases hx : x ∈ ownNames
    · exact .inr ((by decide : ∀ y ∈ ownNames, y ∈ pw.boundNames) x hx)
    · rw [L'.same x hx] at hv
      by_cases hx2 : x ∈ startupNames
      · exact .inl hx2
      · rw [B.no x hx2] at hv; cases hv
  · intro x hx
    rw [PySem.Claim2Try.globalOf_of_ns gl.g, PySem.Claim2Try.globalOf_of_ns B.g, L'.same x ((by decide : ∀ y ∈ laidNames, y ∉ ownNames) x hx)]

theorem law_pinned {mg mb : Str → Option Value} {h₀ h : Heap} {mg' : Str → Option Value} {fs : Fs} {fl : Addr} (L : Left mg mb h₀ mg' fs fl h) : isTheDefsW pw h "law" := by
  obtain ⟨an, pm, c, doc, ho, hc⟩ := L.law
  exact ⟨fl, _, _, _, _, _, (PySem.Claim2Try.globalOf_of_ns L.wd.gl.g _).trans L.nLaw, ho, rfl, by rfl, by rfl, by rfl, rfl, rfl, rfl, by rfl, by rfl, by rfl, .inl ⟨by rfl, by rfl⟩, [], by rfl, .inl ⟨rfl, by rfl⟩⟩
end Mine
namespace Mine
open Sem (wp)

/-! the call -/
theorem post0 (args : List WData) : C0.post args (.bool true) args = true := by
  show (WShape.has [] (.bool true) .bool && WTm.holds [] (.eq .res (.lit (.bool true))) { args := args, res := some (.bool true), after := args }) = true
  simp [WShape.has, WShape.arms, WTm.holds, WTm.value, same]
theorem call_from {w : World} {s₁ : Shared} {mg mb : Str → Option Value} {h₀ : Heap} {mg' : Str → Option Value} {fs : Fs} {fl : Addr} {free : Addr → Prop} {gens : Prop} {kept : Heap → Prop} (hz : s₁.asleep) (hg : s₁.gens = #[]) (L : Left mg mb h₀ mg' fs fl s₁.heap) (hk : ∀ h, kept h) :
    C0.CallFrom (callStub "law") w free gens kept s₁ := by
  intro args hpre hlay ord hord
  obtain ⟨ns, rfl, hlen⟩ := args_of hpre
  obtain ⟨⟨vs, s₂⟩, hlaid⟩ := Option.isSome_iff_exists.mp (layAllW_isSome (R := C0.records) (cl := classAt s₁.heap) (P := w.params) (ord := ord) (fun c hc => nomatch hc) [.list (ns.map .int)] rw0.row.args s₁ (pre_splitW hpre).1)
  have keeps := layAllW_keeps _ _ _ hlaid
  have hal := layAllW_rest _ _ _ hlaid
  obtain ⟨as, hrd, hin, hold⟩ := reads_layAllW hord _ _ _ hlaid hlay s₂.heap (fun _ _ e => e)
  obtain ⟨p, rfl, hp⟩ := reads_IL hrd
  have W₂ : Wd fs mg' mb s₂.heap := L.wd.ext keeps
  have F₂ : FnAt sLaw.1 "law" s₂.heap fl := L.law.ext keeps
  have hg₂ : s₂.gens = #[] := hal.1.trans hg
  have hR : Room callerA 4 := ⟨rfl, by show 1 + claimMargin + 4 < recursionLimit; decide, by show 4 + 10 * 4 + 100 < cLine; decide⟩
  have hwp : wpC (model pw w) callerA (callStub "law" [.ref p]).cur (fun fin s' => ∃ v, fin = .done (.ret v) ∧ GoodW C0 (classAt s₁.heap) (ExcName.means s₁.heap) [.list (ns.map .int)] s₂ (.ok (.ret v)) s') s₂ := by
    show wpC _ _ (do match ← nsGet mainNs "law" with
                     | some f => do ret (← call f [.ref p])
                     | none => unsupported "claim.caller:no-such-global") _ _
    refine wpC_bind_of (wpAny_nsGet W₂.gl.g ?_)
    rw [L.nLaw]
    refine wpC_bind (wpC_call (law_ok W₂ F₂ hR hp hlen fun h' tk' e => wpC_pure ⟨_, rfl, ?_⟩))
    exact ⟨.inl ⟨.bool true, .bool true, [], rfl, fun _ => rfl, .bool true, post0 _, fun _ => ⟨List.nodup_nil, fun _ h => nomatch h⟩⟩, e, rfl, hg₂⟩
  have hz₂ : s₂.asleep := Shared.asleep_of_life hal.2.2.2 hz
  have hwp2 : wp (model pw w) callerΓ (callStub "law" [.ref p]).cur (Sem.finPost (model pw w) callerΓ fun r s' => (∃ v, r = .ok (.ret v) ∧ GoodW C0 (classAt s₁.heap) (ExcName.means s₁.heap) [.list (ns.map .int)] s₂ (.ok (.ret v)) s') ∧ leftWithCleanup s'.gens = false)
      (fun e _ s' => (∃ v, (.error e : Result) = .ok (.ret v) ∧ GoodW C0 (classAt s₁.heap) (ExcName.means s₁.heap) [.list (ns.map .int)] s₂ (.ok (.ret v)) s') ∧ leftWithCleanup s'.gens = false) default s₂ := by
    refine Sem.wp_mono _ _ _ (fun fin p' s' h' => ?_) (fun _ _ _ h' => h'.elim) _ _ (hwp callerΓ default caller_in clean_caller)
    obtain ⟨v, rfl, g⟩ := h'
    exact ⟨⟨v, rfl, g⟩, leftWithCleanup_false_of_bare (AllBare.of_eq g.2.2.2)⟩
  obtain ⟨k, r, s', s'', hsched, hrun, hfo, v, rfl, g⟩ := wp_halts_full (M := model pw w) (c := .builtin "claim.caller" {}) (R := fun r s' => ∃ v, r = .ok (.ret v) ∧ GoodW C0 (classAt s₁.heap) (ExcName.means s₁.heap) [.list (ns.map .int)] s₂ (.ok (.ret v)) s') hz₂ hwp2
  obtain ⟨eh, _, _, eo, _⟩ := Shared.forget_eq hfo
  have E := g.ends (c := C0) rfl (ident_freeW (r := rw0.row.toRowW) rfl rfl rfl) hord hlaid hlay
  have E' := E.1.congr eh
  have hos : s''.os = s₁.os := eo.trans E.2.1
  have hlife : s''.heap.life = s₁.heap.life := (runN_life _ _ _ hrun).trans hal.2.2.2
  refine ⟨[.ref p], s₂, hlaid, k, _, s'', hsched, ?_, (fun _ i x hx => by rw [hg] at hx; simp at hx), hk _, by rw [hlife], Shared.rest_eq hos⟩
  rcases E' with ⟨v, hv, d1, d2, d3, d4, d5⟩ | ⟨e, ob, cls, hv, _⟩
  · cases hv
    exact .inl ⟨v, rfl, d1, d2, d3, fun b o y _ => d4 b o y, d5⟩
  · cases hv

theorem promised0 : rw0.row.toRowW.promised := ⟨[.list []], by decide +kernel, by decide +kernel⟩
theorem bare0 : pw.bare := ⟨rfl, rfl, rfl, rfl, rfl, by decide +kernel⟩
theorem opens0 : opensWell pw = true := by decide +kernel

theorem open_by : C0.HoldsOpenBy (callStub rw0.row.name) (if rw0.row.pinned then [rw0.row.name] else []) rw0.row.keeps rw0.row.writes := by
  refine ⟨⟨bare0, opens0, rfl⟩, promised0.witness, fun w => ⟨(behind_pw w).1, fun s hs => ?_⟩⟩
  obtain ⟨s₀, h1, h2, h3, h4⟩ := (behind_pw w).2 s hs
  obtain ⟨s₁, mg', fs, fl, T, hz, hg, hos, L⟩ := top_ran h3 h2 h4
  refine ⟨s₀, h1, h2, s₁, T, fun n hn => ?_, fun x hx => (List.not_mem_nil (show x ∈ ([] : WRecords) from hx)).elim, fun x hx => (List.not_mem_nil (show x ∈ ([] : WRecords) from hx)).elim, call_from hz hg L fun h q => nomatch (show false = true from q)⟩
  obtain rfl : n = "law" := List.mem_singleton.mp hn
  exact law_pinned L
end Mine

set_option maxRecDepth 100000 in
set_option maxHeartbeats 4000000 in
theorem PySem.Challenge.cw_md0027_01_holds : PySem.Challenge.rw_md0027_01.Holds := by
  o_law
  exact ⟨by assumption, Mine.promised0, Mine.open_by⟩
