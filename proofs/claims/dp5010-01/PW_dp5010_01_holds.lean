import PyProof.Rows.All
import Wide.All
import OpenK.AllK
import Wide.FinOn
import PySem.Challenge.RW_dp5010_01
set_option Elab.async false
section
open PySem PySem.W PySem.Calls PyProof.Rows
set_option Elab.async false
namespace Mine
open PySem (Around Model Ctx Sem Code Value Shared Result Addr Obj Flow Fin)

/-! ## A logic over clean stacks: no code of the stack is one of those that a bytearray looks for -/

def badIds : List String :=
  ["bytearray.__contains__", "bytearray.__mod__", "bytearray.__rmod__", "_struct.pack_into.held", "bytearray.find.held"] ++ PySem.Builtin.Bytes.decodersThatHold
def cleanC : Code → Bool
  | .builtin id _ => !badIds.contains id
  | _ => true
def Clean (Γ : Ctx) : Prop := cleanC Γ.code = true ∧ ∀ q ∈ Γ.below, cleanC q.1 = true

theorem Clean.enter {Γ : Ctx} {c : Code} {h : Option Value} {p : PySem.Pos} (x : Clean Γ) (hc : cleanC c = true) : Clean (Γ.enter c h p) := by
  refine ⟨hc, fun q hq => ?_⟩
  rcases List.mem_cons.mp hq with rfl | hq
  · exact x.1
  · exact x.2 q hq
theorem Clean.goto {Γ : Ctx} {c : Code} (x : Clean Γ) (hc : cleanC c = true) : Clean (Γ.goto c) := ⟨hc, x.2⟩
theorem Clean.wake {Γ : Ctx} {c : Code} {p : PySem.Pos} (x : Clean Γ) (hc : cleanC c = true) : Clean (Γ.wake c p) := by
  refine ⟨hc, fun q hq => ?_⟩
  rcases List.mem_cons.mp hq with rfl | hq
  · exact x.1
  · exact x.2 q hq

def wpJ {α : Type} (M : Model) (A : Around) (t : Sem α) (Q : α → Shared → Prop) (E : Value → Shared → Prop) (s : Shared) : Prop :=
  ∀ Γ p, Γ.In A → Clean Γ → Sem.wp M Γ t (fun a _ s' => Q a s') (fun e _ s' => E e s') p s
def codeJ (M : Model) (A : Around) (c : Code) (R : Result → Shared → Prop) (s : Shared) : Prop :=
  ∀ Γ p, Γ.code = c → Γ.Below A → Clean Γ → wpCode M Γ R p s

section
variable {α β : Type} {M : Model} {A : Around} {E : Value → Shared → Prop} {s : Shared}

theorem wpJ_of {t : Sem α} {Q : α → Shared → Prop} (h : wpAny M A t Q E s) : wpJ M A t Q E s := fun Γ p hΓ _ => h Γ p hΓ
theorem codeJ_of {c : Code} {R : Result → Shared → Prop} (h : codeAny M A c R s) : codeJ M A c R s := fun Γ p hc hΓ _ => h Γ p hc hΓ
theorem wpJ_pure {a : α} {Q : α → Shared → Prop} (h : Q a s) : wpJ M A (pure a) Q E s := fun _ _ _ _ => h
theorem wpJ_mono {t : Sem α} {Q Q' : α → Shared → Prop} {E' : Value → Shared → Prop} (h : wpJ M A t Q E s)
    (hQ : ∀ a s, Q a s → Q' a s) (hE : ∀ e s, E e s → E' e s) : wpJ M A t Q' E' s :=
  fun Γ p hΓ hc => Sem.wp_mono M Γ t (fun a _ s => hQ a s) (fun e _ s => hE e s) p s (h Γ p hΓ hc)
theorem wpJ_bind {m : Sem α} {f : α → Sem β} {Q : β → Shared → Prop} (h : wpJ M A m (fun a s' => wpJ M A (f a) Q E s') E s) : wpJ M A (m >>= f) Q E s :=
  fun Γ p hΓ hc => by
    rw [Sem.wp_bind']
    exact Sem.wp_mono M Γ m (fun a p' s' h' => h' Γ p' hΓ hc) (fun _ _ _ h' => h') p s (h Γ p hΓ hc)
/-- a part that the library's own logic walks, then a clean rest -/
theorem wpJ_then {m : Sem α} {f : α → Sem β} {Q : β → Shared → Prop} (h : wpAny M A m (fun a s' => wpJ M A (f a) Q E s') E s) : wpJ M A (m >>= f) Q E s :=
  wpJ_bind (wpJ_of h)
theorem wpJ_holding {vs : List Value} {m : Sem α} {Q : α → Shared → Prop} (h : wpJ M A m Q E s) : wpJ M A (holding vs m) Q E s :=
  fun Γ p hΓ hc => by rw [Sem.wp_holding]; exact h Γ p hΓ hc
theorem wpJ_keep {vs : List Value} {m : Sem α} {Q : α → Shared → Prop} (h : wpJ M A m Q E s) : wpJ M A (m.keep vs) Q E s :=
  fun Γ p hΓ hc => by rw [Sem.wp_keep]; exact h Γ p hΓ hc
theorem wpJ_tryCatch {m : Sem α} {k : Value → Sem α} {Q : α → Shared → Prop} (h : wpJ M A m Q (fun e s' => wpJ M A (k e) Q E s') s) : wpJ M A (tryCatch m k) Q E s :=
  fun Γ p hΓ hc => by
    rw [Sem.wp_tryCatch']
    exact Sem.wp_mono M Γ m (fun _ _ _ h' => h') (fun e p' s' h' => h' Γ p' hΓ hc) p s (h Γ p hΓ hc)
theorem wpJ_onRaise {m : Sem α} {k : Value → Sem Unit} {Q : α → Shared → Prop} (h : wpJ M A m Q (fun e s' => wpJ M A (k e) (fun _ s'' => E e s'') E s') s) : wpJ M A (m.onRaise k) Q E s :=
  fun Γ p hΓ hc => by
    rw [Sem.wp_onRaise]
    exact Sem.wp_mono M Γ m (fun _ _ _ h' => h') (fun e p' s' h' => h' Γ p' hΓ hc) p s (h Γ p hΓ hc)
theorem wpJ_attempt {m : Sem α} {Q : Except Value α → Shared → Prop} (h : wpJ M A m (fun a => Q (.ok a)) (fun e => Q (.error e)) s) : wpJ M A m.attempt Q E s :=
  fun Γ p hΓ hc => by rw [Sem.wp_attempt]; exact h Γ p hΓ hc
theorem wpJ_rule {tag : String} {Q : Unit → Shared → Prop} (h : Q () s) : wpJ M A (rule tag) Q E s := fun _ _ _ _ => h
theorem wpJ_standAt {pos : PySem.Pos} {Q : Unit → Shared → Prop} (h : Q () s) : wpJ M A (standAt pos) Q E s := fun _ _ _ _ => h
theorem wpJ_if_true {c : Bool} {a b : Sem α} {Q : α → Shared → Prop} (hc : c = true) (h : wpJ M A a Q E s) : wpJ M A (if c = true then a else b) Q E s := by
  subst hc; exact h
theorem wpJ_if_false {c : Bool} {a b : Sem α} {Q : α → Shared → Prop} (hc : c = false) (h : wpJ M A b Q E s) : wpJ M A (if c = true then a else b) Q E s := by
  subst hc; exact h
theorem wpJ_of_eq {t : Sem α} {a : α} {Q : α → Shared → Prop} (e : t = pure a) (h : Q a s) : wpJ M A t Q E s := e ▸ wpJ_pure h

theorem wpJ_ret' (a : α) (Q : α → Shared → Prop) (E : Value → Shared → Prop) (s : Shared) (h : Q a s) : wpJ M A (pure a) Q E s := fun _ _ _ _ => h
theorem wpJ_ite_neg {c : Prop} [Decidable c] {a b : Sem α} {Q : α → Shared → Prop} (hc : ¬ c) (h : wpJ M A b Q E s) : wpJ M A (if c then a else b) Q E s := by
  rw [if_neg hc]; exact h
theorem wpJ_ite_pos {c : Prop} [Decidable c] {a b : Sem α} {Q : α → Shared → Prop} (hc : c) (h : wpJ M A a Q E s) : wpJ M A (if c then a else b) Q E s := by
  rw [if_pos hc]; exact h
theorem codeJ_mono {c : Code} {R R' : Result → Shared → Prop} (h : codeJ M A c R s) (hR : ∀ r s, R r s → R' r s) : codeJ M A c R' s :=
  fun Γ p hc hΓ hj => wpCode_mono hR (h Γ p hc hΓ hj)
theorem wpJ_run {c : Code} {h : Option Value} {Q : Flow → Shared → Prop} (hcl : cleanC c = true)
    (hc : codeJ M (A.mark h) c (fun r s' => match r with | .ok f => Q f s' | .error e => E e s') s) (hnb : h ≠ some byPass := by intro x; cases x) : wpJ M A (run c h) Q E s :=
  fun Γ p hΓ hj => by rw [Sem.wp_run]; exact hc _ p rfl (hΓ.enter c h p hnb) (hj.enter hcl)
theorem wpJ_runValue {c : Code} {Q : Value → Shared → Prop} (hcl : cleanC c = true)
    (hc : codeJ M A c (fun r s' => match r with | .ok (.ret v) => Q v s' | .ok _ => False | .error e => E e s') s) : wpJ M A (runValue c) Q E s :=
  fun Γ p hΓ hj => by rw [Sem.wp_runValue]; exact hc _ p rfl (hΓ.enter c none p (by intro x; cases x)) (hj.enter hcl)
theorem wpJ_call {f : Value} {pos : List Value} {kw : List (PySem.Str × Value)} {Q : Value → Shared → Prop}
    (hc : codeJ M A (.call f ⟨pos, kw⟩) (fun r s' => match r with | .ok (.ret v) => Q v s' | .ok _ => False | .error e => E e s') s) : wpJ M A (call f pos kw) Q E s :=
  wpJ_runValue rfl hc
theorem codeJ_of_tree {c : Code} {R : Result → Shared → Prop}
    (h : wpJ M (A.under c) (M.den c) (fun fin s' => match fin with | .done f => R (.ok f) s' | .again c' => c'.quiet = true ∧ cleanC c' = true ∧ codeJ M A c' R s')
      (fun e s' => R (.error e) s') s) : codeJ M A c R s := fun Γ p hc hΓ hj => by
  rw [wpCode_iff_wp, hc]
  refine Sem.wp_mono M Γ _ (fun fin p' s' h' => ?_) (fun _ _ _ h' => h') p s (h Γ p (hc ▸ hΓ.in) hj)
  cases fin with
  | done f => exact h'
  | again c' => exact ⟨h'.1, h'.2.2 (Γ.goto c') p' rfl (hΓ.goto c') (hj.goto h'.2.1)⟩
end
end Mine
end
section
open PySem PySem.W PySem.Calls PyProof.Rows
set_option Elab.async false
set_option maxRecDepth 100000
namespace Mine

/-! ## bytearray(n) -/
namespace BA
theorem mro : mroOf (.type "bytearray") = pure [.type "bytearray", .type "object"] := by rw [mroOf_type]; kernel_rfl
theorem look_new : typeLookup (.type "bytearray") "__new__" = pure (some (.builtin "bytearray.__new__")) := by rw [typeLookup_type, builtinLookup_eq_fast]; kernel_rfl
theorem slot_init : Slot "bytearray" "__init__" "bytearray.__init__" :=
  .of (owner := "bytearray") (n := "__init__") (by rw [typeLookup_type, builtinLookup_eq_fast]; kernel_rfl) (by decide +kernel) (by decide +kernel) (by decide +kernel)
    (by first | exact .inl (by decide +kernel) | exact .inr (by decide +kernel)) (by rw [isSubtype_type]; kernel_rfl)
theorem called : TypeCalled "bytearray" "bytearray.__new__" "bytearray.__init__" :=
  ⟨by decide +kernel, by decide +kernel, ⟨_, _, mro⟩, madeBy_type mro look_new (by decide +kernel), by decide +kernel, by rw [isSubtype_type]; kernel_rfl, slot_init⟩
theorem typeCall (a : Value) : checkTypeCall "bytearray" ⟨[a], []⟩ = pure () := by kernel_rfl
theorem newCall (a : Value) : checkBuiltinCall "bytearray.__new__" ⟨[.type "bytearray", a], []⟩ = pure () := by kernel_rfl
theorem entry_new : entryFor table "bytearray.__new__" = some Builtin.«list.__new__» := by
  rw [table_eq_tree]; kernel_rfl
theorem entry_init : entryFor table "bytearray.__init__" = some Builtin.«bytearray.__init__» := entryFor_of_tree (by kernel_rfl)
theorem plain_new : plainId "bytearray.__new__" = true := by decide +kernel
theorem plain_init : plainId "bytearray.__init__" = true := by decide +kernel
theorem sub_self : isSubtype (.type "bytearray") (.type "bytearray") = pure true := by rw [isSubtype_type]; kernel_rfl
set_option maxRecDepth 1000000 in
set_option maxHeartbeats 4000000 in
theorem owner_new : ("bytearray.__new__".splitOn ".__new__").headD "" = "bytearray" := by simp +decide [String.splitOn, String.splitOnAux]
theorem no_dict : typeHasDict (.type "bytearray") = false := by decide +kernel
theorem release : typeLookup (.type "bytearray") "__release_buffer__" = pure (some (.builtin "bytearray.__release_buffer__")) := by rw [typeLookup_type, builtinLookup_eq_fast]; kernel_rfl
theorem args_init (a b : Value) : argsOk "bytearray.__init__" ⟨[a, b], []⟩ := by unfold argsOk; kernel_rfl
theorem bind_init (v : Value) : Builtin.Bytes.bindOptional "bytearray.__init__" "bytearray" ["source", "encoding", "errors"] [v] [] = pure [some v, none, none] := by kernel_rfl
theorem int_index : typeLookup (.type "int") "__index__" = pure (some (.builtin "int.__index__")) := by rw [typeLookup_type, builtinLookup_eq_fast]; kernel_rfl
end BA

section
variable {prog : Program} {w : World} {A : Around} {E : Value → Shared → Prop} {s : Shared}

theorem ba_new (a : Value) {Q₁ : Value → Shared → Prop} (h : Q₁ (.ref s.heap.objs.size) { s with heap := s.heap.push { cls := .type "bytearray", data := .bytearray #[] } }) :
    codeAny (model prog w) A (.call (.builtin "bytearray.__new__") ⟨[.type "bytearray", a], []⟩) (wants Q₁ E) s := by
  refine codeAny_of_tree ?_
  show wpAny _ A.in1 (do checkBuiltinCall "bytearray.__new__" ⟨[.type "bytearray", a], []⟩; again (.builtin "bytearray.__new__" ⟨[.type "bytearray", a], []⟩)) _ _ s
  refine wpAny_bind (wpAny_of_eq (BA.newCall a) (wpAny_pure ⟨plainId_quiet BA.plain_new _, codeAny_builtin_stack BA.entry_new rfl fun p st => ?_⟩))
  rw [Around.under_plainId BA.plain_new _]
  have hsub := BA.sub_self
  have hown := BA.owner_new
  have hnd := BA.no_dict
  obtain ⟨hp, g, d, tk, os⟩ := s
  simp only [hown]
  wp_walk
  exact h
end

section
variable {α : Type} {M : Model} {A : Around} {E : Value → Shared → Prop} {s : Shared}
theorem clean_id {id : String} {args : Args} (h : cleanC (.builtin id args) = true) : badIds.contains id = false := by
  simpa [cleanC] using h

theorem exported_J {v : Value} {Q : Bool → Shared → Prop} (h : Q false s) : wpJ M A (Builtin.Bytes.exported v) Q E s := fun Γ p _ hc => by
  have key : ∀ q : Code × Pos, cleanC q.1 = true → (match q with
    | (.builtin "bytearray.__contains__" ⟨u :: _, _⟩, _) | (.builtin "bytearray.__mod__" ⟨u :: _, _⟩, _)
    | (.builtin "bytearray.__rmod__" ⟨_ :: u :: _, _⟩, _) | (.builtin "_struct.pack_into.held" ⟨u :: _, _⟩, _) => Builtin.Bytes.sameRef u v
    | (.builtin "bytearray.find.held" ⟨_ :: _ :: held, _⟩, _) => held.any (Builtin.Bytes.sameRef v)
    | (.builtin id ⟨u :: _, _⟩, _) => Builtin.Bytes.sameRef u v && Builtin.Bytes.decodersThatHold.contains id
    | _ => false) = false := by
    intro q hq
    split
    · exact absurd (clean_id hq) (by decide +kernel)
    · exact absurd (clean_id hq) (by decide +kernel)
    · exact absurd (clean_id hq) (by decide +kernel)
    · exact absurd (clean_id hq) (by decide +kernel)
    · exact absurd (clean_id hq) (by decide +kernel)
    · have hn := clean_id hq
      simp only [badIds, List.contains_eq_any_beq, List.any_append, Bool.or_eq_false_iff] at hn
      simp only [List.contains_eq_any_beq, hn.2, Bool.and_false]
    · rfl
  have hall : ((Γ.code, p) :: Γ.below).any (fun q => match q with
    | (.builtin "bytearray.__contains__" ⟨u :: _, _⟩, _) | (.builtin "bytearray.__mod__" ⟨u :: _, _⟩, _)
    | (.builtin "bytearray.__rmod__" ⟨_ :: u :: _, _⟩, _) | (.builtin "_struct.pack_into.held" ⟨u :: _, _⟩, _) => Builtin.Bytes.sameRef u v
    | (.builtin "bytearray.find.held" ⟨_ :: _ :: held, _⟩, _) => held.any (Builtin.Bytes.sameRef v)
    | (.builtin id ⟨u :: _, _⟩, _) => Builtin.Bytes.sameRef u v && Builtin.Bytes.decodersThatHold.contains id
    | _ => false) = false := by
    rw [List.any_eq_false]
    intro q hq
    rcases List.mem_cons.mp hq with rfl | hq
    · rw [key _ hc.1]; exact Bool.false_ne_true
    · rw [key _ (hc.2 q hq)]; exact Bool.false_ne_true
  show Q (((Γ.code, p) :: Γ.below).any _) s
  exact hall.symm ▸ h
end
end Mine
end
section
open PySem PySem.W PySem.Calls PyProof.Rows
set_option Elab.async false
set_option maxRecDepth 100000
namespace Mine
theorem BA.sub_rel : isSubtype (.type "bytearray") (.type ("bytearray.__release_buffer__".dropRight ("__release_buffer__".length + 1))) = pure true := by
  rw [show "bytearray.__release_buffer__".dropRight ("__release_buffer__".length + 1) = "bytearray" by decide +kernel]; exact BA.sub_self
abbrev baObj (b : Array UInt8) : Obj := { cls := .type "bytearray", data := .bytearray b }
abbrev finPost (prog : Program) (w : World) (A : Around) (R : Result → Shared → Prop) : Fin → Shared → Prop := fun fin s' => match fin with
  | .done f => R (.ok f) s'
  | .again c' => c'.quiet = true ∧ cleanC c' = true ∧ codeJ (model prog w) A c' R s'

section
variable {prog : Program} {w : World} {A A' : Around} {E : Value → Shared → Prop} {s : Shared}

theorem ba_write {M : Model} {S : Addr} {b : Array UInt8} {f : Array UInt8 → Array UInt8} {Q : Unit → Shared → Prop} (hS : s.heap.get? S = some (baObj b)) (hz : (f b).size ≤ sizeLine)
    (h : ∀ h', (∀ c o, c ≠ S → s.heap.get? c = some o → h'.get? c = some o) → (∀ c, c ≠ S → h'.get? c = s.heap.get? c) → h'.objs.size = s.heap.objs.size → h'.get? S = some (baObj (f b)) → Q () { s with heap := h' }) :
    wpAny M A (Builtin.Bytes.write (.ref S) f) Q E s := by
  show wpAny M A (updateBytearray S f) Q E s
  unfold updateBytearray
  refine wpAny_bind (wpAny_load hS ?_)
  show wpAny _ _ (update S (Obj.mapBytearray f) >>= fun _ => lookBehind S) _ _ _
  refine wpAny_bind (wpAny_update hS ?_)
  have hS₂ : (s.heap.update S (Obj.mapBytearray f)).get? S = some (baObj (f b)) := Heap.get?_update_self (Obj.mapBytearray f) hS rfl
  refine wpAny_lookBehind hS₂ ?_ ?_
  · show (if (f b).size > sizeLine then some "bytearray:memory" else none) = none
    rw [if_neg (Nat.not_lt.mpr hz)]
  · exact h _ (fun c o hc e => (Heap.get?_update_other _ _ (Ne.symm hc)).trans e) (fun c hc => Heap.get?_update_other _ _ (Ne.symm hc)) (Heap.size_after_update ..) hS₂

theorem ba_init_J {S : Addr} {n : Nat} {t : Tok} {R : Result → Shared → Prop} (hS : s.heap.get? S = some (baObj #[])) (hn : n ≤ sizeLine)
    (h : ∀ h', (∀ b o, b ≠ S → s.heap.get? b = some o → h'.get? b = some o) → h'.get? S = some (baObj (Array.replicate n 0)) → R (.ok (.ret .none)) { s with heap := h' }) :
    wpJ (model prog w) A (Builtin.«bytearray.__init__» ⟨[.ref S, .int (n : Int) t], []⟩) (finPost prog w A' R) (fun e s' => R (.error e) s') s := by
  have hT : s.TypeIs (.ref S) "bytearray" := ⟨_, hS, rfl⟩
  unfold Builtin.«bytearray.__init__»
  refine wpJ_bind (wpJ_bind ?_)
  unfold Builtin.Bytes.slotIsOwn
  refine wpJ_bind (wpJ_of (wpAny_specialOf hT BA.release ?_))
  refine wpJ_if_false (by decide +kernel) ?_
  refine wpJ_of (wpAny_isInstance hT BA.sub_rel ?_)
  refine wpJ_pure ?_
  refine wpJ_if_false rfl ?_
  refine wpJ_bind (wpJ_of_eq (BA.bind_init _) ?_)
  refine wpJ_bind (wpJ_of_eq (a := ()) rfl ?_)
  refine wpJ_bind (wpJ_of_eq (a := ()) rfl ?_)
  refine wpJ_bind ?_
  unfold orM
  refine wpJ_bind (exported_J ?_)
  dsimp only [toBool]
  refine wpJ_bind ?_
  show wpJ _ _ (load S >>= _) _ _ _
  refine wpJ_then (wpAny_load hS ?_)
  refine wpJ_pure (wpJ_pure ?_)
  refine wpJ_if_false (by decide) ?_
  refine wpJ_then ?_
  refine ba_write (b := #[]) (f := fun _ => #[]) hS (by simp) ?_
  intro h₁ k₁ _ _ hS₁
  have e1 : asStr? (.int (n : Int) t) = pure none := rfl
  have e2 : asIndex (.int (n : Int) t) = pure (n : Int) := rfl
  have hn2 : (n : Int) < 2 ^ 62 := by
    have : sizeLine = 16777216 := by decide
    omega
  refine wpJ_bind (m := asStr? (.int (n : Int) t)) ?_
  rw [e1]
  refine wpJ_ret' _ _ _ _ ?_
  (with_reducible refine wpJ_if_false ?hc ?_)
  case hc => rfl
  (with_reducible refine wpJ_bind ?_)
  (with_reducible refine wpJ_if_false ?hc ?_)
  case hc => rfl
  (with_reducible refine wpJ_if_false ?hc ?_)
  case hc => rfl
  (with_reducible refine wpJ_pure ?_)
  (with_reducible refine wpJ_then (wpAny_specialOf (typeIs_int _ _ _) BA.int_index ?_))
  (with_reducible refine wpJ_if_true ?hc ?_)
  case hc => rfl
  (with_reducible refine wpJ_bind (wpJ_attempt ?_))
  rw [e2]
  (with_reducible refine wpJ_pure ?_)
  dsimp only
  (with_reducible refine wpJ_if_false ?hc ?_)
  case hc => simp only [Builtin.Bytes.fitsIndex, Bool.not_eq_false', Bool.and_eq_true, decide_eq_true_eq]; omega
  (with_reducible refine wpJ_ite_neg (by omega) ?_)
  (with_reducible refine wpJ_if_false ?hc ?_)
  case hc => simp only [beq_eq_false_iff_ne]; omega
  (with_reducible refine wpJ_if_false ?hc ?_)
  case hc => simp only [Builtin.Bytes.tooLong, decide_eq_false_iff_not, Int.toNat_natCast]; omega
  (with_reducible refine wpJ_bind (wpJ_rule ?_))
  by_cases hz : (n : Int) > 0
  · (with_reducible refine wpJ_ite_pos hz ?_)
    (with_reducible refine wpJ_then ?_)
    refine ba_write (b := #[]) (f := fun _ => Array.replicate (n : Int).toNat 0) hS₁ (by simpa using hn) ?_
    intro h₂ k₂ _ _ hS₂
    rw [Int.toNat_natCast] at hS₂
    refine wpJ_pure ?_
    exact h h₂ (fun b o hb e => k₂ b o hb (k₁ b o hb e)) hS₂
  · (with_reducible refine wpJ_ite_neg hz ?_)
    have hn0 : n = 0 := by omega
    subst hn0
    refine wpJ_pure ?_
    exact h h₁ k₁ hS₁
end

theorem clean_of {id : String} {args : Args} (h : badIds.contains id = false) : cleanC (.builtin id args) = true := by
  show (!badIds.contains id) = true
  rw [h]; rfl
theorem codeJ_builtin {prog : Program} {w : World} {A : Around} {s : Shared} {id : String} {args : Args} {b : Builtin} {R : Result → Shared → Prop} (hb : entryFor table id = some b)
    (h : wpJ (model prog w) (A.under (.builtin id args)) (b args) (finPost prog w A R) (fun e s' => R (.error e) s') s) : codeJ (model prog w) A (.builtin id args) R s := by
  refine codeJ_of_tree ?_
  show wpJ _ _ (match entryFor table id with | some b => b args | none => unsupported ((withoutEnding? id "#data").getD id)) _ _ s
  rw [hb]; exact h

section
variable {prog : Program} {w : World} {A A' : Around} {E : Value → Shared → Prop} {s : Shared}
theorem call_bytearray {n : Nat} {t : Tok} {Q : Value → Shared → Prop} (hn : n ≤ sizeLine)
    (h : ∀ h', (∀ b o, s.heap.get? b = some o → h'.get? b = some o) → h'.get? s.heap.objs.size = some (baObj (Array.replicate n 0)) → Q (.ref s.heap.objs.size) { s with heap := h' }) :
    wpJ (model prog w) A (call (.type "bytearray") [.int (n : Int) t]) Q E s := by
  refine wpJ_call (codeJ_of_tree ?_)
  show wpJ _ _ (callAny (.type "bytearray") _) _ _ _
  refine wpJ_pure ⟨Code.quiet_builtin _ (by decide +kernel), clean_of (by decide +kernel), codeJ_builtin F.entry_type_call ?_⟩
  rw [Around.under_plain (weight_type_call_type "bytearray" [.int (n : Int) t] []) rfl]
  have h1 := BA.called.notType
  have h2 := BA.called.canCreate
  have h3 := BA.called.made
  have h4 := BA.called.sub
  obtain ⟨c, tl, hmro⟩ := BA.called.mro
  unfold Builtin.«type.__call__»
  dsimp -zeta only
  (with_reducible refine wpJ_if_false ?hc ?_)
  case hc => exact h1
  (with_reducible refine wpJ_if_false ?hc ?_)
  case hc => exact h2
  (with_reducible refine wpJ_bind ?_)
  rw [BA.typeCall]
  (with_reducible refine wpJ_pure ?_)
  (with_reducible refine wpJ_bind ?_)
  rw [hmro]
  (with_reducible refine wpJ_pure ?_)
  (with_reducible refine wpJ_if_false ?hc ?_)
  case hc => rfl
  (with_reducible refine wpJ_bind ?_)
  rw [h3]
  (with_reducible refine wpJ_pure ?_)
  dsimp -zeta only
  (with_reducible refine wpJ_bind ?_)
  (with_reducible refine wpJ_pure ?_)
  (with_reducible refine wpJ_bind (wpJ_holding (wpJ_of (wpAny_call ?_))))
  refine codeAny_mono (ba_new (E := fun _ _ => False) (Q₁ := fun v s' => v = .ref s.heap.objs.size ∧ s' = { s with heap := s.heap.push (baObj #[]) }) _ ⟨rfl, rfl⟩) fun r s' hr => ?_
  match r, hr with
  | .ok (.ret v), hr =>
    obtain ⟨rfl, rfl⟩ := hr
    have hS : (s.heap.push (baObj #[])).get? s.heap.objs.size = some (baObj #[]) := Heap.get?_push_size _ rfl
    have hT : ({ s with heap := s.heap.push (baObj #[]) } : Shared).TypeIs (.ref s.heap.objs.size) "bytearray" := ⟨_, hS, rfl⟩
    (with_reducible refine wpJ_then (wpAny_isInstance hT h4 ?_))
    (with_reducible refine wpJ_if_false ?hc ?_)
    case hc => rfl
    (with_reducible refine wpJ_bind (wpJ_holding ?_))
    unfold callSpecial?
    (with_reducible refine wpJ_then (wpAny_specialOf hT BA.slot_init.lookup ?_))
    dsimp -zeta only
    (with_reducible refine wpJ_holding (wpJ_bind ?_))
    rw [BA.slot_init.bind]
    (with_reducible refine wpJ_pure ?_)
    dsimp -zeta only
    (with_reducible refine wpJ_bind (wpJ_call ?_))
    refine codeJ_mono (R := wants (fun r s₂ => r = .none ∧ Q (.ref s.heap.objs.size) s₂) E) (codeJ_of_tree ?_) fun r s' hr => ?_
    · show wpJ _ _ (do checkBuiltinCall "bytearray.__init__" ⟨[.ref s.heap.objs.size, .int (n : Int) t], []⟩; again (.builtin "bytearray.__init__" ⟨[.ref s.heap.objs.size, .int (n : Int) t], []⟩)) _ _ _
      (with_reducible refine wpJ_then (BA.slot_init.check _ _ _ _ _ _ _ _ hT (BA.args_init _ _) ?_))
      refine wpJ_pure ⟨plainId_quiet BA.plain_init _, clean_of (by decide +kernel), codeJ_builtin BA.entry_init (ba_init_J hS hn fun h' k hS' => ?_)⟩
      exact ⟨rfl, h h' (fun b o e => k b o (Nat.ne_of_lt (Heap.lt_size e)) (Heap.get?_push_of_some _ e)) hS'⟩
    · match r, hr with
      | .ok (.ret v), hr =>
        obtain ⟨rfl, hq⟩ := hr
        refine wpJ_pure ?_
        refine wpJ_if_false rfl ?_
        exact wpJ_pure hq
      | .error e, hr => exact hr
  | .error e, hr => exact hr.elim
end
end Mine
end
section
open PySem PySem.W PySem.Calls PyProof.Rows
set_option Elab.async false
set_option maxRecDepth 100000
namespace Mine
namespace BA
theorem slot_setitem : Slot "bytearray" "__setitem__" "bytearray.__setitem__" :=
  .of (owner := "bytearray") (n := "__setitem__") (by rw [typeLookup_type, builtinLookup_eq_fast]; kernel_rfl) (by decide +kernel) (by decide +kernel) (by decide +kernel)
    (by first | exact .inl (by decide +kernel) | exact .inr (by decide +kernel)) (by rw [isSubtype_type]; kernel_rfl)
theorem entry_setitem : entryFor table "bytearray.__setitem__" = some Builtin.«bytearray.__setitem__» := entryFor_of_tree (by kernel_rfl)
theorem args_setitem (a b c : Value) : argsOk "bytearray.__setitem__" ⟨[a, b, c], []⟩ := by unfold argsOk; kernel_rfl
theorem no_bytes : typeLookup (.type "bytearray") "__bytes__" = pure none := by rw [typeLookup_type, builtinLookup_eq_fast]; kernel_rfl
theorem noIndex : typeLookup (.type "bytearray") "__index__" = pure none := by rw [typeLookup_type, builtinLookup_eq_fast]; kernel_rfl
theorem buffer : typeLookup (.type "bytearray") "__buffer__" = pure (some (.builtin "bytearray.__buffer__")) := by rw [typeLookup_type, builtinLookup_eq_fast]; kernel_rfl
end BA
section
variable {prog : Program} {w : World} {A : Around} {E : Value → Shared → Prop} {s : Shared}
theorem own_slot {M : Model} {v : Value} {T id nm : String} {Q : Bool → Shared → Prop} (hT : s.TypeIs v T) (hl : typeLookup (.type T) (nm : Str) = pure (some (.builtin id))) (he : id.endsWith ("." ++ nm) = true)
    (hs : isSubtype (.type T) (.type (id.dropRight (nm.length + 1))) = pure true) (h : Q true s) : wpAny M A (Builtin.Bytes.slotIsOwn v nm) Q E s := by
  unfold Builtin.Bytes.slotIsOwn
  refine wpAny_bind (wpAny_specialOf hT hl ?_)
  (with_reducible refine bm_if_false ?hc ?_)
  case hc => rw [he]; rfl
  exact wpAny_isInstance hT hs h
theorem BA.sub_buf : isSubtype (.type "bytearray") (.type ("bytearray.__buffer__".dropRight ("__buffer__".length + 1))) = pure true := by
  rw [show "bytearray.__buffer__".dropRight ("__buffer__".length + 1) = "bytearray" by decide +kernel]; exact BA.sub_self
theorem ba_setItem {S : Addr} {b : Array UInt8} {k v : Int} {tk tv : Tok} {Q : Unit → Shared → Prop} (hS : s.heap.get? S = some (baObj b)) (h0 : 0 ≤ k) (hk : k < b.size) (hz : b.size ≤ sizeLine) (v0 : 0 ≤ v) (v1 : v < 256)
    (h : ∀ h', (∀ c, c ≠ S → h'.get? c = s.heap.get? c) → h'.objs.size = s.heap.objs.size → h'.get? S = some (baObj (b.setIfInBounds k.toNat v.toNat.toUInt8)) → Q () { s with heap := h' }) :
    wpAny (model prog w) A (setItem (.ref S) (.int k tk) (.int v tv)) Q E s := by
  have hT : s.TypeIs (.ref S) "bytearray" := ⟨_, hS, rfl⟩
  have hz' : sizeLine = 16777216 := by decide
  unfold setItem
  refine wpAny_holding ?_
  refine wpAny_bind (wpAny_sequenceKey hT (by decide) ?_)
  refine wpAny_bind (wpAny_callSpecial?_slot (name := Str.ofString "__setitem__") hT BA.slot_setitem
    (wpAny_call_entry BA.slot_setitem hT BA.entry_setitem ?_ (BA.args_setitem _ _ _)))
  unfold Builtin.«bytearray.__setitem__»
  (with_reducible refine bm_if_false ?hc ?_)
  case hc => rfl
  dsimp -zeta only
  (with_reducible refine wpAny_bind ?_)
  unfold Builtin.Bytes.subscript?
  (with_reducible refine wpAny_bind (wpAny_specialOf (typeIs_int _ _ _) BA.int_index ?_))
  (with_reducible refine bm_if_false ?hc ?_)
  case hc => rfl
  have e1 : asIndex (.int k tk) = pure k := rfl
  have e2 : asIndex (.int v tv) = pure v := rfl
  have hk3 : k < 16777216 := by omega
  (with_reducible refine wpAny_bind ?_)
  rw [e1]
  (with_reducible refine wpAny_pure ?_)
  (with_reducible refine bm_if_false ?hc ?_)
  case hc => simp only [Builtin.Bytes.fitsIndex, Bool.not_eq_false', Bool.and_eq_true, decide_eq_true_eq]; omega
  (with_reducible refine wpAny_pure ?_)
  dsimp -zeta only
  (with_reducible refine wpAny_bind ?_)
  unfold Builtin.Bytes.byteValue
  (with_reducible refine wpAny_bind ?_)
  rw [e2]
  (with_reducible refine wpAny_pure ?_)
  (with_reducible refine bm_if_false ?hc ?_)
  case hc => simp only [Bool.or_eq_false_iff, decide_eq_false_iff_not]; omega
  (with_reducible refine wpAny_pure ?_)
  (with_reducible refine wpAny_bind ?_)
  unfold Builtin.Bytes.payload Builtin.Bytes.payload?
  refine wpAny_bind (wpAny_bind (wpAny_load hS ?_))
  refine wpAny_pure (wpAny_pure ?_)
  have e3 : seqIndex? k b.size = some k.toNat := by
    unfold seqIndex?
    simp only [if_neg (show ¬ k < 0 by omega), decide_eq_true h0, decide_eq_true hk, Bool.and_self, if_true]
  rw [e3]
  dsimp -zeta only
  (with_reducible refine wpAny_bind ?_)
  refine ba_write (f := fun b => b.setIfInBounds k.toNat v.toNat.toUInt8) hS (by simpa using hz) ?_
  intro h' _ k2 k3 k4
  refine wpAny_pure ⟨_, rfl, wpAny_pure (h h' k2 k3 k4)⟩

theorem bytes_of_ba {S : Addr} {b : Array UInt8} {Q : Value → Shared → Prop} (hS : s.heap.get? S = some (baObj b)) (hz : b.size ≤ sizeLine)
    (h : ∀ t k, Q (.bytes b t) { s with toks := k }) : wpAny (model prog w) A (call (.type "bytes") [.ref S]) Q E s := by
  have hT : s.TypeIs (.ref S) "bytearray" := ⟨_, hS, rfl⟩
  refine callType_codes (Q₁ := fun obj s₁ => s₁.TypeIs obj "bytes" ∧ Q obj s₁) F.bm_called (F.bm_typeCall _) F.entry_object_init ?_ fun obj s₁ h₁ => ?_
  · refine codeAny_of_tree ?_
    show wpAny _ _ (do checkBuiltinCall "bytes.__new__" ⟨[.type "bytes", .ref S], []⟩; again (.builtin "bytes.__new__" ⟨[.type "bytes", .ref S], []⟩)) _ _ s
    refine wpAny_bind (wpAny_of_eq (F.bm_newCall _) (wpAny_pure ⟨plainId_quiet F.bm_plain _, codeAny_builtin F.bm_entry ?_⟩))
    rw [Around.under_plainId F.bm_plain _]
    unfold Builtin.«bytes.__new__»
    refine wpAny_bind (wpAny_of_eq (a := true) rfl ?_)
    refine bm_if_false rfl ?_
    refine wpAny_bind (wpAny_of_eq F.bm_sub ?_)
    refine bm_if_false rfl ?_
    refine wpAny_bind (wpAny_of_eq (F.bm_bind _) ?_)
    refine wpAny_bind (wpAny_of_eq (a := ()) rfl ?_)
    refine wpAny_bind (wpAny_of_eq (a := ()) rfl ?_)
    refine bm_if_false rfl ?_
    refine wpAny_bind (wpAny_specialOf hT BA.no_bytes ?_)
    refine wpAny_bind (wpAny_bind ?_)
    show wpAny _ _ (load S >>= _) _ _ _
    refine wpAny_bind (wpAny_load hS ?_)
    refine wpAny_pure (wpAny_pure ?_)
    refine bm_if_false rfl ?_
    refine wpAny_bind (wpAny_specialOf hT BA.noIndex ?_)
    refine bm_if_true rfl ?_
    show wpAny _ _ (Builtin.Bytes.buffer? "bytes.__new__" (.ref S) true >>= _) _ _ _
    refine wpAny_bind ?_
    unfold Builtin.Bytes.buffer?
    refine wpAny_bind (wpAny_specialOf hT BA.buffer ?_)
    (with_reducible refine wpAny_bind (own_slot hT BA.buffer (by decide +kernel) BA.sub_buf ?_))
    (with_reducible refine bm_if_false ?hc ?_)
    case hc => rfl
    (with_reducible refine wpAny_bind (wpAny_specialOf hT BA.buffer ?_))
    (try dsimp -zeta only)
    refine wpAny_bind ?_
    unfold Builtin.Bytes.ownRelease
    (with_reducible refine wpAny_bind (own_slot hT BA.release (by decide +kernel) BA.sub_rel ?_))
    (with_reducible refine wpAny_pure ?_)
    (with_reducible refine bm_if_false ?hc ?_)
    case hc => rfl
    (with_reducible refine wpAny_bind ?_)
    unfold Builtin.Bytes.payload Builtin.Bytes.payload?
    refine wpAny_bind (wpAny_bind (wpAny_load hS ?_))
    refine wpAny_pure (wpAny_pure ?_)
    (with_reducible refine wpAny_pure ?_)
    refine wpAny_bind (wpAny_rule ?_)
    refine wpAny_bind (wpAny_mkBytes ?_ hz)
    show wpAny _ _ (if (Value.type "bytes" == Value.type "bytes") = true then _ else _) _ _ _
    refine bm_if_true (by decide) ?_
    first
      | exact wpAny_pure ⟨PySem.W.typeIs_bytes _ _ _, h _ _⟩
      | exact wpAny_bind (wpAny_pure (wpAny_pure ⟨PySem.W.typeIs_bytes _ _ _, h _ _⟩))
  · exact ⟨h₁.1, F.args_object_init_2 obj _, object_init_meets F.bm_called.init.lookup F.bm_called.made (by decide) prog w A.in1 _ s₁ ⟨h₁.1, rfl, h₁.2⟩⟩
end
end Mine
end
section
open PySem PySem.W PySem.Calls PyProof.Rows
set_option Elab.async false
set_option maxRecDepth 100000
namespace Mine

section
variable {M : Model} {A : Around} {E : Value → Shared → Prop} {s : Shared} {env : Env}

theorem J_cons {st : Stmt} {rest : List Stmt} {Q : Flow → Shared → Prop}
    (h : wpJ M A (exec st env) (fun fl s' => match fl with | .next => wpJ M A (execs rest env) Q E s' | f => Q f s') E s) : wpJ M A (execs (st :: rest) env) Q E s := by
  rw [arm_execs_cons]
  refine wpJ_bind (wpJ_mono h (fun fl s' h' => ?_) fun _ _ x => x)
  cases fl <;> first | exact h' | exact wpJ_pure h'
/-- a statement that the library's logic walks and that goes on, then a clean rest -/
theorem J_step {st : Stmt} {rest : List Stmt} {Q : Flow → Shared → Prop}
    (h : wpAny M A (exec st env) (fun fl s' => match fl with | .next => wpJ M A (execs rest env) Q E s' | f => Q f s') E s) : wpJ M A (execs (st :: rest) env) Q E s := J_cons (wpJ_of h)
theorem app_at {Γ : Ctx} {l₂ : List Stmt} {Q : Flow → Pos → Shared → Prop} {E' : Value → Pos → Shared → Prop} {Mid : Shared → Prop} (k : ∀ s' p', Mid s' → Sem.wp M Γ (execs l₂ env) Q E' p' s') : ∀ (l₁ : List Stmt) (p : Pos) (s : Shared),
    Sem.wp M Γ (execs l₁ env) (fun fl p' s' => match fl with | .next => Mid s' | f => Q f p' s') E' p s → Sem.wp M Γ (execs (l₁ ++ l₂) env) Q E' p s
  | [], p, s, h => by
    rw [arm_execs_nil, Sem.wp_pure'] at h
    exact k s p h
  | st :: r, p, s, h => by
    show Sem.wp M Γ (execs (st :: (r ++ l₂)) env) Q E' p s
    rw [arm_execs_cons, Sem.wp_bind'] at h ⊢
    refine Sem.wp_mono M Γ _ (fun fl p' s' h' => ?_) (fun _ _ _ x => x) p s h
    cases fl with
    | next => exact app_at k r p' s' h'
    | brk => rw [Sem.wp_pure'] at h' ⊢; exact h'
    | cont => rw [Sem.wp_pure'] at h' ⊢; exact h'
    | ret v => rw [Sem.wp_pure'] at h' ⊢; exact h'
/-- some statements walked by the library's logic to a state that is said, then a clean rest -/
theorem J_app {l₁ l₂ : List Stmt} {Q : Flow → Shared → Prop} (Mid : Shared → Prop)
    (h : wpAny M A (execs l₁ env) (fun fl s' => match fl with | .next => Mid s' | f => Q f s') E s) (k : ∀ s', Mid s' → wpJ M A (execs l₂ env) Q E s') : wpJ M A (execs (l₁ ++ l₂) env) Q E s :=
  fun Γ p hΓ hc => app_at (Mid := Mid) (fun s' p' hm => k s' hm Γ p' hΓ hc) l₁ p s (Sem.wp_mono M Γ _ (fun fl p' s' h' => by cases fl <;> exact h') (fun _ _ _ x => x) p s (h Γ p hΓ))
theorem J_If {test : Expr} {body orelse : List Stmt} {pos : Pos} {Q : Flow → Shared → Prop}
    (h : wpJ M A (isTrue test env (eval test env)) (fun b s₂ => if b then wpJ M A (execs body env) Q E s₂ else wpJ M A (execs orelse env) Q E s₂) E s) : wpJ M A (exec (.If test body orelse pos) env) Q E s := by
  rw [arm_exec_If]
  refine wpJ_bind (wpJ_standAt (wpJ_bind (wpJ_mono h (fun b s' h' => ?_) fun _ _ x => x)))
  cases b <;> exact h'
theorem J_Return {e : Expr} {pos : Pos} {Q : Flow → Shared → Prop} (h : wpJ M A (eval e env) (fun v => Q (.ret v)) E s) : wpJ M A (exec (.Return (some e) pos) env) Q E s := by
  rw [arm_exec_Return]
  refine wpJ_bind (wpJ_standAt ?_)
  show wpJ M A (eval e env >>= fun v => pure (Flow.ret v)) Q E s
  exact wpJ_bind (wpJ_mono h (fun v s' h' => wpJ_pure h') fun _ _ x => x)
theorem J_Assign_Name {x : Str} {pos' pos : Pos} {value : Expr} {Q : Flow → Shared → Prop}
    (h : wpJ M A (eval value env) (fun v s₁ => wpJ M A (storeName env x v) (fun _ => Q .next) E s₁) E s)
    (hs : swapsWith value (some (.Name x pos')) pos.line env = pure false := by rfl) : wpJ M A (exec (.Assign [.Name x pos'] value pos) env) Q E s := fun Γ p hΓ hc => by
  simp only [exec_Assign_Name env x pos' value pos hs, Sem.wp_bind', Sem.wp_cmd_standAt, Sem.wp_bindName, Sem.wp_pure']
  exact Sem.wp_mono M Γ _ (fun v _ s₁ h₁ => h₁ Γ _ hΓ hc) (fun _ _ _ h' => h') _ _ (h Γ _ hΓ hc)
theorem J_allTrue_cons {op : BoolOp} {x : Expr} {rest : List Expr} {Q : Bool → Shared → Prop}
    (h : wpJ M A (isTrue x env (eval x env)) (fun b s' => match op, b with | .And, false => Q false s' | .Or, true => Q true s' | _, _ => wpJ M A (allTrue op rest env) Q E s') E s) :
    wpJ M A (allTrue op (x :: rest) env) Q E s := by
  rw [arm_allTrue_cons]
  refine wpJ_bind (wpJ_mono h (fun b s' h' => ?_) fun _ _ x => x)
  cases op <;> cases b <;> first | exact h' | exact wpJ_pure h'
theorem J_isTrue_not {x : Expr} {pos : Pos} {t : Sem Value} {Q : Bool → Shared → Prop} (h : wpJ M A (isTrue x env (eval x env)) (fun b s' => Q (!b) s') E s) : wpJ M A (isTrue (.UnaryOp .Not x pos) env t) Q E s := by
  rw [arm_isTrue_UnaryOp]
  exact wpJ_bind (wpJ_mono h (fun b s' h' => wpJ_pure h') fun _ _ x => x)
theorem J_isTrue_BoolOp {op : BoolOp} {xs : List Expr} {pos : Pos} {t : Sem Value} {Q : Bool → Shared → Prop} (h : wpJ M A (allTrue op xs env) Q E s) : wpJ M A (isTrue (.BoolOp op xs pos) env t) Q E s := h
theorem J_isTrue_Compare {l : Expr} {ops : List CmpOp} {cs : List Expr} {pos : Pos} {t : Sem Value} {Q : Bool → Shared → Prop}
    (h : wpJ M A (eval l env) (fun v s' => wpJ M A (testChain pos v ops (markedEach ops cs (evalEach cs env))) Q E s') E s) : wpJ M A (isTrue (.Compare l ops cs pos) env t) Q E s := by
  rw [arm_isTrue_Compare]
  exact wpJ_bind h
theorem J_callWith {f : Value} {P : Heap → Prop} {pos : Pos} {first : List Value} {args : List (Bool × Sem Value)} {keywords : List (Option Str × Sem Value)} {Q : Value → Shared → Prop} (hplain : (args.any (·.1) || keywords.any (·.1.isNone)) = false)
    (hk : ∀ h, P h → ∃ k, (k = Keeper.frame ∨ k = Keeper.machine ∨ k = Keeper.boundFrame) ∧ Looks M h (keeperOf f) k)
    (h : wpJ M A (evalArgs f true args keywords) (fun a s₁ => P s₁.heap ∧ wpJ M A (call f (first ++ a.pos) a.kw) Q E s₁) E s) : wpJ M A (callWith pos f first args keywords) Q E s := by
  unfold callWith
  refine wpJ_bind (wpJ_holding (wpJ_mono h (fun a s₁ h₁ => wpJ_bind (wpJ_standAt ?_)) fun _ _ x => x))
  obtain ⟨k, hk', L⟩ := hk _ h₁.1
  simp only [hplain]
  refine wpJ_then (L.here ?_)
  have tail : ∀ {t : Sem Value}, wpJ M A t Q E s₁ → wpJ M A (t >>= fun r => holding [r] point >>= fun _ => pure r) Q E s₁ :=
    fun ht => wpJ_bind (wpJ_mono ht (fun r s₂ hr => wpJ_then (wpAny_holding (wpAny_point (wpJ_pure hr)))) fun _ _ x => x)
  have marked (mk : Value) : wpJ M A (callMarked mk f (first ++ a.pos) a.kw) Q E s₁ := by unfold callMarked; exact wpJ_keep h₁.2
  rcases hk' with rfl | rfl | rfl <;> dsimp only <;> first | exact tail h₁.2 | (split <;> first | exact tail h₁.2 | exact tail (marked _))
/-- a call of one of the text's own defs: the arguments by the library's logic, the call in the clean one -/
theorem J_callK {K : Frag} {f : Value} {x : Str} {xp pos : Pos} {e : Expr} {rest : List Expr} {Q : Value → Shared → Prop} (hk : keepIn K f = true)
    (h : wpAny M A (eval (.Name x xp) env) (fun fv s₀ => fv = f ∧ wpAny M A (spliced (backTo pos (starEach (e :: rest) env))) (fun vs s₁ => K.In s₁.heap ∧ wpJ M A (call f vs) Q E s₁) E s₀) E s)
    (he : starEach (e :: rest) env = (false, eval e env) :: starEach rest env := by rfl) (hplain : (backTo pos (starEach rest env)).any (·.1) = false := by rfl) :
    wpJ M A (eval (.Call (.Name x xp) (e :: rest) [] pos) env) Q E s := by
  rw [arm_eval_Call_Name']
  refine wpJ_then (wpAny_mono h (fun fv s₀ h₀ => ?_) fun _ _ x => x)
  obtain ⟨rfl, h₀⟩ := h₀
  show wpJ M A (callWith pos fv [] (backTo pos (starEach (e :: rest) env)) []) Q E s₀
  rw [he] at h₀ ⊢
  refine J_callWith (P := K.In) (by show ((false || (backTo pos (starEach rest env)).any (·.1)) || false) = false; rw [hplain]; rfl) (keeps_K hk) (wpJ_of (evalArgs_plain ?_))
  exact wpAny_mono h₀ (fun vs s₁ h₁ => h₁) fun _ _ x => x
/-- a call of a built-in type: the arguments by the library's logic, the call in the clean one -/
theorem J_callType {T : String} {x : Str} {xp pos : Pos} {e : Expr} {rest : List Expr} {Q : Value → Shared → Prop}
    (h : wpAny M A (eval (.Name x xp) env) (fun fv s₀ => fv = .type T ∧ wpAny M A (spliced (backTo pos (starEach (e :: rest) env))) (fun vs s₁ => wpJ M A (call (.type T) vs) Q E s₁) E s₀) E s)
    (hk : keeperOf (.type T) = pure Keeper.machine := by rfl)
    (he : starEach (e :: rest) env = (false, eval e env) :: starEach rest env := by rfl) (hplain : (backTo pos (starEach rest env)).any (·.1) = false := by rfl) :
    wpJ M A (eval (.Call (.Name x xp) (e :: rest) [] pos) env) Q E s := by
  rw [arm_eval_Call_Name']
  refine wpJ_then (wpAny_mono h (fun fv s₀ h₀ => ?_) fun _ _ x => x)
  obtain ⟨rfl, h₀⟩ := h₀
  show wpJ M A (callWith pos (.type T) [] (backTo pos (starEach (e :: rest) env)) []) Q E s₀
  rw [he] at h₀ ⊢
  refine J_callWith (P := fun _ => True) (by show ((false || (backTo pos (starEach rest env)).any (·.1)) || false) = false; rw [hplain]; rfl) (fun _ _ => ⟨.machine, .inr (.inl rfl), Looks.of_pure hk⟩) (wpJ_of (evalArgs_plain ?_))
  exact wpAny_mono h₀ (fun vs s₁ h₁ => ⟨trivial, h₁⟩) fun _ _ x => x
end

section
variable {prog : Program} {w : World} {A : Around} {s : Shared} {R : Result → Shared → Prop}
theorem J_func {body : List Stmt} {env : Env}
    (h : wpJ (model prog w) (A.deeper env) (execs body env) (fun f s' => R (.ok (.ret (match f with | .ret v => v | _ => .none))) s')
      (fun e s' => wpJ (model prog w) (A.deeper env) (leaving env e) (fun _ s'' => R (.error e) s'') (fun e' s'' => R (.error e') s'') s') s) : codeJ (model prog w) A (.func body env) R s := by
  refine codeJ_of_tree ?_
  show wpJ _ (A.deeper env) (do point; match ← (execs body env).onRaise (leaving env) with | .ret v => ret v | _ => ret .none) _ _ s
  refine wpJ_then (wpAny_point (wpJ_bind (wpJ_onRaise (wpJ_mono h (fun f s' h' => ?_) fun _ _ h' => h'))))
  cases f <;> exact wpJ_pure h'
theorem J_call_function {a : Addr} {args : Args} {o : Obj} {fd : FuncData} {body : List Stmt} (hroom : A.depth < recursionLimit) (ho : s.heap.get? a = some o)
    (hd' : o.data = .func fd) (hco : fd.scope.isCoroutine = false) (hgen : fd.scope.isGenerator = false) (hbody : fd.body = .stmts body) (hcd : s.heap.CodeRec fd.code fd.qualname)
    (h : wpAny (model prog w) A.in1 (bindArgs fd args) (fun binds s₁ =>
      wpAny (model prog w) A.in1 (newFunctionEnv fd.scope fd.globals fd.closure binds (fd.qualname ++ ".<locals>.") (some a) fd.code none fd.builtins)
        (fun env s₂ => s₂.heap.NoLimit ∧ codeJ (model prog w) A (.func body env) R s₂) (fun e s' => R (.error e) s') s₁) (fun e s' => R (.error e) s') s) :
    codeJ (model prog w) A (.call (.ref a) args) R s := by
  refine codeJ_of_tree ?_
  show wpJ _ A.in1 (callAny (.ref a) args) _ _ s
  simp only [callAny]
  refine wpJ_then (wpAny_load ho ?_)
  obtain ⟨c, oc, vs, tq, hc, hoc, hdc, hq⟩ := hcd
  simp only [hd', callFunction, hco, hgen, hbody, hc]
  rw [hc] at h
  refine wpJ_then (m := field (.ref c) 1) (wpAny_field hoc hdc hq (wpJ_then (wpAny_pure ?_)))
  exact wpJ_then (wpAny_mono h (fun binds s₁ h₁ => wpJ_then (wpAny_mono h₁ (fun env s₂ h₂ => wpJ_then (wpAny_enterFrame h₂.1 hroom
    (wpJ_pure ⟨rfl, rfl, h₂.2⟩))) fun _ _ h' => h')) fun _ _ h' => h')
end

section
variable {prog : Program} {w : World} {A : Around} {s : Shared} {R : Result → Shared → Prop} {K : Frag}
  {name qual : Str} {params : Arguments} {body : List Stmt} {scope : Scope} {dV kV doc pm cdv ct oc : Value} {an od : Option Addr} {osl : Array (Option Value)} {f : Addr} {args : Args} {binds : List (Str × Value)}
/-- a def of the text's that closes over nothing and has no cells is entered: its ground is the whole heap -/
theorem enterJ (X : K.In s.heap) (hlim : s.heap.NoLimit) (ho : K.lookup f = some ⟨oc, od, .func (fnOf name qual params body scope dV kV doc pm an cdv ct), osl⟩) (hcd : codeIn K cdv qual = true)
    (hroom : A.depth < recursionLimit) (hbind : BindsTo s (fnOf name qual params body scope dV kV doc pm an cdv ct) args binds) (hloc : ∀ y ∈ binds, scope.names.lookup y.1 = some .local)
    (hcell : ∀ x ∈ scope.names, x.2 ≠ .cell)
    (h : ∀ L h₁, L = s.heap.objs.size → Fr s.heap L h₁ (fun y => binds.reverse.lookup y) → News s.heap L h₁ [] →
      wpJ (model prog w) (A.deeper (envOf qual scope L f cdv)) (execs body (envOf qual scope L f cdv)) (fun fl s' => R (.ok (.ret (match fl with | .ret v => v | _ => .none))) s')
        (fun e s' => wpJ (model prog w) (A.deeper (envOf qual scope L f cdv)) (leaving (envOf qual scope L f cdv) e) (fun _ s'' => R (.error e) s'') (fun e' s'' => R (.error e') s'') s')
        { s with heap := h₁, toks := s.toks + binds.length })
    (hco : scope.isCoroutine = false) (hgen : scope.isGenerator = false) (hk : scope.kind = .function) : codeJ (model prog w) A (.call (.ref f) args) R s := by
  refine J_call_function (fd := fnOf name qual params body scope dV kV doc pm an cdv ct) (body := body) hroom (X _ _ ho) rfl hco hgen rfl (codeRec_of X hcd) (hbind _ _ _ _ ?_)
  refine wpAny_newFunctionEnv hcell hloc (fun h₁ hns hsb => ⟨hlim.fresh _ hsb, J_func ?_⟩) hk
  have hk₁ : ∀ b o, s.heap.get? b = some o → h₁.get? b = some o := fun b o e => hsb.extBut b o (Nat.ne_of_lt (Heap.lt_size e)) (Heap.get?_push_of_some _ e)
  exact h _ h₁ rfl ⟨hns, hk₁, Nat.le_refl _⟩ News.nil
end
/-- the arguments of a call of the def at f are bound so -/
def BindsToK (K : Frag) (s : Shared) (f : Addr) (args : Args) (binds : List (Str × Value)) : Prop := ∀ fo fd, K.lookup f = some fo → fo.data = .func fd → BindsTo s fd args binds
theorem bindsK_of {K : Frag} {s : Shared} {name qual : Str} {params : Arguments} {body : List Stmt} {scope : Scope} {dV kV doc pm cdv ct oc : Value} {an od : Option Addr} {osl : Array (Option Value)} {f : Addr} {args : Args} {binds : List (Str × Value)}
    (ho : K.lookup f = some ⟨oc, od, .func (fnOf name qual params body scope dV kV doc pm an cdv ct), osl⟩) (hb : BindsTo s (fnOf name qual params body scope dV kV doc pm an cdv ct) args binds) : BindsToK K s f args binds := fun fo fd h1 h2 => by
  rw [ho] at h1
  cases h1
  cases h2
  exact hb
section
variable {prog : Program} {w : World} {A : Around} {s : Shared} {R : Result → Shared → Prop} {K : Frag}
  {name qual : Str} {params : Arguments} {body : List Stmt} {scope : Scope} {dV kV doc pm cdv ct oc : Value} {an od : Option Addr} {osl : Array (Option Value)} {f : Addr} {args : Args} {binds : List (Str × Value)}
/-- the same in the library's logic -/
theorem enterA (X : K.In s.heap) (hlim : s.heap.NoLimit) (ho : K.lookup f = some ⟨oc, od, .func (fnOf name qual params body scope dV kV doc pm an cdv ct), osl⟩) (hcd : codeIn K cdv qual = true)
    (hroom : A.depth < recursionLimit) (hbind : BindsTo s (fnOf name qual params body scope dV kV doc pm an cdv ct) args binds) (hloc : ∀ y ∈ binds, scope.names.lookup y.1 = some .local)
    (hcell : ∀ x ∈ scope.names, x.2 ≠ .cell)
    (h : ∀ L h₁, L = s.heap.objs.size → Fr s.heap L h₁ (fun y => binds.reverse.lookup y) → News s.heap L h₁ [] →
      wpAny (model prog w) (A.deeper (envOf qual scope L f cdv)) (execs body (envOf qual scope L f cdv)) (fun fl s' => R (.ok (.ret (match fl with | .ret v => v | _ => .none))) s')
        (fun e s' => wpAny (model prog w) (A.deeper (envOf qual scope L f cdv)) (leaving (envOf qual scope L f cdv) e) (fun _ s'' => R (.error e) s'') (fun e' s'' => R (.error e') s'') s')
        { s with heap := h₁, toks := s.toks + binds.length })
    (hco : scope.isCoroutine = false) (hgen : scope.isGenerator = false) (hk : scope.kind = .function) : codeAny (model prog w) A (.call (.ref f) args) R s :=
  codeAny_call_def (fd := fnOf name qual params body scope dV kV doc pm an cdv ct) (body := body) (binds := binds) hroom (X _ _ ho) rfl hlim (codeRec_of X hcd) rfl hbind hcell hloc
    (fun h₁ hns hk₁ => h _ h₁ rfl ⟨hns, hk₁, Nat.le_refl _⟩ News.nil) hco hgen hk
end
end Mine
end
section
open PySem PySem.W PySem.Calls PyProof.Rows
set_option Elab.async false
namespace Mine
section
variable {M : Model} {A : Around} {E : Value → Shared → Prop} {s : Shared} {env : Env}
/-- a comparison as a test: the left side in the clean logic, the rest in the library's -/
theorem J_isTrue_Compare1 {l : Expr} {op : CmpOp} {r : Expr} {pos : Pos} {whole : Sem Value} {Q : Bool → Shared → Prop} (hm : behindInMarks op r = false)
    (h : wpJ M A (eval l env) (fun a s₁ => wpAny M A (eval r env) (fun b s₂ => wpAny M A (compareOp op a b) (fun c s₃ => wpAny M A (truthy c) Q E s₃) E s₂) E s₁) E s) :
    wpJ M A (isTrue (.Compare l [op] [r] pos) env whole) Q E s := by
  rw [isTrue_Compare1, markedBehindIn_of_false hm]
  refine wpJ_bind (wpJ_mono h (fun a s₁ h₁ => wpJ_of ?_) fun _ _ x => x)
  intro Γ p hΓ
  simp only [Sem.wp_bind', Sem.wp_holding, Sem.wp_cmd_standAt, Sem.wp_operate]
  refine Sem.wp_mono M Γ _ (fun b p' s₂ h₂ => ?_) (fun _ _ _ x => x) _ _ (h₁ Γ p hΓ)
  refine Sem.wp_mono M Γ _ (fun c p' s₃ h₃ => ?_) (fun _ _ _ x => x) _ _ (h₂ Γ _ hΓ)
  exact h₃ Γ _ hΓ
/-- the same with the right side in the clean logic too -/
theorem J_isTrue_CompareR {l : Expr} {op : CmpOp} {r : Expr} {pos : Pos} {whole : Sem Value} {Q : Bool → Shared → Prop} (hm : behindInMarks op r = false)
    (h : wpJ M A (eval l env) (fun a s₁ => wpJ M A (eval r env) (fun b s₂ => wpAny M A (compareOp op a b) (fun c s₃ => wpAny M A (truthy c) Q E s₃) E s₂) E s₁) E s) :
    wpJ M A (isTrue (.Compare l [op] [r] pos) env whole) Q E s := by
  rw [isTrue_Compare1, markedBehindIn_of_false hm]
  refine wpJ_bind (wpJ_mono h (fun a s₁ h₁ => ?_) fun _ _ x => x)
  intro Γ p hΓ hc
  simp only [Sem.wp_bind', Sem.wp_holding, Sem.wp_cmd_standAt, Sem.wp_operate]
  refine Sem.wp_mono M Γ _ (fun b p' s₂ h₂ => ?_) (fun _ _ _ x => x) _ _ (h₁ Γ p hΓ hc)
  refine Sem.wp_mono M Γ _ (fun c p' s₃ h₃ => ?_) (fun _ _ _ x => x) _ _ (h₂ Γ _ hΓ)
  exact h₃ Γ _ hΓ
theorem J_allTrue_nil {op : BoolOp} {Q : Bool → Shared → Prop} (h : Q (op == .And) s) : wpJ M A (allTrue op [] env) Q E s := by
  rw [arm_allTrue_nil]
  exact wpJ_pure h
theorem J_execs_nil {Q : Flow → Shared → Prop} (h : Q .next s) : wpJ M A (execs [] env) Q E s := by
  rw [arm_execs_nil]
  exact wpJ_pure h
theorem J_callK1 {K : Frag} {f : Value} {x : Str} {xp pos : Pos} {e : Expr} {Q : Value → Shared → Prop} (hk : keepIn K f = true)
    (h : wpAny M A (eval (.Name x xp) env) (fun fv s₀ => fv = f ∧ wpJ M A (eval e env) (fun v s₁ => K.In s₁.heap ∧ wpJ M A (call f [v]) Q E s₁) E s₀) E s)
    (he : starEach [e] env = [(false, eval e env)] := by rfl) : wpJ M A (eval (.Call (.Name x xp) [e] [] pos) env) Q E s := by
  rw [arm_eval_Call_Name']
  refine wpJ_then (wpAny_mono h (fun fv s₀ h₀ => ?_) fun _ _ x => x)
  obtain ⟨rfl, h₀⟩ := h₀
  show wpJ M A (callWith pos fv [] (backTo pos (starEach [e] env)) []) Q E s₀
  rw [he]
  refine J_callWith (P := K.In) rfl (keeps_K hk) ?_
  unfold evalArgs
  show wpJ M A (spliced [(false, eval e env)] >>= _) _ E s₀
  refine wpJ_bind ?_
  rw [spliced]
  refine wpJ_bind (wpJ_mono h₀ (fun v s₁ h₁ => ?_) fun _ _ x => x)
  simp only [Bool.false_eq_true, if_false]
  refine wpJ_bind (wpJ_pure (wpJ_bind (wpJ_holding (wpJ_pure (wpJ_pure ?_)))))
  refine wpJ_holding ?_
  exact wpJ_bind (wpJ_pure (wpJ_bind (wpJ_pure (wpJ_pure h₁))))
end
end Mine
end
section
open PySem PySem.W PySem.Calls PyProof.Rows
set_option Elab.async false
set_option maxRecDepth 100000
namespace Mine
open PySem (Around Model Ctx Sem Code Value Shared Result Addr Obj Flow Fin)

/-! ## Generators in the clean logic: what runs between two values, and at the end -/
def SegJ (M : Model) (A : Around) (D : Shared → Shared → Prop) (Y : Nat → Shared → Value → Shared → Prop) (Lk : Shared → Shared → Prop) : Nat → Shared → Code → Sem Fin → Shared → Prop
  | 0 => fun s₀ c t s => ∀ Γ p, Γ.code = c → Γ.Woken A → Clean Γ → ∃ e s', Runs M Γ p t [] s e s' ∧ e = .ret (.ok .next) ∧ D s₀ s'
  | n + 1 => fun s₀ c t s => ∀ Γ p, Γ.code = c → Γ.Woken A → Clean Γ → ∃ e s', Runs M Γ p t [] s e s' ∧ ∃ v g l k c' p', e = .susp v g l k c' p' [] ∧ e.quiet = true ∧ cleanC c' = true ∧ Y n s₀ v s' ∧
      ∀ s'', Lk s' s'' → SegJ M A D Y Lk n s'' c' (k (.send .none)) s''
def EndJ (M : Model) (A : Around) (D : Shared → Shared → Prop) (Y : Nat → Shared → Value → Shared → Prop) (Lk : Shared → Shared → Prop) : Nat → Shared → End → Shared → Prop
  | 0 => fun s₀ e s' => e = .ret (.ok .next) ∧ D s₀ s'
  | n + 1 => fun s₀ e s' => ∃ v g l k c' p', e = .susp v g l k c' p' [] ∧ e.quiet = true ∧ cleanC c' = true ∧ Y n s₀ v s' ∧ ∀ s'', Lk s' s'' → SegJ M A D Y Lk n s'' c' (k (.send .none)) s''
section
variable {M : Model} {A : Around} {D : Shared → Shared → Prop} {Y : Nat → Shared → Value → Shared → Prop} {Lk : Shared → Shared → Prop} {n : Nat} {s₀ s : Shared} {c : Code}
theorem segJ_iff {t : Sem Fin} : SegJ M A D Y Lk n s₀ c t s ↔ ∀ Γ p, Γ.code = c → Γ.Woken A → Clean Γ → ∃ e s', Runs M Γ p t [] s e s' ∧ EndJ M A D Y Lk n s₀ e s' := by
  cases n <;> exact Iff.rfl
theorem segJ_wrap {α : Type} {m : Sem α} {K : α → Sem Fin} {H : Value → Sem Fin} {gd : Bool → Bool} {lv : List Value → List Value}
    (h : wpJ M (A.over c []) m (fun a s' => SegJ M A D Y Lk n s₀ c (K a) s') (fun x s' => SegJ M A D Y Lk n s₀ c (H x) s') s) : SegJ M A D Y Lk n s₀ c (m.wrap K H gd lv) s := by
  rw [segJ_iff]
  rintro Γ p rfl hΓ hc
  have ho : Clean (Γ.over []) := ⟨hc.1, hc.2⟩
  exact runs_wrap_of_wp K H gd lv m (h (Γ.over []) p (hΓ.over []) ho) (fun a p' s' h' => segJ_iff.mp h' Γ p' rfl hΓ hc) fun x p' s' h' => segJ_iff.mp h' Γ p' rfl hΓ hc
theorem segJ_again {c' : Code} (hq : c'.quiet = true) (hcl : cleanC c' = true) (hc : SegJ M A D Y Lk n s₀ c' (M.den c') s) : SegJ M A D Y Lk n s₀ c (.pure (.again c')) s := by
  rw [segJ_iff]
  rintro Γ p rfl hΓ hcc
  obtain ⟨e, s', hr, he⟩ := segJ_iff.mp hc (Γ.goto c') p rfl (hΓ.goto c') (hcc.goto hcl)
  exact ⟨e, s', Runs.head (c₁ := c') (fun _ _ x => .again hq x) hr, he⟩
theorem segJ_done (h : D s₀ s) : SegJ M A D Y Lk 0 s₀ c (.pure (.done .next)) s := by
  rw [segJ_iff]
  rintro Γ p rfl _ _
  exact ⟨.ret (.ok .next), s, Runs.leaf (.ok .next), rfl, h⟩
theorem segJ_yield {v : Value} {g : Bool} {l : List Value} {k : Resume → Sem Fin} (hg : g = false) (hcl : cleanC c = true) (hY : Y n s₀ v s) (h : ∀ s'', Lk s s'' → SegJ M A D Y Lk n s'' c (k (.send .none)) s'') :
    SegJ M A D Y Lk (n + 1) s₀ c (.yield v g l k) s := by
  rw [segJ_iff]
  rintro Γ p rfl _ _
  exact ⟨_, s, Runs.yield' [] rfl, v, g, l, k, Γ.code, p, rfl, by simp [End.quiet, hg], hcl, hY, h⟩
theorem segJ_at {p' : PySem.Pos} {k : Unit → Sem Fin} (h : SegJ M A D Y Lk n s₀ c (k ()) s) : SegJ M A D Y Lk n s₀ c (.at p' k) s :=
  segJ_wrap (m := standAt p') (K := k) (H := .raise) (gd := id) (lv := id) (wpJ_standAt h)
theorem segJ_bind_wrap {α β : Type} {m : Sem α} {K : α → Sem β} {K' : β → Sem Fin} {H' : Value → Sem Fin} {gd : Bool → Bool} {lv : List Value → List Value}
    (h : wpJ M (A.over c []) m (fun a s' => SegJ M A D Y Lk n s₀ c ((K a).wrap K' H' gd lv) s') (fun x s' => SegJ M A D Y Lk n s₀ c (H' x) s') s) : SegJ M A D Y Lk n s₀ c ((m >>= K).wrap K' H' gd lv) s := by
  rw [Sem.bind_eq_wrap', Sem.wrap_wrap]
  exact segJ_wrap h
end
/-- where a generator stands that has n values left -/
def GoesJ (M : Model) (A : Around) (D : Shared → Shared → Prop) (Y : Nat → Shared → Value → Shared → Prop) (Lk : Shared → Shared → Prop) (n : Nat) (gs : GenState) (s : Shared) : Prop :=
  match gs with
  | .fresh c => cleanC c = true ∧ SegJ M A D Y Lk n s c (M.den c) s
  | .suspended k _ c _ fs _ => fs = [] ∧ cleanC c = true ∧ SegJ M A D Y Lk n s c (k (.send .none)) s
  | _ => False
section
variable {M : Model} {A : Around} {D : Shared → Shared → Prop} {Y : Nat → Shared → Value → Shared → Prop} {Lk : Shared → Shared → Prop} {n : Nat} {s : Shared} {E : Value → Shared → Prop}
theorem wpJ_resume {g : Nat} {gs : GenState} {l : List Value} {α : Type} {k : GenResult → Sem α} {Q : α → Shared → Prop} (hg : s.gens[g]? = some gs) (hgo : GoesJ M A D Y Lk n gs (s.setGen g .running))
    (hR : ∀ s₁, n = 0 → D (s.setGen g .running) s₁ → wpJ M A (k (End.ret (.ok .next)).result) Q E (s₁.setGen g .finished))
    (hY : ∀ m v s₁ gs', n = m + 1 → Y m (s.setGen g .running) v s₁ → (∀ s'', Lk s₁ s'' → GoesJ M A D Y Lk m gs' s'') → gs'.bare = true → wpJ M A (k (.yielded v)) Q E (s₁.setGen g gs')) :
    wpJ M A (.resume g (.send .none) l k) Q E s := by
  intro Γ p hΓ hc
  rw [Sem.wp_resume]
  have fin : ∀ e₁ s₁, EndJ M A D Y Lk n (s.setGen g .running) e₁ s₁ → Sem.wp M Γ (k e₁.result) (fun a _ s' => Q a s') (fun e _ s' => E e s') p (s₁.setGen g e₁.genState) := by
    intro e₁ s₁ he
    cases n with
    | zero =>
      obtain ⟨rfl, hd⟩ := he
      exact hR s₁ rfl hd Γ p hΓ hc
    | succ m =>
      obtain ⟨v, g', l', k', c', p', rfl, hqq, hcl, hy, hk⟩ := he
      have := hY m v s₁ (End.susp v g' l' k' c' p' []).genState rfl hy (fun s'' hs => ?_) (End.bare_of_quiet hqq) Γ p hΓ hc
      · exact this
      · exact ⟨rfl, hcl, hk s'' hs⟩
  have hqt : ∀ e₁ s₁, EndJ M A D Y Lk n (s.setGen g .running) e₁ s₁ → e₁.quiet = true := by
    intro e₁ s₁ he
    cases n with
    | zero =>
      obtain ⟨rfl, hd⟩ := he
      rfl
    | succ m =>
      obtain ⟨v, g', l', k', c', p', _, hq, _⟩ := he
      exact hq
  cases gs with
  | fresh c =>
    obtain ⟨hcl, hs⟩ := hgo
    obtain ⟨e₁, s₁, hr, he⟩ := segJ_iff.mp hs (Γ.wake c p) p rfl (hΓ.wake c p) (hc.wake hcl)
    exact ⟨_, _, by unfold Wakes; rw [hg]; exact ⟨e₁, s₁, hr, hqt e₁ s₁ he, rfl, rfl⟩, fin e₁ s₁ he⟩
  | suspended k₀ l₀ c₀ p₀ fs₀ cl =>
    obtain ⟨rfl, hcl, hs⟩ := hgo
    obtain ⟨e₁, s₁, hr, he⟩ := segJ_iff.mp hs (Γ.wake c₀ p) p₀ rfl (hΓ.wake c₀ p) (hc.wake hcl)
    exact ⟨_, _, by unfold Wakes; rw [hg]; exact ⟨e₁, s₁, hr, hqt e₁ s₁ he, rfl, rfl⟩, fin e₁ s₁ he⟩
  | running => exact hgo.elim
  | finished => exact hgo.elim
end
section
variable {prog : Program} {w : World} {A : Around} {E : Value → Shared → Prop} {s : Shared}
theorem J_callSpecial?_slot {M : Model} {self : Value} {T : String} {name : Str} {id : String} {args : List Value} {kw : List (Str × Value)}
    {Q : Option Value → Shared → Prop} (hT : s.TypeIs self T) (h : Slot T name id) (hc : wpJ M A (call (.builtin id) (self :: args) kw) (fun v => Q (some v)) E s) : wpJ M A (callSpecial? self name args kw) Q E s := by
  simp only [callSpecial?]
  refine wpJ_then (wpAny_specialOf hT h.lookup ?_)
  simp only [h.bind]
  exact wpJ_holding (wpJ_then (wpAny_pure (wpJ_bind (wpJ_mono hc (fun v s' h' => wpJ_pure h') fun _ _ h' => h'))))
theorem codeJ_call_builtin {id : String} {args : Args} {b : Builtin} {R : Result → Shared → Prop} (hq : plainId id = true) (hcl : badIds.contains id = false) (hb : entryFor table id = some b)
    (h : wpAny (model prog w) A.in1 (checkBuiltinCall id args) (fun _ s₁ => wpJ (model prog w) A.in1 (b args) (finPost prog w A R) (fun e s' => R (.error e) s') s₁) (fun e s' => R (.error e) s') s) :
    codeJ (model prog w) A (.call (.builtin id) args) R s := by
  refine codeJ_of_tree ?_
  show wpJ _ A.in1 (do checkBuiltinCall id args; again (.builtin id args)) _ _ s
  refine wpJ_then (wpAny_mono h (fun _ s₁ h₁ => wpJ_pure ⟨plainId_quiet hq args, clean_of hcl, codeJ_builtin hb ?_⟩) fun _ _ h' => h')
  rw [Around.under_plainId hq args]
  exact h₁
theorem J_call_entry {T : String} {name : Str} {id : String} {b : Builtin} {self : Value} {rest : List Value} {Q : Value → Shared → Prop} (h : Slot T name id) (hcl : badIds.contains id = false) (hT : s.TypeIs self T)
    (hb : entryFor table id = some b) (hc : wpJ (model prog w) A.in1 (b ⟨self :: rest, []⟩) (fun fin s' => ∃ v, fin = .done (.ret v) ∧ Q v s') E s) (ha : argsOk id ⟨self :: rest, []⟩) :
    wpJ (model prog w) A (call (.builtin id) (self :: rest)) Q E s := by
  refine wpJ_call (codeJ_call_builtin h.plain hcl hb (h.check _ _ _ _ _ _ _ _ hT ha (wpJ_mono hc (fun fin s' h' => ?_) fun _ _ h' => h')))
  obtain ⟨v, rfl, hv⟩ := h'
  exact hv
/-- the next value of a generator expression, in the clean logic -/
theorem J_pyNext_gen {D : Shared → Shared → Prop} {Y : Nat → Shared → Value → Shared → Prop} {Lk : Shared → Shared → Prop} {n : Nat} {a : Addr} {g : Nat} {gs : GenState} {Q : Option Value → Shared → Prop} (hh : A.handled = none)
    (hl : s.heap.NoLimit) (hroom : A.depth < recursionLimit) (hg : s.heap.IsGen a g) (hgs : s.gens[g]? = some gs) (hgo : GoesJ (model prog w) A.in1 D Y Lk n gs (s.setGen g .running))
    (hY : ∀ m v s₁ gs', n = m + 1 → Y m (s.setGen g .running) v s₁ → (∀ s'', Lk s₁ s'' → GoesJ (model prog w) A.in1 D Y Lk m gs' s'') → gs'.bare = true → Q (some v) (s₁.setGen g gs'))
    (hD : ∀ s₁, n = 0 → D (s.setGen g .running) s₁ → ∀ h', (∀ b o, s₁.heap.get? b = some o → h'.get? b = some o) → Q none { s₁.setGen g .finished with heap := h' }) :
    wpJ (model prog w) A (pyNext (.ref a)) Q E s := by
  unfold pyNext
  refine wpJ_bind (wpJ_attempt (J_callSpecial?_slot (name := Str.ofString "__next__") hg.typeIs slot_gen_next (J_call_entry slot_gen_next (by decide +kernel) hg.typeIs entry_gen_next ?_ (args_gen_next _))))
  show wpJ _ A.in1 (Builtin.Generator.genWake (.ref a) (.send .none)) _ _ s
  unfold Builtin.Generator.genWake
  refine wpJ_then (wpAny_holding (wpAny_genNumber hg (wpJ_then (wpAny_genState hgs ?_))))
  cases gs with
  | running => exact hgo.elim
  | finished => exact hgo.elim
  | _ =>
    refine wpJ_then (wpAny_roomToWake hl hroom ?_)
    show wpJ _ A.in1 (.resume g (.send .none) [] _) _ _ s
    refine wpJ_resume hgs hgo (fun s₁ hn hd => ?_) (fun m v s₁ gs' hn hv hk hba => ?_)
    · show wpJ _ A.in1 (newExc (.type "StopIteration") [] >>= _) _ _ _
      refine wpJ_of ?_
      refine wpAny_bind ?_
      simp only [newExc, newTuple]
      refine wpAny_bind (wpAny_newObj_type ?_ (by size_fits))
      refine wpAny_bind (m := firstArgMember _ _) (wpAny_of_eq (a := Value.none) (by first | rfl | (simp only [firstArgMember]; rfl)) ?_)
      refine wpAny_newObj_type ?_ (by size_fits)
      simp only [raiseNew]
      refine wpAny_bind (wpAny_bind (wpAny_handled ?_))
      first | rw [show A.in1.handled = none from hh] | rw [hh]
      refine wpAny_throw ?_
      refine wpJ_then (wpAny_isInstance (T := "StopIteration") (b := true) ⟨_, Heap.get?_push_size _ rfl, rfl⟩ isSubtype_stop ?_)
      exact wpJ_pure (hD s₁ hn hd _ fun b o hb => Heap.get?_push_of_some _ (Heap.get?_push_of_some _ hb))
    · exact wpJ_pure ⟨v, rfl, wpJ_pure (hY m v s₁ gs' hn hv hk hba)⟩
end
end Mine
end
section
open PySem PySem.W PySem.Calls PyProof.Rows
set_option Elab.async false
set_option maxRecDepth 100000
namespace Mine
open PySem (Around Model Ctx Sem Code Value Shared Result Addr Obj Flow Fin Heap)

/-- what a generator's turn leaves of a state: all but its frame and its source -/
def Since (C I : Addr) (s₀ s : Shared) : Prop := ∃ h' tk, s = { s₀ with heap := h', toks := tk } ∧ ∀ b o, b ≠ C → b ≠ I → s₀.heap.get? b = some o → h'.get? b = some o
theorem Since.refl {C I : Addr} {s : Shared} : Since C I s s := ⟨s.heap, s.toks, rfl, fun _ _ _ _ e => e⟩
theorem Since.step {C I : Addr} {s₀ s : Shared} (x : Since C I s₀ s) {h' : Heap} {tk : Nat} (hk : ∀ b o, b ≠ C → b ≠ I → s.heap.get? b = some o → h'.get? b = some o) : Since C I s₀ { s with heap := h', toks := tk } := by
  obtain ⟨h₁, tk₁, rfl, k⟩ := x
  exact ⟨h', tk, rfl, fun b o n1 n2 e => hk b o n1 n2 (k b o n1 n2 e)⟩
/-- what stands of the heap that a generator was made in -/
def KeptB (bd C I : Addr) (h₀ h : Heap) : Prop := ∀ b o, b < bd → b ≠ C → b ≠ I → h₀.get? b = some o → h.get? b = some o
def LkB (bd : Addr) (s s' : Shared) : Prop := ∀ b o, b < bd → s.heap.get? b = some o → s'.heap.get? b = some o
def YB (n : Nat) (C I : Addr) (F : Nat → Value → Prop) (m : Nat) (s₀ : Shared) (v : Value) (s : Shared) : Prop := (∃ i, i + m + 1 = n ∧ F i v) ∧ Since C I s₀ s
section
variable {prog : Program} {w : World} {A : Around}
theorem segJ_loop {elt iter : Expr} {x : Str} {px : PySem.Pos} {scope : Scope} {pos : PySem.Pos} {I bd : Addr} {fp : List Addr} {n : Nat} {P : Nat → Value → Prop} {St : Nat → Heap → Prop} {cenv : Env} {F : Nat → Value → Prop} {h₀ : Heap}
    (hh : A.handled = none) (W : ∀ A' : Around, A'.handled = none → Walks prog w A' I fp [I] n P St) (hfp : ∀ b ∈ fp, b < bd ∧ b ≠ cenv.locals) (hC : cenv.locals < bd)
    (hx : cenv.kindOf x = some .local) (hp : (cenv.scope.kind == .class || (cenv.scope.kind == .module && cenv.locals != cenv.globals)) = false) (hco : cenv.scope.isCoroutine = false) (hIC : I ≠ cenv.locals)
    (helt : ∀ (A' : Around) i v (s₂ : Shared) m₂ E', A'.handled = none → A'.depth ≤ A.depth + 1 → A'.units ≤ A.units + 4 → i < n → P i v → s₂.heap.Ns cenv.locals m₂ → m₂ x = some v → KeptB bd cenv.locals I h₀ s₂.heap →
      wpJ (model prog w) A' (eval elt cenv) (fun y s₃ => F i y ∧ ∃ h' tk, s₃ = { s₂ with heap := h', toks := tk } ∧ ∀ b o, s₂.heap.get? b = some o → h'.get? b = some o) E' s₂) :
    ∀ (k i : Nat) (s₀ s : Shared) (m : Str → Option Value), n - i = k → i ≤ n → St i s.heap → s.heap.Ns cenv.locals m → Since cenv.locals I s₀ s → KeptB bd cenv.locals I h₀ s.heap →
      SegJ (model prog w) A (Since cenv.locals I) (YB n cenv.locals I F) (LkB bd) k s₀ (.compLoop (.GeneratorExp elt [⟨.Name x px, iter, [], 0⟩] scope pos) 0 (.ref I) .none cenv)
        ((model prog w).den (.compLoop (.GeneratorExp elt [⟨.Name x px, iter, [], 0⟩] scope pos) 0 (.ref I) .none cenv)) s := by
  have hh' : (A.over (.compLoop (.GeneratorExp elt [⟨.Name x px, iter, [], 0⟩] scope pos) 0 (.ref I) .none cenv) []).handled = none := hh
  have hd' : (A.over (.compLoop (.GeneratorExp elt [⟨.Name x px, iter, [], 0⟩] scope pos) 0 (.ref I) .none cenv) []).depth ≤ A.depth + 1 := Nat.le_refl _
  have hu' : (A.over (.compLoop (.GeneratorExp elt [⟨.Name x px, iter, [], 0⟩] scope pos) 0 (.ref I) .none cenv) []).units ≤ A.units + 4 := by
    show A.units + 0 + 3 * 1 ≤ A.units + 4
    omega
  intro k
  induction k with
  | zero =>
    intro i s₀ s m hk hi hst hn hsince hkp
    have hin : i = n := by omega
    subst hin
    show SegJ _ A _ _ _ 0 s₀ _ ((compTurn (.GeneratorExp elt [⟨.Name x px, iter, [], 0⟩] scope pos) 0 (.ref I) .none cenv).onRaise (leaving cenv)) s
    rw [compTurn_gen, Sem.onRaise_eq_wrap]
    refine segJ_bind_wrap (wpJ_standAt ?_)
    refine segJ_bind_wrap (wpJ_of ((W _ hh').done s _ _ hst fun h' tk hk' => ?_))
    exact segJ_done (hsince.step fun b o _ n2 e => hk' b o (fun hm => n2 (List.mem_singleton.mp hm)) e)
  | succ k ih =>
    intro i s₀ s m hk hi hst hn hsince hkp
    have hlt : i < n := by omega
    show SegJ _ A _ _ _ (k + 1) s₀ _ ((compTurn (.GeneratorExp elt [⟨.Name x px, iter, [], 0⟩] scope pos) 0 (.ref I) .none cenv).onRaise (leaving cenv)) s
    rw [compTurn_gen, Sem.onRaise_eq_wrap]
    refine segJ_bind_wrap (wpJ_standAt ?_)
    refine segJ_bind_wrap (wpJ_of ((W _ hh').item i s _ _ hlt hst fun v h₁ tk₁ hPv hst₁ hk₁ => ?_))
    refine segJ_bind_wrap (wpJ_of_eq (rfl : letOwnedTupleGo (.Name x px) (.ref I) v = pure ()) ?_)
    have hn₁ : h₁.Ns cenv.locals m := hn.at' fun o e => hk₁ _ o (fun hm => hIC (List.mem_singleton.mp hm).symm) e
    refine segJ_bind_wrap (wpJ_of (wpAny_assign_Name (wpAny_storeName_local hx hn₁ (fun h₂ hn₂ hs₂ => ?_) hp)))
    have up₂ : ∀ b o, b ≠ cenv.locals → b ≠ I → s.heap.get? b = some o → h₂.get? b = some o := fun b o n1 n2 e => hs₂.extBut b o n1 (hk₁ b o (fun hm => n2 (List.mem_singleton.mp hm)) e)
    have hst₂ : St (i + 1) h₂ := (W A hh).frame _ _ _ hst₁ fun b hb o e => hs₂.extBut b o (hfp b hb).2 e
    have hkp₂ : KeptB bd cenv.locals I h₀ h₂ := fun b o b0 n1 n2 e => up₂ b o n1 n2 (hkp b o b0 n1 n2 e)
    refine segJ_bind_wrap (wpJ_of_eq (a := true) rfl ?_)
    simp only [if_true]
    have hy : ∀ v, yieldOut cenv v = yieldValue v := fun v => by simp only [yieldOut, hco, Bool.false_eq_true, if_false]
    simp only [hy]
    rw [Sem.bind_eq_wrap', Sem.bind_eq_wrap', Sem.wrap_wrap, Sem.wrap_wrap]
    refine segJ_wrap (wpJ_mono (helt _ i v _ _ _ hh' hd' hu' hlt hPv hn₂ (by simp) hkp₂) (fun y s₄ h₄ => ?_) fun _ _ e => e)
    obtain ⟨hFy, h₄, tk₄, rfl, hk₄⟩ := h₄
    refine segJ_at (segJ_yield rfl rfl ⟨⟨i, by omega, hFy⟩, hsince.step fun b o n1 n2 e => hk₄ b o (up₂ b o n1 n2 e)⟩ fun s'' hal => ?_)
    refine segJ_again rfl rfl (ih (i + 1) s'' s'' _ (by omega) hlt ((W A hh).frame _ _ _ hst₂ fun b hb o e => hal b o (hfp b hb).1 (hk₄ b o e)) ((hn₂.keeps hk₄).at' fun o e => hal _ o hC e) Since.refl
      fun b o b0 n1 n2 e => hal b o b0 (hk₄ b o (hkp₂ b o b0 n1 n2 e)))
theorem segJ_start {elt iter : Expr} {x : Str} {px : PySem.Pos} {scope : Scope} {pos : PySem.Pos} {I bd : Addr} {fp : List Addr} {n : Nat} {P : Nat → Value → Prop} {St : Nat → Heap → Prop} {cenv : Env} {F : Nat → Value → Prop} {h₀ : Heap}
    (hh : A.handled = none) (W : ∀ A' : Around, A'.handled = none → Walks prog w A' I fp [I] n P St) (hfp : ∀ b ∈ fp, b < bd ∧ b ≠ cenv.locals) (hC : cenv.locals < bd)
    (hx : cenv.kindOf x = some .local) (hp : (cenv.scope.kind == .class || (cenv.scope.kind == .module && cenv.locals != cenv.globals)) = false) (hco : cenv.scope.isCoroutine = false) (hIC : I ≠ cenv.locals)
    (helt : ∀ (A' : Around) i v (s₂ : Shared) m₂ E', A'.handled = none → A'.depth ≤ A.depth + 1 → A'.units ≤ A.units + 4 → i < n → P i v → s₂.heap.Ns cenv.locals m₂ → m₂ x = some v → KeptB bd cenv.locals I h₀ s₂.heap →
      wpJ (model prog w) A' (eval elt cenv) (fun y s₃ => F i y ∧ ∃ h' tk, s₃ = { s₂ with heap := h', toks := tk } ∧ ∀ b o, s₂.heap.get? b = some o → h'.get? b = some o) E' s₂)
    (s : Shared) (m : Str → Option Value) (hst : St 0 s.heap) (hn : s.heap.Ns cenv.locals m) (hkp : KeptB bd cenv.locals I h₀ s.heap) :
    SegJ (model prog w) A (Since cenv.locals I) (YB n cenv.locals I F) (LkB bd) n s (.compStart (.GeneratorExp elt [⟨.Name x px, iter, [], 0⟩] scope pos) 0 (.ref I) .none cenv)
      ((model prog w).den (.compStart (.GeneratorExp elt [⟨.Name x px, iter, [], 0⟩] scope pos) 0 (.ref I) .none cenv)) s := by
  have hh' : (A.over (.compStart (.GeneratorExp elt [⟨.Name x px, iter, [], 0⟩] scope pos) 0 (.ref I) .none cenv) []).handled = none := hh
  have loop := segJ_loop (iter := iter) (px := px) (scope := scope) (pos := pos) hh W hfp hC hx hp hco hIC helt n 0 s s m (Nat.sub_zero _) (Nat.zero_le _) hst hn Since.refl hkp
  show SegJ _ A _ _ _ n s _ ((compStart (.GeneratorExp elt [⟨.Name x px, iter, [], 0⟩] scope pos) 0 (.ref I) .none cenv).onRaise (leaving cenv)) s
  unfold compStart
  rw [Sem.onRaise_eq_wrap]
  show SegJ _ A _ _ _ n s _ ((ask >>= _).wrap _ _ _ _) s
  refine segJ_bind_wrap (wpJ_of (wpAny_askSetting ?_))
  split
  · exact segJ_again rfl rfl loop
  · refine segJ_bind_wrap (wpJ_rule ?_)
    show SegJ _ A _ _ _ n s _ ((standAt iter.pos >>= _).wrap _ _ _ _) s
    exact segJ_bind_wrap (wpJ_standAt (segJ_bind_wrap (wpJ_of ((W _ hh').self 0 s _ _ hst (segJ_again rfl rfl loop)))))
end
end Mine
end
section
open PySem PySem.W PySem.Calls PyProof.Rows
set_option Elab.async false
set_option maxRecDepth 100000
namespace Mine
open PySem (Around Model Ctx Sem Code Value Shared Result Addr Obj Flow Fin Heap)
/-- a generator that has k of its n values left -/
structure GenOn (M : Model) (A : Around) (n : Nat) (F : Nat → Value → Prop) (bd C I a : Addr) (g : Nat) (k : Nat) (s : Shared) : Prop where
  gen : s.heap.IsGen a g
  lim : s.heap.NoLimit
  apart : a < bd ∧ a ≠ C ∧ a ≠ I ∧ cStatics < bd ∧ cStatics ≠ C ∧ cStatics ≠ I
  goes : ∃ gs, s.gens[g]? = some gs ∧ ∀ s'', LkB bd s s'' → GoesJ M A.in1 (Since C I) (YB n C I F) (LkB bd) k gs s''
def SinceG (C I : Addr) (s s' : Shared) : Prop := ∃ h' tk gs', s' = { s with heap := h', toks := tk, gens := gs' } ∧ (∀ b o, b ≠ C → b ≠ I → s.heap.get? b = some o → h'.get? b = some o) ∧ (AllBare s.gens → AllBare gs')
theorem bare_set {s : Shared} {g : Nat} {x : GenState} (h : AllBare s.gens) (hx : x.bare = true) : AllBare (s.setGen g x).gens := fun y hy => by
  rcases Array.mem_or_eq_of_mem_setIfInBounds hy with h1 | h1
  · exact h y h1
  · rw [h1]; exact hx
section
variable {M : Model} {A : Around} {n : Nat} {F : Nat → Value → Prop} {bd C I a : Addr} {g k : Nat} {s s' s'' : Shared}
theorem LkB.trans (x : LkB bd s s') (y : LkB bd s' s'') : LkB bd s s'' := fun b o hb e => y b o hb (x b o hb e)
theorem LkB.refl : LkB bd s s := fun _ _ _ e => e
theorem GenOn.frame (x : GenOn M A n F bd C I a g k s) (hk : LkB bd s s') (hg : s'.gens = s.gens) : GenOn M A n F bd C I a g k s' := by
  refine ⟨?_, ?_, x.apart, ?_⟩
  · obtain ⟨o, nm, qn, ho, r⟩ := x.gen
    exact ⟨o, nm, qn, hk _ _ x.apart.1 ho, r⟩
  · obtain ⟨mc, hns, hnn⟩ := x.lim
    exact ⟨mc, hns.at' fun o e => hk _ o x.apart.2.2.2.1 e, hnn⟩
  · obtain ⟨gs, h1, h2⟩ := x.goes
    exact ⟨gs, by rw [hg]; exact h1, fun s2 h => h2 s2 (hk.trans h)⟩
theorem SinceG.trans (x : SinceG C I s s') (y : SinceG C I s' s'') : SinceG C I s s'' := by
  obtain ⟨h1, t1, g1, rfl, k1, b1⟩ := x
  obtain ⟨h2, t2, g2, rfl, k2, b2⟩ := y
  exact ⟨h2, t2, g2, rfl, fun b o n1 n2 e => k2 b o n1 n2 (k1 b o n1 n2 e), fun h => b2 (b1 h)⟩
end
section
variable {prog : Program} {w : World} {A : Around} {E : Value → Shared → Prop} {s : Shared} {n : Nat} {F : Nat → Value → Prop} {bd C I a : Addr} {g k : Nat}
theorem genOn_next {Q : Option Value → Shared → Prop} (G : GenOn (model prog w) A n F bd C I a g k s) (hh : A.handled = none) (hroom : A.depth < recursionLimit)
    (hY : ∀ k' i v s', k = k' + 1 → i + k' + 1 = n → F i v → GenOn (model prog w) A n F bd C I a g k' s' → SinceG C I s s' → Q (some v) s')
    (hD : ∀ s', k = 0 → SinceG C I s s' → Q none s') : wpJ (model prog w) A (pyNext (.ref a)) Q E s := by
  obtain ⟨gs, hgs, hgo⟩ := G.goes
  have lk : LkB bd s (s.setGen g .running) := fun _ _ _ e => e
  refine J_pyNext_gen hh G.lim hroom G.gen hgs (hgo _ lk) (fun m v s₁ gs' hn hv hk hba => ?_) (fun s₁ hn hd h' hk => ?_)
  · obtain ⟨⟨i, hi, hF⟩, h₁, tk₁, rfl, hk₁⟩ := hv
    refine hY m i v _ hn hi hF ⟨?_, ?_, G.apart, gs', setGen_self (gs := .running) (setGen_self hgs), fun s'' hs => hk s'' hs⟩ ⟨h₁, tk₁, _, rfl, hk₁, fun h => bare_set (s := { s.setGen g .running with heap := h₁, toks := tk₁ }) (bare_set h rfl) hba⟩
    · obtain ⟨o, nm, qn, ho, r⟩ := G.gen
      exact ⟨o, nm, qn, hk₁ _ _ G.apart.2.1 G.apart.2.2.1 ho, r⟩
    · obtain ⟨mc, hns, hnn⟩ := G.lim
      exact ⟨mc, hns.at' fun o e => hk₁ _ o G.apart.2.2.2.2.1 G.apart.2.2.2.2.2 e, hnn⟩
  · obtain ⟨h₁, tk₁, rfl, hk₁⟩ := hd
    exact hD _ hn ⟨h', tk₁, _, rfl, fun b o n1 n2 e => hk b o (hk₁ b o n1 n2 e), fun h => bare_set (s := { s.setGen g .running with heap := h₁, toks := tk₁ }) (x := .finished) (bare_set h rfl) rfl⟩
end
end Mine
end
section
open PySem PySem.W PySem.Calls PyProof.Rows
set_option Elab.async false
set_option maxRecDepth 100000
namespace Mine
section
variable {prog : Program} {w : World} {A A' : Around} {E : Value → Shared → Prop} {s : Shared}
/-- a built-in type is called, in the clean logic -/
theorem J_callType_codes {T newId initId : String} {Bi : Builtin} {args : List Value} {Q Q₁ : Value → Shared → Prop} (ft : TypeCalled T newId initId) (hcl : badIds.contains initId = false)
    (hct : checkTypeCall T ⟨args, []⟩ = pure ()) (entryI : entryFor table initId = some Bi)
    (hnew : codeJ (model prog w) A.in1 (.call (.builtin newId) ⟨.type T :: args, []⟩) (wants Q₁ E) s)
    (hnext : ∀ obj s₁, Q₁ obj s₁ → s₁.TypeIs obj T ∧ argsOk initId ⟨obj :: args, []⟩ ∧
      (wpJ (model prog w) A.in1.in1 (Bi ⟨obj :: args, []⟩) (finPost prog w A.in1 (wants (fun r s₂ => r = .none ∧ Q obj s₂) E)) (fun e s' => wants (fun r s₂ => r = .none ∧ Q obj s₂) E (.error e) s') s₁ ∨
       wpAny (model prog w) A.in1.in1 (Bi ⟨obj :: args, []⟩) (fun fin s' => match fin with | .done f => wants (fun r s₂ => r = .none ∧ Q obj s₂) E (.ok f) s' | .again c' => c'.quiet = true ∧ codeAny (model prog w) A.in1 c' (wants (fun r s₂ => r = .none ∧ Q obj s₂) E) s')
        (fun e s' => wants (fun r s₂ => r = .none ∧ Q obj s₂) E (.error e) s') s₁)) :
    wpJ (model prog w) A (call (.type T) args) Q E s := by
  refine wpJ_call (codeJ_of_tree ?_)
  show wpJ _ _ (callAny (.type T) _) _ _ _
  refine wpJ_pure ⟨Code.quiet_builtin _ (by decide +kernel), clean_of (by decide +kernel), codeJ_builtin F.entry_type_call ?_⟩
  rw [Around.under_plain (weight_type_call_type T args []) rfl]
  have h1 := ft.notType
  have h2 := ft.canCreate
  have h3 := ft.made
  have h4 := ft.sub
  obtain ⟨c, tl, hmro⟩ := ft.mro
  unfold Builtin.«type.__call__»
  dsimp -zeta only
  (with_reducible refine wpJ_if_false ?hc ?_)
  case hc => exact h1
  (with_reducible refine wpJ_if_false ?hc ?_)
  case hc => exact h2
  (with_reducible refine wpJ_bind ?_)
  rw [hct]
  (with_reducible refine wpJ_pure ?_)
  (with_reducible refine wpJ_bind ?_)
  rw [hmro]
  (with_reducible refine wpJ_pure ?_)
  (with_reducible refine wpJ_if_false ?hc ?_)
  case hc => rfl
  (with_reducible refine wpJ_bind ?_)
  rw [h3]
  (with_reducible refine wpJ_pure ?_)
  dsimp -zeta only
  (with_reducible refine wpJ_bind ?_)
  (with_reducible refine wpJ_pure ?_)
  (with_reducible refine wpJ_bind (wpJ_holding (wpJ_call ?_)))
  refine codeJ_mono hnew fun r s' hr => ?_
  match r, hr with
  | .ok (.ret obj), hr =>
    obtain ⟨hT, hok, hsi⟩ := hnext _ _ hr
    (with_reducible refine wpJ_then (wpAny_isInstance hT h4 ?_))
    (with_reducible refine wpJ_if_false ?hc ?_)
    case hc => rfl
    (with_reducible refine wpJ_bind (wpJ_holding ?_))
    unfold callSpecial?
    (with_reducible refine wpJ_then (wpAny_specialOf hT ft.init.lookup ?_))
    dsimp -zeta only
    (with_reducible refine wpJ_holding (wpJ_bind ?_))
    rw [ft.init.bind]
    (with_reducible refine wpJ_pure ?_)
    dsimp -zeta only
    (with_reducible refine wpJ_bind (wpJ_call ?_))
    refine codeJ_mono (R := wants (fun r s₂ => r = .none ∧ Q obj s₂) E) (hsi.elim (fun hsi => codeJ_call_builtin ft.init.plain hcl entryI (ft.init.check _ _ _ _ _ _ _ _ hT hok hsi)) fun hsi => codeJ_of (codeAny_call_builtin ft.init.plain entryI (ft.init.check _ _ _ _ _ _ _ _ hT hok hsi))) fun r s' hr => ?_
    match r, hr with
    | .ok (.ret v), hr =>
      obtain ⟨rfl, hq⟩ := hr
      refine wpJ_pure ?_
      refine wpJ_if_false rfl ?_
      exact wpJ_pure hq
    | .error e, hr => exact hr
  | .error e, hr => exact hr
end
end Mine
end
section
open PySem PySem.W PySem.Calls PyProof.Rows
set_option Elab.async false
set_option maxRecDepth 100000
namespace Mine
def SinceL (C I S : Addr) (s s' : Shared) : Prop := ∃ h' tk gs', s' = { s with heap := h', toks := tk, gens := gs' } ∧ (∀ b o, b ≠ C → b ≠ I → b ≠ S → s.heap.get? b = some o → h'.get? b = some o) ∧ (AllBare s.gens → AllBare gs')
theorem SinceL.trans {C I S : Addr} {s s' s'' : Shared} (x : SinceL C I S s s') (y : SinceL C I S s' s'') : SinceL C I S s s'' := by
  obtain ⟨h1, t1, g1, rfl, k1, b1⟩ := x
  obtain ⟨h2, t2, g2, rfl, k2, b2⟩ := y
  exact ⟨h2, t2, g2, rfl, fun b o n1 n2 n3 e => k2 b o n1 n2 n3 (k1 b o n1 n2 n3 e), fun h => b2 (b1 h)⟩
theorem SinceG.toL {C I S : Addr} {s s' : Shared} (x : SinceG C I s s') : SinceL C I S s s' := by
  obtain ⟨h1, t1, g1, rfl, k1, b1⟩ := x
  exact ⟨h1, t1, g1, rfl, fun b o n1 n2 _ e => k1 b o n1 n2 e, b1⟩
theorem SinceL.of_keep {C I S : Addr} {s : Shared} {h' : Heap} (k : ∀ b o, b ≠ S → s.heap.get? b = some o → h'.get? b = some o) : SinceL C I S s { s with heap := h' } := ⟨h', s.toks, s.gens, rfl, fun b o _ _ n e => k b o n e, fun h => h⟩
abbrev lstObj (acc : Array Value) (c : Nat) : Obj := { cls := .type "list", dict := none, data := .seq acc c, slots := #[] }
def AccOk (F : Nat → Value → Prop) (acc : Array Value) : Prop := ∀ (j : Nat) (v : Value), acc[j]? = some v → F j v
theorem AccOk.push {F : Nat → Value → Prop} {acc : Array Value} {v : Value} (h : AccOk F acc) (hv : F acc.size v) : AccOk F (acc.push v) := fun j x hx => by
  rw [Array.getElem?_push] at hx
  split at hx
  · rename_i e
    cases hx
    exact e ▸ hv
  · exact h j x hx
section
variable {prog : Program} {w : World} {A : Around} {E : Value → Shared → Prop} {s : Shared} {R : Result → Shared → Prop} {n : Nat} {Fv : Nat → Value → Prop} {bd C I a S : Addr} {g : Nat} {res : Value}
theorem extendLoopJ (hh : A.handled = none) (hroom : A.depth < recursionLimit) (hn : n ≤ sizeLine) (hSb : bd ≤ S) (hSC : S ≠ C) (hSI : S ≠ I) :
    ∀ (k : Nat) (s : Shared) (acc : Array Value) (c : Nat), GenOn (model prog w) A.in1 n Fv bd C I a g k s → s.heap.get? S = some (lstObj acc c) → acc.size + k = n → AccOk Fv acc →
      (∀ s' acc' c', SinceL C I S s s' → s'.heap.get? S = some (lstObj acc' c') → acc'.size = n → AccOk Fv acc' → R (.ok (.ret res)) s') →
      codeJ (model prog w) A (.builtin "list.extend.loop" ⟨[.ref S, .ref a, res], []⟩) R s := by
  intro k
  induction k with
  | zero =>
    intro s acc c G hS hacc ok hR
    refine codeJ_builtin F.entry_extend_loop ?_
    rw [Around.under_plainId F.plain_extend_loop _]
    show wpJ _ A.in1 (pyNext (.ref a) >>= _) _ _ s
    refine wpJ_bind (genOn_next G hh hroom (fun k' i v s' hk _ _ _ _ => absurd hk (Nat.succ_ne_zero _).symm) (fun s' _ sg => ?_))
    obtain ⟨h', tk, gs', rfl, k', -⟩ := id sg
    exact wpJ_pure (hR _ acc c sg.toL (k' _ _ hSC hSI hS) (by omega) ok)
  | succ k ih =>
    intro s acc c G hS hacc ok hR
    refine codeJ_builtin F.entry_extend_loop ?_
    rw [Around.under_plainId F.plain_extend_loop _]
    show wpJ _ A.in1 (pyNext (.ref a) >>= _) _ _ s
    refine wpJ_bind (genOn_next G hh hroom (fun k' i v s' hk hi hF G' sg => ?_) (fun s' hk _ => absurd hk (Nat.succ_ne_zero _)))
    have hk' : k' = k := by omega
    subst hk'
    have hi' : i = acc.size := by omega
    subst hi'
    have hS' : s'.heap.get? S = some (lstObj acc c) := by
      obtain ⟨h', tk, gs', rfl, k', -⟩ := sg
      exact k' _ _ hSC hSI hS
    show wpJ _ A.in1 (updateSeq S (·.push v) >>= _) _ _ _
    refine wpJ_then ?_
    refine wpAny_updateSeq hS' rfl (wpJ_pure ⟨plainId_quiet F.plain_extend_loop _, clean_of (by decide +kernel), ih _ (acc.push v) _ (G'.frame (fun b o hb e => ?_) rfl) (Heap.get?_update_self _ hS' rfl) (by rw [Array.size_push]; omega) (ok.push hF) fun s'' acc' c' sl hS'' hacc' ok' => ?_⟩)
      (by omega) (by show (acc.push v).size ≤ sizeLine + 1; rw [Array.size_push]; omega)
    · exact (Heap.get?_update_other _ _ (fun h : S = b => absurd hb (h ▸ Nat.not_lt.mpr hSb))).trans e
    · refine hR s'' acc' c' (sg.toL.trans (SinceL.trans (SinceL.of_keep fun b o hb e => ?_) sl)) hS'' hacc' ok'
      exact (Heap.get?_update_other _ _ (fun h : S = b => hb h.symm)).trans e
theorem extendGenJ (hh : A.handled = none) (hroom : A.depth < recursionLimit) (hn : n ≤ sizeLine) (hSb : bd ≤ S) (hSC : S ≠ C) (hSI : S ≠ I) (G : GenOn (model prog w) A.in1 n Fv bd C I a g n s) (hS : s.heap.get? S = some (lstObj #[] c₀))
    (hR : ∀ s' acc' c', SinceL C I S s s' → s'.heap.get? S = some (lstObj acc' c') → acc'.size = n → AccOk Fv acc' → R (.ok (.ret res)) s') :
    wpJ (model prog w) A.in1 (Builtin.List.listExtendWith (.ref S) (.ref a) res) (finPost prog w A R) (fun e s' => R (.error e) s') s := by
  have hSa : S ≠ a := fun e => absurd G.apart.1 (e ▸ Nat.not_lt.mpr hSb)
  have hT := G.gen.typeIs
  unfold Builtin.List.listExtendWith
  refine wpJ_then (wpAny_typeOf hT ?_)
  have h1 : Builtin.List.listSameRef (.ref S) (.ref a) = false := by simp [Builtin.List.listSameRef, hSa]
  have h2 : (Value.type "generator" == Value.type "list") = false := by decide
  have h3 : (Value.type "generator" == Value.type "tuple") = false := by decide
  simp only [h1, h2, h3, Bool.or_false, Bool.false_eq_true, if_false]
  refine wpJ_then (wpAny_pyIter_gen G.gen ?_)
  refine wpJ_then (wpAny_holding ?_)
  unfold Builtin.List.listLengthHint
  refine wpAny_bind (wpAny_specialOf hT F.gen_no_len ?_)
  show wpAny _ A.in1 (specialOf (Value.ref a) (Str.ofString "__length_hint__") >>= _) _ _ _
  refine wpAny_bind (wpAny_specialOf hT F.gen_no_hint ?_)
  refine wpAny_pure ?_
  show wpJ _ A.in1 (rule "list.extend.makes-room" >>= fun _ => Builtin.List.listTouch (.ref S) >>= fun _ => again (.builtin "list.extend.loop" ⟨[.ref S, .ref a, res], []⟩)) _ _ _
  refine wpJ_bind (wpJ_rule ?_)
  refine wpJ_then ?_
  show wpAny _ A.in1 (updateSeq S (·.push .none) >>= fun _ => updateSeq S (·.pop)) _ _ _
  refine wpAny_bind (wpAny_updateSeq hS rfl ?_)
  have hS₂ := Heap.get?_update_self (Obj.mapSeq (·.push Value.none)) hS rfl
  refine wpAny_updateSeq (hz := by seq_fits) hS₂ rfl ?_
  have hS₃ := Heap.get?_update_self (Obj.mapSeq (·.pop)) hS₂ rfl
  have oth : ∀ b o, b ≠ S → s.heap.get? b = some o → ((s.heap.update S (Obj.mapSeq (·.push Value.none))).update S (Obj.mapSeq (·.pop))).get? b = some o :=
    fun b o hb e => (Heap.get?_update_other _ _ (Ne.symm hb)).trans ((Heap.get?_update_other _ _ (Ne.symm hb)).trans e)
  refine wpJ_pure ⟨plainId_quiet F.plain_extend_loop _, clean_of (by decide +kernel), extendLoopJ hh hroom hn hSb hSC hSI n _ #[] _ (G.frame (fun b o hb e => oth b o (fun h => absurd hb (h ▸ Nat.not_lt.mpr hSb)) e) rfl) hS₃ (by simp) (fun j v hv => by simp at hv) fun s' acc' c' sl hS' hacc ok => ?_⟩
  exact hR s' acc' c' (SinceL.trans (SinceL.of_keep oth) sl) hS' hacc ok
theorem listInitGenJ (hh : A.handled = none) (hroom : A.depth < recursionLimit) (hn : n ≤ sizeLine) (hSb : bd ≤ S) (hSC : S ≠ C) (hSI : S ≠ I) (G : GenOn (model prog w) A.in1 n Fv bd C I a g n s) (hS : s.heap.get? S = some (lstObj #[] 0))
    (hR : ∀ s' acc' c', SinceL C I S s s' → s'.heap.get? S = some (lstObj acc' c') → acc'.size = n → AccOk Fv acc' → R (.ok (.ret .none)) s') :
    wpJ (model prog w) A.in1 (Builtin.«list.__init__» ⟨[.ref S, .ref a], []⟩) (finPost prog w A R) (fun e s' => R (.error e) s') s := by
  show wpJ _ A.in1 (do let old ← Builtin.List.listItems (.ref S); Builtin.List.listUpdate (.ref S) (fun _ => #[]); letGo old.toList.reverse; Builtin.List.listExtendWith (.ref S) (.ref a) .none) _ _ s
  refine wpJ_then ?_
  unfold Builtin.List.listItems
  refine wpAny_bind (wpAny_seqItems hS rfl (wpAny_pure ?_))
  show wpJ _ A.in1 (updateSeq S (fun _ => #[]) >>= fun _ => letGo (#[] : Array Value).toList.reverse >>= fun _ => Builtin.List.listExtendWith (.ref S) (.ref a) .none) _ _ s
  refine wpJ_then (wpAny_updateSeq hS rfl ?_)
  have hS₂ := Heap.get?_update_self (Obj.mapSeq (fun _ => (#[] : Array Value))) hS rfl
  have oth : ∀ b o, b ≠ S → s.heap.get? b = some o → (s.heap.update S (Obj.mapSeq (fun _ => (#[] : Array Value)))).get? b = some o :=
    fun b o hb e => (Heap.get?_update_other _ _ (Ne.symm hb)).trans e
  refine wpJ_then (wpAny_letGo ?_)
  refine extendGenJ hh hroom hn hSb hSC hSI (G.frame (fun b o hb e => oth b o (fun h => absurd hb (h ▸ Nat.not_lt.mpr hSb)) e) rfl) hS₂ fun s' acc' c' sl hS' hacc ok => ?_
  exact hR s' acc' c' (SinceL.trans (SinceL.of_keep oth) sl) hS' hacc ok
/-- list of a generator -/
theorem callListGenJ {Q : Value → Shared → Prop} (hh : A.handled = none) (hroom : A.depth < recursionLimit) (hn : n ≤ sizeLine) (hb : bd ≤ s.heap.objs.size) (hSC : s.heap.objs.size ≠ C) (hSI : s.heap.objs.size ≠ I) (G : GenOn (model prog w) A.in1.in1 n Fv bd C I a g n s)
    (hQ : ∀ s' acc' c', SinceL C I s.heap.objs.size s s' → s'.heap.get? s.heap.objs.size = some (lstObj acc' c') → acc'.size = n → AccOk Fv acc' → Q (.ref s.heap.objs.size) s') :
    wpJ (model prog w) A (call (.type "list") [.ref a]) Q E s := by
  refine J_callType_codes (Q₁ := fun obj s₁ => obj = .ref s.heap.objs.size ∧ s₁ = { s with heap := s.heap.push { cls := .type "list", data := .seq #[] } }) F.called_list (by decide +kernel) (F.typeCall_list_1 _) F.entry_list_init
    (codeJ_of (code_list_new _ ⟨rfl, rfl⟩)) fun obj s₁ h₁ => ?_
  obtain ⟨rfl, rfl⟩ := h₁
  have hS : (s.heap.push { cls := .type "list", data := .seq #[] }).get? s.heap.objs.size = some { cls := .type "list", data := .seq #[] } := Heap.get?_push_size _ rfl
  refine ⟨⟨_, hS, rfl⟩, F.args_list_init_2 _ _, .inl <| listInitGenJ (A := A.in1) hh hroom hn hb hSC hSI (G.frame (fun b o _ e => Heap.get?_push_of_some _ e) rfl) hS fun s' acc' c' sl hS' hacc ok => ?_⟩
  exact ⟨rfl, hQ s' acc' c' (SinceL.trans (SinceL.of_keep fun b o _ e => Heap.get?_push_of_some _ e) sl) hS' hacc ok⟩
end
end Mine
end
section
open PySem PySem.W PySem.Calls PyProof.Rows
set_option Elab.async false
set_option maxRecDepth 100000
namespace Mine
theorem gen_no_bytes : typeLookup (.type "generator") "__bytes__" = pure none := by rw [typeLookup_type, builtinLookup_eq_fast]; kernel_rfl
theorem gen_no_index : typeLookup (.type "generator") "__index__" = pure none := by rw [typeLookup_type, builtinLookup_eq_fast]; kernel_rfl
theorem gen_no_buffer : typeLookup (.type "generator") "__buffer__" = pure none := by rw [typeLookup_type, builtinLookup_eq_fast]; kernel_rfl
abbrev bytObj (b : Array UInt8) : Obj := { cls := .type "bytearray", data := .bytearray b }
section
variable {prog : Program} {w : World} {A : Around} {E : Value → Shared → Prop} {s : Shared} {R : Result → Shared → Prop} {n : Nat} {ns : List Int} {bd C I a S : Addr} {g : Nat}
theorem bytesLoopJ (hh : A.handled = none) (hroom : A.depth < recursionLimit) (hr : ∀ n ∈ ns, 0 ≤ n ∧ n < 256) (hn : ns.length ≤ sizeLine) (hSb : bd ≤ S) (hSC : S ≠ C) (hSI : S ≠ I) :
    ∀ (k i : Nat) (s : Shared), i + k = ns.length → GenOn (model prog w) A.in1 ns.length (fun i v => ∃ t, v = .int (ns.getD i 0) t) bd C I a g k s → s.heap.get? S = some (bytObj (byteArr (ns.take i))) →
      (∀ s' t, SinceL C I S s s' → R (.ok (.ret (.bytes (byteArr ns) t))) s') →
      codeJ (model prog w) A (.builtin "bytes.__new__.loop" ⟨[.type "bytes", .ref a, .ref S], []⟩) R s := by
  intro k
  induction k with
  | zero =>
    intro i s hi G hS hR
    have hin : i = ns.length := by omega
    subst hin
    refine codeJ_builtin F.bm_entry_loop ?_
    rw [Around.under_plainId F.bm_plain_loop _]
    show wpJ _ A.in1 (pyNext (.ref a) >>= _) _ _ s
    refine wpJ_bind (genOn_next G hh hroom (fun k' i v s' hk _ _ _ _ => absurd hk (Nat.succ_ne_zero _).symm) (fun s' _ sg => ?_))
    have sl := sg.toL (S := S)
    have hS' : s'.heap.get? S = some (bytObj (byteArr (ns.take ns.length))) := by
      obtain ⟨h', tk, gs', rfl, k', -⟩ := sg
      exact k' _ _ hSC hSI hS
    refine wpJ_then ?_
    unfold Builtin.Bytes.payload Builtin.Bytes.payload?
    refine wpAny_bind (wpAny_bind (wpAny_load hS' ?_))
    refine wpAny_pure (wpAny_pure ?_)
    rw [List.take_length]
    refine wpJ_then (wpAny_mkBytes ?_ (by rw [byteArr_size]; exact hn))
    show wpJ _ _ (if (Value.type "bytes" == Value.type "bytes") = true then _ else _) _ _ _
    refine wpJ_if_true (by decide) ?_
    have fin : ∀ t k', R (.ok (.ret (.bytes (byteArr ns) t))) { s' with toks := k' } := fun t k' => hR _ t (sl.trans ⟨s'.heap, k', s'.gens, rfl, fun _ _ _ _ _ e => e, fun h => h⟩)
    first
      | exact wpJ_pure (fin _ _)
      | exact wpJ_bind (wpJ_pure (wpJ_pure (fin _ _)))
  | succ k ih =>
    intro i s hi G hS hR
    refine codeJ_builtin F.bm_entry_loop ?_
    rw [Around.under_plainId F.bm_plain_loop _]
    show wpJ _ A.in1 (pyNext (.ref a) >>= _) _ _ s
    refine wpJ_bind (genOn_next G hh hroom (fun k' i' v s' hk hi' hF G' sg => ?_) (fun s' hk _ => absurd hk (Nat.succ_ne_zero _)))
    have hk' : k' = k := by omega
    subst hk'
    have hi2 : i' = i := by omega
    subst hi2
    obtain ⟨t, rfl⟩ := hF
    have hlt : i' < ns.length := by omega
    have hget : ns[i']? = some (ns.getD i' 0) := by rw [List.getD_eq_getElem?_getD, List.getElem?_eq_getElem hlt]; rfl
    obtain ⟨h0, h1⟩ := hr _ (List.mem_of_getElem? hget)
    have hS' : s'.heap.get? S = some (bytObj (byteArr (ns.take i'))) := by
      obtain ⟨h', tk, gs', rfl, k', -⟩ := sg
      exact k' _ _ hSC hSI hS
    refine wpJ_then (wpAny_holding (wpAny_of_eq (rfl : asIndex (.int (ns.getD i' 0) t) = pure (ns.getD i' 0)) ?_))
    refine wpJ_then (wpAny_letGo ?_)
    refine wpJ_if_false (by simp only [Bool.or_eq_false_iff, decide_eq_false_iff_not]; omega) ?_
    refine wpJ_then ?_
    refine ba_write (b := byteArr (ns.take i')) (f := (·.push (ns.getD i' 0).toNat.toUInt8)) hS' (by rw [Array.size_push, byteArr_size, List.length_take]; omega) fun h' k1 k2 k3 k4 => ?_
    have hS₂ : h'.get? S = some (bytObj (byteArr (ns.take (i' + 1)))) := by
      rw [byteArr_take hget]
      exact k4
    refine wpJ_pure ⟨plainId_quiet F.bm_plain_loop _, clean_of (by decide +kernel), ih (i' + 1) { s' with heap := h' } (by omega) (G'.frame (fun b o hb e => k1 b o (fun h => absurd hb (h ▸ Nat.not_lt.mpr hSb)) e) rfl) hS₂ fun s'' t' sl => ?_⟩
    exact hR s'' t' (sg.toL.trans (SinceL.trans (SinceL.of_keep fun b o hb e => k1 b o hb e) sl))
/-- bytes of a generator of whole numbers -/
theorem callBytesGenJ {Q : Value → Shared → Prop} (hh : A.handled = none) (hroom : A.depth < recursionLimit) (hr : ∀ n ∈ ns, 0 ≤ n ∧ n < 256) (hn : ns.length ≤ sizeLine) (hb : bd ≤ s.heap.objs.size) (hSC : s.heap.objs.size ≠ C) (hSI : s.heap.objs.size ≠ I)
    (G : GenOn (model prog w) A.in1.in1 ns.length (fun i v => ∃ t, v = .int (ns.getD i 0) t) bd C I a g ns.length s)
    (hQ : ∀ s' t, SinceL C I s.heap.objs.size s s' → Q (.bytes (byteArr ns) t) s') :
    wpJ (model prog w) A (call (.type "bytes") [.ref a]) Q E s := by
  have hT := G.gen.typeIs
  refine J_callType_codes (Q₁ := fun obj s₁ => s₁.TypeIs obj "bytes" ∧ Q obj s₁) F.bm_called (by decide +kernel) (F.bm_typeCall _) F.entry_object_init ?_ fun obj s₁ h₁ => ?_
  · refine codeJ_of_tree ?_
    show wpJ _ _ (do checkBuiltinCall "bytes.__new__" ⟨[.type "bytes", .ref a], []⟩; again (.builtin "bytes.__new__" ⟨[.type "bytes", .ref a], []⟩)) _ _ s
    refine wpJ_bind (wpJ_of_eq (F.bm_newCall _) (wpJ_pure ⟨plainId_quiet F.bm_plain _, clean_of (by decide +kernel), codeJ_builtin F.bm_entry ?_⟩))
    rw [Around.under_plainId F.bm_plain _]
    unfold Builtin.«bytes.__new__»
    refine wpJ_bind (wpJ_of_eq (a := true) rfl ?_)
    refine wpJ_if_false rfl ?_
    refine wpJ_bind (wpJ_of_eq F.bm_sub ?_)
    refine wpJ_if_false rfl ?_
    refine wpJ_bind (wpJ_of_eq (F.bm_bind _) ?_)
    refine wpJ_bind (wpJ_of_eq (a := ()) rfl ?_)
    refine wpJ_bind (wpJ_of_eq (a := ()) rfl ?_)
    refine wpJ_if_false rfl ?_
    refine wpJ_then (wpAny_specialOf hT gen_no_bytes ?_)
    refine wpJ_then (wpAny_bind ?_)
    obtain ⟨o, nm, qn, ho, hoc, hod, hos⟩ := G.gen
    show wpAny _ _ (load a >>= _) _ _ _
    refine wpAny_bind (wpAny_load ho ?_)
    rw [hod]
    refine wpAny_pure (wpAny_pure ?_)
    refine wpJ_if_false rfl ?_
    refine wpJ_then (wpAny_specialOf hT gen_no_index ?_)
    refine wpJ_if_true rfl ?_
    first
      | show wpJ _ _ (Builtin.Bytes.buffer? "bytes.__new__" (.ref a) true >>= _) _ _ _
      | (refine wpJ_bind ?_; show wpJ _ _ (Builtin.Bytes.buffer? "bytes.__new__" (.ref a) true >>= _) _ _ _)
    refine wpJ_then ?_
    unfold Builtin.Bytes.buffer?
    refine wpAny_bind (wpAny_specialOf hT gen_no_buffer ?_)
    refine wpAny_bind (wpAny_specialOf hT gen_no_buffer ?_)
    refine wpAny_pure ?_
    refine wpJ_then (wpAny_tryCatch (wpAny_pyIter_gen G.gen ?_))
    refine wpJ_then (wpAny_holding ?_)
    unfold Builtin.Bytes.lengthHint
    refine wpAny_bind (wpAny_specialOf hT F.gen_no_len ?_)
    dsimp only
    refine bm_if_false (by decide +kernel) ?_
    refine bm_if_false rfl ?_
    refine wpAny_bind (wpAny_specialOf hT F.gen_no_hint ?_)
    refine wpAny_pure ?_
    refine wpJ_then ?_
    unfold Builtin.Bytes.newBytearray
    refine wpAny_newObj_type ?_ (Nat.zero_le _)
    have main := bytesLoopJ (prog := prog) (w := w) (A := A.in1) (R := wants (fun obj s₁ => s₁.TypeIs obj "bytes" ∧ Q obj s₁) E) (ns := ns) (bd := bd) (C := C) (I := I) (a := a) (S := s.heap.objs.size) (g := g) hh hroom hr hn hb hSC hSI ns.length 0 _ (Nat.zero_add _)
      (G.frame (s' := { s with heap := s.heap.push (bytObj #[]) }) (fun b o _ e => Heap.get?_push_of_some _ e) rfl) (Heap.get?_push_size _ rfl)
      fun s' t sl => ⟨PySem.W.typeIs_bytes _ _ _, hQ s' t (SinceL.trans (SinceL.of_keep fun b o _ e => Heap.get?_push_of_some _ e) sl)⟩
    first
      | exact wpJ_pure ⟨plainId_quiet F.bm_plain_loop _, clean_of (by decide +kernel), main⟩
      | exact wpJ_pure (wpJ_pure ⟨plainId_quiet F.bm_plain_loop _, clean_of (by decide +kernel), main⟩)
  · exact ⟨h₁.1, F.args_object_init_2 obj _, .inr (object_init_meets F.bm_called.init.lookup F.bm_called.made (by decide) prog w A.in1 _ s₁ ⟨h₁.1, rfl, h₁.2⟩)⟩
end
end Mine
end
section
open PySem PySem.W PySem.Calls PyProof.Rows
set_option Elab.async false
set_option maxRecDepth 100000
namespace Mine
theorem slot_join : Slot "bytes" "join" "bytes.join" :=
  .of (owner := "bytes") (n := "join") (by rw [typeLookup_type, builtinLookup_eq_fast]; kernel_rfl) (by decide +kernel) (by decide +kernel) (by decide +kernel)
    (by first | exact .inl (by decide +kernel) | exact .inr (by decide +kernel)) (by rw [isSubtype_type]; kernel_rfl)
theorem entry_join : entryFor table "bytes.join" = some Builtin.«bytes.join» := by first | exact entryFor_of_fast (by kernel_rfl) | exact entryFor_of_tree (by kernel_rfl)
theorem args_join (a b : Value) : argsOk "bytes.join" ⟨[a, b], []⟩ := by unfold argsOk; kernel_rfl
section
variable {b : Array UInt8} {t : Tok}
theorem buffer_eqF {id : String} {full : Bool} : Builtin.Bytes.buffer? id (.bytes b t) full = pure (some b) := by
  unfold Builtin.Bytes.buffer?
  rw [KBy.special_eq KBy.look_buffer, KBy.own_buffer, KBy.own_release]
  kernel_rfl
theorem take_eq {id : String} : Builtin.Bytes.takeBufferQuiet? id (.bytes b t) 0 = pure (some (b, none)) := by
  unfold Builtin.Bytes.takeBufferQuiet? Builtin.Bytes.takeBuffer?
  rw [KBy.special_eq KBy.look_buffer, KBy.own_buffer, buffer_eqF]
  kernel_rfl
end
theorem joined_go : ∀ (l : List (Array UInt8)) (k : Nat) (o : Array UInt8), ((l.zipIdx k).foldl (fun out (x : Array UInt8 × Nat) => (if x.2 > 0 then out ++ (#[] : Array UInt8) else out) ++ x.1) o).toList = o.toList ++ l.flatMap (fun b => b.toList)
  | [], k, o => by simp
  | p :: r, k, o => by
    rw [List.zipIdx_cons, List.foldl_cons, joined_go r (k + 1)]
    simp only [Array.append_empty, ite_self, Array.toList_append, List.flatMap_cons, List.append_assoc]
theorem joined_eq (l : List (Array UInt8)) : Builtin.Bytes.joined #[] l = (l.flatMap (fun b => b.toList)).toArray := by
  apply Array.ext'
  unfold Builtin.Bytes.joined
  exact (joined_go l 0 #[]).trans (by simp)
theorem sizes_go : ∀ (l : List (Array UInt8)) (k : Nat), l.foldl (fun x1 x2 => x1 + x2.size) k = k + (l.flatMap (fun b => b.toList)).length
  | [], k => by simp
  | p :: r, k => by
    rw [List.foldl_cons, sizes_go r]
    simp only [List.flatMap_cons, List.length_append, Array.length_toList, Nat.add_assoc]
theorem joinLetGo_pass {M : Model} {A : Around} {E : Value → Shared → Prop} {keep : List Value} {Q : Unit → Shared → Prop} : ∀ (taken : List (Value × Option Value)) (s : Shared), (∀ y ∈ taken, ∃ b t, y = (Value.bytes b t, none)) → Q () s → wpAny M A (Builtin.Bytes.joinLetGo taken keep) Q E s
  | [], s, _, h => wpAny_pure h
  | y :: r, s, ht, h => by
    obtain ⟨b, t, rfl⟩ := ht _ (.head _)
    unfold Builtin.Bytes.joinLetGo
    refine wpAny_bind (wpAny_letGo ?_)
    exact joinLetGo_pass r s (fun y hy => ht y (.tail _ hy)) h
section
variable {prog : Program} {w : World} {A : Around} {E : Value → Shared → Prop} {s : Shared} {bs : List (Array UInt8)} {bd C I a : Addr} {g : Nat} {t : Tok}
theorem joinGenJ {Q : Value → Shared → Prop} (hh : A.handled = none) (hroom : A.depth < recursionLimit) (hn : bs.length ≤ sizeLine) (hb : bd ≤ s.heap.objs.size) (hSC : s.heap.objs.size ≠ C) (hSI : s.heap.objs.size ≠ I)
    (G : GenOn (model prog w) A.in1.in1.in1 bs.length (fun i v => ∃ t, v = .bytes (bs.getD i #[]) t) bd C I a g bs.length s) (hsz : (bs.flatMap (fun b => b.toList)).length ≤ sizeLine)
    (hQ : ∀ s' t, SinceL C I s.heap.objs.size s s' → Q (.bytes (bs.flatMap (fun b => b.toList)).toArray t) s') :
    wpJ (model prog w) A (call (.builtin "bytes.join") [.bytes #[] t, .ref a]) Q E s := by
  have hT := G.gen.typeIs
  refine J_call_entry slot_join (by decide +kernel) (PySem.W.typeIs_bytes _ _ _) entry_join ?_ (args_join _ _)
  unfold Builtin.«bytes.join» Builtin.Bytes.joinM
  refine wpJ_bind (wpJ_of_eq (a := (.bytes #[] t, .ref a)) rfl ?_)
  refine wpJ_bind ?_
  show wpJ _ _ (Builtin.Bytes.joinItems (.ref a)) _ _ _
  unfold Builtin.Bytes.joinItems
  refine wpJ_then (wpAny_typeOf hT ?_)
  refine wpJ_if_false (by decide) ?_
  refine wpJ_then (wpAny_tryCatch (wpAny_pyIter_gen G.gen ?_))
  refine callListGenJ (A := A.in1) hh hroom hn hb hSC hSI G fun s' acc c' sl hS hacc ok => ?_
  refine wpJ_of ?_
  refine wpAny_bind ?_
  unfold seqItems?
  dsimp only
  refine wpAny_bind (wpAny_load hS ?_)
  refine wpAny_pure ?_
  dsimp only
  refine bm_if_true rfl ?_
  have key : ∀ (j : Nat) (v : Value), acc[j]? = some v → ∃ t, v = Value.bytes (bs.getD j #[]) t := ok
  by_cases h1 : acc.size = 1
  · obtain ⟨x, rfl⟩ : ∃ x, acc = #[x] := by
      obtain ⟨l⟩ := acc
      match l, h1 with
      | [x], _ => exact ⟨x, rfl⟩
    obtain ⟨t', rfl⟩ := key 0 x rfl
    show wpAny _ _ (typeOf (.bytes (bs.getD 0 #[]) t') >>= _) _ _ _
    have hb1 : bs.length = 1 := by rw [← hacc]; rfl
    obtain ⟨b0, rfl⟩ := List.length_eq_one_iff.mp hb1
    refine wpAny_bind (wpAny_of_eq (a := .type "bytes") rfl ?_)
    refine bm_if_true (by decide) ?_
    refine wpAny_bind (wpAny_rule (wpAny_pure ⟨_, rfl, ?_⟩))
    have e : (List.flatMap (fun (b : Array UInt8) => b.toList) [b0]).toArray = b0 := by simp
    have := hQ s' t' sl
    rw [e] at this
    exact this
  · delta PySem.Builtin.Bytes.joinM.match_1
    rw [dif_neg h1]
    refine wpAny_bind ?_
    rw [Std.Legacy.Range.forIn_eq_forIn_range']
    refine wpAny_forIn_list _ (fun rest st s'' => s'' = s' ∧ ∃ i, i + rest.length = bs.length ∧ rest = List.range' i rest.length ∧ st.1.toList = bs.take i ∧ ∀ y ∈ st.2, ∃ b t, y = (Value.bytes b t, none)) _ ?_ ?_ _ _ ?_
    · rintro x rest ⟨parts, taken⟩ s'' ⟨rfl, i, hi, hr, hp, ht⟩
      rw [List.length_cons, List.range'_succ] at hr
      obtain ⟨rfl, hr⟩ := List.cons.inj hr
      rw [List.length_cons] at hi
      have hlt : x < bs.length := by omega
      obtain ⟨t', hx⟩ := key x acc[x] (Array.getElem?_eq_getElem (by omega))
      have hgd : acc.getD x Value.none = .bytes (bs.getD x #[]) t' := by rw [Array.getD_eq_getD_getElem?, Array.getElem?_eq_getElem (by omega), Option.getD_some, hx]
      dsimp only at hp ht ⊢
      refine wpAny_bind (wpAny_bind (wpAny_load hS ?_))
      refine wpAny_pure ?_
      dsimp only
      have hc : (Builtin.Bytes.Kind.bytes == Builtin.Bytes.Kind.bytearray || taken.any fun x => x.fst.onHeap) = false := by
        rw [Bool.or_eq_false_iff]
        refine ⟨rfl, List.any_eq_false.mpr fun y hy => ?_⟩
        obtain ⟨b, t, rfl⟩ := ht y hy
        exact Bool.false_ne_true
      refine bm_if_false hc ?_
      rw [hgd]
      refine wpAny_bind (wpAny_holding (wpAny_of_eq take_eq ?_))
      dsimp only
      refine wpAny_bind (wpAny_bind (wpAny_load hS ?_))
      refine wpAny_pure ?_
      dsimp only
      refine bm_if_false (by simp) ?_
      refine wpAny_pure ⟨rfl, x + 1, by omega, hr, ?_, ?_⟩
      · rw [Array.toList_push, hp, List.take_add_one, List.getElem?_eq_getElem hlt, List.getD_eq_getElem?_getD, List.getElem?_eq_getElem hlt]
        rfl
      · intro y hy
        rcases List.mem_append.mp hy with hy | hy
        · exact ht y hy
        · rw [List.mem_singleton.mp hy]
          exact ⟨_, _, rfl⟩
    · rintro ⟨parts, taken⟩ s'' ⟨rfl, i, hi, hr, hp, ht⟩
      dsimp only at hp ht ⊢
      have hib : i = bs.length := by simpa using hi
      rw [hib, List.take_length] at hp
      refine wpAny_bind (wpAny_of_eq (a := #[]) rfl ?_)
      have hsum : Array.foldl (fun x1 x2 => x1 + x2.size) ((#[] : Array UInt8).size * (parts.size - 1)) parts = (bs.flatMap fun b => b.toList).length := by
        rw [← Array.foldl_toList, hp, sizes_go]
        simp
      refine bm_if_false (by rw [hsum]; unfold Builtin.Bytes.tooLong; simpa using hsz) ?_
      rw [hp, joined_eq]
      refine wpAny_bind ?_
      show wpAny _ _ (mkBytes _) _ _ _
      refine wpAny_mkBytes ?_ (by simpa using hsz)
      refine wpAny_bind (wpAny_holding (wpAny_point ?_))
      refine wpAny_bind (joinLetGo_pass _ _ ht ?_)
      exact wpAny_pure ⟨_, rfl, hQ _ _ (sl.trans ⟨s''.heap, _, s''.gens, rfl, fun _ _ _ _ _ e => e, fun h => h⟩)⟩
    · refine ⟨rfl, 0, ?_, ?_, by simp, by simp⟩
      · simp [Std.Legacy.Range.size, hacc]
      · simp [Std.Legacy.Range.size]
end
end Mine
end
section
open PySem PySem.W PySem.Calls PyProof.Rows
set_option Elab.async false
set_option maxRecDepth 100000
namespace Mine

/-- the frames of a list of environments -/
abbrev frs (l : List Env) : List Addr := l.filterMap (·.frame)

/-- the exception e of class cls flies out of a call that began at heap h -/
def Flies (base h : Heap) (l : List Env) (e : Addr) (cls : Value) (h' : Heap) : Prop :=
  (∃ B a0, base.StaysIn B ∧ (∀ b o, h.get? b = some o → b ∉ frs l → B.get? b = some o) ∧ Heap.FlyingW B l e cls a0 h') ∧ h.UpToSlots h'
/-- what a call leaves behind that caught what flew -/
def Turned (fs : List Addr) (h h' : Heap) : Prop :=
  (∀ b o, h.get? b = some o → b ∉ fs → h'.get? b = some o) ∧ ∀ b o, h.get? b = some o → b ∈ fs → ∃ sl, h'.get? b = some { o with slots := sl }
theorem Turned.of_keeps {fs : List Addr} {h h' : Heap} (k : ∀ b o, h.get? b = some o → h'.get? b = some o) : Turned fs h h' := ⟨fun b o e _ => k b o e, fun b o e _ => ⟨o.slots, k b o e⟩⟩
theorem Turned.of_turn {fs : List Addr} {g g' h' : Heap} (T : KtsTurn fs g g') (k : ∀ b o, g'.get? b = some o → h'.get? b = some o) : Turned fs g h' :=
  ⟨fun b o e m => k _ _ (T.other b o e m), fun b o e m => let ⟨sl, hs⟩ := T.frame b o e m; ⟨sl, k _ _ hs⟩⟩

theorem frs_cons {env : Env} {outer : List Env} {L b : Addr} (hf : env.frame = some L) : b ∈ frs (env :: outer) ↔ b = L ∨ b ∈ frs outer := by
  unfold frs
  rw [List.filterMap_cons, hf]
  exact List.mem_cons

section
variable {M : Model} {A : Around} {E : Value → Shared → Prop} {s' : Shared} {base g h : Heap} {outer : List Env} {L e : Addr} {m : Str → Option Value} {env : Env} {Q : Unit → Shared → Prop}
theorem flies_new {cls : String} (K : Below A base outer g) (hx : Heap.NewExc h s'.heap e cls) (F : Fr g L h m) (hf : env.frame = some L) (hke : env.scope.kind = .function)
    (hQ : ∀ h', Flies base g outer e (.type cls) h' → Q () { s' with heap := h' }) :
    wpAny M (A.deeper env) (leaving env (.ref e)) Q E s' := by
  have K' := pushX K F hf hke
  have hin : ∀ env' ∈ (env :: outer), ∀ b, env'.frame = some b → b ∈ frs (env :: outer) := fun env' he b hb => List.mem_filterMap.mpr ⟨env', he, hb⟩
  have st : base.StaysIn (hideAll h (frs (env :: outer))) := fun b o q => hideAll_get _ (K'.stays b o q) fun hm => by
    rw [(K'.frames.mem hm).1] at q; cases q
  have sg : ∀ b o, g.get? b = some o → b ∉ frs outer → (hideAll h (frs (env :: outer))).get? b = some o := fun b o q nm => hideAll_get _ (F.keep b o q) fun hm => by
    rcases (frs_cons hf).mp hm with z | z
    · rw [z, kts_self F] at q
      cases q
    · exact nm z
  obtain ⟨ob, tp, he, hcls, hd⟩ := hx.there
  have hen : (hideAll h (frs (env :: outer))).get? e = none := by
    cases q : (hideAll h (frs (env :: outer))).get? e with
    | none => rfl
    | some o => have := of_hideAll _ q; rw [hx.new] at this; cases this
  refine wpAny_leaving_firstW (a0 := tp) K'.stack ((funFrames_hide K'.frames hin).of_keeps fun b o hb _ => ⟨o, hx.keeps b o hb, rfl⟩) hf he (fun b o hb => hx.keeps b o (of_hideAll _ hb)) hen hd rfl rfl fun h' hL => ?_
  obtain ⟨k1, ⟨_, _, k2⟩, k3, k4⟩ := hL
  exact hQ h' ⟨⟨_, tp, st, sg, k1, hen, k2, by rw [← hcls]; exact k3⟩, ((Heap.UpToSlots.of_keeps F.keep).trans (Heap.UpToSlots.of_keeps hx.keeps)).trans k4⟩
theorem flies_on {cls : Value} {h₀ hE : Heap} (hA : A.frames = some outer) (X : Flies base hE (env :: outer) e cls s'.heap) (hf : env.frame = some L) (st : h₀.StaysIn hE) (hL : h₀.get? L = none)
    (hQ : ∀ h', Flies base h₀ outer e cls h' → Q () { s' with heap := h' }) :
    wpAny M (A.deeper env) (leaving env (.ref e)) Q E s' := by
  obtain ⟨⟨B, a0, hB, hBG, hfl⟩, hsm⟩ := X
  refine wpAny_leaves_onW (Around.frames_deeper hA) hf hfl fun h' x1 x2 => hQ h' ⟨⟨B, a0, hB, fun b o q nm => hBG b o (st b o q) fun hm => ?_, x1⟩, ((Heap.UpToSlots.of_keeps st).trans hsm).trans x2⟩
  rcases (frs_cons hf).mp hm with z | z
  · rw [z, hL] at q
    cases q
  · exact nm z
end
theorem Flies.sn {base h h' : Heap} {l : List Env} {e : Addr} {cls : Value} (X : Flies base h l e cls h') : RaisedSN base h l e cls [] h' :=
  let ⟨⟨B, a0, hB, hBG, hfl⟩, _⟩ := X
  ⟨B, a0, hB, hBG, fun _ hq => (List.not_mem_nil hq).elim, hfl⟩

/-! ## grounds, and what calls leave of them -/
/-- a caller's frame and ledger after a call that caught what flew -/
theorem Turned.ground {A₀ : Around} {base g h h' : Heap} {outer : List Env} {L : Addr} {m : Str → Option Value} {env : Env} {news : List (Addr × Obj)} (T : Turned (frs (env :: outer)) h h') (B : Below A₀ base outer g) (F : Fr g L h m) (N : News g L h news) (hf : env.frame = some L)
    (D : KtsDicts (frs outer) g) : ∃ g', KtsTurn (frs outer) g g' ∧ Fr g' L h' m ∧ News g' L h' news ∧ Below A₀ base outer g' ∧ KtsDicts (frs outer) g' := by
  have nL : g.get? L = none := kts_self F
  obtain ⟨T₁, S₁⟩ := kts_turn_at (h := h') (fs := frs outer) (g := g)
    (fun b hb => by
      obtain ⟨_, o, ho, _⟩ := B.frames.mem hb
      exact ⟨o, ho⟩)
    (fun b o e nm => T.1 b o (F.keep b o e) (fun q => by
      rcases (frs_cons hf).mp q with z | z
      · rw [z, nL] at e
        cases e
      · exact nm z))
    (fun b o e hm => T.2 b o (F.keep b o e) ((frs_cons hf).mpr (.inr hm)))
  obtain ⟨oL, es, ep, hL, hLd, hLk, hLf⟩ := F.ns
  obtain ⟨sl, hs⟩ := T.2 L oL hL ((frs_cons hf).mpr (.inl rfl))
  refine ⟨_, T₁, ⟨⟨_, es, ep, hs, hLd, hLk, hLf⟩, S₁, by rw [T₁.size]; exact F.above⟩, fun p hp => ⟨T.1 _ _ (N p hp).1 fun q => ?_, (N p hp).2.1, T₁.none_ _ (N p hp).2.2⟩,
    ⟨B.stack, fun b o e => T₁.other b o (B.stays b o e) (fun hm => by
      rw [(B.frames.mem hm).1] at e
      cases e), B.frames.of_keeps fun b o e _ => by
      obtain ⟨sl', hs'⟩ := T₁.up e
      exact ⟨_, hs', rfl⟩⟩, D.turn T₁⟩
  rcases (frs_cons hf).mp q with z | z
  · exact (N p hp).2.1 z
  · obtain ⟨_, o, ho, _⟩ := B.frames.mem z
    rw [(N p hp).2.2] at ho
    cases ho
theorem dicts_push {g h : Heap} {L : Addr} {m : Str → Option Value} {env : Env} {outer : List Env} (D : KtsDicts (frs outer) g) (F : Fr g L h m) (hf : env.frame = some L) : KtsDicts (frs (env :: outer)) h := fun b hb => by
  rcases (frs_cons hf).mp hb with z | z
  · obtain ⟨oL, es, ep, hL, hLd, _⟩ := F.ns
    exact ⟨oL, es, ep, z ▸ hL, hLd⟩
  · obtain ⟨o, es, n, ho, hd⟩ := D b z
    exact ⟨o, es, n, F.keep b o ho, hd⟩
end Mine
end
section
open PySem PySem.W PySem.Calls PyProof.Rows
set_option Elab.async false
set_option maxRecDepth 100000
namespace Mine

/-- what a ledger says of a heap that a call begins with -/
def Held (base h : Heap) (fs : List Addr) (news : List (Addr × Obj)) : Prop := ∀ q ∈ news, h.get? q.1 = some q.2 ∧ base.get? q.1 = none ∧ q.1 ∉ fs
theorem Held.nil {base h : Heap} {fs : List Addr} : Held base h fs [] := fun _ hq => nomatch hq
/-- a heap but for a ledger -/
abbrev less (h : Heap) (news : List (Addr × Obj)) : Heap := hideAll h (news.map (·.1))
theorem less_of {h : Heap} {news : List (Addr × Obj)} {b : Addr} {o : Obj} (e : (less h news).get? b = some o) : h.get? b = some o := of_hideAll _ e
theorem less_or {base h : Heap} {fs : List Addr} {news : List (Addr × Obj)} (H : Held base h fs news) {b : Addr} {o : Obj} (e : h.get? b = some o) : (less h news).get? b = some o ∨ (b, o) ∈ news := by
  by_cases hm : b ∈ news.map (·.1)
  · obtain ⟨q, hq, rfl⟩ := List.mem_map.mp hm
    have := (H q hq).1
    rw [e] at this
    cases this
    exact .inr hq
  · exact .inl (hideAll_get _ e hm)
theorem less_stays {base h : Heap} {fs : List Addr} {news : List (Addr × Obj)} (H : Held base h fs news) (k : base.StaysIn h) : base.StaysIn (less h news) := fun b o e => hideAll_get _ (k b o e) fun hm => by
  obtain ⟨q, hq, rfl⟩ := List.mem_map.mp hm
  rw [(H q hq).2.1] at e
  cases e
theorem less_below {A : Around} {base h : Heap} {outer : List Env} {news : List (Addr × Obj)} (H : Held base h (frs outer) news) (B : Below A base outer h) : Below A base outer (less h news) :=
  ⟨B.stack, less_stays H B.stays, funFrames_hideAll B.frames fun env he a ha hf => by
    obtain ⟨q, hq, rfl⟩ := List.mem_map.mp ha
    exact (H q hq).2.2 (List.mem_filterMap.mpr ⟨env, he, hf⟩)⟩
theorem less_dicts {base h : Heap} {fs : List Addr} {news : List (Addr × Obj)} (H : Held base h fs news) (D : KtsDicts fs h) : KtsDicts fs (less h news) := fun b hb => by
  obtain ⟨o, es, n, ho, hd⟩ := D b hb
  refine ⟨o, es, n, hideAll_get _ ho fun hm => ?_, hd⟩
  obtain ⟨q, hq, rfl⟩ := List.mem_map.mp hm
  exact (H q hq).2.2 hb
theorem less_fr {h h₁ : Heap} {news : List (Addr × Obj)} {L : Addr} {m : Str → Option Value} (hL : L = h.objs.size) (hn : h₁.Ns L m) (k : ∀ b o, h.get? b = some o → h₁.get? b = some o) : Fr (less h news) L h₁ m :=
  ⟨hn, fun b o e => k b o (less_of e), by rw [hL]; exact Nat.le_of_eq (hideAll_size _ _)⟩
theorem less_news {base h h₁ : Heap} {fs : List Addr} {news : List (Addr × Obj)} {L : Addr} (H : Held base h fs news) (hL : L = h.objs.size) (k : ∀ b o, h.get? b = some o → h₁.get? b = some o) : News (less h news) L h₁ news :=
  fun p hp => ⟨k _ _ (H p hp).1, hL ▸ Nat.ne_of_lt (Heap.lt_size (H p hp).1), hideAll_none _ (List.mem_map_of_mem hp)⟩
/-- a call that ended: what it left of the heap that it began with -/
theorem turned_of {base h g' h' : Heap} {fs : List Addr} {news : List (Addr × Obj)} {L : Addr} {m' : Str → Option Value} (H : Held base h fs news) (T : KtsTurn fs (less h news) g') (F' : Fr g' L h' m') (N' : ∀ p ∈ news, h'.get? p.1 = some p.2) : Turned fs h h' := by
  refine ⟨fun b o e nm => ?_, fun b o e hm => ?_⟩
  · rcases less_or H e with z | z
    · exact F'.keep _ _ (T.other _ _ z nm)
    · exact N' _ z
  · rcases less_or H e with z | z
    · obtain ⟨sl, hs⟩ := T.frame _ _ z hm
      exact ⟨sl, F'.keep _ _ hs⟩
    · exact ⟨o.slots, N' _ z⟩
/-- a ledger of a caller's is one that a callee may hold -/
theorem Held.of_news {A : Around} {base g h : Heap} {outer : List Env} {env : Env} {L : Addr} {news : List (Addr × Obj)} (B : Below A base outer g) (N : News g L h news) (hf : env.frame = some L) : Held base h (frs (env :: outer)) news := fun q hq => by
  refine ⟨(N q hq).1, fresh_of_stays B.stays (N q hq).2.2, fun hm => ?_⟩
  rcases (frs_cons hf).mp hm with z | z
  · exact (N q hq).2.1 z
  · obtain ⟨_, o, ho, _⟩ := B.frames.mem z
    rw [(N q hq).2.2] at ho
    cases ho
section
variable {prog : Program} {w : World} {A : Around} {s : Shared} {R : Result → Shared → Prop} {K : Frag} {base : Heap} {outer : List Env} {news : List (Addr × Obj)}
  {name qual : Str} {params : Arguments} {body : List Stmt} {scope : Scope} {dV kV doc pm cdv ct oc : Value} {an od : Option Addr} {osl : Array (Option Value)} {f : Addr} {args : Args} {binds : List (Str × Value)}
/-- a def of the text's without cells is entered, with a ledger held apart -/
theorem enterN (B : Below A base outer s.heap) (D : KtsDicts (frs outer) s.heap) (XB : K.In base) (hlim : base.NoLimit) (H : Held base s.heap (frs outer) news)
    (ho : K.lookup f = some ⟨oc, od, .func (fnOf name qual params body scope dV kV doc pm an cdv ct), osl⟩) (hcd : codeIn K cdv qual = true)
    (hroom : A.depth < recursionLimit) (hbind : BindsTo s (fnOf name qual params body scope dV kV doc pm an cdv ct) args binds) (hloc : ∀ y ∈ binds, scope.names.lookup y.1 = some .local)
    (hcell : ∀ x ∈ scope.names, x.2 ≠ .cell)
    (h : ∀ L h₁, L = s.heap.objs.size → Fr (less s.heap news) L h₁ (fun y => binds.reverse.lookup y) → News (less s.heap news) L h₁ news → Below A base outer (less s.heap news) → KtsDicts (frs outer) (less s.heap news) →
      wpAny (model prog w) (A.deeper (envOf qual scope L f cdv)) (execs body (envOf qual scope L f cdv)) (fun fl s' => R (.ok (.ret (match fl with | .ret v => v | _ => .none))) s')
        (fun e s' => wpAny (model prog w) (A.deeper (envOf qual scope L f cdv)) (leaving (envOf qual scope L f cdv) e) (fun _ s'' => R (.error e) s'') (fun e' s'' => R (.error e') s'') s')
        { s with heap := h₁, toks := s.toks + binds.length })
    (hco : scope.isCoroutine = false) (hgen : scope.isGenerator = false) (hk : scope.kind = .function) : codeAny (model prog w) A (.call (.ref f) args) R s :=
  have X := XB.keeps B.stays
  codeAny_call_def (fd := fnOf name qual params body scope dV kV doc pm an cdv ct) (body := body) (binds := binds) hroom (X _ _ ho) rfl (hlim.keeps B.stays) (codeRec_of X hcd) rfl hbind hcell hloc
    (fun h₁ hns hk₁ => h _ h₁ rfl (less_fr rfl hns hk₁) (less_news H rfl hk₁) (less_below H B) (less_dicts H D)) hco hgen hk
/-- the same in the clean logic -/
theorem enterNJ (B : Below A base outer s.heap) (D : KtsDicts (frs outer) s.heap) (XB : K.In base) (hlim : base.NoLimit) (H : Held base s.heap (frs outer) news)
    (ho : K.lookup f = some ⟨oc, od, .func (fnOf name qual params body scope dV kV doc pm an cdv ct), osl⟩) (hcd : codeIn K cdv qual = true)
    (hroom : A.depth < recursionLimit) (hbind : BindsTo s (fnOf name qual params body scope dV kV doc pm an cdv ct) args binds) (hloc : ∀ y ∈ binds, scope.names.lookup y.1 = some .local)
    (hcell : ∀ x ∈ scope.names, x.2 ≠ .cell)
    (h : ∀ L h₁, L = s.heap.objs.size → Fr (less s.heap news) L h₁ (fun y => binds.reverse.lookup y) → News (less s.heap news) L h₁ news → Below A base outer (less s.heap news) → KtsDicts (frs outer) (less s.heap news) →
      wpJ (model prog w) (A.deeper (envOf qual scope L f cdv)) (execs body (envOf qual scope L f cdv)) (fun fl s' => R (.ok (.ret (match fl with | .ret v => v | _ => .none))) s')
        (fun e s' => wpJ (model prog w) (A.deeper (envOf qual scope L f cdv)) (leaving (envOf qual scope L f cdv) e) (fun _ s'' => R (.error e) s'') (fun e' s'' => R (.error e') s'') s')
        { s with heap := h₁, toks := s.toks + binds.length })
    (hco : scope.isCoroutine = false) (hgen : scope.isGenerator = false) (hk : scope.kind = .function) : codeJ (model prog w) A (.call (.ref f) args) R s := by
  have X := XB.keeps B.stays
  refine J_call_function (fd := fnOf name qual params body scope dV kV doc pm an cdv ct) (body := body) hroom (X _ _ ho) rfl hco hgen rfl (codeRec_of X hcd) (hbind _ _ _ _ ?_)
  refine wpAny_newFunctionEnv hcell hloc (fun h₁ hns hsb => ⟨(hlim.keeps B.stays).fresh _ hsb, J_func ?_⟩) hk
  have hk₁ : ∀ b o, s.heap.get? b = some o → h₁.get? b = some o := fun b o e => hsb.extBut b o (Nat.ne_of_lt (Heap.lt_size e)) (Heap.get?_push_of_some _ e)
  exact h _ h₁ rfl (less_fr rfl hns hk₁) (less_news H rfl hk₁) (less_below H B) (less_dicts H D)
/-- a def of the text's with cells is entered, with a ledger held apart -/
theorem enterCJ (B : Below A base outer s.heap) (D : KtsDicts (frs outer) s.heap) (XB : K.In base) (hlim : base.NoLimit) (H : Held base s.heap (frs outer) news)
    (ho : K.lookup f = some ⟨oc, od, .func (fnOf name qual params body scope dV kV doc pm an cdv ct), osl⟩) (hcd : codeIn K cdv qual = true)
    (hroom : A.depth < recursionLimit) (hbind : BindsTo s (fnOf name qual params body scope dV kV doc pm an cdv ct) args binds)
    (hkind : ∀ n, ∀ x ∈ binds, scope.names.lookup x.1 = some .local ∨ (scope.names.lookup x.1 = some .cell ∧ ((cellsFrom n scope.names []).lookup x.1).isSome = true))
    (hnd : ((cellsFrom 0 scope.names []).map (·.1)).Nodup)
    (h : ∀ L h₁ tk cells, L = s.heap.objs.size → Fr (less s.heap news) L h₁ (bindL (envOfC qual scope L f cdv).kindOf binds fun _ => none) → News (less s.heap news) L h₁ (cells ++ news) →
      CellsAre (bindC (envOfC qual scope L f cdv).kindOf binds fun _ => none) (cellsFrom (L + 1) scope.names []) cells → Below A base outer (less s.heap news) → KtsDicts (frs outer) (less s.heap news) →
      wpJ (model prog w) (A.deeper (envOfC qual scope L f cdv)) (execs body (envOfC qual scope L f cdv)) (fun fl s' => R (.ok (.ret (match fl with | .ret v => v | _ => .none))) s')
        (fun e s' => wpJ (model prog w) (A.deeper (envOfC qual scope L f cdv)) (leaving (envOfC qual scope L f cdv) e) (fun _ s'' => R (.error e) s'') (fun e' s'' => R (.error e') s'') s')
        { s with heap := h₁, toks := tk })
    (hco : scope.isCoroutine = false) (hgen : scope.isGenerator = false) (hk : scope.kind = .function) : codeJ (model prog w) A (.call (.ref f) args) R s := by
  have X := XB.keeps B.stays
  refine J_call_function (fd := fnOf name qual params body scope dV kV doc pm an cdv ct) (body := body) hroom (X _ _ ho) rfl hco hgen rfl (codeRec_of X hcd) (hbind _ _ _ _ ?_)
  refine wpAny_newFunctionEnv_cells hk (hkind _) fun env' he s' x => ?_
  subst he
  refine ⟨(hlim.keeps B.stays).keeps x.toInCall.keep, J_func ?_⟩
  obtain ⟨h₁, tk, rfl, _⟩ := x.done
  have hk₁ := x.toInCall.keep
  obtain ⟨cells, NC, Y⟩ := Cl.news (h₀ := s.heap) (Nat.le_refl _) fun n c hm => ⟨x.cell n c (lookup_of_mem_nodup (cellsFrom_names scope.names 0 (s.heap.objs.size + 1) [] [] rfl ▸ hnd) hm), x.above n c hm⟩
  refine h _ h₁ tk cells rfl (less_fr rfl x.toInCall.ns hk₁) (fun p hp => ?_) Y (less_below H B) (less_dicts H D)
  rcases List.mem_append.mp hp with hp | hp
  · refine ⟨(NC p hp).1, (NC p hp).2.1, ?_⟩
    cases q : (less s.heap news).get? p.1 with
    | none => rfl
    | some o => have := less_of q; rw [(NC p hp).2.2] at this; cases this
  · exact less_news H rfl hk₁ p hp
/-- the same in the library's logic -/
theorem enterC (B : Below A base outer s.heap) (D : KtsDicts (frs outer) s.heap) (XB : K.In base) (hlim : base.NoLimit) (H : Held base s.heap (frs outer) news)
    (ho : K.lookup f = some ⟨oc, od, .func (fnOf name qual params body scope dV kV doc pm an cdv ct), osl⟩) (hcd : codeIn K cdv qual = true)
    (hroom : A.depth < recursionLimit) (hbind : BindsTo s (fnOf name qual params body scope dV kV doc pm an cdv ct) args binds)
    (hkind : ∀ n, ∀ x ∈ binds, scope.names.lookup x.1 = some .local ∨ (scope.names.lookup x.1 = some .cell ∧ ((cellsFrom n scope.names []).lookup x.1).isSome = true))
    (hnd : ((cellsFrom 0 scope.names []).map (·.1)).Nodup)
    (h : ∀ L h₁ tk cells, L = s.heap.objs.size → Fr (less s.heap news) L h₁ (bindL (envOfC qual scope L f cdv).kindOf binds fun _ => none) → News (less s.heap news) L h₁ (cells ++ news) →
      CellsAre (bindC (envOfC qual scope L f cdv).kindOf binds fun _ => none) (cellsFrom (L + 1) scope.names []) cells → Below A base outer (less s.heap news) → KtsDicts (frs outer) (less s.heap news) →
      wpAny (model prog w) (A.deeper (envOfC qual scope L f cdv)) (execs body (envOfC qual scope L f cdv)) (fun fl s' => R (.ok (.ret (match fl with | .ret v => v | _ => .none))) s')
        (fun e s' => wpAny (model prog w) (A.deeper (envOfC qual scope L f cdv)) (leaving (envOfC qual scope L f cdv) e) (fun _ s'' => R (.error e) s'') (fun e' s'' => R (.error e') s'') s')
        { s with heap := h₁, toks := tk })
    (hco : scope.isCoroutine = false) (hgen : scope.isGenerator = false) (hk : scope.kind = .function) : codeAny (model prog w) A (.call (.ref f) args) R s := by
  have X := XB.keeps B.stays
  refine codeAny_call_function (fd := fnOf name qual params body scope dV kV doc pm an cdv ct) (body := body) hroom (X _ _ ho) rfl hco hgen rfl (codeRec_of X hcd) (hbind _ _ _ _ ?_)
  refine wpAny_newFunctionEnv_cells hk (hkind _) fun env' he s' x => ?_
  subst he
  refine ⟨(hlim.keeps B.stays).keeps x.toInCall.keep, codeAny_func ?_⟩
  obtain ⟨h₁, tk, rfl, _⟩ := x.done
  have hk₁ := x.toInCall.keep
  obtain ⟨cells, NC, Y⟩ := Cl.news (h₀ := s.heap) (Nat.le_refl _) fun n c hm => ⟨x.cell n c (lookup_of_mem_nodup (cellsFrom_names scope.names 0 (s.heap.objs.size + 1) [] [] rfl ▸ hnd) hm), x.above n c hm⟩
  refine h _ h₁ tk cells rfl (less_fr rfl x.toInCall.ns hk₁) (fun p hp => ?_) Y (less_below H B) (less_dicts H D)
  rcases List.mem_append.mp hp with hp | hp
  · refine ⟨(NC p hp).1, (NC p hp).2.1, ?_⟩
    cases q : (less s.heap news).get? p.1 with
    | none => rfl
    | some o => have := less_of q; rw [(NC p hp).2.2] at this; cases this
  · exact less_news H rfl hk₁ p hp
end
end Mine
end
section
open PySem PySem.W PySem.Calls PyProof.Rows
set_option Elab.async false
set_option maxRecDepth 100000
namespace Mine
/-- the code tables that change as the law runs, and the qualified names of the codes they take -/
def tabQ : List (Addr × Str) :=
  [(102, Str.ofString "_law_503_bits" ++ ".<locals>." ++ "<lambda>"), (109, Str.ofString "_law_503_octets" ++ ".<locals>." ++ "<lambda>"), (116, Str.ofString "_law_503_turns" ++ ".<locals>." ++ "<lambda>"), (128, Str.ofString "law" ++ ".<locals>." ++ "<lambda>"),
   (48, Str.ofString "bytes2bits" ++ ".<locals>." ++ "<genexpr>"), (55, Str.ofString "bits2bytes" ++ ".<locals>." ++ "<genexpr>"), (69, Str.ofString "swapbytesinbits" ++ ".<locals>." ++ "<genexpr>"), (76, Str.ofString "swapbitsinbytes" ++ ".<locals>." ++ "<genexpr>")]
abbrev tabA : List Addr := [102, 109, 116, 128, 48, 55, 69, 76]
theorem tabA_eq : tabQ.map (·.1) = tabA := rfl
structure TabFacts (p : Addr → Array Value) (cds : List (Addr × Obj)) : Prop where
  triples : ∀ q ∈ tabQ, TriplesOk (p q.1).toList
  codes : ∀ q ∈ tabQ, ∀ pos v, codeAmong pos (p q.1).toList = some v → ∃ c oc vs t, v = .ref c ∧ (c, oc) ∈ cds ∧ oc.data = .fields vs ∧ vs[1]? = some (.str q.2 t)
  apart : ∀ x ∈ cds, x.1 ∉ tabA ∧ ∃ vs, x.2.data = .fields vs
theorem TabFacts.ne {p : Addr → Array Value} {cds : List (Addr × Obj)} {c : Addr} (T : TabFacts p cds) (hc : c ∈ tabA) : ∀ q ∈ cds, q.1 ≠ c := fun q hq e => (T.apart q hq).1 (e ▸ hc)
def led (p : Addr → Array Value) (cds : List (Addr × Obj)) : List (Addr × Obj) := tabA.map (fun a => (a, tabObj (p a))) ++ cds
theorem led_eq (p : Addr → Array Value) (cds : List (Addr × Obj)) : led p cds = (102, tabObj (p 102)) :: (109, tabObj (p 109)) :: (116, tabObj (p 116)) :: (128, tabObj (p 128)) :: (48, tabObj (p 48)) :: (55, tabObj (p 55)) :: (69, tabObj (p 69)) :: (76, tabObj (p 76)) :: cds := rfl
theorem TabFacts.fields {p : Addr → Array Value} {cds : List (Addr × Obj)} (T : TabFacts p cds) : ∀ x ∈ led p cds, ∃ vs, x.2.data = .fields vs := fun x hx => by
  rcases List.mem_append.mp hx with hx | hx
  · obtain ⟨a, _, rfl⟩ := List.mem_map.mp hx
    exact ⟨_, rfl⟩
  · exact (T.apart x hx).2
structure Led (base h : Heap) (p : Addr → Array Value) (cds : List (Addr × Obj)) : Prop where
  facts : TabFacts p cds
  held : ∀ x ∈ led p cds, h.get? x.1 = some x.2 ∧ base.get? x.1 = none
theorem Led.off {base h : Heap} {p : Addr → Array Value} {cds : List (Addr × Obj)} {l : List Env} (T : Led base h p cds) (hl : h.FunFrames base l) : ∀ x ∈ led p cds, x.1 ∉ frs l := fun x hx hm => by
  obtain ⟨_, o, ho, hnf⟩ := hl.mem hm
  rw [(T.held x hx).1] at ho
  cases ho
  obtain ⟨vs, hv⟩ := T.facts.fields x hx
  exact hnf vs hv
theorem Led.toHeld {base h : Heap} {p : Addr → Array Value} {cds : List (Addr × Obj)} {l : List Env} (T : Led base h p cds) (hl : h.FunFrames base l) : Held base h (frs l) (led p cds) := fun x hx => ⟨(T.held x hx).1, (T.held x hx).2, T.off hl x hx⟩
/-- what a call leaves that may make codes anew and catch what flies -/
structure Evo (fs : List Addr) (base : Heap) (p : Addr → Array Value) (cds : List (Addr × Obj)) (h h' : Heap) : Prop where
  keep : ∀ b o, h.get? b = some o → b ∉ fs → b ∉ (led p cds).map (·.1) → h'.get? b = some o
  frame : ∀ b o, h.get? b = some o → b ∈ fs → ∃ sl, h'.get? b = some { o with slots := sl }
  tabs : ∃ p' cds', Led base h' p' cds' ∧ ∀ x ∈ cds', x.1 ∈ cds.map (·.1) ∨ h.get? x.1 = none
theorem evo_of {A : Around} {base h g' h' : Heap} {outer : List Env} {p p' : Addr → Array Value} {cds cds' news : List (Addr × Obj)} {L : Addr} {m' : Str → Option Value} (T : Led base h p cds) (hl : h.FunFrames base outer)
    (K : KtsTurn (frs outer) (less h (led p cds)) g') (F' : Fr g' L h' m') (N' : News g' L h' news) (B' : Below A base outer g') (T' : TabFacts p' cds') (sub : ∀ x ∈ led p' cds', x ∈ news) : Evo (frs outer) base p cds h h' := by
  have hide : ∀ b o, h.get? b = some o → b ∉ (led p cds).map (·.1) → (less h (led p cds)).get? b = some o := fun b o e n => hideAll_get _ e n
  refine ⟨fun b o e n1 n2 => F'.keep _ _ (K.other _ _ (hide b o e n2) n1), fun b o e hm => ?_, p', cds', ⟨T', fun x hx => ⟨(N' x (sub x hx)).1, fresh_of_stays B'.stays (N' x (sub x hx)).2.2⟩⟩, fun x hx => ?_⟩
  · obtain ⟨sl, hs⟩ := K.frame _ _ (hide b o e fun q => by
      obtain ⟨x, hx, rfl⟩ := List.mem_map.mp q
      exact T.off hl x hx hm) hm
    exact ⟨sl, F'.keep _ _ hs⟩
  · have h1 := (N' x (sub x (List.mem_append_right _ hx))).2.2
    cases q : h.get? x.1 with
    | none => exact .inr rfl
    | some o =>
      left
      by_cases hm : x.1 ∈ (led p cds).map (·.1)
      · rw [led, List.map_append, List.mem_append] at hm
        rcases hm with hm | hm
        · rw [List.map_map] at hm
          exact absurd hm (T'.apart x hx).1
        · exact hm
      · obtain ⟨sl, hs⟩ := K.up (hide _ _ q hm)
        rw [h1] at hs
        cases hs
/-- a caller's ground and ledger after such a call -/
theorem Evo.ground {A₀ : Around} {base g h h' : Heap} {outer : List Env} {L : Addr} {m : Str → Option Value} {env : Env} {extra cds : List (Addr × Obj)} {p : Addr → Array Value} (V : Evo (frs (env :: outer)) base p cds h h') (B : Below A₀ base outer g) (F : Fr g L h m) (N : News g L h (extra ++ led p cds)) (hf : env.frame = some L)
    (D : KtsDicts (frs outer) g) (hx : ∀ q ∈ extra, q.1 ∉ (led p cds).map (·.1)) :
    ∃ g' p' cds', KtsTurn (frs outer) g g' ∧ Fr g' L h' m ∧ News g' L h' (extra ++ led p' cds') ∧ Below A₀ base outer g' ∧ KtsDicts (frs outer) g' ∧ TabFacts p' cds' := by
  have nL : g.get? L = none := kts_self F
  have off : ∀ b o, g.get? b = some o → b ∉ (led p cds).map (·.1) := fun b o e q => by
    obtain ⟨x, hx, rfl⟩ := List.mem_map.mp q
    rw [(N x (List.mem_append_right _ hx)).2.2] at e
    cases e
  obtain ⟨T₁, S₁⟩ := kts_turn_at (h := h') (fs := frs outer) (g := g)
    (fun b hb => by
      obtain ⟨_, o, ho, _⟩ := B.frames.mem hb
      exact ⟨o, ho⟩)
    (fun b o e nm => V.keep b o (F.keep b o e) (fun q => by
      rcases (frs_cons hf).mp q with z | z
      · rw [z, nL] at e
        cases e
      · exact nm z) (off b o e))
    (fun b o e hm => V.frame b o (F.keep b o e) ((frs_cons hf).mpr (.inr hm)))
  obtain ⟨oL, es, ep, hL, hLd, hLk, hLf⟩ := F.ns
  obtain ⟨sl, hs⟩ := V.frame L oL hL ((frs_cons hf).mpr (.inl rfl))
  obtain ⟨p', cds', T', hnew⟩ := V.tabs
  refine ⟨_, p', cds', T₁, ⟨⟨_, es, ep, hs, hLd, hLk, hLf⟩, S₁, by rw [T₁.size]; exact F.above⟩, fun q hq => ?_,
    ⟨B.stack, fun b o e => T₁.other b o (B.stays b o e) (fun hm => by
      rw [(B.frames.mem hm).1] at e
      cases e), B.frames.of_keeps fun b o e _ => by
      obtain ⟨sl', hs'⟩ := T₁.up e
      exact ⟨_, hs', rfl⟩⟩, D.turn T₁, T'.facts⟩
  rcases List.mem_append.mp hq with hq | hq
  · have n := N q (List.mem_append_left _ hq)
    refine ⟨V.keep _ _ n.1 (fun z => ?_) (hx q hq), n.2.1, T₁.none_ _ n.2.2⟩
    rcases (frs_cons hf).mp z with z | z
    · exact n.2.1 z
    · obtain ⟨_, o, ho, _⟩ := B.frames.mem z
      rw [n.2.2] at ho
      cases ho
  · refine ⟨(T'.held q hq).1, fun z => ?_, T₁.none_ _ ?_⟩
    · have h1 := (T'.held q hq).1
      rw [z, hs] at h1
      obtain ⟨vs, hv⟩ := T'.facts.fields q hq
      rw [← Option.some.inj h1] at hv
      rw [hLd] at hv
      cases hv
    · rcases List.mem_append.mp hq with hq | hq
      · obtain ⟨a, ha, rfl⟩ := List.mem_map.mp hq
        exact (N (a, tabObj (p a)) (List.mem_append_right _ (List.mem_append_left _ (List.mem_map.mpr ⟨a, ha, rfl⟩)))).2.2
      · rcases hnew q hq with z | z
        · obtain ⟨y, hy, e⟩ := List.mem_map.mp z
          rw [← e]
          exact (N y (List.mem_append_right _ (List.mem_append_right _ hy))).2.2
        · exact kts_none F.keep z
theorem led_of_news {A₀ : Around} {base g h : Heap} {outer : List Env} {L : Addr} {news cds : List (Addr × Obj)} {p : Addr → Array Value} (T : TabFacts p cds) (B : Below A₀ base outer g) (N : News g L h news) (sub : ∀ x ∈ led p cds, x ∈ news) : Led base h p cds :=
  ⟨T, fun x hx => ⟨(N x (sub x hx)).1, fresh_of_stays B.stays (N x (sub x hx)).2.2⟩⟩
end Mine
end
section
open PySem PySem.W PySem.Calls PyProof.Rows
set_option Elab.async false
namespace Mine

theorem clean_caller : Clean (⟨.builtin "claim.caller" {}, none, none, [], none⟩ : PySem.Ctx) := ⟨by decide +kernel, fun _ h => nomatch h⟩

/-- the caller's thread ends, from the clean logic -/
theorem ends_J {prog : Program} {w : World} {t : Sem Fin} {s : Shared} {R : Result → Shared → Prop} (hreg : s.asleep)
    (h : wpJ (model prog w) callerA t (fun fin s' => ∃ f, fin = .done f ∧ (R (.ok f) s' ∧ leftWithCleanup s'.gens = false)) (fun e s' => R (.error e) s' ∧ leftWithCleanup s'.gens = false) s) :
    ∃ n r s' s'', runN (denote table) prog w n s ⟨t, .builtin "claim.caller" {}, default, []⟩ = .halted (outcomeOf r) s' ∧
      schedN (denote table) prog w n (.single s ⟨t, .builtin "claim.caller" {}, default, []⟩) = .halted (outcomeOf r) s' ∧ s'.forget = s''.forget ∧ R r s'' := by
  have h0 := h ⟨.builtin "claim.caller" {}, none, none, [], none⟩ default caller_in clean_caller
  obtain ⟨n, r, s₁, s₂, hs, hn, hfo, hR⟩ := wp_halts_full (M := model prog w) (R := R) hreg (Sem.wp_mono _ _ _ (fun fin p' s' h' => by
    obtain ⟨f, rfl, hf⟩ := h'
    exact hf) (fun _ _ _ h' => h') _ _ h0)
  exact ⟨n, r, s₂, s₁, hn, hs, hfo, hR⟩

theorem callFrom_J {c : ClaimW} {tree : List Value → Sem Fin} {w : World} {s : Shared} {free : Addr → Prop} {gens : Prop} {kept : Heap → Prop} (hz : s.asleep) (hgens : s.gens = #[])
    (hspec : ∀ args, c.pre args = true → WData.layableAll args = true →
      ∀ ord : List DictEntry → List DictEntry, (∀ l, (ord l).Perm l) →
      ∃ vs s₁, layAllW c.records (classAt s.heap) w.params ord args s = some (vs, s₁) ∧
        wpJ (model c.prog w) callerA (tree vs) (fun fin s' => ∃ f, fin = .done f ∧ (c.Ends s args vs s₁ (.ok f) s' ∧ s'.os = s.os ∧ AllBare s'.gens ∧ kept s'.heap))
          (fun e s' => c.Ends s args vs s₁ (.error e) s' ∧ s'.os = s.os ∧ AllBare s'.gens ∧ kept s'.heap) s₁) :
    c.CallFrom (fun vs => ⟨tree vs, .builtin "claim.caller" {}, default, []⟩) w free gens kept s := by
  intro args hpre hlay ord hord
  obtain ⟨vs, s₁, hlaid, hcode⟩ := hspec args hpre hlay ord hord
  obtain ⟨l1, l2, l3, l4⟩ := layAllW_rest _ _ _ hlaid
  obtain ⟨k, r, s', s'', hrun, hsched, hfo, hcase, hos, hkp⟩ := ends_J (prog := c.prog) (w := w) (t := tree vs) (s := s₁)
    (R := fun r s' => c.Ends s args vs s₁ r s' ∧ s'.os = s.os ∧ kept s'.heap) (Shared.asleep_of_life l4 hz)
    (wpJ_mono hcode
      (fun _ _ ⟨f, e, h1, h2, h3, h4⟩ => ⟨f, e, ⟨h1, h2, h4⟩, leftWithCleanup_false_of_bare h3⟩)
      (fun _ _ ⟨h1, h2, h3, h4⟩ => ⟨⟨h1, h2, h4⟩, leftWithCleanup_false_of_bare h3⟩))
  obtain ⟨eh, _, _, eo, _⟩ := Shared.forget_eq hfo
  have hc2 := hcase.congr eh
  rw [← eh] at hkp
  rw [← eo] at hos
  have hlife : s'.heap.life = s.heap.life := (runN_life _ _ _ hrun).trans l4
  refine ⟨vs, s₁, hlaid, k, _, s', hsched, ?_, (fun _ i x hx => by rw [hgens] at hx; simp at hx), hkp, by rw [hlife], Shared.rest_eq hos⟩
  rcases hc2 with ⟨v, rfl, d1, d2, d3, d4, d5⟩ | ⟨e, ob, cls, rfl, d1, d2, d3, d4, d5⟩
  · exact .inl ⟨v, rfl, d1, d2, d3, fun b o y _ => d4 b o y, d5⟩
  · exact .inr ⟨e, ob, cls, rfl, d1, d2, d3, d4, fun b o y _ => d5 b o y⟩

/-- the walk that a law's call wants, in the clean logic -/
abbrev WalkJ (q : Program) (loose : List Str) (XP : (Str → Option Value) → Heap → Prop) (YP : World → Heap → Prop) (r : RowW) (d : DefRec) (kwd : List (Str × Expr)) : Prop :=
  ∀ (w : World) (s₀ s₁ : Shared) (mg mb : Str → Option Value), Ground q loose r.records XP w s₀ mg mb s₁.heap → YP w s₁.heap → ∀ (a : Addr) (o : Obj) (pm cd doc dV kV : Value), s₁.heap.get? a = some o →
    o.data = .func { docDef d.name d.params d.body d.scope pm cd doc with defaults := dV, kwdefaults := kV } → s₁.heap.CodeRec cd d.name → Dflts mg s₁.heap d.params kwd dV kV → mg d.name = some (.ref a) → s₁.gens = #[] →
    ∀ (args : List WData) (vals : List Value) (as : List Addr), r.claim.pre args = true → WData.layableAll args = true → ReadsAllW r.records (classAt s₀.heap) s₁.heap vals args as → WellAll w.params s₁.heap vals args → (∀ a ∈ as, (a == sysModules) = false) →
      wpJ (model r.prog w) callerA (PySem.call (.ref a) vals) (fun v s' => GoodWG r.claim (classAt s₀.heap) (ExcName.means s₀.heap) args s₁ (.ok (.ret v)) s')
        (fun e s' => GoodWG r.claim (classAt s₀.heap) (ExcName.means s₀.heap) args s₁ (.error e) s') s₁

theorem PySem.W.holds_open {r : OpenRow} {q : Program} {loose : List Str} {Xt : Shared → Bool} {XP : (Str → Option Value) → Heap → Prop} {α : Type} {Yf : Shared → α} {Ya : World → α} {YP : World → Heap → Prop} {d : DefRec} {kwd : List (Str × Expr)} {N : Nat}
    (left : LeftO r.prog q loose Xt Yf Ya N) (hY : ∀ w s, Yf s = Ya w → YP w s.heap) (hYk : ∀ w h h', YP w h → (∀ b o, h.get? b = some o → h'.get? b = some o) → YP w h')
    (hX : ∀ s, Xt s = true → XP (s.heap.nsMap mainGlobals) s.heap) (hXk : ∀ mg h h', XP mg h → (∀ b o, h.get? b = some o → h'.get? b = some o) → XP mg h')
    (hdef : defOf q r.name = some (d, kwd)) (hp : r.prog.theDef r.name = some (d.params, d.body, d.scope)) (hk : kwWritten? d.params.kwonlyargs d.params.kw_defaults = some kwd) (hRf : ∀ s, Xt s = true → RecFacts r.records s.heap) (hwr : (!r.writes || r.records.isEmpty) = true)
    (k1 : r.wellSaid = true) (ok : (chainsOk q && opensWell r.prog && (frees r.toRowW && r.within.isEmpty)) = true) (hb : r.prog.bare) (hw : r.toRowW.promised)
    (call : WalkJ q loose XP YP r.toRowW d kwd) : r.Holds := by
  refine ⟨k1, hw, ?_⟩
  simp only [Bool.and_eq_true] at ok
  obtain ⟨⟨hch, o1⟩, k5, k6⟩ := ok
  obtain ⟨hsame, hu, ha, hap, hm⟩ := frees_parts k5
  refine ⟨⟨hb, o1, by show r.makers.map _ = []; rw [hm]; rfl⟩, hw.witness, fun w => ⟨(left.behind hX hch w).1, fun s' hs' => ?_⟩⟩
  obtain ⟨s₀, hf, hg0, s, hT, hz, hgens, hg, G00, y⟩ := (left.behind (XP := fun mg h => XP mg h ∧ RecFacts r.records h) (fun s hs => ⟨hX s hs, hRf s hs⟩) hch w).2 s' hs'
  have G0 : Ground q loose [] XP w s (s.heap.nsMap mainGlobals) (s.heap.nsMap builtinsNs) s.heap := ⟨G00.T, G00.B, G00.D, G00.TE, G00.TD, G00.W, G00.X.1, G00.cls, G00.has, G00.apart, G00.once, G00.K⟩
  have RF := G00.X.2
  refine ⟨s₀, hf, hg0, s, hT, fun n hn => ?_, RF.1, RF.2.1, ?_⟩
  · obtain rfl : n = r.name := by split at hn <;> simp_all
    exact pinned_of_view hg G0 hdef hp hk
  have hgens : s.gens = #[] := Array.eq_empty_of_size_eq_zero (beq_iff_eq.mp hgens)
  have G : Ground q loose r.records XP w s _ _ s.heap := RF.ground G0
  refine callFrom_J (c := r.toRowW.claim) (tree := fun vs => do match ← nsGet mainNs r.name with
      | some f => do ret (← PySem.call f vs)
      | none => unsupported "claim.caller:no-such-global") hz hgens fun args hpre hlay ord hord => ?_
  obtain ⟨⟨vs, s₁⟩, hlaid⟩ := Option.isSome_iff_exists.mp (layAllW_isSome (P := w.params) (ord := ord) G.has args r.args s (pre_splitW hpre).1)
  have keeps := layAllW_keeps _ _ _ hlaid
  have hal := layAllW_rest _ _ _ hlaid
  obtain ⟨as, hrd, hin, hold⟩ := reads_layAllW hord _ _ _ hlaid hlay s₁.heap (fun _ _ e => e)
  have L : Laid r.records w s s₁ args vs as := ⟨⟨ord, hord, hlaid⟩, hrd, hin, hold, keeps, hal.1.trans hgens, hal.2.2.1⟩
  have G₁ := G.keeps hXk keeps
  obtain ⟨a, o, pm, cd, doc, dV, kV, h1, h2, h3, h4, h5⟩ := G₁.fn hdef
  have h := call w s s₁ _ _ G₁ (hYk _ _ _ (hY w s y) keeps) a o pm cd doc dV kV h2 h3 h4 h5 (defOf_name hdef ▸ h1) L.gens args vs as hpre hlay L.reads L.well (L.low G.low)
  have hi := ident_freeW hu ha hap
  have hwi : r.toRowW.claim.within = [] := List.isEmpty_iff.mp k6
  refine ⟨vs, s₁, hlaid, wpJ_then (wpAny_nsGet G₁.T.g ?_)⟩
  rw [h1]
  refine wpJ_bind (wpJ_mono h (fun v s' g => wpJ_pure ⟨_, rfl, ?_⟩) fun e s' g => ?_)
  · have z := g.laid (c := r.toRowW.claim) hsame hwi hi L
    exact ⟨z.1, z.2.1, z.2.2, fun q => ⟨namesKept_of hT hg r.keeps keeps g.2.1.old, noTable hwr q⟩⟩
  · have z := g.laid (c := r.toRowW.claim) hsame hwi hi L
    exact ⟨z.1, z.2.1, z.2.2, fun q => ⟨namesKept_of hT hg r.keeps keeps g.2.1.old, noTable hwr q⟩⟩
end Mine
end
section
open PySem PySem.W PyProof.Rows
set_option Elab.async false
namespace Mine
set_option maxRecDepth 100000 in
set_option maxHeartbeats 8000000 in
open_top hd for PySem.Challenge.rw_dp5010_01
end Mine
end
section
open PySem PySem.W PySem.Calls PyProof.Rows
set_option Elab.async false
set_option maxRecDepth 100000
namespace Mine
theorem filled (w : World) : PySem.Challenge.rw_dp5010_01.row.prog = PySem.Challenge.rw_dp5010_01.row.prog ∧ hd.heap_39 w.params = hd.heap_39 w.params := by
  k_fill
  exact ⟨rfl, rfl⟩

/-- what a call does that raises ValueError -/
def RaisesVE (M : Model) (A : Around) (base : Heap) (outer : List Env) (c : Code) (s : Shared) : Prop :=
  codeAny M A c (fun r s' => ∃ e h' tk, r = .error (.ref e) ∧ s' = { s with heap := h', toks := tk } ∧ Flies base s.heap outer e (.type "ValueError") h') s
/-- a deed that raises ValueError wherever it is called above a heap -/
def Deed (M : Model) (A₀ : Around) (base : Heap) (f : Value) (s₀ : Shared) : Prop :=
  ∀ (A : Around) (outer : List Env) (h : Heap) (tk : Tok), A.handled = none → A.depth = A₀.depth + 1 → A.units ≤ A₀.units + 4 → A.frames = some outer → Below A base outer h → KtsDicts (frs outer) h → s₀.heap.StaysIn h →
    RaisesVE M A base outer (.call f ⟨[], []⟩) { s₀ with heap := h, toks := tk }

theorem Flies.snN {base h h' : Heap} {l : List Env} {e : Addr} {cls : Value} {news : List (Addr × Obj)} (X : Flies base h l e cls h') (H : Held base h (frs l) news) : RaisedSN base (less h news) l e cls news h' :=
  let ⟨⟨B, a0, hB, hBG, hfl⟩, _⟩ := X
  ⟨B, a0, hB, fun b o e => hBG b o (less_of e), fun q hq => ⟨hBG _ _ (H q hq).1 (H q hq).2.2, hideAll_none _ (List.mem_map_of_mem hq), (H q hq).2.1⟩, hfl⟩
theorem less_frame {g h : Heap} {L : Addr} {m : Str → Option Value} {news : List (Addr × Obj)} (F : Fr g L h m) (N : News g L h news) : Fr g L (less h news) m := by
  obtain ⟨oL, es, ep, hL, hLd, hLk, hLf⟩ := F.ns
  refine ⟨⟨oL, es, ep, hideAll_get _ hL fun q => ?_, hLd, hLk, hLf⟩, fun b o e => hideAll_get _ (F.keep b o e) fun q => ?_, F.above⟩
  · obtain ⟨p, hp, e⟩ := List.mem_map.mp q
    exact (N p hp).2.1 e
  · obtain ⟨p, hp, rfl⟩ := List.mem_map.mp q
    rw [(N p hp).2.2] at e
    cases e
theorem deed_call {prog : Program} {w : World} {A : Around} {E : Value → Shared → Prop} {s₀ : Shared} {base h : Heap} {outer : List Env} {L f : Addr} {fo : Obj} {m : Str → Option Value} {env : Env} {tk : Tok} {Q : Value → Shared → Prop}
    (dX : Deed (model prog w) A base (.ref f) s₀) (hh : A.handled = none) (B : Below A base outer (less s₀.heap [(f, fo)])) (D : KtsDicts (frs outer) (less s₀.heap [(f, fo)])) (H : Held base s₀.heap (frs outer) [(f, fo)])
    (F : Fr (less s₀.heap [(f, fo)]) L h m) (N : News (less s₀.heap [(f, fo)]) L h [(f, fo)]) (hf : env.frame = some L) (hke : env.scope.kind = .function)
    (k : ∀ e h' tk', Fr (less s₀.heap [(f, fo)]) L (less h [(f, fo)]) m → RaisedSN base (less h [(f, fo)]) (env :: outer) e (.type "ValueError") [(f, fo)] h' → (less h [(f, fo)]).UpToSlots h' → E (.ref e) { s₀ with heap := h', toks := tk' }) :
    wpAny (model prog w) (A.deeper env) (call (.ref f) []) Q E { s₀ with heap := h, toks := tk } := by
  have B' := pushX B F hf hke
  have st : s₀.heap.StaysIn h := fun b o e => by
    rcases less_or H e with z | z
    · exact F.keep _ _ z
    · exact (N _ z).1
  refine wpAny_call (codeAny_mono (dX (A.deeper env) (env :: outer) h tk hh rfl (Nat.le_succ _) B'.stack B' (dicts_push D F hf) st) ?_)
  rintro r s' ⟨e, h', tk', rfl, rfl, X⟩
  have H2 := Held.of_news (env := env) B N hf
  exact k e h' tk' (less_frame F N) (X.snN H2) fun b o q hq => X.2 b o (less_of q) hq
local macro_rules | `(tactic| walk_at "call ref") => `(tactic| ((rename Deed _ _ _ _ _ => dX); (rename Fr _ _ _ _ => dF); (rename News _ _ _ _ => dN); (rename Below _ _ _ _ => dB); (rename KtsDicts _ _ => dD); (rename Held _ _ _ _ => dH); (refine deed_call dX (by assumption) dB dD dH dF dN rfl rfl ?_); intro e' h' tk' F' R' U'; clear dX))
set_option maxHeartbeats 4000000 in
theorem refused {w : World} {A : Around} {s : Shared} {mg mb : Str → Option Value} {p : Program} {loose : List Str} {mean : ExcName → Option Value} {R : Result → Shared → Prop} {base : Heap} {outer : List Env}
    (hh : A.handled = none) (hdp : A.depth < recursionLimit) (hun : A.units + 20 < cLine) (XB : (hd.heap_39 w.params).In base) (TB : Top p loose mean mg mb base)
    {c₀ P₀ : Addr} (CH : CodeHd base c₀ P₀) (B : Below A base outer s.heap) (D : KtsDicts (frs outer) s.heap)
    {f : Addr} {args : Args} {name qual : Str} {params : Arguments} {body : Expr} {scope : Scope} {clos : List (Str × Addr)} {pm ctv : Value} {c' : Addr} (hb : BindsToK (hd.heap_39 w.params) s 93 args [(Str.ofString "deed", .ref f)]) (H : Held base s.heap (frs outer) [(f, kla_obj name qual params body scope clos pm c' ctv)])
    (deed : Deed (model PySem.Challenge.rw_dp5010_01.row.prog w) A base (.ref f) s)
    (hR : ∀ h' tk, Turned (frs outer) s.heap h' → R (.ok (.ret (.bool true))) { s with heap := h', toks := tk }) :
    codeAny (model PySem.Challenge.rw_dp5010_01.row.prog w) A (.call (.ref 93) args) R s := by
  refine' enterN (news := [(f, kla_obj name qual params body scope clos pm c' ctv)]) B D XB TB.nolimit H ?k6 ?k7 hdp ?k9 ?kB ?c5 ?h ?c2 ?c3 ?c4
  case k6 => k_is
  case k7 => k_is
  case k9 => exact hb _ _ (by k_is) rfl
  case kB => exact locs rfl
  case c5 => decide
  case c2 => exact rfl
  case c3 => exact rfl
  case c4 => exact rfl
  intro L h₁ hL F N B₁ D₁
  have X := XB.keeps B₁.stays
  have T := TB.keeps B₁.stays
  (change wpAny _ _ _ _ _ _); k_fold
  k_steps
  rename Held _ _ _ _ => H
  rename KtsTurn _ _ _ => T'
  rename Fr _ _ _ _ => F'
  rename News _ _ _ _ => N'
  exact hR _ _ (turned_of H T' F' fun p hp => (N' p hp).1)
end Mine
end
section
open PySem PySem.W PySem.Calls PyProof.Rows
set_option Elab.async false
set_option maxRecDepth 100000
namespace Mine
def upd (p : Addr → Array Value) (P : Addr) (ps : Array Value) : Addr → Array Value := fun a => if a = P then ps else p a
theorem upd_self (p : Addr → Array Value) (P : Addr) : upd p P (p P) = p := funext fun a => by
  unfold upd
  split
  · rename_i e; rw [e]
  · rfl
theorem codeAmong_app {pos pos' : Pos} {c x : Value} (l : List Value) (h : TriplesOk l) (hs : codeAmong pos' (l ++ [rawInt pos.line, rawInt pos.col, c]) = some x) : codeAmong pos' l = some x ∨ x = c := by
  fun_induction TriplesOk l with
  | case1 =>
    simp only [List.nil_append, rawInt, codeAmong] at hs
    split at hs
    · exact .inr (Option.some.inj hs).symm
    · cases hs
  | case2 a t b u y rest ih =>
    simp only [List.cons_append, codeAmong] at hs ⊢
    split at hs
    · rename_i hc
      rw [if_pos hc]
      exact .inl hs
    · rename_i hc
      rw [if_neg hc]
      exact ih h hs
  | case3 l h1 h2 => exact h.elim
section
variable {M : Model} {A : Around} {E : Value → Shared → Prop} {s : Shared} {h₀ : Heap} {L a c P : Addr} {m mg mb : Str → Option Value} {cn : Str} {cs : Scope} {ccd : Value} {cl : List (Str × Addr)} {news : List (Addr × Obj)} {g : Obj → List (Addr × Obj)}
  {p : Program} {loose : List Str} {mean : ExcName → Option Value} {name qual : Str} {params : Arguments} {body : Expr} {scope : Scope} {ps : Array Value} {pos : Pos} {firstLine : Nat} {clos : List (Str × Addr)} {pf : Addr → Array Value} {cds : List (Addr × Obj)}
/-- a lambda is made, its code anew or from the table -/
theorem lam_any {Q : Value → Shared → Prop} (F : Fr h₀ L s.heap m) (N : News h₀ L s.heap news) (T : Top p loose mean mg mb h₀) (C : CodeHd h₀ c P) (hcd : ccd = .ref c) (U : UpdF P (tabObj ps) news g)
    (TF : TabFacts pf cds) (hps : pf P = ps) (hP : (P, qual) ∈ tabQ) (sub : ∀ x ∈ led pf cds, x ∈ news) (hcl : closureFor scope (envX cn cs L a ccd cl) = pure clos)
    (h : ∀ f c' oc vs t ctv ps' h' tk, Fr h₀ L h' m → News h₀ L h' ((f, kla_obj name qual params body scope clos ((mg "__name__").getD .none) c' ctv) :: (c', oc) :: g (tabObj ps')) →
      oc.data = .fields vs → vs[1]? = some (.str qual t) → TabFacts (upd pf P ps') ((c', oc) :: cds) → (∀ q ∈ news, q.1 < f) → @Ne Nat c' P → Q (.ref f) { s with heap := h', toks := tk }) :
    wpAny M A (makeFunction name qual params (.expr body) scope (envX cn cs L a ccd cl) [] [] [] pos firstLine) Q E s := by
  replace h := fun f c' oc vs t ctv ps' h' tk F N d1 d2 (T : TabFacts (upd pf P ps') ((c', oc) :: cds)) l1 => h f c' oc vs t ctv ps' h' tk F N d1 d2 T l1 (fun e => (T.apart _ (.head _)).1 (by subst e; rw [← tabA_eq]; exact List.mem_map.mpr ⟨_, hP, rfl⟩))
  have ht : TriplesOk ps.toList := hps ▸ TF.triples _ hP
  cases hf : codeAmong pos ps.toList with
  | some v =>
    obtain ⟨c', oc, vs, t, rfl, hm, hd, hv⟩ := TF.codes _ hP pos v (by rw [hps]; exact hf)
    have hmem : (P, tabObj ps) ∈ news := by
      obtain ⟨pre, post, rfl, _⟩ := U.split
      exact List.mem_append_right _ (.head _)
    have hg : g (tabObj ps) = news := by
      obtain ⟨pre, post, e, hg, _⟩ := U.split
      rw [hg, e]
    refine kla_hit F N T C hcd hmem ht hf hcl fun f ctv h' tk F' N' l1 => h f c' oc vs t ctv ps h' tk F' (fun q hq => ?_) hd hv ?_ l1
    · rcases List.mem_cons.mp hq with rfl | hq
      · exact N' _ (.head _)
      · rcases List.mem_cons.mp hq with rfl | hq
        · exact N' _ (.tail _ (sub _ (List.mem_append_right _ hm)))
        · rw [hg] at hq
          exact N' _ (.tail _ hq)
    · have e : upd pf P ps = pf := by rw [← hps, upd_self]
      rw [e]
      exact ⟨TF.triples, fun q hq pos v e => let ⟨c, oc, vs, t, h1, h2, h3, h4⟩ := TF.codes q hq pos v e; ⟨c, oc, vs, t, h1, .tail _ h2, h3, h4⟩, fun x hx => by
        rcases List.mem_cons.mp hx with rfl | hx
        · exact TF.apart _ hm
        · exact TF.apart _ hx⟩
  | none =>
    refine kla_nest F N T C hcd U ht hf hcl fun f c' oc vs t ctv h' tk F' N' hd hv l1 l2 => h f c' oc vs t ctv _ h' tk F' N' hd hv ?_ fun q hq => Nat.lt_trans (l1 q hq) l2
    refine ⟨fun q hq => ?_, fun q hq pos' v e => ?_, fun x hx => ?_⟩
    · unfold upd
      split
      · rw [Array.toList_append]
        exact TriplesOk_snoc _ _ _ _ ht
      · exact TF.triples q hq
    · unfold upd at e
      split at e
      · rename_i hq'
        rw [Array.toList_append] at e
        rcases codeAmong_app ps.toList ht e with z | z
        · rw [← hps, ← hq'] at z
          obtain ⟨c, oc, vs, t, h1, h2, h3, h4⟩ := TF.codes q hq pos' v z
          exact ⟨c, oc, vs, t, h1, .tail _ h2, h3, h4⟩
        · have hqq : q.2 = qual := by
            have hnd : ∀ x ∈ tabQ, ∀ y ∈ tabQ, x.1 = y.1 → x.2 = y.2 := by decide +kernel
            exact hnd q hq _ hP hq'
          exact ⟨c', oc, vs, t, z, .head _, hd, hqq ▸ hv⟩
      · obtain ⟨c, oc, vs, t, h1, h2, h3, h4⟩ := TF.codes q hq pos' v e
        exact ⟨c, oc, vs, t, h1, .tail _ h2, h3, h4⟩
    · rcases List.mem_cons.mp hx with rfl | hx
      · refine ⟨fun hm => ?_, vs, hd⟩
        have := l1 (c', tabObj (pf c')) (sub _ (List.mem_append_left _ (List.mem_map.mpr ⟨c', hm, rfl⟩)))
        exact absurd this (Nat.lt_irrefl _)
      · exact TF.apart x hx
end
section
variable {prog : Program} {w : World} {A : Around} {s : Shared} {base : Heap} {R : Result → Shared → Prop} {outer : List Env} {news : List (Addr × Obj)}
  {name qual : Str} {params : Arguments} {body : Expr} {scope : Scope} {cl : List (Str × Addr)} {pm ctv : Value} {c' : Addr} {f : Addr} {args : Args} {binds : List (Str × Value)}
/-- a lambda is entered, with a ledger held apart -/
theorem lamEnter (B : Below A base outer s.heap) (D : KtsDicts (frs outer) s.heap) (hlim : base.NoLimit) (H : Held base s.heap (frs outer) news)
    (ho : s.heap.get? f = some (kla_obj name qual params body scope cl pm c' ctv)) (hcd : s.heap.CodeRec (.ref c') qual) (hroom : A.depth < recursionLimit)
    (hbind : bindArgs (kla_fn name qual params body scope cl pm (.ref c') ctv) args = pure binds) (hloc : ∀ y ∈ binds, scope.names.lookup y.1 = some .local)
    (h : ∀ L h₁, L = s.heap.objs.size → Fr (less s.heap news) L h₁ (fun y => binds.reverse.lookup y) → News (less s.heap news) L h₁ news → Below A base outer (less s.heap news) → KtsDicts (frs outer) (less s.heap news) →
      wpAny (model prog w) (A.deeper (envX qual scope L f (.ref c') cl)) (eval body (envX qual scope L f (.ref c') cl))
        (fun v s' => R (.ok (.ret v)) s')
        (fun e s' => wpAny (model prog w) (A.deeper (envX qual scope L f (.ref c') cl)) (leaving (envX qual scope L f (.ref c') cl) e) (fun _ s'' => R (.error e) s'') (fun e' s'' => R (.error e') s'') s')
        { s with heap := h₁, toks := s.toks + binds.length })
    (hco : scope.isCoroutine = false) (hgen : scope.isGenerator = false) (hk : scope.kind = .function)
    (hcell : ∀ x ∈ scope.names, x.2 ≠ .cell) : codeAny (model prog w) A (.call (.ref f) args) R s := by
  refine kla_callFunE hroom ho rfl hco hgen rfl hcd ?_
  rw [hbind]
  refine wpAny_pure (wpAny_newFunctionEnv hcell hloc (fun h₁ hns hsb => ⟨(hlim.keeps B.stays).fresh _ hsb, ?_⟩) hk)
  have hk₁ : ∀ b o, s.heap.get? b = some o → h₁.get? b = some o := fun b o e => hsb.extBut b o (Nat.ne_of_lt (Heap.lt_size e)) (Heap.get?_push_of_some _ e)
  exact kla_codeExpr (h _ h₁ rfl (less_fr rfl hns hk₁) (less_news H rfl hk₁) (less_below H B) (less_dicts H D))
end
end Mine
end
section
open PySem PySem.W PySem.Calls PyProof.Rows
set_option Elab.async false
set_option maxRecDepth 100000
namespace Mine
section
variable {prog : Program} {w : World} {M : Model} {A : Around} {E : Value → Shared → Prop} {s : Shared} {h₀ : Heap} {L a c P : Addr} {m mg mb : Str → Option Value} {cn : Str} {cs : Scope} {ccd : Value} {cl : List (Str × Addr)} {news : List (Addr × Obj)} {g : Obj → List (Addr × Obj)}
  {p : Program} {loose : List Str} {mean : ExcName → Option Value} {qual : Str} {scope : Scope} {ps : Array Value} {pos : PySem.Pos} {clos : List (Str × Addr)} {pf : Addr → Array Value} {cds : List (Addr × Obj)}
/-- the code of a generator expression, made or found in the table -/
theorem gencode_any {Q : Value → Shared → Prop} (F : Fr h₀ L s.heap m) (N : News h₀ L s.heap news) (T : Top p loose mean mg mb h₀) (C : CodeHd h₀ c P) (hcd : ccd = .ref c) (U : UpdF P (tabObj ps) news g)
    (TF : TabFacts pf cds) (hps : pf P = ps) (hP : (P, qual) ∈ tabQ) (sub : ∀ x ∈ led pf cds, x ∈ news)
    (h : ∀ c' oc vs t ps' h' tk, Fr h₀ L h' m → News h₀ L h' ((c', oc) :: g (tabObj ps')) → oc.data = .fields vs → vs[1]? = some (.str qual t) → TabFacts (upd pf P ps') ((c', oc) :: cds) → @Ne Nat c' P →
      (∀ b o, b ≠ P → s.heap.get? b = some o → h'.get? b = some o) → s.heap.objs.size ≤ h'.objs.size → ((c', oc) ∈ news ∨ s.heap.objs.size ≤ c') → Q (.ref c') { s with heap := h', toks := tk }) :
    wpAny M A (genexprCode (envX cn cs L a ccd cl) pos qual scope) Q E s := by
  have hne : ∀ c' oc ps', TabFacts (upd pf P ps') ((c', oc) :: cds) → @Ne Nat c' P := fun c' oc ps' T e => (T.apart _ (.head _)).1 (by subst e; rw [← tabA_eq]; exact List.mem_map.mpr ⟨_, hP, rfl⟩)
  have ht : TriplesOk ps.toList := hps ▸ TF.triples _ hP
  have hcode : (envX cn cs L a ccd cl).code = .ref c := hcd
  obtain ⟨own, rest, rfl, hgr, h1, h2⟩ := U.split
  have hm := N (P, tabObj ps) (List.mem_append_right _ (.head _))
  have CF := C.keeps F.keep
  cases hf : codeAmong pos ps.toList with
  | some v =>
    obtain ⟨c', oc, vs, t, rfl, hmc, hd, hv⟩ := TF.codes _ hP pos v (by rw [hps]; exact hf)
    refine wpAny_genexprCode_hit hcode (CF.code hm.1 ht) hf ?_
    have TF2 : TabFacts (upd pf P ps) ((c', oc) :: cds) := ?tf
    refine h c' oc vs t ps s.heap s.toks F (fun q hq => ?_) hd hv TF2 (hne _ _ _ TF2) (fun _ _ _ e => e) (Nat.le_refl _) (.inl (sub _ (List.mem_append_right _ hmc)))
    · rcases List.mem_cons.mp hq with rfl | hq
      · exact N _ (sub _ (List.mem_append_right _ hmc))
      · rw [hgr] at hq
        exact N _ hq
    case tf =>
      have e : upd pf P ps = pf := by rw [← hps, upd_self]
      rw [e]
      exact ⟨TF.triples, fun q hq pos v e => let ⟨c, oc, vs, t, h1, h2, h3, h4⟩ := TF.codes q hq pos v e; ⟨c, oc, vs, t, h1, .tail _ h2, h3, h4⟩, fun x hx => by
        rcases List.mem_cons.mp hx with rfl | hx
        · exact TF.apart _ hmc
        · exact TF.apart _ hx⟩
  | none =>
    refine wpAny_genexprCodeX hcode (CF.code hm.1 ht) (CF.tab hm.1) hf fun c' h' tk hx hge hlt _ hrec htb _ => ?_
    obtain ⟨c₂, oc, vs, t, e2, hoc, hd, hv⟩ := hrec
    cases e2
    have hLs : L < s.heap.objs.size := F.ns.lt
    have hLc : L < c' := Nat.lt_of_lt_of_le hLs hge
    have old : ∀ b o, h₀.get? b = some o → h'.get? b = some o := fun b o e => hx b o (fun q => by rw [q, hm.2.2] at e; cases e) (F.keep b o e)
    have fresh : ∀ b, L < b → h₀.get? b = none := fun b hb => Heap.get?_none_of_le (Nat.le_trans F.above (Nat.le_of_lt hb))
    have TF2 : TabFacts (upd pf P (ps ++ #[rawInt pos.line, rawInt pos.col, .ref c'])) ((c', oc) :: cds) := ?tf
    refine h c' oc vs t _ h' tk ⟨F.ns.extBut hx hm.2.1.symm, old, F.above⟩ (fun q hq => ?_) hd hv TF2 (hne _ _ _ TF2) (fun b o hb e => hx b o hb e) (Nat.le_trans hge (Nat.le_of_lt hlt)) (.inr hge)
    · rcases List.mem_cons.mp hq with rfl | hq
      · exact ⟨hoc, Nat.ne_of_gt hLc, fresh _ hLc⟩
      · rw [hgr] at hq
        rcases List.mem_append.mp hq with hq | hq
        · have n := N q (List.mem_append_left _ hq)
          exact ⟨hx _ _ (h1 q hq) n.1, n.2⟩
        · rcases List.mem_cons.mp hq with rfl | hq
          · exact ⟨htb.2, hm.2⟩
          · have n := N q (List.mem_append_right _ (.tail _ hq))
            exact ⟨hx _ _ (h2 q hq) n.1, n.2⟩
    case tf =>
      refine ⟨fun q hq => ?_, fun q hq pos' v e => ?_, fun x hx' => ?_⟩
      · unfold upd
        split
        · rw [Array.toList_append]
          exact TriplesOk_snoc _ _ _ _ ht
        · exact TF.triples q hq
      · unfold upd at e
        split at e
        · rename_i hq'
          rw [Array.toList_append] at e
          rcases codeAmong_app ps.toList ht e with z | z
          · rw [← hps, ← hq'] at z
            obtain ⟨c, oc, vs, t, h1, h2, h3, h4⟩ := TF.codes q hq pos' v z
            exact ⟨c, oc, vs, t, h1, .tail _ h2, h3, h4⟩
          · have hqq : q.2 = qual := by
              have hnd : ∀ x ∈ tabQ, ∀ y ∈ tabQ, x.1 = y.1 → x.2 = y.2 := by decide +kernel
              exact hnd q hq _ hP hq'
            exact ⟨c', oc, vs, t, z, .head _, hd, hqq ▸ hv⟩
        · obtain ⟨c, oc, vs, t, h1, h2, h3, h4⟩ := TF.codes q hq pos' v e
          exact ⟨c, oc, vs, t, h1, .tail _ h2, h3, h4⟩
      · rcases List.mem_cons.mp hx' with rfl | hx'
        · refine ⟨fun hmm => ?_, vs, hd⟩
          have n := N (c', tabObj (pf c')) (sub _ (List.mem_append_left _ (List.mem_map.mpr ⟨c', hmm, rfl⟩)))
          exact absurd (Heap.lt_size n.1) (Nat.not_lt.mpr hge)
        · exact TF.apart x hx'
/-- a generator expression is made: what follows the source's iterator -/
theorem gen_inner {elt iter : Expr} {x : Str} {px : PySem.Pos} {I : Addr} {n : Nat} {Pv : Nat → Value → Prop} {St : Nat → Heap → Prop} {Fv : Nat → Value → Prop} {Q : Value → Shared → Prop}
    (F : Fr h₀ L s.heap m) (N : News h₀ L s.heap news) (T : Top p loose mean mg mb h₀) (C : CodeHd h₀ c P) (hcd : ccd = .ref c) (U : UpdF P (tabObj ps) news g)
    (TF : TabFacts pf cds) (hps : pf P = ps) (hP : (P, cn ++ ".<locals>." ++ "<genexpr>") ∈ tabQ) (sub : ∀ x ∈ led pf cds, x ∈ news) (hh : A.handled = none)
    (hI0 : h₀.get? I = none) (hI1 : I < s.heap.objs.size) (hI2 : I ≠ L) (hI3 : ∀ q ∈ news, q.1 ≠ I) (hst : St 0 s.heap) (W : ∀ A' : Around, A'.handled = none → Walks prog w A' I [I] [I] n Pv St)
    (hx : scope.names.lookup x = some .local) (hkind : scope.kind = .function) (hco : scope.isCoroutine = false)
    (helt : ∀ (A' : Around) Cx code i v (s₂ : Shared) m₂ E', A'.handled = none → A'.depth ≤ A.depth + 6 → A'.units ≤ A.units + 30 → i < n → Pv i v → Fr h₀ Cx s₂.heap m₂ → m₂ x = some v → (∀ q ∈ news, q.1 ≠ P → s₂.heap.get? q.1 = some q.2 ∧ q.1 ≠ Cx ∧ h₀.get? q.1 = none) →
      wpJ (model prog w) A' (eval elt (genEnv scope clos Cx code builtinsNs (envX cn cs L a ccd cl))) (fun y s₃ => Fv i y ∧ ∃ h' tk, s₃ = { s₂ with heap := h', toks := tk } ∧ ∀ b o, s₂.heap.get? b = some o → h'.get? b = some o) E' s₂)
    (h : ∀ c' oc vs t ps' Cx bd gen gs hp tk, Fr h₀ L hp m → News h₀ L hp ((c', oc) :: g (tabObj ps')) → oc.data = .fields vs → vs[1]? = some (.str (cn ++ ".<locals>." ++ "<genexpr>") t) → TabFacts (upd pf P ps') ((c', oc) :: cds) → @Ne Nat c' P →
      h₀.get? Cx = none → Cx ≠ L → (∀ q ∈ (c', oc) :: g (tabObj ps'), q.1 ≠ Cx) → (∀ q ∈ (c', oc) :: g (tabObj ps'), q.1 ≠ I) → gen < bd → bd ≤ hp.objs.size → Cx < bd → I < bd → gs.bare = true →
      (∀ A' : Around, A'.handled = none → A'.depth ≤ A.depth + 5 → A'.units ≤ A.units + 20 → GenOn (model prog w) A' n Fv bd Cx I gen s.gens.size n { s with heap := hp, toks := tk, gens := s.gens.push gs }) →
      Q (.ref gen) { s with heap := hp, toks := tk, gens := s.gens.push gs }) :
    s.heap.NoLimit ∧ wpAny M A (genexprCode (envX cn cs L a ccd cl) pos ((envX cn cs L a ccd cl).qual ++ "<genexpr>") scope) (fun code s₃ => wpAny M A (builtinsFor (envX cn cs L a ccd cl).globals (envX cn cs L a ccd cl).builtins) (fun bi s₄ =>
        ∀ h', h'.Ns s₄.heap.objs.size (fun y => if y = ".0" then some (.ref I) else none) → Heap.SameBut s₄.heap.objs.size (s₄.heap.push { cls := .type "frame", data := .dict #[] }) h' →
          Q (.ref h'.objs.size) { s₄ with
            gens := s₄.gens.push (.fresh (.compStart (.GeneratorExp elt [⟨.Name x px, iter, [], 0⟩] scope pos) 0 (.ref I) .none (genEnv scope clos s₄.heap.objs.size code bi (envX cn cs L a ccd cl)))),
            toks := s₄.toks + 1 + 1 + 1,
            heap := h'.push { cls := .type "generator", data := .fields #[.int s₄.gens.size 0, .str "<genexpr>" (s₄.toks + 1), .str ((envX cn cs L a ccd cl).qual ++ "<genexpr>") (s₄.toks + 1 + 1)] } }) E s₃) E s := by
  refine ⟨T.nolimit.keeps F.keep, ?_⟩
  refine gencode_any F N T C hcd U TF hps hP sub fun c' oc vs t ps' h₁ tk₁ F₁ N₁ d1 d2 TF₁ ne1 kp hsz hco' => ?_
  obtain ⟨bm, ob, b1, b2, b3, b4, b5, b6⟩ := T.bmain
  refine wpAny_builtinsFor (T.g.keeps F₁.keep) b1 b2 (F₁.keep _ _ b3) b4 b5 b6 ?_
  intro h₂ hn₂ hs₂
  dsimp only at hn₂ hs₂ ⊢
  have hLs : @LT.lt Nat _ L h₁.objs.size := F₁.ns.lt
  have hs2 : h₂.objs.size = h₁.objs.size + 1 := by rw [hs₂.1, Heap.size_push]
  have k₂ : ∀ b o, h₁.get? b = some o → h₂.get? b = some o := fun b o e => hs₂.extBut b o (Nat.ne_of_lt (Heap.lt_size e)) (Heap.get?_push_of_some _ e)
  generalize hgo : ({ cls := .type "generator", data := .fields #[.int s.gens.size 0, .str "<genexpr>" (tk₁ + 1), .str ((envX cn cs L a ccd cl).qual ++ "<genexpr>") (tk₁ + 1 + 1)] } : Obj) = go
  have k₃ : ∀ b o, h₁.get? b = some o → (h₂.push go).get? b = some o := fun b o e => Heap.get?_push_of_some _ (k₂ b o e)
  have hC0 : h₀.get? h₁.objs.size = none := Heap.get?_none_of_le (Nat.le_trans F.above (Nat.le_of_lt hLs))
  have hg3 : (h₂.push go).get? h₂.objs.size = some go := Heap.get?_push_size _ (by rw [← hgo]; rfl)
  have lim := T.nolimit.keeps (F₁.keeps k₃).keep
  have hcs : @LT.lt Nat _ cStatics L := Nat.lt_of_lt_of_le (let ⟨_, hn, _⟩ := T.nolimit; hn.lt) F.above
  have hcsI : cStatics ≠ I := fun e => by
    obtain ⟨_, ⟨o, _, _, e1, _⟩, _⟩ := T.nolimit
    rw [e, hI0] at e1
    cases e1
  have hI4 : @LT.lt Nat _ I h₁.objs.size := Nat.lt_of_lt_of_le hI1 hsz
  have o1 : @Ne Nat h₂.objs.size h₁.objs.size := by omega
  have o2 : @Ne Nat h₂.objs.size I := by omega
  have o3 : @LT.lt Nat _ cStatics (h₂.objs.size + 1) := by omega
  have o4 : @Ne Nat cStatics h₁.objs.size := by omega
  have o5 : @LT.lt Nat _ h₁.objs.size (h₂.objs.size + 1) := by omega
  have o6 : @LT.lt Nat _ I (h₂.objs.size + 1) := by omega
  refine h c' oc vs t ps' h₁.objs.size (h₂.objs.size + 1) h₂.objs.size _ (h₂.push go) _ (F₁.keeps k₃) (fun q hq => ⟨k₃ _ _ (N₁ q hq).1, (N₁ q hq).2⟩) d1 d2 TF₁ ne1 hC0 (Nat.ne_of_gt hLs) (fun q hq e => ?_) ?_ (Nat.lt_succ_self _) (by rw [Heap.size_push]; exact Nat.le_refl _) o5 o6 rfl
    fun A' hA' dA' uA' => ⟨⟨go, _, _, hg3, by rw [← hgo]; exact ⟨rfl, rfl, rfl⟩⟩, lim, ⟨Nat.lt_succ_self _, o1, o2, o3, o4, hcsI⟩, _, Array.getElem?_push_size .., fun s'' hal => ⟨rfl, ?_⟩⟩
  · have := Heap.lt_size (N₁ q hq).1
    rw [e] at this
    exact Nat.lt_irrefl _ this
  · intro q hq
    obtain ⟨own, rest, en, hgr, _, _⟩ := U.split
    rcases List.mem_cons.mp hq with rfl | hq
    · rcases hco' with z | z
      · exact hI3 _ z
      · exact fun e => absurd (Nat.lt_of_lt_of_le hI1 z) (e ▸ Nat.lt_irrefl _)
    · rw [hgr] at hq
      rcases List.mem_append.mp hq with hq | hq
      · exact hI3 q (en ▸ List.mem_append_left _ hq)
      · rcases List.mem_cons.mp hq with rfl | hq
        · exact hI3 (P, tabObj ps) (en ▸ List.mem_append_right _ (.head _))
        · exact hI3 q (en ▸ List.mem_append_right _ (.tail _ hq))
  · have hIC : @Ne Nat I h₁.objs.size := Nat.ne_of_lt hI4
    have hbd : ∀ b o, h₁.get? b = some o → b < h₂.objs.size + 1 ∧ b ≠ h₁.objs.size := fun b o e => by
      have := Heap.lt_size e
      exact ⟨Nat.lt_succ_of_lt (Nat.lt_of_lt_of_le this (show h₁.objs.size ≤ h₂.objs.size by omega)), Nat.ne_of_lt this⟩
    have hPI : P ≠ I := by
      obtain ⟨own, rest, en, _⟩ := U.split
      exact hI3 (P, tabObj ps) (en ▸ List.mem_append_right _ (.head _))
    have hst₁ : St 0 h₁ := (W A hh).frame _ _ _ hst fun b hb o e => kp b o (by rw [List.mem_singleton.mp hb]; exact hPI.symm) e
    refine segJ_start (cenv := genEnv scope clos h₁.objs.size (.ref c') builtinsNs (envX cn cs L a ccd cl)) (bd := h₂.objs.size + 1) (A := A'.in1) (fp := [I]) (h₀ := h₂.push go) hA' W (fun b hb => ?_) (by show @LT.lt Nat _ h₁.objs.size (h₂.objs.size + 1); omega) hx (by simp [genEnv, hkind]) hco hIC
      (fun A'' i v s₂ m₂ E' hA'' dA'' uA'' hi hv hn hm hk => ?_) s'' (fun y => if y = ".0" then some (.ref I) else none) ?_ ?_ ?_
    · rw [List.mem_singleton.mp hb]
      exact ⟨Nat.lt_succ_of_lt (Nat.lt_of_lt_of_le hI4 (show h₁.objs.size ≤ h₂.objs.size by omega)), hIC⟩
    · have hk' : ∀ b o, h₁.get? b = some o → b ≠ I → s₂.heap.get? b = some o := fun b o e hbI => hk b o (hbd b o e).1 (hbd b o e).2 hbI (k₃ b o e)
      refine helt A'' _ (.ref c') i v s₂ m₂ E' hA'' (Nat.le_trans dA'' (by show A'.depth + 1 ≤ _; omega)) (Nat.le_trans uA'' (by show A'.units + 1 + 4 ≤ _; omega)) hi hv ⟨hn, fun b o e => hk' b o (F₁.keep b o e) (fun z => by rw [z, hI0] at e; cases e), Nat.le_trans F₁.above (Nat.le_of_lt hLs)⟩ hm fun q hq hqP => ?_
      exact ⟨hk' _ _ (kp _ _ hqP (N q hq).1) (hI3 q hq), (hbd _ _ (kp _ _ hqP (N q hq).1)).2, (N q hq).2.2⟩
    · exact (W A hh).frame _ _ _ hst₁ fun b hb o e => hal b o (hbd b o e).1 (k₃ b o e)
    · exact (hn₂.push _).at' fun o e => hal _ o (by show @LT.lt Nat _ h₁.objs.size (h₂.objs.size + 1); omega) e
    · exact fun b o hb _ _ e => hal b o hb e
/-- where the source's iterator stands -/
structure IterAt (h₀ : Heap) (L : Addr) (m : Str → Option Value) (news : List (Addr × Obj)) (St : Addr → Heap → Prop) (s : Shared) (it : Value) (s₂ : Shared) : Prop where
  out : ∃ I h' tk, it = .ref I ∧ s₂ = { s with heap := h', toks := tk } ∧ Fr h₀ L h' m ∧ News h₀ L h' news ∧ h₀.get? I = none ∧ I < h'.objs.size ∧ I ≠ L ∧ (∀ q ∈ news, q.1 ≠ I) ∧ St I h'
theorem IterAt.push {h₀ : Heap} {L : Addr} {m : Str → Option Value} {news : List (Addr × Obj)} {St : Addr → Heap → Prop} {s : Shared} {h' : Heap} {tk : Nat} {o : Obj} (F : Fr h₀ L h' m) (N : News h₀ L h' news) (hst : St h'.objs.size (h'.push o)) :
    IterAt h₀ L m news St s (.ref h'.objs.size) { s with heap := h'.push o, toks := tk } :=
  ⟨h'.objs.size, _, tk, rfl, rfl, F.push _, fun q hq => ⟨Heap.get?_push_of_some _ (N q hq).1, (N q hq).2⟩, Heap.get?_none_of_le (Nat.le_trans F.above (Nat.le_of_lt F.ns.lt)), by rw [Heap.size_push]; exact Nat.lt_succ_self _,
    Nat.ne_of_gt F.ns.lt, fun q hq => Nat.ne_of_lt (Heap.lt_size (N q hq).1), hst⟩
/-- a generator expression is evaluated -/
theorem gen_eval {elt iter : Expr} {x : Str} {px : PySem.Pos} {n : Nat} {Pv : Nat → Value → Prop} {St : Addr → Nat → Heap → Prop} {Fv : Nat → Value → Prop} {Q : Value → Shared → Prop}
    (_F₀ : Fr h₀ L s.heap m) (_N₀ : News h₀ L s.heap news) (hiter : wpAny M A (eval iter (envX cn cs L a ccd cl)) (fun xv s₁ => wpAny M A (pyIter xv) (fun it s₂ => IterAt h₀ L m news (fun I h => St I 0 h) s it s₂) E s₁) E s)
    (T : Top p loose mean mg mb h₀) (C : CodeHd h₀ c P) (hcd : ccd = .ref c) (U : UpdF P (tabObj ps) news g)
    (TF : TabFacts pf cds) (hps : pf P = ps) (hP : (P, cn ++ ".<locals>." ++ "<genexpr>") ∈ tabQ) (sub : ∀ x ∈ led pf cds, x ∈ news) (hh : A.handled = none) (hroom : A.depth < recursionLimit)
    (W : ∀ I (A' : Around), A'.handled = none → Walks prog w A' I [I] [I] n Pv (St I))
    (hclos : closureFor scope (envX cn cs L a ccd cl) = pure clos) (hcell : ∀ y ∈ scope.names, y.2 ≠ .cell) (h0 : scope.names.lookup (".0" : Str) = some NameKind.local)
    (hx : scope.names.lookup x = some .local) (hkind : scope.kind = .function) (hco : scope.isCoroutine = false) (hs : ∀ x, genFold iter (envX cn cs L a ccd cl) x = pure x)
    (helt : ∀ (A' : Around) Cx code i v (s₂ : Shared) m₂ E', A'.handled = none → A'.depth ≤ A.depth + 6 → A'.units ≤ A.units + 30 → i < n → Pv i v → Fr h₀ Cx s₂.heap m₂ → m₂ x = some v → (∀ q ∈ news, q.1 ≠ P → s₂.heap.get? q.1 = some q.2 ∧ q.1 ≠ Cx ∧ h₀.get? q.1 = none) →
      wpJ (model prog w) A' (eval elt (genEnv scope clos Cx code builtinsNs (envX cn cs L a ccd cl))) (fun y s₃ => Fv i y ∧ ∃ h' tk, s₃ = { s₂ with heap := h', toks := tk } ∧ ∀ b o, s₂.heap.get? b = some o → h'.get? b = some o) E' s₂)
    (h : ∀ I c' oc vs t ps' Cx bd gen gs hp tk, Fr h₀ L hp m → News h₀ L hp ((c', oc) :: g (tabObj ps')) → oc.data = .fields vs → vs[1]? = some (.str (cn ++ ".<locals>." ++ "<genexpr>") t) → TabFacts (upd pf P ps') ((c', oc) :: cds) → @Ne Nat c' P →
      h₀.get? Cx = none → Cx ≠ L → h₀.get? I = none → I ≠ L → (∀ q ∈ (c', oc) :: g (tabObj ps'), q.1 ≠ Cx) → (∀ q ∈ (c', oc) :: g (tabObj ps'), q.1 ≠ I) → gen < bd → bd ≤ hp.objs.size → Cx < bd → I < bd → gs.bare = true →
      (∀ A' : Around, A'.handled = none → A'.depth ≤ A.depth + 5 → A'.units ≤ A.units + 20 → GenOn (model prog w) A' n Fv bd Cx I gen s.gens.size n { s with heap := hp, toks := tk, gens := s.gens.push gs }) →
      Q (.ref gen) { s with heap := hp, toks := tk, gens := s.gens.push gs }) :
    wpAny M A (eval (.GeneratorExp elt [⟨.Name x px, iter, [], 0⟩] scope pos) (envX cn cs L a ccd cl)) Q E s := by
  refine wpAny_GeneratorExp_make hco hclos hcell h0 hkind hroom (wpAny_mono hiter (fun xv s₁ h₁ => wpAny_mono h₁ (fun it s₂ h₂ => ?_) fun _ _ e => e) fun _ _ e => e) hs
  obtain ⟨I, h', tk, rfl, rfl, F, N, hI0, hI1, hI2, hI3, hst⟩ := h₂.out
  refine gen_inner (s := { s with heap := h', toks := tk }) F N T C hcd U TF hps hP sub hh hI0 hI1 hI2 hI3 hst (W I) hx hkind hco helt fun c' oc vs t ps' Cx bd gen gs hp tk' F3 N3 d1 d2 TF3 ne1 c0 c2 c3 i3 glt bdle cb ib hba G => ?_
  exact h I c' oc vs t ps' Cx bd gen gs hp tk' F3 N3 d1 d2 TF3 ne1 c0 c2 hI0 hI2 c3 i3 glt bdle cb ib hba G
end
end Mine
end
section
open PySem PySem.W PySem.Calls PyProof.Rows
set_option Elab.async false
set_option maxRecDepth 100000
namespace Mine
theorem handled_deeper {A : Around} {env : Env} (h : A.handled = none) : (A.deeper env).handled = none := h
section
variable {prog : Program} {w : World} {M : Model} {A : Around} {E : Value → Shared → Prop} {s : Shared}
theorem field_any {a : Int} {t : Tok} {Q : Value → Shared → Prop} (hd : a.natAbs < 2 ^ 1900) (h : ∀ y t' k, PySem.Str.length y ≤ 2000 → Q (.str y t') { s with toks := k }) : wpAny (model prog w) A (formatField (.int a t) Str.empty) Q E s := by
  have hl : a.natAbs.log2 < 1920 := by
    rcases Nat.eq_zero_or_pos a.natAbs with e | e
    · rw [e]; decide
    · exact (Nat.log2_lt (Nat.ne_of_gt e)).mpr (Nat.lt_of_lt_of_le hd (Nat.pow_le_pow_right (by decide) (by decide)))
  exact wpAny_formatField_int hl (h _ _ _ (Nat.le_trans (int_text_len_1921 hl) (by decide)))
theorem join_part {out y : Str} {n : Nat} {P : Str → Prop} (ho : PySem.Str.length out ≤ n) (hy : PySem.Str.length y ≤ 2000) (hn : n + 2000 ≤ 16777216) (h : ∀ out', PySem.Str.length out' ≤ n + 2000 → P out') : PySem.Str.length (out ++ y) ≤ sizeLine ∧ P (out ++ y) := by
  have e : PySem.Str.length (out ++ y) ≤ n + 2000 := by rw [strLen_append]; omega
  exact ⟨Nat.le_trans e (by rw [sizeLine_eq]; exact hn), h _ e⟩
theorem join_done {out : Str} {n : Nat} {Q : Value → Shared → Prop} (ho : PySem.Str.length out ≤ n) (hn : n ≤ 16777216) (h : ∀ t k, Q (.str out t) { s with toks := k }) : wpAny M A (joinParts out []) Q E s :=
  joinParts_nil (h _ _) (Nat.le_trans ho (by rw [sizeLine_eq]; exact hn))
theorem natAbs_lt {a : Int} (h0 : -(2 ^ 1000) ≤ a) (h1 : a ≤ 2 ^ 1000) : a.natAbs < 2 ^ 1900 := by
  have e : (2 : Nat) ^ 1000 < 2 ^ 1900 := Nat.pow_lt_pow_right (by decide) (by decide)
  have e2 : ((2 ^ 1000 : Nat) : Int) = 2 ^ 1000 := by rw [Int.natCast_pow]; rfl
  generalize (2 : Nat) ^ 1000 = P at e e2
  generalize (2 : Nat) ^ 1900 = Q at e ⊢
  rw [← e2] at h0 h1
  omega
end
end Mine
end
section
open PySem PySem.W PySem.Calls PyProof.Rows
set_option Elab.async false
set_option maxRecDepth 100000
namespace Mine
/-- an element of a comprehension was worked out: a whole number -/
structure IntEnd (h₀ : Heap) (L : Addr) (m : Str → Option Value) (s₁ : Shared) (news : List (Addr × Obj)) (k : Int) (y : Value) (s₂ : Shared) : Prop where
  it : ∃ h' tk t, s₂ = { s₁ with heap := h', toks := tk } ∧ y = .int k t ∧ Fr h₀ L h' m ∧ News h₀ L h' news
theorem IntEnd.mk' {h₀ h' : Heap} {L : Addr} {m : Str → Option Value} {s₁ : Shared} {news all : List (Addr × Obj)} {k k' : Int} {t : Tok} {tk : Nat} (F : Fr h₀ L h' m) (N : News h₀ L h' all) (e : k' = k) (sub : ∀ p ∈ news, p ∈ all) : IntEnd h₀ L m s₁ news k (.int k' t) { s₁ with heap := h', toks := tk } :=
  ⟨⟨h', tk, t, rfl, by rw [e], F, fun p hp => N p (sub p hp)⟩⟩
section
variable {prog : Program} {w : World} {A : Around} {s : Shared} {h₀ : Heap} {L : Addr} {m : Str → Option Value} {env : Env} {elt : Expr} {x : Str} {scope : Scope} {cl : List (Str × Addr)} {S : List (Addr × Obj) → Prop} {P : Nat → Value → Prop} {Fin : List Value → List (Addr × Obj) → Prop} {news : List (Addr × Obj)}
theorem comp_map (f : Nat → Int) (n : Nat) (hS : S news)
    (turn : ∀ i v I oI C oC D m₂ h tk (E' : Value → Shared → Prop) ys, i < n → P i v → LCg.NsObj oC m₂ → m₂ x = some v → Fr h₀ L h m → News h₀ L h ((I, oI) :: (C, oC) :: (D, LCg.lst ys) :: news) → LCg.Off3 I C D news → ((@Ne Nat I C) ∧ (@Ne Nat I D) ∧ (@Ne Nat C D)) →
      wpAny (model prog w) A (eval elt (compEnvC scope cl C env)) (IntEnd h₀ L m { s with heap := h, toks := tk } ((I, oI) :: (C, oC) :: (D, LCg.lst ys) :: news) (f i)) E' { s with heap := h, toks := tk })
    (fin : ∀ ys, IntsAre ys ((List.range n).map f) → Fin ys news) : LCg.CompRest prog w A h₀ L m env elt x scope cl s S P Fin n 0 [] news := by
  have go : ∀ k i ys, k + i = n → IntsAre ys ((List.range i).map f) → LCg.CompRest prog w A h₀ L m env elt x scope cl s S P Fin k i ys news := by
    intro k
    induction k with
    | zero =>
      intro i ys hi hy
      obtain rfl : i = n := by omega
      exact LCg.CompRest.zero (fin ys hy)
    | succ k ih =>
      intro i ys hi hy
      refine LCg.CompRest.succ fun v I oI C oC D m₂ h tk E' hP hC hx F N off ne => ?_
      refine wpAny_mono (turn i v I oI C oC D m₂ h tk E' ys (by omega) hP hC hx F N off ne) (fun y s₂ hy₂ => ?_) fun _ _ e => e
      obtain ⟨h', tk', t, rfl, rfl, F', N'⟩ := hy₂.it
      refine ⟨h', tk', news, rfl, F', N', off, hS, ih (i + 1) _ (by omega) ?_⟩
      rw [List.range_succ, List.map_append]
      exact hy.append (.cons _ _ .nil)
  exact go n 0 [] (by omega) .nil
end
end Mine
end
section
set_option Elab.async false
namespace Mine

/-! ## Plain arithmetic: digits -/
def dig (m base count : Nat) : List Nat := (List.range count).map fun i => m / base ^ (count - 1 - i) % base
def digB (m base count : Nat) : Array UInt8 := ((dig m base count).map fun d => d.toUInt8).toArray
theorem dig_length (m base count : Nat) : (dig m base count).length = count := by simp [dig]
theorem digB_size (m base count : Nat) : (digB m base count).size = count := by simp [digB, dig]

/-- the row while its last j bits stand -/
def part (N W j : Nat) : Array UInt8 := ((List.range W).map fun k => if W - j ≤ k then (N / 2 ^ (W - 1 - k) % 2).toUInt8 else 0).toArray
theorem part_size (N W j : Nat) : (part N W j).size = W := by simp [part]
theorem part_zero (N W : Nat) : part N W 0 = Array.replicate W 0 := by
  apply Array.ext
  · simp [part]
  · intro i h1 h2
    simp [part] at h1 ⊢
    omega
theorem part_step {N W j : Nat} (hj : j < W) : (part N W j).setIfInBounds (W - 1 - j) (N / 2 ^ j % 2).toUInt8 = part N W (j + 1) := by
  apply Array.ext
  · simp [part]
  · intro i h1 h2
    have hi : i < W := by simpa [part] using h2
    rw [Array.getElem_setIfInBounds (by simpa [part] using hi)]
    by_cases h : W - 1 - j = i
    · subst h
      rw [if_pos rfl]
      simp only [part, List.getElem_toArray, List.getElem_map, List.getElem_range]
      rw [if_pos (by omega)]
      have : W - 1 - (W - 1 - j) = j := by omega
      rw [this]
    · rw [if_neg h]
      simp only [part, List.getElem_toArray, List.getElem_map, List.getElem_range]
      by_cases h3 : W - j ≤ i
      · rw [if_pos h3, if_pos (by omega)]
      · rw [if_neg h3, if_neg (by omega)]
theorem part_done {N W j : Nat} (hj : j ≤ W) (h : N / 2 ^ j = 0 ∨ j = W) : part N W j = digB N 2 W := by
  apply Array.ext
  · simp [part, digB, dig]
  · intro i h1 h2
    have hi : i < W := by simpa [part] using h1
    simp only [part, digB, dig, List.getElem_toArray, List.getElem_map, List.getElem_range]
    by_cases h3 : W - j ≤ i
    · rw [if_pos h3]
    · rw [if_neg h3]
      rcases h with h | h
      · have e : N / 2 ^ (W - 1 - i) = 0 := by
          have hle : j ≤ W - 1 - i := by omega
          apply Nat.div_eq_of_lt
          have h4 : N < 2 ^ j := by
            rcases Nat.lt_or_ge N (2 ^ j) with h5 | h5
            · exact h5
            · have := Nat.div_pos h5 (Nat.two_pow_pos j); omega
          exact Nat.lt_of_lt_of_le h4 (Nat.pow_le_pow_right (by decide) hle)
        rw [e]; rfl
      · omega
theorem toUInt8_toNat {d : Nat} (h : d < 256) : d.toUInt8.toNat = d := by
  show (UInt8.ofNat d).toNat = d
  rw [UInt8.toNat_ofNat']
  omega
theorem digB_get {m base count i : Nat} {c : UInt8} (hb : base ≤ 256) (b0 : 0 < base) (h : (digB m base count)[i]? = some c) : i < count ∧ c.toNat = m / base ^ (count - 1 - i) % base := by
  simp only [digB, dig, List.map_map, List.getElem?_toArray, List.getElem?_map, Option.map_eq_some_iff] at h
  obtain ⟨a, ha, rfl⟩ := h
  have hi : i < count := by
    rcases Nat.lt_or_ge i count with h | h
    · exact h
    · rw [List.getElem?_eq_none (by simpa using h)] at ha; cases ha
  rw [List.getElem?_range hi] at ha
  cases ha
  exact ⟨hi, toUInt8_toNat (Nat.lt_of_lt_of_le (Nat.mod_lt _ b0) hb)⟩
/-- one digit more -/
theorem grow_digit {N W i base : Nat} (hi : i < W) : N / base ^ (W - i) * base + N / base ^ (W - 1 - i) % base = N / base ^ (W - (i + 1)) := by
  have e : W - i = (W - 1 - i) + 1 := by omega
  have e2 : W - (i + 1) = W - 1 - i := by omega
  rw [e, e2, Nat.pow_succ, ← Nat.div_div_eq_div_mul, Nat.mul_comm]
  exact Nat.div_add_mod _ _
/-- what a row of bits stands for, with or without a sign -/
def sval (sg : Bool) (N W : Nat) : Int := if sg = true ∧ N / 2 ^ (W - 1) % 2 = 1 then (N : Int) - 2 ^ W else N
end Mine
end
section
open PySem PySem.W PySem.Calls PyProof.Rows
set_option Elab.async false
namespace Mine
/-- a digit of a number, before and after it is brought into range -/
theorem digit_mod (x : Int) (B k i : Nat) (hB : 1 ≤ B) (hi : i < k) : (((x % (B : Int) ^ k).toNat / B ^ i % B : Nat) : Int) = x / (B : Int) ^ i % (B : Int) := by
  have hBk : (0 : Int) < (B : Int) ^ k := Int.pow_pos (by omega)
  have h0 : 0 ≤ x % (B : Int) ^ k := Int.emod_nonneg x (by omega)
  have e1 : (((x % (B : Int) ^ k).toNat : Nat) : Int) = x % (B : Int) ^ k := Int.toNat_of_nonneg h0
  rw [Int.natCast_emod, Int.natCast_ediv, e1, Int.natCast_pow]
  have hd : x = (B : Int) ^ k * (x / (B : Int) ^ k) + x % (B : Int) ^ k := (Int.mul_ediv_add_emod x _).symm
  have hk : (B : Int) ^ k = (B : Int) ^ i * ((B : Int) * (B : Int) ^ (k - i - 1)) := by
    rw [← Int.pow_succ', ← Int.pow_add]
    congr 1
    omega
  have hBi : (0 : Int) < (B : Int) ^ i := Int.pow_pos (by omega)
  generalize x % (B : Int) ^ k = r at hd ⊢
  generalize x / (B : Int) ^ k = q at hd
  subst hd
  rw [hk, Int.mul_assoc, Int.mul_assoc, Int.add_comm, Int.add_mul_ediv_left _ _ (by omega), Int.add_mul_emod_self_left]
/-- a byte of a number that fits -/
theorem small_digit {x : Int} {own i : Nat} (h0 : -(256 ^ own) ≤ x) (h1 : x < 256 ^ own) (hi : own ≤ i) : x / 256 ^ i % 256 = if x < 0 then 255 else 0 := by
  have e : ∀ k : Nat, ((256 ^ k : Nat) : Int) = 256 ^ k := fun k => by rw [Int.natCast_pow]; rfl
  have hp : (256 : Nat) ^ own ≤ 256 ^ i := Nat.pow_le_pow_right (by decide) hi
  rw [← e] at h0 h1 ⊢
  have hpi : 0 < 256 ^ i := Nat.pow_pos (by decide)
  generalize 256 ^ own = P at h0 h1 hp
  generalize 256 ^ i = R at hp hpi ⊢
  split
  · have : x / (R : Int) = -1 := by
      rw [Int.ediv_eq_iff_of_pos (by omega)]
      omega
    rw [this]
    rfl
  · have : x / (R : Int) = 0 := Int.ediv_eq_zero_of_lt (by omega) (by omega)
    rw [this]
    rfl
theorem low_eq (x : Int) (n : Nat) : KTBy.low x n = (List.range n).map fun i => (x / 256 ^ i % 256).toNat.toUInt8 := by
  unfold KTBy.low
  generalize ho : min n (PySem.Builtin.Int.intBits x / 8 + 1) = own
  have hle : own ≤ n := by omega
  refine List.ext_getElem (by simp; omega) fun i hi1 hi2 => ?_
  have hin : i < n := by simpa using hi2
  rw [List.getElem_map, List.getElem_range]
  by_cases hi : i < own
  · rw [List.getElem_append_left (by simpa using hi), List.getElem_map, List.getElem_range]
    have hd := digit_mod x 256 own i (by decide) hi
    have e2 : (2 : Nat) ^ 8 = 256 := by decide
    rw [Nat.shiftRight_eq_div_pow, Nat.pow_mul, e2]
    have hd2 : ((x % 256 ^ own).toNat / 256 ^ i % 256) = (x / 256 ^ i % 256).toNat := by
      have h3 : (x / ((256 : Nat) : Int) ^ i % ((256 : Nat) : Int)).toNat = (x % ((256 : Nat) : Int) ^ own).toNat / 256 ^ i % 256 := by rw [← hd]; rfl
      exact h3.symm
    rw [hd2]
  · rw [List.getElem_append_right (by simpa using Nat.le_of_not_lt hi), List.getElem_replicate]
    have hb : PySem.Builtin.Int.intBits x ≤ 8 * own := by omega
    have hn := intBits_le_iff.mp hb
    have e2 : (2 : Nat) ^ 8 = 256 := by decide
    rw [Nat.pow_mul, e2] at hn
    have e : ((256 ^ own : Nat) : Int) = 256 ^ own := by rw [Int.natCast_pow]; rfl
    rw [small_digit (own := own) (by rw [← e]; omega) (by rw [← e]; omega) (Nat.le_of_not_lt hi)]
    split <;> rfl
/-- what int.to_bytes makes is the digits -/
theorem low_dig (x : Int) (n : Nat) : (KTBy.low x n).reverse.toArray = digB (x % 256 ^ n).toNat 256 n := by
  unfold digB dig
  congr 1
  rw [low_eq]
  refine List.ext_getElem (by simp) fun i hi1 hi2 => ?_
  have hin : i < n := by simpa using hi1
  simp only [List.getElem_reverse, List.getElem_map, List.getElem_range, List.length_map, List.length_range]
  have hd := digit_mod x 256 n (n - 1 - i) (by decide) (by omega)
  have h3 : (x / ((256 : Nat) : Int) ^ (n - 1 - i) % ((256 : Nat) : Int)).toNat = (x % ((256 : Nat) : Int) ^ n).toNat / 256 ^ (n - 1 - i) % 256 := by rw [← hd]; rfl
  exact congrArg Nat.toUInt8 h3
end Mine
end
section
open PySem PySem.W PySem.Calls PyProof.Rows
set_option Elab.async false
set_option maxRecDepth 100000
namespace Mine
open PySem.Builtin.Int (intBits)
/-- a number that k octets hold -/
def inB (sg : Bool) (n : Int) (W : Nat) : Prop := if sg = true then -((256 ^ W : Int).fdiv 2) ≤ n ∧ n ≤ (256 ^ W : Int).fdiv 2 - 1 else 0 ≤ n ∧ n ≤ 256 ^ W - 1
def tooBig (sg : Bool) (x : Int) (W : Nat) : Bool := x != 0 && decide ((if sg = true then ((intBits (if x < 0 then -x - 1 else x) : Nat) : Int) + 1 else (intBits x : Int)) > 8 * (W : Int))
theorem half256 {W : Nat} (w1 : 1 ≤ W) : (256 : Int) ^ W = 2 * ((2 ^ (8 * W - 1) : Nat) : Int) ∧ (256 ^ W : Int).fdiv 2 = ((2 ^ (8 * W - 1) : Nat) : Int) ∧ (256 : Int) ^ W = ((2 ^ (8 * W) : Nat) : Int) := by
  have e : (256 : Int) ^ W = ((2 ^ (8 * W) : Nat) : Int) := by
    rw [Nat.pow_mul, Int.natCast_pow]
    rfl
  have e2 : 2 ^ (8 * W) = 2 * 2 ^ (8 * W - 1) := by
    rw [← Nat.pow_succ']
    congr 1
    omega
  refine ⟨by rw [e, e2]; push_cast; rfl, ?_, e⟩
  rw [Int.fdiv_eq_ediv_of_nonneg _ (by decide), e, e2]
  omega
theorem tooBig_of {sg : Bool} {x : Int} {W : Nat} (w1 : 1 ≤ W) : (x < 0 && !sg) = false → (tooBig sg x W = false ↔ inB sg x W) := by
  intro hneg
  obtain ⟨e1, e2, e3⟩ := half256 w1
  unfold tooBig inB
  cases sg
  · have hx : 0 ≤ x := by simpa using hneg
    simp only [Bool.false_eq_true, if_false]
    rw [e3]
    have hb : ((intBits x : Int) ≤ 8 * (W : Int)) ↔ x.natAbs < 2 ^ (8 * W) := by
      rw [← intBits_le_iff]
      omega
    constructor
    · intro h
      refine ⟨hx, ?_⟩
      rcases Int.lt_or_eq_of_le hx with h0 | h0
      · have h1 : ¬ ((intBits x : Int) > 8 * (W : Int)) := by
          intro h2
          have h3 : (x != 0) = true := by simpa using Int.ne_of_gt h0
          rw [h3, decide_eq_true h2] at h
          cases h
        have := hb.mp (by omega)
        omega
      · subst h0
        have := Nat.two_pow_pos (8 * W)
        omega
    · rintro ⟨_, h1⟩
      have : (intBits x : Int) ≤ 8 * (W : Int) := hb.mpr (by omega)
      rw [decide_eq_false (by omega), Bool.and_false]
  · simp only [if_true]
    rw [e2]
    generalize hy : (if x < 0 then -x - 1 else x) = y
    have hb : ((intBits y : Int) + 1 ≤ 8 * (W : Int)) ↔ y.natAbs < 2 ^ (8 * W - 1) := by
      rw [← intBits_le_iff]
      omega
    have hy0 : 0 ≤ y := by split at hy <;> omega
    constructor
    · intro h
      rcases Decidable.em (x = 0) with h0 | h0
      · subst h0
        have := Nat.two_pow_pos (8 * W - 1)
        omega
      · have h1 : ¬ ((intBits y : Int) + 1 > 8 * (W : Int)) := by
          intro h2
          have h3 : (x != 0) = true := by simpa using h0
          rw [h3, decide_eq_true h2] at h
          cases h
        have := hb.mp (by omega)
        split at hy <;> omega
    · rintro ⟨h1, h2⟩
      have : (intBits y : Int) + 1 ≤ 8 * (W : Int) := hb.mpr (by split at hy <;> omega)
      rw [decide_eq_false (by omega), Bool.and_false]
section
variable {prog : Program} {w : World} {A : Around} {E : Value → Shared → Prop} {s : Shared} {x : Int} {W : Nat} {sg : Bool} {t u v : Tok}
theorem to_args (a b c d : Value) : argsOk "int.to_bytes" ⟨[a, b, c], [(PySem.Str.ofString "signed", d)]⟩ := by unfold argsOk; kernel_rfl
theorem to_bytes_kw {Q : Value → Shared → Prop} (w1 : 1 ≤ W) (w2 : W ≤ 100000) (hh : A.handled = none) (ok : inB sg x W → ∀ t' k, Q (.bytes (digB (x % 256 ^ W).toNat 256 W) t') { s with toks := k })
    (no : ¬ inB sg x W → ∀ e h' k, Heap.NewExc s.heap h' e "OverflowError" → E (.ref e) { s with heap := h', toks := k }) :
    wpAny (model prog w) A (call (.builtin "int.to_bytes") [.int x t, .int (W : Int) u, .str (PySem.Str.ofString "big") v] [(PySem.Str.ofString "signed", .bool sg)]) Q E s := by
  refine wpAny_call_entry_kw KTBy.slot (typeIs_int s x t) KTBy.entry ?_ (to_args _ _ _ _)
  show wpAny _ _ (Builtin.Int.intOfSelf (.int x t) >>= fun y => _) _ _ s
  refine wpAny_bind (wpAny_of_eq (a := x) rfl ?_)
  refine wpAny_bind (wpAny_of_eq (a := [some (.int (W : Int) u), some (.str (PySem.Str.ofString "big") v), some (.bool sg)]) (by kernel_rfl) ?_)
  refine wpAny_bind (wpAny_of_eq (a := (W : Int)) rfl ?_)
  refine KTBy.if_not (by show (decide ((W : Int) < -(2 ^ 63 : Int)) || decide ((W : Int) ≥ 2 ^ 63)) = false; rw [decide_eq_false (show ¬ ((W : Int) < -(2 ^ 63 : Int)) by omega), decide_eq_false (show ¬ ((W : Int) ≥ 2 ^ 63) by omega)]; rfl) ?_
  refine wpAny_bind (wpAny_of_eq (a := PySem.Str.ofString "big") (by kernel_rfl) ?_)
  refine wpAny_bind (wpAny_of_eq (a := sg) rfl ?_)
  refine wpAny_bind (wpAny_of_eq (a := false) (by kernel_rfl) ?_)
  refine wpAny_ite_false (decide_eq_false (show ¬ ((W : Int) < 0) by omega)) ?_
  refine wpAny_ite_false (decide_eq_false (show ¬ ((W : Int) > 2 ^ 63 - 1 - 33) by omega)) ?_
  refine wpAny_ite_false (decide_eq_false (show ¬ ((W : Int) > (sizeLine : Int)) by rw [sizeLine_eq]; omega)) ?_
  cases hneg : (x < 0 && !sg) with
  | true =>
    have hno : ¬ inB sg x W := by
      have h1 := Bool.and_eq_true_iff.mp hneg
      have h2 : x < 0 := of_decide_eq_true h1.1
      have h3 : sg = false := by simpa using h1.2
      subst h3
      rintro ⟨h4, _⟩
      omega
    rw [if_pos rfl]
    refine wpAny_bind (wpAny_rule ?_)
    have hE := fun h' k e he => no hno e h' k he
    first | exact wpAny_bind (wpAny_raiseErrorWords plainExc_OverflowError hh hE) | exact wpAny_raiseErrorWords plainExc_OverflowError hh hE | exact wpAny_bind (wpAny_raiseErrorMade plainExc_OverflowError hh hE) | exact wpAny_raiseErrorMade plainExc_OverflowError hh hE
  | false =>
    refine KTBy.if_not rfl ?_
    have key := tooBig_of (sg := sg) (x := x) w1 hneg
    cases hbig : tooBig sg x W with
    | true =>
      have hno : ¬ inB sg x W := fun h => by
        rw [key.mpr h] at hbig
        cases hbig
      refine KFB.if_so hbig ?_
      refine wpAny_bind (wpAny_rule ?_)
      have hE := fun h' k e he => no hno e h' k he
      first | exact wpAny_bind (wpAny_raiseErrorWords plainExc_OverflowError hh hE) | exact wpAny_raiseErrorWords plainExc_OverflowError hh hE | exact wpAny_bind (wpAny_raiseErrorMade plainExc_OverflowError hh hE) | exact wpAny_raiseErrorMade plainExc_OverflowError hh hE
    | false =>
      refine KTBy.if_not hbig ?_
      refine wpAny_bind (wpAny_mkBytes (wpAny_pure ⟨_, rfl, ?_⟩) (by show (List.reverse (KTBy.low x (Int.toNat (W : Int)))).length ≤ sizeLine; rw [List.length_reverse, KTBy.low_length, Int.toNat_natCast, sizeLine_eq]; omega))
      have h := ok (key.mp hbig) s.toks (s.toks + 1)
      rw [← low_dig] at h
      exact h
end
end Mine
end
section
open PySem PySem.W PySem.Calls PyProof.Rows
set_option Elab.async false
set_option maxRecDepth 100000
namespace Mine

theorem range_size (count : Nat) : Builtin.Range.rangeSize 0 (count : Int) 1 = ((count : Nat) : Int) := by
  unfold Builtin.Range.rangeSize
  simp
  try omega
theorem range_small {count : Nat} (c2 : count ≤ 400) : Builtin.Range.small 0 (count : Int) 1 = true := PySem.small_one (by omega) (by omega) (by omega) (by omega)
theorem pow_ne {base e : Nat} (b1 : 2 ≤ base) : ((base : Int) ^ e) ≠ 0 := by
  have : (0 : Int) < (base : Int) ^ e := Int.pow_pos (by omega)
  omega
theorem pow_log {base e : Nat} (b2 : base ≤ 256) (he : e ≤ 400) : ((base : Int) ^ e).natAbs.log2 < 9000 := by
  rw [Int.natAbs_pow, Int.natAbs_natCast]
  have h1 : base ^ e ≤ 256 ^ e := Nat.pow_le_pow_left b2 e
  have h2 : 256 ^ e ≤ 256 ^ 400 := Nat.pow_le_pow_right (by decide) he
  have h3 : (256 : Nat) ^ 400 < 2 ^ 9000 := by
    have e2 : (2 : Nat) ^ 8 = 256 := by decide
    rw [← e2, ← Nat.pow_mul]
    exact Nat.pow_lt_pow_right (by decide) (by decide)
  by_cases hz : base ^ e = 0
  · rw [hz]
    decide
  · exact (Nat.log2_lt hz).mpr (Nat.lt_of_le_of_lt (Nat.le_trans h1 h2) h3)
theorem digit_val {m base count i : Nat} (hi : i < count) (b1 : 2 ≤ base) : ((m : Int).fdiv ((base : Int) ^ ((count : Int) - 1 - (0 + (i : Int))).toNat)).fmod (base : Int) = ((m / base ^ (count - 1 - i) % base : Nat) : Int) := by
  have e : ((count : Int) - 1 - (0 + (i : Int))).toNat = count - 1 - i := by omega
  rw [e, Int.fdiv_eq_ediv_of_nonneg _ (by exact Int.le_of_lt (Int.pow_pos (by omega))), Int.fmod_eq_emod_of_nonneg _ (by omega)]
  rw [Int.natCast_emod, Int.natCast_ediv, Int.natCast_pow]
set_option maxHeartbeats 4000000 in
theorem digitsF {w : World} {A : Around} {s : Shared} {mg mb : Str → Option Value} {p : Program} {loose : List Str} {mean : ExcName → Option Value} {R : Result → Shared → Prop} {base₀ : Heap} {outer : List Env}
    (hh : A.handled = none) (hdp : A.depth < recursionLimit) (hun : A.units + 20 < cLine) (XB : (hd.heap_39 w.params).In base₀) (TB : Top p loose mean mg mb base₀) (B : Below A base₀ outer s.heap) (D : KtsDicts (frs outer) s.heap)
    {m : Nat} {base count : Nat} {t1 t2 t3 : Tok} {args : Args} (hb : BindsToK (hd.heap_39 w.params) s 86 args [(Str.ofString "m", .int (m : Int) t1), (Str.ofString "base", .int (base : Int) t2), (Str.ofString "count", .int (count : Int) t3)]) (b1 : 2 ≤ base) (b2 : base ≤ 256) (c2 : count ≤ 400)
    (hR : ∀ h' tk D ys, (∀ b o, s.heap.get? b = some o → h'.get? b = some o) → h'.get? D = some (LCg.lst ys) → s.heap.get? D = none → IntsAre ys ((dig m base count).map fun (d : Nat) => (d : Int)) → R (.ok (.ret (.ref D))) { s with heap := h', toks := tk }) :
    codeAny (model PySem.Challenge.rw_dp5010_01.row.prog w) A (.call (.ref 86) args) R s := by
  refine' enterC (news := []) B D XB TB.nolimit Held.nil ?k6 ?k7 hdp ?k9 ?kB ?kD ?h ?c2 ?c3 ?c4
  case k6 => k_is
  case k7 => k_is
  case k9 => exact hb _ _ (by k_is) rfl
  case kB => exact kindsX rfl
  case kD => decide +kernel
  case c2 => exact rfl
  case c3 => exact rfl
  case c4 => exact rfl
  intro L h₁ tk₀ cells hL F N Y B₁ D₁
  k_cells Y
  have X := XB.keeps B₁.stays
  have T := TB.keeps B₁.stays
  (change wpAny _ _ _ _ _ _); k_fold
  k_steps
  rename Fr _ _ _ _ => F'
  rename News _ _ _ _ => N'
  refine LCg.CompSrc.range (n := count) hh F' N' (by assumption) (range_small c2) (range_size count) (by rw [sizeLine_eq]; omega) ?_
  intro g
  refine comp_map (fun i => ((m / base ^ (count - 1 - i) % base : Nat) : Int)) count trivial ?turn ?fin
  case turn =>
    clear F' N'
    rintro i v I oI C oC D m₂ h tk E' ys hi ⟨tv, rfl⟩ hC hx F2 N2 off ne
    k_steps
    refine floordiv_int (pow_ne b1) ?_ (.inl (PyProof.noPylong_of_log2 (pow_log b2 (by omega))))
    k_steps
    rename Fr _ _ _ _ => F3
    rename News _ _ _ _ => N3
    exact IntEnd.mk' F3 N3 (digit_val hi b1) (fun p hp => hp)
  case fin =>
    clear F' N'
    intro ys hy
    unfold LCg.FinE
    intro D h tk F2 N2 off
    k_steps
    have hD := N2 _ (.head _)
    exact hR _ _ D ys F2.keep hD.1 hD.2.2 (by unfold dig; rw [List.map_map]; exact hy)
end Mine
end
section
open PySem PySem.W PySem.Calls PyProof.Rows
set_option Elab.async false
set_option maxRecDepth 100000
namespace Mine
local macro_rules | `(tactic| walk_at "getMethod type:int") => `(tactic| (k_here; (refine' method_type (T := "int") (v := .builtin "int.to_bytes") ?F ?X ?ht ?hs ?e ?hh ?_); (case F => k_asm); (case X => k_asm); (case ht => first | rfl | kernel_rfl); (case hs => decide +kernel); (case e => k_is); (case hh => decide +kernel)))
local macro_rules | `(tactic| walk_at "call builtin:int.to_bytes") => `(tactic| (k_here; (rename inB _ _ _ => ibX); (refine to_bytes_kw (by omega) (by omega) (by assumption) ?_ (fun ibN => absurd ibX ibN)); (intro ibY t' k')))
set_option maxHeartbeats 4000000 in
theorem i2B {w : World} {A : Around} {s : Shared} {mg mb : Str → Option Value} {p : Program} {loose : List Str} {mean : ExcName → Option Value} {R : Result → Shared → Prop}
    (hh : A.handled = none) (hdp : A.depth < recursionLimit) (hun : A.units + 20 < cLine) (X : (hd.heap_39 w.params).In s.heap) (T : Top p loose mean mg mb s.heap)
    {n : Int} {W : Nat} {sg : Bool} {t1 t2 : Tok} {args : Args} (hb : BindsToK (hd.heap_39 w.params) s 30 args [(Str.ofString "number", .int n t1), (Str.ofString "width", .int (W : Int) t2), (Str.ofString "signed", .bool sg)]) (w1 : 1 ≤ W) (w2 : W ≤ 100) (hr : inB sg n W)
    (hR : ∀ h' tk t, (∀ b o, s.heap.get? b = some o → h'.get? b = some o) → R (.ok (.ret (.bytes (digB (n % 256 ^ W).toNat 256 W) t))) { s with heap := h', toks := tk }) :
    codeAny (model PySem.Challenge.rw_dp5010_01.row.prog w) A (.call (.ref 30) args) R s := by
  refine' enterA X T.nolimit ?k6 ?k7 hdp ?k9 ?kB ?c5 ?h ?c2 ?c3 ?c4
  case k6 => k_is
  case k7 => k_is
  case k9 => exact hb _ _ (by k_is) rfl
  case kB => exact locs rfl
  case c5 => decide
  case c2 => exact rfl
  case c3 => exact rfl
  case c4 => exact rfl
  intro L h₁ hL F N
  (change wpAny _ _ _ _ _ _); k_fold
  k_steps
  exact hR _ _ _ (Fr.keep (by assumption))
section
variable {w : World} {s : Shared} (X : (hd.heap_39 w.params).In s.heap) {a b c : Value}
include X
theorem i2B_binds3 : BindsToK (hd.heap_39 w.params) s 30 ⟨[a, b, c], []⟩ [(Str.ofString "number", a), (Str.ofString "width", b), (Str.ofString "signed", c)] := by
  refine' bindsK_of ?ho ?hb
  case ho => k_is
  case hb => first | exact BindsTo.of_eq rfl | exact binds_K X rfl (by k_is) rfl rfl rfl
theorem i2B_binds2 : BindsToK (hd.heap_39 w.params) s 30 ⟨[a, b], []⟩ [(Str.ofString "number", a), (Str.ofString "width", b), (Str.ofString "signed", .bool false)] := by
  refine' bindsK_of ?ho ?hb
  case ho => k_is
  case hb => first | exact BindsTo.of_eq rfl | exact binds_K X rfl (by k_is) rfl rfl rfl
end
end Mine
end
section
open PySem PySem.W PySem.Calls PyProof.Rows
set_option Elab.async false
set_option maxRecDepth 100000
namespace Mine
theorem fold_dig {N W : Nat} (hN : N < 256 ^ W) : ∀ i, i ≤ W → (((digB N 256 W).toList.take i).foldl (fun (acc : Nat) (b : UInt8) => acc * 256 + b.toNat) 0) = N / 256 ^ (W - i)
  | 0, _ => by rw [Nat.sub_zero, Nat.div_eq_of_lt hN]; rfl
  | i + 1, h => by
    have hi : i < W := by omega
    have hl : i < (digB N 256 W).toList.length := by rw [Array.length_toList, digB_size]; exact hi
    rw [List.take_add_one, List.foldl_append, fold_dig hN i (by omega)]
    have he : (digB N 256 W).toList[i]? = some ((N / 256 ^ (W - 1 - i) % 256).toUInt8) := by
      rw [Array.getElem?_toList]
      simp only [digB, dig, List.map_map, List.getElem?_toArray, List.getElem?_map]
      rw [List.getElem?_range hi]
      rfl
    rw [he]
    show N / 256 ^ (W - i) * 256 + (N / 256 ^ (W - 1 - i) % 256).toUInt8.toNat = _
    rw [toUInt8_toNat (Nat.mod_lt _ (by decide)), grow_digit hi]
theorem fold_all {N W : Nat} (hN : N < 256 ^ W) : ((digB N 256 W).toList.foldl (fun (acc : Nat) (b : UInt8) => acc * 256 + b.toNat) 0) = N := by
  have h := fold_dig hN W (Nat.le_refl _)
  rw [Nat.sub_self, Nat.pow_zero, Nat.div_one, List.take_of_length_le (by rw [Array.length_toList, digB_size]; exact Nat.le_refl _)] at h
  exact h
theorem head_dig {N W : Nat} (w1 : 1 ≤ W) (hN : N < 256 ^ W) : (digB N 256 W).toList.head?.any (· ≥ (128 : UInt8)) = decide (N / 256 ^ (W - 1) ≥ 128) := by
  have he : (digB N 256 W).toList.head? = some ((N / 256 ^ (W - 1) % 256).toUInt8) := by
    rw [List.head?_eq_getElem?, Array.getElem?_toList]
    simp only [digB, dig, List.map_map, List.getElem?_toArray, List.getElem?_map]
    rw [List.getElem?_range (by omega)]
    rfl
  have hlt : N / 256 ^ (W - 1) < 256 := by
    rw [Nat.div_lt_iff_lt_mul (Nat.pow_pos (by decide)), ← Nat.pow_succ']
    have : (W - 1).succ = W := by omega
    rw [this]
    exact hN
  rw [he, Nat.mod_eq_of_lt hlt, Option.any_some]
  have e : (((N / 256 ^ (W - 1)).toUInt8) ≥ (128 : UInt8)) ↔ N / 256 ^ (W - 1) ≥ 128 := by
    show (128 : UInt8) ≤ _ ↔ _
    rw [UInt8.le_iff_toNat_le, toUInt8_toNat hlt]
    exact Iff.rfl
  exact decide_eq_decide.mpr e
section
variable {prog : Program} {w : World} {M : Model} {A : Around} {E : Value → Shared → Prop} {s : Shared} {h₀ : Heap} {L : Addr} {m : PySem.Str → Option Value} {news : List (Addr × Obj)} {env : Env}
theorem callWith_boundK {pos : Pos} {u : Addr} {e : Expr} {rest : List Expr} {kws : List Keyword} {Q : Value → Shared → Prop}
    (h : wpAny M A (spliced (backTo pos (starEach (e :: rest) env))) (fun vs s₁ => wpAny M A (evalAll ((backToKw pos (keywordEach kws env)).map (·.2)))
      (fun kvs s₂ => KFB.StandsAt u s₂.heap ∧ wpAny M A (call (.ref u) vs (((backToKw pos (keywordEach kws env)).filterMap (·.1)).zip kvs)) Q E s₂) E s₁) E s)
    (he : backTo pos (starEach (e :: rest) env) = (false, eval e env) :: backTo pos (starEach rest env) := by rfl)
    (hplain : (backTo pos (starEach (e :: rest) env)).any (·.1) = false := by rfl)
    (hall : (backToKw pos (keywordEach kws env)).all (·.1.isSome) = true := by rfl)
    (hkw : (backToKw pos (keywordEach kws env)).any (·.1.isNone) = false := by rfl) :
    wpAny M A (callWith pos (.ref u) [] (backTo pos (starEach (e :: rest) env)) (backToKw pos (keywordEach kws env))) Q E s := by
  have h2 : wpAny M A (evalArgs (.ref u) true (backTo pos (starEach (e :: rest) env)) (backToKw pos (keywordEach kws env))) (fun a s₁ => KFB.StandsAt u s₁.heap ∧ wpAny M A (call (.ref u) ([] ++ a.pos) a.kw) Q E s₁) E s := by
    rw [he] at h ⊢
    exact evalArgs_kwB hall h
  unfold callWith
  refine wpAny_bind (wpAny_holding (wpAny_mono h2 (fun x s₁ h₁ => wpAny_bind (wpAny_standAt ?_)) fun _ _ x => x))
  obtain ⟨ho, hcall⟩ := h₁
  simp only [hplain, hkw, Bool.or_false]
  refine wpAny_bind (m := keeperOf (.ref u)) ?_
  unfold keeperOf
  refine wpAny_bind (wpAny_load ho ?_)
  simp only [KFB.bound, show (Value.type "builtin_function_or_method" != Value.type "method") = true by decide, show (Value.type "builtin_function_or_method" == Value.type "builtin_function_or_method" || Value.type "builtin_function_or_method" == Value.type "method-wrapper") = true by decide, if_true]
  refine wpAny_pure ?_
  exact wpAny_bind (wpAny_mono hcall (fun r s₂ hr => wpAny_bind (wpAny_holding (wpAny_point (wpAny_pure hr)))) fun _ _ x => x)
theorem grown_any {n : Int} {Q : Value → Shared → Prop} (hn : n.natAbs < 2 ^ 100000) (h : ∀ t k, Q (.int n t) { s with toks := k }) : wpAny M A (mkIntGrown n) Q E s := by
  unfold mkIntGrown
  have hl : ¬ (n.natAbs.log2 ≥ bitsLine) := by
    have hb : bitsLine = 134217728 := by first | rfl | decide
    by_cases hz : n.natAbs = 0
    · rw [hz, hb]
      decide
    · have h1 := (Nat.log2_lt hz).mpr hn
      omega
  rw [if_neg hl]
  exact wpAny_mkInt (h _ _)
theorem check_fbk {b : Array UInt8} {t u : Tok} {sg : Bool} : checkBoundCall "int.from_bytes" ⟨[.type "int", .bytes b t, .str (PySem.Str.ofString "big") u], [(PySem.Str.ofString "signed", .bool sg)]⟩ = pure () := by first | kernel_rfl | rfl
theorem from_bytes_kw {x : Addr} {N W : Nat} {sg : Bool} {t u : Tok} {Q : Value → Shared → Prop} (Nw : News h₀ L s.heap news) (hm : (x, KFB.bound) ∈ news) (w1 : 1 ≤ W) (w2 : W ≤ 1000) (hN : N < 256 ^ W)
    (h : ∀ t' k, Q (.int (if sg = true ∧ N / 256 ^ (W - 1) ≥ 128 then (N : Int) - 256 ^ W else N) t') { s with toks := k }) :
    wpAny (model prog w) A (call (.ref x) [.bytes (digB N 256 W) t, .str (PySem.Str.ofString "big") u] [(PySem.Str.ofString "signed", .bool sg)]) Q E s := by
  have ho := KFB.at_of Nw hm
  refine wpAny_call (codeAny_of_tree ?_)
  show wpAny _ A.in1 (callAny (.ref x) ⟨[.bytes (digB N 256 W) t, .str (PySem.Str.ofString "big") u], [(PySem.Str.ofString "signed", .bool sg)]⟩) _ _ s
  simp only [callAny]
  refine wpAny_bind (wpAny_load ho ?_)
  simp only [KFB.bound, show (Value.type "builtin_function_or_method" == Value.type "method" || Value.type "builtin_function_or_method" == Value.type "builtin_function_or_method" || Value.type "builtin_function_or_method" == Value.type "method-wrapper") = true by decide, if_true]
  refine KFB.if_so (by decide) ?_
  refine wpAny_bind (wpAny_of_eq (a := ()) check_fbk ?_)
  refine wpAny_bind (wpAny_pure (wpAny_pure ?_))
  refine ⟨KFB.quiet_fb, codeAny_builtin KFB.entry_fb ?_⟩
  unfold Builtin.«int.from_bytes»
  refine wpAny_bind (wpAny_of_eq (a := true) KFB.type_int ?_)
  refine KFB.if_not rfl ?_
  refine wpAny_bind (wpAny_of_eq (a := true) F.conv_sub_int ?_)
  refine KFB.if_not rfl ?_
  refine wpAny_bind (wpAny_of_eq (a := [some (.bytes (digB N 256 W) t), some (.str (PySem.Str.ofString "big") u), some (.bool sg)]) (by kernel_rfl) ?_)
  refine wpAny_bind (wpAny_of_eq (a := PySem.Str.ofString "big") (by kernel_rfl) ?_)
  refine wpAny_bind (wpAny_of_eq (a := sg) rfl ?_)
  refine wpAny_bind (wpAny_of_eq (a := false) (by kernel_rfl) ?_)
  refine wpAny_bind (wpAny_of_eq (a := digB N 256 W) rfl ?_)
  show wpAny _ _ (mkIntGrown (if (sg && (digB N 256 W).toList.head?.any (· ≥ (128 : UInt8))) = true then ((digB N 256 W).toList.foldl (fun (acc : Int) (b : UInt8) => acc * 256 + (b.toNat : Int)) ((0 : Nat) : Int)) - 256 ^ (digB N 256 W).toList.length else ((digB N 256 W).toList.foldl (fun (acc : Int) (b : UInt8) => acc * 256 + (b.toNat : Int)) ((0 : Nat) : Int))) >>= fun v => _) _ _ _
  rw [KFB.foldI_eq, fold_all hN, head_dig w1 hN, Array.length_toList, digB_size]
  have hv : (if (sg && decide (N / 256 ^ (W - 1) ≥ 128)) = true then (N : Int) - 256 ^ W else (N : Int)) = (if sg = true ∧ N / 256 ^ (W - 1) ≥ 128 then (N : Int) - 256 ^ W else N) := by
    simp only [Bool.and_eq_true, decide_eq_true_eq]
  rw [hv]
  refine wpAny_bind (grown_any ?_ fun t' k => ?_)
  · have e : ((256 ^ W : Nat) : Int) = 256 ^ W := by rw [Int.natCast_pow]; rfl
    have h3 : 256 ^ W < 2 ^ 100000 := by
      have e2 : (2 : Nat) ^ 8 = 256 := by decide
      rw [← e2, ← Nat.pow_mul]
      exact Nat.pow_lt_pow_right (by decide) (by omega)
    rw [← e]
    generalize 256 ^ W = P at *
    generalize (2 : Nat) ^ 100000 = P2 at *
    split <;> omega
  · refine KFB.if_so (by decide +kernel) ?_
    first | (refine wpAny_pure ?_; exact h _ _) | (refine wpAny_bind (wpAny_pure (wpAny_pure ?_)); exact h _ _)
end
end Mine
end
section
open PySem PySem.W PySem.Calls PyProof.Rows
set_option Elab.async false
set_option maxRecDepth 100000
namespace Mine

local macro_rules | `(tactic| walk_at "callWith ref") => `(tactic| (k_here; (with_reducible show wpAny _ _ (callWith _ (Value.ref _) _ _ (backToKw _ (keywordEach (_ :: _) _))) _ _ _); (refine callWith_boundK ?_)))
local macro_rules | `(tactic| walk_at "call ref") => `(tactic| (k_here; (rename (_ < 256 ^ _) => fbN); (rename News _ _ _ _ => fbW); (refine from_bytes_kw fbW (by k_mem) (by omega) (by omega) fbN ?_); intro t' k'))
local macro_rules | `(tactic| walk_at "And") => `(tactic| ((with_reducible show KFB.StandsAt _ _ ∧ _); (refine ⟨KFB.at_of (by k_asm) (by k_mem), ?_⟩); (try dsimp only [List.nil_append, List.cons_append])))
set_option maxHeartbeats 4000000 in
theorem B2i {w : World} {A : Around} {s : Shared} {mg mb : Str → Option Value} {p : Program} {loose : List Str} {mean : ExcName → Option Value} {R : Result → Shared → Prop}
    (hh : A.handled = none) (hdp : A.depth < recursionLimit) (hun : A.units + 20 < cLine) (X : (hd.heap_39 w.params).In s.heap) (T : Top p loose mean mg mb s.heap)
    {N W : Nat} {sg : Bool} {t1 : Tok} {args : Args} (hb : BindsToK (hd.heap_39 w.params) s 46 args [(Str.ofString "data", .bytes (digB N 256 W) t1), (Str.ofString "signed", .bool sg)]) (w1 : 1 ≤ W) (w2 : W ≤ 1000) (hN : N < 256 ^ W)
    (hR : ∀ h' tk t, (∀ b o, s.heap.get? b = some o → h'.get? b = some o) → R (.ok (.ret (.int (if sg = true ∧ N / 256 ^ (W - 1) ≥ 128 then (N : Int) - 256 ^ W else N) t))) { s with heap := h', toks := tk }) :
    codeAny (model PySem.Challenge.rw_dp5010_01.row.prog w) A (.call (.ref 46) args) R s := by
  refine' enterA X T.nolimit ?k6 ?k7 hdp ?k9 ?kB ?c5 ?h ?c2 ?c3 ?c4
  case k6 => k_is
  case k7 => k_is
  case k9 => exact hb _ _ (by k_is) rfl
  case kB => exact locs rfl
  case c5 => decide
  case c2 => exact rfl
  case c3 => exact rfl
  case c4 => exact rfl
  intro L h₁ hL F Nw
  have hne : ((digB N 256 W).toList == (#[] : Array UInt8).toList) = false := by
    have h := digB_size N 256 W
    cases hb : (digB N 256 W).toList with
    | nil =>
      rw [← Array.length_toList, hb] at h
      simp at h
      omega
    | cons a r => rfl
  (change wpAny _ _ _ _ _ _); k_fold
  k_steps
  exact hR _ _ _ (Fr.keep (by assumption))
section
variable {w : World} {s : Shared} (X : (hd.heap_39 w.params).In s.heap) {a b : Value}
include X
theorem B2i_binds2 : BindsToK (hd.heap_39 w.params) s 46 ⟨[a, b], []⟩ [(Str.ofString "data", a), (Str.ofString "signed", b)] := by
  refine' bindsK_of ?ho ?hb
  case ho => k_is
  case hb => first | exact BindsTo.of_eq rfl | exact binds_K X rfl (by k_is) rfl rfl rfl
theorem B2i_binds1 : BindsToK (hd.heap_39 w.params) s 46 ⟨[a], []⟩ [(Str.ofString "data", a), (Str.ofString "signed", .bool false)] := by
  refine' bindsK_of ?ho ?hb
  case ho => k_is
  case hb => first | exact BindsTo.of_eq rfl | exact binds_K X rfl (by k_is) rfl rfl rfl
end
end Mine
end
section
open PySem PySem.W PySem.Calls PyProof.Rows
set_option Elab.async false
set_option maxRecDepth 100000
namespace Mine

/-- a frame's map with one of its names set to the front -/
def put (x : String) (v : Value) (m : Str → Option Value) : Str → Option Value := fun y => if y = Str.ofString x then some v else m y
theorem put_self {x : String} {v : Value} {m : Str → Option Value} (h : m (Str.ofString x) = some v) : put x v m = m := funext fun y => by
  unfold put
  split
  · rename_i e; rw [e, h]
  · rfl
theorem fr_eq {h₀ h : Heap} {L : Addr} {m m2 : Str → Option Value} (F : Fr h₀ L h m) (e : m2 = m) : Fr h₀ L h m2 := e.symm ▸ F
/-- what stands behind the fourth statement -/
def MidBits (s : Shared) (L : Addr) (W : Nat) (N : Nat) (s' : Shared) : Prop :=
  ∃ (h' : Heap) (m' : Str → Option Value) (tk : Nat) (t t2 : Tok), s' = { s with heap := h', toks := tk } ∧ Fr s.heap L h' (fun y => if y = Str.ofString "number" then some (.int (N : Int) t) else if y = Str.ofString "width" then some (.int (W : Int) t2) else m' y)
theorem MidBits.mk {s : Shared} {L : Addr} {W N tk : Nat} {h' : Heap} {m' : Str → Option Value} {x : Int} {t t2 : Tok} (F' : Fr s.heap L h' m') (e : (N : Int) = x) (hn : m' (Str.ofString "number") = some (.int x t)) (hw : m' (Str.ofString "width") = some (.int (W : Int) t2)) :
    MidBits s L W N { s with heap := h', toks := tk } := ⟨h', m', tk, t, t2, rfl, by
  have e2 : put "number" (.int (N : Int) t) (put "width" (.int (W : Int) t2) m') = m' := by
    rw [put_self hw]
    exact put_self (e ▸ hn)
  exact fr_eq F' e2⟩
def inR (sg : Bool) (n : Int) (W : Nat) : Prop := if sg = true then -((2 ^ (W : Int).toNat : Int).fdiv 2) ≤ n ∧ n ≤ (2 ^ (W : Int).toNat : Int).fdiv 2 - 1 else 0 ≤ n ∧ n ≤ 2 ^ (W : Int).toNat - 1

theorem news_one {h₀ h h2 : Heap} {L S : Addr} {m : Str → Option Value} {o : Obj} (F : Fr h₀ L h m) (hS : h2.get? S = some o) (hge : S = h.objs.size) : News h₀ L h2 [(S, o)] := fun p hp => by
  rcases List.mem_cons.mp hp with rfl | hp
  · subst hge
    exact ⟨hS, Nat.ne_of_gt F.ns.lt, Heap.get?_none_of_le (Nat.le_trans F.above (Nat.le_of_lt F.ns.lt))⟩
  · cases hp

theorem ba_setItem_K {prog : Program} {w : World} {A : Around} {E : Value → Shared → Prop} {s : Shared} {h₀ : Heap} {L S : Addr} {m : Str → Option Value} {b : Array UInt8} {k v : Int} {tk tv : Tok} {Q : Unit → Shared → Prop}
    (F : Fr h₀ L s.heap m) (N : News h₀ L s.heap [(S, baObj b)]) (h0 : 0 ≤ k) (hk : k < b.size) (hz : b.size ≤ sizeLine) (v0 : 0 ≤ v) (v1 : v < 256)
    (h : ∀ h', Fr h₀ L h' m → News h₀ L h' [(S, baObj (b.setIfInBounds k.toNat v.toNat.toUInt8))] → Q () { s with heap := h' }) : wpAny (model prog w) A (setItem (.ref S) (.int k tk) (.int v tv)) Q E s := by
  obtain ⟨n1, n2, n3⟩ := N _ (.head _)
  refine ba_setItem n1 h0 hk hz v0 v1 fun h' k1 k2 k3 => h h' ⟨F.ns.at' fun o e => (k1 L (Ne.symm n2)).trans e, fun c o e => ?_, F.above⟩ fun p hp => ?_
  · refine (k1 c fun q => ?_).trans (F.keep c o e)
    rw [q, n3] at e; cases e
  · rcases List.mem_cons.mp hp with rfl | hp
    · exact ⟨k3, n2, n3⟩
    · cases hp
theorem ba_setBit {prog : Program} {w : World} {A : Around} {E : Value → Shared → Prop} {s : Shared} {h₀ : Heap} {L S : Addr} {m : Str → Option Value} {N W j : Nat} {tk tv : Tok} {Q : Unit → Shared → Prop}
    (F : Fr h₀ L s.heap m) (Nw : News h₀ L s.heap [(S, baObj (part N W j))]) (hj : 0 ≤ (W : Int) - 1 - (j : Int)) (hW : W ≤ 400)
    (h : ∀ h', Fr h₀ L h' m → News h₀ L h' [(S, baObj (part N W (j + 1)))] → Q () { s with heap := h' }) :
    wpAny (model prog w) A (setItem (.ref S) (.int ((W : Int) - 1 - (j : Int)) tk) (.int (Builtin.bitAnd ((N / 2 ^ j : Nat) : Int) 1) tv)) Q E s := by
  have hz : sizeLine = 16777216 := by decide
  have hb : Builtin.bitAnd ((N / 2 ^ j : Nat) : Int) 1 = ((N / 2 ^ j % 2 : Nat) : Int) := by rw [bitAnd_m1]; rfl
  have hm : N / 2 ^ j % 2 < 2 := Nat.mod_lt _ (by decide)
  rw [hb]
  refine ba_setItem_K F Nw hj (by rw [part_size]; omega) (by rw [part_size]; omega) (by omega) (by omega) fun h' F' N' => h h' F' ?_
  have e1 : ((W : Int) - 1 - (j : Int)).toNat = W - 1 - j := by omega
  rw [e1, Int.toNat_natCast, part_step (by omega)] at N'
  exact N'
/-- the state between two turns of the loop over the bits -/
def Turn (s : Shared) (L S : Addr) (W N : Nat) (k : Nat) (s' : Shared) : Prop :=
  ∃ (j : Nat) (h' : Heap) (m' : Str → Option Value) (tk : Nat) (t t2 : Tok), j ≤ W ∧ k = W - j ∧ s' = { s with heap := h', toks := tk } ∧ News s.heap L h' [(S, baObj (part N W j))] ∧
    Fr s.heap L h' (fun y => if y = Str.ofString "number" then some (.int ((N / 2 ^ j : Nat) : Int) t) else if y = Str.ofString "i" then some (.int ((W : Int) - 1 - (j : Int)) t2) else if y = Str.ofString "bits" then some (.ref S) else m' y)
theorem Turn.mk {s : Shared} {L S : Addr} {W N k tk : Nat} {h' : Heap} {m' : Str → Option Value} {x y : Int} {t t2 : Tok} (j : Nat) (hj : j ≤ W) (hk : k = W - j) (N' : News s.heap L h' [(S, baObj (part N W j))]) (F' : Fr s.heap L h' m')
    (e : ((N / 2 ^ j : Nat) : Int) = x) (e2 : (W : Int) - 1 - (j : Int) = y) (hn : m' (Str.ofString "number") = some (.int x t)) (hi : m' (Str.ofString "i") = some (.int y t2)) (hb : m' (Str.ofString "bits") = some (.ref S)) : Turn s L S W N k { s with heap := h', toks := tk } :=
  ⟨j, h', m', tk, t, t2, hj, hk, rfl, N', by
    subst e e2
    have e3 : put "number" (.int ((N / 2 ^ j : Nat) : Int) t) (put "i" (.int ((W : Int) - 1 - (j : Int)) t2) (put "bits" (.ref S) m')) = m' := by
      rw [put_self hb, put_self hi, put_self hn]
    exact fr_eq F' e3⟩

local macro_rules | `(tactic| walk_at "setItem") => `(tactic| (k_here; (rename Fr _ _ _ _ => bF); (rename News _ _ _ _ => bN); (refine ba_setBit bF bN (by omega) (by omega) ?_); intro h' F' N'))
theorem bytes_part_K {prog : Program} {w : World} {A : Around} {E : Value → Shared → Prop} {s : Shared} {h₀ : Heap} {L S : Addr} {n W j : Nat} {Q : Value → Shared → Prop}
    (N : News h₀ L s.heap [(S, baObj (part n W j))]) (hW : W ≤ 400) (h : ∀ t k, Q (.bytes (part n W j) t) { s with toks := k }) : wpAny (model prog w) A (call (.type "bytes") [.ref S]) Q E s :=
  bytes_of_ba (N _ (.head _)).1 (by rw [part_size]; have : sizeLine = 16777216 := by decide
                                    omega) h
theorem shift_one (x j : Nat) : ((x / 2 ^ (j + 1) : Nat) : Int) = ((x / 2 ^ j : Nat) : Int).fdiv (2 ^ Int.toNat 1) := by
  have e : ((2 : Int) ^ Int.toNat 1) = 2 := by decide
  rw [e, Int.fdiv_eq_ediv_of_nonneg _ (by decide), Nat.pow_succ, ← Nat.div_div_eq_div_mul]
  rfl
local macro_rules | `(tactic| walk_at "call type:bytes") => `(tactic| (k_here; (rename News _ _ _ _ => bN); (refine bytes_part_K bN (by omega) ?_); intro t' k'))
set_option maxHeartbeats 4000000 in
theorem i2b {w : World} {A : Around} {s : Shared} {mg mb : Str → Option Value} {p : Program} {loose : List Str} {mean : ExcName → Option Value} {R : Result → Shared → Prop}
    (hh : A.handled = none) (hdp : A.depth < recursionLimit) (hun : A.units + 20 < cLine) (X : (hd.heap_39 w.params).In s.heap) (T : Top p loose mean mg mb s.heap)
    {n : Int} {W : Nat} {sg : Bool} {t1 t2 : Tok} {args : Args} (hb : BindsToK (hd.heap_39 w.params) s 22 args [(Str.ofString "number", .int n t1), (Str.ofString "width", .int (W : Int) t2), (Str.ofString "signed", .bool sg)]) (w1 : 1 ≤ W) (w2 : W ≤ 400) (hr : inR sg n W)
    (hR : ∀ h' tk t, (∀ b o, s.heap.get? b = some o → h'.get? b = some o) → R (.ok (.ret (.bytes (digB (n % 2 ^ W).toNat 2 W) t))) { s with heap := h', toks := tk }) :
    codeJ (model PySem.Challenge.rw_dp5010_01.row.prog w) A (.call (.ref 22) args) R s := by
  refine' enterJ X T.nolimit ?k6 ?k7 hdp ?k9 ?kB ?c5 ?h ?c2 ?c3 ?c4
  case k6 => k_is
  case k7 => k_is
  case k9 => exact hb _ _ (by k_is) rfl
  case kB => exact locs rfl
  case c5 => decide
  case c2 => exact rfl
  case c3 => exact rfl
  case c4 => exact rfl
  intro L h₁ hL F N
  (try dsimp only)
  have hp2 : ((2 : Int) ^ (W : Int).toNat) = 2 ^ W := by rw [Int.toNat_natCast]
  have hpos : (0 : Int) < 2 ^ W := Int.pow_pos (by decide)
  have hNW : (n % 2 ^ W).toNat < 2 ^ W := by
    have h1 := Int.emod_nonneg n (show (2 : Int) ^ W ≠ 0 by omega)
    have h2 := Int.emod_lt_of_pos n hpos
    have h3 : ((2 ^ W : Nat) : Int) = 2 ^ W := by rw [Int.natCast_pow]; rfl
    omega
  refine J_app (l₁ := [_, _, _, _]) (MidBits s L W (n % 2 ^ W).toNat) ?_ ?_
  · cases sg
    · have h1 : 0 ≤ n := hr.1
      have h2 : n ≤ 2 ^ (W : Int).toNat - 1 := hr.2
      clear hr hR
      (change wpAny _ _ _ _ _ _); k_fold
      k_steps
      all_goals (
        rename Fr _ _ _ _ => F'
        have e : ((n % 2 ^ W).toNat : Int) = n := by
          rw [hp2] at h2
          rw [Int.emod_eq_of_lt h1 (by omega)]
          omega
        exact MidBits.mk F' e rfl rfl)
    · have h1 : -((2 ^ (W : Int).toNat : Int).fdiv 2) ≤ n := hr.1
      have h2 : n ≤ (2 ^ (W : Int).toNat : Int).fdiv 2 - 1 := hr.2
      clear hr hR
      have hf : (2 ^ (W : Int).toNat : Int).fdiv 2 = 2 ^ W / 2 := by rw [hp2, Int.fdiv_eq_ediv_of_nonneg _ (by decide)]
      rcases (show n < 0 ∨ 0 ≤ n by omega) with h3 | h3
      · (change wpAny _ _ _ _ _ _); k_fold
        k_steps
        all_goals (
          rename Fr _ _ _ _ => F'
          have e : ((n % 2 ^ W).toNat : Int) = n + 1 * 2 ^ (W : Int).toNat := by
            rw [hf] at h1
            rw [hp2, Int.one_mul, ← Int.add_emod_right, Int.emod_eq_of_lt (by omega) (by omega)]
            omega
          exact MidBits.mk F' e rfl rfl)
      · (change wpAny _ _ _ _ _ _); k_fold
        k_steps
        all_goals (
          rename Fr _ _ _ _ => F'
          have e : ((n % 2 ^ W).toNat : Int) = n := by
            rw [hf] at h2
            rw [Int.emod_eq_of_lt h3 (by omega)]
            omega
          exact MidBits.mk F' e rfl rfl)
  · clear hr hp2 N F
    generalize (n % 2 ^ W).toNat = N at hNW hR
    rintro s' ⟨h', m', tk, t, t2, rfl, F'⟩
    refine J_cons (J_Assign_Name (J_callType (T := "bytearray") ?_))
    have N' : News s.heap L h' [] := News.nil
    (change wpAny _ _ _ _ _ _); k_fold
    k_steps
    rename Fr _ _ _ _ => F2
    refine call_bytearray (n := W) (by have : sizeLine = 16777216 := by decide
                                       omega) fun h2 k2 hS => ?_
    have hW0 : Array.replicate W 0 = part N W 0 := (part_zero N W).symm
    rw [hW0] at hS
    have F3 := F2.keeps k2
    have N3 := news_one F2 hS rfl
    clear N' F2
    refine wpJ_of ?_
    (change wpAny _ _ _ _ _ _); k_fold
    k_steps
    refine J_step ?_
    (change wpAny _ _ _ _ _ _); k_fold
    k_steps
    rename Fr _ _ _ _ => F4
    rename News _ _ _ _ => N4
    have hT0 := fun tk => Turn.mk (tk := tk) (k := W) 0 (Nat.zero_le _) rfl N4 F4 (x := (N : Int)) (y := (W : Int) - 1) (by simp) (by omega) rfl rfl rfl
    clear N4 F4
    refine J_cons (wpJ_of (wpAny_While (codeAny_whileLoop (Turn s L _ W N) ?turn W (hT0 _))))
    rintro k s' ⟨j, h', m', tk, t, t2, hj, hk, rfl, N', F'⟩
    clear hT0
    (change wpAny _ _ _ _ _ _); k_fold
    k_steps
    rotate_left
    · rename Fr _ _ _ _ => F5
      rename News _ _ _ _ => N5
      refine' Turn.mk (j + 1) (by omega) rfl N5 F5 ?e ?e2 rfl rfl rfl
      case e => exact shift_one N j
      case e2 => omega
    · show wpJ _ _ _ _ _ _
      refine J_cons (J_Return (wpJ_of ?_))
      (change wpAny _ _ _ _ _ _); k_fold
      k_steps
      rw [part_done hj (.inr (by omega))]
      exact hR _ _ _ (Fr.keep (by assumption))
    · show wpJ _ _ _ _ _ _
      refine J_cons (J_Return (wpJ_of ?_))
      (change wpAny _ _ _ _ _ _); k_fold
      k_steps
      rw [part_done hj (.inl (by omega))]
      exact hR _ _ _ (Fr.keep (by assumption))
    · omega

section
variable {w : World} {s : Shared} (X : (hd.heap_39 w.params).In s.heap) {a b c : Value}
include X
theorem i2b_binds3 : BindsToK (hd.heap_39 w.params) s 22 ⟨[a, b, c], []⟩ [(Str.ofString "number", a), (Str.ofString "width", b), (Str.ofString "signed", c)] := by
  refine' bindsK_of ?ho ?hb
  case ho => k_is
  case hb => first | exact BindsTo.of_eq rfl | exact binds_K X rfl (by k_is) rfl rfl rfl
theorem i2b_binds2 : BindsToK (hd.heap_39 w.params) s 22 ⟨[a, b], []⟩ [(Str.ofString "number", a), (Str.ofString "width", b), (Str.ofString "signed", .bool false)] := by
  refine' bindsK_of ?ho ?hb
  case ho => k_is
  case hb => first | exact BindsTo.of_eq rfl | exact binds_K X rfl (by k_is) rfl rfl rfl
end
end Mine
end
section
open PySem PySem.W PySem.Calls PyProof.Rows
set_option Elab.async false
set_option maxRecDepth 100000
namespace Mine
theorem bitOr_bit (a y : Nat) (hy : y < 2) : Builtin.bitOr ((a : Int) * 2) (y : Int) = ((a * 2 + y : Nat) : Int) := by
  have key : ∀ u v : Nat, Builtin.bitOr (u : Int) (v : Int) = ((u ||| v : Nat) : Int) := by
    intro u v
    unfold Builtin.bitOr
    have h1 : decide ((0 : Int) ≤ Builtin.bitNot (u : Int)) = false := by unfold Builtin.bitNot; simp only [decide_eq_false_iff_not]; omega
    have h2 : decide ((0 : Int) ≤ Builtin.bitNot (v : Int)) = false := by unfold Builtin.bitNot; simp only [decide_eq_false_iff_not]; omega
    unfold Builtin.bitAnd
    rw [h1, h2]
    dsimp only
    have e1 : (Builtin.bitNot (Builtin.bitNot (u : Int))).toNat = u := by unfold Builtin.bitNot; omega
    have e2 : (Builtin.bitNot (Builtin.bitNot (v : Int))).toNat = v := by unfold Builtin.bitNot; omega
    rw [e1, e2]
    unfold Builtin.bitNot
    omega
  have e : ((a : Int) * 2) = ((a * 2 : Nat) : Int) := by push_cast; rfl
  rw [e, key]
  congr 1
  have h := Nat.shiftLeft_add_eq_or_of_lt (b := y) (i := 1) (by simpa using hy) a
  rw [Nat.shiftLeft_eq, Nat.pow_one] at h
  exact h.symm

section
variable {prog : Program} {w : World} {A : Around} {E : Value → Shared → Prop} {s : Shared} {env : Env} {h₀ : Heap} {x : Str} {body : List Stmt} {Q : Flow → Shared → Prop}
/-- a loop over a row of bytes that changes names of its frame alone -/
theorem loop_bytes {b : Array UInt8} {tb : Tok} {m₀ : Str → Option Value} (J : Nat → (Str → Option Value) → Prop) (hh : A.handled = none) (F : Fr h₀ env.locals s.heap m₀) (hj : J 0 m₀)
    (turn : ∀ i (c : UInt8) t m₁ h tk own, b[i]? = some c → J i m₁ → Fr h₀ env.locals h (fun y => if y = x then some (.int (c.toNat : Int) t) else m₁ y) → News h₀ env.locals h own →
      wpAny (model prog w) A (execs body env) (InvPostN h₀ env.locals (fun m _ => J (i + 1) m) own [] { s with heap := h, toks := tk } Q) E { s with heap := h, toks := tk })
    (done : ∀ m h tk, J b.size m → Fr h₀ env.locals h m → Q .next { s with heap := h, toks := tk }) :
    wpAny (model prog w) A (pyIter (.bytes b tb)) (fun it s₂ => LoopAtV prog w A h₀ env x body Q E it s₂) E s := by
  refine KBw.pyIter_bytes ?_
  have W := KBw.walks (prog := prog) (w := w) hh s.heap.objs.size b tb
  refine loop_invN (news := []) (fun i m _ => J i m) W ?_ ?_ ?_ ?_ ⟨_, Heap.get?_push_size _ rfl, rfl, rfl⟩ (F.push _) News.nil hj ?_ ?_
  · intro hm
    exact absurd F.ns.lt ((List.mem_singleton.mp hm) ▸ Nat.lt_irrefl _)
  · intro b' hb
    rw [List.mem_singleton.mp hb]
    exact Heap.get?_none_of_le (Nat.le_trans F.above (Nat.le_of_lt F.ns.lt))
  · intro p hp; cases hp
  · intro p hp; cases hp
  · rintro i v m₁ nx h tk own _ ⟨c, u, hc, rfl⟩ he _ hJ F₁ N₁
    have hn : nx = [] := List.map_eq_nil_iff.mp he
    subst hn
    exact turn i c u m₁ h tk own hc hJ F₁ N₁
  · rintro m₁ nx h tk hJ F₁ _
    exact done m₁ h tk hJ F₁
/-- the end of a turn that changed names of its frame alone -/
theorem turn_end {m' : Str → Option Value} {h h' : Heap} {tk tk' : Nat} {own : List (Addr × Obj)} {J : (Str → Option Value) → Prop} (F' : Fr h₀ env.locals h' m') (N' : News h₀ env.locals h' own) (hJ : J m') :
    InvEndN h₀ env.locals (fun m _ => J m) own [] { s with heap := h, toks := tk } { s with heap := h', toks := tk' } :=
  InvEndN.intro (nx := []) F' N' hJ rfl (fun _ hp => nomatch hp) (fun _ hp => hp)
end
end Mine
end
section
open PySem PySem.W PySem.Calls PyProof.Rows
set_option Elab.async false
set_option maxRecDepth 100000
namespace Mine

theorem digB_ne {N W : Nat} (w1 : 1 ≤ W) : ((digB N 2 W).toList == (#[] : Array UInt8).toList) = false := by
  have h := digB_size N 2 W
  cases hb : (digB N 2 W).toList with
  | nil =>
    rw [← Array.length_toList, hb] at h
    simp at h
    omega
  | cons a r => rfl
theorem bits_half {N W k : Nat} (hN : N < 2 ^ W) (w2 : W ≤ 100000) : (Builtin.Int.intBits ((N / 2 ^ k : Nat) : Int) : Int) + 1 ≤ 2 ^ 27 := by
  have h : Builtin.Int.intBits ((N / 2 ^ k : Nat) : Int) ≤ W := intBits_le_iff.mpr (by
    rw [Int.natAbs_natCast]
    exact Nat.lt_of_le_of_lt (Nat.div_le_self _ _) hN)
  omega
theorem bit_turn {N W i k : Nat} (hi : i < W) (hk : k = N / 2 ^ (W - 1 - i) % 2) : Builtin.bitOr (((N / 2 ^ (W - i) : Nat) : Int) * 2 ^ Int.toNat 1) (k : Int) = ((N / 2 ^ (W - (i + 1)) : Nat) : Int) := by
  have e : ((2 : Int) ^ Int.toNat 1) = 2 := by decide
  rw [e, bitOr_bit _ _ (by rw [hk]; exact Nat.mod_lt _ (by decide)), hk, grow_digit hi]
theorem bits_ints (N : Nat) {W : Nat} (w1 : 1 ≤ W) : ∃ ks, KBw.bInts (digB N 2 W) = ks ∧ ks.length = W ∧ ks.getD 0 0 = ((N / 2 ^ (W - 1) % 2 : Nat) : Int) := by
  refine ⟨_, rfl, by rw [KBw.ints_length, digB_size], ?_⟩
  have hd : (digB N 2 W)[0]? = some ((N / 2 ^ (W - 1) % 2).toUInt8) := by
    simp only [digB, dig, List.map_map, List.getElem?_toArray, List.getElem?_map]
    rw [List.getElem?_range (by omega)]
    rfl
  have h2 : (KBw.bInts (digB N 2 W))[0]? = some ((N / 2 ^ (W - 1) % 2 : Nat) : Int) := by
    unfold KBw.bInts
    rw [List.getElem?_map, Array.getElem?_toList, hd]
    have e : (N / 2 ^ (W - 1) % 2).toUInt8.toNat = N / 2 ^ (W - 1) % 2 := toUInt8_toNat (by omega)
    show some (((N / 2 ^ (W - 1) % 2).toUInt8.toNat : Nat) : Int) = _
    rw [e]
  rw [List.getD_eq_getElem?_getD, h2]
  rfl
/-- the frame of the loop over the bits -/
def JB (N W : Nat) (sg : Bool) (t1 : Tok) (i : Nat) (m : Str → Option Value) : Prop :=
  (∃ t, m (Str.ofString "number") = some (.int ((N / 2 ^ (W - i) : Nat) : Int) t)) ∧ m (Str.ofString "data") = some (.bytes (digB N 2 W) t1) ∧ m (Str.ofString "signed") = some (.bool sg)
theorem JB.fr {N W i : Nat} {sg : Bool} {t1 : Tok} {h₀ h : Heap} {L : Addr} {m : Str → Option Value} (J : JB N W sg t1 i m) (F : Fr h₀ L h m) : ∃ t, Fr h₀ L h (fun y => if y = Str.ofString "number" then some (.int ((N / 2 ^ (W - i) : Nat) : Int) t) else if y = Str.ofString "data" then some (.bytes (digB N 2 W) t1) else if y = Str.ofString "signed" then some (.bool sg) else m y) := by
  obtain ⟨⟨t, h1⟩, h2, h3⟩ := J
  refine ⟨t, fr_eq F ?_⟩
  show put "number" _ (put "data" _ (put "signed" _ m)) = m
  rw [put_self h3, put_self h2, put_self h1]
theorem JB.fr2 {N W i : Nat} {sg : Bool} {t1 : Tok} {h₀ h : Heap} {L : Addr} {x : Str} {v : Value} {m : Str → Option Value} (J : JB N W sg t1 i m) (F : Fr h₀ L h (fun y => if y = x then some v else m y)) : ∃ t, Fr h₀ L h (fun y => if y = x then some v else if y = Str.ofString "number" then some (.int ((N / 2 ^ (W - i) : Nat) : Int) t) else if y = Str.ofString "data" then some (.bytes (digB N 2 W) t1) else if y = Str.ofString "signed" then some (.bool sg) else m y) := by
  obtain ⟨⟨t, h1⟩, h2, h3⟩ := J
  refine ⟨t, fr_eq F ?_⟩
  have e : put "number" (.int ((N / 2 ^ (W - i) : Nat) : Int) t) (put "data" (.bytes (digB N 2 W) t1) (put "signed" (.bool sg) m)) = m := by rw [put_self h3, put_self h2, put_self h1]
  show (fun y => if y = x then some v else put "number" (.int ((N / 2 ^ (W - i) : Nat) : Int) t) (put "data" (.bytes (digB N 2 W) t1) (put "signed" (.bool sg) m)) y) = _
  rw [e]
set_option maxHeartbeats 4000000 in
theorem b2i {w : World} {A : Around} {s : Shared} {mg mb : Str → Option Value} {p : Program} {loose : List Str} {mean : ExcName → Option Value} {R : Result → Shared → Prop}
    (hh : A.handled = none) (hdp : A.depth < recursionLimit) (hun : A.units + 20 < cLine) (X : (hd.heap_39 w.params).In s.heap) (T : Top p loose mean mg mb s.heap)
    {N W : Nat} {sg : Bool} {t1 : Tok} {args : Args} (hb : BindsToK (hd.heap_39 w.params) s 38 args [(Str.ofString "data", .bytes (digB N 2 W) t1), (Str.ofString "signed", .bool sg)]) (w1 : 1 ≤ W) (w2 : W ≤ 100000) (hN : N < 2 ^ W)
    (hR : ∀ h' tk t, (∀ b o, s.heap.get? b = some o → h'.get? b = some o) → R (.ok (.ret (.int (sval sg N W) t))) { s with heap := h', toks := tk }) :
    codeAny (model PySem.Challenge.rw_dp5010_01.row.prog w) A (.call (.ref 38) args) R s := by
  refine' enterA X T.nolimit ?k6 ?k7 hdp ?k9 ?kB ?c5 ?h ?c2 ?c3 ?c4
  case k6 => k_is
  case k7 => k_is
  case k9 => exact hb _ _ (by k_is) rfl
  case kB => exact locs rfl
  case c5 => decide
  case c2 => exact rfl
  case c3 => exact rfl
  case c4 => exact rfl
  intro L h₁ hL F Nw
  have hne := digB_ne (N := N) w1
  have hsz := digB_size N 2 W
  (change wpAny _ _ _ _ _ _); k_fold
  k_steps
  · rename Fr _ _ _ _ => F'
    refine loop_bytes (JB N W sg t1) hh F' ?j ?turn ?done
    case j => exact ⟨⟨_, by rw [Nat.sub_zero, Nat.div_eq_of_lt hN]; rfl⟩, rfl, rfl⟩
    case turn =>
      (try clear Nw); (try clear F); clear F'
      intro i c t m₁ h tk own hc hJ F1 N1
      obtain ⟨t', F2⟩ := hJ.fr2 F1
      clear F1 hJ
      have hc2 := digB_get (by decide) (by decide) hc
      (change wpAny _ _ _ _ _ _); k_fold
      k_steps
      refine lshift_int (by decide) (bits_half hN w2) ?_
      k_steps
      rename Fr _ _ _ _ => F3
      rename News _ _ _ _ => N3
      exact turn_end F3 N3 ⟨⟨_, by rw [← bit_turn hc2.1 hc2.2]; rfl⟩, rfl, rfl⟩
    case done =>
      (try clear Nw); (try clear F); clear F'
      intro m h tk hJ F1
      obtain ⟨t', F2⟩ := hJ.fr F1
      clear F1 hJ
      rw [digB_size, Nat.sub_self, Nat.pow_zero, Nat.div_one] at F2
      show wpAny _ _ _ _ _ _
      have N1 : News s.heap L h [] := News.nil
      cases sg
      · (change wpAny _ _ _ _ _ _); (try k_fold)
        k_steps
        have e : sval false N W = N := by simp [sval]
        rw [e] at hR
        exact hR _ _ _ (Fr.keep (by assumption))
      · obtain ⟨ks, hk, hkl, hk0⟩ := bits_ints N w1
        (change wpAny _ _ _ _ _ _); (try k_fold)
        k_steps
        · rename (_ : Int) ≠ 0 => a
          have a2 : N / 2 ^ (W - 1) % 2 = 1 := by
            have a3 : ks.getD 0 0 ≠ 0 := a
            omega
          have e : sval true N W = (N : Int) - 1 * 2 ^ ((ks.length : Nat) : Int).toNat := by
            rw [sval, if_pos ⟨rfl, a2⟩, Int.toNat_natCast, hkl, Int.one_mul]
          rw [e] at hR
          exact hR _ _ _ (Fr.keep (by assumption))
        · have e : sval true N W = N := by
            rw [sval, if_neg]
            rintro ⟨_, q⟩
            have a3 : ks.getD 0 0 = 0 := by assumption
            omega
          rw [e] at hR
          exact hR _ _ _ (Fr.keep (by assumption))
section
variable {w : World} {s : Shared} (X : (hd.heap_39 w.params).In s.heap) {a b : Value}
include X
theorem b2i_binds2 : BindsToK (hd.heap_39 w.params) s 38 ⟨[a, b], []⟩ [(Str.ofString "data", a), (Str.ofString "signed", b)] := by
  refine' bindsK_of ?ho ?hb
  case ho => k_is
  case hb => first | exact BindsTo.of_eq rfl | exact binds_K X rfl (by k_is) rfl rfl rfl
theorem b2i_binds1 : BindsToK (hd.heap_39 w.params) s 38 ⟨[a], []⟩ [(Str.ofString "data", a), (Str.ofString "signed", .bool false)] := by
  refine' bindsK_of ?ho ?hb
  case ho => k_is
  case hb => first | exact BindsTo.of_eq rfl | exact binds_K X rfl (by k_is) rfl rfl rfl
end
end Mine
end
section
open PySem PySem.W PySem.Calls PyProof.Rows
set_option Elab.async false
set_option maxRecDepth 100000
namespace Mine
section
variable {w : World} {s : Shared} (X : (hd.heap_39 w.params).In s.heap) {a b c : Value}
include X
theorem digits_binds : BindsToK (hd.heap_39 w.params) s 86 ⟨[a, b, c], []⟩ [(Str.ofString "m", a), (Str.ofString "base", b), (Str.ofString "count", c)] := by
  refine' bindsK_of ?ho ?hb
  case ho => k_is
  case hb => first | exact BindsTo.of_eq rfl | exact binds_K X rfl (by k_is) rfl rfl rfl
theorem refused_binds : BindsToK (hd.heap_39 w.params) s 93 ⟨[a], []⟩ [(Str.ofString "deed", a)] := by
  refine' bindsK_of ?ho ?hb
  case ho => k_is
  case hb => first | exact BindsTo.of_eq rfl | exact binds_K X rfl (by k_is) rfl rfl rfl
end
theorem newsKeep {g h h' : Heap} {L : Addr} {news : List (Addr × Obj)} (N : News g L h news) (k : ∀ b o, h.get? b = some o → h'.get? b = some o) : News g L h' news := fun p hp => ⟨k _ _ (N p hp).1, (N p hp).2⟩
theorem newsAdd {g h h' : Heap} {L D : Addr} {o : Obj} {m : Str → Option Value} {news : List (Addr × Obj)} (F : Fr g L h m) (N : News g L h news) (k : ∀ b o, h.get? b = some o → h'.get? b = some o) (hD : h'.get? D = some o) (hn : h.get? D = none) : News g L h' ((D, o) :: news) := fun p hp => by
  rcases List.mem_cons.mp hp with rfl | hp
  · refine ⟨hD, fun q => ?_, kts_none F.keep hn⟩
    obtain ⟨oL, _, _, hL, _⟩ := F.ns
    simp only at q
    rw [← q, hn] at hL
    cases hL
  · exact newsKeep N k p hp
def AllNe (d : Nat) : List (Addr × Obj) → Prop
  | [] => True
  | p :: r => @Ne Nat p.1 d ∧ AllNe d r
theorem allNe_of {d : Addr} : ∀ {l : List (Addr × Obj)}, (∀ p ∈ l, p.1 ≠ d) → AllNe d l
  | [], _ => trivial
  | p :: _, h => ⟨h p (.head _), allNe_of fun q hq => h q (.tail _ hq)⟩
theorem newsNe {g h : Heap} {L D : Addr} {news : List (Addr × Obj)} (N : News g L h news) (hn : h.get? D = none) : AllNe D news := allNe_of fun q hq e => by
  have := (N q hq).1
  rw [e, hn] at this
  cases this
theorem ne_of_allLt {d c : Nat} : ∀ {l : List (Addr × Obj)}, AllLt d l → d ≤ c → ∀ p ∈ l, p.1 ≠ c
  | [], _, _, _, hp => nomatch hp
  | q :: r, h, hc, p, hp => by
    rcases List.mem_cons.mp hp with rfl | hp
    · exact Nat.ne_of_lt (Nat.lt_of_lt_of_le h.1 hc)
    · exact ne_of_allLt h.2 hc p hp
section
variable {w : World} {A : Around} {E : Value → Shared → Prop} {s : Shared} {mg mb : Str → Option Value} {p : Program} {loose : List Str} {mean : ExcName → Option Value} {base g : Heap} {outer : List Env} {L : Addr} {m₀ : Str → Option Value} {env : Env} {news : List (Addr × Obj)} {Q : Value → Shared → Prop}
theorem digitsC (hh : A.handled = none) (hdp : A.depth + 1 < recursionLimit) (hun : A.units + 30 < cLine) (XB : (hd.heap_39 w.params).In base) (TB : Top p loose mean mg mb base) (B : Below A base outer g) (D : KtsDicts (frs outer) g) (F : Fr g L s.heap m₀) (N : News g L s.heap news)
    (hf : env.frame = some L) (hke : env.scope.kind = .function) {m b count : Nat} {t1 t2 t3 : Tok} (b1 : 2 ≤ b) (b2 : b ≤ 256) (c2 : count ≤ 400)
    (h : ∀ d h' tk ys, Fr g L h' m₀ → News g L h' ((d, LCg.lst ys) :: news) → IntsAre ys ((dig m b count).map fun (d : Nat) => (d : Int)) → AllNe d news → Q (.ref d) { s with heap := h', toks := tk }) :
    wpAny (model PySem.Challenge.rw_dp5010_01.row.prog w) (A.deeper env) (call (.ref 86) [.int (m : Int) t1, .int (b : Int) t2, .int (count : Int) t3]) Q E s := by
  have B' := pushX B F hf hke
  have X := XB.keeps B'.stays
  refine wpAny_call (digitsF (A := A.deeper env) hh hdp (by rw [Around.deeper_units]; omega) XB TB B' (dicts_push D F hf) (digits_binds X) b1 b2 c2 fun h' tk d ys k hd hn hi => ?_)
  exact h d h' tk ys (F.keeps k) (newsAdd F N k hd hn) hi (newsNe N hn)
theorem digitsV (hh : A.handled = none) (hdp : A.depth + 1 < recursionLimit) (hun : A.units + 30 < cLine) (XB : (hd.heap_39 w.params).In base) (TB : Top p loose mean mg mb base) (B : Below A base outer g) (D : KtsDicts (frs outer) g) (F : Fr g L s.heap m₀) (N : News g L s.heap news)
    (hf : env.frame = some L) (hke : env.scope.kind = .function) {m b count : Nat} {mi bi ci : Int} {t1 t2 t3 : Tok} (em : mi = (m : Int)) (eb : bi = (b : Int)) (ec : ci = (count : Int)) (b1 : 2 ≤ b) (b2 : b ≤ 256) (c2 : count ≤ 400)
    (h : ∀ d h' tk ys, Fr g L h' m₀ → News g L h' ((d, LCg.lst ys) :: news) → IntsAre ys ((dig m b count).map fun (d : Nat) => (d : Int)) → AllNe d news → Q (.ref d) { s with heap := h', toks := tk }) :
    wpAny (model PySem.Challenge.rw_dp5010_01.row.prog w) (A.deeper env) (call (.ref 86) [.int mi t1, .int bi t2, .int ci t3]) Q E s := by
  subst em eb ec
  exact digitsC hh hdp hun XB TB B D F N hf hke b1 b2 c2 h
theorem i2BC3 (hh : A.handled = none) (hdp : A.depth + 1 < recursionLimit) (hun : A.units + 30 < cLine) (XB : (hd.heap_39 w.params).In base) (TB : Top p loose mean mg mb base) (B : Below A base outer g) (F : Fr g L s.heap m₀) (N : News g L s.heap news)
    (hf : env.frame = some L) (hke : env.scope.kind = .function) {n : Int} {W : Nat} {sg : Bool} {t1 t2 : Tok} (w1 : 1 ≤ W) (w2 : W ≤ 100) (hr : inB sg n W)
    (h : ∀ h' tk t, Fr g L h' m₀ → News g L h' news → Q (.bytes (digB (n % 256 ^ W).toNat 256 W) t) { s with heap := h', toks := tk }) :
    wpAny (model PySem.Challenge.rw_dp5010_01.row.prog w) (A.deeper env) (call (.ref 30) [.int n t1, .int (W : Int) t2, .bool sg]) Q E s := by
  have B' := pushX B F hf hke
  have X := XB.keeps B'.stays
  refine wpAny_call (i2B (A := A.deeper env) hh hdp (by rw [Around.deeper_units]; omega) X (TB.keeps B'.stays) (i2B_binds3 X) w1 w2 hr fun h' tk t k => ?_)
  exact h h' tk t (F.keeps k) (newsKeep N k)
theorem i2BC2 (hh : A.handled = none) (hdp : A.depth + 1 < recursionLimit) (hun : A.units + 30 < cLine) (XB : (hd.heap_39 w.params).In base) (TB : Top p loose mean mg mb base) (B : Below A base outer g) (F : Fr g L s.heap m₀) (N : News g L s.heap news)
    (hf : env.frame = some L) (hke : env.scope.kind = .function) {n : Int} {W : Nat} {t1 t2 : Tok} (w1 : 1 ≤ W) (w2 : W ≤ 100) (hr : inB false n W)
    (h : ∀ h' tk t, Fr g L h' m₀ → News g L h' news → Q (.bytes (digB (n % 256 ^ W).toNat 256 W) t) { s with heap := h', toks := tk }) :
    wpAny (model PySem.Challenge.rw_dp5010_01.row.prog w) (A.deeper env) (call (.ref 30) [.int n t1, .int (W : Int) t2]) Q E s := by
  have B' := pushX B F hf hke
  have X := XB.keeps B'.stays
  refine wpAny_call (i2B (A := A.deeper env) hh hdp (by rw [Around.deeper_units]; omega) X (TB.keeps B'.stays) (i2B_binds2 X) w1 w2 hr fun h' tk t k => ?_)
  exact h h' tk t (F.keeps k) (newsKeep N k)
theorem B2iC2 (hh : A.handled = none) (hdp : A.depth + 1 < recursionLimit) (hun : A.units + 30 < cLine) (XB : (hd.heap_39 w.params).In base) (TB : Top p loose mean mg mb base) (B : Below A base outer g) (F : Fr g L s.heap m₀) (N : News g L s.heap news)
    (hf : env.frame = some L) (hke : env.scope.kind = .function) {V W : Nat} {sg : Bool} {t1 : Tok} (w1 : 1 ≤ W) (w2 : W ≤ 1000) (hN : V < 256 ^ W)
    (h : ∀ h' tk t, Fr g L h' m₀ → News g L h' news → Q (.int (if sg = true ∧ V / 256 ^ (W - 1) ≥ 128 then (V : Int) - 256 ^ W else V) t) { s with heap := h', toks := tk }) :
    wpAny (model PySem.Challenge.rw_dp5010_01.row.prog w) (A.deeper env) (call (.ref 46) [.bytes (digB V 256 W) t1, .bool sg]) Q E s := by
  have B' := pushX B F hf hke
  have X := XB.keeps B'.stays
  refine wpAny_call (B2i (A := A.deeper env) hh hdp (by rw [Around.deeper_units]; omega) X (TB.keeps B'.stays) (B2i_binds2 X) w1 w2 hN fun h' tk t k => ?_)
  exact h h' tk t (F.keeps k) (newsKeep N k)
theorem B2iC1 (hh : A.handled = none) (hdp : A.depth + 1 < recursionLimit) (hun : A.units + 30 < cLine) (XB : (hd.heap_39 w.params).In base) (TB : Top p loose mean mg mb base) (B : Below A base outer g) (F : Fr g L s.heap m₀) (N : News g L s.heap news)
    (hf : env.frame = some L) (hke : env.scope.kind = .function) {V W : Nat} {t1 : Tok} (w1 : 1 ≤ W) (w2 : W ≤ 1000) (hN : V < 256 ^ W)
    (h : ∀ h' tk t, Fr g L h' m₀ → News g L h' news → Q (.int (V : Int) t) { s with heap := h', toks := tk }) :
    wpAny (model PySem.Challenge.rw_dp5010_01.row.prog w) (A.deeper env) (call (.ref 46) [.bytes (digB V 256 W) t1]) Q E s := by
  have B' := pushX B F hf hke
  have X := XB.keeps B'.stays
  refine wpAny_call (B2i (A := A.deeper env) hh hdp (by rw [Around.deeper_units]; omega) X (TB.keeps B'.stays) (B2i_binds1 X) w1 w2 hN fun h' tk t k => ?_)
  rw [if_neg (by simp)]
  exact h h' tk t (F.keeps k) (newsKeep N k)
theorem b2iC2 (hh : A.handled = none) (hdp : A.depth + 1 < recursionLimit) (hun : A.units + 30 < cLine) (XB : (hd.heap_39 w.params).In base) (TB : Top p loose mean mg mb base) (B : Below A base outer g) (F : Fr g L s.heap m₀) (N : News g L s.heap news)
    (hf : env.frame = some L) (hke : env.scope.kind = .function) {V W : Nat} {sg : Bool} {t1 : Tok} (w1 : 1 ≤ W) (w2 : W ≤ 1000) (hN : V < 2 ^ W)
    (h : ∀ h' tk t, Fr g L h' m₀ → News g L h' news → Q (.int (sval sg V W) t) { s with heap := h', toks := tk }) :
    wpAny (model PySem.Challenge.rw_dp5010_01.row.prog w) (A.deeper env) (call (.ref 38) [.bytes (digB V 2 W) t1, .bool sg]) Q E s := by
  have B' := pushX B F hf hke
  have X := XB.keeps B'.stays
  refine wpAny_call (b2i (A := A.deeper env) hh hdp (by rw [Around.deeper_units]; omega) X (TB.keeps B'.stays) (b2i_binds2 X) w1 (by omega) hN fun h' tk t k => ?_)
  exact h h' tk t (F.keeps k) (newsKeep N k)
theorem b2iC1 (hh : A.handled = none) (hdp : A.depth + 1 < recursionLimit) (hun : A.units + 30 < cLine) (XB : (hd.heap_39 w.params).In base) (TB : Top p loose mean mg mb base) (B : Below A base outer g) (F : Fr g L s.heap m₀) (N : News g L s.heap news)
    (hf : env.frame = some L) (hke : env.scope.kind = .function) {V W : Nat} {t1 : Tok} (w1 : 1 ≤ W) (w2 : W ≤ 1000) (hN : V < 2 ^ W)
    (h : ∀ h' tk t, Fr g L h' m₀ → News g L h' news → Q (.int (V : Int) t) { s with heap := h', toks := tk }) :
    wpAny (model PySem.Challenge.rw_dp5010_01.row.prog w) (A.deeper env) (call (.ref 38) [.bytes (digB V 2 W) t1]) Q E s := by
  have B' := pushX B F hf hke
  have X := XB.keeps B'.stays
  refine wpAny_call (b2i (A := A.deeper env) hh hdp (by rw [Around.deeper_units]; omega) X (TB.keeps B'.stays) (b2i_binds1 X) w1 (by omega) hN fun h' tk t k => ?_)
  have e : sval false V W = (V : Int) := by simp [sval]
  rw [e]
  exact h h' tk t (F.keeps k) (newsKeep N k)
/-- _law_503_refused of a lambda of the caller's -/
theorem refusedC {c₀ P₀ : Addr} (hh : A.handled = none) (hdp : A.depth + 1 < recursionLimit) (hun : A.units + 30 < cLine) (XB : (hd.heap_39 w.params).In base) (TB : Top p loose mean mg mb base) (CH : CodeHd base c₀ P₀) (B : Below A base outer g) (D : KtsDicts (frs outer) g) (F : Fr g L s.heap m₀) (N : News g L s.heap news)
    (hf : env.frame = some L) (hke : env.scope.kind = .function) {f : Addr} {name qual : Str} {params : Arguments} {body : Expr} {scope : Scope} {clos : List (Str × Addr)} {pm ctv : Value} {c' : Addr}
    (hm : (f, kla_obj name qual params body scope clos pm c' ctv) ∈ news) (deed : Deed (model PySem.Challenge.rw_dp5010_01.row.prog w) (A.deeper env) base (.ref f) s)
    (h : ∀ g' h' tk, KtsTurn (frs outer) g g' → Fr g' L h' m₀ → News g' L h' news → Below A base outer g' → KtsDicts (frs outer) g' → Q (.bool true) { s with heap := h', toks := tk }) :
    wpAny (model PySem.Challenge.rw_dp5010_01.row.prog w) (A.deeper env) (call (.ref 93) [.ref f]) Q E s := by
  have B' := pushX B F hf hke
  have X := XB.keeps B'.stays
  have H := Held.of_news (env := env) B N hf
  have H1 : Held base s.heap (frs (env :: outer)) [(f, kla_obj name qual params body scope clos pm c' ctv)] := fun q hq => by
    rw [List.mem_singleton.mp hq]
    exact H _ hm
  refine wpAny_call (refused (A := A.deeper env) hh hdp (by rw [Around.deeper_units]; omega) XB TB CH B' (dicts_push D F hf) (refused_binds X) H1 deed fun h' tk T => ?_)
  · obtain ⟨g', T', F', N', B2, D2⟩ := T.ground B F N hf D
    exact h g' h' tk T' F' N' B2 D2
end
end Mine
end
section
open PySem PySem.W PySem.Calls PyProof.Rows
set_option Elab.async false
set_option maxRecDepth 100000
namespace Mine

/-- the least and the greatest -/
def loOf (sg : Bool) (top : Int) : Int := if sg = true then -(top.fdiv 2) else 0
def hiOf (sg : Bool) (top : Int) : Int := if sg = true then top.fdiv 2 - 1 else top - 1
set_option maxHeartbeats 4000000 in
theorem endsF {w : World} {A : Around} {s : Shared} {mg mb : Str → Option Value} {p : Program} {loose : List Str} {mean : ExcName → Option Value} {R : Result → Shared → Prop}
    (hh : A.handled = none) (hdp : A.depth < recursionLimit) (hun : A.units + 20 < cLine) (X : (hd.heap_39 w.params).In s.heap) (T : Top p loose mean mg mb s.heap)
    {top : Int} {sg : Bool} {t1 : Tok} {args : Args} (hb : BindsToK (hd.heap_39 w.params) s 100 args [(Str.ofString "top", .int top t1), (Str.ofString "sign", .bool sg)])
    (hR : ∀ h' tk D t2 t3, (∀ b o, s.heap.get? b = some o → h'.get? b = some o) → h'.get? D = some { cls := .type "tuple", data := .seq #[.int (loOf sg top) t2, .int (hiOf sg top) t3] } → s.heap.get? D = none → R (.ok (.ret (.ref D))) { s with heap := h', toks := tk }) :
    codeAny (model PySem.Challenge.rw_dp5010_01.row.prog w) A (.call (.ref 100) args) R s := by
  refine' enterA X T.nolimit ?k6 ?k7 hdp ?k9 ?kB ?c5 ?h ?c2 ?c3 ?c4
  case k6 => k_is
  case k7 => k_is
  case k9 => exact hb _ _ (by k_is) rfl
  case kB => exact locs rfl
  case c5 => decide
  case c2 => exact rfl
  case c3 => exact rfl
  case c4 => exact rfl
  intro L h₁ hL F Nw
  cases sg
  · (change wpAny _ _ _ _ _ _); k_fold
    k_steps
    rename Fr _ _ _ _ => F'
    rename News _ _ _ _ => N'
    have hD := N' _ (.head _)
    exact hR _ _ _ _ _ F'.keep hD.1 hD.2.2
  · (change wpAny _ _ _ _ _ _); k_fold
    k_steps
    rename Fr _ _ _ _ => F'
    rename News _ _ _ _ => N'
    have hD := N' _ (.head _)
    exact hR _ _ _ _ _ F'.keep hD.1 hD.2.2
section
variable {w : World} {s : Shared} {a b : Value}
theorem ends_binds : BindsToK (hd.heap_39 w.params) s 100 ⟨[a, b], []⟩ [(Str.ofString "top", a), (Str.ofString "sign", b)] := by
  refine' bindsK_of ?ho ?hb
  case ho => k_is
  case hb => exact BindsTo.of_eq rfl
end
section
variable {w : World} {A : Around} {E : Value → Shared → Prop} {s : Shared} {mg mb : Str → Option Value} {p : Program} {loose : List Str} {mean : ExcName → Option Value} {base g : Heap} {outer : List Env} {L : Addr} {m₀ : Str → Option Value} {env : Env} {news : List (Addr × Obj)} {Q : Value → Shared → Prop}
theorem endsC (hh : A.handled = none) (hdp : A.depth + 1 < recursionLimit) (hun : A.units + 30 < cLine) (XB : (hd.heap_39 w.params).In base) (TB : Top p loose mean mg mb base) (B : Below A base outer g) (F : Fr g L s.heap m₀) (N : News g L s.heap news)
    (hf : env.frame = some L) (hke : env.scope.kind = .function) {top : Int} {sg : Bool} {t1 : Tok}
    (h : ∀ d h' tk t2 t3, Fr g L h' m₀ → News g L h' ((d, { cls := .type "tuple", data := .seq #[.int (loOf sg top) t2, .int (hiOf sg top) t3] }) :: news) → AllNe d news → Q (.ref d) { s with heap := h', toks := tk }) :
    wpAny (model PySem.Challenge.rw_dp5010_01.row.prog w) (A.deeper env) (call (.ref 100) [.int top t1, .bool sg]) Q E s := by
  have B' := pushX B F hf hke
  have X := XB.keeps B'.stays
  refine wpAny_call (endsF (A := A.deeper env) hh hdp (by rw [Around.deeper_units]; omega) X (TB.keeps B'.stays) ends_binds fun h' tk d t2 t3 k hd hn => ?_)
  exact h d h' tk t2 t3 (F.keeps k) (newsAdd F N k hd hn) (newsNe N hn)
end
theorem byteArr_dig (m b count : Nat) : byteArr ((dig m b count).map fun (d : Nat) => (d : Int)) = digB m b count := by
  unfold byteArr digB
  rw [List.map_map]
  rfl
theorem dig_range {m b count : Nat} (b0 : 0 < b) (b2 : b ≤ 256) : ∀ n ∈ (dig m b count).map (fun (d : Nat) => (d : Int)), 0 ≤ n ∧ n < 256 := fun n hn => by
  obtain ⟨d, hd, rfl⟩ := List.mem_map.mp hn
  unfold dig at hd
  obtain ⟨i, _, rfl⟩ := List.mem_map.mp hd
  have := Nat.mod_lt (m / b ^ (count - 1 - i)) b0
  omega
theorem bytes_dig {prog : Program} {w : World} {A : Around} {E : Value → Shared → Prop} {s : Shared} {g : Heap} {L d : Addr} {m₀ : Str → Option Value} {news : List (Addr × Obj)} {ys : List Value} {m b count : Nat} {Q : Value → Shared → Prop}
    (F : Fr g L s.heap m₀) (N : News g L s.heap news) (hm : (d, LCg.lst ys) ∈ news) (hi : IntsAre ys ((dig m b count).map fun (d : Nat) => (d : Int))) (hh : A.handled = none) (b0 : 0 < b) (b2 : b ≤ 256) (c2 : count ≤ 400)
    (h : ∀ h' tk t, Fr g L h' m₀ → News g L h' news → Q (.bytes (digB m b count) t) { s with heap := h', toks := tk }) : wpAny (model prog w) A (call (.type "bytes") [.ref d]) Q E s := by
  have hl : ys.length = count := by
    have := hi.length
    rw [List.length_map, dig_length] at this
    exact this
  refine call_bytes_ints (vs := ys) ⟨_, (N _ hm).1, rfl, _, rfl⟩ hi (dig_range b0 b2) (by rw [hl, sizeLine_eq]; omega) hh fun h' t k hk => ?_
  rw [byteArr_dig]
  exact h h' k t (F.keeps hk) (newsKeep N hk)
section
variable {w : World} {A : Around} {E : Value → Shared → Prop} {s : Shared} {mg mb : Str → Option Value} {p : Program} {loose : List Str} {mean : ExcName → Option Value} {base g : Heap} {outer : List Env} {L : Addr} {m₀ : Str → Option Value} {env : Env} {news : List (Addr × Obj)} {Q : Value → Shared → Prop}
theorem i2BV3 (hh : A.handled = none) (hdp : A.depth + 1 < recursionLimit) (hun : A.units + 30 < cLine) (XB : (hd.heap_39 w.params).In base) (TB : Top p loose mean mg mb base) (B : Below A base outer g) (F : Fr g L s.heap m₀) (N : News g L s.heap news)
    (hf : env.frame = some L) (hke : env.scope.kind = .function) {n : Int} {W V : Nat} {sg : Bool} {t1 t2 : Tok} (w1 : 1 ≤ W) (w2 : W ≤ 100) (hr : inB sg n W) (hV : (n % 256 ^ W).toNat = V)
    (h : ∀ h' tk t, Fr g L h' m₀ → News g L h' news → Q (.bytes (digB V 256 W) t) { s with heap := h', toks := tk }) :
    wpAny (model PySem.Challenge.rw_dp5010_01.row.prog w) (A.deeper env) (call (.ref 30) [.int n t1, .int (W : Int) t2, .bool sg]) Q E s := by
  subst hV
  exact i2BC3 hh hdp hun XB TB B F N hf hke w1 w2 hr h
theorem i2BV2 (hh : A.handled = none) (hdp : A.depth + 1 < recursionLimit) (hun : A.units + 30 < cLine) (XB : (hd.heap_39 w.params).In base) (TB : Top p loose mean mg mb base) (B : Below A base outer g) (F : Fr g L s.heap m₀) (N : News g L s.heap news)
    (hf : env.frame = some L) (hke : env.scope.kind = .function) {n : Int} {W V : Nat} {t1 t2 : Tok} (w1 : 1 ≤ W) (w2 : W ≤ 100) (hr : inB false n W) (hV : (n % 256 ^ W).toNat = V)
    (h : ∀ h' tk t, Fr g L h' m₀ → News g L h' news → Q (.bytes (digB V 256 W) t) { s with heap := h', toks := tk }) :
    wpAny (model PySem.Challenge.rw_dp5010_01.row.prog w) (A.deeper env) (call (.ref 30) [.int n t1, .int (W : Int) t2]) Q E s := by
  subst hV
  exact i2BC2 hh hdp hun XB TB B F N hf hke w1 w2 hr h
theorem B2iV2 (hh : A.handled = none) (hdp : A.depth + 1 < recursionLimit) (hun : A.units + 30 < cLine) (XB : (hd.heap_39 w.params).In base) (TB : Top p loose mean mg mb base) (B : Below A base outer g) (F : Fr g L s.heap m₀) (N : News g L s.heap news)
    (hf : env.frame = some L) (hke : env.scope.kind = .function) {V W : Nat} {sg : Bool} {t1 : Tok} {z : Int} (w1 : 1 ≤ W) (w2 : W ≤ 1000) (hN : V < 256 ^ W) (hz : (if sg = true ∧ V / 256 ^ (W - 1) ≥ 128 then (V : Int) - 256 ^ W else V) = z)
    (h : ∀ h' tk t, Fr g L h' m₀ → News g L h' news → Q (.int z t) { s with heap := h', toks := tk }) :
    wpAny (model PySem.Challenge.rw_dp5010_01.row.prog w) (A.deeper env) (call (.ref 46) [.bytes (digB V 256 W) t1, .bool sg]) Q E s := by
  subst hz
  exact B2iC2 hh hdp hun XB TB B F N hf hke w1 w2 hN h
end
end Mine
end
section
open PySem PySem.W PySem.Calls PyProof.Rows
set_option Elab.async false
set_option maxRecDepth 100000
namespace Mine
theorem Flies.of_sn {base h h' : Heap} {l : List Env} {e : Addr} {cls : Value} {news : List (Addr × Obj)} (X : RaisedSN base h l e cls news h') (U : h.UpToSlots h') : Flies base h l e cls h' :=
  let ⟨B, a0, hB, hBG, _, hfl⟩ := X
  ⟨⟨B, a0, hB, hBG, hfl⟩, U⟩
local macro_rules | `(tactic| walk_at "exec Raise some none") => `(tactic| (refine Raise_new (handled_deeper (by with_reducible assumption)) ?_))
local macro_rules | `(tactic| walk_at "formatField int") => `(tactic| (refine field_any (natAbs_lt (by assumption) (by assumption)) ?_; intro y' t' k' hy'))
local macro_rules | `(tactic| walk_at "And") => `(tactic| ((with_reducible show PySem.Str.length (_ ++ _) ≤ sizeLine ∧ wpAny _ _ (joinParts _ _) _ _ _); (refine join_part (P := fun o => wpAny _ _ (joinParts o _) _ _ _) (by first | assumption | exact Nat.le_refl _) (by first | assumption | decide +kernel | (split <;> decide +kernel)) (by decide) ?_); intro o' ho'))
local macro_rules | `(tactic| walk_at "joinParts") => `(tactic| (refine join_done (by assumption) (by decide) ?_; intro t' k'))

set_option maxHeartbeats 4000000 in
theorem i2b_no0 {w : World} {A : Around} {s : Shared} {mg mb : Str → Option Value} {p : Program} {loose : List Str} {mean : ExcName → Option Value} {base : Heap} {outer : List Env}
    (hh : A.handled = none) (hdp : A.depth < recursionLimit) (hun : A.units + 20 < cLine) (XB : (hd.heap_39 w.params).In base) (TB : Top p loose mean mg mb base)
    (B : Below A base outer s.heap) (D : KtsDicts (frs outer) s.heap)
    {n W : Int} {sg : Bool} {t1 t2 : Tok} {args : Args} (hb : BindsToK (hd.heap_39 w.params) s 22 args [(Str.ofString "number", .int n t1), (Str.ofString "width", .int W t2), (Str.ofString "signed", .bool sg)]) (hW : W < 1) (b1 : -(2 ^ 1000) ≤ W) (b2 : W ≤ 2 ^ 1000) :
    RaisesVE (model PySem.Challenge.rw_dp5010_01.row.prog w) A base outer (.call (.ref 22) args) s := by
  refine' enterN (news := []) B D XB TB.nolimit Held.nil ?k6 ?k7 hdp ?k9 ?kB ?c5 ?h ?c2 ?c3 ?c4
  case k6 => k_is
  case k7 => k_is
  case k9 => exact hb _ _ (by k_is) rfl
  case kB => exact locs rfl
  case c5 => decide
  case c2 => exact rfl
  case c3 => exact rfl
  case c4 => exact rfl
  intro L h₁ hL F N B₁ D₁
  have X := XB.keeps B₁.stays
  have T := TB.keeps B₁.stays

  (change wpAny _ _ _ _ _ _); k_fold
  k_steps
  all_goals (
    rename RaisedSN _ _ _ _ _ _ _ => R'
    rename Heap.UpToSlots _ _ => U'
    exact Flies.of_sn R' U')
theorem pow_1000 {W : Nat} (w2 : W ≤ 400) : ∃ P : Int, P = 2 ^ (W : Int).toNat ∧ 1 ≤ P ∧ P ≤ 2 ^ 400 := by
  refine ⟨_, rfl, ?_, ?_⟩
  · rw [Int.toNat_natCast]
    have : (0 : Int) < 2 ^ W := Int.pow_pos (by decide)
    omega
  · rw [Int.toNat_natCast]
    have h := Nat.pow_le_pow_right (show 0 < 2 by decide) w2
    have e : ∀ k : Nat, ((2 ^ k : Nat) : Int) = 2 ^ k := fun k => by rw [Int.natCast_pow]; rfl
    rw [← e, ← e]
    exact Int.ofNat_le.mpr h
theorem pow_le_1000 : (2 : Int) ^ 400 + 10 ≤ 2 ^ 1000 := by decide +kernel

set_option maxHeartbeats 4000000 in
theorem i2b_no_u {w : World} {A : Around} {s : Shared} {mg mb : Str → Option Value} {p : Program} {loose : List Str} {mean : ExcName → Option Value} {base : Heap} {outer : List Env}
    (hh : A.handled = none) (hdp : A.depth < recursionLimit) (hun : A.units + 20 < cLine) (XB : (hd.heap_39 w.params).In base) (TB : Top p loose mean mg mb base)
    (B : Below A base outer s.heap) (D : KtsDicts (frs outer) s.heap)
    {n : Int} {W : Nat} {t1 t2 : Tok} {args : Args} (hb : BindsToK (hd.heap_39 w.params) s 22 args [(Str.ofString "number", .int n t1), (Str.ofString "width", .int (W : Int) t2), (Str.ofString "signed", .bool false)]) (w1 : 1 ≤ W) (w2 : W ≤ 400) (b1 : -(2 ^ 1000) ≤ n) (b2 : n ≤ 2 ^ 1000) (hn : n < 0 ∨ 2 ^ (W : Int).toNat - 1 < n) :
    RaisesVE (model PySem.Challenge.rw_dp5010_01.row.prog w) A base outer (.call (.ref 22) args) s := by
  refine' enterN (news := []) B D XB TB.nolimit Held.nil ?k6 ?k7 hdp ?k9 ?kB ?c5 ?h ?c2 ?c3 ?c4
  case k6 => k_is
  case k7 => k_is
  case k9 => exact hb _ _ (by k_is) rfl
  case kB => exact locs rfl
  case c5 => decide
  case c2 => exact rfl
  case c3 => exact rfl
  case c4 => exact rfl
  intro L h₁ hL F N B₁ D₁
  have X := XB.keeps B₁.stays
  have T := TB.keeps B₁.stays
  obtain ⟨P, hP, hP1, hP2⟩ := pow_1000 w2
  have hK := pow_le_1000
  rw [hP] at hP1 hP2
  generalize hQ : (2 : Int) ^ 1000 = Q at hK b1 b2
  generalize (2 : Int) ^ 400 = Q' at hK hP2
  have d1 : -(Q) ≤ (0 : Int) := by omega
  have d2 : (0 : Int) ≤ Q := by omega
  have d3 : -(Q) ≤ (2 : Int) ^ (W : Int).toNat - 1 := by omega
  have d4 : (2 : Int) ^ (W : Int).toNat - 1 ≤ Q := by omega
  subst hQ
  clear hP hP1 hP2 hK
  rcases hn with hn | hn
  all_goals (
    (change wpAny _ _ _ _ _ _); k_fold
    k_steps
    all_goals (
      rename RaisedSN _ _ _ _ _ _ _ => R'
      rename Heap.UpToSlots _ _ => U'
      exact Flies.of_sn R' U'))

set_option maxHeartbeats 4000000 in
theorem i2b_no_s {w : World} {A : Around} {s : Shared} {mg mb : Str → Option Value} {p : Program} {loose : List Str} {mean : ExcName → Option Value} {base : Heap} {outer : List Env}
    (hh : A.handled = none) (hdp : A.depth < recursionLimit) (hun : A.units + 20 < cLine) (XB : (hd.heap_39 w.params).In base) (TB : Top p loose mean mg mb base)
    (B : Below A base outer s.heap) (D : KtsDicts (frs outer) s.heap)
    {n : Int} {W : Nat} {t1 t2 : Tok} {args : Args} (hb : BindsToK (hd.heap_39 w.params) s 22 args [(Str.ofString "number", .int n t1), (Str.ofString "width", .int (W : Int) t2), (Str.ofString "signed", .bool true)]) (w1 : 1 ≤ W) (w2 : W ≤ 400) (b1 : -(2 ^ 1000) ≤ n) (b2 : n ≤ 2 ^ 1000) (hn : n < -((2 ^ (W : Int).toNat : Int).fdiv 2) ∨ (2 ^ (W : Int).toNat : Int).fdiv 2 - 1 < n) :
    RaisesVE (model PySem.Challenge.rw_dp5010_01.row.prog w) A base outer (.call (.ref 22) args) s := by
  refine' enterN (news := []) B D XB TB.nolimit Held.nil ?k6 ?k7 hdp ?k9 ?kB ?c5 ?h ?c2 ?c3 ?c4
  case k6 => k_is
  case k7 => k_is
  case k9 => exact hb _ _ (by k_is) rfl
  case kB => exact locs rfl
  case c5 => decide
  case c2 => exact rfl
  case c3 => exact rfl
  case c4 => exact rfl
  intro L h₁ hL F N B₁ D₁
  have X := XB.keeps B₁.stays
  have T := TB.keeps B₁.stays
  obtain ⟨P, hP, hP1, hP2⟩ := pow_1000 w2
  have hK := pow_le_1000
  rw [hP] at hP1 hP2
  generalize hQ : (2 : Int) ^ 1000 = Q at hK b1 b2
  generalize (2 : Int) ^ 400 = Q' at hK hP2
  have e : ((2 ^ (W : Int).toNat : Int)).fdiv 2 = (2 ^ (W : Int).toNat : Int) / 2 := Int.fdiv_eq_ediv_of_nonneg _ (by decide)
  have d1 : -(Q) ≤ -((2 ^ (W : Int).toNat : Int).fdiv 2) := by omega
  have d2 : -((2 ^ (W : Int).toNat : Int).fdiv 2) ≤ Q := by omega
  have d3 : -(Q) ≤ (2 ^ (W : Int).toNat : Int).fdiv 2 - 1 := by omega
  have d4 : (2 ^ (W : Int).toNat : Int).fdiv 2 - 1 ≤ Q := by omega
  clear e
  subst hQ
  clear hP hP1 hP2 hK
  rcases hn with hn | hn
  all_goals (
    (change wpAny _ _ _ _ _ _); k_fold
    k_steps
    all_goals (
      rename RaisedSN _ _ _ _ _ _ _ => R'
      rename Heap.UpToSlots _ _ => U'
      exact Flies.of_sn R' U'))
end Mine
end
section
open PySem PySem.W PySem.Calls PyProof.Rows
set_option Elab.async false
namespace Mine
theorem half2 {k : Nat} (k1 : 1 ≤ k) : (2 : Int) ^ k = 2 * ((2 ^ (k - 1) : Nat) : Int) ∧ (2 ^ k : Int).fdiv 2 = ((2 ^ (k - 1) : Nat) : Int) ∧ (2 : Int) ^ k = ((2 ^ k : Nat) : Int) := by
  have e : (2 : Int) ^ k = ((2 ^ k : Nat) : Int) := by rw [Int.natCast_pow]; rfl
  have e2 : (2 : Nat) ^ k = 2 * 2 ^ (k - 1) := by
    rw [← Nat.pow_succ']
    congr 1
    omega
  have e3 : (2 : Int) ^ k = 2 * ((2 ^ (k - 1) : Nat) : Int) := by rw [e, e2, Int.natCast_mul]; rfl
  refine ⟨e3, ?_, e⟩
  rw [Int.fdiv_eq_ediv_of_nonneg _ (by decide), e3]
  omega
/-- what the bits' law wants of a number that k bits hold -/
theorem bit_facts {sg : Bool} {n : Int} {k : Nat} (k1 : 1 ≤ k) (hr : inR sg n k) : ∃ V : Nat, (n % 2 ^ k).toNat = V ∧ V < 2 ^ k ∧ n.fmod ((2 : Int) ^ (k : Int).toNat) = (V : Int) ∧ sval sg V k = n := by
  obtain ⟨e1, e2, -⟩ := half2 k1
  have hp : (0 : Int) < 2 ^ k := Int.pow_pos (by decide)
  have h0 := Int.emod_nonneg n (show (2 : Int) ^ k ≠ 0 by omega)
  have h1 := Int.emod_lt_of_pos n hp
  have ec : ((2 ^ k : Nat) : Int) = 2 ^ k := by rw [Int.natCast_pow]; rfl
  have hVl : (n % 2 ^ k).toNat < 2 ^ k := by omega
  refine ⟨_, rfl, hVl, by rw [Int.toNat_natCast, Int.fmod_eq_emod_of_nonneg _ (Int.le_of_lt hp), Int.toNat_of_nonneg h0], ?_⟩
  have hh : 2 ^ k = 2 * 2 ^ (k - 1) := by
    rw [← Nat.pow_succ']
    congr 1
    omega
  have hpos : 0 < 2 ^ (k - 1) := Nat.pow_pos (by decide)
  have hq : (n % 2 ^ k).toNat / 2 ^ (k - 1) % 2 = 1 ↔ (n % 2 ^ k).toNat ≥ 2 ^ (k - 1) := by
    have hlt : (n % 2 ^ k).toNat / 2 ^ (k - 1) < 2 := Nat.div_lt_of_lt_mul (by omega)
    constructor
    · intro h
      rcases Nat.lt_or_ge (n % 2 ^ k).toNat (2 ^ (k - 1)) with h5 | h5
      · rw [Nat.div_eq_of_lt h5] at h; omega
      · exact h5
    · intro h
      have := Nat.div_pos h hpos
      omega
  unfold sval
  simp only [hq]
  unfold inR at hr
  rw [Int.toNat_natCast] at hr
  cases sg
  · simp only [Bool.false_eq_true, if_false, false_and] at hr ⊢
    rw [Int.toNat_of_nonneg h0]
    exact Int.emod_eq_of_lt hr.1 (by omega)
  · simp only [if_true, true_and] at hr ⊢
    rw [e2] at hr
    have hH : ((2 ^ k : Nat) : Int) = 2 * ((2 ^ (k - 1) : Nat) : Int) := by rw [hh, Int.natCast_mul]; rfl
    generalize (2 ^ (k - 1) : Nat) = H at *
    rcases Int.lt_or_le n 0 with hn | hn
    · have hm : n % 2 ^ k = n + 2 ^ k := by
        rw [← Int.add_emod_right, Int.emod_eq_of_lt (by omega) (by omega)]
      rw [if_pos (by omega), Int.toNat_of_nonneg h0]
      omega
    · have hm : n % 2 ^ k = n := Int.emod_eq_of_lt hn (by omega)
      rw [if_neg (by omega), Int.toNat_of_nonneg h0]
      exact hm
theorem pow2_le {k : Nat} (k2 : k ≤ 400) : (0 : Int) < 2 ^ k ∧ (2 : Int) ^ k ≤ 2 ^ 400 := by
  refine ⟨Int.pow_pos (by decide), ?_⟩
  have h := Nat.pow_le_pow_right (show 0 < 2 by decide) k2
  have e : ((2 ^ k : Nat) : Int) = 2 ^ k := by rw [Int.natCast_pow]; rfl
  have e50 : ((2 ^ 400 : Nat) : Int) = 2 ^ 400 := by decide +kernel
  rw [← e, ← e50]
  exact Int.ofNat_le.mpr h
theorem bit_lo {sg : Bool} {k : Nat} (k1 : 1 ≤ k) (k2 : k ≤ 400) : ¬ inR sg (loOf sg ((2 : Int) ^ (k : Int).toNat) - 1) k ∧ -(2 ^ 1000) ≤ loOf sg ((2 : Int) ^ (k : Int).toNat) - 1 ∧ loOf sg ((2 : Int) ^ (k : Int).toNat) - 1 ≤ 2 ^ 1000 := by
  obtain ⟨h0, h1⟩ := pow2_le k2
  obtain ⟨e1, e2, -⟩ := half2 k1
  have h9 : (2 : Int) ^ 400 + 10 ≤ 2 ^ 1000 := by decide +kernel
  unfold inR loOf
  rw [Int.toNat_natCast]
  generalize (2 : Int) ^ k = T at *
  generalize (2 : Int) ^ 400 = a at *
  generalize (2 : Int) ^ 1000 = b at *
  cases sg
  · simp only [Bool.false_eq_true, if_false]
    omega
  · simp only [if_true]
    omega
theorem bit_hi {sg : Bool} {k : Nat} (k1 : 1 ≤ k) (k2 : k ≤ 400) : ¬ inR sg (hiOf sg ((2 : Int) ^ (k : Int).toNat) + 1) k ∧ -(2 ^ 1000) ≤ hiOf sg ((2 : Int) ^ (k : Int).toNat) + 1 ∧ hiOf sg ((2 : Int) ^ (k : Int).toNat) + 1 ≤ 2 ^ 1000 := by
  obtain ⟨h0, h1⟩ := pow2_le k2
  obtain ⟨e1, e2, -⟩ := half2 k1
  have h9 : (2 : Int) ^ 400 + 10 ≤ 2 ^ 1000 := by decide +kernel
  unfold inR hiOf
  rw [Int.toNat_natCast]
  generalize (2 : Int) ^ k = T at *
  generalize (2 : Int) ^ 400 = a at *
  generalize (2 : Int) ^ 1000 = b at *
  cases sg
  · simp only [Bool.false_eq_true, if_false]
    omega
  · simp only [if_true]
    omega
section
variable {w : World} {A : Around} {E : Value → Shared → Prop} {s : Shared} {mg mb : Str → Option Value} {p : Program} {loose : List Str} {mean : ExcName → Option Value} {base g : Heap} {outer : List Env} {L : Addr} {m₀ : Str → Option Value} {env : Env} {news own : List (Addr × Obj)} {Q : Value → Shared → Prop}
/-- integer2bits, called in the clean logic -/
theorem i2bJ3 (hh : A.handled = none) (hdp : A.depth + 1 < recursionLimit) (hun : A.units + 30 < cLine) (XB : (hd.heap_39 w.params).In base) (TB : Top p loose mean mg mb base) (B : Below A base outer g) (F : Fr g L s.heap m₀) (N : News g L s.heap news)
    (hf : env.frame = some L) (hke : env.scope.kind = .function) {n : Int} {W V : Nat} {sg : Bool} {t1 t2 : Tok} (w1 : 1 ≤ W) (w2 : W ≤ 400) (hr : inR sg n W) (hV : (n % 2 ^ W).toNat = V)
    (h : ∀ h' tk t, Fr g L h' m₀ → News g L h' news → Q (.bytes (digB V 2 W) t) { s with heap := h', toks := tk }) :
    wpJ (model PySem.Challenge.rw_dp5010_01.row.prog w) (A.deeper env) (call (.ref 22) [.int n t1, .int (W : Int) t2, .bool sg]) Q E s := by
  subst hV
  have B' := pushX B F hf hke
  have X := XB.keeps B'.stays
  refine wpJ_call (i2b (A := A.deeper env) hh hdp (by rw [Around.deeper_units]; omega) X (TB.keeps B'.stays) (i2b_binds3 X) w1 w2 hr fun h' tk t k => ?_)
  exact h h' tk t (F.keeps k) (newsKeep N k)
theorem i2bJ2 (hh : A.handled = none) (hdp : A.depth + 1 < recursionLimit) (hun : A.units + 30 < cLine) (XB : (hd.heap_39 w.params).In base) (TB : Top p loose mean mg mb base) (B : Below A base outer g) (F : Fr g L s.heap m₀) (N : News g L s.heap news)
    (hf : env.frame = some L) (hke : env.scope.kind = .function) {n : Int} {W V : Nat} {t1 t2 : Tok} (w1 : 1 ≤ W) (w2 : W ≤ 400) (hr : inR false n W) (hV : (n % 2 ^ W).toNat = V)
    (h : ∀ h' tk t, Fr g L h' m₀ → News g L h' news → Q (.bytes (digB V 2 W) t) { s with heap := h', toks := tk }) :
    wpJ (model PySem.Challenge.rw_dp5010_01.row.prog w) (A.deeper env) (call (.ref 22) [.int n t1, .int (W : Int) t2]) Q E s := by
  subst hV
  have B' := pushX B F hf hke
  have X := XB.keeps B'.stays
  refine wpJ_call (i2b (A := A.deeper env) hh hdp (by rw [Around.deeper_units]; omega) X (TB.keeps B'.stays) (i2b_binds2 X) w1 w2 hr fun h' tk t k => ?_)
  exact h h' tk t (F.keeps k) (newsKeep N k)
theorem b2iV2 (hh : A.handled = none) (hdp : A.depth + 1 < recursionLimit) (hun : A.units + 30 < cLine) (XB : (hd.heap_39 w.params).In base) (TB : Top p loose mean mg mb base) (B : Below A base outer g) (F : Fr g L s.heap m₀) (N : News g L s.heap news)
    (hf : env.frame = some L) (hke : env.scope.kind = .function) {V W : Nat} {sg : Bool} {t1 : Tok} {z : Int} (w1 : 1 ≤ W) (w2 : W ≤ 1000) (hN : V < 2 ^ W) (hz : sval sg V W = z)
    (h : ∀ h' tk t, Fr g L h' m₀ → News g L h' news → Q (.int z t) { s with heap := h', toks := tk }) :
    wpAny (model PySem.Challenge.rw_dp5010_01.row.prog w) (A.deeper env) (call (.ref 38) [.bytes (digB V 2 W) t1, .bool sg]) Q E s := by
  subst hz
  exact b2iC2 hh hdp hun XB TB B F N hf hke w1 w2 hN h
end
end Mine
end
section
open PySem PySem.W PySem.Calls PyProof.Rows
set_option Elab.async false
set_option maxRecDepth 100000
namespace Mine
theorem e8 : (8 : Int) = ((8 : Nat) : Int) := rfl
/-- a goal that the walker leaves alone -/
structure Stuck (P : Prop) : Prop where
  go : P
theorem type_join : typeOf (.builtin "bytes.join") = pure (.type "method_descriptor") := by show builtinType _ = _; rw [builtinType_eq_fast]; kernel_rfl
theorem method_join {M : Model} {A : Around} {E : Value → Shared → Prop} {s : Shared} {b : Array UInt8} {t : Tok} {pl : Sem Bool} {Q : Value × List Value → Shared → Prop} (h : Q (.builtin "bytes.join", [.bytes b t]) s) : wpAny M A (getMethod (.bytes b t) "join" pl) Q E s := by
  with_reducible exact KBd.method_of (.bytes b t) (PySem.W.typeIs_bytes _ _ _) slot_join type_join KBd.noRef h
section
variable {M : Model} {A : Around} {E : Value → Shared → Prop} {s : Shared} {env : Env}
theorem J_MethodCall {o : Expr} {name : Str} {apos pos : Pos} {args : List Expr} {pl : Sem Bool} {Q : Value → Shared → Prop}
    (h : wpAny M A (eval o env) (fun ov s₁ => wpAny M A (getMethod ov name pl) (fun fx s₂ => wpJ M A (callWith pos fx.1 fx.2 (backTo pos (starEach args env)) []) Q E s₂) E s₁) E s)
    (he : eval (.Call (.Attribute o name apos) args [] pos) env = (do
      let ov ← eval o env
      standAt apos.atName
      let (f, first) ← holding [ov] (getMethod ov name pl)
      callWith pos f first (backTo pos (starEach args env)) []) := by rfl) :
    wpJ M A (eval (.Call (.Attribute o name apos) args [] pos) env) Q E s := by
  rw [he]
  refine wpJ_then (wpAny_mono h (fun ov s₁ h₁ => wpJ_bind (wpJ_standAt (wpJ_then (wpAny_holding (wpAny_mono h₁ (fun fx s₂ h₂ => ?_) fun _ _ x => x))))) fun _ _ x => x)
  exact h₂
/-- a call of a built-in method on one argument or more -/
theorem J_callMeth {id : String} {first : List Value} {pos : Pos} {e : Expr} {rest : List Expr} {Q : Value → Shared → Prop}
    (h : wpAny M A (spliced (backTo pos (starEach (e :: rest) env))) (fun vs s₁ => wpJ M A (call (.builtin id) (first ++ vs)) Q E s₁) E s)
    (hk : keeperOf (.builtin id) = pure Keeper.machine := by rfl)
    (he : starEach (e :: rest) env = (false, eval e env) :: starEach rest env := by rfl) (hplain : (backTo pos (starEach rest env)).any (·.1) = false := by rfl) :
    wpJ M A (callWith pos (.builtin id) first (backTo pos (starEach (e :: rest) env)) []) Q E s := by
  rw [he] at h ⊢
  refine J_callWith (P := fun _ => True) (by show ((false || (backTo pos (starEach rest env)).any (·.1)) || false) = false; rw [hplain]; rfl) (fun _ _ => ⟨.machine, .inr (.inl rfl), Looks.of_pure hk⟩) (wpJ_of (evalArgs_plain ?_))
  exact wpAny_mono h (fun vs s₁ h₁ => ⟨trivial, h₁⟩) fun _ _ x => x
end
section
variable {C I S L : Addr} {s s' : Shared} {h₀ : Heap} {m : Str → Option Value} {news : List (Addr × Obj)}
theorem SinceL.fr (sl : SinceL C I S s s') (F : Fr h₀ L s.heap m) (c1 : h₀.get? C = none) (c2 : C ≠ L) (i1 : h₀.get? I = none) (i2 : I ≠ L) (hS : S = s.heap.objs.size) : Fr h₀ L s'.heap m := by
  obtain ⟨h', tk, gs, rfl, k, -⟩ := sl
  have hL : L ≠ S := fun e => absurd F.ns.lt (by rw [e, hS]; exact Nat.lt_irrefl _)
  refine ⟨F.ns.at' fun o e => k L o c2.symm i2.symm hL e, fun b o e => k b o (fun z => ?_) (fun z => ?_) (fun z => ?_) (F.keep b o e), F.above⟩
  · rw [z, c1] at e; cases e
  · rw [z, i1] at e; cases e
  · exact absurd (Heap.lt_size (F.keep b o e)) (by rw [z, hS]; exact Nat.lt_irrefl _)
theorem SinceL.keepN (sl : SinceL C I S s s') (N : News h₀ L s.heap news) (nc : ∀ q ∈ news, q.1 ≠ C) (ni : ∀ q ∈ news, q.1 ≠ I) (hS : S = s.heap.objs.size) : News h₀ L s'.heap news := fun q hq => by
  obtain ⟨h', tk, gs, rfl, k, -⟩ := sl
  refine ⟨k _ _ (nc q hq) (ni q hq) (fun z => ?_) (N q hq).1, (N q hq).2⟩
  exact absurd (Heap.lt_size (N q hq).1) (by rw [z, hS]; exact Nat.lt_irrefl _)
end
section
variable {M : Model} {A : Around} {E : Value → Shared → Prop} {s : Shared} {h₀ : Heap} {C : Addr} {m mg mb : Str → Option Value} {K : Frag} {p : Program} {loose : List Str} {mean : ExcName → Option Value} {cn : Str} {cs scope : Scope} {L a : Addr} {ccd code : Value} {cl cl' : List (Str × Addr)} {x : Str} {pos : Pos} {v : Value} {Q : Value → Shared → Prop}
/-- names in the frame of a generator expression -/
theorem genName_K (F : Fr h₀ C s.heap m) (X : K.In h₀) (T : Top p loose mean mg mb h₀) (e : nsIn K mainGlobals x = some (some v)) (h : Q v s) (hk : scope.kind = .function) (hx : (genEnv scope cl' C code builtinsNs (envX cn cs L a ccd cl)).kindOf x = some .globalImplicit)
    (hd : (x == ("__debug__" : Str)) = false) : wpAny M A (eval (.Name x pos) (genEnv scope cl' C code builtinsNs (envX cn cs L a ccd cl))) Q E s :=
  Name_function_global hk hx (loadGlobal_global (env := genEnv scope cl' C code builtinsNs (envX cn cs L a ccd cl)) (T.g.keeps F.keep) (mg_of X T.g e) h) hd
end
section
variable {M : Model} {A : Around} {E : Value → Shared → Prop} {s : Shared} {h₀ : Heap} {C c : Addr} {o : Obj} {news : List (Addr × Obj)} {cn : Str} {cs scope : Scope} {L a : Addr} {ccd code : Value} {cl cl' : List (Str × Addr)} {x : Str} {pos : Pos} {v : Value} {Q : Value → Shared → Prop}
theorem genName_F (N : News h₀ C s.heap news) (hc : cl'.lookup x = some c) (hm : (c, o) ∈ news) (hd : o.data = .cell (some v)) (h : Q v s) (hk : scope.kind = .function) (hx : (genEnv scope cl' C code builtinsNs (envX cn cs L a ccd cl)).kindOf x = some .free)
    (hb : (x == ("__debug__" : Str)) = false) (hn : (x == ("__classdict__" : Str)) = false) : wpAny M A (eval (.Name x pos) (genEnv scope cl' C code builtinsNs (envX cn cs L a ccd cl))) Q E s :=
  wpAny_Name (wpAny_loadName_free hk hx hc ⟨o, N.get hm, hd⟩ h hn) hb
end
/-- the bits of a row of octets -/
def bitsOf (b : Array UInt8) : Array UInt8 := (b.toList.flatMap fun c => (digB c.toNat 2 8).toList).toArray
theorem bitsOf_eq (b : Array UInt8) : ((b.toList.map fun c => digB c.toNat 2 8).flatMap fun r => r.toList).toArray = bitsOf b := by
  unfold bitsOf
  rw [List.flatMap_map]
theorem bitsOf_size (b : Array UInt8) : (bitsOf b).size = 8 * b.size := by
  unfold bitsOf
  rw [List.size_toArray, List.length_flatMap]
  have : ∀ l : List UInt8, (l.map fun c => (digB c.toNat 2 8).toList.length).sum = 8 * l.length := by
    intro l
    induction l with
    | nil => rfl
    | cons x r ih => rw [List.map_cons, List.sum_cons, ih, List.length_cons, Array.length_toList, digB_size]; omega
  rw [this, Array.length_toList]
section
variable {w : World} {A : Around} {E : Value → Shared → Prop} {s : Shared} {mg mb : Str → Option Value} {p : Program} {loose : List Str} {mean : ExcName → Option Value} {Q : Value → Shared → Prop}
/-- the calls of the text's that want a heap alone, wherever they stand -/
theorem i2bG (hh : A.handled = none) (hdp : A.depth < recursionLimit) (hun : A.units + 20 < cLine) (X : (hd.heap_39 w.params).In s.heap) (T : Top p loose mean mg mb s.heap) {n wi : Int} {W V : Nat} {t1 t2 : Tok} (ew : wi = (W : Int)) (w1 : 1 ≤ W) (w2 : W ≤ 400) (hr : inR false n W) (hV : (n % 2 ^ W).toNat = V)
    (h : ∀ h' tk t, (∀ b o, s.heap.get? b = some o → h'.get? b = some o) → Q (.bytes (digB V 2 W) t) { s with heap := h', toks := tk }) :
    wpJ (model PySem.Challenge.rw_dp5010_01.row.prog w) A (call (.ref 22) [.int n t1, .int wi t2]) Q E s := by
  subst ew hV
  exact wpJ_call (i2b hh hdp hun X T (i2b_binds2 X) w1 w2 hr h)
theorem b2iG (hh : A.handled = none) (hdp : A.depth < recursionLimit) (hun : A.units + 20 < cLine) (X : (hd.heap_39 w.params).In s.heap) (T : Top p loose mean mg mb s.heap) {V W : Nat} {t1 : Tok} (w1 : 1 ≤ W) (w2 : W ≤ 1000) (hN : V < 2 ^ W)
    (h : ∀ h' tk t, (∀ b o, s.heap.get? b = some o → h'.get? b = some o) → Q (.int (V : Int) t) { s with heap := h', toks := tk }) :
    wpAny (model PySem.Challenge.rw_dp5010_01.row.prog w) A (call (.ref 38) [.bytes (digB V 2 W) t1]) Q E s := by
  refine wpAny_call (b2i hh hdp hun X T (b2i_binds1 X) w1 (by omega) hN fun h' tk t k => ?_)
  have e : sval false V W = (V : Int) := by simp [sval]
  rw [e]
  exact h h' tk t k
end
end Mine
end
section
open PySem PySem.W PySem.Calls PyProof.Rows
set_option Elab.async false
set_option maxRecDepth 100000
namespace Mine
local macro_rules | `(tactic| k_room) => `(tactic| ((try simp only [depth_under_make, depth_under_kw, depth_in1, depth_deeper, depth_caller]); omega))
local macro_rules | `(tactic| k_all) => `(tactic| first | exact ne_of_allLt (by assumption) (by omega) | exact TabFacts.ne (by assumption) (by decide))
local macro_rules | `(tactic| walk_at "getMethod bytes") => `(tactic| (k_here; refine method_join ?_))
local macro_rules | `(tactic| walk_at "pyIter bytes") => `(tactic| (k_here; refine KBw.pyIter_bytes ?_))
local macro_rules | `(tactic| walk_at "eval Name") => `(tactic| (k_here; (with_reducible show wpAny _ _ (eval (Expr.Name _ _) (genEnv _ _ _ _ _ _)) _ _ _); k_dflt (first
  | (refine' ldVarG ?F ?v ?_ ?k ?x ?d; (case x => rfl); (case k => rfl); (case d => decide); (case F => k_asm); (case v => with_reducible assumption); k_whole)
  | (refine' genName_K ?F ?X ?T ?e ?_ ?k ?x ?d; (case x => rfl); (case k => rfl); (case d => decide); (case F => k_asm); (case X => k_asm); (case T => k_asm); (case e => k_is); k_whole))))
set_option maxHeartbeats 2000000 in
theorem bytes2bits {w : World} {A : Around} {s : Shared} {mg mb : Str → Option Value} {p : Program} {loose : List Str} {mean : ExcName → Option Value} {R : Result → Shared → Prop} {base : Heap} {outer : List Env} {pf : Addr → Array Value} {cds : List (Addr × Obj)}
    (hh : A.handled = none) (hdp : A.depth + 12 < recursionLimit) (hun : A.units + 80 < cLine) (XB : (hd.heap_39 w.params).In base) (TB : Top p loose mean mg mb base) (CH : CodeHd base 52 48)
    (B : Below A base outer s.heap) (D : KtsDicts (frs outer) s.heap) (T0 : Led base s.heap pf cds)
    {b : Array UInt8} {t1 : Tok} {args : Args} (hb : BindsToK (hd.heap_39 w.params) s 53 args [(Str.ofString "data", .bytes b t1)]) (hz : b.size ≤ 10000)
    (hR : ∀ h' tk gs t, Evo (frs outer) base pf cds s.heap h' → (AllBare s.gens → AllBare gs) → R (.ok (.ret (.bytes (bitsOf b) t))) { s with heap := h', toks := tk, gens := gs }) :
    codeJ (model PySem.Challenge.rw_dp5010_01.row.prog w) A (.call (.ref 53) args) R s := by
  obtain ⟨ah, dp, fr, gd, un⟩ := A
  dsimp only at hh hdp hun
  subst hh
  have hst : fr = some outer := B.stack
  subst hst
  have H := T0.toHeld B.frames
  refine' enterNJ (news := led pf cds) B D XB TB.nolimit H ?k6 ?k7 (by dsimp only; omega) ?k9 ?kB ?c5 ?h ?c2 ?c3 ?c4
  case k6 => k_is
  case k7 => k_is
  case k9 => exact hb _ _ (by k_is) rfl
  case kB => exact locs rfl
  case c5 => decide
  case c2 => exact rfl
  case c3 => exact rfl
  case c4 => exact rfl
  intro L h₁ hL F N B₁ D₁
  generalize hg : less s.heap (led pf cds) = g at *
  have X := XB.keeps B₁.stays
  have T := TB.keeps B₁.stays
  have TF := T0.facts
  have l0 : ∀ q ∈ led pf cds, q.1 < L := fun q hq => hL ▸ Heap.lt_size (T0.held q hq).1
  rw [led_eq] at l0
  replace l0 := allLt_of l0
  simp only [AllLt] at l0
  have l0c : AllLt L cds := l0.2.2.2.2.2.2.2.2
  have C₁ : CodeHd g 52 48 := CH.keeps B₁.stays
  rw [led_eq] at N
  clear hb H
  refine J_cons (J_Return (J_MethodCall ?_))
  (change wpAny _ _ _ _ _ _); k_fold
  k_steps
  refine J_callMeth ?_
  (change wpAny _ _ _ _ _ _); k_fold
  k_steps
  refine' gen_eval (prog := PySem.Challenge.rw_dp5010_01.row.prog) (w := w) (n := b.size) (Pv := fun i v => ∃ c u, b[i]? = some c ∧ v = .int (c.toNat : Int) u) (St := fun I i h => KBw.IsBytesIter h I b t1 i) (Fv := fun i y => ∃ t, y = .bytes ((b.toList.map fun c => digB c.toNat 2 8).getD i #[]) t) (clos := []) (news := led pf cds) (m := fun y => List.lookup y [(Str.ofString "data", Value.bytes b t1)].reverse) (h₀ := g)
    F N ?git T C₁ ?gcd ?gU TF ?gps ?gP (fun x hx => hx) ?gh ?groom (fun I A' hA' => KBw.walks hA' I b t1) ?gcl ?gce ?g0 ?gx ?gk ?gco (fun _ => rfl) ?gelt ?gend
  case gcd => exact rfl
  case gU => rw [led_eq]; k_updF
  case gps => exact rfl
  case gh => exact rfl
  case groom => k_room
  case gcl => exact rfl
  case gce => decide
  case g0 => exact rfl
  case gx => exact rfl
  case gk => exact rfl
  case gco => exact rfl
  case gP => (unfold tabQ; (repeat (first | exact List.Mem.head _ | apply List.Mem.tail)))
  case git =>
    (change wpAny _ _ _ _ _ _); k_fold
    k_steps
    exact IterAt.push F N ⟨_, Heap.get?_push_size _ rfl, rfl, rfl⟩
  case gelt =>
    rintro A' Cx code i v s₂ m₂ E' hA' dA' uA' hi ⟨c, u, hc, rfl⟩ F3 hm kp
    have hb8 : inR false (c.toNat : Int) 8 := by
      have := c.toNat_lt
      refine ⟨by omega, ?_⟩
      show (c.toNat : Int) ≤ 256 - 1
      omega
    refine J_callK (K := hd.heap_39 w.params) (f := .ref 22) (by k_is) ?_
    (change wpAny _ _ _ _ _ _); k_fold
    k_steps
    have X3 : (hd.heap_39 w.params).In s₂.heap := X.keeps F3.keep
    have T3 := T.keeps F3.keep
    have dA : A'.depth ≤ dp + 1 + 6 := dA'
    rw [Around.deeper_units] at uA'
    dsimp only at uA'
    have e1 : ((c.toNat : Int) % 2 ^ 8).toNat = c.toNat := by
      have := c.toNat_lt
      omega
    refine' i2bG (W := 8) hA' (by omega) (by omega) ?eX ?eT e8 (by omega) (by omega) hb8 e1 ?eh
    case eX => exact X3
    case eT => exact T3
    intro h' tk t k
    refine ⟨⟨t, ?_⟩, h', tk, rfl, k⟩
    rw [List.getD_eq_getElem?_getD, List.getElem?_map, Array.getElem?_toList, hc]
    rfl
  case gend =>
    intro I c' oc vs t ps' Cx bd gen gs hp tk F3 N3 d1 d2 TF3 ne1 c0 c2 i0 i2 c3 i3 glt bdle cb ib hba G
    (try dsimp only at N3)
    k_steps
    have hl : (b.toList.map fun c => digB c.toNat 2 8).length = b.size := by simp
    have hz2 : sizeLine = 16777216 := by decide
    have hsz : ((b.toList.map fun c => digB c.toNat 2 8).flatMap fun r => r.toList).length ≤ sizeLine := by
      have := bitsOf_size b
      rw [← bitsOf_eq, List.size_toArray] at this
      omega
    refine joinGenJ (bs := b.toList.map fun c => digB c.toNat 2 8) (bd := bd) (C := Cx) (I := I) (g := s.gens.size) rfl (by k_room) (by omega) bdle (Nat.ne_of_gt (Nat.lt_of_lt_of_le cb bdle)) (Nat.ne_of_gt (Nat.lt_of_lt_of_le ib bdle)) ?_ hsz fun s' t' sl => ?_
    · rw [hl]
      exact G _ rfl (by show dp + 1 ≤ dp + 1 + 5; omega) (by show _ + 1 + 1 + 1 ≤ _ + 20; omega)
    · rw [bitsOf_eq]
      have F9 := sl.fr F3 c0 c2 i0 i2 rfl
      have N9 := sl.keepN N3 c3 i3 rfl
      obtain ⟨h', tk', gs', rfl, -, hbr⟩ := sl
      refine hR h' tk' gs' t' (evo_of T0 B.frames (K := hg ▸ KtsTurn.refl) F9 N9 B₁ TF3 fun x hx => ?_) (fun h => hbr (AllBare.push h hba))
      rw [led_eq] at hx
      repeat (rcases List.mem_cons.mp hx with rfl | hx; · (repeat (first | exact List.Mem.head _ | apply List.Mem.tail)))
      repeat (first | exact hx | apply List.Mem.tail)
end Mine
end
section
open PySem PySem.W PySem.Calls PyProof.Rows
set_option Elab.async false
set_option maxRecDepth 100000
namespace Mine
theorem rev_bounds (n : Nat) : sliceBounds none none (some (-1)) n = ((n : Int) - 1, -1, -1) := rfl
theorem rev_sliced (b : Array UInt8) : Builtin.Bytes.sliced b ((b.size : Int) - 1) (-1) (-1) = b.toList.reverse.toArray := by
  unfold Builtin.Bytes.sliced
  rw [krv_sliceRange, krv_range, List.filterMap_reverse]
  congr 2
  apply List.ext_getElem?
  intro i
  have key : ∀ (l : List Nat), (∀ k ∈ l, k < b.size) → l.filterMap (fun x => b[x]?) = l.map fun k => b.toList.getD k 0 := by
    intro l
    induction l with
    | nil => intro _; rfl
    | cons k r ih =>
      intro h
      have hk : k < b.size := h k (.head _)
      rw [List.filterMap_cons, Array.getElem?_eq_getElem hk, List.map_cons, ih fun k' hk' => h k' (.tail _ hk')]
      simp [List.getD_eq_getElem?_getD, hk]
  rw [key _ fun k hk => List.mem_range.mp hk]
  by_cases hi : i < b.size
  · simp [hi, List.getD_eq_getElem?_getD]
  · simp [hi]
open Builtin in
theorem meets_rev (b : Array UInt8) (t tu : Tok) (a : Addr) :
    Meets («bytes.__getitem__» ⟨[.bytes b t, .ref a], []⟩) (fun _ R s => s.heap.IsSliceOf a .none .none (.int (-1) tu) ∧ b.size ≤ sizeLine ∧ ∀ t' k, R (.ok (.ret (.bytes b.toList.reverse.toArray t'))) { s with toks := k }) := by
  refine .of_wp fun prog w A R s hS => ?_
  obtain ⟨⟨o, ho, hc, hd⟩, hsz, h⟩ := hS
  have hT : s.TypeIs (.ref a) "slice" := ⟨o, ho, hc⟩
  show wpAny _ _ (Bytes.payload (.bytes b t) >>= fun r => _) _ _ s
  refine wpAny_bind (wpAny_of_eq (a := b) rfl ?_)
  show wpAny _ _ (Bytes.subscript? (.ref a) >>= fun r => _) _ _ s
  refine wpAny_bind ?_
  unfold Bytes.subscript?
  refine wpAny_bind (wpAny_specialOf hT slice_no_index (wpAny_pure ?_))
  refine wpAny_bind (wpAny_typeOf hT ?_)
  show wpAny _ _ (Bytes.sliceParts (.ref a) >>= fun r => _) _ _ s
  refine wpAny_bind ?_
  unfold Bytes.sliceParts
  refine wpAny_bind (wpAny_field (x := .int (-1) tu) ho hd rfl ?_)
  kby_int
  refine wpAny_ite (KBy.ite_no (show ¬ ((rawInt (-1) == rawInt 0) = true) by decide) ?_)
  refine wpAny_bind (wpAny_field (x := .none) ho hd rfl ?_)
  kby_none
  refine wpAny_bind (wpAny_field (x := .none) ho hd rfl ?_)
  kby_none
  refine wpAny_pure ?_
  have go : wpAny (model prog w) A.in1 (sliceIndices (rawPart none) (rawPart none) (rawPart (some (-1))) b.size) (fun r s' => r = sliceBounds none none (some (-1)) b.size ∧ s' = s) (fun _ _ => False) s :=
    wpAny_of_eq (sliceIndices_raw none none (some (-1)) b.size (by decide)) ⟨rfl, rfl⟩
  refine wpAny_bind (wpAny_mono go (fun r s' hr => ?_) fun _ _ e => e.elim)
  obtain ⟨hr1, hr2⟩ := hr
  subst hr1 hr2
  rw [rev_bounds]
  have hn : ¬ ((((b.size : Int) - 1 == 0 && (-1 : Int) == 1 && (-1 : Int) == (b.size : Int) && !b.isEmpty)) = true) := by simp
  refine wpAny_ite (KBy.ite_no hn ?_)
  rw [rev_sliced]
  exact wpAny_bind (wpAny_mkBytes (wpAny_pure ⟨_, rfl, h _ _⟩) (by simpa using hsz))
section
variable {prog : Program} {w : World} {A : Around} {E : Value → Shared → Prop} {s : Shared} {value slice : PySem.Expr} {b : Array UInt8} {t tu : Tok} {h₀ : Heap} {L : Addr} {m : Str → Option Value} {news : List (Addr × Obj)} {Q : Value → Shared → Prop}
theorem rev_K (hF : Fr h₀ L s.heap m) (hN : News h₀ L s.heap news) (hz : b.size ≤ 16777216)
    (h : ∀ h' t' k, Fr h₀ L h' m → News h₀ L h' news → Q (.bytes b.toList.reverse.toArray t') { s with heap := h', toks := k })
    (hs : subscripted slice false (.bytes b t) (.ref s.heap.objs.size) = operate [.ref s.heap.objs.size, .bytes b t] (getItem (.bytes b t) (.ref s.heap.objs.size)) ∨ subscripted slice false (.bytes b t) (.ref s.heap.objs.size) = operate [.bytes b t, .ref s.heap.objs.size] (getItem (.bytes b t) (.ref s.heap.objs.size)))
    (ht : ∀ r, letTemporaryGo value (.bytes b t) r = pure ()) :
    wpAny (model prog w) A (subscriptTail value slice (.bytes b t) (.ref s.heap.objs.size)) Q E { s with heap := s.heap.push { cls := .type "slice", data := .fields #[.none, .none, .int (-1) tu] } } := by
  rcases hs with hs | hs
  · exact tail_of_ItemOn ⟨"bytes", _, FB.slot_bytes_getitem.lookup, PySem.W.typeIs_bytes _ _ _, getItem_meets (PySem.W.typeIs_bytes _ _ _) (by decide) FB.slot_bytes_getitem FB.entry_bytes_getitem (FB.args_bytes_getitem_2 _ _) (meets_rev b t tu _)
      ⟨Heap.IsSliceOf.new _ _ _ _, by rw [sizeLine_eq]; exact hz, fun t' k => h _ _ _ (hF.push _) (News.pushKeep hN _)⟩⟩ hs ht
  · exact tail_of_ItemOn ⟨"bytes", _, FB.slot_bytes_getitem.lookup, PySem.W.typeIs_bytes _ _ _, getItem_meets (PySem.W.typeIs_bytes _ _ _) (by decide) FB.slot_bytes_getitem FB.entry_bytes_getitem (FB.args_bytes_getitem_2 _ _) (meets_rev b t tu _)
      ⟨Heap.IsSliceOf.new _ _ _ _, by rw [sizeLine_eq]; exact hz, fun t' k => h _ _ _ (hF.push _) (News.pushKeep hN _)⟩⟩ hs ht
end
end Mine
end
section
open PySem PySem.W PySem.Calls PyProof.Rows
set_option Elab.async false
set_option maxRecDepth 100000
namespace Mine
local macro_rules | `(tactic| walk_at "subscriptTail") => `(tactic| (k_here; (with_reducible show wpAny _ _ (subscriptTail _ (Expr.Slice none none (some _) _) (Value.bytes _ _) (Value.ref _)) _ _ _); (with_reducible rename Fr _ _ _ _ => F'); (with_reducible rename News _ _ _ _ => N'); (refine rev_K (s := ⟨_, _, _, _, _⟩) F' N' (by omega) ?_ (by first | (left; with_unfolding_all rfl) | (right; with_unfolding_all rfl)) (by intro _; with_unfolding_all rfl)); intro h' t' k' F' N'))
set_option maxHeartbeats 2000000 in
theorem swapB {w : World} {A : Around} {s : Shared} {mg mb : Str → Option Value} {p : Program} {loose : List Str} {mean : ExcName → Option Value} {R : Result → Shared → Prop}
    (hh : A.handled = none) (hdp : A.depth < recursionLimit) (hun : A.units + 20 < cLine) (X : (hd.heap_39 w.params).In s.heap) (T : Top p loose mean mg mb s.heap)
    {b : Array UInt8} {t1 : Tok} {args : Args} (hb : BindsToK (hd.heap_39 w.params) s 67 args [(Str.ofString "data", .bytes b t1)]) (hz : b.size ≤ 10000)
    (hR : ∀ h' tk t, (∀ b o, s.heap.get? b = some o → h'.get? b = some o) → R (.ok (.ret (.bytes b.toList.reverse.toArray t))) { s with heap := h', toks := tk }) :
    codeAny (model PySem.Challenge.rw_dp5010_01.row.prog w) A (.call (.ref 67) args) R s := by
  refine' enterA X T.nolimit ?k6 ?k7 hdp ?k9 ?kB ?c5 ?h ?c2 ?c3 ?c4
  case k6 => k_is
  case k7 => k_is
  case k9 => exact hb _ _ (by k_is) rfl
  case kB => exact locs rfl
  case c5 => decide
  case c2 => exact rfl
  case c3 => exact rfl
  case c4 => exact rfl
  intro L h₁ hL F Nw
  (change wpAny _ _ _ _ _ _); k_fold
  k_steps
  exact hR _ _ _ (Fr.keep (by assumption))
section
variable {w : World} {A : Around} {E : Value → Shared → Prop} {s : Shared} {mg mb : Str → Option Value} {p : Program} {loose : List Str} {mean : ExcName → Option Value} {Q : Value → Shared → Prop} {a : Value}
theorem swapB_binds : BindsToK (hd.heap_39 w.params) s 67 ⟨[a], []⟩ [(Str.ofString "data", a)] := by
  refine' bindsK_of ?ho ?hb
  case ho => k_is
  case hb => exact BindsTo.of_eq rfl
theorem swapBG (hh : A.handled = none) (hdp : A.depth < recursionLimit) (hun : A.units + 20 < cLine) (X : (hd.heap_39 w.params).In s.heap) (T : Top p loose mean mg mb s.heap) {b : Array UInt8} {t1 : Tok} (hz : b.size ≤ 10000)
    (h : ∀ h' tk t, (∀ b o, s.heap.get? b = some o → h'.get? b = some o) → Q (.bytes b.toList.reverse.toArray t) { s with heap := h', toks := tk }) :
    wpAny (model PySem.Challenge.rw_dp5010_01.row.prog w) A (call (.ref 67) [.bytes b t1]) Q E s :=
  wpAny_call (swapB hh hdp hun X T swapB_binds hz h)
end
end Mine
end
section
open PySem PySem.W PySem.Calls PyProof.Rows
set_option Elab.async false
set_option maxRecDepth 100000
namespace Mine
local macro_rules | `(tactic| k_room) => `(tactic| ((try simp only [depth_under_make, depth_under_kw, depth_in1, depth_deeper, depth_caller]); omega))
local macro_rules | `(tactic| k_all) => `(tactic| first | exact ne_of_allLt (by assumption) (by omega) | exact TabFacts.ne (by assumption) (by decide))
local macro_rules | `(tactic| walk_at "getMethod bytes") => `(tactic| (k_here; refine method_join ?_))
local macro_rules | `(tactic| walk_at "pyIter bytes") => `(tactic| (k_here; refine KBw.pyIter_bytes ?_))
local macro_rules | `(tactic| walk_at "eval Name") => `(tactic| (k_here; (with_reducible show wpAny _ _ (eval (Expr.Name _ _) (genEnv _ _ _ _ _ _)) _ _ _); k_dflt (first
  | (refine' ldVarG ?F ?v ?_ ?k ?x ?d; (case x => rfl); (case k => rfl); (case d => decide); (case F => k_asm); (case v => with_reducible assumption); k_whole)
  | (refine' genName_K ?F ?X ?T ?e ?_ ?k ?x ?d; (case x => rfl); (case k => rfl); (case d => decide); (case F => k_asm); (case X => k_asm); (case T => k_asm); (case e => k_is); k_whole))))
def rev8 (c : Nat) : Nat := ((List.range 8).map fun j => c / 2 ^ j % 2 * 2 ^ (7 - j)).sum
theorem rev8_all : ∀ c : Fin 256, (digB c.val 2 8).toList.reverse.toArray = digB (rev8 c.val) 2 8 ∧ rev8 c.val < 2 ^ 8 := by decide +kernel
theorem rev8_facts {c : Nat} (h : c < 256) : (digB c 2 8).toList.reverse.toArray = digB (rev8 c) 2 8 ∧ rev8 c < 2 ^ 8 := rev8_all ⟨c, h⟩
set_option maxHeartbeats 2000000 in
theorem swapBib {w : World} {A : Around} {s : Shared} {mg mb : Str → Option Value} {p : Program} {loose : List Str} {mean : ExcName → Option Value} {R : Result → Shared → Prop} {base : Heap} {outer : List Env} {pf : Addr → Array Value} {cds : List (Addr × Obj)}
    (hh : A.handled = none) (hdp : A.depth + 12 < recursionLimit) (hun : A.units + 80 < cLine) (XB : (hd.heap_39 w.params).In base) (TB : Top p loose mean mg mb base) (CH : CodeHd base 80 76)
    (B : Below A base outer s.heap) (D : KtsDicts (frs outer) s.heap) (T0 : Led base s.heap pf cds)
    {b : Array UInt8} {t1 : Tok} {args : Args} (hb : BindsToK (hd.heap_39 w.params) s 81 args [(Str.ofString "data", .bytes b t1)]) (hz : b.size ≤ 10000)
    (hR : ∀ h' tk gs t, Evo (frs outer) base pf cds s.heap h' → (AllBare s.gens → AllBare gs) → R (.ok (.ret (.bytes (byteArr (b.toList.map fun c => (rev8 c.toNat : Int))) t))) { s with heap := h', toks := tk, gens := gs }) :
    codeJ (model PySem.Challenge.rw_dp5010_01.row.prog w) A (.call (.ref 81) args) R s := by
  obtain ⟨ah, dp, fr, gd, un⟩ := A
  dsimp only at hh hdp hun
  subst hh
  have hst : fr = some outer := B.stack
  subst hst
  have H := T0.toHeld B.frames
  refine' enterNJ (news := led pf cds) B D XB TB.nolimit H ?k6 ?k7 (by dsimp only; omega) ?k9 ?kB ?c5 ?h ?c2 ?c3 ?c4
  case k6 => k_is
  case k7 => k_is
  case k9 => exact hb _ _ (by k_is) rfl
  case kB => exact locs rfl
  case c5 => decide
  case c2 => exact rfl
  case c3 => exact rfl
  case c4 => exact rfl
  intro L h₁ hL F N B₁ D₁
  generalize hg : less s.heap (led pf cds) = g at *
  have X := XB.keeps B₁.stays
  have T := TB.keeps B₁.stays
  have TF := T0.facts
  have l0 : ∀ q ∈ led pf cds, q.1 < L := fun q hq => hL ▸ Heap.lt_size (T0.held q hq).1
  rw [led_eq] at l0
  replace l0 := allLt_of l0
  simp only [AllLt] at l0
  have l0c : AllLt L cds := l0.2.2.2.2.2.2.2.2
  have C₁ : CodeHd g 80 76 := CH.keeps B₁.stays
  rw [led_eq] at N
  clear hb H
  refine J_cons (J_Return (J_callType (T := "bytes") ?_))
  (change wpAny _ _ _ _ _ _); k_fold
  k_steps
  refine' gen_eval (prog := PySem.Challenge.rw_dp5010_01.row.prog) (w := w) (n := b.size) (Pv := fun i v => ∃ c u, b[i]? = some c ∧ v = .int (c.toNat : Int) u) (St := fun I i h => KBw.IsBytesIter h I b t1 i) (Fv := fun i y => ∃ t, y = .int ((b.toList.map fun c => (rev8 c.toNat : Int)).getD i 0) t) (clos := []) (news := led pf cds) (m := fun y => List.lookup y [(Str.ofString "data", Value.bytes b t1)].reverse) (h₀ := g)
    F N ?git T C₁ ?gcd ?gU TF ?gps ?gP (fun x hx => hx) ?gh ?groom (fun I A' hA' => KBw.walks hA' I b t1) ?gcl ?gce ?g0 ?gx ?gk ?gco (fun _ => rfl) ?gelt ?gend
  case gcd => exact rfl
  case gU => rw [led_eq]; k_updF
  case gps => exact rfl
  case gh => exact rfl
  case groom => k_room
  case gcl => exact rfl
  case gce => decide
  case g0 => exact rfl
  case gx => exact rfl
  case gk => exact rfl
  case gco => exact rfl
  case gP => (unfold tabQ; (repeat (first | exact List.Mem.head _ | apply List.Mem.tail)))
  case git =>
    (change wpAny _ _ _ _ _ _); k_fold
    k_steps
    exact IterAt.push F N ⟨_, Heap.get?_push_size _ rfl, rfl, rfl⟩
  case gelt =>
    rintro A' Cx code i v s₂ m₂ E' hA' dA' uA' hi ⟨c, u, hc, rfl⟩ F3 hm kp
    have hb8 : inR false (c.toNat : Int) 8 := by
      have := c.toNat_lt
      refine ⟨by omega, ?_⟩
      show (c.toNat : Int) ≤ 256 - 1
      omega
    have X3 : (hd.heap_39 w.params).In s₂.heap := X.keeps F3.keep
    have T3 := T.keeps F3.keep
    have dA : A'.depth ≤ dp + 1 + 6 := dA'
    rw [Around.deeper_units] at uA'
    dsimp only at uA'
    have e1 : ((c.toNat : Int) % 2 ^ 8).toNat = c.toNat := by
      have := c.toNat_lt
      omega
    obtain ⟨r1, r2⟩ := rev8_facts c.toNat_lt
    refine J_callK1 (K := hd.heap_39 w.params) (f := .ref 38) (by k_is) ?_
    (change wpAny _ _ _ _ _ _); k_fold
    k_steps
    refine J_callK1 (K := hd.heap_39 w.params) (f := .ref 67) (by k_is) ?_
    (change wpAny _ _ _ _ _ _); k_fold
    k_steps
    refine J_callK (K := hd.heap_39 w.params) (f := .ref 22) (by k_is) ?_
    (change wpAny _ _ _ _ _ _); k_fold
    k_steps
    refine' i2bG (W := 8) hA' (by omega) (by omega) ?eX ?eT e8 (by omega) (by omega) hb8 e1 ?eh
    case eX => exact X3
    case eT => exact T3
    intro h' tk t k
    have X4 : (hd.heap_39 w.params).In h' := X3.keeps k
    have T4 := T3.keeps k
    refine ⟨X4, wpJ_of ?_⟩
    refine' swapBG hA' (by omega) (by omega) ?fX ?fT (by rw [digB_size]; omega) ?fh
    case fX => exact X4
    case fT => exact T4
    intro h2 tk2 t2 k2
    have X5 : (hd.heap_39 w.params).In h2 := X4.keeps k2
    have T5 := T4.keeps k2
    refine ⟨X5, wpJ_of ?_⟩
    rw [r1]
    refine' b2iG hA' (by omega) (by omega) ?gX ?gT (by omega) (by omega) r2 ?gh2
    case gX => exact X5
    case gT => exact T5
    intro h3 tk3 t3 k3
    refine ⟨⟨t3, ?_⟩, h3, tk3, rfl, fun b o e => k3 b o (k2 b o (k b o e))⟩
    rw [List.getD_eq_getElem?_getD, List.getElem?_map, Array.getElem?_toList, hc]
    rfl
  case gend =>
    intro I c' oc vs t ps' Cx bd gen gs hp tk F3 N3 d1 d2 TF3 ne1 c0 c2 i0 i2 c3 i3 glt bdle cb ib hba G
    (try dsimp only at N3)
    k_steps
    have hl : (b.toList.map fun c => (rev8 c.toNat : Int)).length = b.size := by simp
    have hz2 : sizeLine = 16777216 := by decide
    refine callBytesGenJ (ns := b.toList.map fun c => (rev8 c.toNat : Int)) (bd := bd) (C := Cx) (I := I) (g := s.gens.size) rfl (by k_room) (fun n hn => ?_) (by omega) bdle (Nat.ne_of_gt (Nat.lt_of_lt_of_le cb bdle)) (Nat.ne_of_gt (Nat.lt_of_lt_of_le ib bdle)) ?_ fun s' t' sl => ?_
    · obtain ⟨c, _, rfl⟩ := List.mem_map.mp hn
      have := (rev8_facts c.toNat_lt).2
      omega
    · rw [hl]
      exact G _ rfl (by show dp + 1 ≤ dp + 1 + 5; omega) (by show _ + 1 + 1 ≤ _ + 20; omega)
    · have F9 := sl.fr F3 c0 c2 i0 i2 rfl
      have N9 := sl.keepN N3 c3 i3 rfl
      obtain ⟨h', tk', gs', rfl, -, hbr⟩ := sl
      refine hR h' tk' gs' t' (evo_of T0 B.frames (K := hg ▸ KtsTurn.refl) F9 N9 B₁ TF3 fun x hx => ?_) (fun h => hbr (AllBare.push h hba))
      rw [led_eq] at hx
      repeat (rcases List.mem_cons.mp hx with rfl | hx; · (repeat (first | exact List.Mem.head _ | apply List.Mem.tail)))
      repeat (first | exact hx | apply List.Mem.tail)
end Mine
end
section
open PySem PySem.W PySem.Calls PyProof.Rows
set_option Elab.async false
set_option maxRecDepth 100000
namespace Mine
theorem bit_of_oct {V a j : Nat} (hj : j < 8) : V / 2 ^ (8 * a + (7 - j)) % 2 = V / 256 ^ a % 256 / 2 ^ (7 - j) % 2 := by
  have e1 : (256 : Nat) ^ a = 2 ^ (8 * a) := by
    rw [Nat.pow_mul]
  rw [e1, Nat.pow_add, ← Nat.div_div_eq_div_mul]
  generalize V / 2 ^ (8 * a) = x
  have e2 : (256 : Nat) = 2 ^ (7 - j) * 2 ^ (j + 1) := by
    rw [← Nat.pow_add, show 7 - j + (j + 1) = 8 by omega]
  rw [e2, Nat.mod_mul_right_div_self, Nat.mod_mod_of_dvd _ (by rw [Nat.pow_succ]; exact Nat.dvd_mul_left 2 (2 ^ j))]
theorem dig_get {m b c i : Nat} (h : i < c) : (dig m b c)[i]? = some (m / b ^ (c - 1 - i) % b) := by
  unfold dig
  rw [List.getElem?_map, List.getElem?_range h]
  rfl
theorem dig_block {V k i : Nat} (hi : i < k) : ((dig V 2 (8 * k)).drop (8 * i)).take 8 = dig (V / 256 ^ (k - 1 - i) % 256) 2 8 := by
  apply List.ext_getElem?
  intro j
  rw [List.getElem?_take]
  by_cases hj : j < 8
  · rw [if_pos hj, List.getElem?_drop, dig_get (by omega), dig_get hj]
    have e : 8 * k - 1 - (8 * i + j) = 8 * (k - 1 - i) + (7 - j) := by omega
    rw [e, bit_of_oct hj]
  · rw [if_neg hj, List.getElem?_eq_none (by rw [dig_length]; omega)]
theorem dig_flat (V : Nat) : ∀ k n : Nat, n ≤ k → ((dig V 256 k).drop (k - n)).flatMap (fun d => dig d 2 8) = (dig V 2 (8 * k)).drop (8 * (k - n))
  | k, 0, _ => by
    rw [Nat.sub_zero, List.drop_of_length_le (by rw [dig_length]; exact Nat.le_refl _), List.drop_of_length_le (by rw [dig_length]; exact Nat.le_refl _)]
    rfl
  | k, n + 1, h => by
    have hi : k - (n + 1) < (dig V 256 k).length := by rw [dig_length]; omega
    rw [List.drop_eq_getElem_cons hi, List.flatMap_cons, show k - (n + 1) + 1 = k - n by omega, dig_flat V k n (by omega)]
    have e1 : (dig V 256 k)[k - (n + 1)] = V / 256 ^ (k - 1 - (k - (n + 1))) % 256 := by
      have := dig_get (m := V) (b := 256) (c := k) (i := k - (n + 1)) (by omega)
      rw [List.getElem?_eq_getElem hi] at this
      exact Option.some.inj this
    rw [e1, ← dig_block (show k - (n + 1) < k by omega)]
    have e2 : 8 * (k - n) = 8 * (k - (n + 1)) + 8 := by omega
    rw [e2, ← List.drop_drop, List.take_append_drop]
theorem dig_bits (V k : Nat) : (dig V 256 k).flatMap (fun d => dig d 2 8) = dig V 2 (8 * k) := by
  have := dig_flat V k k (Nat.le_refl _)
  rwa [Nat.sub_self, Nat.mul_zero, List.drop_zero, List.drop_zero] at this
theorem dig_lt {m b c d : Nat} (b0 : 0 < b) (h : d ∈ dig m b c) : d < b := by
  unfold dig at h
  obtain ⟨i, _, rfl⟩ := List.mem_map.mp h
  exact Nat.mod_lt _ b0
theorem digB_toList (m b c : Nat) : (digB m b c).toList = (dig m b c).map fun d => d.toUInt8 := rfl
theorem digB_nats (m b c : Nat) (b0 : 0 < b) (b2 : b ≤ 256) : (digB m b c).toList.map (fun x => x.toNat) = dig m b c := by
  rw [digB_toList, List.map_map]
  conv => rhs; rw [← List.map_id (dig m b c)]
  apply List.map_congr_left
  intro d hd
  exact toUInt8_toNat (Nat.lt_of_lt_of_le (dig_lt b0 hd) b2)
/-- the bits of the octets are the bits -/
theorem bitsOf_dig (V k : Nat) : bitsOf (digB V 256 k) = digB V 2 (8 * k) := by
  unfold bitsOf
  apply Array.ext'
  show ((digB V 256 k).toList.flatMap fun c => (digB c.toNat 2 8).toList) = _
  rw [digB_toList V 2, ← dig_bits, List.map_flatMap, ← digB_nats V 256 k (by decide) (by decide), List.flatMap_map]
  rfl
theorem picked_oct {b : Array UInt8} {V k i : Nat} (hb : b = digB V 2 (8 * k)) (hi : i < k) : KBy.picked b (some (0 + (i : Int) * 8)) (some (0 + (i : Int) * 8 + 8)) = digB (V / 256 ^ (k - 1 - i) % 256) 2 8 := by
  rw [KBc.picked_eq]
  have e1 : (0 + (i : Int) * 8) = ((8 * i : Nat) : Int) := by omega
  have e2 : (0 + (i : Int) * 8 + 8) = ((8 * i + 8 : Nat) : Int) := by omega
  rw [e2, e1]
  show ((b.toList.drop (clipAt b.size ((8 * i : Nat) : Int))).take (clipAt b.size ((8 * i + 8 : Nat) : Int) - clipAt b.size ((8 * i : Nat) : Int))).toArray = _
  rw [clipAt_nat, clipAt_nat, hb, digB_size, digB_toList]
  apply Array.ext'
  rw [digB_toList, ← dig_block hi, List.map_take, List.map_drop]
  simp only [Nat.min_eq_left (show 8 * i ≤ 8 * k by omega), Nat.min_eq_left (show 8 * i + 8 ≤ 8 * k by omega)]
  rw [show 8 * i + 8 - 8 * i = 8 by omega]
theorem range8_size {n : Int} {k : Nat} (h : n = 8 * (k : Int)) : Builtin.Range.rangeSize 0 n 8 = (k : Int) := by
  unfold Builtin.Range.rangeSize
  rw [if_pos (by decide)]
  split
  · omega
  · omega
theorem range8_small {n : Int} {k : Nat} (h : n = 8 * (k : Int)) (hk : k ≤ 1000) : Builtin.Range.small 0 n 8 = true := by
  unfold Builtin.Range.small
  rw [range8_size h]
  subst h
  unfold Builtin.Range.rangeFitsLong
  have e63 : (2 : Int) ^ 63 = 9223372036854775808 := by decide +kernel
  simp only [e63, Bool.and_eq_true, Bool.or_eq_true, decide_eq_true_eq, beq_iff_eq, show (8 : Int) > 0 by decide, if_true]
  (try split) <;> omega
section
variable {prog : Program} {w : World} {A : Around} {E : Value → Shared → Prop} {s : Shared} {value slice : PySem.Expr} {b : Array UInt8} {t : Tok} {h₀ : Heap} {L : Addr} {m : Str → Option Value} {news : List (Addr × Obj)} {l u : Value} {lo hi : Option Int} {Q : Value → Shared → Prop}
/-- a slice of a row of bytes, the heap that it leaves told whole -/
theorem slice_X (hF : Fr h₀ L s.heap m) (hN : News h₀ L s.heap news) (hl : IsPart l lo) (hu : IsPart u hi) (hz : b.size ≤ 16777216)
    (h : ∀ t' k, Fr h₀ L (s.heap.push { cls := .type "slice", data := .fields #[l, u, .none] }) m → News h₀ L (s.heap.push { cls := .type "slice", data := .fields #[l, u, .none] }) news → Q (.bytes (KBy.picked b lo hi) t') { s with heap := s.heap.push { cls := .type "slice", data := .fields #[l, u, .none] }, toks := k })
    (hs : subscripted slice false (.bytes b t) (.ref s.heap.objs.size) = operate [.ref s.heap.objs.size, .bytes b t] (getItem (.bytes b t) (.ref s.heap.objs.size)))
    (ht : ∀ r, letTemporaryGo value (.bytes b t) r = pure ()) :
    wpAny (model prog w) A (subscriptTail value slice (.bytes b t) (.ref s.heap.objs.size)) Q E { s with heap := s.heap.push { cls := .type "slice", data := .fields #[l, u, .none] } } :=
  tail_of_ItemOn ⟨"bytes", _, FB.slot_bytes_getitem.lookup, PySem.W.typeIs_bytes _ _ _, getItem_meets (PySem.W.typeIs_bytes _ _ _) (by decide) FB.slot_bytes_getitem FB.entry_bytes_getitem (FB.args_bytes_getitem_2 _ _) (KBc.meets_slice2 b t _ hl hu)
    ⟨Heap.IsSliceOf.new _ _ _ _, Nat.le_trans (KBc.size_picked_le b lo hi) (by rw [sizeLine_eq]; exact hz), fun t' k => h _ _ (hF.push _) (News.pushKeep hN _)⟩⟩ hs ht
end
theorem oct_lt (V a : Nat) : V / 256 ^ a % 256 < 2 ^ 8 := Nat.mod_lt _ (by decide)
end Mine
end
section
open PySem PySem.W PySem.Calls PyProof.Rows
set_option Elab.async false
set_option maxRecDepth 100000
namespace Mine
local macro_rules | `(tactic| k_room) => `(tactic| ((try simp only [depth_under_make, depth_under_kw, depth_in1, depth_deeper, depth_caller]); omega))
local macro_rules | `(tactic| k_all) => `(tactic| first | exact ne_of_allLt (by assumption) (by omega) | exact TabFacts.ne (by assumption) (by decide))
local macro_rules | `(tactic| walk_at "getMethod bytes") => `(tactic| (k_here; refine method_join ?_))
local macro_rules | `(tactic| walk_at "pyIter bytes") => `(tactic| (k_here; refine KBw.pyIter_bytes ?_))
local macro_rules | `(tactic| walk_at "eval Name") => `(tactic| (k_here; (with_reducible show wpAny _ _ (eval (Expr.Name _ _) (genEnv _ _ _ _ _ _)) _ _ _); k_dflt (first
  | (refine' ldVarG ?F ?v ?_ ?k ?x ?d; (case x => rfl); (case k => rfl); (case d => decide); (case F => k_asm); (case v => with_reducible assumption); k_whole)
  | (refine' genName_F ?N ?c ?m ?d ?_ ?k ?x ?e ?b; (case x => rfl); (case k => rfl); (case e => decide); (case b => decide); (case N => k_asm); (case c => rfl); (case m => k_mem); (case d => k_asm); k_whole)
  | (refine' genName_K ?F ?X ?T ?e ?_ ?k ?x ?d; (case x => rfl); (case k => rfl); (case d => decide); (case F => k_asm); (case X => k_asm); (case T => k_asm); (case e => k_is); k_whole))))
local macro_rules | `(tactic| walk_at "exec Raise some none") => `(tactic| (exfalso; contradiction))
local macro_rules | `(tactic| walk_at "subscriptTail") => `(tactic| (k_here; (with_reducible show wpAny _ _ (subscriptTail _ (Expr.Slice _ _ none _) (Value.bytes _ _) (Value.ref _)) _ _ _); (with_reducible rename Fr _ _ _ _ => F'); (with_reducible rename News _ _ _ _ => N'); k_dflt (refine' slice_X (s := ⟨_, _, _, _, _⟩) F' N' ?p1 ?p2 ?p3 ?_ ?p4 ?p5; (case p1 => constructor); (case p2 => constructor); (case p3 => assumption); (case p4 => with_unfolding_all rfl); (case p5 => (intro _; with_unfolding_all rfl))); intro t' k' F' N'))
set_option maxHeartbeats 1000000 in
theorem bits2bytesOk {w : World} {A : Around} {s : Shared} {mg mb : Str → Option Value} {p : Program} {loose : List Str} {mean : ExcName → Option Value} {R : Result → Shared → Prop} {base : Heap} {outer : List Env} {pf : Addr → Array Value} {cds : List (Addr × Obj)}
    (hh : A.handled = none) (hdp : A.depth + 12 < recursionLimit) (hun : A.units + 80 < cLine) (XB : (hd.heap_39 w.params).In base) (TB : Top p loose mean mg mb base) (CH : CodeHd base 59 55)
    (B : Below A base outer s.heap) (D : KtsDicts (frs outer) s.heap) (T0 : Led base s.heap pf cds)
    {b : Array UInt8} {V k : Nat} {ks : List Int} {t1 : Tok} {args : Args} (hb : BindsToK (hd.heap_39 w.params) s 60 args [(Str.ofString "data", .bytes b t1)]) (hbe : b = digB V 2 (8 * k)) (hk : KBw.bInts b = ks) (hz : k ≤ 1000) (hV : V < 256 ^ k)
    (hR : ∀ h' tk gs t, Evo (frs outer) base pf cds s.heap h' → (AllBare s.gens → AllBare gs) → R (.ok (.ret (.bytes (digB V 256 k) t))) { s with heap := h', toks := tk, gens := gs }) :
    codeJ (model PySem.Challenge.rw_dp5010_01.row.prog w) A (.call (.ref 60) args) R s := by
  obtain ⟨ah, dp, fr, gd, un⟩ := A
  dsimp only at hh hdp hun
  subst hh
  have hst : fr = some outer := B.stack
  subst hst
  have H := T0.toHeld B.frames
  refine' enterCJ (news := led pf cds) B D XB TB.nolimit H ?k6 ?k7 (by dsimp only; omega) ?k9 ?kB ?kD ?h ?c2 ?c3 ?c4
  case k6 => k_is
  case k7 => k_is
  case k9 => exact hb _ _ (by k_is) rfl
  case kB => exact kindsX rfl
  case kD => decide +kernel
  case c2 => exact rfl
  case c3 => exact rfl
  case c4 => exact rfl
  intro L h₁ tk₀ cells hL F N Y B₁ D₁
  k_cells Y
  generalize hg : less s.heap (led pf cds) = g at *
  have X := XB.keeps B₁.stays
  have T := TB.keeps B₁.stays
  have TF := T0.facts
  have l0 : ∀ q ∈ led pf cds, q.1 < L := fun q hq => hL ▸ Heap.lt_size (T0.held q hq).1
  rw [led_eq] at l0
  replace l0 := allLt_of l0
  simp only [AllLt] at l0
  have l0c : AllLt L cds := l0.2.2.2.2.2.2.2.2
  have C₁ : CodeHd g 59 55 := CH.keeps B₁.stays
  have hl8 : (ks.length : Int) = 8 * (k : Int) := by
    have := KBw.ints_length b
    rw [hk, hbe, digB_size] at this
    omega
  have hf8 : (ks.length : Int).fmod 8 = 0 := by
    rw [hl8, Int.fmod_eq_emod_of_nonneg _ (by decide)]
    omega
  have hks : ks.length ≤ 100000 := by omega
  have hbz : b.size ≤ 16777216 := by rw [hbe, digB_size]; omega
  rw [led_eq] at N
  simp only [List.cons_append, List.nil_append] at N
  clear hb H
  refine J_step ?_
  (change wpAny _ _ _ _ _ _); k_fold
  k_steps
  refine J_cons (J_Return (J_callType (T := "bytes") ?_))
  (change wpAny _ _ _ _ _ _); k_fold
  k_steps
  rename Fr _ _ _ _ => F2
  rename News _ _ _ _ => N2
  refine' gen_eval (prog := PySem.Challenge.rw_dp5010_01.row.prog) (w := w) (n := k) (Pv := fun i v => ∃ t, v = .int (0 + (i : Int) * 8) t) (St := fun I i h => IsRangeIter h I (0 + (i : Nat) * 8) ((k : Int) - (i : Nat)) 8) (Fv := fun i y => ∃ t, y = .int (((dig V 256 k).map fun (d : Nat) => (d : Int)).getD i 0) t)
    F2 N2 ?git T C₁ ?gcd ?gU TF ?gps ?gP ?gsub ?gh ?groom (fun I A' hA' => Walks.range hA' I 0 8 k) ?gcl ?gce ?g0 ?gx ?gk ?gco (fun _ => rfl) ?gelt ?gend
  case gcd => exact rfl
  case gU => k_updF
  case gps => exact rfl
  case gh => exact rfl
  case groom => k_room
  case gcl => exact rfl
  case gce => decide
  case g0 => exact rfl
  case gx => exact rfl
  case gk => exact rfl
  case gco => exact rfl
  case gP => (unfold tabQ; (repeat (first | exact List.Mem.head _ | apply List.Mem.tail)))
  case gsub =>
    intro x hx
    rw [led_eq] at hx
    repeat (rcases List.mem_cons.mp hx with rfl | hx; · (repeat (first | exact List.Mem.head _ | apply List.Mem.tail)))
    repeat (first | exact hx | apply List.Mem.tail)
  case git =>
    (change wpAny _ _ _ _ _ _); k_fold
    k_steps
    rename IsRange _ _ _ _ _ _ _ _ => hr
    rename Fr _ _ _ _ => F3
    rename News _ _ _ _ => N3
    refine wpAny_pyIter_range hr (range8_small hl8 hz) ?_
    refine IterAt.push F3 N3 ?_
    rw [range8_size hl8]
    simpa using Heap.get?_push_size _ rfl
  case gelt =>
    rintro A' Cx code i v s₂ m₂ E' hA' dA' uA' hi ⟨ti, rfl⟩ F3 hm kp
    have X3 : (hd.heap_39 w.params).In s₂.heap := X.keeps F3.keep
    have T3 := T.keeps F3.keep
    have dA : A'.depth ≤ dp + 1 + 6 := dA'
    rw [Around.deeper_units] at uA'
    dsimp only at uA'
    have kc := kp _ (List.Mem.head _) (Nat.ne_of_gt (show 55 < L + 1 by omega))
    have N3 : News g Cx s₂.heap [_] := fun q hq => (List.mem_singleton.mp hq) ▸ kc
    refine J_callK (K := hd.heap_39 w.params) (f := .ref 38) (by k_is) ?_
    (change wpAny _ _ _ _ _ _); k_fold
    k_steps
    rw [picked_oct hbe hi]
    refine wpJ_of ?_
    refine' b2iG hA' (by omega) (by omega) ?eX ?eT (by omega) (by omega) (oct_lt _ _) ?eh
    case eX => exact X3.keeps fun b o e => Heap.get?_push_of_some _ e
    case eT => exact T3.keeps fun b o e => Heap.get?_push_of_some _ e
    intro h3 tk3 t3 k3
    refine ⟨⟨t3, ?_⟩, h3, tk3, rfl, fun b o e => k3 b o (Heap.get?_push_of_some _ e)⟩
    rw [List.getD_eq_getElem?_getD, List.getElem?_map, dig_get hi]
    rfl
  case gend =>
    intro I c' oc vs t ps' Cx bd gen gs hp tk F3 N3 d1 d2 TF3 ne1 c0 c2 i0 i2 c3 i3 glt bdle cb ib hba G
    (try dsimp only at N3)
    k_steps
    have hl : ((dig V 256 k).map fun (d : Nat) => (d : Int)).length = k := by rw [List.length_map, dig_length]
    have hz2 : sizeLine = 16777216 := by decide
    refine callBytesGenJ (ns := (dig V 256 k).map fun (d : Nat) => (d : Int)) (bd := bd) (C := Cx) (I := I) (g := s.gens.size) rfl (by k_room) (dig_range (by decide) (by decide)) (by omega) bdle (Nat.ne_of_gt (Nat.lt_of_lt_of_le cb bdle)) (Nat.ne_of_gt (Nat.lt_of_lt_of_le ib bdle)) ?_ fun s' t' sl => ?_
    · rw [hl]
      exact G _ rfl (by show dp + 1 ≤ dp + 1 + 5; omega) (by show _ + 1 + 1 ≤ _ + 20; omega)
    · rw [byteArr_dig]
      have F9 := sl.fr F3 c0 c2 i0 i2 rfl
      have N9 := sl.keepN N3 c3 i3 rfl
      obtain ⟨h', tk', gs', rfl, -, hbr⟩ := sl
      refine hR h' tk' gs' t' (evo_of T0 B.frames (K := hg ▸ KtsTurn.refl) F9 N9 B₁ TF3 fun x hx => ?_) (fun h => hbr (AllBare.push h hba))
      rw [led_eq] at hx
      repeat (rcases List.mem_cons.mp hx with rfl | hx; · (repeat (first | exact List.Mem.head _ | apply List.Mem.tail)))
      repeat (first | exact hx | apply List.Mem.tail)
end Mine
end
section
open PySem PySem.W PySem.Calls PyProof.Rows
set_option Elab.async false
set_option maxRecDepth 100000
namespace Mine
theorem sub_ri_reversed : isSubtype (.type "range_iterator") (.type "reversed") = pure false := by rw [isSubtype_type]; kernel_rfl
abbrev riObj (x n c : Int) : Obj := { cls := .type "range_iterator", data := .fields #[rawInt x, rawInt n, rawInt c] }
def revSmall (a b c : Int) : Bool := Builtin.Range.rangeFitsLong a && Builtin.Range.rangeFitsLong b && Builtin.Range.rangeFitsLong c && Builtin.Range.rangeFitsLong (-c) && Builtin.Range.rangeFitsLong (a - c) && Builtin.Range.rangeFitsLong (Builtin.Range.rangeSize a b c)
section
variable {prog : Program} {w : World} {A : Around} {E : Value → Shared → Prop} {s : Shared} {r : Addr} {a b c : Int} {t u v : Tok}
theorem call_range_reversed {Q : Value → Shared → Prop} (hr : IsRange s.heap r a b c t u v) (hsm : revSmall a b c = true)
    (h : Q (.ref s.heap.objs.size) { s with heap := s.heap.push (riObj (a + (Builtin.Range.rangeSize a b c - 1) * c) (Builtin.Range.rangeSize a b c) (-c)) }) : wpAny (model prog w) A (call (.builtin "range.__reversed__") [.ref r]) Q E s := by
  have hT : s.TypeIs (.ref r) "range" := ⟨_, hr, rfl⟩
  refine wpAny_call_entry F.slot_range_reversed hT F.entry_range_reversed ?_ (F.args_range_reversed_1 _)
  unfold Builtin.«range.__reversed__»
  refine wpAny_bind (wpAny_of_eq (a := Value.ref r) rfl ?_)
  refine wpAny_bind ?_
  unfold Builtin.Range.rangeFields
  refine wpAny_bind (wpAny_field hr rfl (x := .int a t) rfl ?_)
  refine wpAny_bind (wpAny_of_eq (a := some a) rfl ?_)
  refine wpAny_bind (wpAny_field hr rfl (x := .int b u) rfl ?_)
  refine wpAny_bind (wpAny_of_eq (a := some b) rfl ?_)
  refine wpAny_bind (wpAny_field hr rfl (x := .int c v) rfl ?_)
  refine wpAny_bind (wpAny_of_eq (a := some c) rfl ?_)
  refine wpAny_pure ?_
  unfold revSmall at hsm
  dsimp only
  rw [hsm]
  refine bm_if_false rfl ?_
  exact wpAny_bind (wpAny_newObj_type (wpAny_pure ⟨_, rfl, h⟩))
theorem code_reversed_range {Q₁ : Value → Shared → Prop} (hr : IsRange s.heap r a b c t u v) (hsm : revSmall a b c = true)
    (h : Q₁ (.ref s.heap.objs.size) { s with heap := s.heap.push (riObj (a + (Builtin.Range.rangeSize a b c - 1) * c) (Builtin.Range.rangeSize a b c) (-c)) }) :
    codeAny (model prog w) A (.call (.builtin "reversed.__new__") ⟨[.type "reversed", .ref r], []⟩) (wants Q₁ E) s := by
  have hT : s.TypeIs (.ref r) "range" := ⟨_, hr, rfl⟩
  refine codeAny_of_tree ?_
  show wpAny _ A.in1 (do checkBuiltinCall "reversed.__new__" ⟨[.type "reversed", .ref r], []⟩; again (.builtin "reversed.__new__" ⟨[.type "reversed", .ref r], []⟩)) _ _ s
  refine wpAny_bind (wpAny_of_eq (F.newCall_reversed_1 _) (wpAny_pure ⟨plainId_quiet F.plain_reversed_new _, codeAny_builtin F.entry_reversed_new ?_⟩))
  rw [Around.under_plainId F.plain_reversed_new _]
  unfold Builtin.«reversed.__new__»
  refine wpAny_bind (wpAny_of_eq (newClass_reversed _) ?_)
  try dsimp only
  refine wpAny_bind (wpAny_of_eq (a := ()) (by first | rfl | kernel_rfl) ?_)
  refine wpAny_bind (wpAny_of_eq (a := ()) (by first | rfl | kernel_rfl) ?_)
  try dsimp only
  refine wpAny_bind (wpAny_specialOf hT F.slot_range_reversed.lookup ?_)
  try dsimp only
  refine wpAny_bind (wpAny_of_eq (F.slot_range_reversed.bind _) ?_)
  try dsimp only
  first
  | rw [if_neg (show ¬ ((Value.builtin "range.__reversed__" == Value.none) = true) from Bool.false_ne_true)]
  | (show wpAny _ _ (if (Value.builtin "range.__reversed__" == Value.none) = true then _ else _) _ _ _; rw [if_neg (show ¬ ((Value.builtin "range.__reversed__" == Value.none) = true) from Bool.false_ne_true)])
  refine wpAny_bind (wpAny_rule ?_)
  refine wpAny_bind (m := runValue (.call (.builtin "range.__reversed__") ⟨[.ref r], []⟩)) (show wpAny _ _ (call (.builtin "range.__reversed__") [.ref r]) _ _ _ from call_range_reversed hr hsm ?_)
  first
  | exact wpAny_pure h
  | exact wpAny_bind (wpAny_pure (wpAny_pure h))
theorem call_reversed_range {Q : Value → Shared → Prop} (hr : IsRange s.heap r a b c t u v) (hsm : revSmall a b c = true)
    (h : Q (.ref s.heap.objs.size) { s with heap := s.heap.push (riObj (a + (Builtin.Range.rangeSize a b c - 1) * c) (Builtin.Range.rangeSize a b c) (-c)) }) : wpAny (model prog w) A (call (.type "reversed") [.ref r]) Q E s := by
  refine callType_other (U := "range_iterator") (Q₁ := fun obj s₁ => obj = .ref s.heap.objs.size ∧ s₁ = { s with heap := s.heap.push (riObj (a + (Builtin.Range.rangeSize a b c - 1) * c) (Builtin.Range.rangeSize a b c) (-c)) }) (by decide +kernel) F.create_reversed ⟨_, _, F.mro_reversed⟩ F.made_reversed sub_ri_reversed (F.typeCall_reversed_1 _) (code_reversed_range hr hsm ⟨rfl, rfl⟩) ?_
  rintro obj s₁ ⟨rfl, rfl⟩
  exact ⟨⟨_, Heap.get?_push_size _ rfl, rfl⟩, h⟩
end
theorem range8_rev {n : Int} {k : Nat} (h : n = 8 * (k : Int)) (hk : k ≤ 1000) : revSmall 0 n 8 = true := by
  unfold revSmall
  rw [range8_size h]
  subst h
  unfold Builtin.Range.rangeFitsLong
  have e63 : (2 : Int) ^ 63 = 9223372036854775808 := by decide +kernel
  simp only [e63, Bool.and_eq_true, decide_eq_true_eq]
  omega
end Mine
end
section
open PySem PySem.W PySem.Calls PyProof.Rows
set_option Elab.async false
set_option maxRecDepth 100000
namespace Mine
local macro_rules | `(tactic| k_room) => `(tactic| ((try simp only [depth_under_make, depth_under_kw, depth_in1, depth_deeper, depth_caller]); omega))
local macro_rules | `(tactic| k_all) => `(tactic| first | exact ne_of_allLt (by assumption) (by omega) | exact TabFacts.ne (by assumption) (by decide))
local macro_rules | `(tactic| walk_at "getMethod bytes") => `(tactic| (k_here; refine method_join ?_))
local macro_rules | `(tactic| walk_at "pyIter bytes") => `(tactic| (k_here; refine KBw.pyIter_bytes ?_))
local macro_rules | `(tactic| walk_at "eval Name") => `(tactic| (k_here; (with_reducible show wpAny _ _ (eval (Expr.Name _ _) (genEnv _ _ _ _ _ _)) _ _ _); k_dflt (first
  | (refine' ldVarG ?F ?v ?_ ?k ?x ?d; (case x => rfl); (case k => rfl); (case d => decide); (case F => k_asm); (case v => with_reducible assumption); k_whole)
  | (refine' genName_F ?N ?c ?m ?d ?_ ?k ?x ?e ?b; (case x => rfl); (case k => rfl); (case e => decide); (case b => decide); (case N => k_asm); (case c => rfl); (case m => k_mem); (case d => k_asm); k_whole)
  | (refine' genName_K ?F ?X ?T ?e ?_ ?k ?x ?d; (case x => rfl); (case k => rfl); (case d => decide); (case F => k_asm); (case X => k_asm); (case T => k_asm); (case e => k_is); k_whole))))
local macro_rules | `(tactic| walk_at "exec Raise some none") => `(tactic| (exfalso; contradiction))
local macro_rules | `(tactic| walk_at "subscriptTail") => `(tactic| (k_here; (with_reducible show wpAny _ _ (subscriptTail _ (Expr.Slice _ _ none _) (Value.bytes _ _) (Value.ref _)) _ _ _); (with_reducible rename Fr _ _ _ _ => F'); (with_reducible rename News _ _ _ _ => N'); k_dflt (refine' slice_X (s := ⟨_, _, _, _, _⟩) F' N' ?p1 ?p2 ?p3 ?_ ?p4 ?p5; (case p1 => constructor); (case p2 => constructor); (case p3 => assumption); (case p4 => with_unfolding_all rfl); (case p5 => (intro _; with_unfolding_all rfl))); intro t' k' F' N'))
local macro_rules | `(tactic| walk_at "getMethod bytes") => `(tactic| (k_here; refine method_join ?_))
/-- the bits, their octets turned about -/
def turnB (V k : Nat) : Array UInt8 := (((dig V 256 k).reverse.map fun d => digB d 2 8).flatMap fun r => r.toList).toArray
theorem turn_size (V k : Nat) : (((dig V 256 k).reverse.map fun d => digB d 2 8).flatMap fun r => r.toList).length = 8 * k := by
  rw [List.length_flatMap, List.map_map]
  have : ∀ l : List Nat, (l.map ((fun r : Array UInt8 => r.toList.length) ∘ fun d => digB d 2 8)).sum = 8 * l.length := by
    intro l
    induction l with
    | nil => rfl
    | cons x r ih => rw [List.map_cons, List.sum_cons, ih, List.length_cons]; simp only [Function.comp, Array.length_toList, digB_size]; omega
  rw [this, List.length_reverse, dig_length]
structure EltAt (Fv : Nat → Value → Prop) (i : Nat) (s : Shared) (y : Value) (s₃ : Shared) : Prop where
  out : Fv i y ∧ ∃ h' tk, s₃ = { s with heap := h', toks := tk } ∧ ∀ b o, s.heap.get? b = some o → h'.get? b = some o
theorem revWalks {prog : Program} {w : World} {A : Around} (hh : A.handled = none) (I : Addr) (k : Nat) :
    Walks prog w A I [I] [I] k (fun i v => ∃ t, v = .int (0 + ((k - 1 - i : Nat) : Int) * 8) t) (fun i h => IsRangeIter h I (0 + ((k : Int) - 1) * 8 + (i : Nat) * (-8)) ((k : Int) - (i : Nat)) (-8)) :=
  have W := Walks.range (prog := prog) (w := w) hh I (0 + ((k : Int) - 1) * 8) (-8) k
  { sub := W.sub
    frame := W.frame
    item := fun i s Q E hi st hQ => W.item i s Q E hi st fun v h' tk hv => hQ v h' tk (by
      obtain ⟨t, e⟩ := hv
      refine ⟨t, e.trans ?_⟩
      have : (0 + ((k : Int) - 1) * 8 + (i : Int) * (-8)) = 0 + ((k - 1 - i : Nat) : Int) * 8 := by omega
      rw [this])
    done := W.done
    self := W.self }
set_option maxHeartbeats 1000000 in
theorem swapBiBits {w : World} {A : Around} {s : Shared} {mg mb : Str → Option Value} {p : Program} {loose : List Str} {mean : ExcName → Option Value} {R : Result → Shared → Prop} {base : Heap} {outer : List Env} {pf : Addr → Array Value} {cds : List (Addr × Obj)}
    (hh : A.handled = none) (hdp : A.depth + 12 < recursionLimit) (hun : A.units + 80 < cLine) (XB : (hd.heap_39 w.params).In base) (TB : Top p loose mean mg mb base) (CH : CodeHd base 73 69)
    (B : Below A base outer s.heap) (D : KtsDicts (frs outer) s.heap) (T0 : Led base s.heap pf cds)
    {b : Array UInt8} {V k : Nat} {ks : List Int} {t1 : Tok} {args : Args} (hb : BindsToK (hd.heap_39 w.params) s 74 args [(Str.ofString "data", .bytes b t1)]) (hbe : b = digB V 2 (8 * k)) (hk : KBw.bInts b = ks) (hz : k ≤ 1000) (hV : V < 256 ^ k)
    (hR : ∀ h' tk gs t, Evo (frs outer) base pf cds s.heap h' → (AllBare s.gens → AllBare gs) → R (.ok (.ret (.bytes (turnB V k) t))) { s with heap := h', toks := tk, gens := gs }) :
    codeJ (model PySem.Challenge.rw_dp5010_01.row.prog w) A (.call (.ref 74) args) R s := by
  obtain ⟨ah, dp, fr, gd, un⟩ := A
  dsimp only at hh hdp hun
  subst hh
  have hst : fr = some outer := B.stack
  subst hst
  have H := T0.toHeld B.frames
  refine' enterCJ (news := led pf cds) B D XB TB.nolimit H ?k6 ?k7 (by dsimp only; omega) ?k9 ?kB ?kD ?h ?c2 ?c3 ?c4
  case k6 => k_is
  case k7 => k_is
  case k9 => exact hb _ _ (by k_is) rfl
  case kB => exact kindsX rfl
  case kD => decide +kernel
  case c2 => exact rfl
  case c3 => exact rfl
  case c4 => exact rfl
  intro L h₁ tk₀ cells hL F N Y B₁ D₁
  k_cells Y
  generalize hg : less s.heap (led pf cds) = g at *
  have X := XB.keeps B₁.stays
  have T := TB.keeps B₁.stays
  have TF := T0.facts
  have l0 : ∀ q ∈ led pf cds, q.1 < L := fun q hq => hL ▸ Heap.lt_size (T0.held q hq).1
  rw [led_eq] at l0
  replace l0 := allLt_of l0
  simp only [AllLt] at l0
  have l0c : AllLt L cds := l0.2.2.2.2.2.2.2.2
  have C₁ : CodeHd g 73 69 := CH.keeps B₁.stays
  have hl8 : (ks.length : Int) = 8 * (k : Int) := by
    have := KBw.ints_length b
    rw [hk, hbe, digB_size] at this
    omega
  have hf8 : (ks.length : Int).fmod 8 = 0 := by
    rw [hl8, Int.fmod_eq_emod_of_nonneg _ (by decide)]
    omega
  have hks : ks.length ≤ 100000 := by omega
  have hbz : b.size ≤ 16777216 := by rw [hbe, digB_size]; omega
  rw [led_eq] at N
  simp only [List.cons_append, List.nil_append] at N
  clear hb H
  refine J_step ?_
  (change wpAny _ _ _ _ _ _); k_fold
  k_steps
  refine J_cons (J_Return (J_MethodCall ?_))
  (change wpAny _ _ _ _ _ _); k_fold
  k_steps
  refine J_callMeth ?_
  (change wpAny _ _ _ _ _ _); k_fold
  k_steps
  rename Fr _ _ _ _ => F2
  rename News _ _ _ _ => N2
  refine' gen_eval (prog := PySem.Challenge.rw_dp5010_01.row.prog) (w := w) (n := k) (Pv := fun i v => ∃ t, v = .int (0 + ((k - 1 - i : Nat) : Int) * 8) t) (St := fun I i h => IsRangeIter h I (0 + ((k : Int) - 1) * 8 + (i : Nat) * (-8)) ((k : Int) - (i : Nat)) (-8)) (Fv := fun i y => ∃ t, y = .bytes (((dig V 256 k).reverse.map fun d => digB d 2 8).getD i #[]) t)
    F2 N2 ?git T C₁ ?gcd ?gU TF ?gps ?gP ?gsub ?gh ?groom (fun I A' hA' => revWalks hA' I k) ?gcl ?gce ?g0 ?gx ?gk ?gco (fun _ => rfl) ?gelt ?gend
  case gcd => exact rfl
  case gU => k_updF
  case gps => exact rfl
  case gh => exact rfl
  case groom => k_room
  case gcl => exact rfl
  case gce => decide
  case g0 => exact rfl
  case gx => exact rfl
  case gk => exact rfl
  case gco => exact rfl
  case gP => (unfold tabQ; (repeat (first | exact List.Mem.head _ | apply List.Mem.tail)))
  case gsub =>
    intro x hx
    rw [led_eq] at hx
    repeat (rcases List.mem_cons.mp hx with rfl | hx; · (repeat (first | exact List.Mem.head _ | apply List.Mem.tail)))
    repeat (first | exact hx | apply List.Mem.tail)
  case git =>
    (change wpAny _ _ _ _ _ _); k_fold
    k_steps
    rename IsRange _ _ _ _ _ _ _ _ => hr
    rename Fr _ _ _ _ => F3
    rename News _ _ _ _ => N3
    refine call_reversed_range hr (range8_rev hl8 hz) ?_
    k_steps
    refine wpAny_pyIter_rangeiter (Heap.get?_push_size _ rfl) ?_
    refine IterAt.push F3 N3 ?_
    rw [range8_size hl8]
    simpa using Heap.get?_push_size _ rfl
  case gelt =>
    rintro A' Cx code i v s₂ m₂ E' hA' dA' uA' hi ⟨ti, rfl⟩ F3 hm kp
    have hi2 : k - 1 - i < k := by omega
    have kc := kp _ (List.Mem.head _) (Nat.ne_of_gt (show 69 < L + 1 by omega))
    have N3 : News g Cx s₂.heap [_] := fun q hq => (List.mem_singleton.mp hq) ▸ kc
    refine wpJ_of (wpAny_mono (Q := fun y s₃ => EltAt (fun i y => ∃ t, y = .bytes (((dig V 256 k).reverse.map fun d => digB d 2 8).getD i #[]) t) i s₂ y s₃) ?_ (fun y s₃ h => h.out) fun _ _ x => x)
    (change wpAny _ _ _ _ _ _); k_fold
    k_steps
    refine ⟨⟨_, congrArg (fun z => Value.bytes z _) ?_⟩, _, _, rfl, fun b o e => Heap.get?_push_of_some _ e⟩
    rw [picked_oct hbe hi2, List.getD_eq_getElem?_getD, List.getElem?_map, List.getElem?_reverse (by rw [dig_length]; exact hi), dig_length, dig_get hi2]
    rfl
  case gend =>
    intro I c' oc vs t ps' Cx bd gen gs hp tk F3 N3 d1 d2 TF3 ne1 c0 c2 i0 i2 c3 i3 glt bdle cb ib hba G
    (try dsimp only at N3)
    k_steps
    have hl : ((dig V 256 k).reverse.map fun d => digB d 2 8).length = k := by rw [List.length_map, List.length_reverse, dig_length]
    have hz2 : sizeLine = 16777216 := by decide
    refine joinGenJ (bs := (dig V 256 k).reverse.map fun d => digB d 2 8) (bd := bd) (C := Cx) (I := I) (g := s.gens.size) rfl (by k_room) (by omega) bdle (Nat.ne_of_gt (Nat.lt_of_lt_of_le cb bdle)) (Nat.ne_of_gt (Nat.lt_of_lt_of_le ib bdle)) ?_ (by rw [turn_size]; omega) fun s' t' sl => ?_
    · rw [hl]
      exact G _ rfl (by show dp + 1 ≤ dp + 1 + 5; omega) (by show _ + 1 + 1 + 1 ≤ _ + 20; omega)
    · have F9 := sl.fr F3 c0 c2 i0 i2 rfl
      have N9 := sl.keepN N3 c3 i3 rfl
      obtain ⟨h', tk', gs', rfl, -, hbr⟩ := sl
      refine hR h' tk' gs' t' (evo_of T0 B.frames (K := hg ▸ KtsTurn.refl) F9 N9 B₁ TF3 fun x hx => ?_) (fun h => hbr (AllBare.push h hba))
      rw [led_eq] at hx
      repeat (rcases List.mem_cons.mp hx with rfl | hx; · (repeat (first | exact List.Mem.head _ | apply List.Mem.tail)))
      repeat (first | exact hx | apply List.Mem.tail)
end Mine
end
section
open PySem PySem.W PySem.Calls PyProof.Rows
set_option Elab.async false
set_option maxRecDepth 100000
namespace Mine
/-- the record of an exception that has no context yet -/
def Rec (base h : Heap) (e : Addr) (cls fl : Value) : Prop :=
  ∃ oe vs T oT ts, h.get? e = some oe ∧ oe.cls = cls ∧ oe.data = .fields vs ∧ vs[1]? = some (.ref T) ∧ vs[2]? = some .none ∧ base.get? T = none ∧ T ≠ e ∧ h.get? T = some oT ∧ oT.data = .fields ts ∧ ts[3]? = some fl
def HeldC (B : Heap) (l : List Env) (e : Addr) (cls fl : Value) (h : Heap) : Prop := B.StaysIn h ∧ B.get? e = none ∧ h.FunFrames B l ∧ Rec B h e cls fl
section
variable {M : Model} {A : Around} {E : Value → Shared → Prop} {s : Shared}
theorem note_new {base : Heap} {env : Env} {outer : List Env} {L e : Addr} {oe : Obj} {vs : Array Value} {Q : Unit → Shared → Prop}
    (hfr : A.frames = some (env :: outer)) (hl : s.heap.FunFrames base (env :: outer)) (hf : env.frame = some L)
    (he : s.heap.get? e = some oe) (hkb : base.StaysIn s.heap) (hen : base.get? e = none) (hd : oe.data = .fields vs) (h1 : vs[1]? = some .none) (h2 : vs[2]? = some .none)
    (h : ∀ h', HeldC base (env :: outer) e oe.cls (rawInt L) h' → s.heap.UpToSlots h' → Q () { s with heap := h' }) : wpAny M A (noteFrame (.ref e) env) Q E s := by
  have hsz : 1 < vs.size := (Array.getElem?_eq_some_iff.mp h1).1
  unfold noteFrame
  simp only [hf]
  refine wpAny_bind (wpAny_field he hd h1 ?_)
  rw [if_neg (by decide)]
  have hene : e ∉ (env :: outer).filterMap (·.frame) := fun hm => by
    obtain ⟨_, o, ho, hnf⟩ := hl.mem hm
    rw [he] at ho; injection ho with ho; subst ho; exact hnf vs hd
  refine wpAny_bind (wpAny_frameOf_fun hfr hl hf fun h₁ hs₁ => ?_)
  refine wpAny_bind (wpAny_entryPlaceOf fun pl hpl => ?_)
  unfold EntryCells.newEntry newFields
  refine wpAny_bind (wpAny_newObj_type ?_ (hpl.sizeOk5 _ _ _ _ _))
  have he₁ : h₁.get? e = some oe := (hs₁.2.1 e hene).trans he
  have kb₁ : base.StaysIn h₁ := fun b o hbo => (hs₁.2.1 b fun hm => by rw [(hl.mem hm).1] at hbo; cases hbo).trans (hkb b o hbo)
  generalize hT : ({ cls := .type "traceback", dict := none, data := .fields ([Value.none, .ref L, .none, rawInt L, .none] ++ (if pl.isEmpty then List.replicate 6 Value.none else pl)).toArray } : Obj) = oT
  have hTd : oT.data = .fields ([Value.none, .ref L, .none, rawInt L, .none] ++ (if pl.isEmpty then List.replicate 6 Value.none else pl)).toArray := by rw [← hT]
  have hTf : oT.isFreed = false := by rw [← hT]; rfl
  have he₂ := Heap.get?_push_of_some (h := h₁) oT he₁
  refine wpAny_setField he₂ hd hsz (h _ ?_ ?_)
  all_goals have hTe : h₁.objs.size ≠ e := Nat.ne_of_gt (Heap.lt_size he₁)
  all_goals have keep : ∀ b o, b ≠ e → h₁.get? b = some o → ((h₁.push oT).update e (Obj.mapFields (·.setIfInBounds 1 (Value.ref h₁.objs.size)))).get? b = some o := fun b o hbe hb => (Heap.get?_update_other _ _ (Ne.symm hbe)).trans (Heap.get?_push_of_some _ hb)
  all_goals have noRecord : ∀ b o, s.heap.get? b = some o → (∀ vs, o.data ≠ .fields vs) → b ≠ e := fun b o hb hnf q => hnf vs (by rw [q, he] at hb; cases hb; exact hd)
  · have hd₃ := Obj.data_mapFields hd (·.setIfInBounds 1 (Value.ref h₁.objs.size))
    have he₃ := Heap.get?_update_self (Obj.mapFields (·.setIfInBounds 1 (Value.ref h₁.objs.size))) he₂ (Obj.isFreed_of_fields hd₃)
    have hT₃ := (Heap.get?_update_other (h₁.push oT) (Obj.mapFields (·.setIfInBounds 1 (Value.ref h₁.objs.size))) (Ne.symm hTe)).trans (Heap.get?_push_size h₁ hTf)
    refine ⟨fun b o hbo => keep b o (fun q => by rw [q, hen] at hbo; cases hbo) (kb₁ b o hbo), hen, hl.of_keeps fun b o hb hnf => ?_, ⟨_, _, h₁.objs.size, _, _, he₃, Obj.cls_mapFields _ _, hd₃, by simp [hsz], by rw [Array.getElem?_setIfInBounds_ne (by decide)]; exact h2, kb₁.fresh, hTe, hT₃, hTd, ?_⟩⟩
    · obtain ⟨sl, hs⟩ := hs₁.2.2 b o hb
      exact ⟨_, keep b _ (noRecord b o hb hnf) hs, rfl⟩
    · first | (simp; done) | (rcases hpl with rfl | ⟨_, _, _, _, _, _, _, rfl⟩ <;> simp)
  · intro b o hb hnf
    obtain ⟨sl, hs⟩ := hs₁.2.2 b o hb
    exact ⟨sl, keep b _ (noRecord b o hb hnf) hs⟩
theorem flight_C {B : Heap} {l : List Env} {e : Addr} {cls fl : Value} {Q : Unit → Shared → Prop} (hh : HeldC B l e cls fl s.heap)
    (h : ∀ h', HeldC B l e cls .none h' → s.heap.UpToSlots h' → Q () { s with heap := h' }) : wpAny M A (setFlight (.ref e) none) Q E s := by
  obtain ⟨hkb, hen, hl, oe, vs, T, oT, ts, he, hcls, hd, h1, h2, hnT, hTe, hT, hdT, h3⟩ := hh
  have hsz3 : 3 < ts.size := (Array.getElem?_eq_some_iff.mp h3).1
  have other : ∀ b, b ≠ T → (s.heap.update T (Obj.mapFields (·.setIfInBounds 3 ((none : Option Addr).elim Value.none fun f => rawInt f)))).get? b = s.heap.get? b :=
    fun b hb => Heap.get?_update_other _ _ (Ne.symm hb)
  have noRecord : ∀ b o, s.heap.get? b = some o → (∀ vs, o.data ≠ .fields vs) → b ≠ T := fun b o hb hnf q => by
    rw [q, hT] at hb; injection hb with hb; subst hb; exact hnf ts hdT
  unfold setFlight
  refine wpAny_bind (wpAny_field he hd h1 ?_)
  rw [if_pos (show (Value.ref T != Value.none) = true from by simp)]
  refine wpAny_setField hT hdT hsz3 (h _ ⟨fun b o hbo => (other b fun q => by rw [q, hnT] at hbo; cases hbo).trans (hkb b o hbo), hen,
    hl.of_keeps fun b o hb hnf => ⟨o, (other b (noRecord b o hb hnf)).trans hb, rfl⟩, ?_⟩ fun b o hb hnf => ⟨o.slots, (other b (noRecord b o hb hnf)).trans hb⟩)
  exact ⟨oe, vs, T, _, _, (other e (Ne.symm hTe)).trans he, hcls, hd, h1, h2, hnT, hTe, Heap.get?_update_self _ hT (Obj.isFreed_of_fields (Obj.data_mapFields hdT _)), Obj.data_mapFields hdT _, by simp [hsz3]⟩
end
section
variable {prog : Program} {w : World} {A₀ : Around} {E : Value → Shared → Prop} {s' : Shared} {base g h : Heap} {outer : List Env} {L a e : Addr} {m : Str → Option Value} {name : Str} {scope : Scope} {cd : Value}
  {b₀ : Stmt} {suite : List Stmt} {pos np : Pos} {rest : List ExceptHandler} {Q : Flow → Shared → Prop} {news : List (Addr × Obj)} {KF : Frag}
  {p : Program} {loose : List Str} {mean : ExcName → Option Value} {mg mb : Str → Option Value} {x : Str} {X T' : String}
/-- an exception that a built-in made in this very frame is caught -/
theorem caught_new (hx : Heap.NewExc h s'.heap e X) (F : Fr g L h m) (N : News g L h news) (K : Below A₀ base outer g) (XB : KF.In base) (TB : Top p loose mean mg mb base)
    (D : KtsDicts (frs outer) g)
    (ex : nsIn KF mainGlobals x = some none) (hv : bootBuiltins x = some (.type T')) (hn' : x ≠ "__name__")
    (hexc : isSubtype (.type T') (.type "BaseException") = pure true) (hnt : isSubtype (.type ((Manifest.find? T').elim "type" fun y => y.metatype)) (.type "tuple") = pure false) (hsub : isSubtype (.type X) (.type T') = pure true)
    (k : ∀ h' g' oe vs, KtsTurn (frs outer) g g' → Fr g' L h' m → News g' L h' ((e, oe) :: news) → oe.data = .fields vs → vs[2]? = some .none → Below A₀ base outer g' → KF.In g' → Top p loose mean mg mb g' → KtsDicts (frs outer) g' →
      wpAny (model prog w) ((A₀.deeper (envOf name scope L a cd)).mark (some (.ref e))) (execs (b₀ :: suite) (envOf name scope L a cd)) Q E { s' with heap := h' })
    (hk : scope.kind = .function := by rfl) (hx' : (envOf name scope L a cd).kindOf x = some .globalImplicit := by rfl) (hd : (x == ("__debug__" : Str)) = false := by decide)
    (hE : PassesOwnAt (model prog w) ((A₀.deeper (envOf name scope L a cd)).mark (some (.ref e))) (A₀.deeper (envOf name scope L a cd)) (envOf name scope L a cd) E := by passes_own) :
    wpAny (model prog w) (A₀.deeper (envOf name scope L a cd)) (noteFrame (.ref e) (envOf name scope L a cd))
      (fun _ s₂ => wpAny (model prog w) (A₀.deeper (envOf name scope L a cd)) (setFlight (.ref e) none) (fun _ s₃ =>
        wpAny (model prog w) (A₀.deeper (envOf name scope L a cd)) (handleBy (.ref e) (envOf name scope L a cd) (.ExceptHandler (some (.Name x np)) none (b₀ :: suite) pos :: rest)) Q E s₃) E s₂) E s' := by
  have K' := K.push (name := name) (a := a) (cd := cd) F hk
  have hin : ∀ env ∈ (envOf name scope L a cd :: outer), ∀ b, env.frame = some b → b ∈ frs (envOf name scope L a cd :: outer) := fun env he b hb => List.mem_filterMap.mpr ⟨env, he, hb⟩
  obtain ⟨B, hBdef⟩ : ∃ B, B = hideAll h (frs (envOf name scope L a cd :: outer)) := ⟨_, rfl⟩
  have hBG : ∀ b o, h.get? b = some o → b ∉ frs (envOf name scope L a cd :: outer) → B.get? b = some o := fun b o q nm => by rw [hBdef]; exact hideAll_get _ q nm
  have hBs : ∀ b o, B.get? b = some o → s'.heap.get? b = some o := fun b o q => hx.keeps _ _ (of_hideAll _ (hBdef ▸ q))
  have hFF : s'.heap.FunFrames B (envOf name scope L a cd :: outer) := by
    rw [hBdef]
    exact (funFrames_hide K'.frames hin).of_keeps fun b o hb _ => ⟨o, hx.keeps b o hb, rfl⟩
  obtain ⟨ob, tp, he, hcls, hdd⟩ := hx.there
  have hen : B.get? e = none := by
    cases q : B.get? e with
    | none => rfl
    | some o => rw [hBdef] at q; have := of_hideAll _ q; rw [hx.new] at this; cases this
  have hLB : B.get? L = none := by rw [hBdef]; exact hideAll_none _ (List.mem_filterMap.mpr ⟨_, .head _, rfl⟩)
  have hNB : ∀ q ∈ news, B.get? q.1 = some q.2 := fun q hq => hBG _ _ (N q hq).1 fun hm => by
    rcases (frs_cons rfl).mp hm with z | z
    · exact (N q hq).2.1 z
    · obtain ⟨_, o, ho, _⟩ := K.frames.mem z
      rw [(N q hq).2.2] at ho; cases ho
  refine note_new K'.stack hFF rfl he hBs hen hdd rfl rfl fun h₄ c₄ sm₄ => ?_
  rw [hcls] at c₄
  refine flight_C c₄ fun h₅ c₅ sm₅ => ?_
  have sm : h.UpToSlots h₅ := ((Heap.UpToSlots.of_keeps hx.keeps).trans sm₄).trans sm₅
  obtain ⟨g₅, T₅, F₅, K₅⟩ := kts_ground K F hBG c₅.1 sm
  have X₅ : KF.In g₅ := XB.keeps K₅.stays
  have P₅ : TopRead p loose mg mb g₅ := topRead_of (TB.keeps K₅.stays)
  have ⟨_, _, _, oe, _, _, _, _, hoe, hoc, _⟩ := c₅
  refine wpAny_handleBy_builtin (X := X) (T := T') (b := true) hexc hnt hsub (name_B F₅ X₅ P₅ ex hv hn' ⟨rfl, ⟨oe, hoe, hoc⟩, ?_⟩ hk hx' hd)
  refine flight_C c₅ fun h₆ c₆ sm₆ => ?_
  obtain ⟨g₆, T₆, F₆, K₆⟩ := kts_ground K F hBG c₆.1 (sm.trans sm₆)
  obtain ⟨k1, k2, k3, oe₆, vs, T, oT, ts, e1, e2, e3, e4, e5, _⟩ := c₆
  have heg : g.get? e = none := kts_none F.keep hx.new
  have Nl : News g₆ L h₆ ((e, oe₆) :: news) := fun q hq => by
    rcases List.mem_cons.mp hq with rfl | hq
    · refine ⟨e1, fun z => ?_, T₆.none_ _ heg⟩
      obtain ⟨oL, es, ep, hL, hLd, _⟩ := F₆.ns
      simp only at z
      rw [← z, e1] at hL
      cases hL
      rw [e3] at hLd
      cases hLd
    · exact ⟨k1 _ _ (hNB q hq), (N q hq).2.1, T₆.none_ _ (N q hq).2.2⟩
  exact wpAny_passesOwnAt hE (k h₆ g₆ oe₆ vs T₆ F₆ Nl e3 e5 K₆ (XB.keeps K₆.stays) (TB.keeps K₆.stays) (D.turn T₆))
end

theorem entry_unchain : entryFor table "proto.unchain" = some Builtin.«proto.unchain» := by first | exact entryFor_of_tree (by kernel_rfl) | exact entryFor_of_fast (by kernel_rfl)
/-- what stands when an exception was raised while another is handled -/
structure CtxE (e₁ : Addr) (E : Value → Shared → Prop) (x : Value) (s : Shared) : Prop where
  it : ∃ a ob vs, x = .ref a ∧ s.heap.get? a = some ob ∧ ob.data = .fields vs ∧ 2 < vs.size ∧ a ≠ e₁ ∧ (∃ oe ws, s.heap.get? e₁ = some oe ∧ oe.data = .fields ws ∧ ws[2]? = some .none) ∧
    E (.ref a) { s with heap := s.heap.update a (Obj.mapFields (·.setIfInBounds 2 (.ref e₁))) }
section
variable {prog : Program} {w : World} {A : Around} {E : Value → Shared → Prop} {s : Shared} {env : Env}
theorem Raise_ctx {e₁ : Addr} {e : Expr} {pos : Pos} {Q : Flow → Shared → Prop} (hh : A.handled = some (.ref e₁))
    (h : wpAny (model prog w) A (eval e env) (Raisable (CtxE e₁ E)) E s) : wpAny (model prog w) A (exec (.Raise (some e) none pos) env) Q E s := by
  show wpAny _ A (do standAt pos; raiseStmt env (some (do let v ← eval e env; standAt pos; pure v)) none) Q E s
  refine wpAny_bind (wpAny_standAt ?_)
  unfold raiseStmt
  dsimp only
  refine wpAny_bind (wpAny_bind (wpAny_mono h (fun v s₁ h₁ => wpAny_bind (wpAny_standAt (wpAny_pure ?_))) fun _ _ x => x))
  obtain ⟨a, ob, vs, X, N, I, hc, rfl, ha, hcls, hd, h1, hE⟩ := h₁
  have hT : s₁.TypeIs (.ref a) X := ⟨ob, ha, hcls⟩
  have hnt : ∀ {Q' : Bool → Shared → Prop}, Q' false s₁ → wpAny (model prog w) A (isType (.ref a)) Q' E s₁ := by
    intro Q' hq
    simp only [isType, loadHead]
    refine wpAny_bind (wpAny_loadPart ha ?_)
    rw [hd]; exact wpAny_pure hq
  refine wpAny_bind (wpAny_pure ?_)
  dsimp only
  refine wpAny_bind (wpAny_holding ?_)
  unfold excFromValue isExcClass
  refine wpAny_bind (wpAny_bind (hnt ?_))
  simp only [Bool.false_eq_true, if_false]
  refine wpAny_pure ?_
  simp only [Bool.false_eq_true, if_false]
  refine wpAny_bind (wpAny_isInstance hT hc.base ?_)
  simp only [if_true]
  refine wpAny_pure ?_
  refine wpAny_bind (hnt ?_)
  simp only [Bool.false_eq_true, if_false]
  unfold raisedInstance
  refine wpAny_bind (wpAny_bind (wpAny_typeOf hT (wpAny_bind (m := typeOf (.type X)) (wpAny_pure ?_))))
  rw [if_pos hc.metaType]
  refine wpAny_pure ?_
  unfold setFlight raiseNew
  refine wpAny_bind (wpAny_bind (wpAny_field ha hd h1 ?_))
  rw [if_neg (by decide)]
  obtain ⟨⟨a', ob', vs', e1, e2, e3, e4, e5, ⟨oe, ws, f1, f2, f3⟩, hE⟩⟩ := hE
  cases e1
  refine wpAny_pure (wpAny_bind (wpAny_handled ?_))
  rw [hh]
  dsimp only
  have hne : ((Value.ref e₁) != (Value.ref a)) = true := by simpa using fun q => e5 q.symm
  rw [if_pos hne]
  have hun : ∀ {Q' : Value → Shared → Prop} {E' : Value → Shared → Prop}, Q' .none s₁ → wpAny (model prog w) A (runValue (.builtin "proto.unchain" ⟨[.ref a, .ref e₁, .ref e₁, .bool false], []⟩)) Q' E' s₁ := fun hq => by
    refine wpAny_runValue (codeAny_builtin entry_unchain ?_)
    unfold Builtin.«proto.unchain»
    refine wpAny_bind (wpAny_field f1 f2 f3 ?_)
    rw [if_pos (by decide)]
    first | exact wpAny_pure hq | exact wpAny_bind (wpAny_pure (wpAny_pure hq))
  have hset : ∀ {Q' : Unit → Shared → Prop} {E' : Value → Shared → Prop}, Q' () { s₁ with heap := s₁.heap.update a (Obj.mapFields (·.setIfInBounds 2 (.ref e₁))) } → wpAny (model prog w) A (updateField a 2 (.ref e₁)) Q' E' s₁ := fun hq =>
    wpAny_setField e2 e3 e4 hq
  first
    | exact wpAny_bind (wpAny_bind (wpAny_holding (hun (hset (wpAny_throw hE)))))
    | exact wpAny_bind (wpAny_bind (wpAny_holding (hun (wpAny_bind (hset (wpAny_throw hE))))))
    | exact wpAny_bind (wpAny_bind (wpAny_bind (wpAny_holding (hun (hset (wpAny_pure (wpAny_throw hE)))))))
    | exact wpAny_bind (wpAny_holding (hun (wpAny_bind (hset (wpAny_throw hE)))))
end

structure NewG (h h' : Heap) (e : Addr) (cls : String) : Prop where
  keeps : ∀ b o, h.get? b = some o → h'.get? b = some o
  new : h.get? e = none
  there : ∃ ob vs a0, h'.get? e = some ob ∧ ob.cls = .type cls ∧ ob.data = .fields vs ∧ vs[1]? = some .none ∧ vs[0]? = some a0
theorem ctx_new {h : Heap} {s : Shared} {e₁ a : Addr} {X : String} {oe : Obj} {ws : Array Value} {E : Value → Shared → Prop} (hx : Heap.NewExc h s.heap a X) (he : h.get? e₁ = some oe) (hd : oe.data = .fields ws) (h2 : ws[2]? = some .none)
    (k : NewG h (s.heap.update a (Obj.mapFields (·.setIfInBounds 2 (.ref e₁)))) a X → E (.ref a) { s with heap := s.heap.update a (Obj.mapFields (·.setIfInBounds 2 (.ref e₁))) }) : CtxE e₁ E (.ref a) s := by
  obtain ⟨ob, t, e1, e2, e3⟩ := hx.there
  have hne : a ≠ e₁ := fun q => by
    rw [← q, hx.new] at he
    cases he
  refine ⟨⟨a, ob, _, rfl, e1, e3, by simp, hne, ⟨oe, ws, hx.keeps _ _ he, hd, h2⟩, k ⟨fun b o e => ?_, hx.new, ?_⟩⟩⟩
  · have hb : b ≠ a := fun q => by
      rw [q, hx.new] at e
      cases e
    rw [Heap.get?_update_other _ _ (Ne.symm hb)]
    exact hx.keeps _ _ e
  · exact ⟨_, _, t, Heap.get?_update_self _ e1 (Obj.isFreed_of_fields (Obj.data_mapFields e3 _)), by rw [Obj.cls_mapFields]; exact e2, Obj.data_mapFields e3 _, by simp, by simp⟩
section
variable {M : Model} {A : Around} {E : Value → Shared → Prop} {s' : Shared} {base g h : Heap} {outer : List Env} {L e : Addr} {m : Str → Option Value} {env : Env} {Q : Unit → Shared → Prop}
theorem flies_newG {cls : String} (K : Below A base outer g) (hx : NewG h s'.heap e cls) (F : Fr g L h m) (hf : env.frame = some L) (hke : env.scope.kind = .function)
    (hQ : ∀ h', Flies base g outer e (.type cls) h' → Q () { s' with heap := h' }) :
    wpAny M (A.deeper env) (leaving env (.ref e)) Q E s' := by
  have K' := pushX K F hf hke
  have hin : ∀ env' ∈ (env :: outer), ∀ b, env'.frame = some b → b ∈ frs (env :: outer) := fun env' he b hb => List.mem_filterMap.mpr ⟨env', he, hb⟩
  have st : base.StaysIn (hideAll h (frs (env :: outer))) := fun b o q => hideAll_get _ (K'.stays b o q) fun hm => by
    rw [(K'.frames.mem hm).1] at q; cases q
  have sg : ∀ b o, g.get? b = some o → b ∉ frs outer → (hideAll h (frs (env :: outer))).get? b = some o := fun b o q nm => hideAll_get _ (F.keep b o q) fun hm => by
    rcases (frs_cons hf).mp hm with z | z
    · rw [z, kts_self F] at q
      cases q
    · exact nm z
  obtain ⟨ob, vs, tp, he, hcls, hd, h1, h0⟩ := hx.there
  have hen : (hideAll h (frs (env :: outer))).get? e = none := by
    cases q : (hideAll h (frs (env :: outer))).get? e with
    | none => rfl
    | some o => have := of_hideAll _ q; rw [hx.new] at this; cases this
  refine wpAny_leaving_firstW (a0 := tp) K'.stack ((funFrames_hide K'.frames hin).of_keeps fun b o hb _ => ⟨o, hx.keeps b o hb, rfl⟩) hf he (fun b o hb => hx.keeps b o (of_hideAll _ hb)) hen hd h1 h0 fun h' hL => ?_
  obtain ⟨k1, ⟨_, _, k2⟩, k3, k4⟩ := hL
  exact hQ h' ⟨⟨_, tp, st, sg, k1, hen, k2, by rw [← hcls]; exact k3⟩, ((Heap.UpToSlots.of_keeps F.keep).trans (Heap.UpToSlots.of_keeps hx.keeps)).trans k4⟩
end
theorem Flies.turn {base g g' h' : Heap} {outer : List Env} {e : Addr} {cls : Value} (X : Flies base g' outer e cls h') (T : KtsTurn (frs outer) g g') : Flies base g outer e cls h' := by
  obtain ⟨⟨B, a0, hB, hBG, hfl⟩, hsm⟩ := X
  refine ⟨⟨B, a0, hB, fun b o e nm => hBG b o (T.other b o e nm) nm, hfl⟩, fun b o e hn => ?_⟩
  obtain ⟨sl, hs⟩ := T.up e
  obtain ⟨sl', hs'⟩ := hsm b _ hs hn
  exact ⟨sl', hs'⟩
theorem call_VE_ctx {prog : Program} {w : World} {A : Around} {E E' : Value → Shared → Prop} {s : Shared} {v : Value}
    (h : ∀ h' e, Heap.NewExc s.heap h' e "ValueError" → E' (.ref e) { s with heap := h' }) : wpAny (model prog w) A (call (.type "ValueError") [v]) (Raisable E') E s :=
  call_exc (hrest := by show 1 ≤ sizeLine; rw [sizeLine_eq]; decide) excClass_ValueError fun h' e hx => by
    obtain ⟨ob, t, he, hcls, hd⟩ := hx.there
    exact ⟨e, ob, _, _, _, _, excClass_ValueError, rfl, he, hcls, hd, rfl, h h' e hx⟩
end Mine
end
section
open PySem PySem.W PySem.Calls PyProof.Rows
set_option Elab.async false
set_option maxRecDepth 100000
namespace Mine
local macro_rules | `(tactic| walk_at "exec Raise some none") => `(tactic| (refine Raise_new (handled_deeper (by with_reducible assumption)) ?_))
local macro_rules | `(tactic| walk_at "formatField int") => `(tactic| (refine field_any (natAbs_lt (by assumption) (by assumption)) ?_; intro y' t' k' hy'))
local macro_rules | `(tactic| walk_at "And") => `(tactic| ((with_reducible show PySem.Str.length (_ ++ _) ≤ sizeLine ∧ wpAny _ _ (joinParts _ _) _ _ _); (refine join_part (P := fun o => wpAny _ _ (joinParts o _) _ _ _) (by first | assumption | exact Nat.le_refl _) (by first | assumption | decide +kernel | (split <;> decide +kernel)) (by decide) ?_); intro o' ho'))
local macro_rules | `(tactic| walk_at "joinParts") => `(tactic| (refine join_done (by assumption) (by decide) ?_; intro t' k'))
local macro_rules | `(tactic| walk_at "getMethod type:int") => `(tactic| (k_here; (refine' method_type (T := "int") (v := .builtin "int.to_bytes") ?F ?X ?ht ?hs ?e ?hh ?_); (case F => k_asm); (case X => k_asm); (case ht => first | rfl | kernel_rfl); (case hs => decide +kernel); (case e => k_is); (case hh => decide +kernel)))
local macro_rules | `(tactic| walk_at "call builtin:int.to_bytes") => `(tactic| (k_here; (rename (¬ inB _ _ _) => ibX); (refine to_bytes_kw (by omega) (by omega) (handled_deeper (by with_reducible assumption)) (fun ibN => absurd ibN ibX) ?_); (intro _ e' h' k' ibE)))
local macro_rules | `(tactic| walk_at "noteFrame ref") => `(tactic| (k_here; (rename Heap.NewExc _ _ _ _ => cnX); (refine caught_new (T' := "OverflowError") cnX (by k_asm) (by k_asm) (by assumption) (by assumption) (by assumption) (by assumption) (by k_is) PyProof.Rows.Boot.«OverflowError» (by decide) PySem.F.isExc_OverflowError PySem.F.notTuple_OverflowError (by rw [isSubtype_type]; kernel_rfl) ?_); clear cnX; intro h' g' oe' vs' T' F' N' cd' c2' K' X' P' D'))
local macro_rules | `(tactic| walk_at "exec Raise some none") => `(tactic| first | (refine Raise_new (handled_deeper (by with_reducible assumption)) ?_) | (refine Raise_ctx rfl ?_))
local macro_rules | `(tactic| walk_at "call type:ValueError") => `(tactic| ((refine call_VE_ctx ?_); intro h' e' hx'))

set_option maxHeartbeats 4000000 in
theorem i2B_no {w : World} {A : Around} {s : Shared} {mg mb : Str → Option Value} {p : Program} {loose : List Str} {mean : ExcName → Option Value} {base : Heap} {outer : List Env}
    (hh : A.handled = none) (hdp : A.depth < recursionLimit) (hun : A.units + 20 < cLine) (XB : (hd.heap_39 w.params).In base) (TB : Top p loose mean mg mb base)
    (B : Below A base outer s.heap) (D : KtsDicts (frs outer) s.heap)
    {n : Int} {W : Nat} {sg : Bool} {t1 t2 : Tok} {args : Args} (hb : BindsToK (hd.heap_39 w.params) s 30 args [(Str.ofString "number", .int n t1), (Str.ofString "width", .int (W : Int) t2), (Str.ofString "signed", .bool sg)]) (w1 : 1 ≤ W) (w2 : W ≤ 100) (b1 : -(2 ^ 1000) ≤ n) (b2 : n ≤ 2 ^ 1000) (hn : ¬ inB sg n W) :
    RaisesVE (model PySem.Challenge.rw_dp5010_01.row.prog w) A base outer (.call (.ref 30) args) s := by
  refine' enterN (news := []) B D XB TB.nolimit Held.nil ?k6 ?k7 hdp ?k9 ?kB ?c5 ?h ?c2 ?c3 ?c4
  case k6 => k_is
  case k7 => k_is
  case k9 => exact hb _ _ (by k_is) rfl
  case kB => exact locs rfl
  case c5 => decide
  case c2 => exact rfl
  case c3 => exact rfl
  case c4 => exact rfl
  intro L h₁ hL F N B₁ D₁
  have X := XB.keeps B₁.stays
  have T := TB.keeps B₁.stays
  have b3 : -(2 ^ 1000) ≤ (W : Int) := by omega
  have b4 : (W : Int) ≤ 2 ^ 1000 := by omega

  (change wpAny _ _ _ _ _ _); k_fold
  k_steps
  rename Heap.NewExc _ _ _ _ => hx
  rename News _ _ _ _ => N'
  rename Fr _ _ _ _ => F'
  rename KtsTurn _ _ _ => T'
  rename Below _ _ _ _ => B'
  rename (_ = Data.fields _) => cd
  rename (_ = some Value.none) => c2
  refine ctx_new hx (N' _ (.head _)).1 cd c2 fun nx => ?_
  refine flies_newG B' nx F' rfl rfl fun h2 X2 => ?_
  exact ⟨_, _, _, rfl, rfl, X2.turn T'⟩
end Mine
end
section
open PySem PySem.W PySem.Calls PyProof.Rows
set_option Elab.async false
set_option maxRecDepth 100000
namespace Mine
/-- what a lambda's body leaves that raised ValueError -/
structure Thrown (base g : Heap) (outer : List Env) (L : Addr) (env : Env) (own : List (Addr × Obj)) (s : Shared) (v : Value) (s' : Shared) : Prop where
  out : ∃ e hE h' tk m, v = .ref e ∧ s' = { s with heap := h', toks := tk } ∧ Flies base hE (env :: outer) e (.type "ValueError") h' ∧ Fr g L hE m ∧ News g L hE own
theorem throw_call {M : Model} {A : Around} {base g : Heap} {outer : List Env} {env : Env} {f : Addr} {pos : List Value} {L : Addr} {own : List (Addr × Obj)} {s₀ : Shared} {m : Str → Option Value} {Q : Value → Shared → Prop} {tk : Tok} {h : Heap}
    (F : Fr g L h m) (N : News g L h own) (RV : RaisesVE M (A.deeper env) base (env :: outer) (.call (.ref f) ⟨pos, []⟩) { s₀ with heap := h, toks := tk }) :
    wpAny M (A.deeper env) (call (.ref f) pos) Q (Thrown base g outer L env own s₀) { s₀ with heap := h, toks := tk } := by
  refine wpAny_call (codeAny_mono RV ?_)
  rintro r s' ⟨e, h', tk', rfl, rfl, X⟩
  exact ⟨e, h, h', tk', m, rfl, rfl, X, F, N⟩
/-- a lambda's deed -/
theorem deed_lam {prog : Program} {w : World} {A₁ A₂ : Around} {base g₀ : Heap} {outer₀ : List Env} {L₀ : Addr} {s₀ : Shared} {news own : List (Addr × Obj)}
    {name qual : Str} {params : Arguments} {body : Expr} {scope : Scope} {cl : List (Str × Addr)} {pm ctv : Value} {c' f : Addr} {oc : Obj} {vs : Array Value} {t : Tok}
    (B₀ : Below A₁ base outer₀ g₀) (N₀ : News g₀ L₀ s₀.heap news) (hlim : base.NoLimit) (ho : (f, kla_obj name qual params body scope cl pm c' ctv) ∈ news) (hoc : (c', oc) ∈ news) (hd : oc.data = .fields vs) (hv : vs[1]? = some (.str qual t))
    (sub : ∀ q ∈ own, q ∈ news ∧ ∀ es n, q.2.data ≠ .dict es n) (hroom : A₂.depth + 1 < recursionLimit) (hbind : bindArgs (kla_fn name qual params body scope cl pm (.ref c') ctv) ⟨[], []⟩ = pure [])
    (hco : scope.isCoroutine = false) (hgen : scope.isGenerator = false) (hk : scope.kind = .function) (hcell : ∀ x ∈ scope.names, x.2 ≠ .cell)
    (h : ∀ dp gd un outer L h₁ tk g, dp = A₂.depth + 1 → un ≤ A₂.units + 4 → Fr g L h₁ (fun _ => none) → News g L h₁ own → Below ⟨none, dp, some outer, gd, un⟩ base outer g → KtsDicts (frs outer) g →
      wpAny (model prog w) (Around.deeper ⟨none, dp, some outer, gd, un⟩ (envX qual scope L f (.ref c') cl)) (eval body (envX qual scope L f (.ref c') cl)) (fun _ _ => False) (Thrown base g outer L (envX qual scope L f (.ref c') cl) own s₀) { s₀ with heap := h₁, toks := tk }) :
    Deed (model prog w) A₂ base (.ref f) s₀ := by
  intro A outer hp tk hh hdp hun hfr B D st
  obtain ⟨ah, dp, fr, gd, un⟩ := A
  dsimp only at hh hdp hun hfr
  subst hh hfr
  have H : Held base hp (frs outer) own := fun q hq => by
    obtain ⟨hq1, hq2⟩ := sub q hq
    refine ⟨st _ _ (N₀ q hq1).1, fresh_of_stays B₀.stays (N₀ q hq1).2.2, fun hm => ?_⟩
    obtain ⟨o, es, n, e, d⟩ := D _ hm
    rw [st _ _ (N₀ q hq1).1] at e
    cases e
    exact hq2 es n d
  refine lamEnter (news := own) (B := B) (D := D) hlim H (st _ _ (N₀ _ ho).1) ⟨c', oc, vs, t, rfl, st _ _ (N₀ _ hoc).1, hd, hv⟩ (by dsimp only; omega) hbind (fun y hy => nomatch hy) ?_ hco hgen hk hcell
  intro L h₁ hL F N B₁ D₁
  refine wpAny_mono (h dp gd un outer L h₁ _ _ hdp hun F N B₁ D₁) (fun v s' z => z.elim) fun v s' z => ?_
  obtain ⟨e, hE, h', tk', m, rfl, rfl, X, F', N'⟩ := z.out
  have hLh : hp.get? L = none := Heap.get?_none_of_le (by rw [hL]; exact Nat.le_refl _)
  refine flies_on (h₀ := hp) rfl X rfl (fun b o q => ?_) hLh fun h2 X2 => ?_
  · rcases less_or H q with z | z
    · exact F'.keep _ _ z
    · exact (N' _ z).1
  · exact ⟨e, h2, tk', rfl, rfl, X2⟩
section
variable {w : World} {A : Around} {E : Value → Shared → Prop} {s : Shared} {mg mb : Str → Option Value} {p : Program} {loose : List Str} {mean : ExcName → Option Value} {base g : Heap} {outer : List Env} {L : Addr} {m₀ : Str → Option Value} {env : Env} {news own : List (Addr × Obj)} {Q : Value → Shared → Prop}
theorem refusedV {c₀ P₀ : Addr} (hh : A.handled = none) (hdp : A.depth + 1 < recursionLimit) (hun : A.units + 30 < cLine) (XB : (hd.heap_39 w.params).In base) (TB : Top p loose mean mg mb base) (CH : CodeHd base c₀ P₀) (B : Below A base outer g) (D : KtsDicts (frs outer) g) (F : Fr g L s.heap m₀) (N : News g L s.heap news)
    (hf : env.frame = some L) (hke : env.scope.kind = .function) {f : Addr} {name qual : Str} {params : Arguments} {body : Expr} {scope : Scope} {clos : List (Str × Addr)} {pm ctv : Value} {c' : Addr}
    (hm : (f, kla_obj name qual params body scope clos pm c' ctv) ∈ news) (deed : Deed (model PySem.Challenge.rw_dp5010_01.row.prog w) (A.deeper env) base (.ref f) s)
    (h : ∀ g' h' tk, KtsTurn (frs outer) g g' → Fr g' L h' m₀ → News g' L h' news → Below A base outer g' → KtsDicts (frs outer) g' → (hd.heap_39 w.params).In g' → Top p loose mean mg mb g' → CodeHd g' c₀ P₀ → Q (.bool true) { s with heap := h', toks := tk }) :
    wpAny (model PySem.Challenge.rw_dp5010_01.row.prog w) (A.deeper env) (call (.ref 93) [.ref f]) Q E s :=
  refusedC hh hdp hun XB TB CH B D F N hf hke hm deed fun g' h' tk T F' N' B' D' => h g' h' tk T F' N' B' D' (XB.keeps B'.stays) (TB.keeps B'.stays) (CH.keeps B'.stays)
theorem throwB3 {s₀ : Shared} {h : Heap} {tk : Tok} (hh : A.handled = none) (hdp : A.depth + 1 < recursionLimit) (hun : A.units + 30 < cLine) (XB : (hd.heap_39 w.params).In base) (TB : Top p loose mean mg mb base) (B : Below A base outer g) (D : KtsDicts (frs outer) g) (F : Fr g L h m₀) (N : News g L h own)
    (hf : env.frame = some L) (hke : env.scope.kind = .function) {n : Int} {W : Nat} {sg : Bool} {t1 t2 : Tok} (w1 : 1 ≤ W) (w2 : W ≤ 100) (b1 : -(2 ^ 1000) ≤ n) (b2 : n ≤ 2 ^ 1000) (hn : ¬ inB sg n W) :
    wpAny (model PySem.Challenge.rw_dp5010_01.row.prog w) (A.deeper env) (call (.ref 30) [.int n t1, .int (W : Int) t2, .bool sg]) Q (Thrown base g outer L env own s₀) { s₀ with heap := h, toks := tk } := by
  have B' := pushX B F hf hke
  have X := XB.keeps B'.stays
  exact throw_call F N (i2B_no (A := A.deeper env) hh hdp (by rw [Around.deeper_units]; omega) XB TB B' (dicts_push D F hf) (i2B_binds3 X) w1 w2 b1 b2 hn)
end
theorem nd_of {o : Obj} {vs : Array Value} (h : o.data = .fields vs) : ∀ es n, o.data ≠ .dict es n := fun es n e => by
  rw [h] at e
  cases e
theorem nd_cds {pf : Addr → Array Value} {cds : List (Addr × Obj)} (T : TabFacts pf cds) : ∀ q ∈ cds, ∀ es n, q.2.data ≠ .dict es n := fun q hq => let ⟨_, h⟩ := (T.apart q hq).2; nd_of h
theorem nd_cell {o : Obj} {x : Option Value} (h : o.data = .cell x) : ∀ es n, o.data ≠ .dict es n := fun es n e => by
  rw [h] at e
  cases e
theorem nd_seq {o : Obj} {x : Array Value} {n : Nat} (h : o.data = .seq x n) : ∀ es n, o.data ≠ .dict es n := fun es n e => by
  rw [h] at e
  cases e
theorem nd_func {o : Obj} {x : FuncData} (h : o.data = .func x) : ∀ es n, o.data ≠ .dict es n := fun es n e => by
  rw [h] at e
  cases e
end Mine
end
section
open PySem PySem.W PySem.Calls PyProof.Rows
set_option Elab.async false
set_option maxRecDepth 100000
namespace Mine
theorem binds_53 {w : World} {s : Shared} {a : Value} : BindsToK (hd.heap_39 w.params) s 53 ⟨[a], []⟩ [(Str.ofString "data", a)] := by
  refine' bindsK_of ?ho ?hb
  case ho => k_is
  case hb => exact BindsTo.of_eq rfl
theorem binds_60 {w : World} {s : Shared} {a : Value} : BindsToK (hd.heap_39 w.params) s 60 ⟨[a], []⟩ [(Str.ofString "data", a)] := by
  refine' bindsK_of ?ho ?hb
  case ho => k_is
  case hb => exact BindsTo.of_eq rfl
theorem binds_74 {w : World} {s : Shared} {a : Value} : BindsToK (hd.heap_39 w.params) s 74 ⟨[a], []⟩ [(Str.ofString "data", a)] := by
  refine' bindsK_of ?ho ?hb
  case ho => k_is
  case hb => exact BindsTo.of_eq rfl
theorem binds_81 {w : World} {s : Shared} {a : Value} : BindsToK (hd.heap_39 w.params) s 81 ⟨[a], []⟩ [(Str.ofString "data", a)] := by
  refine' bindsK_of ?ho ?hb
  case ho => k_is
  case hb => exact BindsTo.of_eq rfl
theorem nf_cell {o : Obj} {x : Option Value} (h : o.data = .cell x) : ∀ vs, o.data ≠ .fields vs := fun vs e => by
  rw [h] at e
  cases e
theorem nf_seq {o : Obj} {x : Array Value} {n : Nat} (h : o.data = .seq x n) : ∀ vs, o.data ≠ .fields vs := fun vs e => by
  rw [h] at e
  cases e
theorem nf_func {o : Obj} {x : FuncData} (h : o.data = .func x) : ∀ vs, o.data ≠ .fields vs := fun vs e => by
  rw [h] at e
  cases e
/-- a ledger is some entries and then the tables and codes -/
inductive Sp (pf : Addr → Array Value) (cds : List (Addr × Obj)) : List (Addr × Obj) → List (Addr × Obj) → Prop where
  | here : Sp pf cds ((102, tabObj (pf 102)) :: (109, tabObj (pf 109)) :: (116, tabObj (pf 116)) :: (128, tabObj (pf 128)) :: (48, tabObj (pf 48)) :: (55, tabObj (pf 55)) :: (69, tabObj (pf 69)) :: (76, tabObj (pf 76)) :: cds) []
  | cons {q : Addr × Obj} {all extra : List (Addr × Obj)} : Sp pf cds all extra → Sp pf cds (q :: all) (q :: extra)
theorem Sp.eq {pf : Addr → Array Value} {cds all extra : List (Addr × Obj)} (S : Sp pf cds all extra) : all = extra ++ led pf cds := by
  induction S with
  | here => rfl
  | cons _ ih => rw [ih]; rfl
/-- what stands in a frame's ledger after a call that may have made codes -/
def AfterEvo (w : World) (p : Program) (loose : List Str) (mean : ExcName → Option Value) (mg mb : Str → Option Value) (A : Around) (base g : Heap) (outer : List Env) (L : Addr) (m : Str → Option Value) (extra : List (Addr × Obj)) (h' : Heap) (g' : Heap) (p' : Addr → Array Value) (cds' : List (Addr × Obj)) : Prop :=
  KtsTurn (frs outer) g g' ∧ Fr g' L h' m ∧ News g' L h' (extra ++ led p' cds') ∧ Below A base outer g' ∧ KtsDicts (frs outer) g' ∧ TabFacts p' cds' ∧ (hd.heap_39 w.params).In g' ∧ Top p loose mean mg mb g'
section
variable {w : World} {A : Around} {E : Value → Shared → Prop} {s : Shared} {mg mb : Str → Option Value} {p : Program} {loose : List Str} {mean : ExcName → Option Value} {base g h' : Heap} {outer : List Env} {L : Addr} {m₀ : Str → Option Value} {env : Env} {extra cds : List (Addr × Obj)} {pf : Addr → Array Value} {Q : Value → Shared → Prop}
theorem led_in {h : Heap} (TF : TabFacts pf cds) (B : Below A base outer g) (N : News g L h (extra ++ led pf cds)) : Led base h pf cds := led_of_news TF B N fun _ hx => List.mem_append_right _ hx
theorem after_evo {h : Heap} (V : Evo (frs (env :: outer)) base pf cds h h') (XB : (hd.heap_39 w.params).In base) (TB : Top p loose mean mg mb base) (B : Below A base outer g) (D : KtsDicts (frs outer) g) (F : Fr g L h m₀) (N : News g L h (extra ++ led pf cds)) (TF : TabFacts pf cds)
    (hx : ∀ q ∈ extra, ∀ vs, q.2.data ≠ .fields vs) (hf : env.frame = some L) : ∃ g' p' cds', AfterEvo w p loose mean mg mb A base g outer L m₀ extra h' g' p' cds' := by
  obtain ⟨g', p', cds', K, F', N', B', D', TF'⟩ := V.ground B F N hf D fun q hq hm => by
    obtain ⟨x, hx1, hx2⟩ := List.mem_map.mp hm
    have n1 := (N q (List.mem_append_left _ hq)).1
    have n2 := (N x (List.mem_append_right _ hx1)).1
    rw [hx2, n1] at n2
    obtain ⟨vs, hv⟩ := TF.fields x hx1
    exact hx q hq vs (by rw [Option.some.inj n2]; exact hv)
  exact ⟨g', p', cds', K, F', N', B', D', TF', XB.keeps B'.stays, TB.keeps B'.stays⟩
theorem b2bC (hh : A.handled = none) (hdp : A.depth + 13 < recursionLimit) (hun : A.units + 90 < cLine) (XB : (hd.heap_39 w.params).In base) (TB : Top p loose mean mg mb base) (CH : CodeHd base 52 48) (B : Below A base outer g) (D : KtsDicts (frs outer) g) (F : Fr g L s.heap m₀) {all : List (Addr × Obj)} (N : News g L s.heap all) (S : Sp pf cds all extra) (TF : TabFacts pf cds)
    (hx : ∀ q ∈ extra, ∀ vs, q.2.data ≠ .fields vs) (hf : env.frame = some L) (hke : env.scope.kind = .function) {b : Array UInt8} {t1 : Tok} (hz : b.size ≤ 10000)
    (h : ∀ g' p' cds' h' tk gs t, AfterEvo w p loose mean mg mb A base g outer L m₀ extra h' g' p' cds' → (AllBare s.gens → AllBare gs) → Q (.bytes (bitsOf b) t) { s with heap := h', toks := tk, gens := gs }) :
    wpJ (model PySem.Challenge.rw_dp5010_01.row.prog w) (A.deeper env) (call (.ref 53) [.bytes b t1]) Q E s := by
  rw [S.eq] at N
  have B' := pushX B F hf hke
  have X := XB.keeps B'.stays
  refine wpJ_call (bytes2bits (A := A.deeper env) hh (by show A.depth + 1 + 12 < _; omega) (by rw [Around.deeper_units]; omega) XB TB CH B' (dicts_push D F hf) (led_in TF B N) binds_53 hz fun h' tk gs t V hbr => ?_)
  obtain ⟨g', p', cds', a⟩ := after_evo V XB TB B D F N TF hx hf
  exact h g' p' cds' h' tk gs t a hbr
theorem swapBibC (hh : A.handled = none) (hdp : A.depth + 13 < recursionLimit) (hun : A.units + 90 < cLine) (XB : (hd.heap_39 w.params).In base) (TB : Top p loose mean mg mb base) (CH : CodeHd base 80 76) (B : Below A base outer g) (D : KtsDicts (frs outer) g) (F : Fr g L s.heap m₀) {all : List (Addr × Obj)} (N : News g L s.heap all) (S : Sp pf cds all extra) (TF : TabFacts pf cds)
    (hx : ∀ q ∈ extra, ∀ vs, q.2.data ≠ .fields vs) (hf : env.frame = some L) (hke : env.scope.kind = .function) {b : Array UInt8} {t1 : Tok} (hz : b.size ≤ 10000)
    (h : ∀ g' p' cds' h' tk gs t, AfterEvo w p loose mean mg mb A base g outer L m₀ extra h' g' p' cds' → (AllBare s.gens → AllBare gs) → Q (.bytes (byteArr (b.toList.map fun c => (rev8 c.toNat : Int))) t) { s with heap := h', toks := tk, gens := gs }) :
    wpJ (model PySem.Challenge.rw_dp5010_01.row.prog w) (A.deeper env) (call (.ref 81) [.bytes b t1]) Q E s := by
  rw [S.eq] at N
  have B' := pushX B F hf hke
  have X := XB.keeps B'.stays
  refine wpJ_call (swapBib (A := A.deeper env) hh (by show A.depth + 1 + 12 < _; omega) (by rw [Around.deeper_units]; omega) XB TB CH B' (dicts_push D F hf) (led_in TF B N) binds_81 hz fun h' tk gs t V hbr => ?_)
  obtain ⟨g', p', cds', a⟩ := after_evo V XB TB B D F N TF hx hf
  exact h g' p' cds' h' tk gs t a hbr
theorem b2ByC (hh : A.handled = none) (hdp : A.depth + 13 < recursionLimit) (hun : A.units + 90 < cLine) (XB : (hd.heap_39 w.params).In base) (TB : Top p loose mean mg mb base) (CH : CodeHd base 59 55) (B : Below A base outer g) (D : KtsDicts (frs outer) g) (F : Fr g L s.heap m₀) {all : List (Addr × Obj)} (N : News g L s.heap all) (S : Sp pf cds all extra) (TF : TabFacts pf cds)
    (hx : ∀ q ∈ extra, ∀ vs, q.2.data ≠ .fields vs) (hf : env.frame = some L) (hke : env.scope.kind = .function) {V k : Nat} {t1 : Tok} (hz : k ≤ 1000) (hV : V < 256 ^ k)
    (h : ∀ g' p' cds' h' tk gs t, AfterEvo w p loose mean mg mb A base g outer L m₀ extra h' g' p' cds' → (AllBare s.gens → AllBare gs) → Q (.bytes (digB V 256 k) t) { s with heap := h', toks := tk, gens := gs }) :
    wpJ (model PySem.Challenge.rw_dp5010_01.row.prog w) (A.deeper env) (call (.ref 60) [.bytes (digB V 2 (8 * k)) t1]) Q E s := by
  rw [S.eq] at N
  have B' := pushX B F hf hke
  have X := XB.keeps B'.stays
  refine wpJ_call (bits2bytesOk (A := A.deeper env) hh (by show A.depth + 1 + 12 < _; omega) (by rw [Around.deeper_units]; omega) XB TB CH B' (dicts_push D F hf) (led_in TF B N) binds_60 rfl rfl hz hV fun h' tk gs t V hbr => ?_)
  obtain ⟨g', p', cds', a⟩ := after_evo V XB TB B D F N TF hx hf
  exact h g' p' cds' h' tk gs t a hbr
theorem swapBBC (hh : A.handled = none) (hdp : A.depth + 13 < recursionLimit) (hun : A.units + 90 < cLine) (XB : (hd.heap_39 w.params).In base) (TB : Top p loose mean mg mb base) (CH : CodeHd base 73 69) (B : Below A base outer g) (D : KtsDicts (frs outer) g) (F : Fr g L s.heap m₀) {all : List (Addr × Obj)} (N : News g L s.heap all) (S : Sp pf cds all extra) (TF : TabFacts pf cds)
    (hx : ∀ q ∈ extra, ∀ vs, q.2.data ≠ .fields vs) (hf : env.frame = some L) (hke : env.scope.kind = .function) {V k : Nat} {t1 : Tok} (hz : k ≤ 1000) (hV : V < 256 ^ k)
    (h : ∀ g' p' cds' h' tk gs t, AfterEvo w p loose mean mg mb A base g outer L m₀ extra h' g' p' cds' → (AllBare s.gens → AllBare gs) → Q (.bytes (turnB V k) t) { s with heap := h', toks := tk, gens := gs }) :
    wpJ (model PySem.Challenge.rw_dp5010_01.row.prog w) (A.deeper env) (call (.ref 74) [.bytes (digB V 2 (8 * k)) t1]) Q E s := by
  rw [S.eq] at N
  have B' := pushX B F hf hke
  have X := XB.keeps B'.stays
  refine wpJ_call (swapBiBits (A := A.deeper env) hh (by show A.depth + 1 + 12 < _; omega) (by rw [Around.deeper_units]; omega) XB TB CH B' (dicts_push D F hf) (led_in TF B N) binds_74 rfl rfl hz hV fun h' tk gs t V hbr => ?_)
  obtain ⟨g', p', cds', a⟩ := after_evo V XB TB B D F N TF hx hf
  exact h g' p' cds' h' tk gs t a hbr
end
end Mine
end
section
open PySem PySem.W PySem.Calls PyProof.Rows
set_option Elab.async false
set_option maxRecDepth 100000
namespace Mine
abbrev lstE (zs : List Value) (ep : Nat) : Obj := { cls := .type "list", data := .seq zs.toArray ep }
structure CatStep (h₀ : Heap) (L : Addr) (rest own : List (Addr × Obj)) (Jn : (Str → Option Value) → Addr → List Value → Prop) (s₁ : Shared) (f : Flow) (s₂ : Shared) : Prop where
  out : f = .next ∧ ∃ h' tk m₂ d zs ep, s₂ = { s₁ with heap := h', toks := tk } ∧ Fr h₀ L h' m₂ ∧ News h₀ L h' ((d, lstE zs ep) :: (rest ++ own)) ∧ Jn m₂ d zs
section
variable {prog : Program} {w : World} {A : Around} {E : Value → Shared → Prop} {s : Shared} {env : Env} {h₀ : Heap} {x : Str} {body : List Stmt} {Q : Flow → Shared → Prop}
/-- a loop over a list that sets one name to longer and longer lists -/
theorem loop_cat {l d₀ : Addr} {ys zs₀ : List Value} {ep₀ : Nat} {m₀ : Str → Option Value} {rest : List (Addr × Obj)} (J : Nat → (Str → Option Value) → Addr → List Value → Prop) (hh : A.handled = none) (hl : (l, LCg.lst ys) ∈ rest) (F : Fr h₀ env.locals s.heap m₀) (N : News h₀ env.locals s.heap ((d₀, lstE zs₀ ep₀) :: rest)) (hj : J 0 m₀ d₀ zs₀)
    (turn : ∀ i v m₁ d zs ep h tk own, ys[i]? = some v → J i m₁ d zs → Fr h₀ env.locals h (fun y => if y = x then some v else m₁ y) → News h₀ env.locals h ((d, lstE zs ep) :: (rest ++ own)) →
      wpAny (model prog w) A (execs body env) (CatStep h₀ env.locals rest own (J (i + 1)) { s with heap := h, toks := tk }) E { s with heap := h, toks := tk })
    (done : ∀ m₁ d zs ep h tk, J ys.length m₁ d zs → Fr h₀ env.locals h m₁ → News h₀ env.locals h ((d, lstE zs ep) :: rest) → Q .next { s with heap := h, toks := tk }) :
    wpAny (model prog w) A (pyIter (.ref l)) (fun it s₂ => LoopAtV prog w A h₀ env x body Q E it s₂) E s := by
  have hnl := N (l, LCg.lst ys) (.tail _ hl)
  have hL : s.heap.IsList l ys.toArray := ⟨_, hnl.1, rfl, _, rfl⟩
  refine wpAny_pyIter_list hL ?_
  have hlI : l ≠ s.heap.objs.size := Nat.ne_of_lt (Heap.lt_size hnl.1)
  have W := Walks.list (prog := prog) (w := w) hh s.heap.objs.size l hlI ys.toArray
  have hLI : env.locals ≠ s.heap.objs.size := Nat.ne_of_lt F.ns.lt
  have hI0 : h₀.get? s.heap.objs.size = none := Heap.get?_none_of_le (Nat.le_trans F.above (Nat.le_of_lt F.ns.lt))
  have hrest : ∀ q ∈ rest, q.1 ≠ s.heap.objs.size := fun q hq => Nat.ne_of_lt (Heap.lt_size (N q (.tail _ hq)).1)
  refine ⟨s.heap.objs.size, [s.heap.objs.size, l], [s.heap.objs.size], _, _, _, m₀, (d₀, lstE zs₀ ep₀) :: rest, fun i m news => ∃ d zs ep, news = (d, lstE zs ep) :: rest ∧ J i m d zs, rfl, W, ?_, ?_, ?_,
    ⟨⟨_, Heap.get?_push_size _ rfl, rfl, rfl⟩, ⟨_, Heap.get?_push_of_some _ hnl.1, rfl, _, rfl⟩⟩, F.push _, (fun p hp => ⟨Heap.get?_push_of_some _ (N p hp).1, (N p hp).2⟩), ⟨_, _, _, rfl, hj⟩, ?_, ?_⟩
  · intro hm
    rcases List.mem_cons.mp hm with e | e
    · exact hLI e
    · rw [List.mem_singleton.mp e] at hnl
      exact hnl.2.1 rfl
  · intro b hb
    rw [List.mem_singleton.mp hb]
    exact hI0
  · intro p hp hm
    exact Nat.ne_of_lt (Heap.lt_size (N p hp).1) (List.mem_singleton.mp hm)
  · rintro i v m₁ news₁ s₁ own ⟨hh', tk', rfl⟩ hin hP ⟨d, zs, ep, rfl, hJ⟩ hoff hown hget hall hst F₁ N₁
    have hv : ys[i]? = some v := by simpa using hP
    have N₂ : News h₀ env.locals hh' ((d, lstE zs ep) :: (rest ++ own)) := fun p hp => N₁ p (by
      rcases List.mem_cons.mp hp with rfl | hp
      · exact List.mem_append_right _ (.head _)
      · rcases List.mem_append.mp hp with hp | hp
        · exact List.mem_append_right _ (.tail _ hp)
        · exact List.mem_append_left _ hp)
    refine wpAny_mono (turn i v m₁ d zs ep hh' tk' own hv hJ F₁ N₂) (fun f s₂ p => ?_) fun _ _ e => e
    obtain ⟨rfl, h', tk, m₂, d2, zs2, ep2, rfl, F', N', hJ'⟩ := p.out
    have hd2 : d2 ≠ s.heap.objs.size := fun e => by
      obtain ⟨o, ho, hc, _⟩ := hst.1
      have hmem := hall s.heap.objs.size (.head _) hI0 _ ho
      have n1 := (N' (d2, lstE zs2 ep2) (.head _)).1
      have n2 := (N' (s.heap.objs.size, o) (.tail _ (List.mem_append_right _ hmem))).1
      rw [e] at n1
      dsimp only at n1 n2
      rw [n1] at n2
      rw [← Option.some.inj n2] at hc
      exact absurd (Value.type.inj hc) (by decide)
    refine .ofU ⟨rfl, h', tk, m₂, (d2, lstE zs2 ep2) :: rest, rfl, F', fun p hp => N' p ?_, fun p hp hm => ?_, _, _, _, rfl, hJ'⟩
    · rcases List.mem_append.mp hp with hp | hp
      · exact .tail _ (List.mem_append_right _ hp)
      · rcases List.mem_cons.mp hp with rfl | hp
        · exact .head _
        · exact .tail _ (List.mem_append_left _ hp)
    · rw [List.mem_singleton] at hm
      rcases List.mem_cons.mp hp with rfl | hp
      · exact hd2 hm
      · exact hrest p hp hm
  · rintro h' tk m' news' F' N' _ ⟨d, zs, ep, rfl, hJ⟩
    have e : ys.toArray.size = ys.length := by simp
    rw [e] at hJ
    exact done m' d zs ep h' tk hJ F' N'
theorem for_F {m : Str → Option Value} {px pos : Pos} {iter : Expr} (_F : Fr h₀ env.locals s.heap m) (hx : env.kindOf x = some .local) (hp : (env.scope.kind == .class || (env.scope.kind == .module && env.locals != env.globals)) = false)
    (h : wpAny (model prog w) A (eval iter env) (fun xv s₁ => wpAny (model prog w) A (pyIter xv) (fun it s₂ => LoopAtV prog w A h₀ env x body Q (fun _ _ => False) it s₂) (fun _ _ => False) s₁) (fun _ _ => False) s)
    (hs : ∀ x, foldedSetIterable iter env x = pure x) : wpAny (model prog w) A (exec (.For (.Name x px) iter body [] pos) env) Q E s :=
  wpAny_mono (For_invV h₀ hx hp h hs PassesOwn.never) (fun _ _ h => h) fun _ _ h => h.elim
/-- what a turn keeps of the frame: the name of the loop and the name of the list apart, all stands -/
structure CatMap (x tn : Str) (m₀ : Str → Option Value) (J : Addr → List Value → Prop) (m : Str → Option Value) (d : Addr) (zs : List Value) : Prop where
  off : ∀ y, y ≠ x → y ≠ tn → m y = m₀ y
  at_ : m tn = some (.ref d)
  inv : J d zs
theorem loop_catM {l d₀ : Addr} {ys zs₀ : List Value} {ep₀ : Nat} {m₀ : Str → Option Value} {rest : List (Addr × Obj)} {tn : Str} (J : Nat → Addr → List Value → Prop) (hne : tn ≠ x) (hh : A.handled = none) (hl : (l, LCg.lst ys) ∈ rest) (F : Fr h₀ env.locals s.heap m₀) (N : News h₀ env.locals s.heap ((d₀, lstE zs₀ ep₀) :: rest)) (hm : m₀ tn = some (.ref d₀)) (hj : J 0 d₀ zs₀)
    (turn : ∀ i v d zs ep h tk own, ys[i]? = some v → J i d zs → Fr h₀ env.locals h (fun y => if y = x then some v else if y = tn then some (.ref d) else m₀ y) → News h₀ env.locals h ((d, lstE zs ep) :: (rest ++ own)) →
      wpAny (model prog w) A (execs body env) (CatStep h₀ env.locals rest own (CatMap x tn m₀ (J (i + 1))) { s with heap := h, toks := tk }) E { s with heap := h, toks := tk })
    (done : ∀ mo d zs ep h tk, J ys.length d zs → Fr h₀ env.locals h (fun y => if y = tn then some (.ref d) else if y = x then mo else m₀ y) → News h₀ env.locals h ((d, lstE zs ep) :: rest) → Q .next { s with heap := h, toks := tk }) :
    wpAny (model prog w) A (pyIter (.ref l)) (fun it s₂ => LoopAtV prog w A h₀ env x body Q E it s₂) E s := by
  refine loop_cat (fun i m d zs => CatMap x tn m₀ (J i) m d zs) hh hl F N ⟨fun _ _ _ => rfl, hm, hj⟩ (fun i v m₁ d zs ep h tk own hv hJ F₁ N₁ => ?_) fun m₁ d zs ep h tk hJ F₁ N₁ => ?_
  · refine turn i v d zs ep h tk own hv hJ.inv ?_ N₁
    have e : (fun y => if y = x then some v else if y = tn then some (Value.ref d) else m₀ y) = fun y => if y = x then some v else m₁ y := funext fun y => by
      by_cases h1 : y = x
      · rw [if_pos h1, if_pos h1]
      · rw [if_neg h1, if_neg h1]
        by_cases h2 : y = tn
        · rw [if_pos h2, h2, hJ.at_]
        · rw [if_neg h2, hJ.off y h1 h2]
    rw [e]
    exact F₁
  · refine done (m₁ x) d zs ep h tk hJ.inv ?_ N₁
    have e : (fun y => if y = tn then some (Value.ref d) else if y = x then m₁ x else m₀ y) = m₁ := funext fun y => by
      by_cases h2 : y = tn
      · rw [if_pos h2, h2, hJ.at_]
      · rw [if_neg h2]
        by_cases h1 : y = x
        · rw [if_pos h1, h1]
        · rw [if_neg h1, hJ.off y h1 h2]
    rw [e]
    exact F₁
theorem add_cat {L a b : Addr} {zs ws : List Value} {ea eb : Nat} {ns ms : List Int} {m : Str → Option Value} {news : List (Addr × Obj)} {Q : Value → Shared → Prop} (F : Fr h₀ L s.heap m) (N : News h₀ L s.heap news) (ha : (a, lstE zs ea) ∈ news) (hb : (b, lstE ws eb) ∈ news) (hi : IntsAre zs ns) (hj : IntsAre ws ms) (hz : ns.length + ms.length ≤ sizeLine)
    (h : ∀ D us h', Fr h₀ L h' m → News h₀ L h' ((D, lstE us 0) :: news) → IntsAre us (ns ++ ms) → Q (.ref D) { s with heap := h' }) : wpAny (model prog w) A (binaryOp .Add (.ref a) (.ref b)) Q E s :=
  kmk_add_ints F N ⟨_, (N _ ha).1, rfl, _, rfl⟩ ⟨_, (N _ hb).1, rfl, _, rfl⟩ hi hj (fun D us h' F' N' _ hi' => h D us h' F' N' hi') hz
end
end Mine
end
section
open PySem PySem.W PySem.Calls PyProof.Rows
set_option Elab.async false
set_option maxRecDepth 100000
namespace Mine
section
variable {prog : Program} {w : World} {A : Around} {E : Value → Shared → Prop} {s : Shared} {h₀ : Heap} {L : Addr} {m : Str → Option Value} {env : Env}
/-- the environment of a block whose one own name is a cell -/
theorem newEnv_cell {scope : Scope} {globals : Addr} {qual : Str} {x : Str} {Q : Env → Shared → Prop} (hone : ∀ n, cellsFrom n scope.names [] = [(x, n)]) (hpush : ∀ h : Heap, pushCells h scope.names = h.push { cls := .type "cell", data := .cell none })
    (h : Q { scope := scope, locals := s.heap.objs.size, globals := globals, cells := [(x, s.heap.objs.size + 1)], qual := qual, func := none, code := env.code, frame := env.frame, builtins := env.builtins }
      { s with heap := (s.heap.push { cls := .type "dict", data := .dict #[] }).push { cls := .type "cell", data := .cell none } }) :
    wpAny (model prog w) A (newFunctionEnv scope globals [] [] qual none .none (some env)) Q E s := by
  simp only [newFunctionEnv, Option.isSome_some, if_true]
  refine wpAny_bind (wpAny_alloc ?_)
  refine wpAny_bind (wpAny_layCells _ (fun name kind cells => by cases hkc : kind == NameKind.cell <;> simp [hkc]) _ _ _ _ ?_)
  rw [hone, hpush]
  rw [show ({ s with heap := s.heap.push { cls := .type "dict", data := .dict #[] } } : Shared).heap.objs.size = s.heap.objs.size + 1 from Heap.size_push ..]
  refine wpAny_bind ?_
  rw [List.forIn_nil]
  exact wpAny_pure (wpAny_pure h)

/-- `[elt for x in b]` over bytes, `x` a cell of the block, kept in the local name `y` -/
def CompBy (prog : Program) (w : World) (A : Around) (h₀ : Heap) (L : Addr) (m : Str → Option Value) (env : Env) (elt : Expr) (x : Str) (scope : Scope) (y : Str) (Q : Flow → Shared → Prop) (xv : Value) (s₁ : Shared) : Prop :=
  ∃ (b : Array UInt8) (tb : Tok) (news : List (Addr × Obj)) (f : Nat → Int), xv = .bytes b tb ∧ b.size ≤ sizeLine ∧ Fr h₀ L s₁.heap m ∧ News h₀ L s₁.heap news ∧
    (∀ (g : Heap) (i : Nat) (c : UInt8) I oI C oC cc oc D t h tk (E' : Value → Shared → Prop) ys, b[i]? = some c → oc.data = .cell (some (.int (c.toNat : Int) t)) → Fr h₀ L h m → News h₀ L h ((I, oI) :: (C, oC) :: (cc, oc) :: (D, LCg.lst ys) :: news) →
      wpAny (model prog w) A (eval elt (compEnvC scope [(x, cc)] C env)) (IntEnd h₀ L m { s₁ with heap := h, toks := tk } ((I, oI) :: (C, oC) :: (cc, oc) :: (D, LCg.lst ys) :: news) (f c.toNat)) E' { s₁ with heap := h, toks := tk }) ∧
    (∀ D h tk ys, Fr h₀ L h (fun z => if z = y then some (.ref D) else m z) → News h₀ L h ((D, LCg.lst ys) :: news) → IntsAre ys (b.toList.map fun c => f c.toNat) → Q .next { s₁ with heap := h, toks := tk })

theorem Assign_ListComp_cell {elt iter : Expr} {x y : Str} {px py : Pos} {scope : Scope} {pos spos : Pos} {Q : Flow → Shared → Prop} (hLe : env.locals = L)
    (hsw : swapsWith (.ListComp elt [⟨.Name x px, iter, [], 0⟩] scope pos) (some (.Name y py)) spos.line env = pure true)
    (hclos : closureFor scope env = pure []) (hone : ∀ n, cellsFrom n scope.names [] = [(x, n)]) (hpush : ∀ h : Heap, pushCells h scope.names = h.push { cls := .type "cell", data := .cell none })
    (hkind : scope.kind = .function) (hnames : ∀ z ∈ scope.names, z.2 = .local → scope.names.lookup z.1 = some .local) (hx : ∀ cl C, (compEnvC scope cl C env).kindOf x = some .cell)
    (hy : env.kindOf y = some .local) (hp : (env.scope.kind == .class || (env.scope.kind == .module && env.locals != env.globals)) = false) (hh : A.handled = none) (F₀ : Fr h₀ L s.heap m)
    (h : wpAny (model prog w) A (eval iter env) (CompBy prog w A h₀ L m env elt x scope y Q) E s)
    (hs : ∀ x, foldedSetIterable iter env x = pure x := by intro _; rfl) :
    wpAny (model prog w) A (exec (.Assign [.Name y py] (.ListComp elt [⟨.Name x px, iter, [], 0⟩] scope pos) spos) env) Q E s := by
  subst hLe
  rw [exec_Assign_Name_used _ _ _ _ hsw]
  refine wpAny_bind (wpAny_standAt (wpAny_bind ?_))
  show wpAny _ A (do let _ ← comprehension (.ListComp elt [⟨.Name x px, iter, [], 0⟩] scope pos) scope env _ (newList []) false (eval iter env) (some (assign (.Name y py) env))) _ _ s
  refine wpAny_bind (wpAny_mono (wpAny_comprehension_free (use := some (assign (.Name y py) env)) (Q := fun _ s' => Q .next s') rfl hs hclos hkind hnames
    (wpAny_mono h (fun xv s₁ h₁ => ?_) fun _ _ e => e)) (fun _ s' hq => wpAny_pure (wpAny_pure hq)) fun _ _ e => e)
  obtain ⟨b, tb, news, f, rfl, hsz, F, N, turn, fin⟩ := h₁
  refine KBw.pyIter_bytes ?_
  refine wpAny_newObj_type (newEnv_cell hone hpush ?_)
  have kp : ∀ (h : Heap) (o' : Obj) b o, h.get? b = some o → (h.push o').get? b = some o := fun h o' b o e => Heap.get?_push_of_some _ e
  generalize hI : s₁.heap.objs.size = I at *
  let o1 : Obj := { cls := .type "bytes_iterator", data := .fields #[.bytes b tb, .int 0 0] }
  let o2 : Obj := { cls := .type "list", dict := none, data := .seq ([] : List Value).toArray }
  let o3 : Obj := { cls := .type "dict", data := .dict #[] }
  let o4 : Obj := { cls := .type "cell", data := .cell none }
  have z1 : (s₁.heap.push o1).objs.size = I + 1 := by rw [Heap.size_push, hI]
  have z2 : ((s₁.heap.push o1).push o2).objs.size = I + 2 := by rw [Heap.size_push, z1]
  have z3 : (((s₁.heap.push o1).push o2).push o3).objs.size = I + 3 := by rw [Heap.size_push, z2]
  have g1 : ((((s₁.heap.push o1).push o2).push o3).push o4).get? I = some o1 := kp _ _ _ _ (kp _ _ _ _ (kp _ _ _ _ (hI ▸ Heap.get?_push_size _ rfl)))
  have g2 : ((((s₁.heap.push o1).push o2).push o3).push o4).get? (I + 1) = some o2 := kp _ _ _ _ (kp _ _ _ _ (z1 ▸ Heap.get?_push_size _ rfl))
  have g3 : ((((s₁.heap.push o1).push o2).push o3).push o4).get? (I + 2) = some o3 := kp _ _ _ _ (z2 ▸ Heap.get?_push_size _ rfl)
  have g4 : ((((s₁.heap.push o1).push o2).push o3).push o4).get? (I + 3) = some o4 := z3 ▸ Heap.get?_push_size _ rfl
  have old : ∀ b o, s₁.heap.get? b = some o → ((((s₁.heap.push o1).push o2).push o3).push o4).get? b = some o := fun b o e => kp _ _ _ _ (kp _ _ _ _ (kp _ _ _ _ (kp _ _ _ _ e)))
  show codeAny _ _ (.compStart _ 0 (.ref I) (.ref (s₁.heap.push o1).objs.size) (compEnvC scope [(x, ((s₁.heap.push o1).push o2).objs.size + 1)] ((s₁.heap.push o1).push o2).objs.size env)) (compPost _ A E _ _ (.ref (s₁.heap.push o1).objs.size) ((s₁.heap.push o1).push o2).objs.size) { s₁ with heap := ((((s₁.heap.push o1).push o2).push o3).push o4) }
  rw [z1, z2]
  generalize ((((s₁.heap.push o1).push o2).push o3).push o4) = H at g1 g2 g3 g4 old ⊢
  have fresh : ∀ a, I ≤ a → h₀.get? a = none := fun a ha => by
    cases e : h₀.get? a with
    | none => rfl
    | some o' => exact absurd (Heap.lt_size (F.keep a o' e)) (by rw [hI]; exact Nat.not_lt.mpr ha)
  have hLI : env.locals < I := hI ▸ F.ns.lt
  have nI : ∀ p ∈ news, p.1 < I := fun p hp => hI ▸ Heap.lt_size (N p hp).1
  have ne : ∀ k : Nat, @Ne Nat (I + k) env.locals := fun k e => by
    have h1 : @LT.lt Nat _ env.locals I := hLI
    rw [← e] at h1; exact absurd h1 (Nat.not_lt.mpr (Nat.le_add_right _ _))
  have nn : ∀ (j k : Nat), j ≠ k → @Ne Nat (I + j) (I + k) := fun j k hjk e => hjk (Nat.add_left_cancel e)
  have nw : ∀ k : Nat, ∀ p ∈ news, @Ne Nat p.1 (I + k) := fun k p hp e => by
    have h1 : @LT.lt Nat _ p.1 I := nI p hp
    rw [e] at h1; exact absurd h1 (Nat.not_lt.mpr (Nat.le_add_right _ _))
  let Inv : Nat → Shared → Prop := fun k s' => ∃ h' tk i ys oC oc, s' = { s₁ with heap := h', toks := tk } ∧ i ≤ b.size ∧ k = b.size + 1 - i ∧ ys.length = i ∧ IntsAre ys ((b.toList.take i).map fun c => f c.toNat) ∧ KBw.IsBytesIter h' I b tb i ∧
    Fr h₀ env.locals h' m ∧ News h₀ env.locals h' ((I + 2, oC) :: (I + 3, oc) :: (I + 1, LCg.lst ys) :: news) ∧ LCg.NsObj oC (fun _ => none) ∧ ∃ v, oc.data = .cell v
  have loop : codeAny (model prog w) A (.compLoop (.ListComp elt [⟨.Name x px, iter, [], 0⟩] scope pos) 0 (.ref I) (.ref (I + 1)) (compEnvC scope [(x, I + 2 + 1)] (I + 2) env))
      (compPost (model prog w) A E (some (assign (.Name y py) env)) (fun _ s' => Q .next s') (.ref (I + 1)) (I + 2)) { s₁ with heap := H } := by
    refine codeAny_compLoop_tests Inv ?_ (b.size + 1) ?_
    · rintro k s' ⟨h', tk, i, ys, oC, oc, rfl, hi, rfl, hyl, hys, hit, F', N', hC, vc, hvc⟩
      have W := KBw.walks (prog := prog) (w := w) hh I b tb
      by_cases hlt : i < b.size
      · refine W.item i _ _ _ hlt hit fun v h₂ tk₂ hPv hst₂ hk₂ => ?_
        obtain ⟨c, u, hc, rfl⟩ := hPv
        have kk : ∀ p o, @Ne Nat p I → h'.get? p = some o → h₂.get? p = some o := fun p o hp e => hk₂ p o (by simpa using hp) e
        have N2 : News h₀ env.locals h₂ ((I + 2, oC) :: (I + 3, oc) :: (I + 1, LCg.lst ys) :: news) := fun p hp => by
          refine ⟨kk _ _ ?_ (N' p hp).1, (N' p hp).2⟩
          rcases List.mem_cons.mp hp with rfl | hp
          · exact nn 2 0 (by decide)
          · rcases List.mem_cons.mp hp with rfl | hp
            · exact nn 3 0 (by decide)
            · rcases List.mem_cons.mp hp with rfl | hp
              · exact nn 1 0 (by decide)
              · exact nw 0 p hp
        have F2 : Fr h₀ env.locals h₂ m := LCg.fr_but F' (I := I) hk₂ (Ne.symm (ne 0)) (fresh I (Nat.le_refl _))
        have hcell : h₂.IsCell (I + 3) vc := ⟨oc, (N2 _ (.tail _ (.head _))).1, hvc⟩
        refine wpAny_assign_Name (wpAny_storeName_cell hkind (hx _ _) (c := I + 3) (by simp [compEnvC]) hcell fun h₃ hv₃ hs₃ => ?_)
        refine wpAny_tests_nil ?_
        simp only [if_true]
        obtain ⟨oc', hoc', hdc'⟩ := hv₃
        obtain ⟨oI, hoI, hIr⟩ := hst₂
        have hoI3 : h₃.get? I = some oI := hs₃.extBut _ _ (nn 0 3 (by decide)) hoI
        have F3 : Fr h₀ env.locals h₃ m := F2.change hs₃ (ne 3) (fresh (I + 3) (Nat.le_add_right _ _))
        have N3 : News h₀ env.locals h₃ ((I, oI) :: (I + 2, oC) :: (I + 3, oc') :: (I + 1, LCg.lst ys) :: news) := fun p hp => by
          rcases List.mem_cons.mp hp with rfl | hp
          · exact ⟨hoI3, ne 0, fresh I (Nat.le_refl _)⟩
          rcases List.mem_cons.mp hp with rfl | hp
          · exact ⟨hs₃.extBut _ _ (nn 2 3 (by decide)) (N2 _ (.head _)).1, ne 2, fresh _ (Nat.le_add_right _ _)⟩
          rcases List.mem_cons.mp hp with rfl | hp
          · exact ⟨hoc', ne 3, fresh _ (Nat.le_add_right _ _)⟩
          · have z := N2 p (.tail _ (.tail _ hp))
            refine ⟨hs₃.extBut _ _ ?_ z.1, z.2⟩
            rcases List.mem_cons.mp hp with rfl | hp
            · exact nn 1 3 (by decide)
            · exact nw 3 p hp
        refine wpAny_mono (turn H i c I oI (I + 2) oC (I + 3) oc' (I + 1) _ h₃ tk₂ _ ys hc hdc' F3 N3) (fun y' s₄ h₄ => ?_) fun _ _ e => e
        obtain ⟨h₄', tk₄, t₄, rfl, rfl, F4, N4⟩ := h₄.it
        have zD := (N4 (I + 1, LCg.lst ys) (.tail _ (.tail _ (.tail _ (.head _))))).1
        refine append_at (hsz := by show ys.toArray.size ≤ sizeLine; rw [List.size_toArray, hyl]; exact Nat.le_trans hi hsz) zD fun h₅ hs₅ hD₅ => ?_
        refine ⟨b.size + 1 - (i + 1), by omega, h₅, tk₄, i + 1, ys ++ [Value.int (f c.toNat) t₄], oC, oc', rfl, hlt, rfl, by rw [List.length_append, List.length_singleton, hyl], ?_, ?_, F4.change hs₅ (ne 1) (fresh _ (Nat.le_add_right _ _)), fun p hp => ?_, hC, _, hdc'⟩
        · have e : b.toList.take (i + 1) = b.toList.take i ++ [c] := by
            rw [List.take_add_one]
            have : b.toList[i]? = some c := by rw [Array.getElem?_toList]; exact hc
            rw [this]; rfl
          rw [e, List.map_append]
          exact hys.append (.cons _ _ .nil)
        · exact ⟨oI, hs₅.extBut _ _ (nn 0 1 (by decide)) (N4 _ (.head _)).1, hIr⟩
        · rcases List.mem_cons.mp hp with rfl | hp
          · exact ⟨hs₅.extBut _ _ (nn 2 1 (by decide)) (N4 _ (.tail _ (.head _))).1, ne 2, fresh _ (Nat.le_add_right _ _)⟩
          rcases List.mem_cons.mp hp with rfl | hp
          · exact ⟨hs₅.extBut _ _ (nn 3 1 (by decide)) (N4 _ (.tail _ (.tail _ (.head _)))).1, ne 3, fresh _ (Nat.le_add_right _ _)⟩
          rcases List.mem_cons.mp hp with rfl | hp
          · exact ⟨hD₅.trans (congrArg some (LCg.lst_snoc ys _)), ne 1, fresh _ (Nat.le_add_right _ _)⟩
          · have z := N4 p (.tail _ (.tail _ (.tail _ (.tail _ hp))))
            exact ⟨hs₅.extBut _ _ (nw 1 p hp) z.1, z.2⟩
      · obtain rfl : i = b.size := Nat.le_antisymm hi (Nat.not_lt.mp hlt)
        refine W.done _ _ _ hit fun h₂ tk₂ hk₂ => ?_
        have kk : ∀ p o, @Ne Nat p I → h'.get? p = some o → h₂.get? p = some o := fun p o hp e => hk₂ p o (by simpa using hp) e
        have N2 : News h₀ env.locals h₂ ((I + 2, oC) :: (I + 1, LCg.lst ys) :: news) := fun p hp => by
          rcases List.mem_cons.mp hp with rfl | hp
          · exact ⟨kk _ _ (nn 2 0 (by decide)) (N' _ (.head _)).1, ne 2, fresh _ (Nat.le_add_right _ _)⟩
          rcases List.mem_cons.mp hp with rfl | hp
          · exact ⟨kk _ _ (nn 1 0 (by decide)) (N' _ (.tail _ (.tail _ (.head _)))).1, ne 1, fresh _ (Nat.le_add_right _ _)⟩
          · have z := N' p (.tail _ (.tail _ (.tail _ hp)))
            exact ⟨kk _ _ (nw 0 p hp) z.1, z.2⟩
        have F2 : Fr h₀ env.locals h₂ m := LCg.fr_but F' (I := I) hk₂ (Ne.symm (ne 0)) (fresh I (Nat.le_refl _))
        show wpAny _ A (assign (.Name y py) env (.ref (I + 1))) _ _ _
        refine wpAny_assign_Name (wpAny_storeName_local hy F2.ns (fun h₃ hn₃ hs₃ => ?_) hp)
        have hL₀ : h₀.get? env.locals = none := Heap.get?_none_of_le F2.above
        have F3 : Fr h₀ env.locals h₃ (fun z => if z = y then some (.ref (I + 1)) else m z) := ⟨hn₃, fun b o e => hs₃.extBut b o (fun q => by rw [q, hL₀] at e; cases e) (F2.keep b o e), F2.above⟩
        have N3 : News h₀ env.locals h₃ ((I + 2, oC) :: (I + 1, LCg.lst ys) :: news) := fun p hp => ⟨hs₃.extBut _ _ (N2 p hp).2.1 (N2 p hp).1, (N2 p hp).2⟩
        refine ⟨_, hC.ns (N3 _ (.head _)).1, fun h₄ hs₄ => fin (I + 1) h₄ _ ys (F3.change hs₄ (ne 2) (fresh _ (Nat.le_add_right _ _))) (fun p hp => ?_) ?_⟩
        · have z := N3 p (.tail _ hp)
          refine ⟨hs₄.extBut _ _ ?_ z.1, z.2⟩
          rcases List.mem_cons.mp hp with rfl | hp
          · exact nn 1 2 (by decide)
          · exact nw 2 p hp
        · rw [List.take_of_length_le (by simp)] at hys
          exact hys
    · refine ⟨H, s₁.toks, 0, [], o3, o4, rfl, Nat.zero_le _, rfl, rfl, .nil, ⟨o1, g1, rfl, rfl⟩, F.keeps old, fun p hp => ?_, ?_, none, rfl⟩
      · rcases List.mem_cons.mp hp with rfl | hp
        · exact ⟨g3, ne 2, fresh _ (Nat.le_add_right _ _)⟩
        rcases List.mem_cons.mp hp with rfl | hp
        · exact ⟨g4, ne 3, fresh _ (Nat.le_add_right _ _)⟩
        rcases List.mem_cons.mp hp with rfl | hp
        · exact ⟨g2, ne 1, fresh _ (Nat.le_add_right _ _)⟩
        · exact ⟨old _ _ (N p hp).1, (N p hp).2⟩
      · exact ⟨_, _, rfl, fun _ h => absurd h (by simp), fun _ => rfl⟩
  exact codeAny_compStart_list loop (KBw.pyIter_self ⟨o1, g1, rfl, rfl⟩ loop)
end
end Mine
end
section
open PySem PySem.W PySem.Calls PyProof.Rows
set_option Elab.async false
set_option maxRecDepth 100000
namespace Mine
local macro_rules | `(tactic| walk_at "exec Raise some none") => `(tactic| (refine Raise_new (handled_deeper (by with_reducible assumption)) ?_))
local macro_rules | `(tactic| walk_at "formatField int") => `(tactic| (refine field_any (natAbs_lt (by assumption) (by assumption)) ?_; intro y' t' k' hy'))
local macro_rules | `(tactic| walk_at "And") => `(tactic| ((with_reducible show PySem.Str.length (_ ++ _) ≤ sizeLine ∧ wpAny _ _ (joinParts _ _) _ _ _); (refine join_part (P := fun o => wpAny _ _ (joinParts o _) _ _ _) (by first | assumption | exact Nat.le_refl _) (by first | assumption | decide +kernel | (split <;> decide +kernel)) (by decide) ?_); intro o' ho'))
local macro_rules | `(tactic| walk_at "joinParts") => `(tactic| (refine join_done (by assumption) (by decide) ?_; intro t' k'))
local macro_rules | `(tactic| walk_at "leaving ref") => `(tactic| ((refine flies_new (by assumption) (by first | assumption | exact Heap.MadeExc.newExc (by assumption)) (by assumption) rfl rfl ?_); intro h' X'))

set_option maxHeartbeats 4000000 in
theorem bits2bytes_no {w : World} {A : Around} {s : Shared} {mg mb : Str → Option Value} {p : Program} {loose : List Str} {mean : ExcName → Option Value} {base : Heap} {outer : List Env}
    (hh : A.handled = none) (hdp : A.depth < recursionLimit) (hun : A.units + 20 < cLine) (XB : (hd.heap_39 w.params).In base) (TB : Top p loose mean mg mb base)
    (B : Below A base outer s.heap) (D : KtsDicts (frs outer) s.heap)
    {t1 : Tok} {b : Array UInt8} {args : Args} (hb : BindsToK (hd.heap_39 w.params) s 60 args [(Str.ofString "data", .bytes b t1)]) {ks : List Int} (hk : KBw.bInts b = ks) (hz : ks.length ≤ 100000) (hn : (ks.length : Int).fmod 8 ≠ 0) :
    RaisesVE (model PySem.Challenge.rw_dp5010_01.row.prog w) A base outer (.call (.ref 60) args) s := by
  refine' enterC (news := []) B D XB TB.nolimit Held.nil ?k6 ?k7 hdp ?k9 ?kB ?kD ?h ?c2 ?c3 ?c4
  case k6 => k_is
  case k7 => k_is
  case k9 => exact hb _ _ (by k_is) rfl
  case kB => exact kindsX rfl
  case kD => decide +kernel
  case c2 => exact rfl
  case c3 => exact rfl
  case c4 => exact rfl
  intro L h₁ tk₀ cells hL F N Y B₁ D₁
  k_cells Y
  have X := XB.keeps B₁.stays
  have T := TB.keeps B₁.stays
  have b1 : -(2 ^ 1000) ≤ (ks.length : Int) := by omega
  have b2 : (ks.length : Int) ≤ 2 ^ 1000 := by omega

  (change wpAny _ _ _ _ _ _); k_fold
  k_steps
  all_goals first
    | (rename Flies _ _ _ _ _ _ => X'
       exact X')
    | exact absurd (by with_reducible assumption) hn

set_option maxHeartbeats 4000000 in
theorem swapbib_no {w : World} {A : Around} {s : Shared} {mg mb : Str → Option Value} {p : Program} {loose : List Str} {mean : ExcName → Option Value} {base : Heap} {outer : List Env}
    (hh : A.handled = none) (hdp : A.depth < recursionLimit) (hun : A.units + 20 < cLine) (XB : (hd.heap_39 w.params).In base) (TB : Top p loose mean mg mb base)
    (B : Below A base outer s.heap) (D : KtsDicts (frs outer) s.heap)
    {t1 : Tok} {b : Array UInt8} {args : Args} (hb : BindsToK (hd.heap_39 w.params) s 74 args [(Str.ofString "data", .bytes b t1)]) {ks : List Int} (hk : KBw.bInts b = ks) (hz : ks.length ≤ 100000) (hn : (ks.length : Int).fmod 8 ≠ 0) :
    RaisesVE (model PySem.Challenge.rw_dp5010_01.row.prog w) A base outer (.call (.ref 74) args) s := by
  refine' enterC (news := []) B D XB TB.nolimit Held.nil ?k6 ?k7 hdp ?k9 ?kB ?kD ?h ?c2 ?c3 ?c4
  case k6 => k_is
  case k7 => k_is
  case k9 => exact hb _ _ (by k_is) rfl
  case kB => exact kindsX rfl
  case kD => decide +kernel
  case c2 => exact rfl
  case c3 => exact rfl
  case c4 => exact rfl
  intro L h₁ tk₀ cells hL F N Y B₁ D₁
  k_cells Y
  have X := XB.keeps B₁.stays
  have T := TB.keeps B₁.stays
  have b1 : -(2 ^ 1000) ≤ (ks.length : Int) := by omega
  have b2 : (ks.length : Int) ≤ 2 ^ 1000 := by omega

  (change wpAny _ _ _ _ _ _); k_fold
  k_steps
  all_goals first
    | (rename Flies _ _ _ _ _ _ => X'
       exact X')
    | exact absurd (by with_reducible assumption) hn
end Mine
end
section
open PySem PySem.W PySem.Calls PyProof.Rows
set_option Elab.async false
set_option maxRecDepth 100000
namespace Mine
theorem sum_cast (l : List Nat) (g : Nat → Nat) : (l.map fun j => ((g j : Nat) : Int)).sum = (((l.map g).sum : Nat) : Int) := by
  induction l with
  | nil => rfl
  | cons x r ih => rw [List.map_cons, List.map_cons, List.sum_cons, List.sum_cons, ih, Int.natCast_add]
theorem rev_sum (c : Nat) : ((List.range 8).map fun j => ((c / 2 ^ j % 2 * 2 ^ (7 - j) : Nat) : Int)).sum = (rev8 c : Int) := sum_cast _ _
theorem mir_val {c i : Nat} (hi : i < 8) : ((c : Int).fdiv ((2 : Int) ^ (0 + (i : Int)).toNat)).fmod 2 * (2 : Int) ^ ((7 : Int) - (0 + (i : Int))).toNat = ((c / 2 ^ i % 2 * 2 ^ (7 - i) : Nat) : Int) := by
  have e1 : (0 + (i : Int)).toNat = i := by omega
  have e2 : ((7 : Int) - (0 + (i : Int))).toNat = 7 - i := by omega
  rw [e1, e2, Int.fdiv_eq_ediv_of_nonneg _ (by exact Int.le_of_lt (Int.pow_pos (by omega))), Int.fmod_eq_emod_of_nonneg _ (by omega)]
  rw [Int.natCast_mul, Int.natCast_emod, Int.natCast_ediv, Int.natCast_pow, Int.natCast_pow]
  rfl
section
variable {prog : Program} {w : World} {A : Around} {E : Value → Shared → Prop} {s : Shared} {g : Heap} {L l : Addr} {m₀ : Str → Option Value} {news : List (Addr × Obj)}
theorem sum_news {ys : List Value} {ns : List Int} {Q : Value → Shared → Prop} (hh : A.handled = none) (F : Fr g L s.heap m₀) (N : News g L s.heap news) (hm : (l, LCg.lst ys) ∈ news) (hi : IntsAre ys ns)
    (h : ∀ h' tk t', Fr g L h' m₀ → News g L h' news → Q (.int ns.sum t') { s with heap := h', toks := tk }) : wpAny (model prog w) A (call (.builtin "sum") [.ref l]) Q E s :=
  sumK hh F N ⟨_, (N _ hm).1, rfl, _, rfl⟩ hi h
theorem add_by {b c : Array UInt8} {t u : Tok} {Q : Value → Shared → Prop} (hsz : b.size + c.size ≤ 16777216) (h : ∀ t' k, Q (.bytes (b ++ c) t') { s with toks := k }) : wpAny (model prog w) A (binaryOp .Add (.bytes b t) (.bytes c u)) Q E s :=
  KBy.add_bytes hsz h
end
section
variable {w : World} {A : Around} {E : Value → Shared → Prop} {s : Shared} {mg mb : Str → Option Value} {p : Program} {loose : List Str} {mean : ExcName → Option Value} {base g : Heap} {outer : List Env} {L : Addr} {m₀ : Str → Option Value} {env : Env} {news own : List (Addr × Obj)} {Q : Value → Shared → Prop}
theorem throw74 {s₀ : Shared} {h : Heap} {tk : Tok} (hh : A.handled = none) (hdp : A.depth + 1 < recursionLimit) (hun : A.units + 30 < cLine) (XB : (hd.heap_39 w.params).In base) (TB : Top p loose mean mg mb base) (B : Below A base outer g) (D : KtsDicts (frs outer) g) (F : Fr g L h m₀) (N : News g L h own)
    (hf : env.frame = some L) (hke : env.scope.kind = .function) {b : Array UInt8} {t1 : Tok} (hz : b.size ≤ 100000) (hn : b.size % 8 ≠ 0) :
    wpAny (model PySem.Challenge.rw_dp5010_01.row.prog w) (A.deeper env) (call (.ref 74) [.bytes b t1]) Q (Thrown base g outer L env own s₀) { s₀ with heap := h, toks := tk } := by
  have B' := pushX B F hf hke
  exact throw_call F N (swapbib_no (A := A.deeper env) hh hdp (by rw [Around.deeper_units]; omega) XB TB B' (dicts_push D F hf) binds_74 rfl (by rw [KBw.ints_length]; exact hz) (by rw [KBw.ints_length, Int.fmod_eq_emod_of_nonneg _ (by omega)]; omega))
theorem throw60 {s₀ : Shared} {h : Heap} {tk : Tok} (hh : A.handled = none) (hdp : A.depth + 1 < recursionLimit) (hun : A.units + 30 < cLine) (XB : (hd.heap_39 w.params).In base) (TB : Top p loose mean mg mb base) (B : Below A base outer g) (D : KtsDicts (frs outer) g) (F : Fr g L h m₀) (N : News g L h own)
    (hf : env.frame = some L) (hke : env.scope.kind = .function) {b : Array UInt8} {t1 : Tok} (hz : b.size ≤ 100000) (hn : b.size % 8 ≠ 0) :
    wpAny (model PySem.Challenge.rw_dp5010_01.row.prog w) (A.deeper env) (call (.ref 60) [.bytes b t1]) Q (Thrown base g outer L env own s₀) { s₀ with heap := h, toks := tk } := by
  have B' := pushX B F hf hke
  exact throw_call F N (bits2bytes_no (A := A.deeper env) hh hdp (by rw [Around.deeper_units]; omega) XB TB B' (dicts_push D F hf) binds_60 rfl (by rw [KBw.ints_length]; exact hz) (by rw [KBw.ints_length, Int.fmod_eq_emod_of_nonneg _ (by omega)]; omega))
end
theorem rev_lt (b : Array UInt8) : ∀ d ∈ b.toList.map fun c => rev8 c.toNat, d < 256 := fun d hd => by
  obtain ⟨c, _, rfl⟩ := List.mem_map.mp hd
  exact (rev8_facts c.toNat_lt).2
theorem rev_bytes (b : Array UInt8) : (byteArr (b.toList.map fun c => (rev8 c.toNat : Int))).toList = (b.toList.map fun c => rev8 c.toNat).map fun d => d.toUInt8 := by
  unfold byteArr
  rw [List.map_map, List.map_map]
  rfl
theorem rev_ints (b : Array UInt8) : (b.toList.map fun c => (rev8 c.toNat : Int)) = (b.toList.map fun c => rev8 c.toNat).map fun (d : Nat) => (d : Int) := by
  rw [List.map_map]
  rfl
end Mine
end
section
open PySem PySem.W PySem.Calls PyProof.Rows
set_option Elab.async false
set_option maxRecDepth 100000
namespace Mine
theorem one_more {b : Array UInt8} {x : UInt8} {n : Nat} (h : b.size + 1 ≤ n) : (b ++ #[x]).size ≤ n := by
  rw [Array.size_append]
  exact h
theorem one_sum {b : Array UInt8} {x : UInt8} {n : Nat} (h : b.size + 1 ≤ n) : b.size + (#[x] : Array UInt8).size ≤ n := h
theorem one_mod {b : Array UInt8} {x : UInt8} {k : Nat} (h : b.size = 8 * k) : (b ++ #[x]).size % 8 ≠ 0 := by
  rw [Array.size_append, h]
  have : (#[x] : Array UInt8).size = 1 := rfl
  omega
theorem e2'' : (2 : Int) = ((2 : Nat) : Int) := rfl
theorem e256' : (256 : Int) = ((256 : Nat) : Int) := rfl
theorem e8k (k : Nat) : (8 : Int) * (k : Int) = ((8 * k : Nat) : Int) := by omega
local macro_rules | `(tactic| k_room) => `(tactic| ((try simp only [depth_under_make, depth_under_kw, depth_in1, depth_deeper, depth_caller]); omega))
local macro_rules | `(tactic| k_all) => `(tactic| first | exact ne_of_allLt (by assumption) (by omega) | exact TabFacts.ne (by assumption) (by decide))
local macro_rules | `(tactic| walk_at "call ref") => `(tactic| (k_here; (refine' digitsV ?hh ?hd ?hu ?XB ?TB ?B ?D ?F ?N rfl rfl ?em ?eb ?ec ?b1 ?b2 ?b3 ?_); (case B => assumption); (case F => k_asm); (case N => k_asm); (case XB => assumption); (case TB => assumption); (case hh => rfl); (case hd => ((try dsimp only); omega)); (case hu => ((try dsimp only); omega)); (case D => assumption); (case em => assumption); (case eb => first | exact e2'' | exact e256'); (case ec => first | exact e8k _ | exact e8 | rfl); (case b1 => omega); (case b2 => omega); (case b3 => omega); intro d' h' tk' ys' F' N' iY' l1; (try simp only [AllNe, and_true] at l1)))
local macro_rules | `(tactic| walk_at "call type:bytes") => `(tactic| (k_here; (refine' bytes_dig ?F ?N ?m ?i rfl ?b1 ?b2 ?b3 ?_); (case F => k_asm); (case N => k_asm); (case i => assumption); (case m => k_mem); (case b1 => omega); (case b2 => omega); (case b3 => omega); intro h' tk' t2' F' N'))
theorem ne256 (e : Nat) : (256 : Int) ^ e ≠ 0 := pow_ne (base := 256) (by decide)
theorem log256 {e : Nat} (he : e ≤ 400) : ((256 : Int) ^ e).natAbs.log2 < 9000 := pow_log (base := 256) (by decide) he
theorem ne2 (e : Nat) : (2 : Int) ^ e ≠ 0 := pow_ne (base := 2) (by decide)
theorem log2' {e : Nat} (he : e ≤ 400) : ((2 : Int) ^ e).natAbs.log2 < 9000 := pow_log (base := 2) (by decide) he
local macro_rules | `(tactic| walk_at "binaryOp FloorDiv int int") => `(tactic| (k_here; refine floordiv_int (ne2 _) ?_ (.inl (PyProof.noPylong_of_log2 (log2' (by omega))))))
local macro_rules | `(tactic| walk_at "binaryOp Pow int int") => `(tactic| (k_here; (with_reducible refine pow_int_small ?kb1 ?kb2 ?kb3 ?_); (case kb1 => omega); (case kb2 => omega); (case kb3 => decide)))
theorem back_val {V i : Nat} {x : Int} (h : x = (V : Int)) : (x.fdiv ((256 : Int) ^ (0 + (i : Int)).toNat)).fmod 256 = ((V / 256 ^ i % 256 : Nat) : Int) := by
  have e : (0 + (i : Int)).toNat = i := by omega
  rw [e, h, Int.fdiv_eq_ediv_of_nonneg _ (by exact Int.le_of_lt (Int.pow_pos (by omega))), Int.fmod_eq_emod_of_nonneg _ (by omega)]
  rw [Int.natCast_emod, Int.natCast_ediv, Int.natCast_pow]
  rfl
local macro_rules | `(tactic| walk_at "CompSrc") => `(tactic| (k_here; refine Stuck.go ?_))
local macro_rules | `(tactic| walk_at "mine b2b") => `(tactic| ((refine' b2bC ?hh ?hd ?hu ?XB ?TB ?CH ?B ?D ?F ?N ?S ?TF ?hx rfl rfl ?hz ?_); (case TF => assumption); (case B => assumption); (case F => k_asm); (case N => k_asm); (case S => (repeat (first | exact Sp.here | apply Sp.cons))); (case hx => (intro q hq; (repeat (rcases List.mem_cons.mp hq with e0 | hq; · (subst e0; first | exact nf_seq rfl | exact nf_cell (by assumption) | exact nf_func rfl))); exact absurd hq List.not_mem_nil)); (case XB => assumption); (case TB => assumption); (case CH => assumption); (case hh => rfl); (case hd => ((try dsimp only); omega)); (case hu => ((try dsimp only); omega)); (case D => assumption); (case hz => first | assumption | omega | (rw [digB_size]; omega)); intro g' p' cds' h' tk' gs' t' a' hbr'; obtain ⟨KT', F', N', B', D', TF', X', T'⟩ := a'; rw [led_eq] at N'; simp only [List.cons_append, List.nil_append] at N'))
local macro_rules | `(tactic| walk_at "mine swapBib") => `(tactic| ((refine' swapBibC ?hh ?hd ?hu ?XB ?TB ?CH ?B ?D ?F ?N ?S ?TF ?hx rfl rfl ?hz ?_); (case TF => assumption); (case B => assumption); (case F => k_asm); (case N => k_asm); (case S => (repeat (first | exact Sp.here | apply Sp.cons))); (case hx => (intro q hq; (repeat (rcases List.mem_cons.mp hq with e0 | hq; · (subst e0; first | exact nf_seq rfl | exact nf_cell (by assumption) | exact nf_func rfl))); exact absurd hq List.not_mem_nil)); (case XB => assumption); (case TB => assumption); (case CH => assumption); (case hh => rfl); (case hd => ((try dsimp only); omega)); (case hu => ((try dsimp only); omega)); (case D => assumption); (case hz => first | assumption | omega | (rw [digB_size]; omega)); intro g' p' cds' h' tk' gs' t' a' hbr'; obtain ⟨KT', F', N', B', D', TF', X', T'⟩ := a'; rw [led_eq] at N'; simp only [List.cons_append, List.nil_append] at N'))
local macro_rules | `(tactic| walk_at "mine b2By") => `(tactic| ((refine' b2ByC ?hh ?hd ?hu ?XB ?TB ?CH ?B ?D ?F ?N ?S ?TF ?hx rfl rfl ?hz ?hV ?_); (case TF => assumption); (case B => assumption); (case F => k_asm); (case N => k_asm); (case S => (repeat (first | exact Sp.here | apply Sp.cons))); (case hx => (intro q hq; (repeat (rcases List.mem_cons.mp hq with e0 | hq; · (subst e0; first | exact nf_seq rfl | exact nf_cell (by assumption) | exact nf_func rfl))); exact absurd hq List.not_mem_nil)); (case XB => assumption); (case TB => assumption); (case CH => assumption); (case hh => rfl); (case hd => ((try dsimp only); omega)); (case hu => ((try dsimp only); omega)); (case D => assumption); (case hz => first | assumption | omega | (rw [digB_size]; omega)); (case hV => first | assumption | omega | (rw [digB_size]; omega)); intro g' p' cds' h' tk' gs' t' a' hbr'; obtain ⟨KT', F', N', B', D', TF', X', T'⟩ := a'; rw [led_eq] at N'; simp only [List.cons_append, List.nil_append] at N'))
local macro_rules | `(tactic| walk_at "mine swapBB") => `(tactic| ((refine' swapBBC ?hh ?hd ?hu ?XB ?TB ?CH ?B ?D ?F ?N ?S ?TF ?hx rfl rfl ?hz ?hV ?_); (case TF => assumption); (case B => assumption); (case F => k_asm); (case N => k_asm); (case S => (repeat (first | exact Sp.here | apply Sp.cons))); (case hx => (intro q hq; (repeat (rcases List.mem_cons.mp hq with e0 | hq; · (subst e0; first | exact nf_seq rfl | exact nf_cell (by assumption) | exact nf_func rfl))); exact absurd hq List.not_mem_nil)); (case XB => assumption); (case TB => assumption); (case CH => assumption); (case hh => rfl); (case hd => ((try dsimp only); omega)); (case hu => ((try dsimp only); omega)); (case D => assumption); (case hz => first | assumption | omega | (rw [digB_size]; omega)); (case hV => first | assumption | omega | (rw [digB_size]; omega)); intro g' p' cds' h' tk' gs' t' a' hbr'; obtain ⟨KT', F', N', B', D', TF', X', T'⟩ := a'; rw [led_eq] at N'; simp only [List.cons_append, List.nil_append] at N'))
theorem bytes_nats {prog : Program} {w : World} {A : Around} {E : Value → Shared → Prop} {s : Shared} {g : Heap} {L d : Addr} {m₀ : Str → Option Value} {news : List (Addr × Obj)} {ys : List Value} {ep : Nat} {octs : List Nat} {Q : Value → Shared → Prop}
    (F : Fr g L s.heap m₀) (N : News g L s.heap news) (hm : (d, lstE ys ep) ∈ news) (hi : IntsAre ys (octs.map fun (d : Nat) => (d : Int))) (hlt : ∀ d ∈ octs, d < 256) (hlen : octs.length ≤ 100000) (hh : A.handled = none)
    (h : ∀ h' tk t, Fr g L h' m₀ → News g L h' news → Q (.bytes (octs.map fun d => d.toUInt8).toArray t) { s with heap := h', toks := tk }) : wpAny (model prog w) A (call (.type "bytes") [.ref d]) Q E s := by
  have hl : ys.length = octs.length := by
    have := hi.length
    rwa [List.length_map] at this
  refine call_bytes_ints (vs := ys) ⟨_, (N _ hm).1, rfl, _, rfl⟩ hi (fun n hn => ?_) (by rw [hl, sizeLine_eq]; omega) hh fun h' t k hk => ?_
  · obtain ⟨d, hd, rfl⟩ := List.mem_map.mp hn
    have := hlt d hd
    omega
  · have e : byteArr (octs.map fun (d : Nat) => (d : Int)) = (octs.map fun d => d.toUInt8).toArray := by
      unfold byteArr
      rw [List.map_map]
      rfl
    rw [e]
    exact h h' k t (F.keeps hk) (newsKeep N hk)
theorem range_rev (V k : Nat) : ((List.range k).map fun i => ((V / 256 ^ i % 256 : Nat) : Int)) = (dig V 256 k).reverse.map fun (d : Nat) => (d : Int) := by
  apply List.ext_getElem?
  intro i
  by_cases hi : i < k
  · rw [List.getElem?_map, List.getElem?_range hi, List.getElem?_map, List.getElem?_reverse (by rw [dig_length]; exact hi), dig_length, dig_get (by omega)]
    have e : k - 1 - (k - 1 - i) = i := by omega
    rw [e]
    rfl
  · rw [List.getElem?_eq_none (by simpa using hi), List.getElem?_eq_none (by simp [dig_length]; omega)]
local macro_rules | `(tactic| walk_at "call type:bytes") => `(tactic| (k_here; (refine' bytes_nats ?F ?N ?m ?i ?b1 ?b2 rfl ?_); (case F => k_asm); (case N => k_asm); (case m => k_dflt k_mem); (case i => with_reducible assumption); (case b1 => with_reducible assumption); (case b2 => with_reducible assumption); intro h' tk' t2' F' N'))
local macro_rules | `(tactic| walk_at "call ref") => `(tactic| (k_here; (with_reducible show wpAny _ _ (call (.ref 67) _) _ _ _); (rename Fr _ _ _ _ => zF); (rename News _ _ _ _ => zN); (refine' swapBG ?hh ?hd ?hu ?eX ?eT ?hz ?_); (case hh => k_dflt (exact rfl)); (case hd => k_room); (case hu => ((rw [Around.deeper_units]; dsimp only); omega)); (case eX => exact Frag.In.keeps (by assumption) zF.keep); (case eT => exact Top.keeps (by assumption) zF.keep); (case hz => (rw [digB_size]; omega)); intro h' tk' t2' k'; (have F' := zF.keeps k'); (have N' := newsKeep zN k')))
theorem cat_next {os : List Nat} {i d : Nat} (h : os[i]? = some d) : ((os.take i).flatMap fun d => dig d 2 8).map (fun (d : Nat) => (d : Int)) ++ (dig d 2 8).map (fun (d : Nat) => (d : Int)) = ((os.take (i + 1)).flatMap fun d => dig d 2 8).map fun (d : Nat) => (d : Int) := by
  rw [List.take_add_one, h, ← List.map_append]
  congr 1
  simp
theorem flat_len (os : List Nat) : (os.flatMap fun d => dig d 2 8).length = 8 * os.length := by
  induction os with
  | nil => rfl
  | cons x r ih => rw [List.flatMap_cons, List.length_append, ih, dig_length, List.length_cons]; omega
theorem flat_lt {os : List Nat} : ∀ d ∈ os.flatMap fun d => dig d 2 8, d < 256 := fun d hd => by
  obtain ⟨x, _, hx⟩ := List.mem_flatMap.mp hd
  have := dig_lt (by decide) hx
  omega
theorem turn_toList (V k : Nat) : (turnB V k).toList = ((dig V 256 k).reverse.flatMap fun d => dig d 2 8).map fun d => d.toUInt8 := by
  unfold turnB
  rw [List.map_flatMap, List.flatMap_map]
  rfl
local macro_rules | `(tactic| walk_at "binaryOp Add ref ref") => `(tactic| (k_here; (refine' add_cat ?F ?N ?m1 ?m2 ?i1 ?i2 ?z ?_); (case F => k_asm); (case N => k_asm); (case m1 => k_dflt k_mem); (case m2 => k_dflt k_mem); (case i1 => with_reducible assumption); (case i2 => with_reducible assumption); (case z => (rw [List.length_map, List.length_map, flat_len, dig_length, sizeLine_eq]; omega)); intro D' us' h' F' N' i'))
local macro_rules | `(tactic| walk_at "pyIter ref") => `(tactic| (k_here; (with_reducible show wpAny _ _ _ (fun it s₂ => LoopAtV _ _ _ _ _ _ _ _ _ it s₂) _ _); refine Stuck.go ?_))
local macro_rules | `(tactic| walk_at "exec For") => `(tactic| (k_here; refine Stuck.go ?_))
local macro_rules | `(tactic| walk_at "eval Lambda") => `(tactic| (k_here; kn_here; (refine' kla_eval ?d0 ?_; (case d0 => exact rfl)); (refine' lam_any ?F ?N ?T ?C ?cd ?U ?TF ?hps ?hP ?sub ?cl ?_); (case TF => assumption); (case F => k_asm); (case N => k_asm); (case T => k_asm); (case cd => exact rfl); (case C => kn_code); (case U => k_updF); (case hps => exact rfl); (case hP => (unfold tabQ; (repeat (first | exact List.Mem.head _ | apply List.Mem.tail)))); (case sub => (intro x hx; rw [led_eq] at hx; (repeat (rcases List.mem_cons.mp hx with e0 | hx; · (subst e0; repeat (first | exact List.Mem.head _ | apply List.Mem.tail)))); (repeat (first | exact hx | apply List.Mem.tail)))); (case cl => exact rfl); intro f' c' oc' vs' t' ct' ps' h' tk' F' N' d1' d2' TF' l1 ne1; (try dsimp only at N'); (try k_lt l1)))
local macro_rules | `(tactic| walk_at "call ref") => `(tactic| (k_here; (with_reducible show wpAny _ _ (call (.ref 74) _) _ _ _); (refine' throw74 ?hh ?hd ?hu ?XB ?TB ?B ?D ?F ?N rfl rfl ?hz ?hn); (case B => (assumption)); (case F => (k_asm)); (case N => (k_asm)); (case XB => (assumption)); (case TB => (assumption)); (case hh => (rfl)); (case hd => (((try dsimp only); omega))); (case hu => (((try dsimp only); omega))); (case D => (assumption)); (case hz => (refine one_more (n := 100000) ?_; rw [digB_size]; omega)); (case hn => exact one_mod (k := _) (digB_size _ _ _))))
local macro_rules | `(tactic| walk_at "call ref") => `(tactic| (k_here; (with_reducible show wpAny _ _ (call (.ref 60) _) _ _ _); (refine' throw60 ?hh ?hd ?hu ?XB ?TB ?B ?D ?F ?N rfl rfl ?hz ?hn); (case B => assumption); (case F => k_asm); (case N => k_asm); (case XB => assumption); (case TB => assumption); (case hh => rfl); (case hd => ((try dsimp only); omega)); (case hu => ((try dsimp only); omega)); (case D => assumption); (case hz => (refine one_more (n := 100000) ?_; rw [digB_size]; omega)); (case hn => exact one_mod (k := _) (digB_size _ _ _))))
local macro_rules | `(tactic| walk_at "mine deed") => `(tactic| ((refine' deed_lam ?B ?N (Top.nolimit (by assumption)) ?ho ?hoc ?hd ?hv ?sub ?room ?bind ?co ?gen ?kd ?cell ?_); (case B => (assumption)); (case N => (k_asm)); (case ho => (k_mem)); (case hoc => (k_mem)); (case hd => (assumption)); (case hv => (assumption)); (case sub => (intro q hq; (refine ⟨hq, ?_⟩); (repeat (rcases List.mem_cons.mp hq with e0 | hq; · (subst e0; first | exact nd_func rfl | exact nd_seq rfl | exact nd_of rfl | exact nd_cell (by assumption) | exact nd_of (by assumption)))); first | exact nd_cds (by assumption) q hq | exact absurd hq List.not_mem_nil)); (case room => (((try dsimp only [Around.deeper]); omega))); (case cell => (decide)); (case bind => (exact rfl)); (case co => (exact rfl)); (case gen => (exact rfl)); (case kd => (exact rfl)); intro dp2 gd2 un2 outer2 L2 h2 tk2 g2 edp eun F2 N2 B2 D2; (try dsimp only [Around.deeper] at edp eun); (have X2 : (hd.heap_39 _).In g2 := Frag.In.keeps (by assumption) B2.stays); (have T2 := Top.keeps (by assumption) B2.stays); (change wpAny _ _ _ _ _ _); k_fold; k_steps))
local macro_rules | `(tactic| walk_at "call ref") => `(tactic| (k_here; (refine' refusedV (c₀ := 118) (P₀ := 116) ?hh ?hd ?hu ?XB ?TB ?CH ?B ?D ?F ?N rfl rfl ?hm ?deed ?_); (case B => (assumption)); (case F => (k_asm)); (case N => (k_asm)); (case XB => (assumption)); (case TB => (assumption)); (case CH => (assumption)); (case hh => (rfl)); (case hd => (((try dsimp only); omega))); (case hu => (((try dsimp only); omega))); (case D => (assumption)); (case hm => (k_dflt k_mem)); (case deed => (k_dflt (walk_at "mine deed"))); intro g' h' tk' KT' F' N' B' D' X' T' C'))
local macro_rules | `(tactic| walk_at "binaryOp Add bytes bytes") => `(tactic| (k_here; (refine' add_by ?z ?_); (case z => (refine one_sum ?_; rw [digB_size]; omega)); intro t' tk'))
theorem kts_at {A : Around} {base g g' : Heap} {outer : List Env} {fs : List Addr} (_ : Below A base outer g') (h : KtsTurn fs g g') : KtsTurn fs g g' := h
theorem bare_to {a b c : Array GenState} (_ : AllBare a → AllBare b) (h : AllBare c → AllBare b) : AllBare c → AllBare b := h
theorem news_bits {g h : Heap} {L a : Addr} {o : Obj} {x : Option Value} {all cds : List (Addr × Obj)} {pf : Addr → Array Value} (N : News g L h all) (_ : TabFacts pf cds) (_ : o.data = .cell x) (sub : ∀ y ∈ [(a, o)] ++ led pf cds, y ∈ all) : News g L h ([(a, o)] ++ led pf cds) := fun q hq => N q (sub q hq)
theorem bare_on' {a b : Array GenState} (h : AllBare a → AllBare b) (x : AllBare a) : AllBare b := h x
local macro_rules | `(tactic| walk_at "mine kts") => `(tactic| first | assumption | exact KtsTurn.trans (by assumption) (by walk_at "mine kts"))
local macro_rules | `(tactic| walk_at "mine bare") => `(tactic| first | assumption | exact bare_on' (by assumption) (by walk_at "mine bare"))
theorem list_off {g h : Heap} {L d P : Addr} {zs : List Value} {ep : Nat} {ps : Array Value} {news : List (Addr × Obj)} (N : News g L h news) (hm : (d, lstE zs ep) ∈ news) (ht : (P, tabObj ps) ∈ news) : @Ne Nat d P := fun e => by
  have n1 := (N _ hm).1
  have n2 := (N _ ht).1
  dsimp only at n1 n2
  rw [show d = P from e, n2] at n1
  cases n1
local macro_rules | `(tactic| walk_at "call builtin:sum") => `(tactic| (k_here; (refine' sum_news ?hh ?F ?N ?m ?i ?_); (case hh => k_dflt (exact rfl)); (case F => k_asm); (case N => k_asm); (case m => k_dflt k_mem); (case i => with_reducible assumption); intro h' tk' t' F' N'))
theorem turn_facts (n : Int) (k : Nat) : ∃ V : Nat, V < 256 ^ k ∧ n.fmod ((256 : Int) ^ (k : Int).toNat) = (V : Int) := by
  have hp : (0 : Int) < 256 ^ k := Int.pow_pos (by decide)
  have h0 := Int.emod_nonneg n (show (256 : Int) ^ k ≠ 0 by omega)
  have h1 := Int.emod_lt_of_pos n hp
  have ec : ((256 ^ k : Nat) : Int) = 256 ^ k := by rw [Int.natCast_pow]; rfl
  exact ⟨(n % 256 ^ k).toNat, by omega, by rw [Int.toNat_natCast, Int.fmod_eq_emod_of_nonneg _ (Int.le_of_lt hp), Int.toNat_of_nonneg h0]⟩
set_option maxHeartbeats 4000000 in
theorem turns {w : World} {A : Around} {s : Shared} {mg mb : Str → Option Value} {p : Program} {loose : List Str} {mean : ExcName → Option Value} {R : Result → Shared → Prop} {base : Heap} {outer : List Env} {pf : Addr → Array Value} {cds : List (Addr × Obj)}
    (hh : A.handled = none) (hdp : A.depth + 16 < recursionLimit) (hun : A.units + 120 < cLine) (XB : (hd.heap_39 w.params).In base) (TB : Top p loose mean mg mb base) (CH : CodeHd base 118 116)
    (CH1 : CodeHd base 52 48) (CH2 : CodeHd base 59 55) (CH3 : CodeHd base 73 69) (CH4 : CodeHd base 80 76)
    (B : Below A base outer s.heap) (D : KtsDicts (frs outer) s.heap) (T0 : Led base s.heap pf cds)
    {n : Int} {k : Nat} {t1 t2 : Tok} {args : Args} (hb : BindsToK (hd.heap_39 w.params) s 119 args [(Str.ofString "n", .int n t1), (Str.ofString "k", .int (k : Int) t2)]) (k1 : 1 ≤ k) (k2 : k ≤ 50)
    (hR : ∀ h' tk gs, Evo (frs outer) base pf cds s.heap h' → (AllBare s.gens → AllBare gs) → R (.ok (.ret (.bool true))) { s with heap := h', toks := tk, gens := gs }) :
    codeJ (model PySem.Challenge.rw_dp5010_01.row.prog w) A (.call (.ref 119) args) R s := by
  obtain ⟨ah, dp, fr, gd, un⟩ := A
  dsimp only at hh hdp hun
  subst hh
  have hst : fr = some outer := B.stack
  subst hst
  have H := T0.toHeld B.frames
  refine' enterCJ (news := led pf cds) B D XB TB.nolimit H ?k6 ?k7 (by dsimp only; omega) ?k9 ?kB ?kD ?h ?c2 ?c3 ?c4
  case k6 => k_is
  case k7 => k_is
  case k9 => exact hb _ _ (by k_is) rfl
  case kB => exact kindsX rfl
  case kD => decide +kernel
  case c2 => exact rfl
  case c3 => exact rfl
  case c4 => exact rfl
  intro L h₁ tk₀ cells hL F N Y B₁ D₁
  k_cells Y
  generalize hg : less s.heap (led pf cds) = g at *
  have X := XB.keeps B₁.stays
  have T := TB.keeps B₁.stays
  have TF := T0.facts
  have l0 : ∀ q ∈ led pf cds, q.1 < L := fun q hq => hL ▸ Heap.lt_size (T0.held q hq).1
  rw [led_eq] at l0
  replace l0 := allLt_of l0
  simp only [AllLt] at l0
  have l0c : AllLt L cds := l0.2.2.2.2.2.2.2.2
  have C₁ : CodeHd g 118 116 := CH.keeps B₁.stays
  rw [led_eq] at N
  simp only [List.cons_append, List.nil_append] at N
  have hpos : (256 : Int) ^ (k : Int).toNat ≠ 0 := by
    have : (0 : Int) < 256 ^ (k : Int).toNat := Int.pow_pos (by decide)
    omega
  obtain ⟨V, hVl, hmv⟩ := turn_facts n k
  have hne : ((digB V 256 k).toList != (digB V 256 k).toList) = false := by simp
  have hne2 : ((digB V 2 (8 * k)).toList != (digB V 2 (8 * k)).toList) = false := by simp
  have hne3 : ((digB V 256 k).toList.reverse != ((dig V 256 k).reverse.map fun d => d.toUInt8)) = false := by rw [digB_toList, List.map_reverse]; simp
  have hbk : ∀ d ∈ (dig V 256 k).reverse, d < 256 := fun d hd => dig_lt (by decide) (List.mem_reverse.mp hd)
  have hbl : (dig V 256 k).reverse.length ≤ 100000 := by rw [List.length_reverse, dig_length]; omega
  clear hb H
  refine J_step ?_
  (change wpAny _ _ _ _ _ _); k_fold
  k_steps
  refine J_step ?_
  (change wpAny _ _ _ _ _ _); k_fold
  k_steps
  refine J_step ?_
  (change wpAny _ _ _ _ _ _); k_fold
  k_steps
  refine Stuck.mk ?_
  rename Fr _ _ _ _ => F'
  rename News _ _ _ _ => N'
  refine LCg.CompSrc.range (n := k) rfl F' N' (by assumption) (range_small (by omega)) (range_size k) (by rw [sizeLine_eq]; omega) ?_
  intro g9
  refine comp_map (fun i => ((V / 256 ^ i % 256 : Nat) : Int)) k trivial ?turn ?fin
  case turn =>
    clear F' N'
    rintro i v I oI C oC D m₂ h tk E' ys hi ⟨tv, rfl⟩ hC hx F2 N2 off ne
    k_steps
    refine floordiv_int (ne256 _) ?_ (.inl (PyProof.noPylong_of_log2 (log256 (by omega))))
    k_steps
    rename Fr _ _ _ _ => F3
    rename News _ _ _ _ => N3
    exact IntEnd.mk' F3 N3 (back_val hmv) (fun p hp => hp)
  case fin =>
    clear F' N'
    intro ys hy
    rw [range_rev] at hy
    k_steps
    refine J_step ?_
    (change wpAny _ _ _ _ _ _); k_fold
    k_steps
    refine J_cons (J_If (J_isTrue_BoolOp (J_allTrue_cons (J_isTrue_Compare1 rfl (J_callK (K := hd.heap_39 w.params) (f := .ref 53) (by k_is) ?_)))))
    (change wpAny _ _ _ _ _ _); k_fold
    k_steps
    walk_at "mine b2b"
    (change wpAny _ _ _ _ _ _); k_fold
    k_steps
    rw [bitsOf_dig, hne2]
    refine J_allTrue_cons (J_isTrue_Compare1 rfl (J_callK (K := hd.heap_39 w.params) (f := .ref 60) (by k_is) ?_))
    (change wpAny _ _ _ _ _ _); k_fold
    k_steps
    walk_at "mine b2By"
    (change wpAny _ _ _ _ _ _); k_fold
    k_steps
    rw [hne]
    refine J_allTrue_cons (wpJ_of ?_)
    (change wpAny _ _ _ _ _ _); k_fold
    k_steps
    rw [hne3]
    refine J_allTrue_nil ?_
    show wpJ _ _ _ _ _ _
    refine J_execs_nil ?_
    show wpJ _ _ _ _ _ _
    refine J_step ?_
    (change wpAny _ _ _ _ _ _); k_fold
    k_steps
    refine J_step ?_
    (change wpAny _ _ _ _ _ _); k_fold
    k_steps
    refine Stuck.mk ?_
    rename Fr _ _ _ _ => F7
    refine for_F F7 rfl rfl ?_ (fun _ => rfl)
    (change wpAny _ _ _ _ _ _); k_fold
    k_steps
    refine Stuck.mk ?_
    rename News _ _ _ _ => N7
    refine loop_catM (ys := ys) (tn := Str.ofString "turned") (zs₀ := []) (ep₀ := 0) (fun i d zs => IntsAre zs ((((dig V 256 k).reverse.take i).flatMap fun d => dig d 2 8).map fun (d : Nat) => (d : Int))) (by decide) rfl ?lm F7 N7 rfl ?lj ?lturn ?ldone
    case lm => k_mem
    case lj => exact .nil
    case lturn =>
      clear F7 N7
      intro i v d zs ep h tk own hv hJ F8 N8
      change Fr _ L _ _ at F8
      change News _ L _ _ at N8
      obtain ⟨vn, vt, rfl, hvn⟩ := IntsAre.at hy i v hv
      rw [List.getElem?_map, Option.map_eq_some_iff] at hvn
      obtain ⟨oi, hoi, rfl⟩ := hvn
      have hof : ((oi : Nat) : Int) = ((oi : Nat) : Int) := rfl
      have hil : (List.take i (dig V 256 k).reverse).length ≤ 50 := by rw [List.length_take, List.length_reverse, dig_length]; omega
      (change wpAny _ _ _ _ _ _); k_fold
      k_steps
      rename Fr _ _ _ _ => F9
      rename News _ _ _ _ => N9
      rename IntsAre _ (_ ++ _) => i9
      rw [cat_next hoi] at i9
      refine ⟨rfl, _, _, _, _, _, 0, rfl, F9, fun p hp => N9 p ?_, fun y h1 h2 => by simp [h1, h2], rfl, i9⟩
      rcases List.mem_cons.mp hp with rfl | hp
      · exact .head _
      · exact .tail _ (.tail _ (.tail _ hp))
    case ldone =>
      clear F7 N7
      intro mo d zs ep h tk hJ F8 N8
      change Fr _ L _ _ at F8
      change News _ L _ _ at N8
      have hyl : ys.length = k := by
        have := hy.length
        rwa [List.length_map, List.length_reverse, dig_length] at this
      rw [hyl, List.take_of_length_le (by rw [List.length_reverse, dig_length]; exact Nat.le_refl _)] at hJ
      have hTl : ((dig V 256 k).reverse.flatMap fun d => dig d 2 8).length ≤ 100000 := by rw [flat_len, List.length_reverse, dig_length]; omega
      have hTlt := flat_lt (os := (dig V 256 k).reverse)
      have hne5 : ((turnB V k).toList != (((dig V 256 k).reverse.flatMap fun d => dig d 2 8).map fun d => d.toUInt8)) = false := by rw [turn_toList]; simp
      show wpJ _ _ _ _ _ _
      refine J_cons (J_If (J_isTrue_Compare1 rfl (J_callK (K := hd.heap_39 w.params) (f := .ref 74) (by k_is) ?_)))
      (change wpAny _ _ _ _ _ _); k_fold
      k_steps
      walk_at "mine swapBB"
      (change wpAny _ _ _ _ _ _); k_fold
      k_steps
      show wpJ _ _ _ _ _ _
      refine J_execs_nil ?_
      show wpJ _ _ _ _ _ _
      refine J_step ?_
      (change wpAny _ _ _ _ _ _); k_fold
      k_steps
      rename Fr _ _ _ _ => F9
      rename News _ _ _ _ => N9
      refine Assign_ListComp_cell (x := Str.ofString "o") rfl ?hsw ?hclos ?hone ?hpush ?hkind ?hnames ?hx ?hy ?hp ?hh F9 ?_
      case hsw => exact rfl
      case hclos => exact rfl
      case hone => intro n; rfl
      case hpush => intro h; rfl
      case hkind => exact rfl
      case hnames => decide
      case hx => intro cl C; rfl
      case hy => rfl
      case hp => rfl
      case hh => rfl
      (change wpAny _ _ _ _ _ _); k_fold
      k_steps
      rename Fr _ _ _ _ => F10
      rename News _ _ _ _ => N10
      refine ⟨_, _, _, fun c => (rev8 c : Int), rfl, ?hz, F10, N10, ?turn, ?fin⟩
      case hz => rw [digB_size, sizeLine_eq]; omega
      case turn =>
        clear F10 N10
        intro g9 i c I oI C oC cc oc D t0 h tk E' ys hc hoc F2 N2
        change Fr _ L _ _ at F2
        change News _ L _ _ at N2
        (change wpAny _ _ _ _ _ _); k_fold
        k_steps
        refine Stuck.mk ?_
        rename Fr _ _ _ _ => F3
        rename News _ _ _ _ => N3
        obtain ⟨n8, hn8⟩ : ∃ n : Nat, n = 8 := ⟨8, rfl⟩
        have hn8i : (8 : Int) = (n8 : Int) := by omega
        rename IsRange _ _ _ _ _ _ _ _ => hr8
        rw [hn8i] at hr8
        refine LCg.CompSrc.range (n := n8) rfl F3 N3 hr8 (range_small (by omega)) (range_size n8) (by rw [sizeLine_eq]; omega) ?_
        intro g10
        refine comp_map (fun i => ((c.toNat / 2 ^ i % 2 * 2 ^ (7 - i) : Nat) : Int)) n8 trivial ?tj ?fj
        case tj =>
          clear F3 N3
          rintro i v I2 oI2 C2 oC2 D2 m₂ h2 tk2 E2 ys2 hi ⟨tv, rfl⟩ hC hx F4 N4 off ne
          k_steps
          rename Fr _ _ _ _ => F5
          rename News _ _ _ _ => N5
          exact IntEnd.mk' F5 N5 (mir_val (by omega)) (fun p hp => hp)
        case fj =>
          clear F3 N3
          intro ys2 hy2
          k_steps
          rename Fr _ _ _ _ => F5
          rename News _ _ _ _ => N5
          exact IntEnd.mk' F5 N5 (by rw [hn8]; exact rev_sum c.toNat) (fun p hp => .tail _ hp)
      case fin =>
        clear F10 N10
        intro D h tk ys F2 N2 hi
        change Fr _ L _ _ at F2
        change News _ L _ _ at N2
        have hD116 : @Ne Nat D 116 := list_off N2 (.head _) (by k_mem)
        have hd116 : @Ne Nat d 116 := list_off N2 (d := d) (zs := zs) (ep := ep) (by k_mem) (by k_mem)
        rw [rev_ints] at hi
        have hrl := rev_lt (digB V 256 k)
        have hrn : ((digB V 256 k).toList.map fun c => rev8 c.toNat).length ≤ 100000 := by
          rw [List.length_map, Array.length_toList, digB_size]; omega
        have hne6 : ((byteArr ((digB V 256 k).toList.map fun c => (rev8 c.toNat : Int))).toList != (((digB V 256 k).toList.map fun c => rev8 c.toNat).map fun d => d.toUInt8)) = false := by rw [rev_bytes]; simp
        show wpJ _ _ _ _ _ _
        refine J_cons (J_If (J_isTrue_Compare1 rfl (J_callK (K := hd.heap_39 w.params) (f := .ref 81) (by k_is) ?_)))
        (change wpAny _ _ _ _ _ _); k_fold
        k_steps
        walk_at "mine swapBib"
        (change wpAny _ _ _ _ _ _); k_fold
        k_steps
        show wpJ _ _ _ _ _ _
        refine J_execs_nil ?_
        show wpJ _ _ _ _ _ _
        rename Fr _ _ _ _ => F9
        rename News _ _ _ _ => N9
        rename Below _ _ _ _ => B9
        rename KtsDicts _ _ => D9
        rename TabFacts _ _ => TF9
        rename Frag.In _ _ => X9
        rename Top _ _ _ _ _ _ => T9
        rename AllBare _ → _ => hbz
        rename _ = Data.cell (some (Value.bytes _ _)) => hbits
        have C9 := CH.keeps B9.stays
        have K9 := kts_at (g := g) (fs := frs outer) B9 (by walk_at "mine kts")
        have hb9 := bare_to hbz (fun z : AllBare s.gens => by walk_at "mine bare")
        have N10 := news_bits (a := L + 1 + 1) N9 TF9 hbits (by
          intro x hx
          rw [led_eq] at hx
          simp only [List.cons_append, List.nil_append] at hx
          repeat (rcases List.mem_cons.mp hx with e0 | hx; · (subst e0; repeat (first | exact List.Mem.head _ | apply List.Mem.tail)))
          repeat (first | exact hx | apply List.Mem.tail))
        rw [led_eq] at N10
        simp only [List.cons_append, List.nil_append] at N10
        have pk : _ ∧ _ ∧ _ ∧ _ ∧ _ ∧ _ ∧ _ ∧ _ ∧ _ ∧ _ ∧ _ ∧ _ ∧ _ ∧ _ ∧ _ ∧ _ := ⟨TB, XB, B, CH, F9, N10, B9, D9, TF9, X9, T9, K9, hbits, C9, hb9, l0⟩
        clear hb9 hbz
        repeat (rename Fr _ _ _ _ => zz; clear zz)
        repeat (rename News _ _ _ _ => zz; clear zz)
        repeat (rename Below _ _ _ _ => zz; clear zz)
        repeat (rename KtsDicts _ _ => zz; clear zz)
        repeat (rename TabFacts _ _ => zz; clear zz)
        repeat (rename Frag.In _ _ => zz; clear zz)
        repeat (rename Top _ _ _ _ _ _ => zz; clear zz)
        repeat (rename KtsTurn _ _ _ => zz; clear zz)
        repeat (rename AllBare _ → _ => zz; clear zz)
        repeat (rename _ = Data.cell _ => zz; clear zz)
        repeat (rename CodeHd _ _ _ => zz; clear zz)
        repeat (rename _ ≠ _ ∧ _ => zz; clear zz)
        repeat (rename @Ne Nat _ _ => zz; clear zz)
        repeat (rename _ < _ ∧ _ => zz; clear zz)
        repeat (rename IntsAre _ _ => zz; clear zz)
        repeat (rename (_ != _) = false => zz; clear zz)
        obtain ⟨TB, XB, B, CH, F9, N10, B9, D9, TF9, X9, T9, K9, hbits, C9, hb9, l0⟩ := pk
        refine wpJ_of ?_
        (change wpAny _ _ _ _ _ _); k_fold
        k_steps
        rename Fr _ _ _ _ => F12
        rename News _ _ _ _ => N12
        rename Below _ _ _ _ => B12
        rename TabFacts _ _ => TF12
        refine hR _ _ _ (evo_of T0 B.frames (K := by rw [hg]; walk_at "mine kts") F12 N12 B12 TF12 ?_) hb9
        intro x hx
        rw [led_eq] at hx
        repeat (rcases List.mem_cons.mp hx with rfl | hx; · (repeat (first | exact List.Mem.head _ | apply List.Mem.tail)))
        repeat (first | exact hx | apply List.Mem.tail)
end Mine
end
section
open PySem PySem.W PySem.Calls PyProof.Rows
set_option Elab.async false
namespace Mine
section
variable {w : World} {A : Around} {E : Value → Shared → Prop} {s : Shared} {mg mb : Str → Option Value} {p : Program} {loose : List Str} {mean : ExcName → Option Value} {base g : Heap} {outer : List Env} {L : Addr} {m₀ : Str → Option Value} {env : Env} {news own : List (Addr × Obj)} {Q : Value → Shared → Prop}
theorem i2b_no (hh : A.handled = none) (hdp : A.depth < recursionLimit) (hun : A.units + 20 < cLine) (XB : (hd.heap_39 w.params).In base) (TB : Top p loose mean mg mb base)
    (B : Below A base outer s.heap) (D : KtsDicts (frs outer) s.heap)
    {n : Int} {W : Nat} {sg : Bool} {t1 t2 : Tok} {args : Args} (hb : BindsToK (hd.heap_39 w.params) s 22 args [(Str.ofString "number", .int n t1), (Str.ofString "width", .int (W : Int) t2), (Str.ofString "signed", .bool sg)]) (w1 : 1 ≤ W) (w2 : W ≤ 400) (b1 : -(2 ^ 1000) ≤ n) (b2 : n ≤ 2 ^ 1000) (hn : ¬ inR sg n W) :
    RaisesVE (model PySem.Challenge.rw_dp5010_01.row.prog w) A base outer (.call (.ref 22) args) s := by
  unfold inR at hn
  cases sg
  · exact i2b_no_u hh hdp hun XB TB B D hb w1 w2 b1 b2 (by
      simp only [Bool.false_eq_true, if_false] at hn
      generalize (2 : Int) ^ (W : Int).toNat = T at *
      omega)
  · exact i2b_no_s hh hdp hun XB TB B D hb w1 w2 b1 b2 (by
      simp only [if_true] at hn
      generalize ((2 : Int) ^ (W : Int).toNat).fdiv 2 = T at *
      omega)
theorem throwb3 {s₀ : Shared} {h : Heap} {tk : Tok} (hh : A.handled = none) (hdp : A.depth + 1 < recursionLimit) (hun : A.units + 30 < cLine) (XB : (hd.heap_39 w.params).In base) (TB : Top p loose mean mg mb base) (B : Below A base outer g) (D : KtsDicts (frs outer) g) (F : Fr g L h m₀) (N : News g L h own)
    (hf : env.frame = some L) (hke : env.scope.kind = .function) {n : Int} {W : Nat} {sg : Bool} {t1 t2 : Tok} (w1 : 1 ≤ W) (w2 : W ≤ 400) (b1 : -(2 ^ 1000) ≤ n) (b2 : n ≤ 2 ^ 1000) (hn : ¬ inR sg n W) :
    wpAny (model PySem.Challenge.rw_dp5010_01.row.prog w) (A.deeper env) (call (.ref 22) [.int n t1, .int (W : Int) t2, .bool sg]) Q (Thrown base g outer L env own s₀) { s₀ with heap := h, toks := tk } := by
  have B' := pushX B F hf hke
  have X := XB.keeps B'.stays
  exact throw_call F N (i2b_no (A := A.deeper env) hh hdp (by rw [Around.deeper_units]; omega) XB TB B' (dicts_push D F hf) (i2b_binds3 X) w1 w2 b1 b2 hn)
end
end Mine
end
section
open PySem PySem.W PySem.Calls PyProof.Rows
set_option Elab.async false
set_option maxRecDepth 100000
namespace Mine
theorem e2' : (2 : Int) = ((2 : Nat) : Int) := rfl
local macro_rules | `(tactic| k_room) => `(tactic| ((try simp only [depth_under_make, depth_under_kw, depth_in1, depth_deeper, depth_caller]); omega))
local macro_rules | `(tactic| k_all) => `(tactic| first | exact ne_of_allLt (by assumption) (by omega) | exact TabFacts.ne (by assumption) (by decide))
local macro_rules | `(tactic| walk_at "call ref") => `(tactic| (k_here; (refine' digitsV ?hh ?hd ?hu ?XB ?TB ?B ?D ?F ?N rfl rfl ?em ?eb ?ec ?b1 ?b2 ?b3 ?_); (case B => assumption); (case F => k_asm); (case N => k_asm); (case XB => assumption); (case TB => assumption); (case hh => rfl); (case hd => ((try dsimp only); omega)); (case hu => ((try dsimp only); omega)); (case D => assumption); (case em => assumption); (case eb => exact e2'); (case ec => rfl); (case b1 => omega); (case b2 => omega); (case b3 => omega); intro d' h' tk' ys' F' N' iY' l1; (try simp only [AllNe, and_true] at l1)))
local macro_rules | `(tactic| walk_at "call ref") => `(tactic| (k_here; (refine' endsC ?hh ?hd ?hu ?XB ?TB ?B ?F ?N rfl rfl ?_); (case B => assumption); (case F => k_asm); (case N => k_asm); (case XB => assumption); (case TB => assumption); (case hh => rfl); (case hd => ((try dsimp only); omega)); (case hu => ((try dsimp only); omega));  intro d' h' tk' t2' t3' F' N' l1; (try simp only [AllNe, and_true] at l1); (try dsimp only at N')))
local macro_rules | `(tactic| walk_at "call ref") => `(tactic| (k_here; (refine' b2iV2 ?hh ?hd ?hu ?XB ?TB ?B ?F ?N rfl rfl ?w1 ?w2 ?r ?v ?_); (case B => assumption); (case F => k_asm); (case N => k_asm); (case XB => assumption); (case TB => assumption); (case hh => rfl); (case hd => ((try dsimp only); omega)); (case hu => ((try dsimp only); omega)); (case w1 => omega); (case w2 => omega); (case r => assumption); (try (case v => assumption)); intro h' tk' t2' F' N'))
local macro_rules | `(tactic| walk_at "call ref") => `(tactic| (k_here; (refine' b2iC1 ?hh ?hd ?hu ?XB ?TB ?B ?F ?N rfl rfl ?w1 ?w2 ?r ?_); (case B => assumption); (case F => k_asm); (case N => k_asm); (case XB => assumption); (case TB => assumption); (case hh => rfl); (case hd => ((try dsimp only); omega)); (case hu => ((try dsimp only); omega)); (case w1 => omega); (case w2 => omega); (case r => assumption); (try (case v => assumption)); intro h' tk' t2' F' N'))
local macro_rules | `(tactic| walk_at "call type:bytes") => `(tactic| (k_here; (refine' bytes_dig ?F ?N ?m ?i rfl ?b1 ?b2 ?b3 ?_); (case F => k_asm); (case N => k_asm); (case i => assumption); (case m => k_mem); (case b1 => omega); (case b2 => omega); (case b3 => omega); intro h' tk' t2' F' N'))
local macro_rules | `(tactic| walk_at "eval Lambda") => `(tactic| (k_here; kn_here; (refine' kla_eval ?d0 ?_; (case d0 => exact rfl)); (refine' lam_any ?F ?N ?T ?C ?cd ?U ?TF ?hps ?hP ?sub ?cl ?_); (case TF => assumption); (case F => k_asm); (case N => k_asm); (case T => k_asm); (case cd => exact rfl); (case C => kn_code); (case U => k_updF); (case hps => exact rfl); (case hP => (unfold tabQ; (repeat (first | exact List.Mem.head _ | apply List.Mem.tail)))); (case sub => (intro x hx; rw [led_eq] at hx; (repeat (rcases List.mem_cons.mp hx with e0 | hx; · (subst e0; repeat (first | exact List.Mem.head _ | apply List.Mem.tail)))); (repeat (first | exact hx | apply List.Mem.tail)))); (case cl => exact rfl); intro f' c' oc' vs' t' ct' ps' h' tk' F' N' d1' d2' TF' l1 ne1; (try dsimp only at N'); (try k_lt l1)))
local macro_rules | `(tactic| walk_at "call ref") => `(tactic| (k_here; (refine' throwb3 ?hh ?hd ?hu ?XB ?TB ?B ?D ?F ?N rfl rfl ?w1 ?w2 ?b1 ?b2 ?hn); (case B => assumption); (case F => k_asm); (case N => k_asm); (case XB => assumption); (case TB => assumption); (case hh => rfl); (case hd => ((try dsimp only); omega)); (case hu => ((try dsimp only); omega)); (case D => assumption); (case w1 => omega); (case w2 => omega); (case b1 => assumption); (case b2 => assumption); (case hn => assumption)))
local macro_rules | `(tactic| walk_at "mine deed") => `(tactic| ((refine' deed_lam ?B ?N (Top.nolimit (by assumption)) ?ho ?hoc ?hd ?hv ?sub ?room ?bind ?co ?gen ?kd ?cell ?_); (case B => assumption); (case N => k_asm); (case ho => k_mem); (case hoc => k_mem); (case hd => assumption); (case hv => assumption); (case sub => (intro q hq; (refine ⟨hq, ?_⟩); (repeat (rcases List.mem_cons.mp hq with e0 | hq; · (subst e0; first | exact nd_func rfl | exact nd_seq rfl | exact nd_of rfl | exact nd_cell (by assumption) | exact nd_of (by assumption)))); first | exact nd_cds (by assumption) q hq | exact absurd hq List.not_mem_nil)); (case room => ((try dsimp only [Around.deeper]); omega)); (case cell => decide); (case bind => exact rfl); (case co => exact rfl); (case gen => exact rfl); (case kd => exact rfl); intro dp2 gd2 un2 outer2 L2 h2 tk2 g2 edp eun F2 N2 B2 D2; (try dsimp only [Around.deeper] at edp eun); (have X2 : (hd.heap_39 _).In g2 := Frag.In.keeps (by assumption) B2.stays); (have T2 := Top.keeps (by assumption) B2.stays); (change wpAny _ _ _ _ _ _); k_fold; k_steps))
local macro_rules | `(tactic| walk_at "call ref") => `(tactic| (k_here; (refine' refusedV ?hh ?hd ?hu ?XB ?TB ?CH ?B ?D ?F ?N rfl rfl ?hm ?deed ?_); (case B => assumption); (case F => k_asm); (case N => k_asm); (case XB => assumption); (case TB => assumption); (case CH => assumption); (case hh => rfl); (case hd => ((try dsimp only); omega)); (case hu => ((try dsimp only); omega)); (case D => assumption); (case hm => k_dflt k_mem); (case deed => k_dflt (walk_at "mine deed")); intro g' h' tk' KT' F' N' B' D' X' T' C'))
local macro_rules | `(tactic| walk_at "mine bitsJ") => `(tactic| ((first | refine' i2bJ3 ?hh ?hd ?hu ?XB ?TB ?B ?F ?N rfl rfl ?w1 ?w2 ?r ?v ?_ | refine' i2bJ2 ?hh ?hd ?hu ?XB ?TB ?B ?F ?N rfl rfl ?w1 ?w2 ?r ?v ?_); (case B => assumption); (case F => k_asm); (case N => k_asm); (case XB => assumption); (case TB => assumption); (case hh => rfl); (case hd => ((try dsimp only); omega)); (case hu => ((try dsimp only); omega)); (case w1 => omega); (case w2 => omega); (case r => assumption); (case v => assumption); intro h' tk' t2' F' N'))
set_option maxHeartbeats 2000000 in
theorem bits {w : World} {A : Around} {s : Shared} {mg mb : Str → Option Value} {p : Program} {loose : List Str} {mean : ExcName → Option Value} {R : Result → Shared → Prop} {base : Heap} {outer : List Env} {pf : Addr → Array Value} {cds : List (Addr × Obj)}
    (hh : A.handled = none) (hdp : A.depth + 8 < recursionLimit) (hun : A.units + 60 < cLine) (XB : (hd.heap_39 w.params).In base) (TB : Top p loose mean mg mb base) (CH : CodeHd base 106 102)
    (B : Below A base outer s.heap) (D : KtsDicts (frs outer) s.heap) (T0 : Led base s.heap pf cds)
    {n : Int} {k : Nat} {sg : Bool} {t1 t2 : Tok} {args : Args} (hb : BindsToK (hd.heap_39 w.params) s 107 args [(Str.ofString "n", .int n t1), (Str.ofString "w", .int (k : Int) t2), (Str.ofString "sign", .bool sg)]) (k1 : 1 ≤ k) (k2 : k ≤ 400) (hr : inR sg n k)
    (hR : ∀ h' tk, Evo (frs outer) base pf cds s.heap h' → R (.ok (.ret (.bool true))) { s with heap := h', toks := tk }) :
    codeJ (model PySem.Challenge.rw_dp5010_01.row.prog w) A (.call (.ref 107) args) R s := by
  obtain ⟨ah, dp, fr, gd, un⟩ := A
  dsimp only at hh hdp hun
  subst hh
  have hst : fr = some outer := B.stack
  subst hst
  have H := T0.toHeld B.frames
  refine' enterCJ (news := led pf cds) B D XB TB.nolimit H ?k6 ?k7 (by dsimp only; omega) ?k9 ?kB ?kD ?h ?c2 ?c3 ?c4
  case k6 => k_is
  case k7 => k_is
  case k9 => exact hb _ _ (by k_is) rfl
  case kB => exact kindsX rfl
  case kD => decide +kernel
  case c2 => exact rfl
  case c3 => exact rfl
  case c4 => exact rfl
  intro L h₁ tk₀ cells hL F N Y B₁ D₁
  k_cells Y
  generalize hg : less s.heap (led pf cds) = g at *
  have X := XB.keeps B₁.stays
  have T := TB.keeps B₁.stays
  have TF := T0.facts
  have l0 : ∀ q ∈ led pf cds, q.1 < L := fun q hq => hL ▸ Heap.lt_size (T0.held q hq).1
  rw [led_eq] at l0
  replace l0 := allLt_of l0
  simp only [AllLt] at l0
  have l0c : AllLt L cds := l0.2.2.2.2.2.2.2.2
  have C₁ : CodeHd g 106 102 := CH.keeps B₁.stays
  rw [led_eq] at N
  simp only [List.cons_append, List.nil_append] at N
  have hpos : (2 : Int) ^ (k : Int).toNat ≠ 0 := by
    have : (0 : Int) < 2 ^ (k : Int).toNat := Int.pow_pos (by decide)
    omega
  obtain ⟨V, hV, hVl, hmv, hsv⟩ := bit_facts k1 hr
  have ec : ((2 ^ k : Nat) : Int) = 2 ^ k := by rw [Int.natCast_pow]; rfl
  have hr2 : inR false (n.fmod ((2 : Int) ^ (k : Int).toNat)) k := by
    rw [hmv]
    refine ⟨by omega, ?_⟩
    rw [Int.toNat_natCast, ← ec]
    omega
  have hV2 : (n.fmod ((2 : Int) ^ (k : Int).toNat) % 2 ^ k).toNat = V := by
    rw [hmv, Int.emod_eq_of_lt (by omega) (by rw [← ec]; omega), Int.toNat_natCast]
  clear ec
  have hne : ((digB V 2 k).toList != (digB V 2 k).toList) = false := by simp
  have hnn : n = n := rfl
  have hni : (n != n) = false := by simp
  have hmv2 : (V : Int) = n.fmod ((2 : Int) ^ (k : Int).toNat) := hmv.symm
  obtain ⟨nlo, blo1, blo2⟩ := bit_lo (sg := sg) k1 k2
  obtain ⟨nhi, bhi1, bhi2⟩ := bit_hi (sg := sg) k1 k2
  have hmi : ((V : Int) != n.fmod ((2 : Int) ^ (k : Int).toNat)) = false := by rw [hmv]; simp
  clear hb H
  refine J_step ?_
  (change wpAny _ _ _ _ _ _); k_fold
  k_steps
  refine J_step ?_
  (change wpAny _ _ _ _ _ _); k_fold
  k_steps
  refine J_step ?_
  (change wpAny _ _ _ _ _ _); k_fold
  k_steps
  refine J_cons (J_If (J_isTrue_BoolOp (J_allTrue_cons (J_isTrue_Compare1 rfl (J_callK (K := hd.heap_39 w.params) (f := .ref 22) (by k_is) ?_)))))
  (change wpAny _ _ _ _ _ _); k_fold
  k_steps
  walk_at "mine bitsJ"
  (change wpAny _ _ _ _ _ _); k_fold
  k_steps
  rw [hne]
  refine J_allTrue_cons (wpJ_of ?_)
  (change wpAny _ _ _ _ _ _); k_fold
  k_steps
  rw [hni]
  refine J_allTrue_nil ?_
  show wpJ _ _ _ _ _ _
  refine J_execs_nil ?_
  show wpJ _ _ _ _ _ _
  refine J_cons (J_If (J_isTrue_BoolOp (J_allTrue_cons (J_isTrue_Compare1 rfl (J_callK (K := hd.heap_39 w.params) (f := .ref 22) (by k_is) ?_)))))
  (change wpAny _ _ _ _ _ _); k_fold
  k_steps
  walk_at "mine bitsJ"
  (change wpAny _ _ _ _ _ _); k_fold
  k_steps
  rw [hne]
  refine J_allTrue_cons (wpJ_of ?_)
  (change wpAny _ _ _ _ _ _); k_fold
  k_steps
  rw [hmi]
  refine J_allTrue_nil ?_
  show wpJ _ _ _ _ _ _
  refine J_execs_nil ?_
  show wpJ _ _ _ _ _ _
  refine wpJ_of ?_
  (change wpAny _ _ _ _ _ _); k_fold
  k_steps
  rename KtsTurn _ _ _ => K2
  rename KtsTurn _ g _ => K1
  rename Fr _ _ _ _ => F9
  rename News _ _ _ _ => N9
  rename Below _ _ _ _ => B9
  rename TabFacts _ _ => TF9
  refine hR _ _ (evo_of T0 B.frames (K := hg ▸ KtsTurn.trans K1 K2) F9 N9 B9 TF9 ?_)
  intro x hx
  rw [led_eq] at hx
  repeat (rcases List.mem_cons.mp hx with rfl | hx; · (repeat (first | exact List.Mem.head _ | apply List.Mem.tail)))
  repeat (first | exact hx | apply List.Mem.tail)
end Mine
end
section
open PySem PySem.W PySem.Calls PyProof.Rows
set_option Elab.async false
namespace Mine
/-- what the octets' law wants of a number that k octets hold -/
theorem oct_facts {sg : Bool} {n : Int} {k : Nat} (k1 : 1 ≤ k) (hr : inB sg n k) : ∃ V : Nat, (n % 256 ^ k).toNat = V ∧ V < 256 ^ k ∧ n.fmod ((256 : Int) ^ (k : Int).toNat) = (V : Int) ∧
    (if sg = true ∧ V / 256 ^ (k - 1) ≥ 128 then (V : Int) - 256 ^ k else V) = n := by
  obtain ⟨e1, e2, e3⟩ := half256 k1
  have hp : (0 : Int) < 256 ^ k := Int.pow_pos (by decide)
  have h0 := Int.emod_nonneg n (show (256 : Int) ^ k ≠ 0 by omega)
  have h1 := Int.emod_lt_of_pos n hp
  have ec : ((256 ^ k : Nat) : Int) = 256 ^ k := by rw [Int.natCast_pow]; rfl
  refine ⟨_, rfl, by omega, by rw [Int.toNat_natCast, Int.fmod_eq_emod_of_nonneg _ (Int.le_of_lt hp), Int.toNat_of_nonneg h0], ?_⟩
  have hh : 256 ^ k = 256 * 256 ^ (k - 1) := by
    rw [← Nat.pow_succ']
    congr 1
    omega
  have hq : (n % 256 ^ k).toNat / 256 ^ (k - 1) ≥ 128 ↔ (n % 256 ^ k).toNat ≥ 128 * 256 ^ (k - 1) := by
    rw [ge_iff_le, Nat.le_div_iff_mul_le (Nat.pow_pos (by decide))]
  simp only [hq]
  unfold inB at hr
  cases sg
  · simp only [Bool.false_eq_true, if_false, false_and] at hr ⊢
    rw [Int.toNat_of_nonneg h0]
    exact Int.emod_eq_of_lt hr.1 (by omega)
  · simp only [if_true, true_and] at hr ⊢
    rw [e2] at hr
    generalize ((2 ^ (8 * k - 1) : Nat) : Int) = H at hr e1
    have hH : H = 128 * ((256 ^ (k - 1) : Nat) : Int) := by
      have : ((256 ^ k : Nat) : Int) = 256 * ((256 ^ (k - 1) : Nat) : Int) := by rw [hh, Int.natCast_mul]; rfl
      omega
    rcases Int.lt_or_le n 0 with hn | hn
    · have hm : n % 256 ^ k = n + 256 ^ k := by
        rw [← Int.add_emod_right, Int.emod_eq_of_lt (by omega) (by omega)]
      rw [if_pos (by omega), Int.toNat_of_nonneg h0]
      omega
    · have hm : n % 256 ^ k = n := Int.emod_eq_of_lt hn (by omega)
      rw [if_neg (by omega), Int.toNat_of_nonneg h0]
      exact hm
theorem pow256_le {k : Nat} (k2 : k ≤ 50) : (0 : Int) < 256 ^ k ∧ (256 : Int) ^ k ≤ 2 ^ 400 := by
  refine ⟨Int.pow_pos (by decide), ?_⟩
  have h := Nat.pow_le_pow_right (show 0 < 256 by decide) k2
  have e : ((256 ^ k : Nat) : Int) = 256 ^ k := by rw [Int.natCast_pow]; rfl
  have e50 : ((256 ^ 50 : Nat) : Int) = 2 ^ 400 := by decide +kernel
  rw [← e, ← e50]
  exact Int.ofNat_le.mpr h
/-- one below the least and one above the greatest are refused -/
theorem oct_lo {sg : Bool} {k : Nat} (k1 : 1 ≤ k) (k2 : k ≤ 50) : ¬ inB sg (loOf sg ((256 : Int) ^ (k : Int).toNat) - 1) k ∧ -(2 ^ 1000) ≤ loOf sg ((256 : Int) ^ (k : Int).toNat) - 1 ∧ loOf sg ((256 : Int) ^ (k : Int).toNat) - 1 ≤ 2 ^ 1000 := by
  obtain ⟨h0, h1⟩ := pow256_le k2
  obtain ⟨e1, e2, -⟩ := half256 k1
  have h9 : (2 : Int) ^ 400 + 10 ≤ 2 ^ 1000 := by decide +kernel
  rw [Int.toNat_natCast]
  unfold inB loOf
  generalize (256 : Int) ^ k = T at *
  generalize (2 : Int) ^ 400 = a at *
  generalize (2 : Int) ^ 1000 = b at *
  cases sg
  · simp only [Bool.false_eq_true, if_false]
    omega
  · simp only [if_true]
    omega
theorem oct_hi {sg : Bool} {k : Nat} (k1 : 1 ≤ k) (k2 : k ≤ 50) : ¬ inB sg (hiOf sg ((256 : Int) ^ (k : Int).toNat) + 1) k ∧ -(2 ^ 1000) ≤ hiOf sg ((256 : Int) ^ (k : Int).toNat) + 1 ∧ hiOf sg ((256 : Int) ^ (k : Int).toNat) + 1 ≤ 2 ^ 1000 := by
  obtain ⟨h0, h1⟩ := pow256_le k2
  obtain ⟨e1, e2, -⟩ := half256 k1
  have h9 : (2 : Int) ^ 400 + 10 ≤ 2 ^ 1000 := by decide +kernel
  rw [Int.toNat_natCast]
  unfold inB hiOf
  generalize (256 : Int) ^ k = T at *
  generalize (2 : Int) ^ 400 = a at *
  generalize (2 : Int) ^ 1000 = b at *
  cases sg
  · simp only [Bool.false_eq_true, if_false]
    omega
  · simp only [if_true]
    omega
end Mine
end
section
open PySem PySem.W PySem.Calls PyProof.Rows
set_option Elab.async false
set_option maxRecDepth 100000
namespace Mine
theorem e256 : (256 : Int) = ((256 : Nat) : Int) := rfl
theorem e2 : (2 : Int) = ((2 : Nat) : Int) := rfl
local macro_rules | `(tactic| k_room) => `(tactic| ((try simp only [depth_under_make, depth_under_kw, depth_in1, depth_deeper, depth_caller]); omega))
local macro_rules | `(tactic| k_all) => `(tactic| first | exact ne_of_allLt (by assumption) (by omega) | exact TabFacts.ne (by assumption) (by decide))
local macro_rules | `(tactic| walk_at "call ref") => `(tactic| (k_here; (refine' digitsV ?hh ?hd ?hu ?XB ?TB ?B ?D ?F ?N rfl rfl ?em ?eb ?ec ?b1 ?b2 ?b3 ?_); (case B => assumption); (case F => k_asm); (case N => k_asm); (case XB => assumption); (case TB => assumption); (case hh => rfl); (case hd => ((try dsimp only); omega)); (case hu => ((try dsimp only); omega)); (case D => assumption); (case em => assumption); (case eb => first | exact e256 | exact e2); (case ec => rfl); (case b1 => omega); (case b2 => omega); (case b3 => omega); intro d' h' tk' ys' F' N' iY' l1; (try simp only [AllNe, and_true] at l1)))
local macro_rules | `(tactic| walk_at "call ref") => `(tactic| (k_here; (refine' endsC ?hh ?hd ?hu ?XB ?TB ?B ?F ?N rfl rfl ?_); (case B => assumption); (case F => k_asm); (case N => k_asm); (case XB => assumption); (case TB => assumption); (case hh => rfl); (case hd => ((try dsimp only); omega)); (case hu => ((try dsimp only); omega));  intro d' h' tk' t2' t3' F' N' l1; (try simp only [AllNe, and_true] at l1); (try dsimp only at N')))
local macro_rules | `(tactic| walk_at "call ref") => `(tactic| (k_here; (refine' i2BV3 ?hh ?hd ?hu ?XB ?TB ?B ?F ?N rfl rfl ?w1 ?w2 ?r ?v ?_); (case B => assumption); (case F => k_asm); (case N => k_asm); (case XB => assumption); (case TB => assumption); (case hh => rfl); (case hd => ((try dsimp only); omega)); (case hu => ((try dsimp only); omega)); (case w1 => omega); (case w2 => omega); (case r => assumption); (try (case v => assumption)); intro h' tk' t2' F' N'))
local macro_rules | `(tactic| walk_at "call ref") => `(tactic| (k_here; (refine' i2BV2 ?hh ?hd ?hu ?XB ?TB ?B ?F ?N rfl rfl ?w1 ?w2 ?r ?v ?_); (case B => assumption); (case F => k_asm); (case N => k_asm); (case XB => assumption); (case TB => assumption); (case hh => rfl); (case hd => ((try dsimp only); omega)); (case hu => ((try dsimp only); omega)); (case w1 => omega); (case w2 => omega); (case r => assumption); (try (case v => assumption)); intro h' tk' t2' F' N'))
local macro_rules | `(tactic| walk_at "call ref") => `(tactic| (k_here; (refine' B2iV2 ?hh ?hd ?hu ?XB ?TB ?B ?F ?N rfl rfl ?w1 ?w2 ?r ?v ?_); (case B => assumption); (case F => k_asm); (case N => k_asm); (case XB => assumption); (case TB => assumption); (case hh => rfl); (case hd => ((try dsimp only); omega)); (case hu => ((try dsimp only); omega)); (case w1 => omega); (case w2 => omega); (case r => assumption); (try (case v => assumption)); intro h' tk' t2' F' N'))
local macro_rules | `(tactic| walk_at "call ref") => `(tactic| (k_here; (refine' B2iC1 ?hh ?hd ?hu ?XB ?TB ?B ?F ?N rfl rfl ?w1 ?w2 ?r ?_); (case B => assumption); (case F => k_asm); (case N => k_asm); (case XB => assumption); (case TB => assumption); (case hh => rfl); (case hd => ((try dsimp only); omega)); (case hu => ((try dsimp only); omega)); (case w1 => omega); (case w2 => omega); (case r => assumption); (try (case v => assumption)); intro h' tk' t2' F' N'))
local macro_rules | `(tactic| walk_at "call type:bytes") => `(tactic| (k_here; (refine' bytes_dig ?F ?N ?m ?i rfl ?b1 ?b2 ?b3 ?_); (case F => k_asm); (case N => k_asm); (case i => assumption); (case m => k_mem); (case b1 => omega); (case b2 => omega); (case b3 => omega); intro h' tk' t2' F' N'))
local macro_rules | `(tactic| walk_at "eval Lambda") => `(tactic| (k_here; kn_here; (refine' kla_eval ?d0 ?_; (case d0 => exact rfl)); (refine' lam_any ?F ?N ?T ?C ?cd ?U ?TF ?hps ?hP ?sub ?cl ?_); (case TF => assumption); (case F => k_asm); (case N => k_asm); (case T => k_asm); (case cd => exact rfl); (case C => kn_code); (case U => k_updF); (case hps => exact rfl); (case hP => (unfold tabQ; (repeat (first | exact List.Mem.head _ | apply List.Mem.tail)))); (case sub => (intro x hx; rw [led_eq] at hx; (repeat (rcases List.mem_cons.mp hx with e0 | hx; · (subst e0; repeat (first | exact List.Mem.head _ | apply List.Mem.tail)))); (repeat (first | exact hx | apply List.Mem.tail)))); (case cl => exact rfl); intro f' c' oc' vs' t' ct' ps' h' tk' F' N' d1' d2' TF' l1 ne1; (try dsimp only at N'); (try k_lt l1)))
local macro_rules | `(tactic| walk_at "call ref") => `(tactic| (k_here; (refine' throwB3 ?hh ?hd ?hu ?XB ?TB ?B ?D ?F ?N rfl rfl ?w1 ?w2 ?b1 ?b2 ?hn); (case B => assumption); (case F => k_asm); (case N => k_asm); (case XB => assumption); (case TB => assumption); (case hh => rfl); (case hd => ((try dsimp only); omega)); (case hu => ((try dsimp only); omega)); (case D => assumption); (case w1 => omega); (case w2 => omega); (case b1 => assumption); (case b2 => assumption); (case hn => assumption)))
local macro_rules | `(tactic| walk_at "mine deed") => `(tactic| ((refine' deed_lam ?B ?N (Top.nolimit (by assumption)) ?ho ?hoc ?hd ?hv ?sub ?room ?bind ?co ?gen ?kd ?cell ?_); (case B => assumption); (case N => k_asm); (case ho => k_mem); (case hoc => k_mem); (case hd => assumption); (case hv => assumption); (case sub => (intro q hq; (refine ⟨hq, ?_⟩); (repeat (rcases List.mem_cons.mp hq with e0 | hq; · (subst e0; first | exact nd_func rfl | exact nd_seq rfl | exact nd_of rfl | exact nd_cell (by assumption) | exact nd_of (by assumption)))); first | exact nd_cds (by assumption) q hq | exact absurd hq List.not_mem_nil)); (case room => ((try dsimp only [Around.deeper]); omega)); (case cell => decide); (case bind => exact rfl); (case co => exact rfl); (case gen => exact rfl); (case kd => exact rfl); intro dp2 gd2 un2 outer2 L2 h2 tk2 g2 edp eun F2 N2 B2 D2; (try dsimp only [Around.deeper] at edp eun); (have X2 : (hd.heap_39 _).In g2 := Frag.In.keeps (by assumption) B2.stays); (have T2 := Top.keeps (by assumption) B2.stays); (change wpAny _ _ _ _ _ _); k_fold; k_steps))
local macro_rules | `(tactic| walk_at "call ref") => `(tactic| (k_here; (refine' refusedV ?hh ?hd ?hu ?XB ?TB ?CH ?B ?D ?F ?N rfl rfl ?hm ?deed ?_); (case B => assumption); (case F => k_asm); (case N => k_asm); (case XB => assumption); (case TB => assumption); (case CH => assumption); (case hh => rfl); (case hd => ((try dsimp only); omega)); (case hu => ((try dsimp only); omega)); (case D => assumption); (case hm => k_dflt k_mem); (case deed => k_dflt (walk_at "mine deed")); intro g' h' tk' KT' F' N' B' D' X' T' C'))
set_option maxHeartbeats 2000000 in
theorem octets {w : World} {A : Around} {s : Shared} {mg mb : Str → Option Value} {p : Program} {loose : List Str} {mean : ExcName → Option Value} {R : Result → Shared → Prop} {base : Heap} {outer : List Env} {pf : Addr → Array Value} {cds : List (Addr × Obj)}
    (hh : A.handled = none) (hdp : A.depth + 8 < recursionLimit) (hun : A.units + 60 < cLine) (XB : (hd.heap_39 w.params).In base) (TB : Top p loose mean mg mb base) (CH : CodeHd base 113 109)
    (B : Below A base outer s.heap) (D : KtsDicts (frs outer) s.heap) (T0 : Led base s.heap pf cds)
    {n : Int} {k : Nat} {sg : Bool} {t1 t2 : Tok} {args : Args} (hb : BindsToK (hd.heap_39 w.params) s 114 args [(Str.ofString "n", .int n t1), (Str.ofString "k", .int (k : Int) t2), (Str.ofString "sign", .bool sg)]) (k1 : 1 ≤ k) (k2 : k ≤ 50) (hr : inB sg n k)
    (hR : ∀ h' tk, Evo (frs outer) base pf cds s.heap h' → R (.ok (.ret (.bool true))) { s with heap := h', toks := tk }) :
    codeAny (model PySem.Challenge.rw_dp5010_01.row.prog w) A (.call (.ref 114) args) R s := by
  obtain ⟨ah, dp, fr, gd, un⟩ := A
  dsimp only at hh hdp hun
  subst hh
  have hst : fr = some outer := B.stack
  subst hst
  have H := T0.toHeld B.frames
  refine' enterC (news := led pf cds) B D XB TB.nolimit H ?k6 ?k7 (by dsimp only; omega) ?k9 ?kB ?kD ?h ?c2 ?c3 ?c4
  case k6 => k_is
  case k7 => k_is
  case k9 => exact hb _ _ (by k_is) rfl
  case kB => exact kindsX rfl
  case kD => decide +kernel
  case c2 => exact rfl
  case c3 => exact rfl
  case c4 => exact rfl
  intro L h₁ tk₀ cells hL F N Y B₁ D₁
  k_cells Y
  generalize hg : less s.heap (led pf cds) = g at *
  have X := XB.keeps B₁.stays
  have T := TB.keeps B₁.stays
  have TF := T0.facts
  have l0 : ∀ q ∈ led pf cds, q.1 < L := fun q hq => hL ▸ Heap.lt_size (T0.held q hq).1
  rw [led_eq] at l0
  replace l0 := allLt_of l0
  simp only [AllLt] at l0
  have l0c : AllLt L cds := l0.2.2.2.2.2.2.2.2
  have C₁ : CodeHd g 113 109 := CH.keeps B₁.stays
  rw [led_eq] at N
  simp only [List.cons_append, List.nil_append] at N
  have hpos : (256 : Int) ^ (k : Int).toNat ≠ 0 := by
    have : (0 : Int) < 256 ^ (k : Int).toNat := Int.pow_pos (by decide)
    omega
  obtain ⟨V, hV, hVl, hmv, hsv⟩ := oct_facts k1 hr
  have hr2 : inB false (n.fmod ((256 : Int) ^ (k : Int).toNat)) k := by
    rw [hmv]
    have e : ((256 ^ k : Nat) : Int) = 256 ^ k := by rw [Int.natCast_pow]; rfl
    refine ⟨by omega, ?_⟩
    rw [← e]
    omega
  have hV2 : (n.fmod ((256 : Int) ^ (k : Int).toNat) % 256 ^ k).toNat = V := by
    have e : ((256 ^ k : Nat) : Int) = 256 ^ k := by rw [Int.natCast_pow]; rfl
    rw [hmv, Int.emod_eq_of_lt (by omega) (by rw [← e]; omega), Int.toNat_natCast]
  have hne : ((digB V 256 k).toList != (digB V 256 k).toList) = false := by simp
  have hnn : n = n := rfl
  have hmv2 : (V : Int) = n.fmod ((256 : Int) ^ (k : Int).toNat) := hmv.symm
  obtain ⟨nlo, blo1, blo2⟩ := oct_lo (sg := sg) k1 k2
  obtain ⟨nhi, bhi1, bhi2⟩ := oct_hi (sg := sg) k1 k2
  clear hb H
  (change wpAny _ _ _ _ _ _); k_fold
  k_steps
  all_goals (try exact absurd hnn (by assumption))
  all_goals (try exact absurd hmv2 (by assumption))
  rename KtsTurn _ _ _ => K2
  rename KtsTurn _ g _ => K1
  rename Fr _ _ _ _ => F9
  rename News _ _ _ _ => N9
  rename Below _ _ _ _ => B9
  rename TabFacts _ _ => TF9
  refine hR _ _ (evo_of T0 B.frames (K := hg ▸ KtsTurn.trans K1 K2) F9 N9 B9 TF9 ?_)
  intro x hx
  rw [led_eq] at hx
  repeat (rcases List.mem_cons.mp hx with rfl | hx; · (repeat (first | exact List.Mem.head _ | apply List.Mem.tail)))
  repeat (first | exact hx | apply List.Mem.tail)
end Mine
end
section
open PySem PySem.W PySem.Calls PyProof.Rows
set_option Elab.async false
namespace Mine
section
variable {M : Model} {A : Around} {E : Value → Shared → Prop} {s : Shared} {env : Env}
theorem J_BoolOp_one {op : BoolOp} {e : Expr} {pos : Pos} {Q : Value → Shared → Prop} (h : wpJ M A (eval e env) Q E s) : wpJ M A (eval (.BoolOp op [e] pos) env) Q E s := h
theorem J_BoolOp_and {e₁ e₂ : Expr} {rest : List Expr} {pos : Pos} {Q : Value → Shared → Prop}
    (h : wpJ M A (eval e₁ env) (fun v s₁ => wpAny M A (truthy v) (fun c s₂ => if c then wpJ M A (eval (.BoolOp .And (e₂ :: rest) pos) env) Q E s₂ else Q v s₂) E s₁) E s) :
    wpJ M A (eval (.BoolOp .And (e₁ :: e₂ :: rest) pos) env) Q E s := by
  show wpJ M A (do
    let v ← eval e₁ env
    standAt pos
    let c ← holding [v] (truthy v)
    match BoolOp.And, c with
    | .And, false | .Or, true => pure v
    | _, _ => boolOp pos .And (eval e₂ env :: evalEach rest env)) Q E s
  refine wpJ_bind (wpJ_mono h (fun v s₁ h₁ => wpJ_bind (wpJ_standAt (wpJ_then (wpAny_holding (wpAny_mono h₁ (fun c s₂ h₂ => ?_) fun _ _ x => x))))) fun _ _ x => x)
  cases c
  · exact wpJ_pure h₂
  · exact h₂
end
end Mine
end
section
open PySem PySem.W PySem.Calls PyProof.Rows
set_option Elab.async false
set_option maxRecDepth 100000
namespace Mine
section
variable {w : World} {s : Shared} {a b c : Value}
theorem bits_binds : BindsToK (hd.heap_39 w.params) s 107 ⟨[a, b, c], []⟩ [(Str.ofString "n", a), (Str.ofString "w", b), (Str.ofString "sign", c)] := by
  refine' bindsK_of ?ho ?hb
  case ho => k_is
  case hb => exact BindsTo.of_eq rfl
theorem octets_binds : BindsToK (hd.heap_39 w.params) s 114 ⟨[a, b, c], []⟩ [(Str.ofString "n", a), (Str.ofString "k", b), (Str.ofString "sign", c)] := by
  refine' bindsK_of ?ho ?hb
  case ho => k_is
  case hb => exact BindsTo.of_eq rfl
end
section
variable {w : World} {A : Around} {E : Value → Shared → Prop} {s : Shared} {mg mb : Str → Option Value} {p : Program} {loose : List Str} {mean : ExcName → Option Value} {base g : Heap} {outer : List Env} {L : Addr} {m₀ : Str → Option Value} {env : Env} {extra cds : List (Addr × Obj)} {pf : Addr → Array Value} {Q : Value → Shared → Prop}
theorem bitsC (hh : A.handled = none) (hdp : A.depth + 9 < recursionLimit) (hun : A.units + 70 < cLine) (XB : (hd.heap_39 w.params).In base) (TB : Top p loose mean mg mb base) (CH : CodeHd base 106 102) (B : Below A base outer g) (D : KtsDicts (frs outer) g) (F : Fr g L s.heap m₀) {all : List (Addr × Obj)} (N : News g L s.heap all) (S : Sp pf cds all extra) (TF : TabFacts pf cds)
    (hx : ∀ q ∈ extra, ∀ vs, q.2.data ≠ .fields vs) (hf : env.frame = some L) (hke : env.scope.kind = .function) {n : Int} {k : Nat} {sg : Bool} {t1 t2 : Tok} (k1 : 1 ≤ k) (k2 : k ≤ 400) (hr : inR sg n k)
    (h : ∀ g' p' cds' h' tk, AfterEvo w p loose mean mg mb A base g outer L m₀ extra h' g' p' cds' → Q (.bool true) { s with heap := h', toks := tk }) :
    wpJ (model PySem.Challenge.rw_dp5010_01.row.prog w) (A.deeper env) (call (.ref 107) [.int n t1, .int (k : Int) t2, .bool sg]) Q E s := by
  rw [S.eq] at N
  have B' := pushX B F hf hke
  have X := XB.keeps B'.stays
  refine wpJ_call (bits (A := A.deeper env) hh (by show A.depth + 1 + 8 < _; omega) (by rw [Around.deeper_units]; omega) XB TB CH B' (dicts_push D F hf) (led_in TF B N) bits_binds k1 k2 hr fun h' tk V => ?_)
  obtain ⟨g', p', cds', a⟩ := after_evo V XB TB B D F N TF hx hf
  exact h g' p' cds' h' tk a
theorem octetsC (hh : A.handled = none) (hdp : A.depth + 9 < recursionLimit) (hun : A.units + 70 < cLine) (XB : (hd.heap_39 w.params).In base) (TB : Top p loose mean mg mb base) (CH : CodeHd base 113 109) (B : Below A base outer g) (D : KtsDicts (frs outer) g) (F : Fr g L s.heap m₀) {all : List (Addr × Obj)} (N : News g L s.heap all) (S : Sp pf cds all extra) (TF : TabFacts pf cds)
    (hx : ∀ q ∈ extra, ∀ vs, q.2.data ≠ .fields vs) (hf : env.frame = some L) (hke : env.scope.kind = .function) {n : Int} {k : Nat} {sg : Bool} {t1 t2 : Tok} (k1 : 1 ≤ k) (k2 : k ≤ 50) (hr : inB sg n k)
    (h : ∀ g' p' cds' h' tk, AfterEvo w p loose mean mg mb A base g outer L m₀ extra h' g' p' cds' → Q (.bool true) { s with heap := h', toks := tk }) :
    wpAny (model PySem.Challenge.rw_dp5010_01.row.prog w) (A.deeper env) (call (.ref 114) [.int n t1, .int (k : Int) t2, .bool sg]) Q E s := by
  rw [S.eq] at N
  have B' := pushX B F hf hke
  have X := XB.keeps B'.stays
  refine wpAny_call (octets (A := A.deeper env) hh (by show A.depth + 1 + 8 < _; omega) (by rw [Around.deeper_units]; omega) XB TB CH B' (dicts_push D F hf) (led_in TF B N) octets_binds k1 k2 hr fun h' tk V => ?_)
  obtain ⟨g', p', cds', a⟩ := after_evo V XB TB B D F N TF hx hf
  exact h g' p' cds' h' tk a
end
theorem inR_of {sg : Bool} {n : Int} {W : Nat} (h1 : loOf sg ((2 : Int) ^ (W : Int).toNat) ≤ n) (h2 : n ≤ hiOf sg ((2 : Int) ^ (W : Int).toNat)) : inR sg n W := by
  unfold inR
  unfold loOf at h1
  unfold hiOf at h2
  cases sg
  · exact ⟨h1, h2⟩
  · exact ⟨h1, h2⟩
/-- what k octets hold when W bits do -/
theorem inB_of {sg : Bool} {n : Int} {W k : Nat} (w1 : 1 ≤ W) (hk : k = 1 + W / 8) (h : inR sg n W) : inB sg n k := by
  have hle : (2 : Int) ^ W ≤ 256 ^ k := by
    have h1 : (2 : Nat) ^ W ≤ 256 ^ k := by
      have e : (256 : Nat) ^ k = 2 ^ (8 * k) := by rw [Nat.pow_mul]
      rw [e]
      exact Nat.pow_le_pow_right (by decide) (by omega)
    have e1 : ((2 ^ W : Nat) : Int) = 2 ^ W := by rw [Int.natCast_pow]; rfl
    have e2 : ((256 ^ k : Nat) : Int) = 256 ^ k := by rw [Int.natCast_pow]; rfl
    rw [← e1, ← e2]
    exact Int.ofNat_le.mpr h1
  unfold inR at h
  rw [Int.toNat_natCast] at h
  unfold inB
  rw [Int.fdiv_eq_ediv_of_nonneg _ (by decide)] at h ⊢
  generalize (2 : Int) ^ W = T at *
  generalize (256 : Int) ^ k = U at *
  cases sg
  · simp only [Bool.false_eq_true, if_false] at h ⊢
    omega
  · simp only [if_true] at h ⊢
    omega
end Mine
end
section
open PySem PySem.W PySem.Calls PyProof.Rows
set_option Elab.async false
set_option maxRecDepth 100000
namespace Mine
theorem turns_binds {w : World} {s : Shared} {a b : Value} : BindsToK (hd.heap_39 w.params) s 119 ⟨[a, b], []⟩ [(Str.ofString "n", a), (Str.ofString "k", b)] := by
  refine' bindsK_of ?ho ?hb
  case ho => k_is
  case hb => exact BindsTo.of_eq rfl
theorem one_binds {w : World} {s : Shared} {a b : Value} : BindsToK (hd.heap_39 w.params) s 126 ⟨[a, b], []⟩ [(Str.ofString "v", a), (Str.ofString "w", b)] := by
  refine' bindsK_of ?ho ?hb
  case ho => k_is
  case hb => exact BindsTo.of_eq rfl
section
variable {w : World} {A : Around} {E : Value → Shared → Prop} {s : Shared} {mg mb : Str → Option Value} {p : Program} {loose : List Str} {mean : ExcName → Option Value} {base g : Heap} {outer : List Env} {L : Addr} {m₀ : Str → Option Value} {env : Env} {extra cds : List (Addr × Obj)} {pf : Addr → Array Value} {Q : Value → Shared → Prop}
theorem turnsC (hh : A.handled = none) (hdp : A.depth + 17 < recursionLimit) (hun : A.units + 130 < cLine) (XB : (hd.heap_39 w.params).In base) (TB : Top p loose mean mg mb base) (CH : CodeHd base 118 116) (CH1 : CodeHd base 52 48) (CH2 : CodeHd base 59 55) (CH3 : CodeHd base 73 69) (CH4 : CodeHd base 80 76) (B : Below A base outer g) (D : KtsDicts (frs outer) g) (F : Fr g L s.heap m₀) {all : List (Addr × Obj)} (N : News g L s.heap all) (S : Sp pf cds all extra) (TF : TabFacts pf cds)
    (hx : ∀ q ∈ extra, ∀ vs, q.2.data ≠ .fields vs) (hf : env.frame = some L) (hke : env.scope.kind = .function) {n : Int} {k : Nat} {t1 t2 : Tok} (k1 : 1 ≤ k) (k2 : k ≤ 50)
    (h : ∀ g' p' cds' h' tk gs, AfterEvo w p loose mean mg mb A base g outer L m₀ extra h' g' p' cds' → (AllBare s.gens → AllBare gs) → Q (.bool true) { s with heap := h', toks := tk, gens := gs }) :
    wpJ (model PySem.Challenge.rw_dp5010_01.row.prog w) (A.deeper env) (call (.ref 119) [.int n t1, .int ((k : Nat) : Int) t2]) Q E s := by
  rw [S.eq] at N
  have B' := pushX B F hf hke
  refine wpJ_call (turns (A := A.deeper env) hh (by show A.depth + 1 + 16 < _; omega) (by rw [Around.deeper_units]; omega) XB TB CH CH1 CH2 CH3 CH4 B' (dicts_push D F hf) (led_in TF B N) turns_binds k1 k2 fun h' tk gs V hb => ?_)
  obtain ⟨g', p', cds', a⟩ := after_evo V XB TB B D F N TF hx hf
  exact h g' p' cds' h' tk gs a hb
end
end Mine
end
section
open PySem PySem.W PySem.Calls PyProof.Rows
set_option Elab.async false
set_option maxRecDepth 100000
namespace Mine
section
variable {M : Model} {A : Around} {E : Value → Shared → Prop} {s : Shared} {env : Env}
theorem wpJ_never {α : Type} {t : Sem α} {Q : α → Shared → Prop} (h : wpJ M A t Q (fun _ _ => False) s) : wpJ M A t Q E s := wpJ_mono h (fun _ _ x => x) fun _ _ x => x.elim
theorem J_runOwn {c : Code} {Q : Flow → Shared → Prop} (hcl : cleanC c = true)
    (hc : codeJ M (A.mark none) c (fun r s' => match r with | .ok f => Q f s' | .error _ => False) s) : wpJ M A (runOwn c env) Q E s := by
  unfold runOwn
  refine wpJ_onRaise (wpJ_never (wpJ_run hcl ?_))
  exact codeJ_mono hc fun r s' x => by
    cases r with
    | ok f => exact x
    | error e => exact x
end
section
variable {prog : Program} {w : World} {A : Around} {E : Value → Shared → Prop} {s : Shared} {env : Env}
theorem codeJ_forLoop {R : Flow → Shared → Prop} {target : Expr} {it : Value} {body : List Stmt} (I : Nat → Shared → Prop)
    (turn : ∀ n s, I n s → wpAny (model prog w) A (pyNext it) (fun r s₁ => match r with
      | none => R .next s₁
      | some v => wpAny (model prog w) A (assign target env v) (fun _ s₂ => wpJ (model prog w) A (execs body env) (fun f s₃ => match f with
          | .next | .cont => ∃ m, m < n ∧ I m s₃
          | .brk => R .next s₃
          | .ret v => R (.ret v) s₃) (fun _ _ => False) s₂) (fun _ _ => False) s₁) (fun _ _ => False) s)
    (ht : ∀ v, letOwnedTupleGo target it v = pure ()) : ∀ (n : Nat) (s : Shared), I n s → codeJ (model prog w) A (.forLoop target it body [] env) (fun r s' => match r with | .ok f => R f s' | .error _ => False) s := by
  intro n
  induction n using Nat.strongRecOn with
  | ind n ih =>
    intro s h
    refine codeJ_of_tree ?_
    show wpJ _ _ ((forTurn target it body [] env).onRaise (fun x => do noteFrame x env; theTreesLotGoes x)) _ _ s
    refine wpJ_onRaise (wpJ_never ?_)
    simp only [forTurn]
    refine wpJ_then (wpAny_standAt (wpJ_bind (wpJ_onRaise (wpJ_never (wpJ_of (wpAny_mono (turn n s h) (fun r s₁ h₁ => ?_) fun _ _ h' => h'))))))
    cases r with
    | none =>
      refine wpJ_pure ⟨rfl, rfl, codeJ_of_tree ?_⟩
      show wpJ _ _ (do return Fin.done (← (execs [] env).onRaise (fun x => do noteFrame x env; theTreesLotGoes x))) _ _ _
      exact wpJ_bind (wpJ_onRaise (J_execs_nil (wpJ_pure h₁)))
    | some v =>
      refine wpJ_then (wpAny_of_eq (ht v) ?_)
      refine wpJ_bind (wpJ_of (wpAny_mono h₁ (fun _ s₂ h₂ => ?_) fun _ _ h' => h'))
      refine wpJ_bind (wpJ_mono h₂ (fun f s₃ h₃ => ?_) fun _ _ h' => h')
      cases f with
      | next =>
        obtain ⟨m, hm, hI⟩ := h₃
        exact wpJ_pure ⟨rfl, rfl, ih m hm s₃ hI⟩
      | cont =>
        obtain ⟨m, hm, hI⟩ := h₃
        exact wpJ_pure ⟨rfl, rfl, ih m hm s₃ hI⟩
      | brk => exact wpJ_pure h₃
      | ret v => exact wpJ_pure h₃
theorem J_For {target iter : Expr} {body : List Stmt} {pos : Pos} {Q : Flow → Shared → Prop}
    (h : wpAny (model prog w) A (eval iter env) (fun x s₁ => wpAny (model prog w) A (pyIter x) (fun it s₂ =>
      codeJ (model prog w) A (.forLoop target it body [] env) (fun r s' => match r with | .ok f => Q f s' | .error _ => False) s₂) (fun _ _ => False) s₁) (fun _ _ => False) s)
    (hs : ∀ x, foldedSetIterable iter env x = pure x) : wpJ (model prog w) A (exec (.For target iter body [] pos) env) Q E s := by
  rw [exec_For]
  refine wpJ_never ?_
  refine wpJ_then (wpAny_standAt (wpJ_then (wpAny_mono h (fun x s₁ h₁ => ?_) fun _ _ e => e)))
  refine wpJ_then (wpAny_of_eq (hs x) (wpJ_then (wpAny_standAt (wpJ_then (wpAny_holding (wpAny_mono h₁ (fun it s₂ h₂ => ?_) fun _ _ e => e))))))
  exact J_runOwn rfl h₂
end
end Mine
end
section
open PySem PySem.W PySem.Calls PyProof.Rows
set_option Elab.async false
set_option maxRecDepth 100000
namespace Mine
local macro_rules | `(tactic| k_room) => `(tactic| ((try simp only [depth_under_make, depth_under_kw, depth_in1, depth_deeper, depth_caller]); omega))
local macro_rules | `(tactic| k_all) => `(tactic| first | exact ne_of_allLt (by assumption) (by omega) | exact TabFacts.ne (by assumption) (by decide))
local macro_rules | `(tactic| walk_at "call ref") => `(tactic| (k_here; (refine' endsC ?hh ?hd ?hu ?XB ?TB ?B ?F ?N rfl rfl ?_); (case B => assumption); (case F => k_asm); (case N => k_asm); (case XB => assumption); (case TB => assumption); (case hh => rfl); (case hd => ((try dsimp only); omega)); (case hu => ((try dsimp only); omega));  intro d' h' tk' t2' t3' F' N' l1; (try simp only [AllNe, and_true] at l1); (try dsimp only at N')))
local macro_rules | `(tactic| walk_at "mine bits") => `(tactic| ((refine' bitsC ?hh ?hd ?hu ?XB ?TB ?CH ?B ?D ?F ?N ?S ?TF ?hx rfl rfl ?w1 ?w2 ?r ?_); (case TF => assumption); (case B => assumption); (case F => k_asm); (case N => k_asm); (case S => (repeat (first | exact Sp.here | apply Sp.cons))); (case hx => (intro q hq; (repeat (rcases List.mem_cons.mp hq with e0 | hq; · (subst e0; first | exact nf_seq rfl | exact nf_cell (by assumption) | exact nf_func rfl))); exact absurd hq List.not_mem_nil)); (case XB => assumption); (case TB => assumption); (case CH => assumption); (case hh => rfl); (case hd => ((try dsimp only); omega)); (case hu => ((try dsimp only); omega)); (case D => assumption); (case w1 => first | assumption | omega); (case w2 => first | assumption | omega); (case r => first | assumption | omega); intro g' p' cds' h' tk' a'; obtain ⟨KT', F', N', B', D', TF', X', T'⟩ := a'; rw [led_eq] at N'; simp only [List.cons_append, List.nil_append] at N'))
local macro_rules | `(tactic| walk_at "mine octets") => `(tactic| ((refine' octetsC ?hh ?hd ?hu ?XB ?TB ?CH ?B ?D ?F ?N ?S ?TF ?hx rfl rfl ?w1 ?w2 ?r ?_); (case TF => assumption); (case B => assumption); (case F => k_asm); (case N => k_asm); (case S => (repeat (first | exact Sp.here | apply Sp.cons))); (case hx => (intro q hq; (repeat (rcases List.mem_cons.mp hq with e0 | hq; · (subst e0; first | exact nf_seq rfl | exact nf_cell (by assumption) | exact nf_func rfl))); exact absurd hq List.not_mem_nil)); (case XB => assumption); (case TB => assumption); (case CH => assumption); (case hh => rfl); (case hd => ((try dsimp only); omega)); (case hu => ((try dsimp only); omega)); (case D => assumption); (case w1 => first | assumption | omega); (case w2 => first | assumption | omega); (case r => first | assumption | omega); intro g' p' cds' h' tk' a'; obtain ⟨KT', F', N', B', D', TF', X', T'⟩ := a'; rw [led_eq] at N'; simp only [List.cons_append, List.nil_append] at N'))
local macro_rules | `(tactic| walk_at "call ref") => `(tactic| (k_here; (with_reducible show wpAny _ _ (call (.ref 114) _) _ _ _); k_dflt (walk_at "mine octets")))
local macro_rules | `(tactic| walk_at "mine kts") => `(tactic| first | assumption | exact KtsTurn.trans (by assumption) (by walk_at "mine kts"))
local macro_rules | `(tactic| walk_at "mine turns") => `(tactic| ((refine' turnsC ?hh ?hd ?hu ?XB ?TB ?CH ?CH1 ?CH2 ?CH3 ?CH4 ?B ?D ?F ?N ?S ?TF ?hx rfl rfl ?w1 ?w2 ?_); (case TF => assumption); (case B => assumption); (case F => k_asm); (case N => k_asm); (case S => (repeat (first | exact Sp.here | apply Sp.cons))); (case hx => (intro q hq; (repeat (rcases List.mem_cons.mp hq with e0 | hq; · (subst e0; first | exact nf_seq rfl | exact nf_cell (by assumption) | exact nf_func rfl))); exact absurd hq List.not_mem_nil)); (case XB => assumption); (case TB => assumption); (case CH => assumption); (case CH1 => assumption); (case CH2 => assumption); (case CH3 => assumption); (case CH4 => assumption); (case hh => rfl); (case hd => ((try dsimp only); omega)); (case hu => ((try dsimp only); omega)); (case D => assumption); (case w1 => first | assumption | omega); (case w2 => first | assumption | omega); intro g' p' cds' h' tk' gs' a' hbr'; obtain ⟨KT', F', N', B', D', TF', X', T'⟩ := a'; rw [led_eq] at N'; simp only [List.cons_append, List.nil_append] at N'))
theorem one_in {sg : Bool} {W : Nat} {st j : Int} (h : 1 ≤ hiOf sg ((2 : Int) ^ (W : Int).toNat) - loOf sg ((2 : Int) ^ (W : Int).toNat) + 1) (s0 : 0 ≤ st) (s1 : st < hiOf sg ((2 : Int) ^ (W : Int).toNat) - loOf sg ((2 : Int) ^ (W : Int).toNat) + 1) (j0 : 0 ≤ j) (j1 : j < 4) :
    inR sg ([loOf sg ((2 : Int) ^ (W : Int).toNat), hiOf sg ((2 : Int) ^ (W : Int).toNat), loOf sg ((2 : Int) ^ (W : Int).toNat) + st, hiOf sg ((2 : Int) ^ (W : Int).toNat) - st].getD j.toNat 0) W := by
  have hj : j.toNat = 0 ∨ j.toNat = 1 ∨ j.toNat = 2 ∨ j.toNat = 3 := by omega
  refine inR_of ?_ ?_
  · rcases hj with e | e | e | e <;> rw [e] <;> simp only [List.getD_cons_zero, List.getD_cons_succ] <;> omega
  · rcases hj with e | e | e | e <;> rw [e] <;> simp only [List.getD_cons_zero, List.getD_cons_succ] <;> omega
theorem span_pos {sg : Bool} {W : Nat} (w1 : 1 ≤ W) : 1 ≤ hiOf sg ((2 : Int) ^ (W : Int).toNat) - loOf sg ((2 : Int) ^ (W : Int).toNat) + 1 := by
  obtain ⟨e1, e2, -⟩ := half2 w1
  have hp : (0 : Int) < 2 ^ W := Int.pow_pos (by decide)
  rw [Int.toNat_natCast]
  unfold loOf hiOf
  cases sg
  · simp only [Bool.false_eq_true, if_false]
    omega
  · simp only [if_true]
    omega
set_option maxHeartbeats 1500000 in
theorem one {w : World} {A : Around} {s : Shared} {mg mb : Str → Option Value} {p : Program} {loose : List Str} {mean : ExcName → Option Value} {R : Result → Shared → Prop} {base : Heap} {outer : List Env} {pf : Addr → Array Value} {cds : List (Addr × Obj)}
    (hh : A.handled = none) (hdp : A.depth + 20 < recursionLimit) (hun : A.units + 150 < cLine) (XB : (hd.heap_39 w.params).In base) (TB : Top p loose mean mg mb base)
    (CH1 : CodeHd base 52 48) (CH2 : CodeHd base 59 55) (CH3 : CodeHd base 73 69) (CH4 : CodeHd base 80 76) (CH5 : CodeHd base 106 102) (CH6 : CodeHd base 113 109) (CH7 : CodeHd base 118 116)
    (B : Below A base outer s.heap) (D : KtsDicts (frs outer) s.heap) (T0 : Led base s.heap pf cds)
    {v W : Nat} {t1 t2 : Tok} {args : Args} (hb : BindsToK (hd.heap_39 w.params) s 126 args [(Str.ofString "v", .int (v : Int) t1), (Str.ofString "w", .int (W : Int) t2)]) (w1 : 1 ≤ W) (w2 : W ≤ 333)
    (hR : ∀ h' tk gs, Evo (frs outer) base pf cds s.heap h' → (AllBare s.gens → AllBare gs) → R (.ok (.ret (.bool true))) { s with heap := h', toks := tk, gens := gs }) :
    codeJ (model PySem.Challenge.rw_dp5010_01.row.prog w) A (.call (.ref 126) args) R s := by
  obtain ⟨ah, dp, fr, gd, un⟩ := A
  dsimp only at hh hdp hun
  subst hh
  have hst : fr = some outer := B.stack
  subst hst
  have H := T0.toHeld B.frames
  refine' enterNJ (news := led pf cds) B D XB TB.nolimit H ?k6 ?k7 (by dsimp only; omega) ?k9 ?kB ?c5 ?h ?c2 ?c3 ?c4
  case k6 => k_is
  case k7 => k_is
  case k9 => exact hb _ _ (by k_is) rfl
  case kB => exact locs rfl
  case c5 => decide
  case c2 => exact rfl
  case c3 => exact rfl
  case c4 => exact rfl
  intro L h₁ hL F N B₁ D₁
  generalize hg : less s.heap (led pf cds) = g at *
  have X := XB.keeps B₁.stays
  have T := TB.keeps B₁.stays
  have TF := T0.facts
  have l0 : ∀ q ∈ led pf cds, q.1 < L := fun q hq => hL ▸ Heap.lt_size (T0.held q hq).1
  rw [led_eq] at l0
  replace l0 := allLt_of l0
  simp only [AllLt] at l0
  have l0c : AllLt L cds := l0.2.2.2.2.2.2.2.2
  rw [led_eq] at N
  clear hb H
  refine J_step ?_
  (change wpAny _ _ _ _ _ _); k_fold
  k_steps
  generalize hsg : (((v : Int).fdiv 70).fmod 2 == 1) = sg at *
  have hsp := span_pos (sg := sg) w1
  have hsp0 : hiOf sg ((2 : Int) ^ (W : Int).toNat) - loOf sg ((2 : Int) ^ (W : Int).toNat) + 1 ≠ 0 := by omega
  refine J_step ?_
  (change wpAny _ _ _ _ _ _); k_fold
  k_steps
  refine J_step ?_
  (change wpAny _ _ _ _ _ _); k_fold
  k_steps
  refine J_step ?_
  (change wpAny _ _ _ _ _ _); k_fold
  k_steps
  have hst : 0 ≤ ((v : Int).fdiv 560).fmod (hiOf sg ((2 : Int) ^ (W : Int).toNat) - loOf sg ((2 : Int) ^ (W : Int).toNat) + 1) ∧ ((v : Int).fdiv 560).fmod (hiOf sg ((2 : Int) ^ (W : Int).toNat) - loOf sg ((2 : Int) ^ (W : Int).toNat) + 1) < hiOf sg ((2 : Int) ^ (W : Int).toNat) - loOf sg ((2 : Int) ^ (W : Int).toNat) + 1 :=
    ⟨Int.fmod_nonneg_of_pos _ (by omega), Int.fmod_lt_of_pos _ (by omega)⟩
  have hj4 : 0 ≤ ((v : Int).fdiv 140).fmod 4 ∧ ((v : Int).fdiv 140).fmod 4 < 4 := ⟨Int.fmod_nonneg_of_pos _ (by decide), Int.fmod_lt_of_pos _ (by decide)⟩
  have hnR := one_in (sg := sg) (W := W) hsp hst.1 hst.2 hj4.1 hj4.2
  have hk8 : (1 : Int) + (W : Int).fdiv 8 = ((1 + W / 8 : Nat) : Int) := by
    rw [Int.fdiv_eq_ediv_of_nonneg _ (by decide)]
    omega
  have hnB := inB_of w1 rfl hnR
  have hkl : 1 + W / 8 ≤ 50 := by omega
  refine J_step ?_
  (change wpAny _ _ _ _ _ _); k_fold
  k_steps
  rename Fr _ _ _ _ => F5
  rw [hk8] at F5
  have hw400 : W ≤ 400 := by omega
  refine J_cons (J_Return (J_BoolOp_and (J_callK (K := hd.heap_39 w.params) (f := .ref 107) (by k_is) ?_)))
  (change wpAny _ _ _ _ _ _); k_fold
  k_steps
  walk_at "mine bits"
  (change wpAny _ _ _ _ _ _); k_fold
  k_steps
  show wpJ _ _ _ _ _ _
  refine J_BoolOp_and (wpJ_of ?_)
  (change wpAny _ _ _ _ _ _); k_fold
  k_steps
  show wpJ _ _ _ _ _ _
  refine J_BoolOp_one (J_callK (K := hd.heap_39 w.params) (f := .ref 119) (by k_is) ?_)
  (change wpAny _ _ _ _ _ _); k_fold
  k_steps
  walk_at "mine turns"
  rename Fr _ _ _ _ => F9
  rename News _ _ _ _ => N9
  rename Below _ _ _ _ => B9
  rename TabFacts _ _ => TF9
  rename AllBare _ → _ => hb9
  refine hR _ _ _ (evo_of T0 B.frames (K := by rw [hg]; walk_at "mine kts") F9 N9 B9 TF9 ?_) hb9
  intro x hx
  rw [led_eq] at hx
  repeat (rcases List.mem_cons.mp hx with rfl | hx; · (repeat (first | exact List.Mem.head _ | apply List.Mem.tail)))
  repeat (first | exact hx | apply List.Mem.tail)
end Mine
end
section
open PySem PySem.W PySem.Calls PyProof.Rows
set_option Elab.async false
set_option maxRecDepth 100000
namespace Mine
/-- the addresses of a ledger's own entries are apart from the tables and the codes -/
abbrev Apart (extra : List (Addr × Obj)) (p : Addr → Array Value) (cds : List (Addr × Obj)) : Prop := ∀ q ∈ extra, q.1 ∉ (led p cds).map (·.1)
theorem Evo.ground2 {A₀ : Around} {base g h h' : Heap} {outer : List Env} {L : Addr} {m : Str → Option Value} {env : Env} {extra cds : List (Addr × Obj)} {p : Addr → Array Value} (V : Evo (frs (env :: outer)) base p cds h h') (B : Below A₀ base outer g) (F : Fr g L h m) (N : News g L h (extra ++ led p cds)) (hf : env.frame = some L)
    (D : KtsDicts (frs outer) g) (hx : Apart extra p cds) :
    ∃ g' p' cds', KtsTurn (frs outer) g g' ∧ Fr g' L h' m ∧ News g' L h' (extra ++ led p' cds') ∧ Below A₀ base outer g' ∧ KtsDicts (frs outer) g' ∧ TabFacts p' cds' ∧ Apart extra p' cds' := by
  have nL : g.get? L = none := kts_self F
  have off : ∀ b o, g.get? b = some o → b ∉ (led p cds).map (·.1) := fun b o e q => by
    obtain ⟨x, hx, rfl⟩ := List.mem_map.mp q
    rw [(N x (List.mem_append_right _ hx)).2.2] at e
    cases e
  obtain ⟨T₁, S₁⟩ := kts_turn_at (h := h') (fs := frs outer) (g := g)
    (fun b hb => by
      obtain ⟨_, o, ho, _⟩ := B.frames.mem hb
      exact ⟨o, ho⟩)
    (fun b o e nm => V.keep b o (F.keep b o e) (fun q => by
      rcases (frs_cons hf).mp q with z | z
      · rw [z, nL] at e
        cases e
      · exact nm z) (off b o e))
    (fun b o e hm => V.frame b o (F.keep b o e) ((frs_cons hf).mpr (.inr hm)))
  obtain ⟨oL, es, ep, hL, hLd, hLk, hLf⟩ := F.ns
  obtain ⟨sl, hs⟩ := V.frame L oL hL ((frs_cons hf).mpr (.inl rfl))
  obtain ⟨p', cds', T', hnew⟩ := V.tabs
  refine ⟨_, p', cds', T₁, ⟨⟨_, es, ep, hs, hLd, hLk, hLf⟩, S₁, by rw [T₁.size]; exact F.above⟩, fun q hq => ?_,
    ⟨B.stack, fun b o e => T₁.other b o (B.stays b o e) (fun hm => by
      rw [(B.frames.mem hm).1] at e
      cases e), B.frames.of_keeps fun b o e _ => by
      obtain ⟨sl', hs'⟩ := T₁.up e
      exact ⟨_, hs', rfl⟩⟩, D.turn T₁, T'.facts, fun q hq hm => ?_⟩
  · rcases List.mem_append.mp hq with hq | hq
    · have n := N q (List.mem_append_left _ hq)
      refine ⟨V.keep _ _ n.1 (fun z => ?_) (hx q hq), n.2.1, T₁.none_ _ n.2.2⟩
      rcases (frs_cons hf).mp z with z | z
      · exact n.2.1 z
      · obtain ⟨_, o, ho, _⟩ := B.frames.mem z
        rw [n.2.2] at ho
        cases ho
    · refine ⟨(T'.held q hq).1, fun z => ?_, T₁.none_ _ ?_⟩
      · have h1 := (T'.held q hq).1
        rw [z, hs] at h1
        obtain ⟨vs, hv⟩ := T'.facts.fields q hq
        rw [← Option.some.inj h1] at hv
        rw [hLd] at hv
        cases hv
      · rcases List.mem_append.mp hq with hq | hq
        · obtain ⟨a, ha, rfl⟩ := List.mem_map.mp hq
          exact (N (a, tabObj (p a)) (List.mem_append_right _ (List.mem_append_left _ (List.mem_map.mpr ⟨a, ha, rfl⟩)))).2.2
        · rcases hnew q hq with z | z
          · obtain ⟨y, hy, e⟩ := List.mem_map.mp z
            rw [← e]
            exact (N y (List.mem_append_right _ (List.mem_append_right _ hy))).2.2
          · exact kts_none F.keep z
  · have h1 := hx q hq
    have n := (N q (List.mem_append_left _ hq)).1
    rw [led, List.map_append, List.mem_append] at hm h1
    rcases hm with hm | hm
    · rw [List.map_map] at hm
      exact h1 (.inl (by rw [List.map_map]; exact hm))
    · obtain ⟨x, hx1, hx2⟩ := List.mem_map.mp hm
      rcases hnew x hx1 with z | z
      · rw [hx2] at z
        exact h1 (.inr z)
      · rw [hx2, n] at z
        cases z
section
variable {w : World} {A : Around} {E : Value → Shared → Prop} {s : Shared} {mg mb : Str → Option Value} {p : Program} {loose : List Str} {mean : ExcName → Option Value} {base g : Heap} {outer : List Env} {L : Addr} {m₀ : Str → Option Value} {env : Env} {extra cds : List (Addr × Obj)} {pf : Addr → Array Value} {Q : Value → Shared → Prop}
theorem oneC (hh : A.handled = none) (hdp : A.depth + 21 < recursionLimit) (hun : A.units + 160 < cLine) (XB : (hd.heap_39 w.params).In base) (TB : Top p loose mean mg mb base)
    (CH1 : CodeHd base 52 48) (CH2 : CodeHd base 59 55) (CH3 : CodeHd base 73 69) (CH4 : CodeHd base 80 76) (CH5 : CodeHd base 106 102) (CH6 : CodeHd base 113 109) (CH7 : CodeHd base 118 116)
    (B : Below A base outer g) (D : KtsDicts (frs outer) g) (F : Fr g L s.heap m₀) {all : List (Addr × Obj)} (N : News g L s.heap all) (S : Sp pf cds all extra) (TF : TabFacts pf cds)
    (hx : Apart extra pf cds) (hf : env.frame = some L) (hke : env.scope.kind = .function) {vi Wi : Int} {v W : Nat} {t1 t2 : Tok} (ev : vi = (v : Int)) (eW : Wi = (W : Int)) (w1 : 1 ≤ W) (w2 : W ≤ 333)
    (h : ∀ g' p' cds' h' tk gs, AfterEvo w p loose mean mg mb A base g outer L m₀ extra h' g' p' cds' → Apart extra p' cds' → (AllBare s.gens → AllBare gs) → Q (.bool true) { s with heap := h', toks := tk, gens := gs }) :
    wpJ (model PySem.Challenge.rw_dp5010_01.row.prog w) (A.deeper env) (call (.ref 126) [.int vi t1, .int Wi t2]) Q E s := by
  subst ev eW
  rw [S.eq] at N
  have B' := pushX B F hf hke
  refine wpJ_call (one (A := A.deeper env) hh (by show A.depth + 1 + 20 < _; omega) (by rw [Around.deeper_units]; omega) XB TB CH1 CH2 CH3 CH4 CH5 CH6 CH7 B' (dicts_push D F hf) (led_in TF B N) one_binds w1 w2 fun h' tk gs V hb => ?_)
  obtain ⟨g', p', cds', K, F', N', B', D', TF', ap⟩ := V.ground2 B F N hf D hx
  exact h g' p' cds' h' tk gs ⟨K, F', N', B', D', TF', XB.keeps B'.stays, TB.keeps B'.stays⟩ ap hb
end
/-- the law's frame, some turns on -/
def LawAt (w : World) (p : Program) (loose : List Str) (mean : ExcName → Option Value) (mg mb : Str → Option Value) (A : Around) (base g : Heap) (outer : List Env) (L : Addr) (all : List (Addr × Obj)) (s : Shared) (m' : Str → Option Value) (s' : Shared) : Prop :=
  ∃ g' p' cds' h' tk gs, s' = { s with heap := h', toks := tk, gens := gs } ∧ AfterEvo w p loose mean mg mb A base g outer L m' all h' g' p' cds' ∧ Apart all p' cds' ∧ (AllBare s.gens → AllBare gs)
section
variable {prog : Program} {w : World} {A : Around} {s : Shared} {mg mb : Str → Option Value} {p : Program} {loose : List Str} {mean : ExcName → Option Value} {base g : Heap} {outer : List Env} {L : Addr} {m₀ : Str → Option Value} {env : Env} {extra : List (Addr × Obj)}
theorem loopJ_range {r : Addr} {t u v : Tok} {n : Nat} {x : Str} {px : Pos} {body : List Stmt} {Q : Flow → Shared → Prop} {A' : Around} (hh : A.handled = none) (hLe : env.locals = L)
    (hr : IsRange s.heap r 0 (n : Int) 1 t u v) (hsm : Builtin.Range.small 0 (n : Int) 1 = true) (hn : Builtin.Range.rangeSize 0 (n : Int) 1 = ((n : Nat) : Int))
    (hx : env.kindOf x = some .local) (hp : (env.scope.kind == .class || (env.scope.kind == .module && env.locals != env.globals)) = false)
    (h0 : LawAt w p loose mean mg mb A' base g outer L extra s m₀ s)
    (turn : ∀ (i : Nat) (t : Tok) (I : Addr) (oI : Obj) (m₁ : Str → Option Value) (s' : Shared), i < n → LawAt w p loose mean mg mb A' base g outer L ((I, oI) :: extra) s (fun y => if y = x then some (.int (i : Int) t) else m₁ y) s' →
      wpJ (model prog w) A (execs body env) (fun f s'' => f = .next ∧ ∃ m₂, LawAt w p loose mean mg mb A' base g outer L ((I, oI) :: extra) s m₂ s'') (fun _ _ => False) s')
    (done : ∀ m₁ s', LawAt w p loose mean mg mb A' base g outer L extra s m₁ s' → Q .next s') :
    wpAny (model prog w) A (pyIter (.ref r)) (fun it s₂ => codeJ (model prog w) A (.forLoop (.Name x px) it body [] env) (fun rr s' => match rr with | .ok f => Q f s' | .error _ => False) s₂) (fun _ _ => False) s := by
  subst hLe
  have lt0 : ∀ q ∈ extra, q.1 < s.heap.objs.size := by
    obtain ⟨g', p', cds', h', tk, gs, e, ⟨K, F', N', _⟩, _⟩ := h0
    intro q hq
    have e1 : s.heap = h' := congrArg Shared.heap e
    rw [e1]
    exact Heap.lt_size (N' q (List.mem_append_left _ hq)).1
  refine wpAny_pyIter_range hr hsm ?_
  have W := LCg.range_walks (prog := prog) (w := w) (I := s.heap.objs.size) hh 0 n
  refine codeJ_forLoop (R := Q) (fun k s' => ∃ i oI m₁, i ≤ n ∧ k = n + 1 - i ∧ IsRangeIter s'.heap s.heap.objs.size (0 + (i : Nat) * 1) ((n : Int) - (i : Nat)) 1 ∧ s'.heap.get? s.heap.objs.size = some oI ∧ LawAt w p loose mean mg mb A' base g outer env.locals ((s.heap.objs.size, oI) :: extra) s m₁ s') ?_ (fun _ => rfl) (n + 1) _ ?_
  · rintro k s' ⟨i, oI, m₁, hi, rfl, hit, hI, g', p', cds', h', tk, gs, rfl, ⟨K, F', N', B', D', TF', X', T'⟩, ap, hb⟩
    have FI := (N' _ (.head _))
    by_cases hlt : i < n
    · refine W.item i _ _ _ hlt hit fun vv h₁ tk₁ hP hst₁ hk₁ => ?_
      obtain ⟨t', rfl⟩ := hP
      rw [Int.zero_add]
      have hI1 : ∃ oI', h₁.get? s.heap.objs.size = some oI' := ⟨_, hst₁⟩
      obtain ⟨oI', hI1⟩ := hI1
      have kk : ∀ b o, b ≠ s.heap.objs.size → h'.get? b = some o → h₁.get? b = some o := fun b o nb e => hk₁ b o (by simpa using nb) e
      have Ln : @Ne Nat env.locals s.heap.objs.size := Ne.symm FI.2.1
      have F₁ : Fr g' env.locals h₁ m₁ := LCg.fr_but (I := s.heap.objs.size) F' (fun b o hb e => hk₁ b o hb e) Ln FI.2.2
      refine wpAny_assign_Name (wpAny_storeName_local hx F₁.ns (fun h₂ hn₂ hs₂ => ?_) hp)
      have F₂ := F₁.set hn₂ hs₂
      have offI : ∀ q ∈ extra ++ led p' cds', q.1 ≠ s.heap.objs.size := fun q hq e => by
        rcases List.mem_append.mp hq with hq | hq
        · exact absurd (lt0 q hq) (by rw [e]; exact Nat.lt_irrefl _)
        · exact ap (s.heap.objs.size, oI) (.head _) (by show s.heap.objs.size ∈ _; rw [← e]; exact List.mem_map.mpr ⟨q, hq, rfl⟩)
      have N₂ : News g' env.locals h₂ (((s.heap.objs.size, oI') :: extra) ++ led p' cds') := fun q hq => by
        rcases List.mem_cons.mp hq with rfl | hq
        · exact ⟨hs₂.extBut _ _ FI.2.1 hI1, FI.2⟩
        · have z := N' q (.tail _ hq)
          exact ⟨hs₂.extBut _ _ z.2.1 (kk _ _ (offI q hq) z.1), z.2⟩
      refine wpJ_mono (turn i t' s.heap.objs.size oI' m₁ _ hlt ⟨g', p', cds', h₂, _, gs, rfl, ⟨K, F₂, N₂, B', D', TF', X', T'⟩, ?_, hb⟩) (fun f s₃ z => ?_) fun _ _ z => z
      · intro q hq
        rcases List.mem_cons.mp hq with rfl | hq
        · exact ap (s.heap.objs.size, oI) (.head _)
        · exact ap q (.tail _ hq)
      · obtain ⟨rfl, m₂, g3, p3, c3, h3, tk3, gs3, rfl, a3, ap3, hb3⟩ := z
        have hI3 := (a3.2.2.1 _ (.head _)).1
        refine ⟨n + 1 - (i + 1), by omega, i + 1, oI', m₂, hlt, rfl, ?_, hI3, g3, p3, c3, h3, tk3, gs3, rfl, a3, ap3, hb3⟩
        have e1 : h₁.get? s.heap.objs.size = some _ := hst₁
        rw [hI1] at e1
        show h3.get? _ = some _
        rw [hI3, e1]
    · obtain rfl : i = n := Nat.le_antisymm hi (Nat.not_lt.mp hlt)
      refine W.done _ _ _ hit fun h₁ tk₁ hk₁ => ?_
      have Ln : @Ne Nat env.locals s.heap.objs.size := Ne.symm FI.2.1
      have F₁ : Fr g' env.locals h₁ m₁ := LCg.fr_but (I := s.heap.objs.size) F' (fun b o hb e => hk₁ b o hb e) Ln FI.2.2
      have offI : ∀ q ∈ extra ++ led p' cds', q.1 ≠ s.heap.objs.size := fun q hq e => by
        rcases List.mem_append.mp hq with hq | hq
        · exact absurd (lt0 q hq) (by rw [e]; exact Nat.lt_irrefl _)
        · exact ap (s.heap.objs.size, oI) (.head _) (by show s.heap.objs.size ∈ _; rw [← e]; exact List.mem_map.mpr ⟨q, hq, rfl⟩)
      refine done m₁ _ ⟨g', p', cds', h₁, _, gs, rfl, ⟨K, F₁, fun q hq => ?_, B', D', TF', X', T'⟩, fun q hq => ap q (.tail _ hq), hb⟩
      have z := N' q (.tail _ hq)
      exact ⟨hk₁ _ _ (by simpa using offI q hq) z.1, z.2⟩
  · obtain ⟨g', p', cds', h', tk, gs, e, ⟨K, F', N', B', D', TF', X', T'⟩, ap, hb⟩ := h0
    have e1 : s.heap = h' := congrArg Shared.heap e
    subst e1
    have g0 : (s.heap.push { cls := .type "range_iterator", data := .fields #[rawInt 0, rawInt (Builtin.Range.rangeSize 0 (n : Int) 1), rawInt 1] }).get? s.heap.objs.size = some _ := Heap.get?_push_size _ rfl
    have up : ∀ b o, s.heap.get? b = some o → (s.heap.push { cls := .type "range_iterator", data := .fields #[rawInt 0, rawInt (Builtin.Range.rangeSize 0 (n : Int) 1), rawInt 1] }).get? b = some o := fun b o e => Heap.get?_push_of_some _ e
    refine ⟨0, _, m₀, Nat.zero_le _, rfl, ?_, g0, g', p', cds', _, s.toks, s.gens, rfl, ⟨K, F'.keeps up, fun q hq => ?_, B', D', TF', X', T'⟩, fun q hq => ?_, fun x => x⟩
    · show IsRangeIter _ _ _ _ _
      rw [hn] at g0 ⊢
      simpa using g0
    · rcases List.mem_cons.mp hq with rfl | hq
      · exact ⟨g0, Nat.ne_of_gt F'.ns.lt, next_is_new F'⟩
      · exact ⟨up _ _ (N' q hq).1, (N' q hq).2⟩
    · rcases List.mem_cons.mp hq with rfl | hq
      · intro hm
        obtain ⟨x, hx1, hx2⟩ := List.mem_map.mp hm
        have z := Heap.lt_size (N' x (List.mem_append_right _ hx1)).1
        rw [hx2] at z
        exact Nat.lt_irrefl _ z
      · exact ap q hq
end
end Mine
end
section
open PySem PySem.W PySem.Calls PyProof.Rows
set_option Elab.async false
set_option maxRecDepth 100000
namespace Mine
local macro_rules | `(tactic| walk_at "exec Raise some none") => `(tactic| (refine Raise_new (handled_deeper (by with_reducible assumption)) ?_))
local macro_rules | `(tactic| walk_at "formatField int") => `(tactic| (refine field_any (natAbs_lt (by assumption) (by assumption)) ?_; intro y' t' k' hy'))
local macro_rules | `(tactic| walk_at "And") => `(tactic| ((with_reducible show PySem.Str.length (_ ++ _) ≤ sizeLine ∧ wpAny _ _ (joinParts _ _) _ _ _); (refine join_part (P := fun o => wpAny _ _ (joinParts o _) _ _ _) (by first | assumption | exact Nat.le_refl _) (by first | assumption | decide +kernel | (split <;> decide +kernel)) (by decide) ?_); intro o' ho'))
local macro_rules | `(tactic| walk_at "joinParts") => `(tactic| (refine join_done (by assumption) (by decide) ?_; intro t' k'))

set_option maxHeartbeats 4000000 in
theorem b2i_no {w : World} {A : Around} {s : Shared} {mg mb : Str → Option Value} {p : Program} {loose : List Str} {mean : ExcName → Option Value} {base : Heap} {outer : List Env}
    (hh : A.handled = none) (hdp : A.depth < recursionLimit) (hun : A.units + 20 < cLine) (XB : (hd.heap_39 w.params).In base) (TB : Top p loose mean mg mb base)
    (B : Below A base outer s.heap) (D : KtsDicts (frs outer) s.heap)
    {t1 : Tok} {sg : Bool} {args : Args} (hb : BindsToK (hd.heap_39 w.params) s 38 args [(Str.ofString "data", .bytes #[] t1), (Str.ofString "signed", .bool sg)])  :
    RaisesVE (model PySem.Challenge.rw_dp5010_01.row.prog w) A base outer (.call (.ref 38) args) s := by
  refine' enterN (news := []) B D XB TB.nolimit Held.nil ?k6 ?k7 hdp ?k9 ?kB ?c5 ?h ?c2 ?c3 ?c4
  case k6 => k_is
  case k7 => k_is
  case k9 => exact hb _ _ (by k_is) rfl
  case kB => exact locs rfl
  case c5 => decide
  case c2 => exact rfl
  case c3 => exact rfl
  case c4 => exact rfl
  intro L h₁ hL F N B₁ D₁
  have X := XB.keeps B₁.stays
  have T := TB.keeps B₁.stays

  (change wpAny _ _ _ _ _ _); k_fold
  k_steps
  all_goals (
    rename RaisedSN _ _ _ _ _ _ _ => R'
    rename Heap.UpToSlots _ _ => U'
    exact Flies.of_sn R' U')

set_option maxHeartbeats 4000000 in
theorem B2i_no {w : World} {A : Around} {s : Shared} {mg mb : Str → Option Value} {p : Program} {loose : List Str} {mean : ExcName → Option Value} {base : Heap} {outer : List Env}
    (hh : A.handled = none) (hdp : A.depth < recursionLimit) (hun : A.units + 20 < cLine) (XB : (hd.heap_39 w.params).In base) (TB : Top p loose mean mg mb base)
    (B : Below A base outer s.heap) (D : KtsDicts (frs outer) s.heap)
    {t1 : Tok} {sg : Bool} {args : Args} (hb : BindsToK (hd.heap_39 w.params) s 46 args [(Str.ofString "data", .bytes #[] t1), (Str.ofString "signed", .bool sg)])  :
    RaisesVE (model PySem.Challenge.rw_dp5010_01.row.prog w) A base outer (.call (.ref 46) args) s := by
  refine' enterN (news := []) B D XB TB.nolimit Held.nil ?k6 ?k7 hdp ?k9 ?kB ?c5 ?h ?c2 ?c3 ?c4
  case k6 => k_is
  case k7 => k_is
  case k9 => exact hb _ _ (by k_is) rfl
  case kB => exact locs rfl
  case c5 => decide
  case c2 => exact rfl
  case c3 => exact rfl
  case c4 => exact rfl
  intro L h₁ hL F N B₁ D₁
  have X := XB.keeps B₁.stays
  have T := TB.keeps B₁.stays

  (change wpAny _ _ _ _ _ _); k_fold
  k_steps
  all_goals (
    rename RaisedSN _ _ _ _ _ _ _ => R'
    rename Heap.UpToSlots _ _ => U'
    exact Flies.of_sn R' U')
end Mine
end
section
open PySem PySem.W PySem.Calls PyProof.Rows
set_option Elab.async false
set_option maxRecDepth 100000
namespace Mine
local macro_rules | `(tactic| walk_at "exec Raise some none") => `(tactic| (refine Raise_new (handled_deeper (by with_reducible assumption)) ?_))
local macro_rules | `(tactic| walk_at "formatField int") => `(tactic| (refine field_any (natAbs_lt (by assumption) (by assumption)) ?_; intro y' t' k' hy'))
local macro_rules | `(tactic| walk_at "And") => `(tactic| ((with_reducible show PySem.Str.length (_ ++ _) ≤ sizeLine ∧ wpAny _ _ (joinParts _ _) _ _ _); (refine join_part (P := fun o => wpAny _ _ (joinParts o _) _ _ _) (by first | assumption | exact Nat.le_refl _) (by first | assumption | decide +kernel | (split <;> decide +kernel)) (by decide) ?_); intro o' ho'))
local macro_rules | `(tactic| walk_at "joinParts") => `(tactic| (refine join_done (by assumption) (by decide) ?_; intro t' k'))

set_option maxHeartbeats 4000000 in
theorem i2B_no0 {w : World} {A : Around} {s : Shared} {mg mb : Str → Option Value} {p : Program} {loose : List Str} {mean : ExcName → Option Value} {base : Heap} {outer : List Env}
    (hh : A.handled = none) (hdp : A.depth < recursionLimit) (hun : A.units + 20 < cLine) (XB : (hd.heap_39 w.params).In base) (TB : Top p loose mean mg mb base)
    (B : Below A base outer s.heap) (D : KtsDicts (frs outer) s.heap)
    {n W : Int} {sg : Bool} {t1 t2 : Tok} {args : Args} (hb : BindsToK (hd.heap_39 w.params) s 30 args [(Str.ofString "number", .int n t1), (Str.ofString "width", .int W t2), (Str.ofString "signed", .bool sg)]) (hW : W < 1) (b1 : -(2 ^ 1000) ≤ W) (b2 : W ≤ 2 ^ 1000) :
    RaisesVE (model PySem.Challenge.rw_dp5010_01.row.prog w) A base outer (.call (.ref 30) args) s := by
  refine' enterN (news := []) B D XB TB.nolimit Held.nil ?k6 ?k7 hdp ?k9 ?kB ?c5 ?h ?c2 ?c3 ?c4
  case k6 => k_is
  case k7 => k_is
  case k9 => exact hb _ _ (by k_is) rfl
  case kB => exact locs rfl
  case c5 => decide
  case c2 => exact rfl
  case c3 => exact rfl
  case c4 => exact rfl
  intro L h₁ hL F N B₁ D₁
  have X := XB.keeps B₁.stays
  have T := TB.keeps B₁.stays

  (change wpAny _ _ _ _ _ _); k_fold
  k_steps
  all_goals (
    rename RaisedSN _ _ _ _ _ _ _ => R'
    rename Heap.UpToSlots _ _ => U'
    exact Flies.of_sn R' U')
end Mine
end
section
open PySem PySem.W PySem.Calls PyProof.Rows
set_option Elab.async false
set_option maxRecDepth 100000
namespace Mine
section
variable {w : World} {A : Around} {E : Value → Shared → Prop} {s : Shared} {mg mb : Str → Option Value} {p : Program} {loose : List Str} {mean : ExcName → Option Value} {base g : Heap} {outer : List Env} {L : Addr} {m₀ : Str → Option Value} {env : Env} {news own : List (Addr × Obj)} {Q : Value → Shared → Prop}
theorem throw22 {s₀ : Shared} {h : Heap} {tk : Tok} (hh : A.handled = none) (hdp : A.depth + 1 < recursionLimit) (hun : A.units + 30 < cLine) (XB : (hd.heap_39 w.params).In base) (TB : Top p loose mean mg mb base) (B : Below A base outer g) (D : KtsDicts (frs outer) g) (F : Fr g L h m₀) (N : News g L h own)
    (hf : env.frame = some L) (hke : env.scope.kind = .function) {n W : Int} {t1 t2 : Tok} (hW : W < 1) (b1 : -1000 ≤ W) :
    wpAny (model PySem.Challenge.rw_dp5010_01.row.prog w) (A.deeper env) (call (.ref 22) [.int n t1, .int W t2]) Q (Thrown base g outer L env own s₀) { s₀ with heap := h, toks := tk } := by
  have B' := pushX B F hf hke
  have X : (hd.heap_39 w.params).In ({ s₀ with heap := h, toks := tk } : Shared).heap := XB.keeps B'.stays
  exact throw_call F N (i2b_no0 (A := A.deeper env) hh hdp (by rw [Around.deeper_units]; omega) XB TB B' (dicts_push D F hf) (i2b_binds2 X) hW (by omega) (by omega))
theorem throw30 {s₀ : Shared} {h : Heap} {tk : Tok} (hh : A.handled = none) (hdp : A.depth + 1 < recursionLimit) (hun : A.units + 30 < cLine) (XB : (hd.heap_39 w.params).In base) (TB : Top p loose mean mg mb base) (B : Below A base outer g) (D : KtsDicts (frs outer) g) (F : Fr g L h m₀) (N : News g L h own)
    (hf : env.frame = some L) (hke : env.scope.kind = .function) {n W : Int} {t1 t2 : Tok} (hW : W < 1) (b1 : -1000 ≤ W) :
    wpAny (model PySem.Challenge.rw_dp5010_01.row.prog w) (A.deeper env) (call (.ref 30) [.int n t1, .int W t2]) Q (Thrown base g outer L env own s₀) { s₀ with heap := h, toks := tk } := by
  have B' := pushX B F hf hke
  have X : (hd.heap_39 w.params).In ({ s₀ with heap := h, toks := tk } : Shared).heap := XB.keeps B'.stays
  exact throw_call F N (i2B_no0 (A := A.deeper env) hh hdp (by rw [Around.deeper_units]; omega) XB TB B' (dicts_push D F hf) (i2B_binds2 X) hW (by omega) (by omega))
theorem throw38 {s₀ : Shared} {h : Heap} {tk : Tok} (hh : A.handled = none) (hdp : A.depth + 1 < recursionLimit) (hun : A.units + 30 < cLine) (XB : (hd.heap_39 w.params).In base) (TB : Top p loose mean mg mb base) (B : Below A base outer g) (D : KtsDicts (frs outer) g) (F : Fr g L h m₀) (N : News g L h own)
    (hf : env.frame = some L) (hke : env.scope.kind = .function) {b : Array UInt8} {t1 : Tok} (hb : b = #[]) :
    wpAny (model PySem.Challenge.rw_dp5010_01.row.prog w) (A.deeper env) (call (.ref 38) [.bytes b t1]) Q (Thrown base g outer L env own s₀) { s₀ with heap := h, toks := tk } := by
  subst hb
  have B' := pushX B F hf hke
  have X : (hd.heap_39 w.params).In ({ s₀ with heap := h, toks := tk } : Shared).heap := XB.keeps B'.stays
  exact throw_call F N (b2i_no (A := A.deeper env) hh hdp (by rw [Around.deeper_units]; omega) XB TB B' (dicts_push D F hf) (b2i_binds1 X))
theorem throw46 {s₀ : Shared} {h : Heap} {tk : Tok} (hh : A.handled = none) (hdp : A.depth + 1 < recursionLimit) (hun : A.units + 30 < cLine) (XB : (hd.heap_39 w.params).In base) (TB : Top p loose mean mg mb base) (B : Below A base outer g) (D : KtsDicts (frs outer) g) (F : Fr g L h m₀) (N : News g L h own)
    (hf : env.frame = some L) (hke : env.scope.kind = .function) {b : Array UInt8} {t1 : Tok} (hb : b = #[]) :
    wpAny (model PySem.Challenge.rw_dp5010_01.row.prog w) (A.deeper env) (call (.ref 46) [.bytes b t1]) Q (Thrown base g outer L env own s₀) { s₀ with heap := h, toks := tk } := by
  subst hb
  have B' := pushX B F hf hke
  have X : (hd.heap_39 w.params).In ({ s₀ with heap := h, toks := tk } : Shared).heap := XB.keeps B'.stays
  exact throw_call F N (B2i_no (A := A.deeper env) hh hdp (by rw [Around.deeper_units]; omega) XB TB B' (dicts_push D F hf) (B2i_binds1 X))
end
end Mine
end
section
open PySem PySem.W PySem.Calls PyProof.Rows
set_option Elab.async false
set_option maxRecDepth 100000
namespace Mine
section
variable {M : Model} {A : Around} {E : Value → Shared → Prop} {s : Shared} {env : Env}
theorem J_isTrue_plain {e : Expr} {whole : Sem Value} {Q : Bool → Shared → Prop} (h : wpJ M A whole (fun v s₁ => wpJ M A (truthy v) Q E s₁) E s)
    (he : isTrue e env whole = (do let v ← whole; standAt e.pos; holding [v] (truthy v)) := by rfl) : wpJ M A (isTrue e env whole) Q E s := by
  rw [he]
  exact wpJ_bind (wpJ_mono h (fun v s₁ h₁ => wpJ_then (wpAny_standAt (wpJ_holding h₁))) fun _ _ x => x)
theorem J_Compare1 {l : Expr} {op : CmpOp} {r : Expr} {pos : Pos} {Q : Value → Shared → Prop} (hm : behindInMarks op r = false)
    (h : wpJ M A (eval l env) (fun a s₁ => wpAny M A (eval r env) (fun b s₂ => wpAny M A (compareOp op a b) Q E s₂) E s₁) E s) :
    wpJ M A (eval (.Compare l [op] [r] pos) env) Q E s := by
  rw [eval_Compare1, markedBehindIn_of_false hm]
  refine wpJ_bind (wpJ_mono h (fun a s₁ h₁ => wpJ_of ?_) fun _ _ x => x)
  intro Γ p hΓ
  simp only [Sem.wp_bind', Sem.wp_holding, Sem.wp_cmd_standAt, Sem.wp_operate]
  refine Sem.wp_mono M Γ _ (fun b p' s₂ h₂ => ?_) (fun _ _ _ x => x) _ _ (h₁ Γ p hΓ)
  exact h₂ Γ _ hΓ
theorem J_cons_mid {st : Stmt} {rest : List Stmt} {Q : Flow → Shared → Prop} (P : Shared → Prop) (h1 : wpAny M A (exec st env) (fun f s' => f = .next ∧ P s') E s) (h2 : ∀ s', P s' → wpJ M A (execs rest env) Q E s') :
    wpJ M A (execs (st :: rest) env) Q E s :=
  J_step (wpAny_mono h1 (fun f s' z => by obtain ⟨rfl, z⟩ := z; exact h2 s' z) fun _ _ e => e)
end
section
variable {w : World} {A : Around} {mg mb : Str → Option Value} {p : Program} {loose : List Str} {mean : ExcName → Option Value} {base g h : Heap} {outer : List Env} {L : Addr} {extra cds : List (Addr × Obj)} {pf : Addr → Array Value}
theorem apart_of (TF : TabFacts pf cds) (N : News g L h (extra ++ led pf cds)) (hx : ∀ q ∈ extra, ∀ vs, q.2.data ≠ .fields vs) : Apart extra pf cds := fun q hq hm => by
  obtain ⟨x, hx1, hx2⟩ := List.mem_map.mp hm
  have n1 := (N q (List.mem_append_left _ hq)).1
  have n2 := (N x (List.mem_append_right _ hx1)).1
  rw [hx2, n1] at n2
  obtain ⟨vs, hv⟩ := TF.fields x hx1
  exact hx q hq vs (by rw [Option.some.inj n2]; exact hv)
end
local macro_rules | `(tactic| k_room) => `(tactic| ((try simp only [depth_under_make, depth_under_kw, depth_in1, depth_deeper, depth_caller]); omega))
local macro_rules | `(tactic| k_all) => `(tactic| first | exact ne_of_allLt (by assumption) (by omega) | exact TabFacts.ne (by assumption) (by decide))
section
variable {prog : Program} {w : World} {A : Around} {E : Value → Shared → Prop} {s : Shared} {g : Heap} {L l : Addr} {m₀ : Str → Option Value} {news : List (Addr × Obj)} {Q : Value → Shared → Prop}
theorem old_list {r : Addr} {its : Array Value} {h : Heap} (F : Fr g L h m₀) (hl : g.IsList r its) : h.IsList r its := let ⟨o, e, q⟩ := hl; ⟨o, F.keep _ _ e, q⟩
theorem len_script {r : Addr} {vs : List Value} {ns : List Int} (F : Fr g L s.heap m₀) (hl : g.IsList r vs.toArray) (_hi : IntsAre vs ns) (hlen : vs.length ≤ 63) (h : ∀ t tk, Q (.int (vs.length : Int) t) { s with toks := tk }) : wpAny (model prog w) A (call (.builtin "len") [.ref r]) Q E s := by
  refine len_list (old_list F hl) (by rw [List.size_toArray]; omega) ?_
  rw [List.size_toArray]
  exact h _ _
theorem len_row {ys : List Value} {ep : Nat} {ms : List Int} (N : News g L s.heap news) (hm : (l, lstE ys ep) ∈ news) (hi : IntsAre ys ms) (hlen : ms.length ≤ 63) (h : ∀ t tk, Q (.int (ms.length : Int) t) { s with toks := tk }) : wpAny (model prog w) A (call (.builtin "len") [.ref l]) Q E s := by
  have e := hi.length
  refine len_list (items := ys.toArray) ⟨_, (N _ hm).1, rfl, _, rfl⟩ (by rw [List.size_toArray]; omega) ?_
  rw [List.size_toArray, e]
  exact h _ _
theorem ints_at {vs : List Value} {ns : List Int} (hi : IntsAre vs ns) {i : Nat} (h : i < ns.length) : ∃ t, vs[i]? = some (.int (ns.getD i 0) t) := by
  have e := hi.length
  have hv : vs[i]? = some vs[i] := List.getElem?_eq_getElem (by omega)
  obtain ⟨n, t, e1, e2⟩ := IntsAre.at hi i _ hv
  refine ⟨t, ?_⟩
  rw [hv, e1, List.getD_eq_getElem?_getD, e2]
  rfl
theorem row_item {value slice : Expr} {ys : List Value} {ep : Nat} {ms : List Int} {k : Int} {u : Tok} (N : News g L s.heap news) (hm : (l, lstE ys ep) ∈ news) (hi : IntsAre ys ms) (hlen : ms.length ≤ 63) (h0 : 0 ≤ k) (h1 : k < (ms.length : Int)) (h : ∀ t, Q (.int (ms.getD k.toNat 0) t) s)
    (hs : subscripted slice false (.ref l) (.int k u) = operate [.ref l, .int k u] (getItem (.ref l) (.int k u)) := by with_unfolding_all rfl) (hg : ∀ r, letTemporaryGo value (.ref l) r = pure () := by intro _; with_unfolding_all rfl) :
    wpAny (model prog w) A (subscriptTail value slice (.ref l) (.int k u)) Q E s := by
  obtain ⟨t, ht⟩ := ints_at hi (i := k.toNat) (by omega)
  exact item_listL (l := ys) ⟨_, (N _ hm).1, rfl, _, rfl⟩ h0 (by omega) ht (h t) hs hg
end
local macro_rules | `(tactic| walk_at "call builtin:len") => `(tactic| (k_here; (with_reducible show wpAny _ _ (call (Value.builtin "len") [Value.ref _]) _ _ _); (refine' len_script ?F ?l ?i ?z ?_); (case F => k_asm); (case l => with_reducible assumption); (case i => with_reducible assumption); (case z => with_reducible assumption); intro t' tk'))
local macro_rules | `(tactic| walk_at "call builtin:len") => `(tactic| (k_here; (with_reducible show wpAny _ _ (call (Value.builtin "len") [Value.ref _]) _ _ _); (refine' len_row ?N ?m ?i ?z ?_); (case N => k_asm); (case m => k_dflt k_mem); (case i => with_reducible assumption); (case z => with_reducible assumption); intro t' tk'))
local macro_rules | `(tactic| walk_at "subscriptTail") => `(tactic| (k_here; (with_reducible show wpAny _ _ (subscriptTail _ _ (Value.ref _) (Value.int _ _)) _ _ _); (refine' row_item ?N ?m ?i ?z ?p0 ?p1 ?_ ?hs ?hg); (case N => k_asm); (case m => k_dflt k_mem); (case i => with_reducible assumption); (case z => with_reducible assumption); (case p0 => first | with_reducible assumption | omega); (case p1 => first | with_reducible assumption | omega); (case hs => with_unfolding_all rfl); (case hg => (intro _; with_unfolding_all rfl)); intro t'))
theorem width_nat (y : Int) : 1 + y.fmod 70 = ((1 + (y.fmod 70).toNat : Nat) : Int) := by
  have := Int.fmod_nonneg_of_pos y (show (0 : Int) < 70 by decide)
  omega
theorem width_ge (y : Int) : 1 ≤ 1 + (y.fmod 70).toNat := by omega
theorem width_le (y : Int) : 1 + (y.fmod 70).toNat ≤ 333 := by
  have := Int.fmod_lt_of_pos y (show (0 : Int) < 70 by decide)
  omega
theorem fmod_nat (x : Int) (e : Nat) : x.fmod ((2 : Int) ^ e) = ((x.fmod ((2 : Int) ^ e)).toNat : Int) :=
  (Int.toNat_of_nonneg (Int.fmod_nonneg_of_pos _ (Int.pow_pos (by decide)))).symm
local macro_rules | `(tactic| walk_at "mine one") => `(tactic| ((refine' oneC ?hh ?hd ?hu ?XB ?TB ?CH1 ?CH2 ?CH3 ?CH4 ?CH5 ?CH6 ?CH7 ?B ?D ?F ?N ?S ?TF ?hx rfl rfl ?ev ?eW ?w1 ?w2 ?_); (case TF => assumption); (case B => assumption); (case F => k_asm); (case N => k_asm); (case S => (repeat (first | exact Sp.here | apply Sp.cons))); (case hx => assumption); (case XB => assumption); (case TB => assumption); (case CH1 => assumption); (case CH2 => assumption); (case CH3 => assumption); (case CH4 => assumption); (case CH5 => assumption); (case CH6 => assumption); (case CH7 => assumption); (case hh => rfl); (case hd => ((try dsimp only); omega)); (case hu => ((try dsimp only); omega)); (case D => assumption); (case ev => exact fmod_nat _ _); (case eW => first | exact (rfl : (333 : Int) = ((333 : Nat) : Int)) | exact width_nat _); (case w1 => first | exact width_ge _ | decide); (case w2 => first | exact width_le _ | decide); intro g' p' cds' h' tk' gs' a' ap' hbr'; obtain ⟨KT', F', N', B', D', TF', X', T'⟩ := a'; rw [led_eq] at N'; simp only [List.cons_append, List.nil_append] at N'))
local macro_rules | `(tactic| walk_at "pyIter ref") => `(tactic| (k_here; refine Stuck.go ?_))
local macro_rules | `(tactic| walk_at "eval Lambda") => `(tactic| (k_here; kn_here; (refine' kla_eval ?d0 ?_; (case d0 => exact rfl)); (refine' lam_any ?F ?N ?T ?C ?cd ?U ?TF ?hps ?hP ?sub ?cl ?_); (case TF => assumption); (case F => k_asm); (case N => k_asm); (case T => k_asm); (case cd => exact rfl); (case C => kn_code); (case U => k_updF); (case hps => exact rfl); (case hP =>  (unfold tabQ; (repeat (first | exact List.Mem.head _ | apply List.Mem.tail)))); (case sub => (intro x hx; rw [led_eq] at hx; (repeat (rcases List.mem_cons.mp hx with e0 | hx; · (subst e0; repeat (first | exact List.Mem.head _ | apply List.Mem.tail)))); (repeat (first | exact hx | apply List.Mem.tail)))); (case cl => exact rfl); intro f' c' oc' vs' t' ct' ps' h' tk' F' N' d1' d2' TF' l1 ne1; (try dsimp only at N'); (try k_lt l1)))
local macro_rules | `(tactic| walk_at "call ref") => `(tactic| (k_here; (with_reducible show wpAny _ _ (call (.ref 22) _) _ _ _); (refine' throw22 ?hh ?hd ?hu ?XB ?TB ?B ?D ?F ?N rfl rfl ?hW ?b1); (case B => assumption); (case F => k_asm); (case N => k_asm); (case XB => assumption); (case TB => assumption); (case hh => rfl); (case hd => ((try dsimp only); omega)); (case hu => ((try dsimp only); omega)); (case D => assumption); (case hW => omega); (case b1 => omega)))
local macro_rules | `(tactic| walk_at "call ref") => `(tactic| (k_here; (with_reducible show wpAny _ _ (call (.ref 30) _) _ _ _); (refine' throw30 ?hh ?hd ?hu ?XB ?TB ?B ?D ?F ?N rfl rfl ?hW ?b1); (case B => assumption); (case F => k_asm); (case N => k_asm); (case XB => assumption); (case TB => assumption); (case hh => rfl); (case hd => ((try dsimp only); omega)); (case hu => ((try dsimp only); omega)); (case D => assumption); (case hW => omega); (case b1 => omega)))
local macro_rules | `(tactic| walk_at "call ref") => `(tactic| (k_here; (with_reducible show wpAny _ _ (call (.ref 38) _) _ _ _); (refine' throw38 ?hh ?hd ?hu ?XB ?TB ?B ?D ?F ?N rfl rfl ?hb); (case B => assumption); (case F => k_asm); (case N => k_asm); (case XB => assumption); (case TB => assumption); (case hh => rfl); (case hd => ((try dsimp only); omega)); (case hu => ((try dsimp only); omega)); (case D => assumption); (case hb => rfl)))
local macro_rules | `(tactic| walk_at "call ref") => `(tactic| (k_here; (with_reducible show wpAny _ _ (call (.ref 46) _) _ _ _); (refine' throw46 ?hh ?hd ?hu ?XB ?TB ?B ?D ?F ?N rfl rfl ?hb); (case B => assumption); (case F => k_asm); (case N => k_asm); (case XB => assumption); (case TB => assumption); (case hh => rfl); (case hd => ((try dsimp only); omega)); (case hu => ((try dsimp only); omega)); (case D => assumption); (case hb => rfl)))
local macro_rules | `(tactic| walk_at "mine deed") => `(tactic| ((refine' deed_lam ?B ?N (Top.nolimit (by assumption)) ?ho ?hoc ?hd ?hv ?sub ?room ?bind ?co ?gen ?kd ?cell ?_); (case B => assumption); (case N => k_asm); (case ho => k_mem); (case hoc => k_mem); (case hd => assumption); (case hv => assumption); (case sub => (intro q hq; (refine ⟨hq, ?_⟩); (repeat (rcases List.mem_cons.mp hq with e0 | hq; · (subst e0; first | exact nd_func rfl | exact nd_seq rfl | exact nd_of rfl | exact nd_cell (by assumption) | exact nd_of (by assumption)))); first | exact nd_cds (by assumption) q hq | exact absurd hq List.not_mem_nil)); (case room => ((try dsimp only [Around.deeper]); omega)); (case cell => decide); (case bind => exact rfl); (case co => exact rfl); (case gen => exact rfl); (case kd => exact rfl); intro dp2 gd2 un2 outer2 L2 h2 tk2 g2 edp eun F2 N2 B2 D2; (try dsimp only [Around.deeper] at edp eun); (have X2 : (hd.heap_39 _).In g2 := Frag.In.keeps (by assumption) B2.stays); (have T2 := Top.keeps (by assumption) B2.stays); (change wpAny _ _ _ _ _ _); k_fold; k_steps))
local macro_rules | `(tactic| walk_at "call ref") => `(tactic| (k_here; (refine' refusedV ?hh ?hd ?hu ?XB ?TB ?CH ?B ?D ?F ?N rfl rfl ?hm ?deed ?_); (case B => assumption); (case F => k_asm); (case N => k_asm); (case XB => assumption); (case TB => assumption); (case CH => assumption); (case hh => rfl); (case hd => ((try dsimp only); omega)); (case hu => ((try dsimp only); omega)); (case D => assumption); (case hm => k_dflt k_mem); (case deed => k_dflt (walk_at "mine deed")); intro g' h' tk' KT' F' N' B' D' X' T' C'))
section
variable {w : World} {A : Around} {E : Value → Shared → Prop} {s : Shared} {mg mb : Str → Option Value} {p : Program} {loose : List Str} {mean : ExcName → Option Value} {base g : Heap} {outer : List Env} {L : Addr} {m₀ : Str → Option Value} {env : Env} {extra cds : List (Addr × Obj)} {pf : Addr → Array Value} {Q : Value → Shared → Prop}
theorem b2b0 (hh : A.handled = none) (hdp : A.depth + 13 < recursionLimit) (hun : A.units + 90 < cLine) (XB : (hd.heap_39 w.params).In base) (TB : Top p loose mean mg mb base) (CH : CodeHd base 52 48) (B : Below A base outer g) (D : KtsDicts (frs outer) g) (F : Fr g L s.heap m₀) {all : List (Addr × Obj)} (N : News g L s.heap all) (S : Sp pf cds all extra) (TF : TabFacts pf cds)
    (hx : ∀ q ∈ extra, ∀ vs, q.2.data ≠ .fields vs) (hf : env.frame = some L) (hke : env.scope.kind = .function) {t1 : Tok}
    (h : ∀ g' p' cds' h' tk gs t, AfterEvo w p loose mean mg mb A base g outer L m₀ extra h' g' p' cds' → (AllBare s.gens → AllBare gs) → Q (.bytes #[] t) { s with heap := h', toks := tk, gens := gs }) :
    wpJ (model PySem.Challenge.rw_dp5010_01.row.prog w) (A.deeper env) (call (.ref 53) [.bytes #[] t1]) Q E s :=
  b2bC hh hdp hun XB TB CH B D F N S TF hx hf hke (by decide) fun g' p' cds' h' tk gs t a b => h g' p' cds' h' tk gs t a b
theorem b2By0 (hh : A.handled = none) (hdp : A.depth + 13 < recursionLimit) (hun : A.units + 90 < cLine) (XB : (hd.heap_39 w.params).In base) (TB : Top p loose mean mg mb base) (CH : CodeHd base 59 55) (B : Below A base outer g) (D : KtsDicts (frs outer) g) (F : Fr g L s.heap m₀) {all : List (Addr × Obj)} (N : News g L s.heap all) (S : Sp pf cds all extra) (TF : TabFacts pf cds)
    (hx : ∀ q ∈ extra, ∀ vs, q.2.data ≠ .fields vs) (hf : env.frame = some L) (hke : env.scope.kind = .function) {t1 : Tok}
    (h : ∀ g' p' cds' h' tk gs t, AfterEvo w p loose mean mg mb A base g outer L m₀ extra h' g' p' cds' → (AllBare s.gens → AllBare gs) → Q (.bytes #[] t) { s with heap := h', toks := tk, gens := gs }) :
    wpJ (model PySem.Challenge.rw_dp5010_01.row.prog w) (A.deeper env) (call (.ref 60) [.bytes #[] t1]) Q E s :=
  b2ByC (V := 0) (k := 0) hh hdp hun XB TB CH B D F N S TF hx hf hke (by decide) (by decide) fun g' p' cds' h' tk gs t a b => h g' p' cds' h' tk gs t a b
end
local macro_rules | `(tactic| walk_at "mine b2b") => `(tactic| ((refine' b2b0 ?hh ?hd ?hu ?XB ?TB ?CH ?B ?D ?F ?N ?S ?TF ?hx rfl rfl ?_); (case TF => assumption); (case B => assumption); (case F => k_asm); (case N => k_asm); (case S => (repeat (first | exact Sp.here | apply Sp.cons))); (case hx => (intro q hq; (repeat (rcases List.mem_cons.mp hq with e0 | hq; · (subst e0; first | exact nf_seq rfl | exact nf_cell (by assumption) | exact nf_func rfl))); exact absurd hq List.not_mem_nil)); (case XB => assumption); (case TB => assumption); (case CH => assumption); (case hh => rfl); (case hd => ((try dsimp only); omega)); (case hu => ((try dsimp only); omega)); (case D => assumption); intro g' p' cds' h' tk' gs' t' a' hbr'; obtain ⟨KT', F', N', B', D', TF', X', T'⟩ := a'; rw [led_eq] at N'; simp only [List.cons_append, List.nil_append] at N'))
local macro_rules | `(tactic| walk_at "mine b2By") => `(tactic| ((refine' b2By0 ?hh ?hd ?hu ?XB ?TB ?CH ?B ?D ?F ?N ?S ?TF ?hx rfl rfl ?_); (case TF => assumption); (case B => assumption); (case F => k_asm); (case N => k_asm); (case S => (repeat (first | exact Sp.here | apply Sp.cons))); (case hx => (intro q hq; (repeat (rcases List.mem_cons.mp hq with e0 | hq; · (subst e0; first | exact nf_seq rfl | exact nf_cell (by assumption) | exact nf_func rfl))); exact absurd hq List.not_mem_nil)); (case XB => assumption); (case TB => assumption); (case CH => assumption); (case hh => rfl); (case hd => ((try dsimp only); omega)); (case hu => ((try dsimp only); omega)); (case D => assumption); intro g' p' cds' h' tk' gs' t' a' hbr'; obtain ⟨KT', F', N', B', D', TF', X', T'⟩ := a'; rw [led_eq] at N'; simp only [List.cons_append, List.nil_append] at N'))
theorem news_sub {g h : Heap} {L : Addr} {all cds : List (Addr × Obj)} {pf : Addr → Array Value} (N : News g L h all) (_ : TabFacts pf cds) (extra : List (Addr × Obj)) (sub : ∀ x ∈ extra ++ led pf cds, x ∈ all) : News g L h (extra ++ led pf cds) := fun q hq => N q (sub q hq)
theorem bare_on {a b : Array GenState} (h : AllBare a → AllBare b) (x : AllBare a) : AllBare b := h x
local macro_rules | `(tactic| walk_at "mine kts") => `(tactic| first | assumption | exact KtsTurn.trans (by assumption) (by walk_at "mine kts"))
local macro_rules | `(tactic| walk_at "mine bare") => `(tactic| first | assumption | exact bare_on (by assumption) (by walk_at "mine bare"))
/-- the law's list made -/
structure RowMade (g : Heap) (L : Nat) (pf : Addr → Array Value) (cds : List (Addr × Obj)) (s₀ s' : Shared) : Prop where
  out : ∃ (h' : Heap) (tk : Nat) (l : Nat) (ys : List Value) (ep : Nat) (ms : List Int) (oc : Obj) (m : Str → Option Value), s' = { s₀ with heap := h', toks := tk } ∧ Fr g L h' m ∧ News g L h' ((l, lstE ys ep) :: (L + 1, oc) :: led pf cds) ∧ oc.data = .cell (some (.ref l)) ∧ L + 1 < l ∧ IntsAre ys ms ∧ 1 ≤ ms.length ∧ ms.length ≤ 63
set_option maxHeartbeats 1500000 in
theorem lawF {w : World} {A : Around} {s : Shared} {mg mb : Str → Option Value} {p : Program} {loose : List Str} {mean : ExcName → Option Value} {R : Result → Shared → Prop} {base : Heap} {outer : List Env} {pf : Addr → Array Value} {cds : List (Addr × Obj)}
    (hh : A.handled = none) (hdp : A.depth + 24 < recursionLimit) (hun : A.units + 190 < cLine) (XB : (hd.heap_39 w.params).In base) (TB : Top p loose mean mg mb base)
    (CH1 : CodeHd base 52 48) (CH2 : CodeHd base 59 55) (CH3 : CodeHd base 73 69) (CH4 : CodeHd base 80 76) (CH5 : CodeHd base 106 102) (CH6 : CodeHd base 113 109) (CH7 : CodeHd base 118 116) (CH8 : CodeHd base 132 128)
    (B : Below A base outer s.heap) (D : KtsDicts (frs outer) s.heap) (T0 : Led base s.heap pf cds)
    {r : Addr} {vs : List Value} {ns : List Int} (hl : base.IsList r vs.toArray) (hi : IntsAre vs ns) (hlen : vs.length ≤ 63)
    {args : Args} (hb : BindsToK (hd.heap_39 w.params) s 133 args [(Str.ofString "script", .ref r)])
    (hR : ∀ h' tk gs, Evo (frs outer) base pf cds s.heap h' → (AllBare s.gens → AllBare gs) → R (.ok (.ret (.bool true))) { s with heap := h', toks := tk, gens := gs }) :
    codeJ (model PySem.Challenge.rw_dp5010_01.row.prog w) A (.call (.ref 133) args) R s := by
  obtain ⟨ah, dp, fr, gd, un⟩ := A
  dsimp only at hh hdp hun
  subst hh
  have hst : fr = some outer := B.stack
  subst hst
  have H := T0.toHeld B.frames
  refine' enterCJ (news := led pf cds) B D XB TB.nolimit H ?k6 ?k7 (by dsimp only; omega) ?k9 ?kB ?kD ?h ?c2 ?c3 ?c4
  case k6 => k_is
  case k7 => k_is
  case k9 => exact hb _ _ (by k_is) rfl
  case kB => exact kindsX rfl
  case kD => decide +kernel
  case c2 => exact rfl
  case c3 => exact rfl
  case c4 => exact rfl
  intro L h₁ tk₀ cells hL F N Y B₁ D₁
  k_cells Y
  generalize hg : less s.heap (led pf cds) = g at *
  have X := XB.keeps B₁.stays
  have T := TB.keeps B₁.stays
  have TF := T0.facts
  have hl1 : g.IsList r vs.toArray := let ⟨o, e, q⟩ := hl; ⟨o, B₁.stays _ _ e, q⟩
  have l0 : ∀ q ∈ led pf cds, q.1 < L := fun q hq => hL ▸ Heap.lt_size (T0.held q hq).1
  rw [led_eq] at l0
  replace l0 := allLt_of l0
  simp only [AllLt] at l0
  have l0c : AllLt L cds := l0.2.2.2.2.2.2.2.2
  have C₁ : CodeHd g 132 128 := CH8.keeps B₁.stays
  rw [led_eq] at N
  simp only [List.cons_append, List.nil_append] at N
  clear hb H
  refine J_cons_mid (RowMade g L pf cds s) ?a ?b
  case a =>
    (change wpAny _ _ _ _ _ _); k_fold
    k_steps
    · rename (_ < _ ∧ _) => l1
      rename Fr _ _ _ _ => F5
      rename News _ _ _ _ => N5
      have e := hi.length
      exact ⟨_, _, _, vs, _, ns, _, _, rfl, F5, fun q hq => N5 q hq, by assumption, l1.1, hi, by omega, by omega⟩
    · rename (_ < _ ∧ _) => l1
      rename Fr _ _ _ _ => F5
      rename News _ _ _ _ => N5
      exact ⟨_, _, _, [.int 1 _], _, [1], _, _, rfl, F5, fun q hq => N5 q hq, by assumption, l1.1, .cons _ _ .nil, by decide, by decide⟩
  case b =>
    clear F N
    rintro s' ⟨h₂, tk, l, ys, ep, ms, oc, m₁, rfl, F, N, hoc, hLl, hms, ml1, ml2⟩
    have ap : Apart [(l, lstE ys ep), (L + 1, oc)] pf cds := apart_of TF N (by
      intro q hq
      rcases List.mem_cons.mp hq with rfl | hq
      · exact nf_seq rfl
      · rcases List.mem_cons.mp hq with rfl | hq
        · exact nf_cell hoc
        · exact absurd hq List.not_mem_nil)
    rw [led_eq] at N
    refine J_cons (J_If (J_isTrue_not (J_isTrue_plain (J_callK (K := hd.heap_39 w.params) (f := .ref 126) (by k_is) ?_))))
    (change wpAny _ _ _ _ _ _); k_fold
    k_steps
    walk_at "mine one"
    refine wpJ_of ?_
    (change wpAny _ _ _ _ _ _); k_fold
    k_steps
    refine J_execs_nil ?_
    show wpJ _ _ _ _ _ _
    refine J_cons (J_For ?loop (fun _ => rfl))
    (change wpAny _ _ _ _ _ _); k_fold
    k_steps
    refine Stuck.mk ?_
    rename Fr _ _ _ _ => F5
    rename News _ _ _ _ => N5
    rename Apart _ _ _ => ap5
    rename Below _ _ _ _ => B5
    rename KtsDicts _ _ => D5
    rename TabFacts _ _ => TF5
    rename Frag.In _ _ => X5
    rename Top _ _ _ _ _ _ => T5
    rename KtsTurn _ _ _ => K5
    rename AllBare _ → _ => hb5
    refine loopJ_range (w := w) (p := p) (loose := loose) (mean := mean) (mg := mg) (mb := mb) (A' := ⟨none, dp, some outer, gd, un⟩) (base := base) (outer := outer) (L := L) (m₀ := m₁) (n := 5) (extra := [(l, lstE ys ep), (L + 1, oc)]) rfl rfl (by assumption) rfl rfl rfl rfl
      ⟨_, _, _, _, _, _, rfl, ⟨KtsTurn.refl, F5, N5, B5, D5, TF5, X5, T5⟩, ap5, fun z => z⟩ ?turn ?done
    case turn =>
      clear F5 N5 ap5 B5 D5 TF5 X5 T5
      rintro i ti I oI m₂ s' hi5 ⟨g6, p6, cds6, h6, tk6, gs6, rfl, ⟨K6, F6, N6, B6, D6, TF6, X6, T6⟩, ap6, hb6⟩
      rw [led_eq] at N6
      simp only [List.cons_append, List.nil_append] at N6
      have hp0 : 0 ≤ (i : Int).fmod (ms.length : Int) := Int.fmod_nonneg_of_pos _ (by omega)
      have hp1 : (i : Int).fmod (ms.length : Int) < (ms.length : Int) := Int.fmod_lt_of_pos _ (by omega)
      refine J_step ?_
      (change wpAny _ _ _ _ _ _); k_fold
      k_steps
      refine J_cons (J_If (J_isTrue_not (J_isTrue_plain (J_callK (K := hd.heap_39 w.params) (f := .ref 126) (by k_is) ?_))))
      (change wpAny _ _ _ _ _ _); k_fold
      k_steps
      walk_at "mine one"
      refine wpJ_of ?_
      (change wpAny _ _ _ _ _ _); k_fold
      k_steps
      refine J_execs_nil ?_
      show wpJ _ _ _ _ _ _
      refine J_execs_nil ?_
      rename Fr _ _ _ _ => F7
      rename News _ _ _ _ => N7
      rename Apart _ _ _ => ap7
      rename Below _ _ _ _ => B7
      rename KtsDicts _ _ => D7
      rename TabFacts _ _ => TF7
      rename Frag.In _ _ => X7
      rename Top _ _ _ _ _ _ => T7
      rename KtsTurn _ _ _ => K7
      rename AllBare _ → _ => hb7
      exact ⟨rfl, _, _, _, _, _, _, _, rfl, ⟨K6.trans K7, F7, N7, B7, D7, TF7, X7, T7⟩, ap7, fun z => hb7 (hb6 z)⟩
    case done =>
      clear F5 N5 ap5 B5 D5 TF5 X5 T5
      rintro m₂ s' ⟨g6, p6, cds6, h6, tk6, gs6, rfl, ⟨K6, F6, N6, B6, D6, TF6, X6, T6⟩, ap6, hb6⟩
      rw [led_eq] at N6
      simp only [List.cons_append, List.nil_append] at N6
      show wpJ _ _ _ _ _ _
      have C6 : CodeHd g6 132 128 := CH8.keeps B6.stays
      refine J_step ?_
      (change wpAny _ _ _ _ _ _); k_fold
      k_steps
      refine J_step ?_
      (change wpAny _ _ _ _ _ _); k_fold
      k_steps
      refine J_cons (J_Return (J_BoolOp_and (wpJ_of ?_)))
      (change wpAny _ _ _ _ _ _); k_fold
      k_steps
      show wpJ _ _ _ _ _ _
      refine J_BoolOp_and (wpJ_of ?_)
      (change wpAny _ _ _ _ _ _); k_fold
      k_steps
      show wpJ _ _ _ _ _ _
      rename News _ _ _ _ => N9
      rename TabFacts _ _ => TF9
      have N10 := news_sub N9 TF9 [(l, lstE ys ep), (L + 1, oc)] (by
        intro x hx
        rw [led_eq] at hx
        simp only [List.cons_append, List.nil_append] at hx
        repeat (rcases List.mem_cons.mp hx with e0 | hx; · (subst e0; repeat (first | exact List.Mem.head _ | apply List.Mem.tail)))
        repeat (first | exact hx | apply List.Mem.tail))
      rw [led_eq] at N10
      simp only [List.cons_append, List.nil_append] at N10
      clear N9
      refine J_BoolOp_and (J_Compare1 rfl (J_callK (K := hd.heap_39 w.params) (f := .ref 53) (by k_is) ?_))
      (change wpAny _ _ _ _ _ _); k_fold
      k_steps
      walk_at "mine b2b"
      (change wpAny _ _ _ _ _ _); k_fold
      k_steps
      show wpJ _ _ _ _ _ _
      refine J_BoolOp_one (J_Compare1 rfl (J_callK (K := hd.heap_39 w.params) (f := .ref 60) (by k_is) ?_))
      (change wpAny _ _ _ _ _ _); k_fold
      k_steps
      walk_at "mine b2By"
      (change wpAny _ _ _ _ _ _); k_fold
      k_steps
      rename Fr _ _ _ _ => F9
      rename News _ _ _ _ => N9
      rename Below _ _ _ _ => B9
      rename TabFacts _ _ => TF9
      show R (.ok (.ret (.bool true))) _
      refine hR _ _ _ (evo_of T0 B.frames (K := by rw [hg]; walk_at "mine kts") F9 N9 B9 TF9 ?_) (fun z => by walk_at "mine bare")
      intro x hx
      rw [led_eq] at hx
      repeat (rcases List.mem_cons.mp hx with rfl | hx; · (repeat (first | exact List.Mem.head _ | apply List.Mem.tail)))
      repeat (first | exact hx | apply List.Mem.tail)
end Mine
end
section
open PySem PySem.W PySem.Calls PySem.Spec PyProof.Rows
set_option Elab.async false
set_option maxRecDepth 100000
namespace Mine
abbrev tabs8 : List (Addr × Addr) := [(106, 102), (113, 109), (118, 116), (132, 128), (52, 48), (59, 55), (73, 69), (80, 76)]
theorem law_binds {w : World} {s : Shared} {a : Value} : BindsToK (hd.heap_39 w.params) s 133 ⟨[a], []⟩ [(Str.ofString "script", a)] := by
  refine' bindsK_of ?ho ?hb
  case ho => k_is
  case hb => exact BindsTo.of_eq rfl
theorem rec_named (x : Str) (h : ((recsOf hd.view_39).find? fun e => e.name == x).isSome = true) : ∃ d, (recsOf hd.view_39).find? (fun e => e.name == x) = some d := Option.isSome_iff_exists.mp h
theorem tabs_at {w : World} {h : Heap} {mg mb : Str → Option Value} {loose : List Str} {mean : ExcName → Option Value} (T : Top hd.view_39 loose mean mg mb h) (X : (hd.heap_39 w.params).In h) (hT : ∀ P ∈ [116, 109, 102, 128], h.get? P = some (tabObj #[])) : TabsAt tabs8 h := by
  obtain ⟨_, r1⟩ := rec_named (Str.ofString "bytes2bits") (by decide +kernel)
  obtain ⟨_, r2⟩ := rec_named (Str.ofString "bits2bytes") (by decide +kernel)
  obtain ⟨_, r3⟩ := rec_named (Str.ofString "swapbytesinbits") (by decide +kernel)
  obtain ⟨_, r4⟩ := rec_named (Str.ofString "swapbitsinbytes") (by decide +kernel)
  have t1 := tab_of (c := 52) (P := 48) T X r1 (by kernel_rfl)
  have t2 := tab_of (c := 59) (P := 55) T X r2 (by kernel_rfl)
  have t3 := tab_of (c := 73) (P := 69) T X r3 (by kernel_rfl)
  have t4 := tab_of (c := 80) (P := 76) T X r4 (by kernel_rfl)
  refine List.forall_mem_cons.mpr ⟨⟨codeHd_of_K X (by kernel_rfl), hT _ (by decide)⟩, List.forall_mem_cons.mpr ⟨⟨codeHd_of_K X (by kernel_rfl), hT _ (by decide)⟩, List.forall_mem_cons.mpr ⟨⟨codeHd_of_K X (by kernel_rfl), hT _ (by decide)⟩, List.forall_mem_cons.mpr ⟨⟨codeHd_of_K X (by kernel_rfl), hT _ (by decide)⟩, ?_⟩⟩⟩⟩
  exact List.forall_mem_cons.mpr ⟨t1, List.forall_mem_cons.mpr ⟨t2, List.forall_mem_cons.mpr ⟨t3, List.forall_mem_cons.mpr ⟨t4, fun _ h => nomatch h⟩⟩⟩⟩
theorem led_start {h : Heap} (hT : TabsAt tabs8 h) : Led (ghostOf h tabs8) h (fun _ => #[]) [] := by
  refine ⟨⟨fun q _ => trivial, fun q _ pos v e => (nomatch e), fun x hx => absurd hx List.not_mem_nil⟩, fun x hx => ?_⟩
  rw [led, List.append_nil] at hx
  obtain ⟨a, ha, rfl⟩ := List.mem_map.mp hx
  obtain ⟨q, hq, e⟩ := List.mem_map.mp (show a ∈ tabs8.map (·.2) from ha)
  refine ⟨?_, hideAll_none _ ha⟩
  show h.get? a = some (tabObj #[])
  rw [← e]
  exact (hT q hq).2
theorem evo_old {base h h' : Heap} (hT : TabsAt tabs8 h) (V : Evo (frs []) base (fun _ => #[]) [] h h') : OldK h h' := by
  obtain ⟨p', cds', T', _⟩ := V.tabs
  have hP : ∀ b ∈ tabs8.map (·.2), h'.get? b = some (tabObj (p' b)) := fun b hb => (T'.held (b, tabObj (p' b)) (List.mem_append_left _ (List.mem_map.mpr ⟨b, hb, rfl⟩))).1
  have kp : ∀ b o, b ∉ tabs8.map (·.2) → h.get? b = some o → h'.get? b = some o := fun b o hb e => V.keep b o e List.not_mem_nil hb
  refine ⟨fun b o e => ?_, fun b o e => ?_⟩
  · by_cases hb : b ∈ tabs8.map (·.2)
    · obtain ⟨q, hq, rfl⟩ := List.mem_map.mp hb
      have e2 := (hT q hq).2
      rw [e] at e2
      obtain rfl := Option.some.inj e2
      exact .inr (.inl ⟨((hT q hq).1.tab (hT q hq).2).isCodeTable, rfl, #[], p' q.2, rfl, by rw [Array.empty_append]; exact hP _ hb⟩)
    · exact .inl (kp b o hb e)
  · by_cases hb : b ∈ tabs8.map (·.2)
    · exact ⟨_, hP b hb⟩
    · exact ⟨o, kp b o hb e⟩
set_option maxHeartbeats 2000000 in
theorem fin : PySem.Challenge.rw_dp5010_01.Holds := hd (by
  k_fill
  intro w s₀ s₁ mg mb G Y fa o pm cd doc dV kV ho hdo hcd hD hmg hg args vals as hpre hlay hrd hwl hlo
  have KX := km_in_of Y
  have hT8 := km_tabs_of Y
  have X := (Ground.X G).1
  have V := (Ground.X G).2
  refine Ground.open G ?_
  intro T B D TE TW
  wrow_args hpre hlay hrd hwl hlo
  rename IntsAre _ _ => hI
  rename Heap.IsList _ _ _ => hLs
  have hlen := hI.length
  have hT := tabs_at T KX hT8
  have hf : mg (Str.ofString "law") = some (.ref 133) := mg_of KX T.g (by kernel_rfl)
  have hfa : fa = 133 := by
    have e : mg (Str.ofString "law") = some (.ref fa) := hmg
    rw [hf] at e
    cases e
    rfl
  subst hfa
  have C := ghost_code hT
  have XB := ghost_K hT KX (by kernel_rfl)
  refine wpJ_call (lawF (A := callerA) (base := ghostOf s₁.heap tabs8) (outer := []) (pf := fun _ => #[]) (cds := []) rfl (by decide) ?hun XB (ghost_top hT T) C.2.2.2.2.1 C.2.2.2.2.2.1 C.2.2.2.2.2.2.1 C.2.2.2.2.2.2.2.1 C.1 C.2.1 C.2.2.1 C.2.2.2.1
    ⟨rfl, fun b o e => of_hideAll _ e, trivial⟩ (fun b hb => absurd hb List.not_mem_nil) (led_start hT) (ghost_list hT hLs) hI ?hlen law_binds (fun h' tk gs V hb => ?_))
  case hun => simp only [cLine]; decide
  case hlen => omega
  refine ⟨.inl ⟨.bool true, .bool true, [], rfl, fun _ => rfl, .bool true, ?post, fun _ => ⟨.nil, fun _ ha => nomatch ha⟩⟩, evo_old hT V, rfl, hb (.of_eq hg)⟩
  case post => exact postW_of (by wrow_shape) (by wtm_val) (by str_meet; first | done | w_fin))
end Mine
end
theorem PySem.Challenge.cw_dp5010_01_holds : PySem.Challenge.rw_dp5010_01.Holds :=
  Mine.fin
