import PyProof.Rows.All
import Wide.All
import OpenK.AllK
import Wide.FinOn
import Lean
import PySem.Challenge.RW_zn0004_01

set_option Elab.async false
set_option compiler.extract_closed false
set_option linter.all false

section
open PySem PySem.W PyProof.Rows
open Sem (wp)
set_option maxRecDepth 1000000
namespace Mine
theorem ba_mro : mroOf (.type "bytearray") = pure [.type "bytearray", .type "object"] := by rw [mroOf_type]; kernel_rfl
theorem ba_new : typeLookup (.type "bytearray") "__new__" = pure (some (.builtin "bytearray.__new__")) := by rw [typeLookup_type, builtinLookup_eq_fast]; kernel_rfl
theorem ba_init : Slot "bytearray" "__init__" "bytearray.__init__" :=
  .of (owner := "bytearray") (n := "__init__") (by rw [typeLookup_type, builtinLookup_eq_fast]; kernel_rfl) (by decide +kernel) (by decide +kernel) (by decide +kernel)
    (by first | exact .inl (by decide +kernel) | exact .inr (by decide +kernel)) (by rw [isSubtype_type]; kernel_rfl)
theorem ba_sub : isSubtype (.type "bytearray") (.type "bytearray") = pure true := by rw [isSubtype_type]; kernel_rfl
theorem ba_called : TypeCalled "bytearray" "bytearray.__new__" "bytearray.__init__" :=
  ⟨by decide +kernel, by decide +kernel, ⟨_, _, ba_mro⟩, madeBy_type ba_mro ba_new (by decide +kernel), by decide +kernel, ba_sub, ba_init⟩
theorem ba_typeCall (a : Value) : checkTypeCall "bytearray" ⟨[a], []⟩ = pure () := by kernel_rfl
theorem ba_newCall (a : Value) : checkBuiltinCall "bytearray.__new__" ⟨[.type "bytearray", a], []⟩ = pure () := by kernel_rfl
theorem ba_entryNew : entryFor table "bytearray.__new__" = some Builtin.«list.__new__» :=
  entryFor_alias (id' := "list.__new__") (by kernel_rfl) (by first | rfl | decide +kernel | (unfold String.splitOn; simp +decide [String.splitOnAux])) (by decide +kernel) (by kernel_rfl)
theorem ba_entryInit : entryFor table "bytearray.__init__" = some Builtin.«bytearray.__init__» := by first | exact entryFor_of_fast (by kernel_rfl) | exact entryFor_of_tree (by kernel_rfl)
theorem ba_entrySet : entryFor table "bytearray.__setitem__" = some Builtin.«bytearray.__setitem__» := by first | exact entryFor_of_fast (by kernel_rfl) | exact entryFor_of_tree (by kernel_rfl)
theorem ba_plainNew : plainId "bytearray.__new__" = true := by decide +kernel
theorem ba_owner : ("bytearray.__new__".splitOn ".__new__").headD "" = "bytearray" := by simp +decide [String.splitOn, String.splitOnAux]
theorem ba_set : Slot "bytearray" "__setitem__" "bytearray.__setitem__" :=
  .of (owner := "bytearray") (n := "__setitem__") (by rw [typeLookup_type, builtinLookup_eq_fast]; kernel_rfl) (by decide +kernel) (by decide +kernel) (by decide +kernel)
    (by first | exact .inl (by decide +kernel) | exact .inr (by decide +kernel)) (by rw [isSubtype_type]; kernel_rfl)
theorem ba_noBytes : typeLookup (.type "bytearray") "__bytes__" = pure none := by rw [typeLookup_type, builtinLookup_eq_fast]; kernel_rfl
theorem ba_noIndex : typeLookup (.type "bytearray") "__index__" = pure none := by rw [typeLookup_type, builtinLookup_eq_fast]; kernel_rfl
theorem ba_buffer : typeLookup (.type "bytearray") "__buffer__" = pure (some (.builtin "bytearray.__buffer__")) := by rw [typeLookup_type, builtinLookup_eq_fast]; kernel_rfl
theorem ba_release : typeLookup (.type "bytearray") "__release_buffer__" = pure (some (.builtin "bytearray.__release_buffer__")) := by rw [typeLookup_type, builtinLookup_eq_fast]; kernel_rfl
theorem ba_bind (v : Value) : Builtin.Bytes.bindOptional "bytearray.__init__" "bytearray" ["source", "encoding", "errors"] [v] [] = pure [some v, none, none] := by kernel_rfl
theorem ba_argsInit (o a : Value) : argsOk "bytearray.__init__" ⟨[o, a], []⟩ := by unfold argsOk; kernel_rfl
theorem ba_argsSet (o a b : Value) : argsOk "bytearray.__setitem__" ⟨[o, a, b], []⟩ := by unfold argsOk; kernel_rfl
abbrev baObj (b : Array UInt8) : Obj := { cls := .type "bytearray", data := .bytearray b }
section
variable {prog : Program} {w : World} {A : Around} {E : Value → Shared → Prop} {s : Shared}
theorem ba_code_new (a : Value) {Q₁ : Value → Shared → Prop}
    (h : Q₁ (.ref s.heap.objs.size) { s with heap := s.heap.push (baObj #[]) }) :
    codeAny (model prog w) A (.call (.builtin "bytearray.__new__") ⟨[.type "bytearray", a], []⟩) (wants Q₁ E) s := by
  refine codeAny_of_tree ?_
  show wpAny _ A.in1 (do checkBuiltinCall "bytearray.__new__" ⟨[.type "bytearray", a], []⟩; again (.builtin "bytearray.__new__" ⟨[.type "bytearray", a], []⟩)) _ _ s
  refine wpAny_bind (wpAny_of_eq (ba_newCall a) (wpAny_pure ⟨plainId_quiet ba_plainNew _, codeAny_builtin_stack ba_entryNew rfl fun p st => ?_⟩))
  rw [Around.under_plainId ba_plainNew _]
  have hsub := ba_sub
  have hown := ba_owner
  obtain ⟨hp, g, d, tk, os⟩ := s
  simp only [hown]
  wp_walk
  exact h
end
end Mine
end

section
open PySem PySem.W PyProof.Rows
open Sem (wp)
set_option maxRecDepth 1000000
namespace Mine

/-- the codes that keep a bytearray's size -/
noncomputable def keepers : List String := ["bytearray.__contains__", "bytearray.__mod__", "bytearray.__rmod__", "_struct.pack_into.held", "bytearray.find.held"] ++ Builtin.Bytes.decodersThatHold
noncomputable def keeps : Code → Bool
  | .builtin id _ => keepers.contains id
  | _ => false
/-- no code of the stack keeps one -/
noncomputable def Clean (Γ : Ctx) : Prop := keeps Γ.code = false ∧ ∀ x ∈ Γ.below, keeps x.1 = false
theorem Clean.enter {Γ : Ctx} (h : Clean Γ) {c : Code} {hd : Option Value} {p : Pos} (hc : keeps c = false) : Clean (Γ.enter c hd p) :=
  ⟨hc, fun x hx => by
    rcases List.mem_cons.mp hx with rfl | hx
    · exact h.1
    · exact h.2 x hx⟩
theorem Clean.goto {Γ : Ctx} (h : Clean Γ) {c : Code} (hc : keeps c = false) : Clean (Γ.goto c) := ⟨hc, h.2⟩

noncomputable def wpC {α : Type} (M : Model) (A : Around) (t : Sem α) (Q : α → Shared → Prop) (E : Value → Shared → Prop) (s : Shared) : Prop :=
  ∀ Γ p, Γ.In A → Clean Γ → wp M Γ t (fun a _ s' => Q a s') (fun e _ s' => E e s') p s
noncomputable def codeC (M : Model) (A : Around) (c : Code) (R : Result → Shared → Prop) (s : Shared) : Prop :=
  ∀ Γ p, Γ.code = c → Γ.Below A → Clean Γ → wpCode M Γ R p s

section
variable {α β : Type} {M : Model} {A : Around} {E : Value → Shared → Prop} {s : Shared}
theorem wpC_any {t : Sem α} {Q : α → Shared → Prop} (h : wpAny M A t Q E s) : wpC M A t Q E s := fun Γ p hΓ _ => h Γ p hΓ
theorem codeC_any {c : Code} {R : Result → Shared → Prop} (h : codeAny M A c R s) : codeC M A c R s := fun Γ p hc hΓ _ => h Γ p hc hΓ
theorem wpC_pure {a : α} {Q : α → Shared → Prop} (h : Q a s) : wpC M A (pure a) Q E s := fun _ _ _ _ => h
theorem wpC_mono {t : Sem α} {Q Q' : α → Shared → Prop} {E' : Value → Shared → Prop} (h : wpC M A t Q E s) (hQ : ∀ a s, Q a s → Q' a s) (hE : ∀ e s, E e s → E' e s) : wpC M A t Q' E' s :=
  fun Γ p hΓ hC => Sem.wp_mono M Γ t (fun a _ s => hQ a s) (fun e _ s => hE e s) p s (h Γ p hΓ hC)
theorem wpC_bind {m : Sem α} {f : α → Sem β} {Q : β → Shared → Prop} (h : wpC M A m (fun a s' => wpC M A (f a) Q E s') E s) : wpC M A (m >>= f) Q E s := fun Γ p hΓ hC => by
  rw [Sem.wp_bind']
  exact Sem.wp_mono M Γ m (fun a p' s' h' => h' Γ p' hΓ hC) (fun _ _ _ h' => h') p s (h Γ p hΓ hC)
theorem wpC_then {m : Sem α} {f : α → Sem β} {Q : β → Shared → Prop} (h : wpAny M A m (fun a s' => wpC M A (f a) Q E s') E s) : wpC M A (m >>= f) Q E s := wpC_bind (wpC_any h)
theorem wpC_holding {vs : List Value} {m : Sem α} {Q : α → Shared → Prop} (h : wpC M A m Q E s) : wpC M A (holding vs m) Q E s := fun Γ p hΓ hC => by
  rw [Sem.wp_holding]; exact h Γ p hΓ hC
theorem wpC_keep {vs : List Value} {m : Sem α} {Q : α → Shared → Prop} (h : wpC M A m Q E s) : wpC M A (m.keep vs) Q E s := fun Γ p hΓ hC => by
  rw [Sem.wp_keep]; exact h Γ p hΓ hC
theorem wpC_onRaise {m : Sem α} {k : Value → Sem Unit} {Q : α → Shared → Prop} (h : wpC M A m Q (fun e s' => wpAny M A (k e) (fun _ s'' => E e s'') E s') s) : wpC M A (m.onRaise k) Q E s := fun Γ p hΓ hC => by
  rw [Sem.wp_onRaise]
  exact Sem.wp_mono M Γ m (fun _ _ _ h' => h') (fun e p' s' h' => h' Γ p' hΓ) p s (h Γ p hΓ hC)
theorem wpC_of_eq {t t' : Sem α} {Q : α → Shared → Prop} (e : t = t') (h : wpC M A t' Q E s) : wpC M A t Q E s := e ▸ h
theorem wpC_call {f : Value} {pos : List Value} {kw : List (Str × Value)} {Q : Value → Shared → Prop}
    (hc : codeC M A (.call f ⟨pos, kw⟩) (fun r s' => match r with | .ok (.ret v) => Q v s' | .ok _ => False | .error e => E e s') s) : wpC M A (call f pos kw) Q E s := fun Γ p hΓ hC => by
  show wp M Γ (runValue (.call f ⟨pos, kw⟩)) _ _ p s
  rw [Sem.wp_runValue]
  exact hc _ p rfl (hΓ.enter _ none p (by intro x; cases x)) (hC.enter rfl)
theorem codeC_mono {c : Code} {R R' : Result → Shared → Prop} (h : codeC M A c R s) (hR : ∀ r s, R r s → R' r s) : codeC M A c R' s := fun Γ p hc hΓ hC => wpCode_mono hR (h Γ p hc hΓ hC)
theorem codeC_tree {c : Code} {R : Result → Shared → Prop} 
    (h : wpC M (A.under c) (M.den c) (fun fin s' => match fin with | .done f => R (.ok f) s' | .again c' => c'.quiet = true ∧ keeps c' = false ∧ codeC M A c' R s') (fun e s' => R (.error e) s') s) : codeC M A c R s := fun Γ p hc hΓ hC => by
  rw [wpCode_iff_wp, hc]
  refine Sem.wp_mono M Γ _ (fun fin p' s' h' => ?_) (fun _ _ _ h' => h') p s (h Γ p (hc ▸ hΓ.in) hC)
  cases fin with
  | done f => exact h'
  | again c' => exact ⟨h'.1, h'.2.2 (Γ.goto c') p' rfl (hΓ.goto c') (hC.goto h'.2.1)⟩
theorem dite_no {c : Prop} [Decidable c] {a : c → Bool} {b : ¬ c → Bool} (h : ¬ c) (k : ¬ b h = true) : ¬ dite c a b = true := by rw [dif_neg h]; exact k
theorem not_kept {id k : String} (h : keepers.contains id = false) (hk : keepers.contains k = true) : ¬ id = k := fun e => by rw [e, hk] at h; exact absurd h (by decide)
theorem not_held {id : String} (h : keepers.contains id = false) : Builtin.Bytes.decodersThatHold.contains id = false := by
  unfold keepers at h
  rw [List.contains_append, Bool.or_eq_false_iff] at h
  exact h.2
theorem not_exported {v : Value} {Q : Bool → Shared → Prop} (h : Q false s) : wpC M A (Builtin.Bytes.exported v) Q E s := fun Γ p _ hC => by
  show Q (((Γ.code, p) :: Γ.below).any _) s
  rw [List.any_eq_false.mpr]
  · exact h
  · intro x hx
    have hk : keeps x.1 = false := by
      rcases List.mem_cons.mp hx with rfl | hx
      · exact hC.1
      · exact hC.2 x hx
    obtain ⟨c, p'⟩ := x
    cases c
    case builtin id args =>
      obtain ⟨pos, kw⟩ := args
      delta PySem.Builtin.Bytes.exported.match_1
      refine dite_no (not_kept hk (by decide)) ?_
      refine dite_no (not_kept hk (by decide)) ?_
      refine dite_no (not_kept hk (by decide)) ?_
      refine dite_no (not_kept hk (by decide)) ?_
      refine dite_no (not_kept hk (by decide)) ?_
      cases pos
      case nil => exact Bool.false_ne_true
      case cons v' vs =>
        show ¬ (Builtin.Bytes.sameRef v' v && Builtin.Bytes.decodersThatHold.contains id) = true
        rw [not_held hk, Bool.and_false]
        exact Bool.false_ne_true
    all_goals exact Bool.false_ne_true
end
section
variable {prog : Program} {w : World} {A : Around} {E : Value → Shared → Prop} {s : Shared}
theorem codeC_builtin {R : Result → Shared → Prop} {id : String} {args : Args} {b : Builtin} (hb : entryFor table id = some b)
    (h : wpC (model prog w) (A.under (.builtin id args)) (b args)
      (fun fin s' => match fin with | .done f => R (.ok f) s' | .again c' => c'.quiet = true ∧ keeps c' = false ∧ codeC (model prog w) A c' R s') (fun e s' => R (.error e) s') s) :
    codeC (model prog w) A (.builtin id args) R s := by
  refine codeC_tree ?_
  show wpC _ _ (match entryFor table id with | some b => b args | none => unsupported ((withoutEnding? id "#data").getD id)) _ _ s
  rw [hb]; exact h
end
end Mine
end

section
open PySem PySem.W PyProof.Rows
open Sem (wp)
set_option maxRecDepth 1000000
namespace Mine
section
variable {prog : Program} {w : World} {A : Around} {E : Value → Shared → Prop} {s : Shared}
theorem ba_special {a : Addr} {o : Obj} {M : Model} {name : Str} {r : Option Value} {Q : Option Value → Shared → Prop} (ho : s.heap.get? a = some o) (hc : o.cls = .type "bytearray") (h : typeLookup (.type "bytearray") name = pure r) (hQ : Q r s) :
    wpAny M A (specialOf (.ref a) name) Q E s := wpAny_specialOf (T := "bytearray") ⟨o, ho, hc⟩ h hQ
theorem ba_own {a : Addr} {o : Obj} {M : Model} {Q : Bool → Shared → Prop} (ho : s.heap.get? a = some o) (hc : o.cls = .type "bytearray") (hQ : Q false s) :
    wpAny M A (Builtin.Bytes.ownRelease (.ref a)) Q E s := by
  unfold Builtin.Bytes.ownRelease Builtin.Bytes.slotIsOwn
  refine wpAny_bind (wpAny_bind (ba_special ho hc ba_release ?_))
  have e1 : ("bytearray.__release_buffer__".endsWith ("." ++ "__release_buffer__")) = true := by decide +kernel
  have e2 : ("bytearray.__release_buffer__".dropRight ("__release_buffer__".length + 1)) = "bytearray" := by decide +kernel
  simp only [e1, e2]
  have e3 : isInstance (.ref a) (.type "bytearray") = (typeOf (.ref a) >>= fun c => isSubtype c (.type "bytearray")) := rfl
  show wpAny M A (isInstance (Value.ref a) (Value.type "bytearray")) (fun b s' => wpAny M A (pure !b) Q E s') E s
  exact wpAny_isInstance (T := "bytearray") ⟨o, ho, hc⟩ ba_sub (wpAny_pure hQ)
theorem ba_write {a : Addr} {M : Model} {f : Array UInt8 → Array UInt8} {b : Array UInt8} {Q : Unit → Shared → Prop} (ho : s.heap.get? a = some (baObj b)) (hz : (f b).size ≤ 1000)
    (hQ : ∀ h', Heap.SameBut a s.heap h' → h'.objs.size = s.heap.objs.size → h'.get? a = some (baObj (f b)) → Q () { s with heap := h' }) : wpAny M A (Builtin.Bytes.write (.ref a) f) Q E s := by
  show wpAny _ _ (updateBytearray a f) _ _ _
  unfold updateBytearray
  refine wpAny_bind (wpAny_load ho ?_)
  show wpAny _ _ (update a (Obj.mapBytearray f) >>= fun _ => lookBehind a) _ _ _
  refine wpAny_bind (wpAny_update ho ?_)
  have hS : (s.heap.update a (Obj.mapBytearray f)).get? a = some (baObj (f b)) := Heap.get?_update_self (Obj.mapBytearray f) ho rfl
  refine wpAny_lookBehind hS ?_ (hQ _ (Heap.SameBut.update ..) ?_ hS)
  · show (if (f b).size > sizeLine then some "bytearray:memory" else none) = none
    rw [if_neg]
    rw [sizeLine_eq]; omega
  · exact Heap.size_after_update ..
theorem wpC_if_false {α : Type} {M : Model} {c : Bool} {a b : Sem α} {Q : α → Shared → Prop} (hc : c = false) (h : wpC M A b Q E s) : wpC M A (if c = true then a else b) Q E s := by
  rw [if_neg (by rw [hc]; decide)]; exact h
theorem wpAny_if_false {α : Type} {M : Model} {c : Bool} {a b : Sem α} {Q : α → Shared → Prop} (hc : c = false) (h : wpAny M A b Q E s) : wpAny M A (if c = true then a else b) Q E s := by
  rw [if_neg (by rw [hc]; decide)]; exact h
theorem wpAny_if_true {α : Type} {M : Model} {c : Bool} {a b : Sem α} {Q : α → Shared → Prop} (hc : c = true) (h : wpAny M A a Q E s) : wpAny M A (if c = true then a else b) Q E s := by
  rw [if_pos hc]; exact h
theorem ba_code_init {a : Addr} {n : Int} {t : Tok} {P : Fin → Shared → Prop} (ho : s.heap.get? a = some (baObj #[])) (h0 : 0 ≤ n) (hn : n ≤ 1000)
    (hQ : ∀ h', Heap.SameBut a s.heap h' → h'.objs.size = s.heap.objs.size → h'.get? a = some (baObj (Array.replicate n.toNat 0)) → P (.done (.ret .none)) { s with heap := h' }) :
    wpC (model prog w) A (Builtin.«bytearray.__init__» ⟨[.ref a, .int n t], []⟩)
      P E s := by
  unfold Builtin.«bytearray.__init__»
  refine wpC_then (ba_own ho rfl ?_)
  refine wpC_if_false rfl ?_
  refine wpC_of_eq (congrArg (· >>= _) (ba_bind _)) ?_
  refine wpC_then (wpAny_pure ?_)
  refine wpC_then (wpAny_of_eq (a := ()) rfl ?_)
  refine wpC_then (wpAny_of_eq (a := ()) rfl ?_)
  refine wpC_bind (wpC_bind (not_exported ?_))
  refine wpC_any ?_
  show wpAny _ _ (Builtin.Bytes.exportsOf (.ref a) >>= _) _ _ _
  refine wpAny_bind ?_
  unfold Builtin.Bytes.exportsOf
  refine wpAny_bind (wpAny_load ho ?_)
  refine wpAny_pure (wpAny_pure ?_)
  refine wpC_any ?_
  refine wpAny_if_false rfl ?_
  refine wpAny_bind (ba_write ho (by show (#[] : Array UInt8).size ≤ 1000; simp) fun h1 hs1 hz1 ho1 => ?_)
  refine wpAny_bind (wpAny_of_eq (a := none) rfl ?_)
  refine wpAny_if_false rfl ?_
  refine wpAny_bind (wpAny_pure ?_)
  refine wpAny_bind (wpAny_specialOf (T := "int") (typeIs_int _ n t) F.slot_int_index.lookup ?_)
  refine wpAny_if_true rfl ?_
  refine wpAny_bind (wpAny_attempt (wpAny_of_eq (a := n) rfl ?_))
  have e1 : Builtin.Bytes.fitsIndex n = true := by simp only [Builtin.Bytes.fitsIndex, Bool.and_eq_true, decide_eq_true_eq]; omega
  have e2 : ¬ n < 0 := by omega
  have e3 : (n == 2 ^ 63 - 1) = false := by simp only [beq_eq_false_iff_ne, ne_eq]; omega
  have e4 : Builtin.Bytes.tooLong n.toNat = false := by
    unfold Builtin.Bytes.tooLong
    rw [sizeLine_eq]
    exact decide_eq_false (by omega)
  simp only [e1, e2, e3, e4, Bool.not_true, Bool.false_eq_true, if_false]
  refine wpAny_bind (wpAny_rule ?_)
  by_cases hn0 : 0 < n
  · rw [if_pos hn0]
    refine wpAny_bind (ba_write (s := { s with heap := h1 }) ho1 (by show (Array.replicate n.toNat (0 : UInt8)).size ≤ 1000; rw [Array.size_replicate]; omega) fun h2 hs2 hz2 ho2 => ?_)
    exact wpAny_pure (hQ h2 (hs1.trans hs2) (hz2.trans hz1) ho2)
  · rw [if_neg hn0]
    refine wpAny_pure (hQ h1 hs1 hz1 ?_)
    have : n.toNat = 0 := by omega
    rw [this]
    exact ho1
theorem keeps_init (args : Args) : keeps (.builtin "bytearray.__init__" args) = false := by show keepers.contains "bytearray.__init__" = false; decide +kernel
theorem keeps_tcall (args : Args) : keeps (.builtin "type.__call__" args) = false := by show keepers.contains "type.__call__" = false; decide +kernel
theorem codeC_call_builtin {id : String} {args : Args} {b : Builtin} {R : Result → Shared → Prop} (hq : plainId id = true) (hk : keeps (.builtin id args) = false) (hb : entryFor table id = some b)
    (h : wpAny (model prog w) A.in1 (checkBuiltinCall id args) (fun _ s₁ => wpC (model prog w) A.in1 (b args)
      (fun fin s' => match fin with | .done f => R (.ok f) s' | .again c' => c'.quiet = true ∧ keeps c' = false ∧ codeC (model prog w) A c' R s') (fun e s' => R (.error e) s') s₁)
      (fun e s' => R (.error e) s') s) : codeC (model prog w) A (.call (.builtin id) args) R s := by
  refine codeC_tree ?_
  show wpC _ A.in1 (do checkBuiltinCall id args; again (.builtin id args)) _ _ s
  refine wpC_then (wpAny_mono h (fun _ s₁ h₁ => wpC_pure ⟨plainId_quiet hq args, hk, codeC_builtin hb ?_⟩) fun _ _ h' => h')
  rw [Around.under_plainId hq args]
  exact h₁
theorem ba_init_call {a : Addr} {n : Int} {t : Tok} {Q : Value → Shared → Prop} (ho : s.heap.get? a = some (baObj #[])) (h0 : 0 ≤ n) (hn : n ≤ 1000)
    (hQ : ∀ h', Heap.SameBut a s.heap h' → h'.objs.size = s.heap.objs.size → h'.get? a = some (baObj (Array.replicate n.toNat 0)) → Q .none { s with heap := h' }) :
    wpC (model prog w) A (call (.builtin "bytearray.__init__") [.ref a, .int n t]) Q E s :=
  wpC_call (codeC_call_builtin ba_init.plain (keeps_init _) ba_entryInit (ba_init.check _ _ _ _ _ _ _ _ (T := "bytearray") ⟨_, ho, rfl⟩ (ba_argsInit _ _)
    (ba_code_init ho h0 hn hQ)))
theorem ba_tcall {n : Int} {t : Tok} {P : Fin → Shared → Prop} (h0 : 0 ≤ n) (hn : n ≤ 1000)
    (hQ : ∀ h', (∀ b o, s.heap.get? b = some o → h'.get? b = some o) → h'.get? s.heap.objs.size = some (baObj (Array.replicate n.toNat 0)) → P (.done (.ret (.ref s.heap.objs.size))) { s with heap := h' }) :
    wpC (model prog w) A (Builtin.«type.__call__» ⟨[.type "bytearray", .int n t], []⟩)
      P E s := by
  have h1 := ba_called.notType
  have h2 := ba_called.canCreate
  obtain ⟨c, tl, hmro⟩ := ba_called.mro
  have hmade := ba_called.made
  unfold Builtin.«type.__call__»
  simp only [h1, h2, hmro, hmade, ba_typeCall, Bool.false_eq_true, if_false, pure_bind]
  refine wpC_then (wpAny_holding (wpAny_call (codeAny_mono (codeAny_of_in1 (ba_code_new (E := E) (Q₁ := fun v s' => v = .ref s.heap.objs.size ∧ s' = { s with heap := s.heap.push (baObj #[]) }) _ ⟨rfl, rfl⟩)) fun r s' hr => ?_)))
  cases r with
  | error e => exact hr
  | ok fl =>
    cases fl with
    | ret obj =>
      obtain ⟨rfl, rfl⟩ := hr
      have ho : (s.heap.push (baObj #[])).get? s.heap.objs.size = some (baObj #[]) := Heap.get?_push_size _ rfl
      have hT : Shared.TypeIs { s with heap := s.heap.push (baObj #[]) } (.ref s.heap.objs.size) "bytearray" := ⟨_, ho, rfl⟩
      refine wpC_then (wpAny_isInstance hT ba_sub ?_)
      simp only [Bool.not_true, Bool.false_eq_true, if_false]
      refine wpC_bind (wpC_holding ?_)
      simp only [callSpecial?]
      refine wpC_then (wpAny_specialOf hT ba_init.lookup ?_)
      simp only [ba_init.bind]
      refine wpC_holding (wpC_then (wpAny_pure (wpC_bind (ba_init_call (s := { s with heap := s.heap.push (baObj #[]) }) ho h0 hn fun h' hs hz ho' => ?_))))
      refine wpC_pure ?_
      refine wpC_any ?_
      simp only [bne_self_eq_false, Bool.false_eq_true, if_false]
      exact wpAny_pure (hQ h' (fun b o e => hs.extBut b o (Nat.ne_of_lt (Heap.lt_size e)) (Heap.get?_push_of_some _ e)) ho')
    | _ => exact hr.elim
theorem ba_call {n : Int} {t : Tok} {Q : Value → Shared → Prop} (h0 : 0 ≤ n) (hn : n ≤ 1000)
    (hQ : ∀ h', (∀ b o, s.heap.get? b = some o → h'.get? b = some o) → h'.get? s.heap.objs.size = some (baObj (Array.replicate n.toNat 0)) → Q (.ref s.heap.objs.size) { s with heap := h' }) :
    wpC (model prog w) A (call (.type "bytearray") [.int n t]) Q E s := by
  refine wpC_call (codeC_tree ?_)
  show wpC _ _ (callAny (.type "bytearray") _) _ _ _
  refine wpC_pure ⟨Code.quiet_builtin _ (by decide +kernel), keeps_tcall _, codeC_builtin F.entry_type_call ?_⟩
  rw [Around.under_plain (weight_type_call_type "bytearray" _ []) rfl]
  exact ba_tcall (s := s) h0 hn hQ
end
end Mine
end

section
open PySem PySem.W PyProof.Rows
open Sem (wp)
set_option maxRecDepth 1000000
namespace Mine
section
variable {M : Model} {A : Around} {E : Value → Shared → Prop} {s : Shared} {env : Env}
theorem wpC_execs_cons {st : Stmt} {rest : List Stmt} {Q : Flow → Shared → Prop}
    (h : wpC M A (exec st env) (fun f s' => match f with | .next => wpC M A (execs rest env) Q E s' | f => Q f s') E s) : wpC M A (execs (st :: rest) env) Q E s := fun Γ p hΓ hC => by
  rw [execs_cons, Sem.wp_bind']
  refine Sem.wp_mono M Γ _ (fun f p' s' h' => ?_) (fun _ _ _ h' => h') _ _ (h Γ p hΓ hC)
  cases f <;> first | exact h' Γ p' hΓ hC | exact h'
theorem wpC_Assign_Name {x : Str} {pos' pos : Pos} {value : Expr} {Q : Flow → Shared → Prop}
    (h : wpC M A (eval value env) (fun v s₁ => wpAny M A (storeName env x v) (fun _ => Q .next) E s₁) E s)
    (hs : swapsWith value (some (.Name x pos')) pos.line env = pure false := by rfl) : wpC M A (exec (.Assign [.Name x pos'] value pos) env) Q E s := fun Γ p hΓ hC => by
  simp only [exec_Assign_Name env x pos' value pos hs, Sem.wp_bind', Sem.wp_cmd_standAt, Sem.wp_bindName, Sem.wp_pure']
  exact Sem.wp_mono M Γ _ (fun v _ s₁ h₁ => h₁ Γ _ hΓ) (fun _ _ _ h' => h') _ _ (h Γ _ hΓ hC)
theorem wpC_Call {func : Expr} {args : List Expr} {pos : Pos} {Q : Value → Shared → Prop}
    (h : wpAny M A (eval func env) (fun f s₁ => wpC M A (callWith pos f [] (backTo pos (starEach args env)) []) Q E s₁) E s)
    (he : eval (.Call func args [] pos) env = (do callWith pos (← eval func env) [] (backTo pos (starEach args env)) (backToKw pos (keywordEach [] env))) := by rfl) :
    wpC M A (eval (.Call func args [] pos) env) Q E s := by
  rw [he]; exact wpC_then h
theorem wpC_callWith {f : Value} {pos : Pos} {P : Heap → Prop} {args : List (Bool × Sem Value)} {Q : Value → Shared → Prop} (hplain : args.any (·.1) = false)
    (hk : ∀ h, P h → ∃ k, (k = Keeper.frame ∨ k = Keeper.machine ∨ k = Keeper.boundFrame) ∧ Looks M h (keeperOf f) k)
    (h : wpAny M A (evalArgs f true args []) (fun a s₁ => P s₁.heap ∧ wpC M A (call f a.pos a.kw) Q E s₁) E s) : wpC M A (callWith pos f [] args []) Q E s := by
  unfold callWith
  refine wpC_then (wpAny_holding (wpAny_mono h (fun a s₁ h₁ => ?_) fun _ _ x => x))
  refine wpC_then (wpAny_standAt ?_)
  obtain ⟨k, hk', L⟩ := hk _ h₁.1
  simp only [hplain, List.any_nil, Bool.or_false, List.nil_append]
  refine wpC_then (L.here ?_)
  have tail : ∀ {t : Sem Value}, wpC M A t Q E s₁ → wpC M A (t >>= fun r => holding [r] point >>= fun _ => pure r) Q E s₁ :=
    fun ht => wpC_bind (wpC_mono ht (fun r s₂ hr => wpC_any (wpAny_bind (wpAny_holding (wpAny_point (wpAny_pure hr))))) fun _ _ x => x)
  have marked (mk : Value) : wpC M A (callMarked mk f a.pos a.kw) Q E s₁ := by unfold callMarked; exact wpC_keep h₁.2
  rcases hk' with rfl | rfl | rfl <;> dsimp only <;> first | exact tail h₁.2 | (split <;> first | exact tail h₁.2 | exact tail (marked _))
theorem wpC_callWith_K {K : Frag} {f : Value} {pos : Pos} {e : Expr} {rest : List Expr} {Q : Value → Shared → Prop} (hk : keepIn K f = true)
    (h : wpAny M A (spliced (backTo pos (starEach (e :: rest) env))) (fun vs s₁ => K.In s₁.heap ∧ wpC M A (call f vs) Q E s₁) E s)
    (he : starEach (e :: rest) env = (false, eval e env) :: starEach rest env := by rfl) (hplain : (backTo pos (starEach rest env)).any (·.1) = false := by rfl) :
    wpC M A (callWith pos f [] (backTo pos (starEach (e :: rest) env)) []) Q E s := by
  rw [he] at h ⊢
  exact wpC_callWith (by show (false || (backTo pos (starEach rest env)).any (·.1)) = false; rw [hplain]; rfl) (keeps_K hk) (Calls.evalArgs_plain h)
theorem wpC_callWith_type {T : String} {pos : Pos} {e : Expr} {rest : List Expr} {Q : Value → Shared → Prop}
    (h : wpAny M A (spliced (backTo pos (starEach (e :: rest) env))) (fun vs s₁ => wpC M A (call (.type T) vs) Q E s₁) E s)
    (he : starEach (e :: rest) env = (false, eval e env) :: starEach rest env := by rfl) (hplain : (backTo pos (starEach rest env)).any (·.1) = false := by rfl) :
    wpC M A (callWith pos (.type T) [] (backTo pos (starEach (e :: rest) env)) []) Q E s := by
  rw [he] at h ⊢
  exact wpC_callWith (P := fun _ => True) (by show (false || (backTo pos (starEach rest env)).any (·.1)) = false; rw [hplain]; rfl) (fun _ _ => ⟨.machine, .inr (.inl rfl), Looks.of_pure rfl⟩)
    (Calls.evalArgs_plain (wpAny_mono h (fun _ _ x => ⟨trivial, x⟩) fun _ _ x => x))
end
section
variable {prog : Program} {w : World} {A : Around} {s : Shared} {R : Result → Shared → Prop}
theorem codeC_func {body : List Stmt} {env : Env}
    (h : wpC (model prog w) (A.deeper env) (execs body env) (fun f s' => R (.ok (.ret (match f with | .ret v => v | _ => .none))) s')
      (fun e s' => wpAny (model prog w) (A.deeper env) (leaving env e) (fun _ s'' => R (.error e) s'') (fun e' s'' => R (.error e') s'') s') s) : codeC (model prog w) A (.func body env) R s := by
  refine codeC_tree ?_
  show wpC _ (A.deeper env) (do point; match ← (execs body env).onRaise (leaving env) with | .ret v => ret v | _ => ret .none) _ _ s
  refine wpC_then (wpAny_point (wpC_bind (wpC_onRaise (wpC_mono h (fun f s' h' => ?_) fun _ _ h' => h'))))
  cases f <;> exact wpC_pure h'
theorem codeC_call_def {a : Addr} {o : Obj} {fd : FuncData} {body : List Stmt} {args : Args} {binds : List (Str × Value)}
    (hroom : A.depth < recursionLimit) (ho : s.heap.get? a = some o) (hdata : o.data = .func fd) (hlim : s.heap.NoLimit) (hcd : s.heap.CodeRec fd.code fd.qualname)
    (hbody : fd.body = .stmts body) (hbind : BindsTo s fd args binds) (hcell : ∀ x ∈ fd.scope.names, x.2 ≠ .cell) (hloc : ∀ x ∈ binds, fd.scope.names.lookup x.1 = some .local)
    (h : ∀ h₀, h₀.Ns s.heap.objs.size (fun x => binds.reverse.lookup x) → (∀ b o, s.heap.get? b = some o → h₀.get? b = some o) →
      wpC (model prog w) (A.deeper (callEnv fd s.heap.objs.size a)) (execs body (callEnv fd s.heap.objs.size a)) (fun f s' => R (.ok (.ret (match f with | .ret v => v | _ => .none))) s')
        (fun e s' => wpAny (model prog w) (A.deeper (callEnv fd s.heap.objs.size a)) (leaving (callEnv fd s.heap.objs.size a) e) (fun _ s'' => R (.error e) s'') (fun e' s'' => R (.error e') s'') s')
        { s with heap := h₀, toks := s.toks + binds.length })
    (hco : fd.scope.isCoroutine = false := by rfl) (hgen : fd.scope.isGenerator = false := by rfl) (hk : fd.scope.kind = .function := by rfl) :
    codeC (model prog w) A (.call (.ref a) args) R s := by
  refine codeC_tree (wpC_any ?_)
  show wpAny _ A.in1 (callAny (.ref a) args) _ _ s
  simp only [callAny]
  refine wpAny_bind (wpAny_load ho ?_)
  obtain ⟨c, oc, vs, tq, hc, hoc, hdc, hq⟩ := hcd
  simp only [hdata, callFunction, hco, hgen, hbody, hc]
  refine wpAny_bind (m := field (.ref c) 1) (wpAny_field hoc hdc hq (wpAny_bind (wpAny_pure ?_)))
  refine wpAny_bind (hbind _ _ _ _ ?_)
  refine wpAny_bind (wpAny_newFunctionEnv hcell hloc (fun h₀ hns₀ hsb₀ => ?_) hk)
  refine wpAny_bind (wpAny_enterFrame (hlim.fresh _ hsb₀) hroom (wpAny_pure ⟨rfl, rfl, ?_⟩))
  have hh := h h₀ hns₀ fun b o e => hsb₀.extBut b o (Nat.ne_of_lt (Heap.lt_size e)) (Heap.get?_push_of_some _ e)
  exact codeC_func (hc ▸ hh)
end
section
variable {prog : Program} {w : World} {A₀ A : Around} {s : Shared} {base h₀ : Heap} {outer : List Env} {L : Addr} {m : Str → Option Value} {news : List (Addr × Obj)} {K : Frag} {p : Program} {loose : List Str} {mean : ExcName → Option Value} {mg mb : Str → Option Value}
/-- a def's call, in the ledger's words -/
theorem codeC_def {env : Env} {R : Result → Shared → Prop} {name qual : Str} {params : Arguments} {body : List Stmt} {scope : Scope} {dV kV doc pm cdv ct oc : Value} {an od : Option Addr} {osl : Array (Option Value)} {f : Addr} {args : Args} {binds : List (Str × Value)}
    (B : Below A₀ base outer h₀) (F : Fr h₀ L s.heap m) (X₀ : K.In h₀) (N : News h₀ L s.heap news) (T : Top p loose mean mg mb h₀) (hA : A.frames = some (env :: outer)) (hf : env.frame = some L) (hke : env.scope.kind = .function)
    (ho : K.lookup f = some ⟨oc, od, .func (fnOf name qual params body scope dV kV doc pm an cdv ct), osl⟩) (hcd : codeIn K cdv qual = true) (hroom : A.depth < recursionLimit)
    (hbind : BindsTo s (fnOf name qual params body scope dV kV doc pm an cdv ct) args binds) (hloc : ∀ y ∈ binds, scope.names.lookup y.1 = some .local)
    (h : ∀ g L' h₁, Fr h₀ L g m → Fr g L' h₁ (fun y => binds.reverse.lookup y) → News g L' h₁ news → Below A base (env :: outer) g → K.In g → Top p loose mean mg mb g →
      wpC (model prog w) (A.deeper (envOf qual scope L' f cdv)) (execs body (envOf qual scope L' f cdv))
        (fun fl s' => LeaveK h₀ L m g R (match fl with | .ret v => v | _ => .none) s')
        (fun e s' => wpAny (model prog w) (A.deeper (envOf qual scope L' f cdv)) (leaving (envOf qual scope L' f cdv) e) (fun _ s'' => R (.error e) s'') (fun e' s'' => R (.error e') s'') s')
        { s with heap := h₁, toks := s.toks + binds.length })
    (hco : scope.isCoroutine = false) (hgen : scope.isGenerator = false) (hk : scope.kind = .function) (hcell : ∀ x ∈ scope.names, x.2 ≠ .cell) : codeC (model prog w) A (.call (.ref f) args) R s := by
  obtain ⟨FG, BG, st, lv⟩ := groundX (R := R) B F N hA hf hke
  refine codeC_call_def (fd := fnX name qual params body scope [] dV kV doc pm an cdv ct) (body := body) (binds := binds) hroom ((X₀.keeps F.keep) _ _ ho) rfl (T.nolimit.keeps F.keep) (codeRec_of (X₀.keeps F.keep) hcd) rfl hbind hcell hloc (fun h₁ hns hk₁ => ?_) hco hgen hk
  exact wpC_mono (h _ s.heap.objs.size h₁ FG ⟨hns, fun b o e => hk₁ b o (of_hideAll _ e), Nat.le_of_eq (hideAll_size _ _)⟩
    (fun p hp => ⟨hk₁ _ _ (N p hp).1, Nat.ne_of_lt (Heap.lt_size (N p hp).1), hideAll_none _ (List.mem_map_of_mem hp)⟩) BG (X₀.keeps st) (T.keeps st)) (fun fl s' hl => lv _ _ hl) fun _ _ y => y
end
end Mine
end

section
open PySem PySem.W PySem.Calls PyProof.Rows
open Sem (wp)
set_option maxRecDepth 1000000
namespace Mine
theorem clean_caller : Clean ⟨.builtin "claim.caller" {}, none, none, [], none⟩ := ⟨by show keepers.contains "claim.caller" = false; decide +kernel, fun _ h => nomatch h⟩

/-- the call of the row's def, as the claim's caller makes it, ends as the walk says -/
theorem thread_ends {prog : Program} {w : World} {t : Sem Fin} {s : Shared} {R : Result → Shared → Prop} (hreg : s.asleep)
    (h : wpC (model prog w) callerA t (fun fin s' => ∃ f, fin = .done f ∧ (R (.ok f) s' ∧ leftWithCleanup s'.gens = false)) (fun e s' => R (.error e) s' ∧ leftWithCleanup s'.gens = false) s) :
    ∃ n r s' s'', runN (denote table) prog w n s ⟨t, .builtin "claim.caller" {}, default, []⟩ = .halted (outcomeOf r) s' ∧
      schedN (denote table) prog w n (.single s ⟨t, .builtin "claim.caller" {}, default, []⟩) = .halted (outcomeOf r) s' ∧ s'.forget = s''.forget ∧ R r s'' := by
  have h' : wp (model prog w) ⟨.builtin "claim.caller" {}, none, none, [], none⟩ t (Sem.finPost (model prog w) ⟨.builtin "claim.caller" {}, none, none, [], none⟩ fun r s' => R r s' ∧ leftWithCleanup s'.gens = false)
      (fun e _ s' => R (.error e) s' ∧ leftWithCleanup s'.gens = false) default s := by
    refine Sem.wp_mono _ _ t (fun fin p' s' h' => ?_) (fun _ _ _ h' => h') default s (h _ default caller_in clean_caller)
    obtain ⟨f, rfl, hf⟩ := h'
    exact hf
  obtain ⟨n, r, s₁, s₂, hs, hn, hfo, hR⟩ := wp_halts_full (M := model prog w) (R := R) hreg h'
  exact ⟨n, r, s₂, s₁, hn, hs, hfo, hR⟩

abbrev WalkC (q : Program) (loose : List Str) (XP : (Str → Option Value) → Heap → Prop) (YP : World → Heap → Prop) (r : RowW) (d : DefRec) (kwd : List (Str × Expr)) : Prop :=
  ∀ (w : World) (s₀ s₁ : Shared) (mg mb : Str → Option Value), Ground q loose r.records XP w s₀ mg mb s₁.heap → YP w s₁.heap → ∀ (a : Addr) (o : Obj) (pm cd doc dV kV : Value), s₁.heap.get? a = some o →
    o.data = .func { docDef d.name d.params d.body d.scope pm cd doc with defaults := dV, kwdefaults := kV } → s₁.heap.CodeRec cd d.name → Dflts mg s₁.heap d.params kwd dV kV → mg d.name = some (.ref a) → s₁.gens = #[] →
    ∀ (args : List WData) (vals : List Value) (as : List Addr), r.claim.pre args = true → WData.layableAll args = true → ReadsAllW r.records (classAt s₀.heap) s₁.heap vals args as → WellAll w.params s₁.heap vals args → (∀ a ∈ as, (a == sysModules) = false) →
      wpC (model r.prog w) callerA (PySem.call (.ref a) vals) (fun v s' => GoodWG r.claim (classAt s₀.heap) (ExcName.means s₀.heap) args s₁ (.ok (.ret v)) s')
        (fun e s' => GoodWG r.claim (classAt s₀.heap) (ExcName.means s₀.heap) args s₁ (.error e) s') s₁

/-- the head, for the one stack that the claim means -/
theorem PySem.W.holds_open {r : OpenRow} {q : Program} {loose : List Str} {Xt : Shared → Bool} {XP : (Str → Option Value) → Heap → Prop} {α : Type} {Yf : Shared → α} {Ya : World → α} {YP : World → Heap → Prop} {d : DefRec} {kwd : List (Str × Expr)} {N : Nat}
    (left : LeftO r.prog q loose Xt Yf Ya N) (hY : ∀ w s, Yf s = Ya w → YP w s.heap) (hYk : ∀ w h h', YP w h → (∀ b o, h.get? b = some o → h'.get? b = some o) → YP w h')
    (hX : ∀ s, Xt s = true → XP (s.heap.nsMap mainGlobals) s.heap) (hXk : ∀ mg h h', XP mg h → (∀ b o, h.get? b = some o → h'.get? b = some o) → XP mg h')
    (hdef : defOf q r.name = some (d, kwd)) (hp : r.prog.theDef r.name = some (d.params, d.body, d.scope)) (hk : kwWritten? d.params.kwonlyargs d.params.kw_defaults = some kwd) (hRf : ∀ s, Xt s = true → RecFacts r.records s.heap) (hwr : (!r.writes || r.records.isEmpty) = true)
    (k1 : r.wellSaid = true) (ok : (chainsOk q && opensWell r.prog && (frees r.toRowW && r.within.isEmpty)) = true) (hb : r.prog.bare) (hw : r.toRowW.promised)
    (call : WalkC q loose XP YP r.toRowW d kwd) : r.Holds := by
  obtain ⟨ok, k5⟩ := Bool.and_eq_true_iff.mp ok
  obtain ⟨hch, o1⟩ := Bool.and_eq_true_iff.mp ok
  obtain ⟨k5, k6⟩ := Bool.and_eq_true_iff.mp k5
  obtain ⟨hsame, hu, ha, hap, hm⟩ := frees_parts k5
  have hwi : r.toRowW.claim.within = [] := List.isEmpty_iff.mp k6
  have hi := ident_freeW hu ha hap
  refine ⟨k1, hw, ⟨hb, o1, by show r.makers.map _ = []; rw [hm]; rfl⟩, hw.witness, fun w => ⟨(left.behind hX hch w).1, fun s' hs' => ?_⟩⟩
  obtain ⟨s₀, hf, hg0, s, hT, hz, hgens, hg, G0, y⟩ := (left.behind (XP := fun mg h => XP mg h ∧ RecFacts r.records h) (fun s hs => ⟨hX s hs, hRf s hs⟩) hch w).2 s' hs'
  have G1 : Ground q loose [] XP w s (s.heap.nsMap mainGlobals) (s.heap.nsMap builtinsNs) s.heap := ⟨G0.T, G0.B, G0.D, G0.TE, G0.TD, G0.W, G0.X.1, G0.cls, G0.has, G0.apart, G0.once, G0.K⟩
  have RF := G0.X.2
  have G : Ground q loose r.records XP w s _ _ s.heap := RF.ground G1
  have hgens : s.gens = #[] := Array.eq_empty_of_size_eq_zero (beq_iff_eq.mp hgens)
  refine ⟨s₀, hf, hg0, s, hT, fun n hn => ?_, RF.1, RF.2.1, fun args hpre hlay ord hord => ?_⟩
  · obtain rfl : n = r.name := by split at hn <;> simp_all
    exact pinned_of_view hg G1 hdef hp hk
  obtain ⟨⟨vs, s₁⟩, hlaid⟩ := Option.isSome_iff_exists.mp (layAllW_isSome (P := w.params) (ord := ord) G.has args r.args s (pre_splitW hpre).1)
  have keeps := layAllW_keeps _ _ _ hlaid
  have hal := layAllW_rest _ _ _ hlaid
  obtain ⟨as, hrd, hin, hold⟩ := reads_layAllW hord _ _ _ hlaid hlay s₁.heap (fun _ _ e => e)
  have L : Laid r.records w s s₁ args vs as := ⟨⟨ord, hord, hlaid⟩, hrd, hin, hold, keeps, hal.1.trans hgens, hal.2.2.1⟩
  have G₁ := G.keeps hXk keeps
  obtain ⟨a, o, pm, cd, doc, dV, kV, h1, h2, h3, h4, h5⟩ := G₁.fn hdef
  have W := call w s s₁ _ _ G₁ (hYk _ _ _ (hY w s y) keeps) a o pm cd doc dV kV h2 h3 h4 h5 (defOf_name hdef ▸ h1) L.gens args vs as hpre hlay L.reads L.well (L.low G.low)
  have kept : ∀ s'' : Shared, (∀ b o, s₁.heap.get? b = some o → asItWas s₁.heap s''.heap b o) → r.writes = true → namesKept r.prog r.keeps s.heap s''.heap ∧ ∀ x ∈ r.records, ∀ a, classAt s.heap x.1 = some a → recordClass s''.heap a x.1 (x.2.map (·.1)) = true :=
    fun s'' old q => ⟨namesKept_of hT hg _ keeps old, noTable hwr q⟩
  obtain ⟨k, res, s2, s3, hrun, hsched, hfo, hcase, hos, hkp⟩ := thread_ends (prog := r.prog) (w := w) (s := s₁)
    (t := do match ← nsGet mainNs r.name with
      | some f => do ret (← PySem.call f vs)
      | none => unsupported "claim.caller:no-such-global")
    (R := fun res s2 => r.toRowW.claim.Ends s args vs s₁ res s2 ∧ s2.os = s.os ∧ (r.writes = true → namesKept r.prog r.keeps s.heap s2.heap ∧ ∀ x ∈ r.records, ∀ a, classAt s.heap x.1 = some a → recordClass s2.heap a x.1 (x.2.map (·.1)) = true))
    (Shared.asleep_of_life hal.2.2.2 hz)
    (wpC_then (wpAny_nsGet G₁.T.g (by
      rw [h1]
      refine wpC_bind (wpC_mono W (fun v s2 g => wpC_pure ?_) fun e s2 g => ?_)
      · obtain ⟨z1, z2, z3⟩ := g.laid (c := r.toRowW.claim) hsame hwi hi L
        exact ⟨_, rfl, ⟨z1, z2, kept s2 g.2.1.old⟩, leftWithCleanup_false_of_bare z3⟩
      · obtain ⟨z1, z2, z3⟩ := g.laid (c := r.toRowW.claim) hsame hwi hi L
        exact ⟨⟨z1, z2, kept s2 g.2.1.old⟩, leftWithCleanup_false_of_bare z3⟩)))
  obtain ⟨eh, _, _, eo, _⟩ := Shared.forget_eq hfo
  have hcase := hcase.congr eh
  rw [← eh] at hkp
  rw [← eo] at hos
  have hlife : s2.heap.life = s.heap.life := (runN_life _ _ _ hrun).trans hal.2.2.2
  refine ⟨vs, s₁, hlaid, k, _, s2, hsched, ?_, (fun _ i x hx => by rw [hgens] at hx; simp at hx), hkp, by rw [hlife], Shared.rest_eq hos⟩
  rcases hcase with ⟨v, rfl, d1, d2, d3, d4, d5⟩ | ⟨e, ob, cls, rfl, d1, d2, d3, d4, d5⟩
  · exact .inl ⟨v, rfl, d1, d2, d3, fun b o y _ => d4 b o y, d5⟩
  · exact .inr ⟨e, ob, cls, rfl, d1, d2, d3, d4, fun b o y _ => d5 b o y⟩
end Mine
end

section
open PySem PySem.W PyProof.Rows
set_option maxRecDepth 100000
set_option maxHeartbeats 8000000
namespace Mine
open_top hd for PySem.Challenge.rw_zn0004_01
end Mine
end

section
open PySem PySem.W PyProof.Rows
namespace Mine

inductive Tr where
  | leaf : Tr
  | fork : Tr → Tr → Tr

noncomputable def Tr.word : Tr → List Int
  | .leaf => [10]
  | .fork a b => 13 :: (a.word ++ b.word)

noncomputable def Tr.forks : Tr → Nat
  | .leaf => 0
  | .fork a b => a.forks + b.forks + 1

noncomputable def Tr.mirror : Tr → Tr
  | .leaf => .leaf
  | .fork a b => .fork b.mirror a.mirror

noncomputable def Tr.behind : Tr → List Int
  | .leaf => [10]
  | .fork a b => a.behind ++ b.behind ++ [13]

theorem Tr.mirror_forks (t : Tr) : t.mirror.forks = t.forks := by
  induction t with
  | leaf => rfl
  | fork a b iha ihb => simp only [Tr.mirror, Tr.forks, iha, ihb]; omega

theorem Tr.word_length (t : Tr) : t.word.length = 2 * t.forks + 1 := by
  induction t with
  | leaf => rfl
  | fork a b iha ihb => simp only [Tr.word, Tr.forks, List.length_cons, List.length_append, iha, ihb]; omega

/-- what a call of the def at f comes to, wherever it is called: Post says it of the rest -/
noncomputable def CallOK (w : World) (mean : ExcName → Option Value) (mg mb : Str → Option Value) (f : Addr) (k : Nat) (vs : List Value) (news : List (Addr × Obj)) (Post : (Value → List (Addr × Obj) → Prop) → Prop) : Prop :=
  ∀ (dp un : Nat) (gd : Option (List Code)) (cn : Str) (cs : Scope) (a : Addr) (ccd : Value) (cl : List (Str × Addr)) (outer : List Env) (A₀ : Around) (base h₀ h : Heap) (L : Addr) (m : Str → Option Value) (gs : Array GenState) (dr : Drawn) (tk : Nat) (os : OsState)
    (Q E : Value → Shared → Prop),
    Below A₀ base outer h₀ → Fr h₀ L h m → (hd.heap_39 w.params).In h₀ → News h₀ L h news → Top hd.view_39 (looseW hd.view_39 [Str.ofString "_twin_re_1", Str.ofString "_twin_re_2"]) mean mg mb h₀ → cs.kind = .function → dp + k < recursionLimit → un + 8 * k + 100 < cLine →
    Post (fun r news' => ∀ h' tk', Fr h₀ L h' m → News h₀ L h' news' → Q r ⟨h', gs, dr, tk', os⟩) →
    wpAny (model PySem.Challenge.rw_zn0004_01.row.prog w) (ktrTop dp un gd cn cs L a ccd cl outer) (call (.ref f) vs) Q E ⟨h, gs, dr, tk, os⟩

theorem CallOK.use {w : World} {mean : ExcName → Option Value} {mg mb : Str → Option Value} {f : Addr} {k : Nat} {vs : List Value} {news : List (Addr × Obj)} {Post : (Value → List (Addr × Obj) → Prop) → Prop}
    {dp un : Nat} {gd : Option (List Code)} {cn : Str} {cs : Scope} {a : Addr} {ccd : Value} {cl : List (Str × Addr)} {outer : List Env} {A₀ : Around} {base h₀ h : Heap} {L : Addr} {m : Str → Option Value} {gs : Array GenState} {dr : Drawn} {tk : Nat} {os : OsState} {Q E : Value → Shared → Prop}
    (B : Below A₀ base outer h₀) (F : Fr h₀ L h m) (X : (hd.heap_39 w.params).In h₀) (N : News h₀ L h news) (T : Top hd.view_39 (looseW hd.view_39 [Str.ofString "_twin_re_1", Str.ofString "_twin_re_2"]) mean mg mb h₀) (C : CallOK w mean mg mb f k vs news Post) (hk : cs.kind = .function) (hd : dp + k < recursionLimit) (hu : un + 8 * k + 100 < cLine)
    (ret : Post (fun r news' => ∀ h' tk', Fr h₀ L h' m → News h₀ L h' news' → Q r ⟨h', gs, dr, tk', os⟩)) :
    wpAny (model PySem.Challenge.rw_zn0004_01.row.prog w) (ktrTop dp un gd cn cs L a ccd cl outer) (call (.ref f) vs) Q E ⟨h, gs, dr, tk, os⟩ := C _ _ _ _ _ _ _ _ _ _ _ _ _ _ _ _ _ _ _ _ _ B F X N T hk hd hu ret

theorem slice_ints_at {prog : Program} {w : World} {A : Around} {E : Value → Shared → Prop} {h₀ hp : Heap} {gs : Array GenState} {dr : Drawn} {tk : Nat} {os : OsState} {L l : Addr} {m : Str → Option Value} {news : List (Addr × Obj)} {value slice : PySem.Expr} {vs : List Value} {ns ms : List Int} {vl vu : Value} {lo hi : Option Int} {Q : Value → Shared → Prop}
    (F : Fr h₀ L hp m) (N : News h₀ L hp news) (hl : hp.IsList l vs.toArray) (pl : IsPart vl lo) (pu : IsPart vu hi) (hi' : IntsAre vs ns) (hm : IntsAre (slicePick vs.toArray lo hi none).toList ms)
    (h : ∀ D ws h', Fr h₀ L h' m → News h₀ L h' ((D, listOf (List.toArray ws) 0) :: news) → (∀ p ∈ news, p.1 < D) → IntsAre ws ms → Q (.ref D) ⟨h', gs, dr, tk, os⟩)
    (hs : subscripted slice false (.ref l) (.ref hp.objs.size) = operate [.ref hp.objs.size, .ref l] (getItem (.ref l) (.ref hp.objs.size))) (ht : ∀ r, letTemporaryGo value (.ref l) r = pure ()) (hz : vs.toArray.size ≤ sizeLine) :
    wpAny (model prog w) A (subscriptTail value slice (.ref l) (.ref hp.objs.size)) Q E ⟨hp.push { cls := .type "slice", data := .fields #[vl, vu, .none] }, gs, dr, tk, os⟩ :=
  kmk_slice_ints (s := ⟨hp, gs, dr, tk, os⟩) F N hl pl pu hi' hm rfl (fun D ws h' F' N' l1 hI _ _ => h D ws h' F' N' l1 hI) hs ht hz

theorem add_ints_at {prog : Program} {w : World} {A : Around} {E : Value → Shared → Prop} {h₀ hp : Heap} {gs : Array GenState} {dr : Drawn} {tk : Nat} {os : OsState} {L l b : Addr} {m : Str → Option Value} {news : List (Addr × Obj)} {vs ws : List Value} {ns ms : List Int} {Q : Value → Shared → Prop}
    (F : Fr h₀ L hp m) (N : News h₀ L hp news) (hl : hp.IsList l vs.toArray) (hb : hp.IsList b ws.toArray) (hi : IntsAre vs ns) (hj : IntsAre ws ms)
    (h : ∀ D us h', Fr h₀ L h' m → News h₀ L h' ((D, listOf (List.toArray us) 0) :: news) → (∀ p ∈ news, p.1 < D) → IntsAre us (ns ++ ms) → Q (.ref D) ⟨h', gs, dr, tk, os⟩) (hz : ns.length + ms.length ≤ sizeLine) :
    wpAny (model prog w) A (binaryOp .Add (.ref l) (.ref b)) Q E ⟨hp, gs, dr, tk, os⟩ :=
  add_lists_ints (s := ⟨hp, gs, dr, tk, os⟩) (vs := vs) (ws := ws) (hsz := hz) F N hl hb hi hj fun h' F' N' i => h _ _ h' F' N' (fun p hp' => Heap.lt_size (N p hp').1) i

theorem add_vals_at {prog : Program} {w : World} {A : Around} {E : Value → Shared → Prop} {h₀ hp : Heap} {gs : Array GenState} {dr : Drawn} {tk : Nat} {os : OsState} {L l b : Addr} {m : Str → Option Value} {news : List (Addr × Obj)} {vs ws : List Value} {Q : Value → Shared → Prop}
    (F : Fr h₀ L hp m) (N : News h₀ L hp news) (hl : hp.IsList l vs.toArray) (hb : hp.IsList b ws.toArray)
    (h : ∀ D h', Fr h₀ L h' m → News h₀ L h' ((D, listOf (vs ++ ws).toArray 0) :: news) → (∀ p ∈ news, p.1 < D) → Q (.ref D) ⟨h', gs, dr, tk, os⟩) (hz : vs.length + ws.length ≤ sizeLine) :
    wpAny (model prog w) A (binaryOp .Add (.ref l) (.ref b)) Q E ⟨hp, gs, dr, tk, os⟩ :=
  add_lists (s := ⟨hp, gs, dr, tk, os⟩) (vs := vs) (ws := ws) (hsz := hz) F N hl hb fun h' F' N' => h _ h' F' N' (fun p hp' => Heap.lt_size (N p hp').1)

structure Th where
  isFork : Bool
  fi : Int
  se : Int
  isFirst : Bool
 

noncomputable def Tr.things : Tr → Int → Int → Bool → List Th
  | .leaf, f, s, b => [⟨false, f, s, b⟩]
  | .fork x y, f, s, b => ⟨true, f, s, b⟩ :: (x.things (f + 1) s true ++ y.things f (s + 1) false)

theorem Tr.things_length (t : Tr) : ∀ f s b, (t.things f s b).length = 2 * t.forks + 1 := by
  induction t with
  | leaf => intro _ _ _; rfl
  | fork a b iha ihb => intro f s c; simp only [Tr.things, Tr.forks, List.length_cons, List.length_append, iha, ihb]; omega

abbrev thObj (th : Th) (t1 t2 : Tok) (n : Nat) : Obj := { cls := .type "tuple", data := .seq #[.bool th.isFork, .int th.fi t1, .int th.se t2, .bool th.isFirst] n }

/-- the ledger bears these things, one behind the other -/
inductive ThAre (news : List (Addr × Obj)) : List Value → List Th → Prop where
  | nil : ThAre news [] []
  | cons {a : Addr} {th : Th} {t1 t2 : Tok} {n : Nat} {vs : List Value} {ths : List Th} : (a, thObj th t1 t2 n) ∈ news → ThAre news vs ths → ThAre news (.ref a :: vs) (th :: ths)
theorem ThAre.mono {news news' : List (Addr × Obj)} {vs : List Value} {ths : List Th} (h : ThAre news vs ths) (hs : ∀ p ∈ news, p ∈ news') : ThAre news' vs ths := by
  induction h with
  | nil => exact .nil
  | cons hm _ ih => exact .cons (hs _ hm) ih
theorem ThAre.append {news : List (Addr × Obj)} {vs us : List Value} {ths tus : List Th} (h : ThAre news vs ths) (h' : ThAre news us tus) : ThAre news (vs ++ us) (ths ++ tus) := by
  induction h with
  | nil => exact h'
  | cons hm _ ih => exact .cons hm ih
theorem ThAre.length {news : List (Addr × Obj)} {vs : List Value} {ths : List Th} (h : ThAre news vs ths) : vs.length = ths.length := by
  induction h with
  | nil => rfl
  | cons hm _ ih => simp only [List.length_cons, ih]

theorem len_ints_at {prog : Program} {w : World} {A : Around} {E : Value → Shared → Prop} {h₀ hp : Heap} {gs : Array GenState} {dr : Drawn} {tk : Nat} {os : OsState} {L l : Addr} {news : List (Addr × Obj)} {vs : List Value} {ns : List Int} {c : Nat} {Q : Value → Shared → Prop}
    (N : News h₀ L hp news) (hm : (l, listOf vs.toArray c) ∈ news) (hi : IntsAre vs ns) (hz : ns.length ≤ 1000) (h : Q (.int ns.length (tk + 1)) ⟨hp, gs, dr, tk + 1 + 1, os⟩) :
    wpAny (model prog w) A (call (.builtin "len") [.ref l]) Q E ⟨hp, gs, dr, tk, os⟩ :=
  PyProof.Rows.len_list (s := ⟨hp, gs, dr, tk, os⟩) (News.isList N hm) (by rw [List.size_toArray, hi.length]; omega) (by rw [List.size_toArray, hi.length]; exact h)
theorem len_any_at {prog : Program} {w : World} {A : Around} {E : Value → Shared → Prop} {h₀ hp : Heap} {gs : Array GenState} {dr : Drawn} {tk : Nat} {os : OsState} {L l : Addr} {news : List (Addr × Obj)} {vs : List Value} {c : Nat} {Q : Value → Shared → Prop}
    (N : News h₀ L hp news) (hm : (l, listOf vs.toArray c) ∈ news) (hz : vs.length ≤ 1000) (h : Q (.int vs.length (tk + 1)) ⟨hp, gs, dr, tk + 1 + 1, os⟩) :
    wpAny (model prog w) A (call (.builtin "len") [.ref l]) Q E ⟨hp, gs, dr, tk, os⟩ :=
  PyProof.Rows.len_list (s := ⟨hp, gs, dr, tk, os⟩) (News.isList N hm) (by rw [List.size_toArray]; omega) (by rw [List.size_toArray]; exact h)

/-- the same, where the call reads a list that stood before -/
noncomputable def CallOKB (w : World) (mean : ExcName → Option Value) (mg mb : Str → Option Value) (f : Addr) (k : Nat) (vs : List Value) (news : List (Addr × Obj)) (l : Addr) (its : Array Value) (Post : (Value → List (Addr × Obj) → Prop) → Prop) : Prop :=
  ∀ (dp un : Nat) (gd : Option (List Code)) (cn : Str) (cs : Scope) (a : Addr) (ccd : Value) (cl : List (Str × Addr)) (outer : List Env) (A₀ : Around) (base h₀ h : Heap) (L : Addr) (m : Str → Option Value) (gs : Array GenState) (dr : Drawn) (tk : Nat) (os : OsState)
    (Q E : Value → Shared → Prop), base.IsList l its →
    Below A₀ base outer h₀ → Fr h₀ L h m → (hd.heap_39 w.params).In h₀ → News h₀ L h news → Top hd.view_39 (looseW hd.view_39 [Str.ofString "_twin_re_1", Str.ofString "_twin_re_2"]) mean mg mb h₀ → cs.kind = .function → dp + k < recursionLimit → un + 8 * k + 100 < cLine →
    Post (fun r news' => ∀ h' tk', Fr h₀ L h' m → News h₀ L h' news' → Q r ⟨h', gs, dr, tk', os⟩) →
    wpAny (model PySem.Challenge.rw_zn0004_01.row.prog w) (ktrTop dp un gd cn cs L a ccd cl outer) (call (.ref f) vs) Q E ⟨h, gs, dr, tk, os⟩
theorem CallOKB.use {w : World} {mean : ExcName → Option Value} {mg mb : Str → Option Value} {f : Addr} {k : Nat} {vs : List Value} {news : List (Addr × Obj)} {l : Addr} {its : Array Value} {Post : (Value → List (Addr × Obj) → Prop) → Prop}
    {dp un : Nat} {gd : Option (List Code)} {cn : Str} {cs : Scope} {a : Addr} {ccd : Value} {cl : List (Str × Addr)} {outer : List Env} {A₀ : Around} {base h₀ h : Heap} {L : Addr} {m : Str → Option Value} {gs : Array GenState} {dr : Drawn} {tk : Nat} {os : OsState} {Q E : Value → Shared → Prop}
    (B : Below A₀ base outer h₀) (F : Fr h₀ L h m) (X : (hd.heap_39 w.params).In h₀) (N : News h₀ L h news) (T : Top hd.view_39 (looseW hd.view_39 [Str.ofString "_twin_re_1", Str.ofString "_twin_re_2"]) mean mg mb h₀) (C : CallOKB w mean mg mb f k vs news l its Post) (hb : base.IsList l its) (hk : cs.kind = .function) (hd : dp + k < recursionLimit) (hu : un + 8 * k + 100 < cLine)
    (ret : Post (fun r news' => ∀ h' tk', Fr h₀ L h' m → News h₀ L h' news' → Q r ⟨h', gs, dr, tk', os⟩)) :
    wpAny (model PySem.Challenge.rw_zn0004_01.row.prog w) (ktrTop dp un gd cn cs L a ccd cl outer) (call (.ref f) vs) Q E ⟨h, gs, dr, tk, os⟩ := C _ _ _ _ _ _ _ _ _ _ _ _ _ _ _ _ _ _ _ _ _ hb B F X N T hk hd hu ret

noncomputable def Stopped (P : Prop) : Prop := P
theorem stop_of {P : Prop} (h : Stopped P) : P := h

noncomputable def LtAll (d : Addr) (news : List (Addr × Obj)) : Prop := ∀ p ∈ news, p.1 < d
theorem LtAll.ne {d c : Addr} {news : List (Addr × Obj)} (h : LtAll d news) (hc : @LE.le Nat _ d c) : ∀ p ∈ news, p.1 ≠ c := fun p hp e => by
  have h1 : @LT.lt Nat _ p.1 d := h p hp
  have h2 : @Eq Nat p.1 c := e
  omega

theorem LtAll.lt {d c : Addr} {news : List (Addr × Obj)} (h : LtAll d news) (hc : @LE.le Nat _ d c) : ∀ p ∈ news, p.1 < c := fun p hp => by
  have h1 : @LT.lt Nat _ p.1 d := h p hp
  show @LT.lt Nat _ p.1 c
  omega

theorem allLt_mem {d : Addr} : ∀ {l : List (Addr × Obj)}, AllLt d l → ∀ p ∈ l, p.1 < d
  | [], _, _, hp => (nomatch hp)
  | _ :: _, h, p, hp => by
    rcases List.mem_cons.mp hp with rfl | hp
    · exact h.1
    · exact allLt_mem h.2 p hp
theorem news_sub {h₀ h : Heap} {L : Addr} {news news' : List (Addr × Obj)} (N : News h₀ L h news) (hs : ∀ p ∈ news', p ∈ news) : News h₀ L h news' := fun p hp => N p (hs p hp)

end Mine
end

section
open PySem PySem.W PyProof.Rows
namespace Mine

noncomputable def TurnEnd (h₀ : Heap) (L : Addr) (Jn : (Str → Option Value) → List (Addr × Obj) → Prop) (I : Addr) (oI : Obj) (s₁ s₂ : Shared) : Prop :=
  ∃ h' tk m' nx, s₂ = { s₁ with heap := h', toks := tk } ∧ Fr h₀ L h' m' ∧ News h₀ L h' ((I, oI) :: nx) ∧ (∀ p ∈ nx, @Ne Nat p.1 I) ∧ Jn m' nx
noncomputable def TurnPost (h₀ : Heap) (L : Addr) (Jn : (Str → Option Value) → List (Addr × Obj) → Prop) (I : Addr) (oI : Obj) (s₁ : Shared) (Q : Flow → Shared → Prop) (f : Flow) (s₂ : Shared) : Prop :=
  match f with
  | .ret v => Q (.ret v) s₂
  | .brk => Q .next s₂
  | _ => TurnEnd h₀ L Jn I oI s₁ s₂
theorem TurnPost.next {h₀ h' : Heap} {L : Addr} {Jn : (Str → Option Value) → List (Addr × Obj) → Prop} {I : Addr} {oI : Obj} {h : Heap} {gs : Array GenState} {dr : Drawn} {tk tk' : Nat} {os : OsState} {Q : Flow → Shared → Prop} {m' : Str → Option Value} {nx all : List (Addr × Obj)}
    (F : Fr h₀ L h' m') (N : News h₀ L h' all) (hs : ∀ p ∈ (I, oI) :: nx, p ∈ all) (ho : ∀ p ∈ nx, @Ne Nat p.1 I) (hJ : Jn m' nx) : TurnPost h₀ L Jn I oI ⟨h, gs, dr, tk, os⟩ Q .next ⟨h', gs, dr, tk', os⟩ :=
  ⟨h', tk', m', nx, rfl, F, fun p hp => N p (hs p hp), ho, hJ⟩

section
variable {prog : Program} {w : World} {A : Around} {E : Value → Shared → Prop} {env : Env} {h₀ hp : Heap} {gs : Array GenState} {dr : Drawn} {tk₀ : Nat} {os : OsState} {x : Str} {body : List Stmt} {Q : Flow → Shared → Prop}

theorem loop_any {I : Addr} {fp : List Addr} {n : Nat} {P : Nat → Value → Prop} {St : Nat → Heap → Prop} {m₀ : Str → Option Value} {news : List (Addr × Obj)} (J : Nat → (Str → Option Value) → List (Addr × Obj) → Prop)
    (W : Walks prog w A I fp [I] n P St) (hLf : env.locals ∉ fp) (hI : h₀.get? I = none) (hnw : ∀ p ∈ news, p.1 ≠ I) (hIo : ∀ i h, St i h → ∃ o, h.get? I = some o)
    (hfp : ∀ b ∈ fp, b ≠ I → (∃ o, ∀ i m nx, J i m nx → (b, o) ∈ nx) ∨ ∃ o, h₀.get? b = some o)
    (hst : St 0 hp) (F : Fr h₀ env.locals hp m₀) (N : News h₀ env.locals hp news) (hj : J 0 m₀ news)
    (turn : ∀ i v m₁ nx h tk oI, i < n → P i v → J i m₁ nx → (∀ p ∈ nx, @Ne Nat p.1 I) → Fr h₀ env.locals h (fun y => if y = x then some v else m₁ y) → News h₀ env.locals h ((I, oI) :: nx) →
      wpAny (model prog w) A (execs body env) (TurnPost h₀ env.locals (J (i + 1)) I oI ⟨h, gs, dr, tk, os⟩ Q) E ⟨h, gs, dr, tk, os⟩)
    (done : ∀ m₁ nx h tk, J n m₁ nx → Fr h₀ env.locals h m₁ → News h₀ env.locals h nx → Q .next ⟨h, gs, dr, tk, os⟩) :
    LoopAtV prog w A h₀ env x body Q E (.ref I) ⟨hp, gs, dr, tk₀, os⟩ := by
  have hIf : I ∈ fp := W.sub I (List.mem_singleton.mpr rfl)
  refine ⟨I, fp, [I], n, P, St, m₀, news, J, rfl, W, hLf, ?_, ?_, hst, F, N, hj, ?_, ?_⟩
  · intro b hb
    rw [List.mem_singleton.mp hb]
    exact hI
  · intro p hp' hb
    exact hnw p hp' (List.mem_singleton.mp hb)
  · rintro i v m₁ nx s₁ own ⟨h, tk, rfl⟩ hi hP hJ hoff hsub hget hall hst₁ F₁ N₁
    obtain ⟨oI, hoI⟩ := hIo _ _ hst₁
    have hmI : (I, oI) ∈ own := hall I hIf hI oI hoI
    have hne : ∀ p ∈ nx, p.1 ≠ I := fun p hp' e => hoff p hp' (List.mem_singleton.mpr e)
    have N₂ : News h₀ env.locals h ((I, oI) :: nx) := fun p hp' => by
      rcases List.mem_cons.mp hp' with rfl | hp'
      · exact N₁ _ (List.mem_append_left _ hmI)
      · exact N₁ p (List.mem_append_right _ hp')
    refine wpAny_mono (turn i v m₁ nx h tk oI hi hP hJ hne F₁ N₂) (fun f s₂ p => ?_) fun _ _ e => e
    have fin : TurnEnd h₀ env.locals (J (i + 1)) I oI ⟨h, gs, dr, tk, os⟩ s₂ → LoopStepU h₀ env.locals [I] own (J (i + 1)) ⟨h, gs, dr, tk, os⟩ .next s₂ := by
      rintro ⟨h', tk', m', nx', rfl, F', N', ho, hJ'⟩
      refine ⟨rfl, h', tk', m', nx', rfl, F', fun q hq => ?_, fun q hq hb => ho q hq (List.mem_singleton.mp hb), hJ'⟩
      rcases List.mem_append.mp hq with hq | hq
      · by_cases e : q.1 = I
        · have h1 := hget q hq
          have h2 : h.get? q.1 = some q.2 := h1
          rw [e, hoI] at h2
          have h3 : q = (I, oI) := Prod.ext e (Option.some.inj h2).symm
          rw [h3]
          exact N' _ (.head _)
        · rcases hfp q.1 (hsub q hq) e with ⟨o, hJo⟩ | ⟨o, hb⟩
          · have h1 := (N₂ (q.1, o) (.tail _ (hJo _ _ _ hJ))).1
            have h2 : h.get? q.1 = some q.2 := hget q hq
            have h4 : h.get? q.1 = some o := h1
            rw [h2] at h4
            have h3 : q = (q.1, o) := Prod.ext rfl (Option.some.inj h4)
            rw [h3]
            exact N' _ (.tail _ (hJo _ _ _ hJ'))
          · have h1 := (N₁ q (List.mem_append_left _ hq)).2.2
            rw [hb] at h1
            cases h1
      · exact N' q (.tail _ hq)
    cases f with
    | ret v => exact .ret p
    | brk => exact .brk p
    | next => exact .next (fin p)
    | cont => exact .cont (fin p)
  · intro h' tk' m' nx' F' N' _ hJ'
    exact done m' nx' h' tk' hJ' F' N'

theorem loop_range {r : Addr} {a₀ b₀ : Int} {t₀ u₀ v₀ : Tok} {n : Nat} {m₀ : Str → Option Value} {news : List (Addr × Obj)} (J : Nat → (Str → Option Value) → List (Addr × Obj) → Prop)
    (hh : A.handled = none) (hr : IsRange hp r a₀ b₀ 1 t₀ u₀ v₀) (hsmall : Builtin.Range.small a₀ b₀ 1 = true) (hn : Builtin.Range.rangeSize a₀ b₀ 1 = (n : Int)) (F : Fr h₀ env.locals hp m₀) (N : News h₀ env.locals hp news) (hj : J 0 m₀ news)
    (turn : ∀ i t m₁ nx h tk I oI, i < n → J i m₁ nx → (∀ p ∈ nx, @Ne Nat p.1 I) → Fr h₀ env.locals h (fun y => if y = x then some (.int (a₀ + (i : Nat)) t) else m₁ y) → News h₀ env.locals h ((I, oI) :: nx) →
      wpAny (model prog w) A (execs body env) (TurnPost h₀ env.locals (J (i + 1)) I oI ⟨h, gs, dr, tk, os⟩ Q) E ⟨h, gs, dr, tk, os⟩)
    (done : ∀ m₁ nx h tk, J n m₁ nx → Fr h₀ env.locals h m₁ → News h₀ env.locals h nx → Q .next ⟨h, gs, dr, tk, os⟩) :
    wpAny (model prog w) A (pyIter (.ref r)) (fun it s₂ => LoopAtV prog w A h₀ env x body Q E it s₂) E ⟨hp, gs, dr, tk₀, os⟩ := by
  refine wpAny_pyIter_range hr hsmall ?_
  refine loop_any J (LCg.range_walks (I := hp.objs.size) hh a₀ n) ?_ ?_ ?_ (fun i h st => ⟨_, st⟩) ?_ (by show IsRangeIter _ _ _ _ _; rw [hn]; simpa using Heap.get?_push_size _ rfl) (F.push _) (fun p hp => ⟨Heap.get?_push_of_some _ (N p hp).1, (N p hp).2⟩) hj ?_ done
  · intro hm
    exact absurd F.ns.lt ((List.mem_singleton.mp hm) ▸ Nat.lt_irrefl _)
  · exact next_is_new F
  · intro p hp' e
    exact absurd (Heap.lt_size (N p hp').1) (e ▸ Nat.lt_irrefl _)
  · intro b hb hne
    exact absurd (List.mem_singleton.mp hb) hne
  · rintro i v m₁ nx h tk oI hi ⟨t, rfl⟩ hJ hne F₁ N₁
    exact turn i t m₁ nx h tk _ oI hi hJ hne F₁ N₁

theorem loop_list {l : Addr} {vs : List Value} {c : Nat} {m₀ : Str → Option Value} {news : List (Addr × Obj)} (J : Nat → (Str → Option Value) → List (Addr × Obj) → Prop)
    (hh : A.handled = none) (hl : ∀ i m nx, J i m nx → (l, listOf vs.toArray c) ∈ nx) (F : Fr h₀ env.locals hp m₀) (N : News h₀ env.locals hp news) (hj : J 0 m₀ news)
    (turn : ∀ i v m₁ nx h tk I oI, i < vs.length → vs[i]? = some v → J i m₁ nx → (∀ p ∈ nx, @Ne Nat p.1 I) → Fr h₀ env.locals h (fun y => if y = x then some v else m₁ y) → News h₀ env.locals h ((I, oI) :: nx) →
      wpAny (model prog w) A (execs body env) (TurnPost h₀ env.locals (J (i + 1)) I oI ⟨h, gs, dr, tk, os⟩ Q) E ⟨h, gs, dr, tk, os⟩)
    (done : ∀ m₁ nx h tk, J vs.length m₁ nx → Fr h₀ env.locals h m₁ → News h₀ env.locals h nx → Q .next ⟨h, gs, dr, tk, os⟩) :
    wpAny (model prog w) A (pyIter (.ref l)) (fun it s₂ => LoopAtV prog w A h₀ env x body Q E it s₂) E ⟨hp, gs, dr, tk₀, os⟩ := by
  have hm := hl _ _ _ hj
  have hls : hp.IsList l vs.toArray := ⟨_, (N _ hm).1, rfl, c, rfl⟩
  have hlt : l < hp.objs.size := Heap.lt_size (N _ hm).1
  refine wpAny_pyIter_list hls ?_
  have W := Walks.list (prog := prog) (w := w) hh hp.objs.size l (Nat.ne_of_lt hlt) vs.toArray
  have e : vs.toArray.size = vs.length := by simp
  rw [e] at W
  refine loop_any J W ?_ ?_ ?_ (fun i h st => by obtain ⟨o, q, _⟩ := st.1; exact ⟨o, q⟩) ?_ ⟨⟨_, Heap.get?_push_size _ rfl, rfl, rfl⟩, hls.push _⟩ (F.push _) (fun p hp => ⟨Heap.get?_push_of_some _ (N p hp).1, (N p hp).2⟩) hj ?_ done
  · intro hm'
    rcases List.mem_cons.mp hm' with q | q
    · exact absurd F.ns.lt (q ▸ Nat.lt_irrefl _)
    · exact (N _ hm).2.1 (List.mem_singleton.mp q).symm
  · exact next_is_new F
  · intro p hp' e
    exact absurd (Heap.lt_size (N p hp').1) (e ▸ Nat.lt_irrefl _)
  · intro b hb hne
    rcases List.mem_cons.mp hb with q | q
    · exact absurd q hne
    · rw [List.mem_singleton.mp q]
      exact .inl ⟨_, hl⟩
  · intro i v m₁ nx h tk oI hi hP hJ hne F₁ N₁
    exact turn i v m₁ nx h tk _ oI hi (by simpa using hP) hJ hne F₁ N₁

/-- a frame whose map holds these: they are read off it -/
theorem fr_kst {L : Addr} {h : Heap} {m : Str → Option Value} {v : Value} (ps : List (Str × Value)) (h1 : ∀ p ∈ ps, m p.1 = some p.2) (F : Fr h₀ L h (fun y => if y = x then some v else m y)) :
    Fr h₀ L h (fun y => if y = x then some v else kstB m ps y) := by
  have e : (fun y => if y = x then some v else kstB m ps y) = fun y => if y = x then some v else m y := by
    funext y
    by_cases hy : y = x
    · rw [if_pos hy, if_pos hy]
    · rw [if_neg hy, if_neg hy]
      exact kstB_eq h1 fun _ => rfl
  rw [e]
  exact F
theorem fr_kst0 {L : Addr} {h : Heap} {m : Str → Option Value} (ps : List (Str × Value)) (h1 : ∀ p ∈ ps, m p.1 = some p.2) (F : Fr h₀ L h m) : Fr h₀ L h (kstB m ps) := by
  have e : kstB m ps = m := by
    funext y
    exact kstB_eq h1 fun _ => rfl
  rw [e]
  exact F
end

section
variable {prog : Program} {w : World} {A : Around} {s : Shared} {h₀ : Heap} {L : Addr} {m : Str → Option Value} {env : Env}
/-- a comprehension whose turns keep nothing that they make -/
theorem comp_ind {elt : Expr} {x : Str} {scope : Scope} {cl : List (Str × Addr)} {S : List (Addr × Obj) → Prop} {P : Nat → Value → Prop} {Fin : List Value → List (Addr × Obj) → Prop} {news : List (Addr × Obj)} {n : Nat} (Inv : Nat → List Value → Prop)
    (hS : S news) (h0 : Inv 0 []) (fin : ∀ ys, Inv n ys → Fin ys news)
    (turn : ∀ i v ys I oI C oC D m₂ h tk (E' : Value → Shared → Prop), i < n → P i v → Inv i ys → LCg.NsObj oC m₂ → m₂ x = some v → Fr h₀ L h m → News h₀ L h ((I, oI) :: (C, oC) :: (D, LCg.lst ys) :: news) →
      wpAny (model prog w) A (eval elt (compEnvC scope cl C env)) (fun y s' => ∃ h' tk', s' = ⟨h', s.gens, s.drawn, tk', s.os⟩ ∧ Fr h₀ L h' m ∧ News h₀ L h' ((I, oI) :: (C, oC) :: (D, LCg.lst ys) :: news) ∧ Inv (i + 1) (ys ++ [y])) E' ⟨h, s.gens, s.drawn, tk, s.os⟩) :
    LCg.CompRest prog w A h₀ L m env elt x scope cl s S P Fin n 0 [] news := by
  have go : ∀ k i ys, i + k = n → Inv i ys → LCg.CompRest prog w A h₀ L m env elt x scope cl s S P Fin k i ys news := by
    intro k
    induction k with
    | zero =>
      intro i ys e hi
      have e' : i = n := by omega
      rw [e'] at hi
      exact fin ys hi
    | succ k ih =>
      intro i ys e hi
      refine LCg.CompRest.succ ?_
      intro v I oI C oC D m₂ h tk E' hP hC hx F N off ne
      refine wpAny_mono (turn i v ys I oI C oC D m₂ h tk E' (by omega) hP hi hC hx F N) (fun y s' q => ?_) fun _ _ e => e
      obtain ⟨h', tk', rfl, F', N', hI⟩ := q
      exact ⟨h', tk', news, rfl, F', N', off, hS, ih (i + 1) _ (by omega) hI⟩
  exact go n 0 [] (by omega) h0

theorem compT_ind {ct elt : Expr} {x : Str} {scope : Scope} {cl : List (Str × Addr)} {S : List (Addr × Obj) → Prop} {P : Nat → Value → Prop} {Fin : List Value → List (Addr × Obj) → Prop} {news : List (Addr × Obj)} {n : Nat} (Inv : Nat → List Value → Prop)
    (hS : S news) (h0 : Inv 0 []) (fin : ∀ ys, Inv n ys → Fin ys news)
    (turn : ∀ i v ys I oI C oC D m₂ h tk (E' : Value → Shared → Prop), i < n → P i v → Inv i ys → LCg.NsObj oC m₂ → m₂ x = some v → Fr h₀ L h m → News h₀ L h ((I, oI) :: (C, oC) :: (D, LCg.lst ys) :: news) →
      wpAny (model prog w) A (isTrue ct (compEnvC scope cl C env) (eval ct (compEnvC scope cl C env))) (fun ok s' => if ok = true then
        wpAny (model prog w) A (eval elt (compEnvC scope cl C env)) (fun y s' => ∃ h' tk', s' = ⟨h', s.gens, s.drawn, tk', s.os⟩ ∧ Fr h₀ L h' m ∧ News h₀ L h' ((I, oI) :: (C, oC) :: (D, LCg.lst ys) :: news) ∧ Inv (i + 1) (ys ++ [y])) E' s'
        else ∃ h' tk', s' = ⟨h', s.gens, s.drawn, tk', s.os⟩ ∧ Fr h₀ L h' m ∧ News h₀ L h' ((I, oI) :: (C, oC) :: (D, LCg.lst ys) :: news) ∧ Inv (i + 1) ys) E' ⟨h, s.gens, s.drawn, tk, s.os⟩) :
    LCt.CompRestT prog w A h₀ L m env ct elt x scope cl s S P Fin n 0 [] news := by
  have go : ∀ k i ys, i + k = n → Inv i ys → LCt.CompRestT prog w A h₀ L m env ct elt x scope cl s S P Fin k i ys news := by
    intro k
    induction k with
    | zero =>
      intro i ys e hi
      have e' : i = n := by omega
      rw [e'] at hi
      exact fin ys hi
    | succ k ih =>
      intro i ys e hi
      refine LCt.CompRestT.succ ?_
      intro v I oI C oC D m₂ h tk E' hP hC hx F N off ne
      refine wpAny_mono (turn i v ys I oI C oC D m₂ h tk E' (by omega) hP hi hC hx F N) (fun ok s' q => ?_) fun _ _ e => e
      cases ok with
      | true =>
        simp only [if_true] at q ⊢
        refine wpAny_mono q (fun y s' q => ?_) fun _ _ e => e
        obtain ⟨h', tk', rfl, F', N', hI⟩ := q
        exact ⟨h', tk', news, rfl, F', N', off, hS, ih (i + 1) _ (by omega) hI⟩
      | false =>
        simp only [Bool.false_eq_true, if_false] at q ⊢
        obtain ⟨h', tk', rfl, F', N', hI⟩ := q
        exact ⟨h', tk', news, rfl, F', N', off, hS, ih (i + 1) _ (by omega) hI⟩
  exact go n 0 [] (by omega) h0
end
end Mine
end

section
open PySem PySem.W PyProof.Rows
namespace Mine
local macro_rules | `(tactic| walk_at "my mem") => `(tactic| first | exact List.Mem.head _ | (refine List.Mem.tail _ ?_; walk_at "my mem") | assumption)
local macro_rules | `(tactic| k_mem) => `(tactic| walk_at "my mem")
local macro_rules | `(tactic| walk_at "my nums") => `(tactic| first
  | (with_reducible refine' kmk_all ?zqA; (case zqA => l_ints))
  | (with_reducible refine' kmk_from ?zqA ?zqB; (case zqA => l_ints); (case zqB => kmk_sign))
  | (with_reducible refine' kmk_upto ?zqA ?zqB; (case zqA => l_ints); (case zqB => kmk_sign))
  | (with_reducible refine' kmk_run ?zqA ?zqB ?zqC; (case zqA => l_ints); (case zqB => kmk_sign); (case zqC => kmk_sign)))
local macro_rules | `(tactic| walk_at "subscriptTail Name Slice ref ref") => `(tactic| (k_here; (try dsimp only); k_dflt (refine' slice_ints_at ?zqF ?zqN ?zql ?zqp ?zqq ?zqi ?zqm ?_ ?zqs ?zqt ?zqz; (case zqF => k_asm); (case zqN => k_asm); (case zql => kmk_list); (case zqp => kmk_part); (case zqq => kmk_part); (case zqi => l_ints); (case zqm => walk_at "my nums"); (case zqs => with_unfolding_all rfl); (case zqt => kmk_pure); (case zqz => kmk_size)); intro D' ws' h' F' N' l1 hI'; (try simp only [Int.reduceNeg, Int.neg_neg, Int.reduceToNat] at hI'); (try k_lt l1); (try k_sweep)))
local macro_rules | `(tactic| walk_at "my ints") => `(tactic| first | (with_reducible assumption) | (repeat' (first | exact IntsAre.nil | apply IntsAre.cons)))
local macro_rules | `(tactic| walk_at "compareOp Eq ref ref") => `(tactic| (k_here; (with_reducible show wpAny _ _ (compareOp CmpOp.Eq (Value.ref _) (Value.ref _)) _ _ _); (try dsimp only); k_dflt (refine' eq_intsK ?zqA ?zqB ?zqC ?zqD ?zqE ?_; (case zqA => kmk_list); (case zqB => walk_at "my ints"); (case zqC => kmk_list); (case zqD => walk_at "my ints"); (case zqE => ktr_units))))
local macro_rules | `(tactic| walk_at "my call") => `(tactic| (refine' CallOK.use ?zqB ?zqF ?zqX ?zqN ?zqT ?zqC ?zqk ?zqd ?zqu ?_; (case zqB => k_asm); (case zqF => k_asm); (case zqX => k_asm); (case zqN => k_asm); (case zqT => k_asm)))
local macro_rules | `(tactic| walk_at "my call end") => `(tactic| ((case zqk => first | exact rfl | assumption); (case zqd => ktr_room); (case zqu => ktr_units)))
local macro_rules | `(tactic| walk_at "my size") => `(tactic| first | (simp only [sizeLine_eq, List.length_append, List.length_cons, List.length_nil, Tr.word_length, Tr.mirror_forks, Tr.forks]; omega) | size_fits)
local macro_rules | `(tactic| walk_at "binaryOp Add ref ref") => `(tactic| (k_here; (try dsimp only); k_dflt (refine' add_ints_at ?zqF ?zqN ?zql ?zqp ?zqi ?zqj ?_ ?zqz; (case zqF => k_asm); (case zqN => k_asm); (case zql => kmk_list); (case zqp => kmk_list); (case zqi => walk_at "my ints"); (case zqj => walk_at "my ints"); (case zqz => walk_at "my size")); intro D' ws' h' F' N' l1 hI'; (try k_lt l1); (try k_sweep)))
local macro_rules | `(tactic| k_all) => `(tactic| exact LtAll.ne (by assumption) (by omega))
local macro_rules | `(tactic| is_list) => `(tactic| exact News.isList (by k_asm) (by k_mem))
local macro_rules | `(tactic| news_mem) => `(tactic| k_mem)
local macro_rules | `(tactic| walk_at "eval ListComp") => `(tactic| (k_here; lct_look; lcg_calm; k_dflt (refine LCt.ListComp_T (F₀ := by k_asm) (by with_unfolding_all rfl) (by decide) (by rfl) (by decide) (by rfl) ?_)))
local macro_rules | `(tactic| walk_at "exec Assign cons ListComp") => `(tactic| (k_here; lct_look; lcg_calm; k_dflt (refine LCt.Assign_ListComp_T (F₀ := by k_asm) (by rfl) (by with_unfolding_all rfl) (by with_unfolding_all rfl) (by decide) (by rfl) (by decide) (by rfl) (by rfl) (by rfl) ?_)))
local macro_rules | `(tactic| walk_at "my len") => `(tactic| first | omega | (simp only [List.length_append, List.length_cons, List.length_nil, Tr.word_length, Tr.mirror_forks]; omega))
local macro_rules | `(tactic| walk_at "call builtin:len") => `(tactic| (k_here; (with_reducible show wpAny _ _ (call (Value.builtin "len") [Value.ref _]) _ _ _); (try dsimp only); k_dflt (refine' len_ints_at ?zqN ?zqm ?zqi ?zqz ?_; (case zqN => k_asm); (case zqm => k_mem); (case zqi => walk_at "my ints"); (case zqz => walk_at "my len"))))
section
open PySem PySem.W PyProof.Rows
set_option maxRecDepth 100000
set_option maxHeartbeats 8000000

/-- what holds between two turns -/
noncomputable def BrInv (x y : Tr) (mi la : Int) : Prop :=
  ∃ ts : List Tr, la = ts.length ∧ 1 ≤ mi ∧ (Tr.word (.fork x y)).drop mi.toNat = (ts.flatMap Tr.word) ++ y.word ∧ mi ≤ (Tr.word (.fork x y)).length

theorem BrInv.start (x y : Tr) : BrInv x y 1 1 := ⟨[x], rfl, by decide, by simp [Tr.word], by simp only [Tr.word, List.length_cons]; omega⟩

theorem BrInv.facts {x y : Tr} {mi la : Int} (h : BrInv x y mi la) : 1 ≤ mi ∧ mi < (Tr.word (.fork x y)).length := by
  obtain ⟨ts, h1, h2, h3, h4⟩ := h
  refine ⟨h2, ?_⟩
  have := congrArg List.length h3
  rw [List.length_drop, List.length_append, Tr.word_length y] at this
  omega

theorem BrInv.item {x y : Tr} {mi la : Int} (h : BrInv x y mi la) (hl : 0 < la) :
    ((Tr.word (.fork x y)).getD mi.toNat 0 = 13 ∧ BrInv x y (mi + 1) (la + 1)) ∨ ((Tr.word (.fork x y)).getD mi.toNat 0 = 10 ∧ BrInv x y (mi + 1) (la - 1)) := by
  have hf := h.facts
  obtain ⟨ts, h1, h2, h3, h4⟩ := h
  have e : (mi + 1).toNat = mi.toNat + 1 := by omega
  have hd : (Tr.word (.fork x y)).getD mi.toNat 0 = ((Tr.word (.fork x y)).drop mi.toNat).getD 0 0 := by simp [List.getD_eq_getElem?_getD]
  have ht : (Tr.word (.fork x y)).drop (mi + 1).toNat = ((Tr.word (.fork x y)).drop mi.toNat).drop 1 := by rw [List.drop_drop, e]
  rw [h3] at hd ht
  match ts with
  | [] => simp at h1; omega
  | .leaf :: r =>
    refine .inr ⟨by rw [hd]; rfl, r, ?_, by omega, ?_, by omega⟩
    · simp at h1; omega
    · rw [ht]; rfl
  | .fork a b :: r =>
    refine .inl ⟨by rw [hd]; rfl, a :: b :: r, ?_, by omega, ?_, by omega⟩
    · simp at h1 ⊢; omega
    · rw [ht]; simp [Tr.word]

theorem BrInv.up {x y : Tr} {mi la : Int} (h : BrInv x y mi la) (hl : 0 < la) (e : (Tr.word (.fork x y)).getD mi.toNat 0 = 13) : BrInv x y (mi + 1) (la + 1) := by
  rcases h.item hl with h | h
  · exact h.2
  · rw [h.1] at e; exact absurd e (by decide)
theorem BrInv.down {x y : Tr} {mi la : Int} (h : BrInv x y mi la) (hl : 0 < la) (e : (Tr.word (.fork x y)).getD mi.toNat 0 ≠ 13) : BrInv x y (mi + 1) (la + -1) := by
  rcases h.item hl with h | h
  · exact absurd h.1 e
  · exact h.2

theorem BrInv.fin {x y : Tr} {mi la : Int} (h : BrInv x y mi la) (hl : ¬ 0 < la) : mi.toNat = x.word.length + 1 := by
  have hf := h.facts
  obtain ⟨ts, h1, h2, h3, h4⟩ := h
  obtain rfl : ts = [] := by cases ts with | nil => rfl | cons a r => simp at h1; omega
  have := congrArg List.length h3
  simp [Tr.word] at this hf
  omega
theorem BrInv.right {x y : Tr} {mi la : Int} (h : BrInv x y mi la) (hl : ¬ 0 < la) : (Tr.word (.fork x y)).drop mi.toNat = y.word := by
  rw [h.fin hl]; simp [Tr.word]
theorem BrInv.left {x y : Tr} {mi la : Int} (h : BrInv x y mi la) (hl : ¬ 0 < la) : ((Tr.word (.fork x y)).drop 1).take (min mi.toNat (Tr.word (.fork x y)).length - 1) = x.word := by
  rw [h.fin hl]
  have : min (x.word.length + 1) (Tr.word (.fork x y)).length - 1 = x.word.length := by simp only [Tr.word, List.length_cons, List.length_append]; omega
  rw [this]; simp [Tr.word]

theorem c_branches (w : World) (mean : ExcName → Option Value) (mg mb : Str → Option Value) (x y : Tr) (hok : x.forks + y.forks < 100) {a' : Addr} {vs : List Value} {n : Nat} {news : List (Addr × Obj)} (hm : (a', listOf vs.toArray n) ∈ news) (hi : IntsAre vs (Tr.word (.fork x y))) :
    CallOK w mean mg mb 109 1 [.ref a'] news fun k => ∀ p b c us ws, b < c → c < p → (∀ q ∈ news, q.1 < b) → IntsAre us x.word → IntsAre ws y.word →
      k (.ref p) ((p, { cls := .type "tuple", data := .seq #[.ref b, .ref c] }) :: (c, listOf (List.toArray ws) 0) :: (b, listOf (List.toArray us) 0) :: news) := by
  k_with_none
  w_top off
  unfold CallOK
  k_fill
  intro dp un gd cn cs a ccd cl outer A₀ base h₀ h L m gs dr tk os Q E B F X N T hk hd' hu hret
  have hlen : (Tr.word (.fork x y)).length ≤ 1000 := by rw [Tr.word_length]; simp only [Tr.forks]; omega
  refine wpAny_call ?_
  k_dflt ktr_enter
  k_with "exec While Compare cons nil" => (k_while (fun _ mi la => BrInv x y mi la) (fun _ mi _ => (1000 - mi).toNat) "middle" "lacking"; (obtain ⟨hf1, hf2⟩ := BrInv.facts kInv))
  k_with "state" => (first | exact BrInv.start _ _ | exact BrInv.up (by assumption) (by assumption) (by assumption) | exact BrInv.down (by assumption) (by assumption) (by assumption))
  k_steps
  rename ¬ (_ < _) => hla
  rename IntsAre _ (List.take _ _) => iL
  rename IntsAre _ (List.drop _ _) => iR
  rw [kInv.left hla] at iL
  rw [kInv.right hla] at iR
  rename Fr h₀ L _ _ => kF9
  rename News h₀ L _ _ => kN9
  rename (_ < _ ∧ _ < _ ∧ AllLt _ _) => l3
  rename (_ < _ ∧ AllLt _ _) => l2
  rename (∀ p ∈ news, p.1 < _) => l1
  exact hret _ _ _ _ _ l2.1 l3.1 l1 iL iR _ _ kF9 kN9
end

section
open PySem PySem.W PyProof.Rows
set_option maxRecDepth 100000
set_option maxHeartbeats 8000000
local macro_rules | `(tactic| walk_at "call ref") => `(tactic| (k_here; (with_reducible show wpAny _ _ (call (Value.ref 109) _) _ _ _); (try dsimp only); k_dflt (walk_at "my call"); (case zqC => exact c_branches _ _ _ _ _ _ (by assumption) (by k_mem) (by l_ints)); (walk_at "my call end"); intro p' b' c' us' ws' l1' l2' l3' i1' i2' h' tk' F' N'))
local macro_rules | `(tactic| walk_at "call ref") => `(tactic| (k_here; (with_reducible show wpAny _ _ (call (Value.ref 123) _) _ _ _); (try dsimp only); k_dflt (walk_at "my call"); (case zqC => k_extra "ih"); (walk_at "my call end"); intro c' us' l1' i1' h' tk' F' N'))

theorem c_mirror (w : World) (mean : ExcName → Option Value) (mg mb : Str → Option Value) (t : Tr) : t.forks < 100 → ∀ {a' : Addr} {vs : List Value} {n : Nat} {news : List (Addr × Obj)} (hm : (a', listOf vs.toArray n) ∈ news) (hi : IntsAre vs t.word),
    CallOK w mean mg mb 123 (t.forks + 2) [.ref a'] news fun k => ∀ c us, (∀ q ∈ news, q.1 < c) → IntsAre us t.mirror.word →
      k (.ref c) ((c, listOf (List.toArray us) 0) :: news) := by
  k_with_none
  w_top off
  induction t with
  | leaf =>
    intro hok a' vs n news hm hi
    unfold CallOK
    k_fill
    intro dp un gd cn cs a ccd cl outer A₀ base h₀ h L m gs dr tk os Q E B F X N T hk hd' hu hret
    simp only [Tr.forks] at hd' hu
    refine wpAny_call ?_
    k_dflt ktr_enter
    k_steps
    rename Fr h₀ L _ _ => kF9
    rename News h₀ L _ _ => kN9
    exact hret _ [_] (by (first | assumption | ((rename (_ < _ ∧ _) => l9); first | exact allLt_mem l9.2 | exact allLt_mem l9.2.2 | exact allLt_mem l9.2.2.2 | exact allLt_mem l9.2.2.2.2 | exact allLt_mem l9.2.2.2.2.2 | exact allLt_mem l9.2.2.2.2.2.2 | exact allLt_mem l9.2.2.2.2.2.2.2 | exact allLt_mem l9.2.2.2.2.2.2.2.2 | exact allLt_mem l9.2.2.2.2.2.2.2.2.2 | exact allLt_mem l9.2.2.2.2.2.2.2.2.2.2 | exact allLt_mem l9.2.2.2.2.2.2.2.2.2.2.2 | exact allLt_mem l9.2.2.2.2.2.2.2.2.2.2.2.2 | exact allLt_mem l9.2.2.2.2.2.2.2.2.2.2.2.2.2 | exact allLt_mem l9.2.2.2.2.2.2.2.2.2.2.2.2.2.2 | exact allLt_mem l9.2.2.2.2.2.2.2.2.2.2.2.2.2.2.2))) (.cons _ _ .nil) _ _ kF9 (news_sub kN9 (by ((intro p9 hp9; rcases List.mem_cons.mp hp9 with hq9 | hp9; (subst hq9; (repeat (first | exact List.mem_cons_self | apply List.mem_cons_of_mem))); (repeat (first | exact hp9 | apply List.mem_cons_of_mem))))))
  | fork x y ihx ihy =>
    intro hok a' vs n news hm hi
    unfold CallOK
    k_fill
    have hok' : x.forks + y.forks < 100 := by simp only [Tr.forks] at hok; omega
    have hxl := x.word_length
    have hyl := y.word_length
    intro dp un gd cn cs a ccd cl outer A₀ base h₀ h L m gs dr tk os Q E B F X N T hk hd' hu hret
    simp only [Tr.forks] at hd' hu
    refine wpAny_call ?_
    k_dflt ktr_enter
    k_with "ih" => (first | exact ihx (by omega) (by k_mem) (by l_ints) | exact ihy (by omega) (by k_mem) (by l_ints))
    k_steps
    · rename (Tr.fork x y).word = [10] => hw
      simp [Tr.word] at hw
    · rename Fr h₀ L _ _ => kF9
      rename News h₀ L _ _ => kN9
      rename IntsAre _ (_ ++ _ ++ _) => hI9
      exact hret _ _ (by (first | assumption | ((rename (_ < _ ∧ _) => l9); first | exact allLt_mem l9.2 | exact allLt_mem l9.2.2 | exact allLt_mem l9.2.2.2 | exact allLt_mem l9.2.2.2.2 | exact allLt_mem l9.2.2.2.2.2 | exact allLt_mem l9.2.2.2.2.2.2 | exact allLt_mem l9.2.2.2.2.2.2.2 | exact allLt_mem l9.2.2.2.2.2.2.2.2 | exact allLt_mem l9.2.2.2.2.2.2.2.2.2 | exact allLt_mem l9.2.2.2.2.2.2.2.2.2.2 | exact allLt_mem l9.2.2.2.2.2.2.2.2.2.2.2 | exact allLt_mem l9.2.2.2.2.2.2.2.2.2.2.2.2 | exact allLt_mem l9.2.2.2.2.2.2.2.2.2.2.2.2.2 | exact allLt_mem l9.2.2.2.2.2.2.2.2.2.2.2.2.2.2 | exact allLt_mem l9.2.2.2.2.2.2.2.2.2.2.2.2.2.2.2))) (by simpa [Tr.mirror, Tr.word] using hI9) _ _ kF9 (news_sub kN9 (by ((intro p9 hp9; rcases List.mem_cons.mp hp9 with hq9 | hp9; (subst hq9; (repeat (first | exact List.mem_cons_self | apply List.mem_cons_of_mem))); (repeat (first | exact hp9 | apply List.mem_cons_of_mem))))))
end

section
open PySem PySem.W PyProof.Rows
set_option maxRecDepth 100000
set_option maxHeartbeats 8000000
local macro_rules | `(tactic| walk_at "my none") => `(tactic| skip)
local macro_rules | `(tactic| walk_at "call ref") => `(tactic| (k_here; (with_reducible show wpAny _ _ (call (Value.ref 109) _) _ _ _); (try dsimp only); k_dflt (walk_at "my call"); (case zqC => exact c_branches _ _ _ _ _ _ (by assumption) (by k_mem) (by l_ints)); (walk_at "my call end"); intro p' b' c' us' ws' l1' l2' l3' i1' i2' h' tk' F' N'))
local macro_rules | `(tactic| walk_at "call ref") => `(tactic| (k_here; (with_reducible show wpAny _ _ (call (Value.ref 116) _) _ _ _); (try dsimp only); k_dflt (walk_at "my call"); (case zqC => k_extra "ih"); (walk_at "my call end"); intro c' us' l1' i1' h' tk' F' N'))
theorem Tr.behind_length (t : Tr) : t.behind.length = 2 * t.forks + 1 := by
  induction t with
  | leaf => rfl
  | fork a b iha ihb => simp only [Tr.behind, Tr.forks, List.length_cons, List.length_append, List.length_nil, iha, ihb]; omega

theorem c_behind (w : World) (mean : ExcName → Option Value) (mg mb : Str → Option Value) (t : Tr) : t.forks < 100 → ∀ {a' : Addr} {vs : List Value} {n : Nat} {news : List (Addr × Obj)} (_ : (a', listOf vs.toArray n) ∈ news) (_ : IntsAre vs t.word),
    CallOK w mean mg mb 116 (t.forks + 2) [.ref a'] news fun k => ∀ c us, (∀ q ∈ news, q.1 < c) → IntsAre us t.behind →
      k (.ref c) ((c, listOf (List.toArray us) 0) :: news) := by
  k_with_none
  w_top off
  induction t with
  | leaf =>
    intro hok a' vs n news hm hi
    unfold CallOK
    k_fill
    intro dp un gd cn cs a ccd cl outer A₀ base h₀ h L m gs dr tk os Q E B F X N T hk hd' hu hret
    simp only [Tr.forks] at hd' hu
    refine wpAny_call ?_
    k_dflt ktr_enter
    k_steps
    rename Fr h₀ L _ _ => kF9
    rename News h₀ L _ _ => kN9
    exact hret _ [_] (by (first | assumption | ((rename (_ < _ ∧ _) => l9); first | exact allLt_mem l9.2 | exact allLt_mem l9.2.2 | exact allLt_mem l9.2.2.2 | exact allLt_mem l9.2.2.2.2 | exact allLt_mem l9.2.2.2.2.2 | exact allLt_mem l9.2.2.2.2.2.2 | exact allLt_mem l9.2.2.2.2.2.2.2 | exact allLt_mem l9.2.2.2.2.2.2.2.2 | exact allLt_mem l9.2.2.2.2.2.2.2.2.2 | exact allLt_mem l9.2.2.2.2.2.2.2.2.2.2 | exact allLt_mem l9.2.2.2.2.2.2.2.2.2.2.2 | exact allLt_mem l9.2.2.2.2.2.2.2.2.2.2.2.2 | exact allLt_mem l9.2.2.2.2.2.2.2.2.2.2.2.2.2 | exact allLt_mem l9.2.2.2.2.2.2.2.2.2.2.2.2.2.2 | exact allLt_mem l9.2.2.2.2.2.2.2.2.2.2.2.2.2.2.2))) (.cons _ _ .nil) _ _ kF9 (news_sub kN9 (by ((intro p9 hp9; rcases List.mem_cons.mp hp9 with hq9 | hp9; (subst hq9; (repeat (first | exact List.mem_cons_self | apply List.mem_cons_of_mem))); (repeat (first | exact hp9 | apply List.mem_cons_of_mem))))))
  | fork x y ihx ihy =>
    intro hok a' vs n news hm hi
    unfold CallOK
    k_fill
    have hok' : x.forks + y.forks < 100 := by simp only [Tr.forks] at hok; omega
    have hxl := x.word_length
    have hyl := y.word_length
    have hxb := x.behind_length
    have hyb := y.behind_length
    intro dp un gd cn cs a ccd cl outer A₀ base h₀ h L m gs dr tk os Q E B F X N T hk hd' hu hret
    simp only [Tr.forks] at hd' hu
    refine wpAny_call ?_
    k_dflt ktr_enter
    k_with "ih" => (first | exact ihx (by omega) (by k_mem) (by l_ints) | exact ihy (by omega) (by k_mem) (by l_ints))
    k_steps
    · rename (Tr.fork x y).word = [10] => hw
      simp [Tr.word] at hw
    · rename Fr h₀ L _ _ => kF9
      rename News h₀ L _ _ => kN9
      rename IntsAre _ (_ ++ _ ++ _) => hI9
      exact hret _ _ (by (first | assumption | ((rename (_ < _ ∧ _) => l9); first | exact allLt_mem l9.2 | exact allLt_mem l9.2.2 | exact allLt_mem l9.2.2.2 | exact allLt_mem l9.2.2.2.2 | exact allLt_mem l9.2.2.2.2.2 | exact allLt_mem l9.2.2.2.2.2.2 | exact allLt_mem l9.2.2.2.2.2.2.2 | exact allLt_mem l9.2.2.2.2.2.2.2.2 | exact allLt_mem l9.2.2.2.2.2.2.2.2.2 | exact allLt_mem l9.2.2.2.2.2.2.2.2.2.2 | exact allLt_mem l9.2.2.2.2.2.2.2.2.2.2.2 | exact allLt_mem l9.2.2.2.2.2.2.2.2.2.2.2.2 | exact allLt_mem l9.2.2.2.2.2.2.2.2.2.2.2.2.2 | exact allLt_mem l9.2.2.2.2.2.2.2.2.2.2.2.2.2.2 | exact allLt_mem l9.2.2.2.2.2.2.2.2.2.2.2.2.2.2.2))) (by simpa [Tr.behind] using hI9) _ _ kF9 (news_sub kN9 (by ((intro p9 hp9; rcases List.mem_cons.mp hp9 with hq9 | hp9; (subst hq9; (repeat (first | exact List.mem_cons_self | apply List.mem_cons_of_mem))); (repeat (first | exact hp9 | apply List.mem_cons_of_mem))))))
end

section
open PySem PySem.W PyProof.Rows
set_option maxRecDepth 100000
set_option maxHeartbeats 8000000
local macro_rules | `(tactic| walk_at "call ref") => `(tactic| (k_here; (with_reducible show wpAny _ _ (call (Value.ref 109) _) _ _ _); (try dsimp only); k_dflt (walk_at "my call"); (case zqC => exact c_branches _ _ _ _ _ _ (by assumption) (by k_mem) (by l_ints)); (walk_at "my call end"); intro p' b' c' us' ws' l1' l2' l3' i1' i2' h' tk' F' N'))
local macro_rules | `(tactic| walk_at "call ref") => `(tactic| (k_here; (with_reducible show wpAny _ _ (call (Value.ref 130) _) _ _ _); (try dsimp only); k_dflt (walk_at "my call"); (case zqC => k_extra "ih"); (walk_at "my call end"); intro c' us' l1' i1' h' tk' F' N'))
local macro_rules | `(tactic| k_mem) => `(tactic| (refine List.mem_append_right _ ?_; first | assumption | k_mem))
local macro_rules | `(tactic| walk_at "binaryOp Add ref ref") => `(tactic| (k_here; (try dsimp only); k_dflt (refine' add_vals_at ?zqF ?zqN ?zql ?zqp ?_ ?zqz; (case zqF => k_asm); (case zqN => k_asm); (case zql => kmk_list); (case zqp => kmk_list); (case zqz => k_extra "size")); intro D' h' F' N' l1; (try k_lt l1); (try k_sweep)))
local macro_rules | `(tactic| walk_at "call ref") => `(tactic| (k_here; (with_reducible show wpAny _ _ (call (Value.ref 130) _) _ _ _); (try dsimp only); k_dflt (walk_at "my call"); (case zqC => k_extra "ih"); (walk_at "my call end"); intro c' us' tl' i1' h' tk' F' N'; have i2' := ThAre.length i1'; simp only [Tr.things_length] at i2'))

theorem things_leaf_end {h₀ h : Heap} {L l D : Addr} {th : Th} {t1 t2 : Tok} {q : Addr × Obj} {news : List (Addr × Obj)} (N : News h₀ L h ((l, listOf #[.ref D] 0) :: (D, thObj th t1 t2 0) :: q :: news)) :
    ∃ us tl, ThAre tl us [th] ∧ News h₀ L h ((l, listOf (List.toArray us) 0) :: (tl ++ news)) :=
  ⟨[.ref D], [(D, thObj th t1 t2 0)], .cons (.head _) .nil, fun p hp => N p (by
    rcases List.mem_cons.mp hp with rfl | hp
    · exact .head _
    · rcases List.mem_cons.mp hp with rfl | hp
      · exact .tail _ (.head _)
      · exact .tail _ (.tail _ (.tail _ hp)))⟩
theorem things_fork_end {h₀ h : Heap} {L D tp : Addr} {th : Th} {ths1 ths2 : List Th} {t1 t2 : Tok} {us1 us2 : List Value} {q1 q2 q3 q4 q5 q6 q7 q8 : Addr × Obj} {tl1 tl2 news : List (Addr × Obj)} (a1 : ThAre tl1 us1 ths1) (a2 : ThAre tl2 us2 ths2)
    (N : News h₀ L h ((D, listOf (List.toArray ([Value.ref tp] ++ us1 ++ us2)) 0) :: q1 :: (tl2 ++ q2 :: q3 :: (tp, thObj th t1 t2 0) :: q4 :: (tl1 ++ q5 :: q6 :: q7 :: q8 :: news)))) :
    ∃ us tl, ThAre tl us (th :: (ths1 ++ ths2)) ∧ News h₀ L h ((D, listOf (List.toArray us) 0) :: (tl ++ news)) := by
  refine ⟨[Value.ref tp] ++ us1 ++ us2, (tp, thObj th t1 t2 0) :: (tl1 ++ tl2), ?_, fun p hp => N p ?_⟩
  · rw [List.append_assoc]
    exact .cons (.head _) ((a1.mono fun p hp => .tail _ (List.mem_append_left _ hp)).append (a2.mono fun p hp => .tail _ (List.mem_append_right _ hp)))
  · simp only [List.mem_cons, List.mem_append] at hp ⊢
    rcases hp with hp | (hp | hp | hp) | hp <;> simp only [hp, true_or, or_true]

theorem c_things (w : World) (mean : ExcName → Option Value) (mg mb : Str → Option Value) (t : Tr) : t.forks < 100 → ∀ {a' : Addr} {vs : List Value} {n : Nat} {news : List (Addr × Obj)} {fi se : Int} {tf ts : Tok} {b : Bool} (_ : (a', listOf vs.toArray n) ∈ news) (_ : IntsAre vs t.word),
    CallOK w mean mg mb 130 (t.forks + 2) [.ref a', .int fi tf, .int se ts, .bool b] news fun k => ∀ c us tl, ThAre tl us (t.things fi se b) →
      k (.ref c) ((c, listOf (List.toArray us) 0) :: (tl ++ news)) := by
  k_with_none
  w_top off
  induction t with
  | leaf =>
    intro hok a' vs n news fi se tf ts b hm hi
    unfold CallOK
    k_fill
    intro dp un gd cn cs a ccd cl outer A₀ base h₀ h L m gs dr tk os Q E B F X N T hk hd' hu hret
    simp only [Tr.forks] at hd' hu
    refine wpAny_call ?_
    k_dflt ktr_enter
    k_steps
    rename Fr h₀ L _ _ => kF9
    rename News h₀ L _ _ => kN9
    obtain ⟨us9, tl9, h1, h2⟩ := things_leaf_end (th := ⟨false, fi, se, b⟩) kN9
    exact hret _ us9 tl9 h1 _ _ kF9 h2
  | fork x y ihx ihy =>
    intro hok a' vs n news fi se tf ts b hm hi
    unfold CallOK
    k_fill
    have hok' : x.forks + y.forks < 100 := by simp only [Tr.forks] at hok; omega
    have hxl := x.word_length
    have hyl := y.word_length
    intro dp un gd cn cs a ccd cl outer A₀ base h₀ h L m gs dr tk os Q E B F X N T hk hd' hu hret
    simp only [Tr.forks] at hd' hu
    refine wpAny_call ?_
    k_dflt ktr_enter
    k_with "ih" => (first | exact ihx (by omega) (by k_mem) (by l_ints) | exact ihy (by omega) (by k_mem) (by l_ints))
    k_with "size" => (simp only [sizeLine_eq, List.length_append, List.length_cons, List.length_nil]; omega)
    k_steps
    · rename (Tr.fork x y).word = [10] => hw
      simp [Tr.word] at hw
    · rename Fr h₀ L _ _ => kF9
      rename News h₀ L _ _ => kN9
      rename ThAre _ _ (Tr.things y _ _ _) => a2
      rename ThAre _ _ (Tr.things x _ _ _) => a1
      obtain ⟨us9, tl9, h1, h2⟩ := things_fork_end (th := ⟨true, fi, se, b⟩) a1 a2 kN9
      exact hret _ us9 tl9 h1 _ _ kF9 h2
end

section
open PySem PySem.W PyProof.Rows
set_option maxRecDepth 100000
set_option maxHeartbeats 8000000

/-- the places of the leaves among the first i -/
noncomputable def lp (w : List Int) (i : Nat) : List Int := ((List.range i).filter fun j => w.getD j 0 == 10).map fun (j : Nat) => (j : Int)
theorem lp_succ (w : List Int) (i : Nat) : lp w (i + 1) = lp w i ++ (if w.getD i 0 = 10 then [(i : Int)] else []) := by
  unfold lp
  rw [List.range_succ, List.filter_append, List.map_append]
  congr 1
  by_cases h : w.getD i 0 = 10
  · rw [if_pos h, List.filter_cons, if_pos (by rw [h]; rfl)]; rfl
  · rw [if_neg h, List.filter_cons, if_neg (by simpa using h)]; rfl
theorem lp_yes {w : List Int} {i : Nat} (h : w.getD i 0 = 10) : lp w (i + 1) = lp w i ++ [(i : Int)] := by rw [lp_succ, if_pos h]
theorem lp_no {w : List Int} {i : Nat} (h : ¬ w.getD i 0 = 10) : lp w (i + 1) = lp w i := by rw [lp_succ, if_neg h, List.append_nil]
theorem lp_mem {w : List Int} {i : Nat} {x : Int} (h : x ∈ lp w i) : 0 ≤ x ∧ x < i ∧ w.getD x.toNat 0 = 10 := by
  obtain ⟨j, hj, rfl⟩ := List.mem_map.mp h
  have h1 := List.mem_filter.mp hj
  have h2 := List.mem_range.mp h1.1
  refine ⟨by omega, by omega, ?_⟩
  simpa using h1.2
theorem lp_length (w : List Int) : ∀ i, i ≤ w.length → (lp w i).length = (w.take i).countP (· == 10) := by
  intro i
  induction i with
  | zero => intro _; simp [lp]
  | succ i ih =>
    intro hi
    have hlt : i < w.length := hi
    have e : w.take (i + 1) = w.take i ++ [w[i]] := by rw [List.take_add_one, List.getElem?_eq_getElem hlt]; rfl
    have g : w.getD i 0 = w[i] := by simp [List.getD_eq_getElem?_getD, List.getElem?_eq_getElem hlt]
    rw [lp_succ, e, List.countP_append, List.length_append, ih (by omega), g]
    by_cases h : w[i] = 10 <;> simp [h]
theorem Tr.count (t : Tr) : t.word.countP (· == 10) = t.forks + 1 := by
  induction t with
  | leaf => rfl
  | fork a b iha ihb => simp only [Tr.word, Tr.forks, List.countP_cons, List.countP_append, iha, ihb]; simp; omega
theorem Tr.lp_length (t : Tr) : (lp t.word t.word.length).length = t.forks + 1 := by
  rw [Mine.lp_length _ _ (Nat.le_refl _), List.take_length, t.count]
theorem Tr.grow (t : Tr) : ∀ p, p < t.word.length → t.word.getD p 0 = 10 → ∃ t' : Tr, t'.forks = t.forks + 1 ∧ t'.word = t.word.take p ++ [13, 10, 10] ++ t.word.drop (p + 1) := by
  induction t with
  | leaf =>
    intro p hp _
    have : p = 0 := by simp [Tr.word] at hp; exact hp
    subst this
    exact ⟨.fork .leaf .leaf, rfl, rfl⟩
  | fork a b iha ihb =>
    intro p hp hv
    match p with
    | 0 => simp [Tr.word] at hv
    | p + 1 =>
      by_cases hlt : p < a.word.length
      · obtain ⟨a', h1, h2⟩ := iha p hlt (by
          have : (Tr.word (.fork a b)).getD (p + 1) 0 = a.word.getD p 0 := by
            simp [Tr.word, List.getD_eq_getElem?_getD, List.getElem?_append_left hlt]
          rw [← this]; exact hv)
        refine ⟨.fork a' b, by simp only [Tr.forks]; omega, ?_⟩
        simp only [Tr.word, h2, List.take_succ_cons, List.drop_succ_cons]
        rw [List.take_append_of_le_length (Nat.le_of_lt hlt), List.drop_append_of_le_length hlt]
        simp
      · have hge : a.word.length ≤ p := Nat.not_lt.mp hlt
        have hp' : p - a.word.length < b.word.length := by simp [Tr.word] at hp; omega
        obtain ⟨b', h1, h2⟩ := ihb (p - a.word.length) hp' (by
          have : (Tr.word (.fork a b)).getD (p + 1) 0 = b.word.getD (p - a.word.length) 0 := by
            simp [Tr.word, List.getD_eq_getElem?_getD, List.getElem?_append_right hge]
          rw [← this]; exact hv)
        refine ⟨.fork a b', by simp only [Tr.forks]; omega, ?_⟩
        simp only [Tr.word, h2, List.take_succ_cons, List.drop_succ_cons]
        have e1 : (a.word ++ b.word).take p = a.word ++ b.word.take (p - a.word.length) := by
          rw [List.take_append, List.take_of_length_le hge]
        have e2 : (a.word ++ b.word).drop (p + 1) = b.word.drop (p - a.word.length + 1) := by
          rw [List.drop_append, List.drop_of_length_le (by omega), List.nil_append]
          congr 1
          omega
        rw [e1, e2]
        simp

theorem lp_at {wd : List Int} {i k : Nat} (h : k < (lp wd i).length) : 0 ≤ (lp wd i).getD k 0 ∧ (lp wd i).getD k 0 < i ∧ wd.getD ((lp wd i).getD k 0).toNat 0 = 10 := by
  refine lp_mem ?_
  rw [List.getD_eq_getElem?_getD, List.getElem?_eq_getElem h]
  exact List.getElem_mem h

noncomputable def TreeJ (d : Addr) {cw : Addr} {news : List (Addr × Obj)} (_ : LtAll cw news) (i : Nat) (m : Str → Option Value) (nx : List (Addr × Obj)) : Prop :=
  ∃ (t : Tr) (a : Addr) (vs : List Value) (oc : Obj), t.forks = i ∧ m (Str.ofString "draws") = some (.ref d) ∧ IntsAre vs t.word ∧ @LT.lt Nat _ (cw + 1) a ∧ oc.data = .cell (some (.ref a)) ∧ nx = (a, listOf vs.toArray 0) :: (cw + 1, oc) :: news

theorem c_tree (w : World) (mean : ExcName → Option Value) (mg mb : Str → Option Value) {d : Addr} {vs : List Value} {n : Nat} {ds : List Int} {news : List (Addr × Obj)} (hm : (d, listOf vs.toArray n) ∈ news) (hi : IntsAre vs ds) (hl : ds.length = 7) (hp : ∀ x ∈ ds, 0 ≤ x) :
    CallOK w mean mg mb 102 1 [.ref d] news fun k => ∀ c us (t : Tr), 3 ≤ t.forks → t.forks ≤ 7 → (∀ q ∈ news, q.1 < c) → IntsAre us t.word →
      k (.ref c) ((c, listOf (List.toArray us) 0) :: news) := by
  k_with_none
  w_top off
  unfold CallOK
  k_fill
  intro dp un gd cn cs a ccd cl outer A₀ base h₀ h L m gs dr tk os Q E B F X N T hk hd' hu hret
  refine wpAny_call ?_
  k_dflt (((refine' code_defC ?zk1 ?zk2 ?zk3 ?zk4 ?zk5 ?zkA ?zkF ?zkK ?zk6 ?zk7 ?zk8 ?zk9 ?zkB ?zkD ?_ ?zc2 ?zc3 ?zc4; (case zkA => exact rfl); (case zkF => exact rfl); (case zkK => assumption); (case zk1 => k_asm); (case zk2 => k_asm); (case zk3 => k_asm); (case zk4 => k_asm); (case zk5 => k_asm); (case zk6 => k_is); (case zk7 => k_is); (case zk8 => ktr_room); (case zk9 => exact BindsTo.of_eq rfl); (case zkB => exact rfl); (case zkD => decide +kernel); (case zc2 => exact rfl); (case zc3 => exact rfl); (case zc4 => exact rfl); k_whole; intro g' L' h' tk' cells' FG' F' N' Y' B' X' T' l1; (have lA' : LtAll _ _ := l1); k_cells Y'; (try simp only [List.cons_append, List.nil_append] at N'); (try dsimp only); (try k_fold))))
  k_with "pyIter ref" => refine stop_of ?_
  k_steps
  unfold Stopped
  rename IsRange _ _ _ _ _ _ _ _ => rg
  rename Fr _ _ _ (fun y => _) => lF
  rename News _ _ _ _ => lN
  rename LtAll _ _ => lA
  have hf0 : 0 ≤ ds.sum.fmod 5 := Int.fmod_nonneg_of_pos _ (by decide)
  have hf1 : ds.sum.fmod 5 < 5 := Int.fmod_lt_of_pos _ (by decide)
  dsimp only
  refine loop_range (n := (3 + ds.sum.fmod 5 - 0).toNat) (TreeJ d lA) (by rfl) rg (small_one (by omega) (by omega) (by omega) (by omega)) (rangeSize_nat _ _) lF lN ?_ ?_ ?_
  · exact ⟨.leaf, _, [_], _, rfl, rfl, .cons _ _ .nil, And.left (by assumption), by assumption, rfl⟩
  · intro i t m₁ nx h tk I oI hi hJ hne F₁ N₁
    obtain ⟨tr, a1, vs1, oc1, hfk, hdr, hi1, hlt1, hoc1, rfl⟩ := hJ
    replace hi : i < 7 := by
      have e7 : (3 + ds.sum.fmod 5 - 0).toNat ≤ 7 := Int.toNat_le.mpr (by clear hi; omega)
      exact Nat.lt_of_lt_of_le hi e7
    have hi7 : (0 : Int) + (i : Int) < (ds.length : Int) := by rw [hl]; clear hne; omega
    simp only [List.forall_mem_cons] at hne
    have hwl := tr.word_length
    have hneI := hne.2.1.symm
    replace F₁ := fr_kst [(Str.ofString "draws", .ref d)] (by intro p hp; rcases List.mem_singleton.mp hp with rfl; exact hdr) F₁
    k_with "CompSrcT" => refine stop_of ?_
    k_steps
    unfold Stopped
    have hwl2 : tr.word.length ≤ 1000 := by clear hne; omega
    refine LCt.CompSrcT.range (by rfl) (by k_asm) (by k_asm) (by assumption) (small_one (by omega) (by omega) (by omega) (by omega)) (rangeSize_nat _ _) (by rw [sizeLine_eq]; omega) ?_
    intro g9
    refine compT_ind (fun j ys => IntsAre ys (lp tr.word j)) trivial .nil ?_ ?_
    · intro ys hys
      have el : ((tr.word.length : Int) - 0).toNat = tr.word.length := by omega
      rw [el] at hys
      have hlpl := tr.lp_length
      have hdv : 0 ≤ ds.getD (0 + (i : Int)).toNat 0 := by
        rw [List.getD_eq_getElem?_getD]
        cases e9 : ds[(0 + (i : Int)).toNat]? with
        | none => exact Int.le_refl _
        | some x9 => exact hp x9 (List.mem_of_getElem? e9)
      have hm0 := Int.fmod_nonneg_of_pos (ds.getD (0 + (i : Int)).toNat 0) (show (0 : Int) < 0 + (i : Int) + 1 by omega)
      have hm1 := Int.fmod_lt_of_pos (ds.getD (0 + (i : Int)).toNat 0) (show (0 : Int) < 0 + (i : Int) + 1 by omega)
      obtain ⟨hx0, hx1, hx2⟩ := lp_at (wd := tr.word) (i := tr.word.length) (k := ((ds.getD (0 + (i : Int)).toNat 0).fmod (0 + (i : Int) + 1)).toNat) (by omega)
      unfold LCg.FinA
      intro D9 h9 tk9 F9 N9 o9
      simp only [LCg.Off1] at o9
      dsimp only
      k_steps
      rename Fr _ _ _ _ => kF9
      rename News _ _ _ _ => kN9
      rename IntsAre _ (_ ++ _ ++ _) => hI9
      rename (_ = Data.cell (some (Value.ref _))) => hd9
      rename (_ < _ ∧ _) => l9
      obtain ⟨t', ht1, ht2⟩ := tr.grow _ (by omega) hx2
      have ex : ∀ X : Int, 0 ≤ X → (X + 1).toNat = X.toNat + 1 := fun X hX => Int.toNat_add hX (by decide)
      rw [ex _ hx0, ← ht2] at hI9
      refine TurnPost.next kF9 kN9 ?_ ?_ ⟨t', _, _, _, by omega, rfl, hI9, ?_, hd9, rfl⟩
      · intro p9 hp9
        simp only [List.mem_cons] at hp9 ⊢
        rcases hp9 with h | h | h | h <;> simp only [h, true_or, or_true]
      · intro p9 hp9
        rcases List.mem_cons.mp hp9 with rfl | hp9
        · dsimp only; first | (clear hne; omega) | omega
        · rcases List.mem_cons.mp hp9 with rfl | hp9
          · exact hne.2.1
          · exact hne.2.2 p9 hp9
      · omega
    · intro j v ys I2 oI2 C2 oC2 D2 m2 h2 tk2 E2 hj hP hys hns hx2 F2 N2
      obtain ⟨t2, rfl⟩ := hP
      k_steps
      · exact F2
      · exact N2
      · rename tr.word.getD _ 0 = 10 => e9
        have e8 : (0 + (j : Int)).toNat = j := by omega
        rw [e8] at e9
        rw [lp_yes e9, Int.zero_add]
        exact hys.append (.cons _ _ .nil)
      · exact F2
      · exact N2
      · rename ¬ tr.word.getD _ 0 = 10 => e9
        have e8 : (0 + (j : Int)).toNat = j := by omega
        rw [e8] at e9
        rw [lp_no e9]
        exact hys
  · intro m₁ nx h tk hJ F₁ N₁
    obtain ⟨tr, a1, vs1, oc1, hfk, hdr, hi1, hlt1, hoc1, rfl⟩ := hJ
    replace F₁ := fr_kst0 [(Str.ofString "draws", .ref d)] (by intro p hp; rcases List.mem_singleton.mp hp with rfl; exact hdr) F₁
    dsimp only
    k_steps
    rename Fr h₀ L _ _ => kF9
    rename News h₀ L _ _ => kN9
    exact hret a1 vs1 tr (by omega) (by omega) (lA.lt (by omega)) hi1 _ _ kF9 (news_sub kN9 (by ((intro p9 hp9; rcases List.mem_cons.mp hp9 with hq9 | hp9; (subst hq9; (repeat (first | exact List.mem_cons_self | apply List.mem_cons_of_mem))); (repeat (first | exact hp9 | apply List.mem_cons_of_mem))))))
end

section
open PySem PySem.W PyProof.Rows
set_option maxRecDepth 100000
set_option maxHeartbeats 8000000
noncomputable def DrawJ (l : Addr) {D : Addr} {news : List (Addr × Obj)} (_ : LtAll D news) (_ : Nat) (m : Str → Option Value) (nx : List (Addr × Obj)) : Prop :=
  ∃ (vs : List Value) (ds : List Int), m (Str.ofString "draws") = some (.ref D) ∧ m (Str.ofString "script") = some (.ref l) ∧ IntsAre vs ds ∧ ds.length = 7 ∧ (∀ x ∈ ds, 0 ≤ x) ∧ nx = (D, listOf vs.toArray 0) :: news

theorem c_draws (w : World) (mean : ExcName → Option Value) (mg mb : Str → Option Value) {l : Addr} {svs : List Value} {ns : List Int} {news : List (Addr × Obj)} (hi : IntsAre svs ns) (hl : ns.length ≤ 63) :
    CallOKB w mean mg mb 97 1 [.ref l] news l svs.toArray fun k => ∀ c us (ds : List Int), ds.length = 7 → (∀ x ∈ ds, 0 ≤ x) → (∀ q ∈ news, q.1 < c) → IntsAre us ds →
      k (.ref c) ((c, listOf (List.toArray us) 0) :: news) := by
  k_with_none
  w_top off
  unfold CallOKB
  k_fill
  intro dp un gd cn cs a ccd cl outer A₀ base h₀ h L m gs dr tk os Q E hb B F X N T hk hd' hu hret
  refine wpAny_call ?_
  k_dflt ktr_enter
  rename Below _ base _ _ => B9
  have hg := stays_list B9.stays hb
  k_with "pyIter ref" => refine stop_of ?_
  k_steps
  unfold Stopped
  rename IsRange _ _ _ _ _ _ _ _ => rg
  rename Fr _ _ _ (fun y => _) => lF
  rename News _ _ _ _ => lN
  rename ∀ p ∈ news, p.1 < _ => l1
  have lA : LtAll _ news := l1
  have hb0 : 0 ≤ (if (56 : Int) < (ns.length : Int) then (56 : Int) else (ns.length : Int)) := by split <;> omega
  have hb1 : (if (56 : Int) < (ns.length : Int) then (56 : Int) else (ns.length : Int)) ≤ ns.length := by split <;> omega
  generalize (if (56 : Int) < (ns.length : Int) then (56 : Int) else (ns.length : Int)) = b at rg hb0 hb1
  dsimp only
  refine loop_range (n := (b - 0).toNat) (DrawJ l lA) (by rfl) rg (small_one (by omega) (by omega) (by omega) (by omega)) (rangeSize_nat _ _) lF lN ?_ ?_ ?_
  · refine ⟨_, [0, 1, 1, 3, 2, 5, 4], rfl, rfl, ?_, rfl, by decide, rfl⟩
    walk_at "my ints"
  · intro i t m₁ nx h tk I oI hi' hJ hne F₁ N₁
    obtain ⟨vs1, ds, hdr, hsc, hi1, hl1, hp1, rfl⟩ := hJ
    simp only [List.forall_mem_cons] at hne
    replace F₁ := fr_kst [(Str.ofString "draws", .ref _), (Str.ofString "script", .ref l)] (by intro p hp; simp only [List.mem_cons, List.not_mem_nil, or_false] at hp; rcases hp with rfl | rfl <;> assumption) F₁
    have hm0 := Int.fmod_nonneg_of_pos (0 + (i : Int)) (show (0 : Int) < 7 by decide)
    have hm1 := Int.fmod_lt_of_pos (0 + (i : Int)) (show (0 : Int) < 7 by decide)
    k_steps
    rename Fr _ _ _ _ => kF9
    rename News _ _ _ _ => kN9
    rename IntsAre _ (ds.set _ _) => hI9
    refine TurnPost.next kF9 kN9 ?_ ?_ ⟨_, _, rfl, rfl, hI9, by rw [List.length_set]; exact hl1, ?_, rfl⟩
    · intro p9 hp9
      simp only [List.mem_cons] at hp9 ⊢
      rcases hp9 with h | h | h <;> simp only [h, true_or, or_true]
    · intro p9 hp9
      rcases List.mem_cons.mp hp9 with rfl | hp9
      · dsimp only; omega
      · exact hne.2 p9 hp9
    · intro x9 hx9
      rcases List.mem_or_eq_of_mem_set hx9 with h | rfl
      · exact hp1 _ h
      · refine Int.add_nonneg ?_ (Int.fmod_nonneg_of_pos _ (by decide))
        rw [List.getD_eq_getElem?_getD]
        cases e9 : ds[((0 + (i : Int)).fmod 7).toNat]? with
        | none => exact Int.le_refl _
        | some x9 => exact hp1 x9 (List.mem_of_getElem? e9)
  · intro m₁ nx h tk hJ F₁ N₁
    obtain ⟨vs1, ds, hdr, hsc, hi1, hl1, hp1, rfl⟩ := hJ
    replace F₁ := fr_kst0 [(Str.ofString "draws", .ref _)] (by intro p hp; rcases List.mem_singleton.mp hp with rfl; exact hdr) F₁
    dsimp only
    k_steps
    rename Fr h₀ L _ _ => kF9
    rename News h₀ L _ _ => kN9
    exact hret _ vs1 ds hl1 hp1 l1 hi1 _ _ kF9 kN9
end

section
open PySem PySem.W PyProof.Rows
open Sem (wp)
set_option maxRecDepth 1000000
section
variable {prog : Program} {w : World} {A : Around} {E : Value → Shared → Prop} {s : Shared}
theorem ba_payload {a : Addr} {M : Model} {b : Array UInt8} {Q : Array UInt8 → Shared → Prop} (ho : s.heap.get? a = some (baObj b)) (hQ : Q b s) : wpAny M A (Builtin.Bytes.payload (.ref a)) Q E s := by
  unfold Builtin.Bytes.payload Builtin.Bytes.payload?
  refine wpAny_bind (wpAny_bind (wpAny_load ho ?_))
  exact wpAny_pure (wpAny_pure hQ)
theorem int_subscript {k : Int} {t : Tok} {M : Model} {Q : Option Int → Shared → Prop} (h0 : 0 ≤ k) (h1 : k ≤ 1000) (hQ : Q (some k) s) : wpAny M A (Builtin.Bytes.subscript? (.int k t)) Q E s := by
  unfold Builtin.Bytes.subscript?
  refine wpAny_bind (wpAny_specialOf (T := "int") (typeIs_int _ k t) F.slot_int_index.lookup ?_)
  refine wpAny_if_false rfl ?_
  refine wpAny_bind (wpAny_of_eq (a := k) rfl ?_)
  have e1 : Builtin.Bytes.fitsIndex k = true := by simp only [Builtin.Bytes.fitsIndex, Bool.and_eq_true, decide_eq_true_eq]; omega
  refine wpAny_if_false (by rw [e1]; rfl) ?_
  exact wpAny_pure hQ
theorem ba_setItem {a : Addr} {b : Array UInt8} {k v : Int} {t u : Tok} {Q : Unit → Shared → Prop} (ho : s.heap.get? a = some (baObj b)) (h0 : 0 ≤ k) (h1 : k < b.size) (hz : b.size ≤ 1000) (v0 : 0 ≤ v) (v1 : v < 256)
    (hQ : ∀ h', Heap.SameBut a s.heap h' → h'.get? a = some (baObj (b.setIfInBounds k.toNat v.toNat.toUInt8)) → Q () { s with heap := h' }) :
    wpAny (model prog w) A (setItem (.ref a) (.int k t) (.int v u)) Q E s := by
  have hT : s.TypeIs (.ref a) "bytearray" := ⟨_, ho, rfl⟩
  unfold setItem
  refine wpAny_holding ?_
  refine wpAny_bind (wpAny_sequenceKey hT (by decide) ?_)
  refine wpAny_bind (wpAny_callSpecial?_slot (name := Str.ofString "__setitem__") hT ba_set (wpAny_call_entry ba_set hT ba_entrySet ?_ (ba_argsSet _ _ _)))
  unfold Builtin.«bytearray.__setitem__»
  refine wpAny_if_false rfl ?_
  refine wpAny_bind (int_subscript h0 (by omega) ?_)
  dsimp only
  unfold Builtin.Bytes.byteValue
  refine wpAny_bind (wpAny_bind (wpAny_of_eq (a := v) rfl ?_))
  have e1 : (decide (v < 0) || decide (v ≥ 256)) = false := by simp only [Bool.or_eq_false_iff, decide_eq_false_iff_not]; omega
  refine wpAny_if_false e1 ?_
  refine wpAny_pure ?_
  refine wpAny_bind (ba_payload ho ?_)
  have e2 : seqIndex? k b.size = some k.toNat := by simp [seqIndex?, show ¬ k < 0 by omega, h0, h1]
  rw [e2]
  refine wpAny_bind (ba_write ho (by show (b.setIfInBounds k.toNat v.toNat.toUInt8).size ≤ 1000; rw [Array.size_setIfInBounds]; exact hz) fun h' hs hz' ho' => ?_)
  exact wpAny_pure ⟨.none, rfl, wpAny_pure (hQ h' hs ho')⟩
theorem ba_ownBuffer {a : Addr} {o : Obj} {M : Model} {Q : Bool → Shared → Prop} (ho : s.heap.get? a = some o) (hc : o.cls = .type "bytearray") (hQ : Q true s) :
    wpAny M A (Builtin.Bytes.slotIsOwn (.ref a) "__buffer__") Q E s := by
  unfold Builtin.Bytes.slotIsOwn
  refine wpAny_bind (ba_special ho hc ba_buffer ?_)
  have e1 : ("bytearray.__buffer__".endsWith ("." ++ "__buffer__")) = true := by decide +kernel
  have e2 : ("bytearray.__buffer__".dropRight ("__buffer__".length + 1)) = "bytearray" := by decide +kernel
  simp only [e1, e2]
  show wpAny M A (isInstance (Value.ref a) (Value.type "bytearray")) Q E s
  exact wpAny_isInstance (T := "bytearray") ⟨o, ho, hc⟩ ba_sub hQ
theorem ba_buffer? {a : Addr} {b : Array UInt8} {M : Model} {id : String} {full : Bool} {Q : Option (Array UInt8) → Shared → Prop} (ho : s.heap.get? a = some (baObj b)) (hQ : Q (some b) s) :
    wpAny M A (Builtin.Bytes.buffer? id (.ref a) full) Q E s := by
  unfold Builtin.Bytes.buffer?
  refine wpAny_bind (ba_special ho rfl ba_buffer ?_)
  dsimp only
  refine wpAny_bind (ba_ownBuffer ho rfl ?_)
  refine wpAny_if_false rfl ?_
  refine wpAny_bind (ba_special ho rfl ba_buffer ?_)
  show wpAny M A (Builtin.Bytes.ownRelease (.ref a) >>= _) Q E s
  refine wpAny_bind (ba_own ho rfl ?_)
  refine wpAny_if_false rfl ?_
  exact wpAny_bind (ba_payload ho (wpAny_pure hQ))
theorem ba_bytes_new {a : Addr} {b : Array UInt8} {Q : Value → Shared → Prop} (ho : s.heap.get? a = some (baObj b)) (hz : b.size ≤ 1000) (hQ : Q (.bytes b s.toks) { s with toks := s.toks + 1 }) :
    codeAny (model prog w) A (.call (.builtin "bytes.__new__") ⟨[.type "bytes", .ref a], []⟩) (wants Q E) s := by
  refine codeAny_of_tree ?_
  show wpAny _ A.in1 (do checkBuiltinCall "bytes.__new__" ⟨[.type "bytes", .ref a], []⟩; again (.builtin "bytes.__new__" ⟨[.type "bytes", .ref a], []⟩)) _ _ s
  refine wpAny_bind (wpAny_of_eq (F.bm_newCall _) (wpAny_pure ⟨plainId_quiet F.bm_plain _, codeAny_builtin F.bm_entry ?_⟩))
  rw [Around.under_plainId F.bm_plain _]
  unfold Builtin.«bytes.__new__»
  refine wpAny_bind (wpAny_of_eq (a := true) rfl ?_)
  refine bm_if_false rfl ?_
  refine wpAny_bind (wpAny_of_eq F.bm_sub ?_)
  refine bm_if_false rfl ?_
  refine wpAny_bind (wpAny_of_eq (F.bm_bind _) ?_)
  refine wpAny_bind (wpAny_of_eq (a := ()) rfl ?_)
  refine wpAny_bind (wpAny_of_eq (a := ()) rfl ?_)
  refine bm_if_false rfl ?_
  refine wpAny_bind (ba_special ho rfl ba_noBytes ?_)
  refine wpAny_bind (wpAny_bind ?_)
  show wpAny _ _ (load a >>= _) _ _ _
  refine wpAny_bind (wpAny_load ho ?_)
  refine wpAny_pure (wpAny_pure ?_)
  refine bm_if_false rfl ?_
  refine wpAny_bind (ba_special ho rfl ba_noIndex ?_)
  refine bm_if_true rfl ?_
  refine wpAny_bind (ba_buffer? ho ?_)
  dsimp only
  refine wpAny_bind (wpAny_rule ?_)
  refine wpAny_bind (wpAny_mkBytes ?_ (by rw [sizeLine_eq]; omega))
  show wpAny _ _ (if (Value.type "bytes" == Value.type "bytes") = true then _ else _) _ _ _
  refine bm_if_true (by decide) ?_
  first
    | exact wpAny_pure hQ
    | exact wpAny_bind (wpAny_pure (wpAny_pure hQ))
theorem ba_bytes {a : Addr} {b : Array UInt8} {Q : Value → Shared → Prop} (ho : s.heap.get? a = some (baObj b)) (hz : b.size ≤ 1000) (hQ : Q (.bytes b s.toks) { s with toks := s.toks + 1 }) :
    wpAny (model prog w) A (call (.type "bytes") [.ref a]) Q E s := by
  refine callType_codes (Q₁ := fun obj s₁ => s₁.TypeIs obj "bytes" ∧ Q obj s₁) F.bm_called (F.bm_typeCall _) F.entry_object_init
    (ba_bytes_new ho hz ⟨PySem.W.typeIs_bytes _ _ _, hQ⟩) fun obj s₁ h₁ => ?_
  exact ⟨h₁.1, F.args_object_init_2 obj _, object_init_meets F.bm_called.init.lookup F.bm_called.made (by decide) prog w A.in1 _ s₁ ⟨h₁.1, rfl, h₁.2⟩⟩
end
section
variable {prog : Program} {w : World} {A : Around} {E : Value → Shared → Prop} {h₀ hp : Heap} {gs : Array GenState} {dr : Drawn} {tk : Nat} {os : OsState} {L : Addr} {m : Str → Option Value} {news : List (Addr × Obj)}
theorem ba_call_at {n : Int} {t : Tok} {Q : Value → Shared → Prop} (F : Fr h₀ L hp m) (N : News h₀ L hp news) (h0 : 0 ≤ n) (hn : n ≤ 1000)
    (hQ : ∀ D h', Fr h₀ L h' m → News h₀ L h' ((D, baObj (Array.replicate n.toNat 0)) :: news) → LtAll D news → Q (.ref D) ⟨h', gs, dr, tk, os⟩) :
    wpC (model prog w) A (call (.type "bytearray") [.int n t]) Q E ⟨hp, gs, dr, tk, os⟩ := by
  refine ba_call (s := ⟨hp, gs, dr, tk, os⟩) h0 hn fun h' hk ho => hQ _ h' (F.keeps hk) (fun p hpm => ?_) fun p hpm => Heap.lt_size (N p hpm).1
  obtain ⟨oL, es, ep, hL, hLr⟩ := F.ns
  have hLt : @LT.lt Nat _ L hp.objs.size := Heap.lt_size hL
  rcases List.mem_cons.mp hpm with rfl | hpm
  · exact ⟨ho, Ne.symm (Nat.ne_of_lt hLt), Heap.get?_none_of_le (Nat.le_trans F.above (Nat.le_of_lt hLt))⟩
  · exact ⟨hk _ _ (N p hpm).1, (N p hpm).2.1, (N p hpm).2.2⟩
theorem ba_set_at {D : Addr} {b : Array UInt8} {k v : Int} {t u : Tok} {Q : Unit → Shared → Prop} (F : Fr h₀ L hp m) {own rest : List (Addr × Obj)} (N : News h₀ L hp (own ++ (D, baObj b) :: rest)) (ho : ∀ p ∈ own, p.1 ≠ D) (hr : ∀ p ∈ rest, p.1 ≠ D)
    (h0 : 0 ≤ k) (h1 : k < b.size) (hz : b.size ≤ 1000) (v0 : 0 ≤ v) (v1 : v < 256)
    (hQ : ∀ h', Fr h₀ L h' m → News h₀ L h' (own ++ (D, baObj (b.setIfInBounds k.toNat v.toNat.toUInt8)) :: rest) → Q () ⟨h', gs, dr, tk, os⟩) :
    wpAny (model prog w) A (setItem (.ref D) (.int k t) (.int v u)) Q E ⟨hp, gs, dr, tk, os⟩ := by
  have z := N (D, baObj b) (List.mem_append.mpr (.inr (.head _)))
  exact ba_setItem (s := ⟨hp, gs, dr, tk, os⟩) z.1 h0 h1 hz v0 v1 fun h' hs hd => hQ h' (F.change hs z.2.1 z.2.2) (N.setAt ho hr hs hd)
theorem ba_bytes_at {D : Addr} {b : Array UInt8} {Q : Value → Shared → Prop} (N : News h₀ L hp news) (hm : (D, baObj b) ∈ news) (hz : b.size ≤ 1000) (hQ : Q (.bytes b tk) ⟨hp, gs, dr, tk + 1, os⟩) :
    wpAny (model prog w) A (call (.type "bytes") [.ref D]) Q E ⟨hp, gs, dr, tk, os⟩ := ba_bytes (s := ⟨hp, gs, dr, tk, os⟩) (N _ hm).1 hz hQ
end

/-- a call's contract for the stacks that are meant -/
noncomputable def CallOKC (w : World) (mean : ExcName → Option Value) (mg mb : Str → Option Value) (f : Addr) (k : Nat) (vs : List Value) (news : List (Addr × Obj)) (Post : (Value → List (Addr × Obj) → Prop) → Prop) : Prop :=
  ∀ (dp un : Nat) (gd : Option (List Code)) (cn : Str) (cs : Scope) (a : Addr) (ccd : Value) (cl : List (Str × Addr)) (outer : List Env) (A₀ : Around) (base h₀ h : Heap) (L : Addr) (m : Str → Option Value) (gs : Array GenState) (dr : Drawn) (tk : Nat) (os : OsState)
    (Q E : Value → Shared → Prop),
    Below A₀ base outer h₀ → Fr h₀ L h m → (hd.heap_39 w.params).In h₀ → News h₀ L h news → Top hd.view_39 (looseW hd.view_39 [Str.ofString "_twin_re_1", Str.ofString "_twin_re_2"]) mean mg mb h₀ → cs.kind = .function → dp + k < recursionLimit → un + 8 * k + 100 < cLine →
    Post (fun r news' => ∀ h' tk', Fr h₀ L h' m → News h₀ L h' news' → Q r ⟨h', gs, dr, tk', os⟩) →
    wpC (model PySem.Challenge.rw_zn0004_01.row.prog w) (ktrTop dp un gd cn cs L a ccd cl outer) (call (.ref f) vs) Q E ⟨h, gs, dr, tk, os⟩
end

section
open PySem PySem.W PySem.Calls PyProof.Rows
set_option maxRecDepth 100000
section
variable {prog : Program} {w : World} {A : Around} {E : Value → Shared → Prop} {s : Shared} {env : Env} {h₀ : Heap} {target : Expr} {body : List Stmt} {Q : Flow → Shared → Prop}
/-- what the turns of a loop over a dict's items come to, by an invariant on what is left -/
theorem items_ind {I : Addr} {keep : List (Addr × Obj)} (J : List (Str × Value) → (Str → Option Value) → List (Addr × Obj) → Prop)
    (fin : ∀ m news h tk, J [] m news → Fr h₀ env.locals h m → News h₀ env.locals h news → Q .next { s with heap := h, toks := tk })
    (turn : ∀ k x r m news T t h tk oI, J ((k, x) :: r) m news → IsTup h T #[.str k t, x] → Fr h₀ env.locals h m → oI.cls = .type "dict_itemiterator" → News h₀ env.locals h ((I, oI) :: news) →
      wpAny (model prog w) A (assign target env (.ref T)) (fun _ s₂ => wpAny (model prog w) A (execs body env) (UnrPostW h₀ env.locals { s with heap := h, toks := tk } [(I, oI)] (fun m' n' => SubL keep n' ∧ J r m' n') Q) E s₂) E { s with heap := h, toks := tk }) :
    ∀ (kvs : List (Str × Value)) (m : Str → Option Value) (news : List (Addr × Obj)), J kvs m news →
      ItemsRest prog w A E h₀ env target body Q s [(I, "dict_itemiterator")] keep (kvs.map fun p => Itm.pair (kyVal (PyData.str p.1)) p.2) m news := by
  intro kvs
  induction kvs with
  | nil => intro m news hJ h tk F N; exact fin m news h tk hJ F N
  | cons p r ih =>
    obtain ⟨k, x⟩ := p
    intro m news hJ
    refine ItemsRest.pair ?_
    intro T t h tk hT F oI hc N
    refine wpAny_mono (turn k x r m news T t h tk oI hJ hT F hc N) (fun _ s₂ q => wpAny_mono q (fun f s₃ q => ?_) fun _ _ e => e) fun _ _ e => e
    cases f with
    | ret v => exact q
    | brk => exact q
    | next =>
      obtain ⟨h', tk', m', n', e, F', N', off, hs, hJ'⟩ := q
      exact ⟨h', tk', m', n', e, F', N', off, hs, ih m' n' hJ'⟩
    | cont =>
      obtain ⟨h', tk', m', n', e, F', N', off, hs, hJ'⟩ := q
      exact ⟨h', tk', m', n', e, F', N', off, hs, ih m' n' hJ'⟩
theorem TurnPostW.next {L : Addr} {keep : List (Addr × Obj)} {Jn : (Str → Option Value) → List (Addr × Obj) → Prop} {I : Addr} {oI : Obj} {h h' : Heap} {gs : Array GenState} {dr : Drawn} {tk tk' : Nat} {os : OsState} {m' : Str → Option Value} {nx all : List (Addr × Obj)}
    (F : Fr h₀ L h' m') (N : News h₀ L h' all) (hs : ∀ p ∈ (I, oI) :: nx, p ∈ all) (ho : ∀ p ∈ nx, @Ne Nat p.1 I) (hk : SubL keep nx) (hJ : Jn m' nx) : UnrPostW h₀ L ⟨h, gs, dr, tk, os⟩ [(I, oI)] (fun m' n' => SubL keep n' ∧ Jn m' n') Q .next ⟨h', gs, dr, tk', os⟩ :=
  ⟨h', tk', m', nx, rfl, F, fun p hp => N p (hs p hp), fun p hp q hq => by rw [List.mem_singleton.mp hq]; exact ho p hp, hk, hJ⟩
theorem TurnEndW.next {L : Addr} {keep : List (Addr × Obj)} {Jn : (Str → Option Value) → List (Addr × Obj) → Prop} {I : Addr} {oI : Obj} {h h' : Heap} {gs : Array GenState} {dr : Drawn} {tk tk' : Nat} {os : OsState} {m' : Str → Option Value} {nx all : List (Addr × Obj)}
    (F : Fr h₀ L h' m') (N : News h₀ L h' all) (hs : ∀ p ∈ (I, oI) :: nx, p ∈ all) (ho : ∀ p ∈ nx, @Ne Nat p.1 I) (hk : SubL keep nx) (hJ : Jn m' nx) : UnrEndW h₀ L ⟨h, gs, dr, tk, os⟩ [(I, oI)] (fun m' n' => SubL keep n' ∧ Jn m' n') ⟨h', gs, dr, tk', os⟩ :=
  ⟨h', tk', m', nx, rfl, F, fun p hp => N p (hs p hp), fun p hp q hq => by rw [List.mem_singleton.mp hq]; exact ho p hp, hk, hJ⟩
end
/-- a dict's pairs, with these ints -/
inductive IntVals : List (Str × Value) → List (Str × Int) → Prop where
  | nil : IntVals [] []
  | cons {k : Str} {n : Int} {t : Tok} {kvs : List (Str × Value)} {c : List (Str × Int)} : IntVals kvs c → IntVals ((k, .int n t) :: kvs) ((k, n) :: c)
section
variable {prog : Program} {w : World} {A : Around} {E : Value → Shared → Prop} {h₀ hp : Heap} {gs : Array GenState} {dr : Drawn} {tk₀ : Nat} {os : OsState} {L D : Addr} {m : Str → Option Value} {news : List (Addr × Obj)} {o : Obj} {kvs : List (Str × Value)} {k : Str} {tk : Tok} {v : Value}
theorem dict_set_at {own rest : List (Addr × Obj)} {Q : Unit → Shared → Prop} (F : Fr h₀ L hp m) (N : News h₀ L hp (own ++ (D, o) :: rest)) (ho : ∀ p ∈ own, p.1 ≠ D) (hr : ∀ p ∈ rest, p.1 ≠ D) (hd : o.IsDictOf (PySem.strKind prog w) kvs) (hsz : kvs.length ≤ 1000)
    (h : ∀ h' o', Fr h₀ L h' m → News h₀ L h' (own ++ (D, o') :: rest) → o'.IsDictOf (PySem.strKind prog w) (stored kvs k v) → Q () ⟨h', gs, dr, tk₀ + 1, os⟩) :
    wpAny (model prog w) A (setItem (.ref D) (.str k tk) v) Q E ⟨hp, gs, dr, tk₀, os⟩ := by
  have hm := N (D, o) (List.mem_append_right _ (.head _))
  refine wpAny_setItem_pairs (s := ⟨hp, gs, dr, tk₀, os⟩) (hsz := by rw [sizeLine_eq]; omega) (strKind_is _ _ _ _) (Heap.dictOf_iff.mpr ⟨o, hm.1, hd⟩) fun h' hmm hs => ?_
  obtain ⟨o', ho', hd'⟩ := Heap.dictOf_iff.mp hmm
  exact h h' o' (F.change hs hm.2.1 hm.2.2) (N.setIn ho hr hs ho') hd'
theorem dict_in_at {b : Bool} {Q : Value → Shared → Prop} (N : News h₀ L hp news) (hp' : (D, o) ∈ news) (hd : o.IsDictOf (PySem.strKind prog w) kvs) (lo : (D == sysModules) = false) (hb : (valueAt kvs k).isSome = b) (h : Q (.bool b) ⟨hp, gs, dr, tk₀ + 1, os⟩) :
    wpAny (model prog w) A (compareOp .In (.str k tk) (.ref D)) Q E ⟨hp, gs, dr, tk₀, os⟩ :=
  kda_in (s := ⟨hp, gs, dr, tk₀, os⟩) N hp' hd lo (strKind_is _ _ _ _) b hb h
theorem dict_get_at {Q : Value → Shared → Prop} (N : News h₀ L hp news) (hp' : (D, o) ∈ news) (hd : o.IsDictOf (PySem.strKind prog w) kvs) (hl : valueAt kvs k = some v) (h : Q v ⟨hp, gs, dr, tk₀ + 1, os⟩) :
    wpAny (model prog w) A (getItem (.ref D) (.str k tk)) Q E ⟨hp, gs, dr, tk₀, os⟩ :=
  wpAny_getItem_of (s := ⟨hp, gs, dr, tk₀, os⟩) (strKind_is _ _ _ _) (kda_dict N hp' hd).mapOf hl h
end
theorem stored_new {kvs : List (Str × Value)} {k : Str} {v : Value} (h : k ∉ kvs.map (·.1)) : stored kvs k v = kvs ++ [(k, v)] := by
  unfold stored
  rw [if_neg]
  intro hh
  rw [List.any_eq_true] at hh
  obtain ⟨p, hp, e⟩ := hh
  exact h (List.mem_map.mpr ⟨p, hp, by simpa using e⟩)
theorem IntVals.has {kvs : List (Str × Value)} {c : List (Str × Int)} (h : IntVals kvs c) (x : Str) : (valueAt kvs x).isSome = kdpHas c x := by
  induction h with
  | nil => rfl
  | @cons k n t kvs c _ ih =>
    unfold valueAt kdpHas at *
    rw [List.find?_cons, List.any_cons]
    by_cases hk : k = x
    · simp [hk]
    · simp only [hk, decide_false, Bool.false_or]
      exact ih
theorem IntVals.look {kvs : List (Str × Value)} {c : List (Str × Int)} (h : IntVals kvs c) {x : Str} (hx : kdpHas c x = true) : ∃ t, valueAt kvs x = some (.int (kdpLook c x 0) t) := by
  induction h with
  | nil => cases hx
  | @cons k n t kvs c _ ih =>
    unfold valueAt kdpLook kdpHas at *
    rw [List.find?_cons, List.find?_cons]
    by_cases hk : k = x
    · exact ⟨t, by simp [hk]⟩
    · simp only [List.any_cons, hk, decide_false, Bool.false_or] at hx ⊢
      exact ih hx
theorem IntVals.put {kvs : List (Str × Value)} {c : List (Str × Int)} (h : IntVals kvs c) (x : Str) (n : Int) (t : Tok) : IntVals (stored kvs x (.int n t)) (kdpPut c x n) := by
  have ha : (kvs.any fun kv => decide (kv.1 = x)) = c.any fun p => decide (p.1 = x) := by
    induction h with
    | nil => rfl
    | cons _ ih => simp only [List.any_cons, ih]
  unfold stored kdpPut
  rw [ha]
  by_cases hh : (c.any fun p => decide (p.1 = x)) = true
  · rw [if_pos hh, if_pos hh]
    clear ha hh
    induction h with
    | nil => exact .nil
    | @cons k n' t' kvs c _ ih =>
      simp only [List.map_cons]
      by_cases hk : k = x
      · simp only [hk, if_true, decide_true]; exact .cons ih
      · simp only [hk, if_false, decide_false, Bool.false_eq_true]; exact .cons ih
  · rw [if_neg hh, if_neg hh]
    clear ha hh
    induction h with
    | nil => exact .cons .nil
    | cons _ ih => exact .cons ih
theorem IntVals.length {kvs : List (Str × Value)} {c : List (Str × Int)} (h : IntVals kvs c) : kvs.length = c.length := by
  induction h with
  | nil => rfl
  | cons _ ih => simp [ih]
theorem dict_nodup {prog : Program} {w : World} {o : Obj} {kvs : List (Str × Value)} (h : o.IsDictOf (PySem.strKind prog w) kvs) : (kvs.map (·.1)).Nodup := by
  obtain ⟨es, ep, _, _, _, _, hn⟩ := h
  exact hn
end

section
open PySem PySem.W PyProof.Rows
set_option maxRecDepth 100000
section
variable {prog : Program} {w : World} {A : Around} {E : Value → Shared → Prop} {s : Shared}
theorem applied_two {sl : Addr} {u : Tok} {Q : Int × Int × Nat → Shared → Prop} (hs : s.heap.IsSliceOf sl .none (.int 2 u) .none) (h : Q (0, 1, 2) s) :
    wpAny (model prog w) A (Builtin.Slice.sliceApplied (.ref sl) (pure ((3 : Nat) : Int))) Q E s := by
  obtain ⟨os, hos, hcs, hds⟩ := id hs
  unfold Builtin.Slice.sliceApplied Builtin.Slice.sliceFields
  refine wpAny_bind (wpAny_bind (wpAny_field hos hds (x := .none) rfl (wpAny_bind (wpAny_field hos hds (x := .int 2 u) rfl (wpAny_bind (wpAny_field hos hds (x := .none) rfl (wpAny_pure ?_)))))))
  refine wpAny_bind (slicePart_none ?_)
  show wpAny _ _ (if ((1 : Int) == 0) = true then _ else _) _ _ s
  rw [if_neg (by decide)]
  exact wpAny_bind (slicePart_none (wpAny_bind (slicePart_int (wpAny_bind (wpAny_pure (wpAny_pure h))))))
theorem get_two {t sl : Addr} {a b c : Value} {u : Tok} {Q : Value → Shared → Prop} (ht : IsTup s.heap t #[a, b, c]) (hs : s.heap.IsSliceOf sl .none (.int 2 u) .none)
    (h : Q (.ref s.heap.objs.size) { s with heap := s.heap.push { cls := .type "tuple", data := .seq #[a, b] } }) : wpAny (model prog w) A (getItem (.ref t) (.ref sl)) Q E s := by
  obtain ⟨os, hos, hcs, hds⟩ := id hs
  have hTs : s.TypeIs (.ref sl) "slice" := ⟨os, hos, hcs⟩
  have hok : sizeOk (.seq #[a, b]) := by show 2 ≤ sizeLine; rw [sizeLine_eq]; omega
  unfold getItem
  refine wpAny_holding ?_
  refine wpAny_bind (wpAny_sequenceKey ht.typeIs (by decide) ?_)
  refine wpAny_bind (wpAny_callSpecial?_slot (name := Str.ofString "__getitem__") ht.typeIs slot_tuple_getitem
    (wpAny_call_entry slot_tuple_getitem ht.typeIs entry_tuple_getitem ?_ (args_tuple_getitem _ _)))
  show wpAny _ _ (Builtin.Tuple.tupleItemsOf (.ref t) >>= _) _ _ s
  refine wpAny_bind (tupleItemsOf_ ht ?_)
  refine wpAny_bind (wpAny_typeOf hTs ?_)
  rw [if_pos (by decide)]
  refine wpAny_bind (applied_two hs ?_)
  show wpAny _ _ (if ((0 : Int) == 0 && (1 : Int) == 1 && (2 : Nat) == 3) = true then _ else _) _ _ s
  rw [if_neg (by decide)]
  have e : ((List.range 2).filterMap fun (k : Nat) => (#[a, b, c] : Array Value)[((0 : Int) + (k : Int) * 1).toNat]?).toArray = #[a, b] := rfl
  rw [e]
  first
    | exact wpAny_bind (m := Builtin.Tuple.tupleExact _) (wpAny_newObj_type (wpAny_pure ⟨_, rfl, wpAny_pure h⟩) hok)
    | exact wpAny_bind (m := Builtin.Tuple.tupleExact _) (wpAny_newObj_type (wpAny_bind (wpAny_pure (wpAny_pure ⟨_, rfl, wpAny_pure h⟩))) hok)
    | exact wpAny_bind (wpAny_bind (m := Builtin.Tuple.tupleExact _) (wpAny_newObj_type (wpAny_pure ⟨_, rfl, wpAny_pure h⟩) hok))
end
section
variable {prog : Program} {w : World} {A : Around} {E : Value → Shared → Prop} {h₀ hp : Heap} {gs : Array GenState} {dr : Drawn} {tk : Nat} {os : OsState} {L : Addr} {m : Str → Option Value} {news : List (Addr × Obj)}
theorem two_at {value slice : PySem.Expr} {t : Addr} {a b c : Value} {n : Nat} {u : Tok} {Q : Value → Shared → Prop}
    (F : Fr h₀ L hp m) (N : News h₀ L hp news) (hm : (t, { cls := .type "tuple", data := .seq #[a, b, c] n }) ∈ news)
    (h : ∀ D h', Fr h₀ L h' m → News h₀ L h' ((D, { cls := .type "tuple", data := .seq #[a, b] }) :: news) → (∀ p ∈ news, p.1 < D) → Q (.ref D) ⟨h', gs, dr, tk, os⟩)
    (hs : subscripted slice false (.ref t) (.ref hp.objs.size) = operate [.ref hp.objs.size, .ref t] (getItem (.ref t) (.ref hp.objs.size)))
    (hg : ∀ r, letTemporaryGo value (.ref t) r = pure ()) :
    wpAny (model prog w) A (subscriptTail value slice (.ref t) (.ref hp.objs.size)) Q E ⟨hp.push { cls := .type "slice", data := .fields #[.none, .int 2 u, .none] }, gs, dr, tk, os⟩ := by
  have ht' : IsTup (hp.push { cls := .type "slice", data := .fields #[.none, .int 2 u, .none] }) t #[a, b, c] := ⟨_, Heap.get?_push_of_some _ (N _ hm).1, rfl, n, rfl⟩
  refine subscriptTail_ops (s := ⟨hp.push { cls := .type "slice", data := .fields #[.none, .int 2 u, .none] }, gs, dr, tk, os⟩) ht'.typeIs slot_tuple_getitem.lookup
    (get_two ht' (Heap.IsSliceOf.new ..) ?_) hs hg
  have F1 := F.push { cls := .type "slice", data := .fields #[.none, .int 2 u, .none] }
  have N1 := News.push F1 (N.grown fun _ _ e => Heap.get?_push_of_some _ e) { cls := .type "tuple", data := .seq #[a, b] }
  exact h _ _ (F1.push _) N1 fun p hp' => by
    have h1 : @LT.lt Nat _ p.1 hp.objs.size := Heap.lt_size (N p hp').1
    show @LT.lt Nat _ p.1 (hp.push _).objs.size
    rw [Heap.size_push]; omega
end
end

section
open PySem
set_option maxRecDepth 100000
noncomputable def C2 : Array Nat := #[14, 9, 4, 1, 2, 16, 10, 16, 13, 0, 7, 7, 16, 13, 16, 10, 15, 18, 5, 16, 10, 15, 13, 11, 16, 13, 5, 5, 0, 16, 10, 1, 15, 2, 0, 1]
noncomputable def C1 : Array Nat := #[14, 4, 0, 1, 1, 6, 1, 16, 46, 1]

theorem runFor_add (m : Sre.M) : ∀ a b, m.runFor (a + b) = (m.runFor a).runFor b := by
  intro a
  induction a generalizing m with
  | zero => intro b; rw [Nat.zero_add]; rfl
  | succ a ih =>
    intro b
    rw [Nat.succ_add]
    show (if m.outcome.isSome then m else m.step.runFor (a + b)) = (if m.outcome.isSome then m else m.step.runFor a).runFor b
    by_cases h : m.outcome.isSome
    · rw [if_pos h, if_pos h]
      cases b with
      | zero => rfl
      | succ b => show m = (if m.outcome.isSome then m else _); rw [if_pos h]
    · rw [if_neg h, if_neg h, ih]
theorem runFor_ended {m : Sre.M} (h : m.outcome.isSome = true) : ∀ n, m.runFor n = m := by
  intro n
  cases n with
  | zero => rfl
  | succ n => show (if m.outcome.isSome then m else _) = m; rw [if_pos h]
theorem runFor_succ {m : Sre.M} (h : m.outcome = none) (n : Nat) : m.runFor (n + 1) = m.step.runFor n := by
  show (if m.outcome.isSome then m else _) = _
  rw [h]; rfl

noncomputable def searching (code text : Array Nat) (lim start : Nat) (must : Bool) (sn : Sre.Seen) : Sre.M :=
  { code, text, lim, start, lastStart := lim, pc := (Sre.header code).2, pos := start, handed := start, marks := #[], mustAdvance := must, seen := sn }

/-- one sign is taken; the op says no; the last op says yes -/
noncomputable def took (m : Sre.M) (seen : Sre.Seen) : Sre.M := { m with seen, pc := m.pc + 2, pos := m.pos + 1 }
noncomputable def left (m : Sre.M) (seen : Sre.Seen) : Sre.M := ({ m with seen } : Sre.M).say false
noncomputable def won (m : Sre.M) (seen : Sre.Seen) : Sre.M := ({ m with seen, handed := m.pos } : Sre.M).say true
/-- the machine stands at an op -/
structure Stands (m : Sre.M) (op : Sre.Op) : Prop where
  outcome : m.outcome = none
  answer : m.answer = none
  pc : decide (m.pc < m.code.size) = true
  op : Sre.ops[m.code.getD m.pc 0]? = some op
theorem Stands.step {m : Sre.M} {op : Sre.Op} (h : Stands m op) (n : Nat) : m.runFor (n + 1) = m.exec.runFor n := by
  rw [runFor_succ h.outcome]
  have e : m.step = m.exec := by
    unfold Sre.M.step
    rw [h.outcome, h.answer]
    show (if m.pc < m.code.size then m.exec else _) = _
    rw [if_pos (of_decide_eq_true h.pc)]
  rw [e]
theorem acc_lit {code : Array Nat} {i c w : Nat} {seen : Sre.Seen} {b : Bool} (h : Sre.ops[code.getD i 0]? = some .LITERAL) (hw : code.getD (i + 1) 0 = w) (hb : (c == w) = b) : Sre.accepts code i c seen = .ok (b, seen) := by
  unfold Sre.accepts
  rw [h, ← hb, ← hw]
theorem width_lit {code : Array Nat} {i : Nat} (h : Sre.ops[code.getD i 0]? = some .LITERAL) : Sre.itemWidth code i = 2 := by
  unfold Sre.itemWidth
  rw [h]
theorem exec_lit {m : Sre.M} (h : Stands m .LITERAL) : m.exec = if m.pos ≥ m.lim then left m (m.seen.add (m.word 0)) else
    match Sre.accepts m.code m.pc (m.text.getD m.pos 0) (m.seen.add (m.word 0)) with
    | .error why => ({ m with seen := m.seen.add (m.word 0) } : Sre.M).stick why
    | .ok (false, seen) => left m seen
    | .ok (true, seen) => { m with seen, pc := m.pc + Sre.itemWidth m.code m.pc, pos := m.pos + 1 } := by
  unfold Sre.M.exec
  have e : Sre.ops[m.word 0]? = some .LITERAL := h.op
  rw [e]
  rfl
theorem lit_yes {P : Sre.M → Prop} {m : Sre.M} {n c : Nat} (h : Stands m .LITERAL) (hl : m.pos < m.lim) (ht : m.text.getD m.pos 0 = c) (hw : m.code.getD (m.pc + 1) 0 = c) (next : ∀ sn, P ((took m sn).runFor n)) : P (m.runFor (n + 1)) := by
  rw [h.step, exec_lit h, if_neg (Nat.not_le.mpr hl), acc_lit h.op rfl (b := true) (by rw [ht, hw]; exact BEq.rfl), width_lit h.op]
  exact next _
theorem lit_no {P : Sre.M → Prop} {m : Sre.M} {n c w : Nat} (h : Stands m .LITERAL) (hl : m.pos < m.lim) (ht : m.text.getD m.pos 0 = c) (hw : m.code.getD (m.pc + 1) 0 = w) (hc : (c == w) = false) (next : ∀ sn, P ((left m sn).runFor n)) : P (m.runFor (n + 1)) := by
  rw [h.step, exec_lit h, if_neg (Nat.not_le.mpr hl), acc_lit h.op rfl (b := false) (by rw [ht, hw]; exact hc)]
  exact next _
theorem lit_out {P : Sre.M → Prop} {m : Sre.M} {n : Nat} (h : Stands m .LITERAL) (hl : m.lim ≤ m.pos) (next : ∀ sn, P ((left m sn).runFor n)) : P (m.runFor (n + 1)) := by
  rw [h.step, exec_lit h, if_pos hl]
  exact next _
theorem win {P : Sre.M → Prop} {m : Sre.M} {n : Nat} (h : Stands m .SUCCESS) (hw : m.wholeText = false) (hm : m.mustAdvance = false) (next : ∀ sn, P ((won m sn).runFor n)) : P (m.runFor (n + 1)) := by
  have e : m.exec = won m (m.seen.add (m.word 0)) := by
    unfold Sre.M.exec
    have e : Sre.ops[m.word 0]? = some .SUCCESS := h.op
    rw [e]
    exact (congrArg (fun b : Bool => if b = true then left m (m.seen.add (m.word 0)) else won m (m.seen.add (m.word 0))) (show (m.outermost && ((m.wholeText && m.pos != m.lim) || (m.mustAdvance && m.pos == m.start))) = false by rw [hw, hm]; exact Bool.and_false _))
  rw [h.step, e]
  exact next _
theorem move {P : Sre.M → Prop} {m : Sre.M} (m' : Sre.Seen → Sre.M) (k : Nat) {n : Nat} (h : ∃ sn, m.runFor k = m' sn) (next : ∀ sn, P ((m' sn).runFor n)) : P (m.runFor (n + k)) := by
  obtain ⟨sn, h⟩ := h
  rw [Nat.add_comm, runFor_add, h]
  exact next sn
noncomputable def Ended (s e : Nat) (m : Sre.M) : Prop := m.outcome = some .matched ∧ m.start = s ∧ m.handed = e
/-- the machine within the attempt at s, in a branch; in the look ahead -/
noncomputable def F0 (s : Nat) (first : Bool) : Sre.Frame := { wait := .nextStart, pc := 10, pos := s, outermost := first }
noncomputable def F1 (s : Nat) (first : Bool) (pc : Nat) : Sre.Frame := { wait := .nextBranch, pc, pos := s, outermost := first, kept := { lastmark := -1, lastindex := -1, whole := false, marks := #[] } }
noncomputable def F2 (p : Nat) (first : Bool) : Sre.Frame := { wait := .lookNot, pc := 26, pos := p, outermost := first, kept := { lastmark := -1, lastindex := -1, whole := false, marks := #[] } }
noncomputable def At (text : Array Nat) (lim s : Nat) (first : Bool) (br pc pos : Nat) (sn : Sre.Seen) : Sre.M :=
  { code := C2, text, lim, start := s, lastStart := lim, pc, pos, handed := s, outermost := first, marks := #[], frames := [F1 s first br, F0 s first], weight := 2, seen := sn }
noncomputable def Look (text : Array Nat) (lim s : Nat) (first : Bool) (sn : Sre.Seen) : Sre.M :=
  { code := C2, text, lim, start := s, lastStart := lim, pc := 29, pos := s + 1, handed := s + 1, outermost := false, marks := #[], frames := [F2 (s + 1) first, F1 s first 23, F0 s first], weight := 3, seen := sn }
noncomputable def Past (text : Array Nat) (lim s : Nat) (first : Bool) (sn : Sre.Seen) : Sre.M :=
  { code := C2, text, lim, start := s, lastStart := lim, pc := 35, pos := s + 1, handed := s + 1, outermost := first, marks := #[], frames := [F1 s first 23, F0 s first], weight := 2, seen := sn }
theorem at_crlf {text : Array Nat} {lim s₀ s : Nat} {sn : Sre.Seen} {first : Bool} (h1 : s + 1 < lim) (c1 : text.getD s 0 = 13) (c2 : text.getD (s + 1) 0 = 10) :
    Ended s (s + 2) (((searching C2 text lim s₀ false sn).attemptAt s first).runFor 16) := by
  refine move (At text lim s first 11 12 s) 1 ⟨_, rfl⟩ fun _ => ?_
  refine lit_yes ⟨rfl, rfl, rfl, rfl⟩ (Nat.lt_of_succ_lt h1) c1 rfl fun sn => ?_
  refine lit_yes (m := At text lim s first 11 14 (s + 1) sn) ⟨rfl, rfl, rfl, rfl⟩ h1 c2 rfl fun sn => ?_
  refine move (At text lim s first 11 35 (s + 2)) 1 ⟨_, rfl⟩ fun _ => ?_
  refine win ⟨rfl, rfl, rfl, rfl⟩ rfl rfl fun _ => ?_
  exact ⟨rfl, rfl, rfl⟩
theorem at_lf {text : Array Nat} {lim s₀ s : Nat} {sn : Sre.Seen} {first : Bool} (h1 : s < lim) (c1 : text.getD s 0 = 10) :
    Ended s (s + 1) (((searching C2 text lim s₀ false sn).attemptAt s first).runFor 16) := by
  refine move (At text lim s first 11 12 s) 1 ⟨_, rfl⟩ fun _ => ?_
  refine lit_no ⟨rfl, rfl, rfl, rfl⟩ h1 c1 rfl rfl fun _ => ?_
  refine move (At text lim s first 18 19 s) 1 ⟨_, rfl⟩ fun _ => ?_
  refine lit_yes ⟨rfl, rfl, rfl, rfl⟩ h1 c1 rfl fun _ => ?_
  refine move (At text lim s first 18 35 (s + 1)) 1 ⟨_, rfl⟩ fun _ => ?_
  refine win ⟨rfl, rfl, rfl, rfl⟩ rfl rfl fun _ => ?_
  exact ⟨rfl, rfl, rfl⟩
theorem at_cr_way {text : Array Nat} {lim s : Nat} {sn sn' : Sre.Seen} {first : Bool} (h1 : s < lim) (c1 : text.getD s 0 = 13)
    (next : ∀ sn, Ended s (s + 1) ((Look text lim s first sn).runFor 8)) : Ended s (s + 1) ((left (At text lim s first 11 14 (s + 1) sn) sn').runFor 13) := by
  refine move (At text lim s first 18 19 s) 1 ⟨_, rfl⟩ fun _ => ?_
  refine lit_no ⟨rfl, rfl, rfl, rfl⟩ h1 c1 rfl rfl fun _ => ?_
  refine move (At text lim s first 23 24 s) 1 ⟨_, rfl⟩ fun _ => ?_
  refine lit_yes ⟨rfl, rfl, rfl, rfl⟩ h1 c1 rfl fun _ => ?_
  refine move (Look text lim s first) 1 ⟨_, rfl⟩ fun _ => ?_
  exact next _
theorem at_cr_won {text : Array Nat} {lim s : Nat} {sn sn' : Sre.Seen} {first : Bool} : Ended s (s + 1) ((left (Look text lim s first sn) sn').runFor 7) := by
  refine move (Past text lim s first) 2 ⟨_, rfl⟩ fun _ => ?_
  refine win ⟨rfl, rfl, rfl, rfl⟩ rfl rfl fun _ => ?_
  exact ⟨rfl, rfl, rfl⟩
theorem at_cr_first {text : Array Nat} {lim s₀ s : Nat} {sn : Sre.Seen} {first : Bool} (h1 : s < lim) (c1 : text.getD s 0 = 13)
    (next : ∀ sn, Ended s (s + 1) ((At text lim s first 11 14 (s + 1) sn).runFor 14)) : Ended s (s + 1) (((searching C2 text lim s₀ false sn).attemptAt s first).runFor 16) := by
  refine move (At text lim s first 11 12 s) 1 ⟨_, rfl⟩ fun _ => ?_
  refine lit_yes ⟨rfl, rfl, rfl, rfl⟩ h1 c1 rfl fun sn => ?_
  exact next sn
theorem at_cr_end {text : Array Nat} {lim s₀ s : Nat} {sn : Sre.Seen} {first : Bool} (h1 : s < lim) (h2 : lim ≤ s + 1) (c1 : text.getD s 0 = 13) :
    Ended s (s + 1) (((searching C2 text lim s₀ false sn).attemptAt s first).runFor 16) := by
  refine at_cr_first h1 c1 fun _ => ?_
  refine lit_out ⟨rfl, rfl, rfl, rfl⟩ h2 fun _ => ?_
  refine at_cr_way h1 c1 fun _ => ?_
  exact lit_out ⟨rfl, rfl, rfl, rfl⟩ h2 fun _ => at_cr_won
theorem at_cr {text : Array Nat} {lim s₀ s d : Nat} {sn : Sre.Seen} {first : Bool} (h1 : s + 1 < lim) (c1 : text.getD s 0 = 13) (c2 : text.getD (s + 1) 0 = d) (c3 : (d == 10) = false) :
    Ended s (s + 1) (((searching C2 text lim s₀ false sn).attemptAt s first).runFor 16) := by
  refine at_cr_first (Nat.lt_of_succ_lt h1) c1 fun _ => ?_
  refine lit_no ⟨rfl, rfl, rfl, rfl⟩ h1 c2 rfl c3 fun _ => ?_
  refine at_cr_way (Nat.lt_of_succ_lt h1) c1 fun _ => ?_
  exact lit_no ⟨rfl, rfl, rfl, rfl⟩ h1 c2 rfl c3 fun _ => at_cr_won

/-- the ends: a return and a feed, or one of them alone -/
inductive EndAt (text : Array Nat) (lim s : Nat) : Nat → Prop where
  | crlf : s + 1 < lim → text.getD s 0 = 13 → text.getD (s + 1) 0 = 10 → EndAt text lim s (s + 2)
  | lf : s < lim → text.getD s 0 = 10 → EndAt text lim s (s + 1)
  | cr : s < lim → text.getD s 0 = 13 → (s + 1 < lim → text.getD (s + 1) 0 ≠ 10) → EndAt text lim s (s + 1)
theorem at_end {text : Array Nat} {lim s₀ s e : Nat} {sn : Sre.Seen} {first : Bool} (h : EndAt text lim s e) :
    Ended s e (((searching C2 text lim s₀ false sn).attemptAt s first).runFor 16) := by
  cases h with
  | crlf h1 h2 h3 => exact at_crlf h1 h2 h3
  | lf h1 h2 => exact at_lf h1 h2
  | cr h1 h2 h3 =>
    by_cases hl : s + 1 < lim
    · exact at_cr hl h2 rfl (by simpa using h3 hl)
    · exact at_cr_end h1 (Nat.not_lt.mp hl) h2

theorem set_feed {c fuel : Nat} {sn : Sre.Seen} : Sre.inSet C2 c (fuel + 1) 5 true sn = if (c == 10) = true then .ok (true, sn.add 16) else Sre.inSet C2 c fuel 7 true (sn.add 16) := rfl
theorem set_return {c fuel : Nat} {sn : Sre.Seen} : Sre.inSet C2 c (fuel + 1) 7 true sn = if (c == 13) = true then .ok (true, sn.add 16) else Sre.inSet C2 c fuel 9 true (sn.add 16) := rfl
theorem set_yes {c fuel : Nat} {sn : Sre.Seen} (h : c = 10 ∨ c = 13) : ∃ sn', Sre.inSet C2 c (fuel + 3) 5 true sn = .ok (true, sn') := by
  rw [set_feed]
  rcases h with rfl | rfl
  · exact ⟨_, rfl⟩
  · exact ⟨_, rfl⟩
theorem set_no {c fuel : Nat} {sn : Sre.Seen} (h1 : c ≠ 10) (h2 : c ≠ 13) : ∃ sn', Sre.inSet C2 c (fuel + 3) 5 true sn = .ok (false, sn') := by
  have e1 : ¬ (c == 10) = true := by rw [beq_iff_eq]; exact h1
  have e2 : ¬ (c == 13) = true := by rw [beq_iff_eq]; exact h2
  rw [set_feed, if_neg e1, set_return, if_neg e2]
  exact ⟨_, rfl⟩
theorem adm {text : Array Nat} {lim s₀ : Nat} {sn₀ : Sre.Seen} {k p : Nat} {sn : Sre.Seen} : Sre.M.admitted (searching C2 text lim s₀ false sn₀) (k + 1) p sn = if lim ≤ p then .ok (none, sn) else
    match Sre.inSet C2 (text.getD p 0) 36 5 true sn with
    | .ok (true, seen) => .ok (some p, seen)
    | .ok (false, seen) => Sre.M.admitted (searching C2 text lim s₀ false sn₀) k (p + 1) seen
    | .error why => .error why := rfl
/-- the first place from p on that may open an end -/
theorem admitted_at {text : Array Nat} {lim s₀ : Nat} {sn₀ : Sre.Seen} : ∀ (k p : Nat) (sn : Sre.Seen) {s : Nat}, s < p + k → p ≤ s → s < lim → (∀ i, p ≤ i → i < s → text.getD i 0 ≠ 10 ∧ text.getD i 0 ≠ 13) → (text.getD s 0 = 10 ∨ text.getD s 0 = 13) →
    ∃ sn', Sre.M.admitted (searching C2 text lim s₀ false sn₀) k p sn = .ok (some s, sn') := by
  intro k
  induction k with
  | zero => intro p sn s h1 h2; omega
  | succ k ih =>
    intro p sn s h1 h2 h3 hno hyes
    by_cases hp : p = s
    · subst hp
      obtain ⟨sn', e⟩ := set_yes (fuel := 33) (sn := sn) hyes
      rw [adm, if_neg (by omega)]
      rw [e]
      exact ⟨_, rfl⟩
    · obtain ⟨n1, n2⟩ := hno p (Nat.le_refl _) (by omega)
      obtain ⟨sn', e⟩ := set_no (fuel := 33) (sn := sn) n1 n2
      rw [adm, if_neg (by omega)]
      rw [e]
      exact ih (p + 1) sn' (by omega) (by omega) h3 (fun i h4 h5 => hno i (by omega) h5) hyes
theorem admitted_none {text : Array Nat} {lim s₀ : Nat} {sn₀ : Sre.Seen} : ∀ (k p : Nat) (sn : Sre.Seen), (∀ i, p ≤ i → i < lim → text.getD i 0 ≠ 10 ∧ text.getD i 0 ≠ 13) →
    ∃ sn', Sre.M.admitted (searching C2 text lim s₀ false sn₀) k p sn = .ok (none, sn') := by
  intro k
  induction k with
  | zero => intro p sn _; exact ⟨_, rfl⟩
  | succ k ih =>
    intro p sn hno
    by_cases hp : p < lim
    · obtain ⟨n1, n2⟩ := hno p (Nat.le_refl _) hp
      obtain ⟨sn', e⟩ := set_no (fuel := 33) (sn := sn) n1 n2
      rw [adm, if_neg (by omega)]
      rw [e]
      exact ih (p + 1) sn' (fun i h4 h5 => hno i (by omega) h5)
    · rw [adm, if_pos (Nat.not_lt.mp hp)]
      exact ⟨_, rfl⟩

theorem search2 {text : Array Nat} {lim p : Nat} (h : p < lim) : Sre.forSearch C2 text 0 p lim false = (searching C2 text lim p false (({} : Sre.Seen).add 14)).attemptFrom p true := by
  have e : (decide (p > lim) || decide (lim - p < 1)) = false := by simp only [Bool.or_eq_false_iff, decide_eq_false_iff_not]; omega
  unfold Sre.forSearch
  show (if (decide (p > lim) || decide (lim - p < 1)) = true then _ else _) = _
  rw [e]
  rfl
theorem search2_end {text : Array Nat} {lim p : Nat} (h : lim ≤ p) : ((Sre.forSearch C2 text 0 p lim false).runFor 16).outcome = some .failed := by
  have e : (decide (p > lim) || decide (lim - p < 1)) = true := by simp only [Bool.or_eq_true, decide_eq_true_eq]; omega
  unfold Sre.forSearch
  show ((if (decide (p > lim) || decide (lim - p < 1)) = true then _ else _ : Sre.M).runFor 16).outcome = _
  rw [e]
  rfl
theorem from2 {text : Array Nat} {lim p s : Nat} {sn sn' : Sre.Seen} (h : Sre.M.admitted (searching C2 text lim p false sn) (lim + 1 - p) p sn = .ok (some s, sn')) :
    (searching C2 text lim p false sn).attemptFrom p true = (searching C2 text lim p false sn').attemptAt s true := by
  unfold Sre.M.attemptFrom
  rw [if_neg (by show ¬ (!true) = true; decide)]
  have h' : Sre.M.admitted (searching C2 text lim p false sn) ((searching C2 text lim p false sn).lim + 1 - p) p (searching C2 text lim p false sn).seen = .ok (some s, sn') := h
  rw [h']
  rfl
theorem from2_none {text : Array Nat} {lim p : Nat} {sn sn' : Sre.Seen} (h : Sre.M.admitted (searching C2 text lim p false sn) (lim + 1 - p) p sn = .ok (none, sn')) :
    (searching C2 text lim p false sn).attemptFrom p true = (searching C2 text lim p false sn').say false := by
  unfold Sre.M.attemptFrom
  rw [if_neg (by show ¬ (!true) = true; decide)]
  have h' : Sre.M.admitted (searching C2 text lim p false sn) ((searching C2 text lim p false sn).lim + 1 - p) p (searching C2 text lim p false sn).seen = .ok (none, sn') := h
  rw [h']
  rfl
/-- the first end from p on is found -/
theorem find2 {text : Array Nat} {lim p s e : Nat} (hp : p ≤ s) (hno : ∀ i, p ≤ i → i < s → text.getD i 0 ≠ 10 ∧ text.getD i 0 ≠ 13) (he : EndAt text lim s e) :
    ∃ m, (Sre.forSearch C2 text 0 p lim false).runFor 16 = m ∧ m.outcome = some .matched ∧ m.start = s ∧ m.handed = e := by
  have hs : s < lim := by cases he <;> omega
  have hc : text.getD s 0 = 10 ∨ text.getD s 0 = 13 := by
    cases he with
    | crlf _ h _ => exact .inr h
    | lf _ h => exact .inl h
    | cr _ h _ => exact .inr h
  obtain ⟨sn', ha⟩ := admitted_at (s₀ := p) (sn₀ := ({} : Sre.Seen).add 14) (lim + 1 - p) p (({} : Sre.Seen).add 14) (s := s) (by omega) hp hs hno hc
  rw [search2 (by omega), from2 ha]
  exact ⟨_, rfl, at_end he⟩
theorem none2 {text : Array Nat} {lim p : Nat} (hno : ∀ i, p ≤ i → i < lim → text.getD i 0 ≠ 10 ∧ text.getD i 0 ≠ 13) :
    ((Sre.forSearch C2 text 0 p lim false).runFor 16).outcome = some .failed := by
  by_cases h : p < lim
  · obtain ⟨sn', ha⟩ := admitted_none (s₀ := p) (sn₀ := ({} : Sre.Seen).add 14) (lim + 1 - p) p (({} : Sre.Seen).add 14) hno
    rw [search2 h, from2_none ha]
    rfl
  · exact search2_end (by omega)

/-- the machine at place s, the line's first dot sought -/
noncomputable def A1 (text : Array Nat) (lim s : Nat) (first : Bool) (sn : Sre.Seen) : Sre.M :=
  { code := C1, text, lim, start := s, lastStart := lim, pc := 5, pos := s, handed := s, outermost := first, marks := #[], frames := [{ wait := .nextStart, pc := 5, pos := s, outermost := first }], weight := 1, seen := sn }
noncomputable def LineAt (text : Array Nat) (s : Nat) : Prop := s = 0 ∨ text.getD (s - 1) 0 = 10
theorem exec_at {m : Sre.M} (h : Stands m .AT) (hw : m.code.getD (m.pc + 1) 0 = 1) : m.exec = if (m.pos == 0 || m.text.getD (m.pos - 1) 0 == 10) = true then { m with seen := (m.seen.add (m.word 0)).add (43 + m.word 1), pc := m.pc + 2 } else left m ((m.seen.add (m.word 0)).add (43 + m.word 1)) := by
  unfold Sre.M.exec
  have e : Sre.ops[m.word 0]? = some .AT := h.op
  rw [e]
  have e' : ({ m with seen := m.seen.add (m.word 0) } : Sre.M).isAt (({ m with seen := m.seen.add (m.word 0) } : Sre.M).word 1) = .ok (m.pos == 0 || m.text.getD (m.pos - 1) 0 == 10) := by
    have e'' : ({ m with seen := m.seen.add (m.word 0) } : Sre.M).word 1 = 1 := hw
    rw [e'']
    rfl
  show (match ({ m with seen := m.seen.add (m.word 0) } : Sre.M).isAt (({ m with seen := m.seen.add (m.word 0) } : Sre.M).word 1) with | .error why => _ | .ok yes => _) = _
  rw [e']
  rfl
theorem at_yes {P : Sre.M → Prop} {m : Sre.M} {n : Nat} (h : Stands m .AT) (hw : m.code.getD (m.pc + 1) 0 = 1) (hb : m.pos = 0 ∨ m.text.getD (m.pos - 1) 0 = 10) (next : ∀ sn, P (({ m with seen := sn, pc := m.pc + 2 } : Sre.M).runFor n)) : P (m.runFor (n + 1)) := by
  rw [h.step, exec_at h hw, if_pos (by rw [Bool.or_eq_true, beq_iff_eq, beq_iff_eq]; exact hb)]
  exact next _
theorem at_no {P : Sre.M → Prop} {m : Sre.M} {n : Nat} (h : Stands m .AT) (hw : m.code.getD (m.pc + 1) 0 = 1) (hb : ¬ (m.pos = 0 ∨ m.text.getD (m.pos - 1) 0 = 10)) (next : ∀ sn, P ((left m sn).runFor n)) : P (m.runFor (n + 1)) := by
  rw [h.step, exec_at h hw, if_neg (by rw [Bool.or_eq_true, beq_iff_eq, beq_iff_eq]; exact hb)]
  exact next _
theorem resume_on {m : Sre.M} {p pos : Nat} {o : Bool} (h : pos < m.lastStart) : Sre.M.resume m { wait := .nextStart, pc := p, pos, outermost := o } false = ({ m with mustAdvance := false } : Sre.M).attemptFrom (pos + 1) false := if_pos h
theorem resume_off {m : Sre.M} {p pos : Nat} {o : Bool} (h : ¬ pos < m.lastStart) : Sre.M.resume m { wait := .nextStart, pc := p, pos, outermost := o } false = m.say false := if_neg h
noncomputable def A2 (text : Array Nat) (lim s : Nat) (first : Bool) (sn : Sre.Seen) : Sre.M := { A1 text lim s first sn with pc := 7 }
noncomputable def A0 (text : Array Nat) (lim s : Nat) (first : Bool) (sn : Sre.Seen) : Sre.M := { A1 text lim s first sn with frames := [], weight := 0 }
theorem back1 {text : Array Nat} {lim s : Nat} {first : Bool} {sn sn' : Sre.Seen} (hs : s < lim) : (left (A1 text lim s first sn) sn').runFor 1 = A1 text lim (s + 1) false sn' := by
  show Sre.M.resume (A0 text lim s first sn') { wait := .nextStart, pc := 5, pos := s, outermost := first } false = _
  exact (resume_on hs).trans rfl
theorem back2 {text : Array Nat} {lim s : Nat} {first : Bool} {sn sn' : Sre.Seen} (hs : s < lim) : (left (A2 text lim s first sn) sn').runFor 1 = A1 text lim (s + 1) false sn' := by
  show Sre.M.resume (A0 text lim s first sn') { wait := .nextStart, pc := 5, pos := s, outermost := first } false = _
  exact (resume_on hs).trans rfl
theorem stop1 {text : Array Nat} {lim : Nat} {first : Bool} {sn sn' : Sre.Seen} : (left (A1 text lim lim first sn) sn').runFor 1 = (A0 text lim lim first sn').say false := by
  show Sre.M.resume (A0 text lim lim first sn') { wait := .nextStart, pc := 5, pos := lim, outermost := first } false = _
  exact resume_off (Nat.lt_irrefl _)
theorem stop2 {text : Array Nat} {lim : Nat} {first : Bool} {sn sn' : Sre.Seen} : (left (A2 text lim lim first sn) sn').runFor 1 = (A0 text lim lim first sn').say false := by
  show Sre.M.resume (A0 text lim lim first sn') { wait := .nextStart, pc := 5, pos := lim, outermost := first } false = _
  exact resume_off (Nat.lt_irrefl _)
theorem go1 {text : Array Nat} {lim s : Nat} {first : Bool} {sn : Sre.Seen} (hl : ¬ LineAt text s) (hs : s < lim) : ∃ sn', (A1 text lim s first sn).runFor 2 = A1 text lim (s + 1) false sn' :=
  at_no (P := fun m => ∃ sn', m = A1 text lim (s + 1) false sn') (n := 1) ⟨rfl, rfl, rfl, rfl⟩ rfl hl fun sn' => ⟨sn', back1 hs⟩
theorem go2 {text : Array Nat} {lim s : Nat} {first : Bool} {sn : Sre.Seen} (hl : LineAt text s) (hs : s < lim) (hc : text.getD s 0 ≠ 46) : ∃ sn', (A1 text lim s first sn).runFor 3 = A1 text lim (s + 1) false sn' :=
  at_yes (P := fun m => ∃ sn', m = A1 text lim (s + 1) false sn') (n := 2) ⟨rfl, rfl, rfl, rfl⟩ rfl hl fun sn =>
    lit_no (P := fun m => ∃ sn', m = A1 text lim (s + 1) false sn') (m := A2 text lim s first sn) (n := 1) ⟨rfl, rfl, rfl, rfl⟩ hs rfl rfl (beq_false_of_ne hc) fun sn' => ⟨sn', back2 hs⟩
theorem hit1 {text : Array Nat} {lim s : Nat} {first : Bool} {sn : Sre.Seen} (hl : LineAt text s) (hs : s < lim) (hc : text.getD s 0 = 46) : Ended s (s + 1) ((A1 text lim s first sn).runFor 5) := by
  refine at_yes ⟨rfl, rfl, rfl, rfl⟩ rfl hl fun sn => ?_
  refine lit_yes (m := A2 text lim s first sn) ⟨rfl, rfl, rfl, rfl⟩ hs hc rfl fun sn => ?_
  refine win (m := { A2 text lim s first sn with pc := 9, pos := s + 1 }) ⟨rfl, rfl, rfl, rfl⟩ rfl rfl fun _ => ?_
  exact ⟨rfl, rfl, rfl⟩
theorem end1 {text : Array Nat} {lim : Nat} {first : Bool} {sn : Sre.Seen} : ((A1 text lim lim first sn).runFor 5).outcome = some .failed := by
  by_cases hl : LineAt text lim
  · refine at_yes (P := fun m => m.outcome = some .failed) ⟨rfl, rfl, rfl, rfl⟩ rfl hl fun sn => ?_
    refine lit_out (P := fun m => m.outcome = some .failed) (m := A2 text lim lim first sn) ⟨rfl, rfl, rfl, rfl⟩ (Nat.le_refl _) fun sn' => ?_
    show (Sre.M.runFor (1 + 2) (left (A2 text lim lim first sn) sn')).outcome = _
    rw [runFor_add, stop2]
    rfl
  · refine at_no (P := fun m => m.outcome = some .failed) ⟨rfl, rfl, rfl, rfl⟩ rfl hl fun sn' => ?_
    show (Sre.M.runFor (1 + 3) (left (A1 text lim lim first sn) sn')).outcome = _
    rw [runFor_add, stop1]
    rfl
theorem go {text : Array Nat} {lim s : Nat} {first : Bool} {sn : Sre.Seen} (hs : s < lim) (hno : ¬ (LineAt text s ∧ text.getD s 0 = 46)) : ∃ n sn', n ≤ 3 ∧ (A1 text lim s first sn).runFor n = A1 text lim (s + 1) false sn' := by
  by_cases hl : LineAt text s
  · obtain ⟨sn', e⟩ := go2 (first := first) (sn := sn) hl hs fun e => hno ⟨hl, e⟩
    exact ⟨3, sn', Nat.le_refl _, e⟩
  · obtain ⟨sn', e⟩ := go1 (first := first) (sn := sn) hl hs
    exact ⟨2, sn', by omega, e⟩
theorem run1 {text : Array Nat} {lim : Nat} : ∀ (k p : Nat) (first : Bool) (sn : Sre.Seen), p + k < lim → (∀ i, p ≤ i → i < p + k → ¬ (LineAt text i ∧ text.getD i 0 = 46)) → LineAt text (p + k) → text.getD (p + k) 0 = 46 →
    ∃ n m, n ≤ 3 * k + 5 ∧ (A1 text lim p first sn).runFor n = m ∧ m.outcome = some .matched ∧ m.start = p + k ∧ m.handed = p + k + 1 := by
  intro k
  induction k with
  | zero =>
    intro p first sn h1 _ h3 h4
    exact ⟨5, _, by omega, rfl, hit1 h3 h1 h4⟩
  | succ k ih =>
    intro p first sn h1 h2 h3 h4
    obtain ⟨n, sn', hn, e⟩ := go (first := first) (sn := sn) (by omega : p < lim) (h2 p (Nat.le_refl _) (by omega))
    have ep : p + (k + 1) = p + 1 + k := by omega
    rw [ep] at h1 h3 h4 ⊢
    obtain ⟨n', m, hn', e', h5⟩ := ih (p + 1) false sn' h1 (fun i h6 h7 => h2 i (by omega) (by omega)) h3 h4
    exact ⟨n + n', m, by omega, by rw [runFor_add, e, e'], h5⟩
theorem run1_none {text : Array Nat} {lim : Nat} : ∀ (k p : Nat) (first : Bool) (sn : Sre.Seen), p + k = lim → (∀ i, p ≤ i → i < lim → ¬ (LineAt text i ∧ text.getD i 0 = 46)) →
    ∃ n, n ≤ 3 * k + 5 ∧ ((A1 text lim p first sn).runFor n).outcome = some .failed := by
  intro k
  induction k with
  | zero =>
    intro p first sn h1 _
    obtain rfl : p = lim := by omega
    exact ⟨5, by omega, end1⟩
  | succ k ih =>
    intro p first sn h1 h2
    obtain ⟨n, sn', hn, e⟩ := go (first := first) (sn := sn) (by omega : p < lim) (h2 p (Nat.le_refl _) (by omega))
    obtain ⟨n', hn', e'⟩ := ih (p + 1) false sn' (by omega) (fun i h6 h7 => h2 i (by omega) h7)
    exact ⟨n + n', by omega, by rw [runFor_add, e, e']⟩
theorem search1 {text : Array Nat} {lim p : Nat} (h : p < lim) : Sre.forSearch C1 text 0 p lim false = A1 text lim p true (({} : Sre.Seen).add 14) := by
  have e : (decide (p > lim) || decide (lim - p < 1)) = false := by simp only [Bool.or_eq_false_iff, decide_eq_false_iff_not]; omega
  unfold Sre.forSearch
  show (if (decide (p > lim) || decide (lim - p < 1)) = true then _ else _) = _
  rw [e]
  rfl
theorem find1 {text : Array Nat} {lim p s : Nat} (hp : p ≤ s) (hs : s < lim) (hno : ∀ i, p ≤ i → i < s → ¬ (LineAt text i ∧ text.getD i 0 = 46)) (hl : LineAt text s) (hc : text.getD s 0 = 46) :
    ∃ n m, n ≤ 3 * lim + 5 ∧ (Sre.forSearch C1 text 0 p lim false).runFor n = m ∧ m.outcome = some .matched ∧ m.start = s ∧ m.handed = s + 1 := by
  have e : s = p + (s - p) := by omega
  rw [e] at hs hno hl hc
  rw [search1 (by omega)]
  obtain ⟨n, m, h1, h2⟩ := run1 (s - p) p true (({} : Sre.Seen).add 14) hs hno hl hc
  exact ⟨n, m, by omega, by rw [e]; simpa using h2⟩
theorem none1 {text : Array Nat} {lim p : Nat} (hno : ∀ i, p ≤ i → i < lim → ¬ (LineAt text i ∧ text.getD i 0 = 46)) :
    ∃ n, n ≤ 3 * lim + 5 ∧ ((Sre.forSearch C1 text 0 p lim false).runFor n).outcome = some .failed := by
  by_cases h : p < lim
  · rw [search1 h]
    obtain ⟨n, h1, h2⟩ := run1_none (lim - p) p true (({} : Sre.Seen).add 14) (by omega) hno
    exact ⟨n, by omega, h2⟩
  · refine ⟨5, by omega, ?_⟩
    have e : (decide (p > lim) || decide (lim - p < 1)) = true := by simp only [Bool.or_eq_true, decide_eq_true_eq]; omega
    unfold Sre.forSearch
    show ((if (decide (p > lim) || decide (lim - p < 1)) = true then _ else _ : Sre.M).runFor 5).outcome = _
    rw [e]
    rfl
end

section
open PySem PySem.W PyProof.Rows PySem.Builtin.Re
open Sem (wp)
set_option maxRecDepth 100000
section
variable {M : Model} {A : Around} {E : Value → Shared → Prop} {s : Shared}
theorem drive_ends {Q : Sre.M → Shared → Prop} : ∀ (turns n : Nat) (m : Sre.M), n ≤ 4 * turns → (m.runFor n).outcome.isSome = true → 0 < turns → Q (m.runFor n) s → wpAny M A (reDrive turns m) Q E s := by
  intro turns
  induction turns with
  | zero => intro n m _ _ h; exact absurd h (Nat.lt_irrefl _)
  | succ turns ih =>
    intro n m hn ho _ hQ
    show wpAny M A (if (m.runFor 4).outcome.isSome = true then pure (m.runFor 4) else do rule "sre.turn"; reDrive turns (m.runFor 4)) Q E s
    by_cases h4 : (m.runFor 4).outcome.isSome = true
    · rw [if_pos h4]
      have e : m.runFor n = m.runFor 4 := by
        rcases Nat.le_total n 4 with h | h
        · obtain ⟨k, hk⟩ := Nat.exists_eq_add_of_le h
          rw [hk, runFor_add, runFor_ended ho]
        · obtain ⟨k, rfl⟩ := Nat.exists_eq_add_of_le h
          rw [runFor_add, runFor_ended h4]
      rw [e] at hQ
      exact wpAny_pure hQ
    · rw [if_neg h4]
      refine wpAny_bind (wpAny_rule ?_)
      have hn4 : ¬ n ≤ 4 := fun h => h4 (by
        obtain ⟨k, hk⟩ := Nat.exists_eq_add_of_le h
        rw [hk, runFor_add, runFor_ended ho]; exact ho)
      obtain ⟨k, rfl⟩ := Nat.exists_eq_add_of_le (Nat.le_of_not_le hn4)
      rw [runFor_add] at ho hQ
      exact ih k _ (by omega) ho (by omega) hQ
theorem rules_skip {m : Sre.M} {Q : PUnit → Shared → Prop} (h : Q ⟨⟩ s) : ∀ l : List Nat, wpAny M A (forIn l PUnit.unit fun i __s => if m.seen.has i = true then do
        rule (Sre.names.getD i "")
        pure (ForInStep.yield PUnit.unit)
      else pure (ForInStep.yield PUnit.unit)) Q E s := by
  intro l
  induction l with
  | nil => exact wpAny_pure h
  | cons i l ih =>
    rw [List.forIn_cons]
    refine wpAny_bind ?_
    by_cases hh : m.seen.has i = true
    · rw [if_pos hh]
      exact wpAny_bind (wpAny_rule (wpAny_pure ih))
    · rw [if_neg hh]
      exact wpAny_pure ih
theorem run_matched {m m' : Sre.M} {n : Nat} {Q : Option Sre.M → Shared → Prop} (hn : n ≤ 1000000) (hm : m.runFor n = m') (ho : m'.outcome = some .matched) (h : Q (some m') s) : wpAny M A (reRunToEnd m) Q E s := by
  subst hm
  unfold reRunToEnd
  refine wpAny_bind (drive_ends _ n m (by omega) (by rw [ho]; rfl) (by decide) ?_)
  refine wpAny_bind (rules_skip ?_ _)
  rw [ho]
  exact wpAny_pure h
theorem run_failed {m : Sre.M} {n : Nat} {Q : Option Sre.M → Shared → Prop} (hn : n ≤ 1000000) (ho : (m.runFor n).outcome = some .failed) (h : Q none s) : wpAny M A (reRunToEnd m) Q E s := by
  unfold reRunToEnd
  refine wpAny_bind (drive_ends _ n m (by omega) (by rw [ho]; rfl) (by decide) ?_)
  refine wpAny_bind (rules_skip ?_ _)
  rw [ho]
  exact wpAny_pure h

/-- a pattern object of strs, with these words and no group -/
structure PatAt (h : Heap) (P : Addr) (code : Array Nat) : Prop where
  at_ : ∃ o vs T oT items n, h.get? P = some o ∧ o.cls = .type "re.Pattern" ∧ o.data = .fields vs ∧ vs.getD 5 .none = .ref T ∧ reRawNat (vs.getD 6 .none) = 0 ∧ reRawNat (vs.getD 2 .none) = 0 ∧ h.get? T = some oT ∧ oT.data = .seq items n ∧ (items.map reRawOf).map (·.toNat) = code
theorem PatAt.keeps {h h' : Heap} {P : Addr} {code : Array Nat} (x : PatAt h P code) (k : ∀ b o, h.get? b = some o → h'.get? b = some o) : PatAt h' P code := by
  obtain ⟨o, vs, T, oT, items, n, h1, h2, h3, h4, h5, h6, h7, h8, h9⟩ := x.at_
  exact ⟨o, vs, T, oT, items, n, k _ _ h1, h2, h3, h4, h5, h6, k _ _ h7, h8, h9⟩
noncomputable def target (P : Addr) (x : Str) (t : Tok) (code : Array Nat) : ReTarget := { pattern := .ref P, string := .str x t, code, text := x.cps, kind := 0, groups := 0, pos := 0, lim := x.cps.size }
theorem whole_target {P : Addr} {x : Str} {t : Tok} {code : Array Nat} {Q : ReTarget → Shared → Prop} (hp : PatAt s.heap P code) (h : Q (target P x t code) s) : wpAny M A (reWholeTarget (.ref P) (.str x t)) Q E s := by
  obtain ⟨o, vs, T, oT, items, n, h1, h2, h3, h4, h5, h6, h7, h8, h9⟩ := hp.at_
  unfold reWholeTarget
  refine wpAny_bind (wpAny_fieldsOf h1 h3 ?_)
  refine wpAny_bind (wpAny_of_eq (a := (x.cps, 0)) rfl ?_)
  simp only [h5, h6, h4]
  refine wpAny_bind (wpAny_of_eq (a := ()) rfl ?_)
  refine wpAny_bind ?_
  unfold reRawItems
  refine wpAny_bind (wpAny_seqItems h7 h8 (wpAny_pure (wpAny_pure ?_)))
  have e : (((some items).getD #[]).map reRawOf).map (fun x => x.toNat) = code := h9
  rw [e]
  exact h
end

noncomputable def Finds (code text : Array Nat) (p s e : Nat) : Prop := ∃ n m, n ≤ 1000000 ∧ (Sre.forSearch code text 0 p text.size false).runFor n = m ∧ m.outcome = some .matched ∧ m.start = s ∧ m.handed = e
noncomputable def NoFind (code text : Array Nat) (p : Nat) : Prop := ∃ n, n ≤ 1000000 ∧ ((Sre.forSearch code text 0 p text.size false).runFor n).outcome = some .failed
/-- from place p on, each find replaced -/
inductive Subs (code text : Array Nat) (rep : List Nat) : Nat → List Nat → Prop where
  | done {p : Nat} : p ≤ text.size → NoFind code text p → Subs code text rep p (text.toList.drop p)
  | hit {p s e : Nat} {out : List Nat} : Finds code text p s e → p ≤ s → s < e → e ≤ text.size → Subs code text rep e out → Subs code text rep p ((text.toList.drop p).take (s - p) ++ rep ++ out)

theorem sub_entry : entryFor table "re.Pattern.sub" = some Builtin.«re.Pattern.sub» := by first | exact entryFor_of_fast (by kernel_rfl) | exact entryFor_of_tree (by kernel_rfl)
theorem loop_entry : entryFor table "re.Pattern.sub.loop" = some Builtin.«re.Pattern.sub.loop» := by first | exact entryFor_of_fast (by kernel_rfl) | exact entryFor_of_tree (by kernel_rfl)
theorem sub_plain : plainId "re.Pattern.sub" = true := by decide +kernel
theorem loop_plain : plainId "re.Pattern.sub.loop" = true := by decide +kernel

noncomputable def joined (ys : List Str) : List Nat := ys.flatMap fun y => y.cps.toList
theorem extract_list (a : Array Nat) (b e : Nat) : (a.extract b e).toList = (a.toList.drop b).take (e - b) := by simp [Array.toList_extract, List.extract_eq_take_drop]
theorem push_at {M : Model} {A : Around} {E : Value → Shared → Prop} {s : Shared} {D : Addr} {vs : List Value} {v : Value} {Q : Unit → Shared → Prop} (hl : s.heap.IsList D vs.toArray) (hz : vs.length ≤ 5000)
    (hQ : ∀ h', h'.IsList D (vs ++ [v]).toArray → Heap.SameBut D s.heap h' → Q () { s with heap := h' }) : wpAny M A (updateSeq D (·.push v)) Q E s := by
  obtain ⟨o, ho, hc, n, hd⟩ := hl
  obtain ⟨n', hd'⟩ := Obj.data_mapSeq hd (·.push v)
  refine wpAny_updateSeq ho hd (hQ _ ⟨_, Heap.get?_update_self _ ho (Obj.isFreed_of_seq hd'), (Obj.cls_mapSeq ..).trans hc, n', ?_⟩ (Heap.SameBut.update ..)) (by rw [List.size_toArray, sizeLine_eq]; omega) (by rw [Array.size_push, List.size_toArray, sizeLine_eq]; omega)
  rw [hd']
  simp
theorem strs_snoc {vs : List Value} {ys : List Str} (h : StrsAre vs ys) (y : Str) (t : Tok) : StrsAre (vs ++ [.str y t]) (ys ++ [y]) := by
  induction h with
  | nil => exact .cons _ _ .nil
  | cons z u _ ih => exact .cons z u ih
theorem sum_snoc (ys : List Str) (y : Str) : ((ys ++ [y]).map (·.length)).sum = (ys.map (·.length)).sum + y.length := by simp
theorem strs_length {vs : List Value} {ys : List Str} (h : StrsAre vs ys) : vs.length = ys.length := by
  induction h with
  | nil => rfl
  | cons z u _ ih => simp [ih]
theorem joined_snoc (ys : List Str) (y : Str) : joined (ys ++ [y]) = joined ys ++ y.cps.toList := by simp [joined]
theorem join_joined : ∀ ys : List Str, Str.join ⟨#[]⟩ ys = ⟨(joined ys).toArray⟩ := by
  intro ys
  induction ys with
  | nil => rfl
  | cons y r ih =>
    rw [join_nil_cons, ih]
    show (⟨y.cps ++ (joined r).toArray⟩ : Str) = ⟨(joined (y :: r)).toArray⟩
    congr 1
    apply Array.toList_inj.mp
    simp [joined]
section
variable {prog : Program} {w : World} {A : Around} {s : Shared} {R : Result → Shared → Prop}
theorem tail_joins {E : Value → Shared → Prop} {D : Addr} {x : Array Nat} {vs : List Value} {ys : List Str} {Q : Fin → Shared → Prop} (hl : s.heap.IsList D vs.toArray) (hys : StrsAre vs ys) (hn : ys.length ≤ 5000) (hs : (ys.map (·.length)).sum ≤ 1000000)
    (hQ : ∀ t' k, Q (.done (.ret (.str ⟨(joined ys).toArray⟩ t'))) { s with toks := k }) :
    wpAny (model prog w) A (do
      let joiner ← reSlice x 0 0 0
      let xs ← seqItems? (Value.ref D)
      if (xs.getD #[]).isEmpty = true then do
          let r ← pure joiner
          ret r
        else do
          let r ← call (Value.builtin "str.join") [joiner, Value.ref D]
          ret r) Q E s := by
  have e0 : (⟨x.extract 0 0⟩ : Str) = ⟨#[]⟩ := by simp
  refine wpAny_bind ?_
  show wpAny _ _ (mkStr ⟨x.extract 0 0⟩) _ _ _
  rw [e0]
  refine wpAny_mkStr ?_
  obtain ⟨o, ho, hc, n, hd⟩ := id hl
  refine wpAny_bind (wpAny_seqItems ho hd ?_)
  cases hys with
  | nil =>
    simp only [Option.getD_some, List.isEmpty_toArray, List.isEmpty_nil, if_true]
    exact wpAny_bind (wpAny_pure (wpAny_pure (hQ _ _)))
  | cons y u r =>
    simp only [Option.getD_some, List.isEmpty_toArray, List.isEmpty_cons, Bool.false_eq_true, if_false]
    refine wpAny_bind (join_list (s := { s with toks := s.toks + 1 }) hl (.cons y u r) (by simp only [Str.length, List.size_toArray, List.length_nil, Nat.mul_zero, Nat.add_zero]; exact Nat.le_trans hs (by omega)) fun t' k => ?_)
    have e1 : ∀ zs : List Str, Txt.join ⟨#[]⟩ zs = Str.join ⟨#[]⟩ zs := fun zs => by first | rfl | exact StrLaws.glued_eq_join _ _
    rw [e1, join_joined]
    exact wpAny_pure (hQ _ _)
theorem loop_ends {P D : Addr} {x : Str} {t : Tok} {code : Array Nat} {rep : Str} {tr : Tok} {hb : Heap} (hz : x.cps.size ≤ 1000) (hr : rep.cps.size ≤ 10) (hP : PatAt hb P code) (hDb : hb.get? D = none) :
    ∀ {p : Nat} {out : List Nat}, Subs code x.cps rep.cps.toList p out → ∀ (s : Shared) (n : Int) (vs : List Value) (ys : List Str), (∀ b o, hb.get? b = some o → s.heap.get? b = some o) → s.heap.IsList D vs.toArray → StrsAre vs ys → ys.length ≤ 2 * p → (ys.map (·.length)).sum ≤ 20 * p →
      (∀ h' t' k, (∀ b o, hb.get? b = some o → h'.get? b = some o) → R (.ok (.ret (.str ⟨(joined ys ++ out).toArray⟩ t'))) { s with heap := h', toks := k }) →
      codeAny (model prog w) A (.builtin "re.Pattern.sub.loop" ⟨[.ref P, .str x t, .str rep tr, rawInt 0, rawInt 0, rawInt n, rawInt p, rawInt p, .bool false, .ref D, .bool false], []⟩) R s := by
  intro p out hS
  have far : ∀ {h h' : Heap}, (∀ b o, hb.get? b = some o → h.get? b = some o) → Heap.SameBut D h h' → ∀ b o, hb.get? b = some o → h'.get? b = some o := fun hk hs b o e =>
    (hs.2 b (fun q => by rw [q, hDb] at e; cases e)).trans (hk b o e)
  induction hS with
  | @done p hp hno =>
    intro s n vs ys hK hD hys hl1 hl2 hR
    have hvl := strs_length hys
    refine codeAny_builtin loop_entry ?_
    rw [Around.under_plainId loop_plain _]
    unfold Builtin.«re.Pattern.sub.loop»
    refine wpAny_bind (whole_target (hP.keeps hK) ?_)
    dsimp only
    simp only [beq_self_eq_true, if_true]
    refine wpAny_bind (wpAny_of_eq (a := ()) rfl ?_)
    have e0 : ((0 : Int) != 0 && decide (n ≥ 0)) = false := rfl
    simp only [e0, Bool.false_eq_true, if_false]
    obtain ⟨k, hk, ho⟩ := hno
    refine wpAny_bind (run_failed hk (by rw [Int.toNat_natCast]; exact ho) ?_)
    dsimp only
    by_cases hlt : p < x.cps.size
    · rw [if_pos (by rw [Int.toNat_natCast]; exact hlt)]
      rw [Int.toNat_natCast]
      refine wpAny_bind ?_
      show wpAny _ _ (mkStr ⟨x.cps.extract p x.cps.size⟩) _ _ _
      have hx : Str.length ⟨x.cps.extract p x.cps.size⟩ ≤ 1000 := by
        show (x.cps.extract p x.cps.size).size ≤ 1000
        rw [Array.size_extract]; omega
      refine wpAny_mkStr ?_ (by rw [sizeLine_eq]; omega)
      refine wpAny_bind (push_at (s := { s with toks := s.toks + 1 }) hD (by omega) fun h' hl' hs' => ?_)
      refine tail_joins (s := { s with heap := h', toks := s.toks + 1 }) hl' (strs_snoc hys _ _) (by rw [List.length_append, List.length_singleton]; omega) (by rw [sum_snoc]; omega) fun t' k => ?_
      rw [joined_snoc, extract_list]
      rw [List.take_of_length_le (by simp)]
      exact hR h' t' k (far hK hs')
    · rw [if_neg (by rw [Int.toNat_natCast]; exact hlt)]
      refine tail_joins hD hys (by omega) (by omega) fun t' k => ?_
      have e : x.cps.toList.drop p = [] := List.drop_of_length_le (by simp; omega)
      rw [e, List.append_nil] at hR
      exact hR s.heap t' k hK
  | @hit p a e out hf hpa hae he _ ih =>
    intro s n vs ys hK hD hys hl1 hl2 hR
    have hvl := strs_length hys
    refine codeAny_builtin loop_entry ?_
    rw [Around.under_plainId loop_plain _]
    unfold Builtin.«re.Pattern.sub.loop»
    refine wpAny_bind (whole_target (hP.keeps hK) ?_)
    dsimp only
    simp only [beq_self_eq_true, if_true]
    refine wpAny_bind (wpAny_of_eq (a := ()) rfl ?_)
    have e0 : ((0 : Int) != 0 && decide (n ≥ 0)) = false := rfl
    simp only [e0, Bool.false_eq_true, if_false]
    obtain ⟨k, m, hk, hm, ho, hst, hhd⟩ := hf
    refine wpAny_bind (run_matched hk (by rw [Int.toNat_natCast]; exact hm) ho ?_)
    dsimp only
    rw [Int.toNat_natCast, hst, hhd]
    have hne : (Value.str rep tr != Value.none) = true := rfl
    have hea : (e == a) = false := by simp only [beq_eq_false_iff_ne, ne_eq]; omega
    have hq : ∀ args, (Code.builtin "re.Pattern.sub.loop" args).quiet = true := plainId_quiet loop_plain
    by_cases hlt : p < a
    · rw [if_pos hlt]
      have hx : Str.length ⟨x.cps.extract p a⟩ ≤ a - p := by
        show (x.cps.extract p a).size ≤ a - p
        rw [Array.size_extract]; omega
      refine wpAny_bind ?_
      show wpAny _ _ (mkStr ⟨x.cps.extract p a⟩) _ _ _
      refine wpAny_mkStr ?_ (by rw [sizeLine_eq]; omega)
      refine wpAny_bind (push_at (s := { s with toks := s.toks + 1 }) hD (by omega) fun h1 hl1' hs1 => ?_)
      refine wpAny_bind (wpAny_pure ?_)
      rw [if_pos hne]
      refine wpAny_bind (push_at (s := { s with heap := h1, toks := s.toks + 1 }) hl1' (by rw [List.length_append, List.length_singleton]; omega) fun h2 hl2' hs2 => ?_)
      refine wpAny_pure ⟨hq _, ?_⟩
      rw [hea]
      refine ih { s with heap := h2, toks := s.toks + 1 } (n + 1) _ _ (far (far hK hs1) hs2) hl2' (strs_snoc (strs_snoc hys _ _) rep tr) (by simp only [List.length_append, List.length_singleton]; omega) (by
        rw [sum_snoc, sum_snoc]
        have : rep.length ≤ 10 := hr
        omega) fun h' t' k hk' => ?_
      have e2 := hR h' t' k hk'
      rw [joined_snoc, joined_snoc, extract_list]
      rw [← List.append_assoc, ← List.append_assoc] at e2
      exact e2
    · rw [if_neg hlt]
      obtain rfl : p = a := by omega
      refine wpAny_bind (wpAny_pure ?_)
      rw [if_pos hne]
      refine wpAny_bind (push_at hD (by omega) fun h2 hl2' hs2 => ?_)
      refine wpAny_pure ⟨hq _, ?_⟩
      rw [hea]
      refine ih { s with heap := h2 } (n + 1) _ _ (far hK hs2) hl2' (strs_snoc hys rep tr) (by simp only [List.length_append, List.length_singleton]; omega) (by
        rw [sum_snoc]
        have : rep.length ≤ 10 := hr
        omega) fun h' t' k hk' => ?_
      have e2 := hR h' t' k hk'
      rw [joined_snoc]
      rw [Nat.sub_self, List.take_zero, List.nil_append, ← List.append_assoc] at e2
      exact e2
end

theorem re_named (a b : Value) : reNamed "re.Pattern.sub" "sub" ["repl", "string", "count"] 2 [a, b] [] = pure [some a, some b, none] := by kernel_rfl
theorem str_noCall : typeLookup (.type "str") "__call__" = pure none := by rw [typeLookup_type, builtinLookup_eq_fast]; kernel_rfl
theorem sub_slot : Slot "re.Pattern" "sub" "re.Pattern.sub" :=
  .of (owner := "re.Pattern") (n := "sub") (by rw [typeLookup_type, builtinLookup_eq_fast]; kernel_rfl) (by decide +kernel) (by decide +kernel) (by decide +kernel)
    (by first | exact .inl (by decide +kernel) | exact .inr (by decide +kernel)) (by rw [isSubtype_type]; kernel_rfl)
theorem sub_args (a b c : Value) : argsOk "re.Pattern.sub" ⟨[a, b, c], []⟩ := by unfold argsOk; kernel_rfl
section
variable {prog : Program} {w : World} {A : Around} {E : Value → Shared → Prop} {s : Shared}
theorem sub_call {P : Addr} {x rep : Str} {t tr : Tok} {code : Array Nat} {out : List Nat} {Q : Value → Shared → Prop} (hp : PatAt s.heap P code) (hz : x.cps.size ≤ 1000) (hr : rep.cps.size ≤ 10) (h92 : rep.cps.contains 92 = false) (hS : Subs code x.cps rep.cps.toList 0 out)
    (hQ : ∀ h' t' k, (∀ b o, s.heap.get? b = some o → h'.get? b = some o) → Q (.str ⟨out.toArray⟩ t') { s with heap := h', toks := k }) :
    wpAny (model prog w) A (call (.builtin "re.Pattern.sub") [.ref P, .str rep tr, .str x t]) Q E s := by
  have hT : s.TypeIs (.ref P) "re.Pattern" := by
    obtain ⟨o, vs, T, oT, items, n, h1, h2, h3, h4⟩ := hp.at_
    exact ⟨o, h1, h2⟩
  refine wpAny_call (codeAny_call_builtin sub_plain sub_entry (sub_slot.check _ _ _ _ _ _ _ _ hT (sub_args _ _ _) ?_))
  unfold Builtin.«re.Pattern.sub» reSubstitute
  refine wpAny_bind (wpAny_of_eq (re_named _ _) ?_)
  refine wpAny_bind (wpAny_pure ?_)
  dsimp only
  refine wpAny_bind (wpAny_specialOf (T := "str") (typeIs_str _ rep tr) str_noCall ?_)
  simp only [Option.isSome_none, Bool.false_eq_true, if_false]
  refine wpAny_bind (wpAny_of_eq (a := some rep) rfl ?_)
  dsimp only
  refine wpAny_bind (wpAny_pure ?_)
  simp only [h92, Bool.not_false, if_true]
  refine wpAny_bind (wpAny_pure ?_)
  dsimp only
  refine wpAny_bind (wpAny_holding (whole_target hp ?_))
  rw [if_neg (by decide)]
  refine wpAny_bind (wpAny_newList ?_)
  refine wpAny_pure ⟨plainId_quiet loop_plain _, ?_⟩
  refine loop_ends (hb := s.heap) (D := s.heap.objs.size) (R := fun r s' => match r with | .ok (.ret v) => Q v s' | .ok _ => False | .error e => E e s') hz hr hp (Heap.get?_none_of_le (Nat.le_refl _)) hS
    { s with heap := s.heap.push { cls := .type "list", data := .seq #[] } } 0 [] [] (fun b o e => Heap.get?_push_of_some _ e) ⟨_, Heap.get?_push_size _ rfl, rfl, _, rfl⟩ .nil (by simp) (by simp) fun h' t' k hk => ?_
  have e : (joined [] ++ out) = out := rfl
  rw [e]
  exact hQ h' t' k hk
theorem sub_call_at {h₀ hp : Heap} {gs : Array GenState} {dr : Drawn} {tk : Nat} {os : OsState} {L : Addr} {m : Str → Option Value} {news : List (Addr × Obj)} {P : Addr} {cs rs : List Nat} {t tr : Tok} {code : Array Nat} {out : List Nat} {Q : Value → Shared → Prop}
    (F : Fr h₀ L hp m) (N : News h₀ L hp news) (hp' : PatAt h₀ P code) (hz : cs.length ≤ 1000) (hr : rs.length ≤ 10) (h92 : rs.toArray.contains 92 = false) (hS : Subs code cs.toArray rs 0 out)
    (hQ : ∀ h' t' k, Fr h₀ L h' m → News h₀ L h' news → Q (.str ⟨out.toArray⟩ t') ⟨h', gs, dr, k, os⟩) :
    wpAny (model prog w) A (call (.builtin "re.Pattern.sub") [.ref P, .str ⟨rs.toArray⟩ tr, .str ⟨cs.toArray⟩ t]) Q E ⟨hp, gs, dr, tk, os⟩ :=
  sub_call (s := ⟨hp, gs, dr, tk, os⟩) (hp'.keeps F.keep) (by simpa using hz) (by simpa using hr) h92 hS fun h' t' k hk => hQ h' t' k (F.keeps hk) (N.grown hk)
end

/-- the ends, each made a return and a feed -/
noncomputable def fixed : List Nat → List Nat
  | [] => []
  | 13 :: 10 :: r => 13 :: 10 :: fixed r
  | c :: r => if c = 13 ∨ c = 10 then 13 :: 10 :: fixed r else c :: fixed r
/-- a dot at a line's head made two -/
noncomputable def dotted : Bool → List Nat → List Nat
  | _, [] => []
  | b, c :: r => if b = true ∧ c = 46 then 46 :: 46 :: dotted false r else c :: dotted (c == 10) r
end

section
open PySem PySem.W PyProof.Rows
set_option maxRecDepth 100000
theorem drop_at {cs : List Nat} {p c : Nat} {r : List Nat} (h : cs.drop p = c :: r) : p < cs.length ∧ cs.toArray.getD p 0 = c ∧ cs.drop (p + 1) = r := by
  have hp : p < cs.length := by
    by_cases hp : p < cs.length
    · exact hp
    · rw [List.drop_of_length_le (by omega)] at h; cases h
  rw [List.drop_eq_getElem_cons hp] at h
  injection h with h1 h2
  exact ⟨hp, by simp [Array.getD, hp, h1], h2⟩
theorem drop_end {cs : List Nat} {p : Nat} (h : cs.drop p = []) : cs.length ≤ p := by
  by_cases hp : p < cs.length
  · rw [List.drop_eq_getElem_cons hp] at h; cases h
  · omega

theorem split2 (cs : List Nat) : ∀ (l : List Nat) (p : Nat), cs.drop p = l →
    ((∀ i, p ≤ i → i < cs.length → cs.toArray.getD i 0 ≠ 10 ∧ cs.toArray.getD i 0 ≠ 13) ∧ fixed l = l) ∨
    ∃ s e, p ≤ s ∧ (∀ i, p ≤ i → i < s → cs.toArray.getD i 0 ≠ 10 ∧ cs.toArray.getD i 0 ≠ 13) ∧ EndAt cs.toArray cs.length s e ∧ fixed l = l.take (s - p) ++ [13, 10] ++ fixed (cs.drop e) := by
  intro l
  induction l with
  | nil =>
    intro p h
    have := drop_end h
    exact .inl ⟨fun i h1 h2 => by omega, rfl⟩
  | cons c r ih =>
    intro p h
    obtain ⟨hp, hc, hr⟩ := drop_at h
    by_cases h10 : c = 10
    · subst h10
      refine .inr ⟨p, p + 1, Nat.le_refl _, fun i h1 h2 => by omega, .lf hp hc, ?_⟩
      rw [hr, Nat.sub_self]
      simp [fixed]
    · by_cases h13 : c = 13
      · subst h13
        cases r with
        | nil =>
          refine .inr ⟨p, p + 1, Nat.le_refl _, fun i h1 h2 => by omega, .cr hp hc fun h => ?_, ?_⟩
          · have := drop_end hr; omega
          · rw [hr, Nat.sub_self]; simp [fixed]
        | cons d r' =>
          obtain ⟨hp2, hc2, hr2⟩ := drop_at hr
          by_cases hd : d = 10
          · subst hd
            refine .inr ⟨p, p + 2, Nat.le_refl _, fun i h1 h2 => by omega, .crlf hp2 hc hc2, ?_⟩
            rw [hr2, Nat.sub_self]; simp [fixed]
          · refine .inr ⟨p, p + 1, Nat.le_refl _, fun i h1 h2 => by omega, .cr hp hc fun _ => ?_, ?_⟩
            · rw [hc2]; exact hd
            · rw [hr, Nat.sub_self]
              have : fixed (13 :: d :: r') = 13 :: 10 :: fixed (d :: r') := by
                rw [fixed]
                · simp
                · intro r'' _ e; injection e with e1 _; exact hd e1
              rw [this]; rfl
      · have ef : fixed (c :: r) = c :: fixed r := by
          rw [fixed]
          · simp [h10, h13]
          · intro r'' e; exact absurd e h13
        rcases ih (p + 1) hr with ⟨h1, h2⟩ | ⟨s, e, h1, h2, h3, h4⟩
        · refine .inl ⟨fun i h3 h4 => ?_, by rw [ef, h2]⟩
          by_cases hi : i = p
          · subst hi; rw [hc]; exact ⟨h10, h13⟩
          · exact h1 i (by omega) h4
        · refine .inr ⟨s, e, by omega, fun i h5 h6 => ?_, h3, ?_⟩
          · by_cases hi : i = p
            · subst hi; rw [hc]; exact ⟨h10, h13⟩
            · exact h2 i (by omega) h6
          · rw [ef, h4]
            have : s - p = (s - (p + 1)) + 1 := by omega
            rw [this]; rfl
theorem subs2 (cs : List Nat) (hz : cs.length ≤ 1000) : ∀ (n p : Nat), p ≤ cs.length → cs.length - p ≤ n → Subs C2 cs.toArray [13, 10] p (fixed (cs.drop p)) := by
  intro n
  induction n with
  | zero =>
    intro p h1 h2
    have e : cs.drop p = [] := List.drop_of_length_le (by omega)
    have hd : Subs C2 cs.toArray [13, 10] p (cs.toArray.toList.drop p) := .done (by simpa using h1) ⟨16, by omega, none2 fun i h3 h4 => by simp at h4; omega⟩
    simp only [e] at hd ⊢
    exact hd
  | succ n ih =>
    intro p h1 h2
    rcases split2 cs _ p rfl with ⟨h3, h4⟩ | ⟨s, e, h3, h4, h5, h6⟩
    · rw [h4]
      exact .done (by simpa using h1) ⟨16, by omega, none2 fun i h5 h6 => h3 i h5 (by simpa using h6)⟩
    · have he : s < e ∧ e ≤ cs.length := by cases h5 <;> omega
      obtain ⟨m, hm⟩ := find2 h3 h4 h5
      rw [h6]
      refine .hit (text := cs.toArray) ⟨16, m, by omega, ?_⟩ h3 he.1 (by simpa using he.2) (ih e he.2 (by omega))
      simpa using hm
theorem subs_fixed (cs : List Nat) (hz : cs.length ≤ 1000) : Subs C2 cs.toArray [13, 10] 0 (fixed cs) := subs2 cs hz cs.length 0 (Nat.zero_le _) (by omega)

noncomputable def lineB (cs : List Nat) (p : Nat) : Bool := p == 0 || cs.toArray.getD (p - 1) 0 == 10
theorem lineB_iff (cs : List Nat) (p : Nat) : lineB cs p = true ↔ LineAt cs.toArray p := by simp only [lineB, LineAt, Bool.or_eq_true, beq_iff_eq]
theorem lineB_succ {cs : List Nat} {p c : Nat} (hc : cs.toArray.getD p 0 = c) : lineB cs (p + 1) = (c == 10) := by
  have : ((p + 1) == 0) = false := rfl
  simp only [lineB, this, Bool.false_or, Nat.add_sub_cancel, hc]
theorem split1 (cs : List Nat) : ∀ (l : List Nat) (p : Nat), cs.drop p = l →
    ((∀ i, p ≤ i → i < cs.length → ¬ (LineAt cs.toArray i ∧ cs.toArray.getD i 0 = 46)) ∧ dotted (lineB cs p) l = l) ∨
    ∃ s, p ≤ s ∧ s < cs.length ∧ (∀ i, p ≤ i → i < s → ¬ (LineAt cs.toArray i ∧ cs.toArray.getD i 0 = 46)) ∧ LineAt cs.toArray s ∧ cs.toArray.getD s 0 = 46 ∧ dotted (lineB cs p) l = l.take (s - p) ++ [46, 46] ++ dotted (lineB cs (s + 1)) (cs.drop (s + 1)) := by
  intro l
  induction l with
  | nil =>
    intro p h
    have := drop_end h
    exact .inl ⟨fun i h1 h2 => by omega, rfl⟩
  | cons c r ih =>
    intro p h
    obtain ⟨hp, hc, hr⟩ := drop_at h
    by_cases hh : lineB cs p = true ∧ c = 46
    · obtain ⟨hl, rfl⟩ := hh
      refine .inr ⟨p, Nat.le_refl _, hp, fun i h1 h2 => by omega, (lineB_iff _ _).mp hl, hc, ?_⟩
      rw [hr, Nat.sub_self, lineB_succ hc, hl]
      simp [dotted]
    · have ef : dotted (lineB cs p) (c :: r) = c :: dotted (lineB cs (p + 1)) r := by
        rw [dotted, if_neg hh, lineB_succ hc]
      have hno : ¬ (LineAt cs.toArray p ∧ cs.toArray.getD p 0 = 46) := fun q => hh ⟨(lineB_iff _ _).mpr q.1, by rw [← hc]; exact q.2⟩
      rcases ih (p + 1) hr with ⟨h1, h2⟩ | ⟨s, h1, h2, h3, h4, h5, h6⟩
      · refine .inl ⟨fun i h3 h4 => ?_, by rw [ef, h2]⟩
        by_cases hi : i = p
        · subst hi; exact hno
        · exact h1 i (by omega) h4
      · refine .inr ⟨s, by omega, h2, fun i h7 h8 => ?_, h4, h5, ?_⟩
        · by_cases hi : i = p
          · subst hi; exact hno
          · exact h3 i (by omega) h8
        · rw [ef, h6]
          have : s - p = (s - (p + 1)) + 1 := by omega
          rw [this]; rfl
theorem subs1 (cs : List Nat) (hz : cs.length ≤ 1000) : ∀ (n p : Nat), p ≤ cs.length → cs.length - p ≤ n → Subs C1 cs.toArray [46, 46] p (dotted (lineB cs p) (cs.drop p)) := by
  intro n
  induction n with
  | zero =>
    intro p h1 h2
    have e : cs.drop p = [] := List.drop_of_length_le (by omega)
    obtain ⟨k, hk, ho⟩ := none1 (text := cs.toArray) (lim := cs.toArray.size) (p := p) fun i h3 h4 => by simp at h4; omega
    have hd : Subs C1 cs.toArray [46, 46] p (cs.toArray.toList.drop p) := .done (by simpa using h1) ⟨k, by simp at hk; omega, ho⟩
    simp only [e] at hd ⊢
    exact hd
  | succ n ih =>
    intro p h1 h2
    rcases split1 cs _ p rfl with ⟨h3, h4⟩ | ⟨s, h3, h4, h5, h6, h7, h8⟩
    · rw [h4]
      obtain ⟨k, hk, ho⟩ := none1 (text := cs.toArray) (lim := cs.toArray.size) (p := p) fun i h5 h6 => h3 i h5 (by simpa using h6)
      exact .done (by simpa using h1) ⟨k, by simp at hk; omega, ho⟩
    · obtain ⟨k, m, hk, hm⟩ := find1 (text := cs.toArray) (lim := cs.toArray.size) h3 (by simpa using h4) h5 h6 h7
      rw [h8]
      exact .hit (text := cs.toArray) ⟨k, m, by simp at hk; omega, hm⟩ h3 (Nat.lt_succ_self _) (by rw [List.size_toArray]; exact h4) (ih (s + 1) h4 (by omega))
theorem subs_dotted (cs : List Nat) (hz : cs.length ≤ 1000) : Subs C1 cs.toArray [46, 46] 0 (dotted true cs) := subs1 cs hz cs.length 0 (Nat.zero_le _) (by omega)
end

section
open PySem PySem.W PyProof.Rows PySem.Builtin.Re
set_option maxRecDepth 100000
theorem pat_attrs : PlainAttrs "re.Pattern" :=
  ⟨by first
    | exact ⟨"re.Pattern.__getattribute__", by rw [typeLookup_type, builtinLookup_eq_fast]; kernel_rfl, by decide +kernel⟩
    | exact ⟨"object.__getattribute__", by rw [typeLookup_type, builtinLookup_eq_fast]; kernel_rfl, by decide +kernel⟩, by rw [typeLookup_type, builtinLookup_eq_fast]; kernel_rfl⟩
theorem sub_type : typeOf (.builtin "re.Pattern.sub") = pure (.type "method_descriptor") := by show builtinType _ = _; rw [builtinType_eq_fast]; kernel_rfl
theorem pat2 {P : Params} {h : Heap} (X : (hd.heap_39 P).In h) : PatAt h 41 C2 ∧ ∃ o, h.get? 41 = some o ∧ o.cls = .type "re.Pattern" ∧ o.dict = none := by
  have h1 := X 41 _ rfl
  have h2 := X 40 _ rfl
  exact ⟨⟨_, _, _, _, _, _, h1, rfl, rfl, rfl, rfl, rfl, h2, rfl, by decide +kernel⟩, _, h1, rfl, rfl⟩
theorem pat1 {P : Params} {h : Heap} (X : (hd.heap_39 P).In h) : PatAt h 36 C1 ∧ ∃ o, h.get? 36 = some o ∧ o.cls = .type "re.Pattern" ∧ o.dict = none := by
  have h1 := X 36 _ rfl
  have h2 := X 35 _ rfl
  exact ⟨⟨_, _, _, _, _, _, h1, rfl, rfl, rfl, rfl, rfl, h2, rfl, by decide +kernel⟩, _, h1, rfl, rfl⟩
theorem sub_get {M : Model} {A : Around} {E : Value → Shared → Prop} {s : Shared} {a : Addr} {pl : Sem Bool} {Q : Value × List Value → Shared → Prop} (ho : ∃ o, s.heap.get? a = some o ∧ o.cls = .type "re.Pattern" ∧ o.dict = none) (h : Q (.builtin "re.Pattern.sub", [.ref a]) s) :
    wpAny M A (getMethod (.ref a) (Str.ofString "sub") pl) Q E s := by
  obtain ⟨o, h1, h2, h3⟩ := ho
  exact getMethod_builtin (T := "re.Pattern") ⟨o, h1, h2⟩ pat_attrs sub_slot sub_type (fun b e => by cases e; exact ⟨o, h1, h3⟩) h
theorem sub_get_at {w : World} {prog : Program} {A : Around} {E : Value → Shared → Prop} {h₀ hp : Heap} {gs : Array GenState} {dr : Drawn} {tk : Nat} {os : OsState} {L : Addr} {m : Str → Option Value} {a : Addr} {pl : Sem Bool} {Q : Value × List Value → Shared → Prop} {P : Params}
    (F : Fr h₀ L hp m) (X : (hd.heap_39 P).In h₀) (ha : a = 36 ∨ a = 41) (h : Q (.builtin "re.Pattern.sub", [.ref a]) ⟨hp, gs, dr, tk, os⟩) : wpAny (model prog w) A (getMethod (.ref a) (Str.ofString "sub") pl) Q E ⟨hp, gs, dr, tk, os⟩ := by
  refine sub_get ?_ h
  rcases ha with rfl | rfl
  · obtain ⟨_, o, h1, h2⟩ := pat1 X; exact ⟨o, F.keep _ _ h1, h2⟩
  · obtain ⟨_, o, h1, h2⟩ := pat2 X; exact ⟨o, F.keep _ _ h1, h2⟩
theorem fixed_length : ∀ cs : List Nat, (fixed cs).length ≤ 2 * cs.length := by
  intro cs
  fun_induction fixed cs <;> simp_all <;> omega
end

section
open PySem PySem.W PyProof PyProof.Rows PySem.Builtin PySem.Builtin.Str
set_option maxRecDepth 100000
theorem map_free (c d : Nat) : ∀ l : List Nat, c ∉ l → l.map (fun k => if k = c then d else k) = l
  | [], _ => rfl
  | k :: r, h => by
    have h1 : k ≠ c := fun e => h (e ▸ List.mem_cons_self ..)
    rw [List.map_cons, if_neg h1, map_free c d r fun m => h (List.mem_cons_of_mem _ m)]
theorem map_join (c d : Nat) : ∀ parts : List Str, (∀ p ∈ parts, c ∉ p.cps.toList) → (PySem.Str.join ⟨#[c]⟩ parts).cps.toList.map (fun k => if k = c then d else k) = (PySem.Str.join ⟨#[d]⟩ parts).cps.toList
  | [], _ => rfl
  | [p], h => map_free c d _ (h p (List.mem_singleton.mpr rfl))
  | p :: q :: r, h => by
    have ih := map_join c d (q :: r) fun a ha => h a (List.mem_cons_of_mem _ ha)
    show (p ++ ⟨#[c]⟩ ++ PySem.Str.join ⟨#[c]⟩ (q :: r)).cps.toList.map (fun k => if k = c then d else k) = (p ++ ⟨#[d]⟩ ++ PySem.Str.join ⟨#[d]⟩ (q :: r)).cps.toList
    simp only [Str.cps_append, Array.toList_append, List.map_append]
    rw [ih, map_free c d _ (h p (List.mem_cons_self ..))]
    simp
theorem rep_one (cs : List Nat) (c d : Nat) : Txt.replace ⟨cs.toArray⟩ ⟨#[c]⟩ ⟨#[d]⟩ = ⟨(cs.map fun k => if k = c then d else k).toArray⟩ := by
  have h : (Txt.replace ⟨cs.toArray⟩ ⟨#[c]⟩ ⟨#[d]⟩).cps.toList = cs.map fun k => if k = c then d else k := by
    rw [StrLaws.replace_one, ← map_join c d _ (StrLaws.split_free _ c), StrLaws.join_split]
  generalize Txt.replace ⟨cs.toArray⟩ ⟨#[c]⟩ ⟨#[d]⟩ = r at h
  obtain ⟨⟨l⟩⟩ := r
  have e : l = cs.map fun k => if k = c then d else k := h
  rw [e]
end

section
open PySem PySem.W PyProof.Rows
open Sem (wp)
set_option maxRecDepth 100000
/-- a run never takes a token back -/
theorem runs_toks {M : Model} {Γ : Ctx} {p : Pos} {t : Sem PySem.Fin} {fs : List Frame} {s : Shared} {e : End} {s' : Shared} (h : Runs M Γ p t fs s e s') : s.toks ≤ s'.toks := by
  induction h with
  | done => exact Nat.le_refl _
  | raise => exact Nat.le_refl _
  | yield => exact Nat.le_refl _
  | fresh _ ih => exact Nat.le_trans (Nat.le_succ _) ih
  | call _ _ i1 i2 => exact Nat.le_trans i1 i2
  | resumeFresh _ _ _ _ i1 i2 => exact Nat.le_trans i1 i2
  | resumeSuspended _ _ _ _ i1 i2 => exact Nat.le_trans i1 i2
  | segRet _ _ i1 i2 => exact Nat.le_trans i1 i2
  | segGen _ _ i1 i2 => exact Nat.le_trans i1 i2
  | segSuspGen _ _ _ _ i1 i2 => exact Nat.le_trans i1 i2
  | _ => assumption
theorem wakes_toks {M : Model} {Γ : Ctx} {p : Pos} {g : Nat} {r : Resume} {s : Shared} {res : GenResult} {s' : Shared} (h : Wakes M Γ p g r s res s') : s.toks ≤ s'.toks := by
  unfold Wakes at h
  split at h
  · exact h.elim
  · split at h
    · obtain ⟨e₁, s₁, h1, _, _, rfl⟩ := h
      exact (runs_toks h1 : (s.setGen g .running).toks ≤ s₁.toks)
    · exact h.2 ▸ Nat.le_refl _
    · exact h.2 ▸ Nat.le_refl _
  · obtain ⟨e₁, s₁, h1, _, _, rfl⟩ := h
    exact (runs_toks h1 : (s.setGen g .running).toks ≤ s₁.toks)
  all_goals (first | exact h.2 ▸ Nat.le_refl _ | (obtain ⟨_, rfl⟩ := h; exact Nat.le_refl _))
theorem wp_toks {α : Type} (M : Model) (Γ : Ctx) (t : Sem α) : ∀ (Q : α → Pos → Shared → Prop) (E : Value → Pos → Shared → Prop) (p : Pos) (s : Shared) (n : Nat), n ≤ s.toks → wp M Γ t (fun a p' s' => n ≤ s'.toks → Q a p' s') E p s → wp M Γ t Q E p s := by
  induction t with
  | pure a => intro Q E p s n hn h; exact h hn
  | raise e => intro Q E p s n hn h; exact h
  | unsupported w => intro Q E p s n hn h; exact h
  | finish e => intro Q E p s n hn h; exact h
  | rule tag k ih => intro Q E p s n hn h; exact ih () Q E p s n hn h
  | «at» p' k ih => intro Q E p s n hn h; exact ih () Q E p' s n hn h
  | load a part k ih => intro Q E p s n hn h; obtain ⟨o, h1, h2⟩ := h; exact ⟨o, h1, ih o Q E p s n hn h2⟩
  | update a part f k ih => intro Q E p s n hn h; exact ⟨h.1, ih () Q E p _ n hn h.2⟩
  | loadIfAlive a k ih => intro Q E p s n hn h; exact ih _ Q E p s n hn h
  | point l k ih => intro Q E p s n hn h; exact ih () Q E p s n hn h
  | register a k ih => intro Q E p s n hn h; exact h
  | alloc o k ih => intro Q E p s n hn h; exact ih _ Q E p _ n hn h
  | fresh k ih => intro Q E p s n hn h; exact ih _ Q E p _ n (Nat.le_succ_of_le hn) h
  | ask k ih => intro Q E p s n hn h; exact ih _ Q E p s n hn h
  | choose src m k ih => intro Q E p s n hn h; exact ⟨h.1, ih _ Q E p _ n hn h.2⟩
  | os q l k ih => intro Q E p s n hn h; exact ih _ Q E p _ n hn h
  | call c hd g l k ih =>
    intro Q E p s n hn h
    obtain ⟨r, s', h1, h2⟩ := h
    exact ⟨r, s', h1, ih r Q E p s' n (Nat.le_trans hn (runs_toks h1)) h2⟩
  | handled own k ih => intro Q E p s n hn h; exact ih _ Q E p s n hn h
  | genState g k ih => intro Q E p s n hn h; obtain ⟨o, h1, h2⟩ := h; exact ⟨o, h1, ih _ Q E p s n hn h2⟩
  | newGen c k ih => intro Q E p s n hn h; exact ih _ Q E p _ n hn h
  | resume g r l k ih =>
    intro Q E p s n hn h
    obtain ⟨res, s', h1, h2⟩ := h
    exact ⟨res, s', h1, ih res Q E p s' n (Nat.le_trans hn (wakes_toks h1)) h2⟩
  | yield v g l k ih => intro Q E p s n hn h; exact h
  | stack k ih => intro Q E p s n hn h; exact ih _ Q E p s n hn h
  | fork c k ih => intro Q E p s n hn h; exact h
  | thread k ih => intro Q E p s n hn h; exact ih 0 Q E p s n hn h
  | await a f d l k ih => intro Q E p s n hn h; exact h
/-- behind a step the tokens are no fewer -/
theorem toks_later {α : Type} {M : Model} {A : Around} {t : Sem α} {Q : α → Shared → Prop} {E : Value → Shared → Prop} {s : Shared} (h : wpAny M A t (fun a s' => s.toks ≤ s'.toks → Q a s') E s) : wpAny M A t Q E s :=
  fun Γ p hΓ => wp_toks M Γ t _ _ p s s.toks (Nat.le_refl _) (h Γ p hΓ)
end

section
open PySem PySem.W PyProof.Rows
set_option maxRecDepth 100000
set_option maxHeartbeats 8000000
noncomputable def DictAt (w : World) (o : Obj) (c : List (Str × Int)) : Prop := ∃ kvs, o.IsDictOf (PySem.strKind PySem.Challenge.rw_zn0004_01.row.prog w) kvs ∧ IntVals kvs c
theorem empty_dict {prog : Program} {w : World} {o : Obj} (h : o.IsDictOf (PySem.intKind prog w) []) : o.IsDictOf (PySem.strKind prog w) [] := by
  obtain ⟨es, ep, h1, h2, h3, h4, h5⟩ := h
  have e : es = #[] := by
    have := h4.length
    apply Array.eq_empty_of_size_eq_zero
    simpa using this
  subst e
  exact ⟨#[], ep, h1, h2, by intro i hi; simp at hi, .nil, List.nodup_nil⟩
theorem look_none {c : List (Str × Int)} {x : Str} (h : kdpHas c x = false) : kdpLook c x 0 = 0 := by
  unfold kdpLook kdpHas at *
  rw [List.find?_eq_none.mpr]
  · rfl
  · intro p hp hh
    have : (c.any fun p => decide (p.1 = x)) = true := List.any_eq_true.mpr ⟨p, hp, hh⟩
    rw [h] at this; cases this
/-- the first loop: what is copied already, what is left -/
noncomputable def CopyJ (w : World) (kvs : List (Str × Value)) (d1 d2 D : Addr) (news : List (Addr × Obj)) (r : List (Str × Value)) (m : Str → Option Value) (nx : List (Addr × Obj)) : Prop :=
  ∃ done o, kvs = done ++ r ∧ m (Str.ofString "source") = some (.ref d2) ∧ m (Str.ofString "new_callers") = some (.ref D) ∧ o.IsDictOf (PySem.strKind PySem.Challenge.rw_zn0004_01.row.prog w) done ∧ nx = (D, o) :: news
/-- the second loop: before and behind its one turn -/
noncomputable def AddJ (w : World) (done kvs2 : List (Str × Value)) (D : Addr) (x : Str) (v : Int) (news : List (Addr × Obj)) (r : List (Str × Value)) (m : Str → Option Value) (nx : List (Addr × Obj)) : Prop :=
  ∃ o kk, m (Str.ofString "new_callers") = some (.ref D) ∧ o.IsDictOf (PySem.strKind PySem.Challenge.rw_zn0004_01.row.prog w) kk ∧ nx = (D, o) :: news ∧ ((r = kvs2 ∧ kk = done) ∨ (r = [] ∧ ∃ t, kk = stored done x (.int v t)))
theorem c_callers (w : World) (mean : ExcName → Option Value) (mg mb : Str → Option Value) {news : List (Addr × Obj)} {d1 d2 : Addr} {o1 o2 : Obj} {c : List (Str × Int)} {x : Str} {n : Int} (hm1 : (d1, o1) ∈ news) (hm2 : (d2, o2) ∈ news) (hl1 : (d1 == sysModules) = false) (hl2 : (d2 == sysModules) = false) (hd1 : DictAt w o1 c) (hd2 : DictAt w o2 [(x, n)]) (hlen : c.length ≤ 100) :
    CallOK w mean mg mb 83 1 [.ref d1, .ref d2] news fun k => ∀ D o, (∀ q ∈ news, q.1 < D) → (D == sysModules) = false → DictAt w o (kdpPut c x (kdpLook c x 0 + n)) → k (.ref D) ((D, o) :: news) := by
  obtain ⟨kvs1, hk1, hv1⟩ := hd1
  obtain ⟨kvs2, hk2, hv2⟩ := hd2
  k_with_none
  w_top off
  unfold CallOK
  k_fill
  intro dp un gd cn cs' a ccd cl outer A₀ base h₀ h L m gs dr tk os Q E B F X N T hk hd' hu hret
  refine wpAny_call ?_
  k_dflt ktr_enter
  k_with "exec For Tuple Call cons nil" => refine stop_of ?_
  k_steps
  unfold Stopped
  rename Fr _ _ _ (fun y => _) => lF'
  rename News _ _ _ _ => lN'
  rename (_ == sysModules) = false => loD
  rename Obj.IsDictOf _ _ _ => hdD
  rename (∀ p ∈ news, p.1 < _) => lD
  with_unfolding_all ((refine' For_turns lF' ?_); k_whole; (refine MethodCall_ ?_); (refine ld lF' (by rfl) ?_); (refine kdl_method (knd := PySem.strKind _ _) PySem.F.slot_dict_items PySem.F.type_dict_items lN' (List.mem_cons_of_mem _ hm1) hk1 ?_); (refine callWith_method0 ?_); (refine kta_callItems (knd := PySem.strKind _ _) lF' lN' (List.mem_cons_of_mem _ hm1) hk1 hl1 ?_); intro h' hv' F' N'; (refine kta_items (knd := PySem.strKind _ _) (enc := PyData.str) (xs := kvs1.map fun p => Itm.pair (kyVal (PyData.str p.1)) p.2) (by rfl) F' N' hv' (List.mem_cons_of_mem _ hm1) hk1 (fun _ _ h => Value.isStrOf_shape h) (by rfl) ?_))
  clear lF' lN'
  replace hdD := empty_dict hdD
  intro I lI
  refine items_ind (CopyJ w kvs1 d1 d2 _ news) ?_ ?_ _ _ _ ⟨[], _, rfl, rfl, rfl, hdD, rfl⟩
  · intro m₁ nx h2 tk2 hJ F₁ N₁
    obtain ⟨done, oo, e1, hs1, hs2, hdo, rfl⟩ := hJ
    rw [List.append_nil] at e1
    subst e1
    replace F₁ := fr_kst0 [(Str.ofString "source", .ref d2), (Str.ofString "new_callers", .ref _)] (by intro p hp; simp only [List.mem_cons, List.not_mem_nil, or_false] at hp; rcases hp with rfl | rfl <;> assumption) F₁
    dsimp only
    k_steps
    unfold Stopped
    with_unfolding_all ((refine' For_turns F₁ ?_); k_whole; (refine MethodCall_ ?_); (refine ld F₁ (by rfl) ?_); (refine kdl_method (knd := PySem.strKind _ _) PySem.F.slot_dict_items PySem.F.type_dict_items N₁ (List.mem_cons_of_mem _ hm2) hk2 ?_); (refine callWith_method0 ?_); (refine kta_callItems (knd := PySem.strKind _ _) F₁ N₁ (List.mem_cons_of_mem _ hm2) hk2 hl2 ?_); intro h3 hv3 F₃ N₃; (refine kta_items (knd := PySem.strKind _ _) (enc := PyData.str) (xs := kvs2.map fun p => Itm.pair (kyVal (PyData.str p.1)) p.2) (by rfl) F₃ N₃ hv3 (List.mem_cons_of_mem _ hm2) hk2 (fun _ _ h => Value.isStrOf_shape h) (by rfl) ?_))
    intro I2 lI2
    refine items_ind (AddJ w kvs1 kvs2 _ x (kdpLook c x 0 + n) news) ?_ ?_ _ _ _ ⟨_, _, rfl, hdo, rfl, .inl ⟨rfl, rfl⟩⟩
    · intro m₄ nx4 h4 tk4 hJ F₄ N₄
      obtain ⟨o4, kk, hs4, hd4, rfl, h5⟩ := hJ
      have hkk : ∃ t, kk = stored kvs1 x (.int (kdpLook c x 0 + n) t) := by
        rcases h5 with ⟨h5, _⟩ | ⟨_, h5⟩
        · subst h5; cases hv2
        · exact h5
      obtain ⟨t5, rfl⟩ := hkk
      replace F₄ := fr_kst0 [(Str.ofString "new_callers", .ref _)] (by intro p hp; rcases List.mem_singleton.mp hp with rfl; exact hs4) F₄
      dsimp only
      k_steps
      rename Fr h₀ L _ _ => kF9
      rename News h₀ L _ _ => kN9
      exact hret _ _ lD loD ⟨_, hd4, hv1.put _ _ _⟩ _ _ kF9 kN9
    · intro k9 x9 r m₄ nx4 T9 t9 h4 tk4 oI hJ hT F₄ hc N₄
      obtain ⟨o4, kk, hs4, hd4, rfl, h5⟩ := hJ
      obtain ⟨h7, h8⟩ : kvs2 = (k9, x9) :: r ∧ kk = kvs1 := by
        rcases h5 with h5 | ⟨h5, _⟩
        · exact ⟨h5.1.symm, h5.2⟩
        · cases h5
      subst h8
      subst h7
      cases hv2 with
      | @cons _ _ tn _ _ hv2' =>
      cases hv2'
      replace F₄ := fr_kst0 [(Str.ofString "new_callers", .ref _)] (by intro p hp; rcases List.mem_singleton.mp hp with rfl; exact hs4) F₄
      k_with "compareOp In str ref" => refine stop_of ?_
      k_with "setItem ref str" => refine stop_of ?_
      k_with "getItem ref str" => refine stop_of ?_
      k_with "UnrPostW" => refine stop_of ?_
      k_steps
      unfold Stopped
      rename Fr _ _ _ (fun y => _) => lF5
      rename News _ _ _ _ => lN5
      have hDI := lI2 _ (.head _)
      have hlk := hv1.length
      cases hb9 : kdpHas c x with
      | true =>
        refine dict_in_at lN5 (.tail _ (.head _)) hd4 loD ((hv1.has x).trans hb9) ?_
        k_steps
        unfold Stopped
        obtain ⟨tv, htv⟩ := hv1.look hb9
        refine dict_get_at lN5 (.tail _ (.head _)) hd4 htv ?_
        k_steps
        unfold Stopped
        refine dict_set_at (own := [_]) lF5 lN5 (by intro p hp; rw [List.mem_singleton.mp hp]; exact Ne.symm (Nat.ne_of_lt hDI)) (fun p hp => Nat.ne_of_lt (lD p hp)) hd4 (by omega) ?_
        intro h6 o6 F6 N6 hd6
        dsimp only
        k_steps
        rename Fr _ _ _ _ => kF9
        rename News _ _ _ _ => kN9
        refine TurnEndW.next kF9 kN9 ?_ ?_ ⟨List.mem_cons_of_mem _ hm2, trivial⟩ ⟨_, _, rfl, hd6, rfl, .inr ⟨rfl, _, rfl⟩⟩
        · intro p hp; exact hp
        · intro p hp
          rcases List.mem_cons.mp hp with rfl | hp
          · exact Nat.ne_of_lt hDI
          · exact Nat.ne_of_lt (lI2 p (List.mem_cons_of_mem _ hp))
      | false =>
        refine dict_in_at lN5 (.tail _ (.head _)) hd4 loD ((hv1.has x).trans hb9) ?_
        k_steps
        unfold Stopped
        have el : kdpLook c x 0 + n = n := by rw [look_none hb9]; omega
        rw [el]
        refine dict_set_at (own := [_]) lF5 lN5 (by intro p hp; rw [List.mem_singleton.mp hp]; exact Ne.symm (Nat.ne_of_lt hDI)) (fun p hp => Nat.ne_of_lt (lD p hp)) hd4 (by omega) ?_
        intro h6 o6 F6 N6 hd6
        dsimp only
        k_steps
        rename Fr _ _ _ _ => kF9
        rename News _ _ _ _ => kN9
        refine TurnEndW.next kF9 kN9 ?_ ?_ ⟨List.mem_cons_of_mem _ hm2, trivial⟩ ⟨_, _, rfl, hd6, rfl, .inr ⟨rfl, _, rfl⟩⟩
        · intro p hp; exact hp
        · intro p hp
          rcases List.mem_cons.mp hp with rfl | hp
          · exact Nat.ne_of_lt hDI
          · exact Nat.ne_of_lt (lI2 p (List.mem_cons_of_mem _ hp))
  · intro k9 x9 r m₁ nx T9 t9 h2 tk2 oI hJ hT F₁ hc N₁
    obtain ⟨done, oo, e1, hs1, hs2, hdo, rfl⟩ := hJ
    replace F₁ := fr_kst0 [(Str.ofString "source", .ref d2), (Str.ofString "new_callers", .ref _)] (by intro p hp; simp only [List.mem_cons, List.not_mem_nil, or_false] at hp; rcases hp with rfl | rfl <;> assumption) F₁
    k_with "setItem ref str" => refine stop_of ?_
    k_with "UnrPostW" => refine stop_of ?_
    k_steps
    unfold Stopped
    rename Fr _ _ _ (fun y => _) => lF5
    rename News _ _ _ _ => lN5
    have hDI := lI _ (.head _)
    have hnd := dict_nodup hk1
    have hlk := hv1.length
    rw [e1] at hnd hlk
    rw [List.length_append] at hlk
    rw [List.map_append] at hnd
    have hnew : k9 ∉ done.map (·.1) := fun hmem => (List.nodup_append.mp hnd).2.2 _ hmem _ (.head _) rfl
    refine dict_set_at (own := [_]) lF5 lN5 (by intro p hp; rw [List.mem_singleton.mp hp]; exact Ne.symm (Nat.ne_of_lt hDI)) (fun p hp => Nat.ne_of_lt (lD p hp)) hdo (by omega) ?_
    intro h6 o6 F6 N6 hd6
    rw [stored_new hnew] at hd6
    dsimp only
    k_steps
    rename Fr _ _ _ _ => kF9
    rename News _ _ _ _ => kN9
    refine TurnEndW.next kF9 kN9 ?_ ?_ ⟨List.mem_cons_of_mem _ hm1, trivial⟩ ⟨_, _, ?_, rfl, rfl, hd6, rfl⟩
    · intro p hp; exact hp
    · intro p hp
      rcases List.mem_cons.mp hp with rfl | hp
      · exact Nat.ne_of_lt hDI
      · exact Nat.ne_of_lt (lI p (List.mem_cons_of_mem _ hp))
    · rw [e1]; simp
end

section
open PySem PySem.W PyProof.Rows
set_option maxRecDepth 100000
set_option maxHeartbeats 8000000
local macro_rules | `(tactic| walk_at "call ref") => `(tactic| (k_here; (with_reducible show wpAny _ _ (call (Value.ref 83) _) _ _ _); (try dsimp only); k_dflt (walk_at "my call"); (case zqC => exact c_callers _ _ _ _ (by k_mem) (by k_mem) (by assumption) (by assumption) (by assumption) (by assumption) (by assumption)); (walk_at "my call end"); intro D' o' l1' lo' hd' h' tk' F' N'))
abbrev entObj (a b c d : Int) (t1 t2 t3 t4 : Tok) (D : Addr) (n : Nat) : Obj := { cls := .type "tuple", data := .seq #[.int a t1, .int b t2, .int c t3, .int d t4, .ref D] n }
theorem c_stats (w : World) (mean : ExcName → Option Value) (mg mb : Str → Option Value) {news : List (Addr × Obj)} {e1 e2 d1 d2 : Addr} {o1 o2 : Obj} {a1 b1 c1 f1 a2 b2 c2 f2 : Int} {t1 t2 t3 t4 u1 u2 u3 u4 : Tok} {k1 k2 : Nat} {c : List (Str × Int)} {x : Str} {n : Int}
    (he1 : (e1, entObj a1 b1 c1 f1 t1 t2 t3 t4 d1 k1) ∈ news) (he2 : (e2, entObj a2 b2 c2 f2 u1 u2 u3 u4 d2 k2) ∈ news)
    (hm1 : (d1, o1) ∈ news) (hm2 : (d2, o2) ∈ news) (hl1 : (d1 == sysModules) = false) (hl2 : (d2 == sysModules) = false) (hd1 : DictAt w o1 c) (hd2 : DictAt w o2 [(x, n)]) (hlen : c.length ≤ 100) :
    CallOK w mean mg mb 76 2 [.ref e1, .ref e2] news fun k => ∀ p D o v1 v2 v3 v4, (∀ q ∈ news, q.1 < D) → D < p → (D == sysModules) = false → DictAt w o (kdpPut c x (kdpLook c x 0 + n)) →
      k (.ref p) ((p, entObj (a2 + a1) (b2 + b1) (c2 + c1) (f2 + f1) v1 v2 v3 v4 D 0) :: (D, o) :: news) := by
  k_with_none
  w_top off
  unfold CallOK
  k_fill
  intro dp un gd cn cs' a ccd cl outer A₀ base h₀ h L m gs dr tk os Q E B F X N T hk hd' hu hret
  refine wpAny_call ?_
  k_dflt ktr_enter
  k_steps
  rename Fr h₀ L _ _ => kF9
  rename News h₀ L _ _ => kN9
  rename DictAt w _ (kdpPut _ _ _) => hdD
  rename (∀ q ∈ news, q.1 < _) => lD
  exact hret _ _ _ _ _ _ _ lD (by first | assumption | exact And.left (by assumption)) (by assumption) hdD _ _ kF9 kN9
end

section
open PySem PySem.W PyProof.Rows
set_option maxRecDepth 100000
set_option maxHeartbeats 8000000
local macro_rules | `(tactic| walk_at "my none") => `(tactic| skip)
local macro_rules | `(tactic| walk_at "subscriptTail Name Slice ref ref") => `(tactic| (k_here; (try dsimp only); k_dflt (refine' two_at ?zqF ?zqN ?zqM ?_ ?zqs ?zqt; (case zqF => k_asm); (case zqN => k_asm); (case zqM => k_mem); (case zqs => with_unfolding_all rfl); (case zqt => kmk_pure)); intro D' h' F' N' l1; (try k_lt l1); (try k_sweep)))
/-- the names that the sums are filed by -/
noncomputable def stdName (f : Bool) (h : Int) : Str :=
  if h = 0 then (if f then Str.ofString "{" ++ Txt.slice (Str.ofString "<fork>") (some 1) (some (-1)) ++ Str.ofString "}" else Str.ofString "leaf")
  else Str.ofString "~" ++ Str.ofString ":" ++ Str.ofString (toString h) ++ Str.ofString "(" ++ (if f then Str.ofString "<fork>" else Str.ofString "leaf") ++ Str.ofString ")"
theorem c_std_fork (w : World) (mean : ExcName → Option Value) (mg mb : Str → Option Value) {news : List (Addr × Obj)} {a' : Addr} {t1 t2 t3 : Tok} {n : Nat} {hh : Int} (hm : (a', { cls := .type "tuple", data := .seq #[.str (Str.ofString "~") t1, .int hh t2, .str (Str.ofString "<fork>") t3] n }) ∈ news) (h0 : 0 ≤ hh) (h1 : hh ≤ 100) :
    CallOK w mean mg mb 69 1 [.ref a'] news fun k => ∀ t', k (.str (stdName true hh) t') news := by
  k_with_none
  w_top off
  unfold CallOK
  k_fill
  intro dp un gd cn cs' a ccd cl outer A₀ base h₀ h L m gs dr tk os Q E B F X N T hk hd' hu hret
  refine wpAny_call ?_
  k_dflt ktr_enter
  k_steps
  all_goals
    rename Fr h₀ L _ _ => kF9
    rename News h₀ L _ _ => kN9
    first
      | (exfalso; omega)
      | (have e9 : stdName true hh = _ := if_pos (by omega)
         simp only [if_true, Bool.false_eq_true, if_false] at e9
         rw [e9] at hret
         exact hret _ _ _ kF9 (news_sub kN9 (by intro p hp; repeat (first | exact hp | apply List.mem_cons_of_mem))))
      | (have e9 : stdName true hh = _ := if_neg (by omega)
         simp only [if_true, Bool.false_eq_true, if_false] at e9
         rw [e9] at hret
         exact hret _ _ _ kF9 (news_sub kN9 (by intro p hp; repeat (first | exact hp | apply List.mem_cons_of_mem))))
theorem c_std_leaf (w : World) (mean : ExcName → Option Value) (mg mb : Str → Option Value) {news : List (Addr × Obj)} {a' : Addr} {t1 t2 t3 : Tok} {n : Nat} {hh : Int} (hm : (a', { cls := .type "tuple", data := .seq #[.str (Str.ofString "~") t1, .int hh t2, .str (Str.ofString "leaf") t3] n }) ∈ news) (h0 : 0 ≤ hh) (h1 : hh ≤ 100) :
    CallOK w mean mg mb 69 1 [.ref a'] news fun k => ∀ t', k (.str (stdName false hh) t') news := by
  k_with_none
  w_top off
  unfold CallOK
  k_fill
  intro dp un gd cn cs' a ccd cl outer A₀ base h₀ h L m gs dr tk os Q E B F X N T hk hd' hu hret
  refine wpAny_call ?_
  k_dflt ktr_enter
  k_steps
  all_goals
    rename Fr h₀ L _ _ => kF9
    rename News h₀ L _ _ => kN9
    first
      | (exfalso; omega)
      | (have e9 : stdName false hh = _ := if_pos (by omega)
         simp only [if_true, Bool.false_eq_true, if_false] at e9
         rw [e9] at hret
         exact hret _ _ _ kF9 (news_sub kN9 (by intro p hp; repeat (first | exact hp | apply List.mem_cons_of_mem))))
      | (have e9 : stdName false hh = _ := if_neg (by omega)
         simp only [if_true, Bool.false_eq_true, if_false] at e9
         rw [e9] at hret
         exact hret _ _ _ kF9 (news_sub kN9 (by intro p hp; repeat (first | exact hp | apply List.mem_cons_of_mem))))
end

section
open PySem PySem.W PyProof.Rows
set_option maxRecDepth 100000
structure Ent where
  a : Int
  b : Int
  c : Int
  d : Int
  dict : List (Str × Int)
  h : Int
noncomputable def bump (c : List (Str × Int)) (x : Str) : List (Str × Int) := kdpPut c x (kdpLook c x 0 + 1)
noncomputable def Ent.step (e : Ent) (k : Int) : Ent :=
  if k = 13 then ⟨0 + e.a, 1 + e.b, 0 + e.c, e.h + e.d, bump e.dict (stdName true e.h), e.h + 1⟩
  else ⟨1 + e.a, 0 + e.b, e.h + e.c, 0 + e.d, bump e.dict (stdName false e.h), e.h - 1⟩
noncomputable def entAt (ks : List Int) (i : Nat) : Ent := (ks.take i).foldl Ent.step ⟨0, 0, 0, 0, [], 0⟩
theorem entAt_zero (ks : List Int) : entAt ks 0 = ⟨0, 0, 0, 0, [], 0⟩ := by simp [entAt]
theorem entAt_succ {ks : List Int} {i : Nat} {k : Int} (h : ks[i]? = some k) : entAt ks (i + 1) = (entAt ks i).step k := by
  unfold entAt
  rw [List.take_add_one, h, List.foldl_append]
  rfl
theorem bump_length (c : List (Str × Int)) (x : Str) : (bump c x).length ≤ c.length + 1 := kdpPut_len _ _ _
theorem entAt_dict (ks : List Int) : ∀ i, i ≤ ks.length → (entAt ks i).dict.length ≤ i := by
  intro i
  induction i with
  | zero => intro _; rw [entAt_zero]; exact Nat.le_refl _
  | succ i ih =>
    intro hi
    have h := ih (by omega)
    rw [entAt_succ (List.getElem?_eq_getElem (by omega : i < ks.length))]
    unfold Ent.step
    split
    · exact Nat.le_trans (bump_length _ _) (by omega)
    · exact Nat.le_trans (bump_length _ _) (by omega)
/-- the trees still to come -/
theorem pending (t : Tr) : ∀ i, i ≤ t.word.length → ∃ ts : List Tr, (t.word.drop i) = ts.flatMap Tr.word ∧ (ts.length : Int) = (entAt t.word i).h + 1 := by
  intro i
  induction i with
  | zero => intro _; exact ⟨[t], by simp, by rw [entAt_zero]; rfl⟩
  | succ i ih =>
    intro hi
    obtain ⟨ts, h1, h2⟩ := ih (by omega)
    have hlt : i < t.word.length := by omega
    have hd : t.word.drop (i + 1) = (t.word.drop i).drop 1 := by rw [List.drop_drop]
    have hg : t.word[i]? = (t.word.drop i)[0]? := by rw [List.getElem?_drop]; rfl
    rw [hd, h1]
    rw [h1] at hg
    match ts, h1, h2, hg with
    | [], h1, h2, hg => rw [List.drop_eq_getElem_cons hlt] at h1; cases h1
    | .leaf :: r, h1, h2, hg =>
      refine ⟨r, by simp [Tr.word], ?_⟩
      have hk : t.word[i]? = some 10 := by rw [hg]; rfl
      rw [entAt_succ hk]
      simp only [List.length_cons] at h2
      show (r.length : Int) = (entAt t.word i).h - 1 + 1
      omega
    | .fork x y :: r, h1, h2, hg =>
      refine ⟨x :: y :: r, by simp [Tr.word], ?_⟩
      have hk : t.word[i]? = some 13 := by rw [hg]; rfl
      rw [entAt_succ hk]
      simp only [List.length_cons] at h2 ⊢
      show ((r.length + 1 + 1 : Nat) : Int) = (entAt t.word i).h + 1 + 1
      omega
theorem height_ok (t : Tr) {i : Nat} (hi : i < t.word.length) : 0 ≤ (entAt t.word i).h ∧ (entAt t.word i).h ≤ t.word.length := by
  obtain ⟨ts, h1, h2⟩ := pending t i (by omega)
  have hlen : ∀ ts : List Tr, ts.length ≤ (ts.flatMap Tr.word).length := by
    intro ts
    induction ts with
    | nil => exact Nat.le_refl _
    | cons a r ih =>
      simp only [List.length_cons, List.flatMap_cons, List.length_append, Tr.word_length]
      omega
  have h3 := hlen ts
  rw [← h1, List.length_drop] at h3
  refine ⟨?_, by omega⟩
  cases ts with
  | nil => rw [List.drop_eq_getElem_cons hi] at h1; cases h1
  | cons a r => simp only [List.length_cons] at h2; omega
end

section
open PySem PySem.W PySem.Calls PyProof.Rows
set_option maxRecDepth 100000
/-- what _law_seen and _law_told hand back -/
structure Res where
  text : List Nat
  sent : List Nat
  bare : List (List Nat)
  a : Int
  b : Int
  c : Int
  d : Int
  dict : List (Str × Int)

abbrev resObj (x y : Str) (t1 t2 : Tok) (B e : Addr) (n : Nat) : Obj := { cls := .type "tuple", data := .seq #[.str x t1, .str y t2, .ref B, .ref e] n }
noncomputable def strOf (cs : List Nat) : Str := ⟨cs.toArray⟩

noncomputable def ResAt (w : World) (news : List (Addr × Obj)) (p : Addr) (r : Res) : Prop :=
  ∃ (B e D : Addr) (o : Obj) (t1 t2 u1 u2 u3 u4 : Tok) (vs : List Value) (n n1 n2 : Nat),
    (p, resObj (strOf r.text) (strOf r.sent) t1 t2 B e n) ∈ news ∧ (B, listOf vs.toArray n1) ∈ news ∧ StrsAre vs (r.bare.map strOf) ∧
    (e, entObj r.a r.b r.c r.d u1 u2 u3 u4 D n2) ∈ news ∧ (D, o) ∈ news ∧ (D == sysModules) = false ∧ DictAt w o r.dict
theorem ResAt.mono {w : World} {news news' : List (Addr × Obj)} {p : Addr} {r : Res} (h : ResAt w news p r) (hs : ∀ q ∈ news, q ∈ news') : ResAt w news' p r := by
  obtain ⟨B, e, D, o, t1, t2, u1, u2, u3, u4, vs, n, n1, n2, h1, h2, h3, h4, h5, h6, h7⟩ := h
  exact ⟨B, e, D, o, t1, t2, u1, u2, u3, u4, vs, n, n1, n2, hs _ h1, hs _ h2, h3, hs _ h4, hs _ h5, h6, h7⟩

/-- the same names with the same numbers, in whatever order -/
noncomputable def SameDict (c c' : List (Str × Int)) : Prop := c.length = c'.length ∧ ∀ p ∈ c, kdpHas c' p.1 = true ∧ kdpLook c' p.1 0 = p.2
structure SameRes (r r' : Res) : Prop where
  text : r.text = r'.text
  sent : r.sent = r'.sent
  bare : r.bare = r'.bare
  a : r.a = r'.a
  b : r.b = r'.b
  c : r.c = r'.c
  d : r.d = r'.d
  dict : SameDict r.dict r'.dict

open SeqAt in
theorem eqAt_here {A : Around} {s : Shared} {a b : Addr} (h : a ≠ b → RcAt A s (.ref a) (.ref b) true) : EqAt A s (.ref a) (.ref b) true := by
  by_cases e : a = b
  · subst e
    intro prog w E Q hq
    unfold eqBool
    refine wpAny_holding ?_
    refine wpAny_ite_split (fun _ => ?_) (fun hn => absurd (by simp) hn)
    exact wpAny_pure (M := model prog w) (E := E) hq
  · exact EqAt.of_refs e (h e)
theorem strs_at {vs : List Value} {xs : List Str} (h : StrsAre vs xs) : ∀ j (h : j < vs.length), ∃ t, vs[j] = .str (xs.getD j ⟨#[]⟩) t := by
  induction h with
  | nil => intro j h; exact absurd h (Nat.not_lt_zero _)
  | @cons x t vs xs r ih =>
    intro j h
    cases j with
    | zero => exact ⟨_, rfl⟩
    | succ j =>
      obtain ⟨u, e⟩ := ih j (Nat.lt_of_succ_lt_succ h)
      exact ⟨u, e⟩
theorem strs_len {vs : List Value} {xs : List Str} (h : StrsAre vs xs) : vs.length = xs.length := by
  induction h with
  | nil => rfl
  | cons _ _ _ ih => exact congrArg Nat.succ ih
section
variable {w : World} {A : Around} {s : Shared}
open SeqAt in
theorem eqAt_strs {a b : Addr} {vs us : List Value} {xs : List Str} (ha : s.heap.IsList a vs.toArray) (hb : s.heap.IsList b us.toArray) (hv : StrsAre vs xs) (hu' : StrsAre us xs) (hu : A.units < cLine) : EqAt A s (.ref a) (.ref b) true := by
  refine eqAt_here fun _ => ?_
  have e : ((List.range vs.toArray.size).all fun _ => true) = true := by simp
  rw [← e]
  refine RcAt.lists ha hb (by simp [strs_len hv, strs_len hu']) hu fun j h1 h2 => ?_
  obtain ⟨t, e1⟩ := strs_at hv j (by simpa using h1)
  obtain ⟨u, e2⟩ := strs_at hu' j (by simpa using h2)
  have e1' : vs.toArray[j] = .str (xs.getD j ⟨#[]⟩) t := by simpa using e1
  have e2' : us.toArray[j] = .str (xs.getD j ⟨#[]⟩) u := by simpa using e2
  rw [e1', e2']
  have := EqAt.str_str (A := A.in1) (s := s) (xs.getD j ⟨#[]⟩) t (xs.getD j ⟨#[]⟩) u
  rwa [beq_self_eq_true] at this
/-- a dict's entries, each a text's name with an int -/
inductive Ents : List DictEntry → List (Str × Int) → Prop where
  | nil : Ents [] []
  | cons {e : DictEntry} {k : Str} {t u : Tok} {n : Int} {es : List DictEntry} {c : List (Str × Int)} : e.key = .str k t → e.val = .int n u → Ents es c → Ents (e :: es) ((k, n) :: c)
theorem ents_of {prog : Program} {w : World} {es : List DictEntry} {kvs : List (Str × Value)} (h : Pairs (PySem.strKind prog w) es kvs) : ∀ {c : List (Str × Int)}, IntVals kvs c → Ents es c := by
  induction h with
  | nil => intro c i; cases i; exact .nil
  | @cons e kv es kvs hk hv _ ih =>
    intro c i
    obtain ⟨k, v⟩ := kv
    cases i with
    | cons i =>
      obtain ⟨t, hk'⟩ := Value.isStrOf_shape hk
      exact .cons hk' hv (ih i)
theorem Ents.length {es : List DictEntry} {c : List (Str × Int)} (h : Ents es c) : es.length = c.length := by
  induction h with
  | nil => rfl
  | cons _ _ _ ih => simp [ih]
theorem Ents.at {es : List DictEntry} {c : List (Str × Int)} (h : Ents es c) : ∀ i (hi : i < es.length), ∃ k t n u, es[i].key = .str k t ∧ es[i].val = .int n u ∧ (k, n) ∈ c := by
  induction h with
  | nil => intro i hi; exact absurd hi (Nat.not_lt_zero _)
  | @cons e k t u n es c h1 h2 _ ih =>
    intro i hi
    cases i with
    | zero => exact ⟨k, t, n, u, h1, h2, .head _⟩
    | succ i =>
      obtain ⟨k', t', n', u', a, b, d⟩ := ih i (by simpa using hi)
      exact ⟨k', t', n', u', a, b, .tail _ d⟩
theorem Ents.strs {es : List DictEntry} {c : List (Str × Int)} (h : Ents es c) : (es.all fun e => isExactStrKey e.key) = true := by
  induction h with
  | nil => rfl
  | cons h1 _ _ ih => rw [List.all_cons, h1, ih]; rfl
theorem Ents.find {es : List DictEntry} {c : List (Str × Int)} (h : Ents es c) {x : Str} (hx : kdpHas c x = true) : ∃ j, (es.findIdx? fun e => e.key.isStr x) = some j ∧ ∃ (hj : j < es.length) (u : Tok), es[j].val = .int (kdpLook c x 0) u := by
  induction h with
  | nil => cases hx
  | @cons e k t u n es c h1 h2 _ ih =>
    rw [List.findIdx?_cons, KTD.key_is h1]
    by_cases hk : x = k
    · subst hk
      refine ⟨0, by simp, by simp, u, ?_⟩
      simp [kdpLook, h2]
    · have hk' : ¬ k = x := fun e => hk e.symm
      have hx' : kdpHas c x = true := by
        unfold kdpHas at hx ⊢
        rw [List.any_cons] at hx
        simpa [hk'] using hx
      obtain ⟨j, e1, hj, u', e2⟩ := ih hx'
      refine ⟨j + 1, by simp [hk, e1], by simpa using hj, u', ?_⟩
      have e3 : kdpLook ((k, n) :: c) x 0 = kdpLook c x 0 := by unfold kdpLook; rw [List.find?_cons]; simp [hk']
      rw [e3]
      simpa using e2
theorem same_dicts {prog : Program} {w : World} {A : Around} {E : Value → Shared → Prop} {s : Shared} {nm : String} {a b : Addr} {oa ob : Obj} {es es' : Array DictEntry} {ep ep' : Nat} {c c' : List (Str × Int)} {Q : Bool → Shared → Prop} (ha : (a == sysModules) = false) (hb : (b == sysModules) = false)
    (hoa : s.heap.get? a = some oa) (hda : oa.data = .dict es ep) (hob : s.heap.get? b = some ob) (hdb : ob.data = .dict es' ep') (ia : Ents es.toList c) (ib : Ents es'.toList c') (hsame : SameDict c c') (h : Q true s) :
    wpAny (model prog w) A (Builtin.Dict.samePairs nm a b) Q E s := by
  have hsz : es.size = es'.size := by
    have e1 := ia.length
    have e2 := ib.length
    have e3 := hsame.1
    simp only [Array.length_toList] at e1 e2
    omega
  unfold Builtin.Dict.samePairs Builtin.Dict.showsAll
  rw [if_neg (show ¬ (a == sysModules) = true by rw [ha]; exact Bool.false_ne_true), if_neg (show ¬ (b == sysModules) = true by rw [hb]; exact Bool.false_ne_true)]
  refine wpAny_bind (wpAny_pure (wpAny_bind (wpAny_pure ?_)))
  refine wpAny_bind (wpAny_dictEntries hoa hda ?_)
  dsimp only
  refine wpAny_bind (wpAny_dictEntries hob hdb ?_)
  rw [if_neg (by rw [hsz]; simp)]
  refine wpAny_bind (wpAny_dictEpoch hoa hda (wpAny_bind ?_))
  rw [Std.Legacy.Range.forIn_eq_forIn_range']
  simp only [Std.Legacy.Range.size, Nat.sub_zero, Nat.add_sub_cancel, Nat.div_one]
  refine wpAny_forIn_list _ (fun rest q s' => s' = s ∧ q = (none, ()) ∧ ∀ x ∈ rest, x < es.size) _ ?_ ?_ _ _ ⟨rfl, rfl, fun x hx => ?_⟩
  · rintro x rest q s' ⟨rfl, rfl, hr⟩
    have hlt : x < es.size := hr x (.head _)
    refine wpAny_bind (wpAny_dictEntries hoa hda ?_)
    rw [Array.getElem?_eq_getElem hlt]
    obtain ⟨k, t, n, u, hk, hv, hm⟩ := ia.at x (by simpa using hlt)
    rw [Array.getElem_toList] at hk hv
    obtain ⟨h1, h2⟩ := hsame.2 _ hm
    obtain ⟨j, hj, hjl, u', hjv⟩ := ib.find h1
    have hjlt : j < es'.size := by simpa using hjl
    have hj' : (es'.findIdx? fun e => e.key.isStr k) = some j := by rw [← hj]; cases es'; simp
    dsimp only
    refine wpAny_bind (wpAny_holding (wpAny_bind ?_))
    rw [hk]
    refine KTD.kt_dictFind_strs hob hdb (by have := ib.strs; simpa using this) ?_
    rw [hj']
    dsimp only
    refine wpAny_bind (wpAny_dictEntries hob hdb ?_)
    rw [Array.getElem?_eq_getElem hjlt]
    dsimp only at h2 ⊢
    rw [Array.getElem_toList, h2] at hjv
    rw [hv, hjv]
    refine wpAny_holding (SeqAt.EqAt.int_int n u n u' prog w _ _ ?_)
    rw [beq_self_eq_true]
    show wpAny _ _ (if (!true) = true then _ else _) _ _ _
    rw [if_neg (by decide)]
    refine wpAny_bind (wpAny_dictEpoch hoa hda ?_)
    rw [if_neg (by simp)]
    exact wpAny_pure ⟨rfl, rfl, fun y hy => hr y (.tail _ hy)⟩
  · rintro q s' ⟨rfl, rfl, _⟩
    exact wpAny_pure h
  · have := List.mem_range'.mp hx
    obtain ⟨i, hi, e⟩ := this
    omega
open SeqAt in
theorem eqAt_dicts {w : World} {A : Around} {s : Shared} {a b : Addr} {o o' : Obj} {c c' : List (Str × Int)} (ha : s.heap.get? a = some o) (hb : s.heap.get? b = some o') (la : (a == sysModules) = false) (lb : (b == sysModules) = false)
    (da : DictAt w o c) (db : DictAt w o' c') (hsame : SameDict c c') (hu : A.units < cLine) : EqAt A s (.ref a) (.ref b) true := by
  refine eqAt_here fun _ => ?_
  obtain ⟨ka, ⟨es, ep, xa, dda, _, pa, _⟩, ia⟩ := da
  obtain ⟨kb, ⟨es', ep', xb, ddb, _, pb, _⟩, ib⟩ := db
  intro prog w' E Q hq
  have ta : s.TypeIs (.ref a) "dict" := ⟨o, ha, xa.1⟩
  have tb : s.TypeIs (.ref b) "dict" := ⟨o', hb, xb.1⟩
  refine wpAny_richCompare_same_room (op := .Eq) ta tb PySem.F.slot_dict_eq (wpAny_call_entry PySem.F.slot_dict_eq ta PySem.F.entry_dict_eq ?_ (PySem.F.args_dict_eq_2 _ _)) hu
  show wpAny _ _ (Builtin.Dict.dictSlotArgs "__eq__" ⟨[.ref a, .ref b], []⟩ >>= _) _ _ s
  refine wpAny_bind ?_
  unfold Builtin.Dict.dictSlotArgs
  refine wpAny_bind (wpAny_notOrdered_dict ta ?_)
  show wpAny _ _ (pure (Value.ref a, Value.ref b)) _ _ s
  refine wpAny_pure ?_
  refine wpAny_bind (wpAny_isInstance (T := "dict") tb PySem.F.sub_dict_dict ?_)
  simp only [Bool.not_true, Bool.false_eq_true, if_false]
  refine wpAny_bind (wpAny_pure (wpAny_bind (wpAny_pure ?_)))
  refine wpAny_bind (same_dicts la lb ha dda hb ddb (ents_of pa ia) (ents_of pb ib) hsame ?_)
  refine wpAny_pure ⟨_, rfl, ?_, ?_⟩
  · exact fun x => nomatch x
  · simpa using hq
open SeqAt in
/-- the items of two results are equal -/
theorem res_items {w : World} {A : Around} {s : Shared} {h₀ : Heap} {L : Addr} {news : List (Addr × Obj)} {p q : Addr} {r r' : Res} (N : News h₀ L s.heap news) (hp : ResAt w news p r) (hq : ResAt w news q r') (hsame : SameRes r r') (hu : A.units + 10 < cLine) :
    ∃ xs ys : Array Value, s.heap.IsTuple p xs ∧ s.heap.IsTuple q ys ∧ xs.size = 4 ∧ ys.size = 4 ∧ ∀ j (h1 : j < xs.size) (h2 : j < ys.size), EqAt A.in1 s xs[j] ys[j] true := by
  obtain ⟨B, e, D, o, t1, t2, u1, u2, u3, u4, vs, n, n1, n2, a1, a2, a3, a4, a5, a6, a7⟩ := hp
  obtain ⟨B', e', D', o', t1', t2', u1', u2', u3', u4', vs', n', n1', n2', b1, b2, b3, b4, b5, b6, b7⟩ := hq
  have hu1 : A.in1.units < cLine := by show A.units + 1 < cLine; omega
  have hu2 : A.in1.in1.units < cLine := by show A.units + 1 + 1 < cLine; omega
  have hstr : ∀ (A : Around) (x y : Str) (t u : Tok), x = y → EqAt A s (.str x t) (.str y u) true := fun A x y t u e => by
    subst e
    have := EqAt.str_str (A := A) (s := s) x t x u
    rwa [beq_self_eq_true] at this
  have hint : ∀ (A : Around) (x y : Int) (t u : Tok), x = y → EqAt A s (.int x t) (.int y u) true := fun A x y t u e => by
    subst e
    have := EqAt.int_int (A := A) (s := s) x t x u
    rwa [beq_self_eq_true] at this
  refine ⟨_, _, ⟨_, (N _ a1).1, rfl, _, rfl⟩, ⟨_, (N _ b1).1, rfl, _, rfl⟩, rfl, rfl, fun j h1 h2 => ?_⟩
  have hb : EqAt A.in1 s (.ref B) (.ref B') true := eqAt_strs (News.isList N a2) (News.isList N b2) a3 (by rw [hsame.bare]; exact b3) hu1
  have he : EqAt A.in1 s (.ref e) (.ref e') true := by
    refine eqAt_here fun _ => ?_
    have x := RcAt.tuples (A := A.in1) (s := s) (e := fun _ => true) ⟨_, (N _ a4).1, rfl, _, rfl⟩ ⟨_, (N _ b4).1, rfl, _, rfl⟩ hu1 (fun j h1 h2 => by
      match j, h1, h2 with
      | 0, _, _ => exact hint _ _ _ _ _ hsame.a
      | 1, _, _ => exact hint _ _ _ _ _ hsame.b
      | 2, _, _ => exact hint _ _ _ _ _ hsame.c
      | 3, _, _ => exact hint _ _ _ _ _ hsame.d
      | 4, _, _ => exact eqAt_dicts (N _ a5).1 (N _ b5).1 a6 b6 a7 b7 hsame.dict hu2
      | _ + 5, h, _ => exact absurd h (by simp))
    have e1 : ((List.range (min 5 5)).all (fun _ => true) && (5 : Nat) == 5) = true := rfl
    exact (show _ = true from e1) ▸ x
  match j, h1, h2 with
  | 0, _, _ => exact hstr _ _ _ _ _ (by rw [hsame.text])
  | 1, _, _ => exact hstr _ _ _ _ _ (by rw [hsame.sent])
  | 2, _, _ => exact hb
  | 3, _, _ => exact he
  | _ + 4, h, _ => exact absurd h (by simp)
section
variable {w : World} {A : Around} {E : Value → Shared → Prop} {h₀ hp : Heap} {gs : Array GenState} {dr : Drawn} {tk : Nat} {os : OsState} {L : Addr} {news : List (Addr × Obj)} {p q : Addr} {r r' : Res} {Q : Value → Shared → Prop} {prog : Program} {w' : World}
open SeqAt in
theorem res_eq (N : News h₀ L hp news) (hr : ResAt w news p r) (hr' : ResAt w news q r') (hsame : SameRes r r') (hu : A.units + 10 < cLine) (h : Q (.bool true) ⟨hp, gs, dr, tk, os⟩) :
    wpAny (model prog w') A (compareOp .Eq (.ref p) (.ref q)) Q E ⟨hp, gs, dr, tk, os⟩ := by
  obtain ⟨xs, ys, h1, h2, e1, e2, h3⟩ := res_items (A := A) (s := ⟨hp, gs, dr, tk, os⟩) N hr hr' hsame hu
  have x := RcAt.tuples (A := A) (e := fun _ => true) h1 h2 (by omega) h3
  have e : ((List.range (min xs.size ys.size)).all (fun _ => true) && xs.size == ys.size) = true := by rw [e1, e2]; rfl
  rw [e] at x
  exact x prog w' E Q h
open SeqAt in
theorem res_ne (N : News h₀ L hp news) (hr : ResAt w news p r) (hr' : ResAt w news q r') (hsame : SameRes r r') (hu : A.units + 10 < cLine) (h : Q (.bool false) ⟨hp, gs, dr, tk, os⟩) :
    wpAny (model prog w') A (compareOp .NotEq (.ref p) (.ref q)) Q E ⟨hp, gs, dr, tk, os⟩ := by
  obtain ⟨xs, ys, h1, h2, e1, e2, h3⟩ := res_items (A := A) (s := ⟨hp, gs, dr, tk, os⟩) N hr hr' hsame hu
  have x := RcNeAt.tuples (A := A) (e := fun _ => true) h1 h2 (by omega) h3
  have e : (!((List.range (min xs.size ys.size)).all (fun _ => true) && xs.size == ys.size)) = false := by rw [e1, e2]; rfl
  rw [e] at x
  exact x prog w' E Q h
end
end
end

section
open PySem PySem.W PyProof.Rows
set_option maxRecDepth 100000
set_option maxHeartbeats 8000000
/-- how many blanks stand ahead -/
noncomputable def lead (cs : List Nat) : Nat := (cs.takeWhile (· == 32)).length
theorem lead_cons (cs : List Nat) : lead (32 :: cs) = lead cs + 1 := by simp [lead, List.takeWhile]
theorem lead_stop {c : Nat} (cs : List Nat) (h : c ≠ 32) : lead (c :: cs) = 0 := by
  have : (c == 32) = false := by simpa using h
  simp [lead, List.takeWhile, this]
theorem lead_le (cs : List Nat) : lead cs ≤ cs.length := by
  induction cs with
  | nil => exact Nat.le_refl _
  | cons c cs ih =>
    by_cases h : c = 32
    · subst h; rw [lead_cons]; simpa using ih
    · rw [lead_stop cs h]; exact Nat.zero_le _
theorem lead_at {cs : List Nat} : ∀ {i : Nat}, i ≤ lead cs → cs.getD i 0 = 32 → i + 1 ≤ lead cs := by
  induction cs with
  | nil => intro i _ h; simp at h
  | cons c cs ih =>
    intro i hi h
    by_cases hc : c = 32
    · subst hc
      rw [lead_cons] at hi ⊢
      cases i with
      | zero => omega
      | succ i => exact Nat.succ_le_succ (ih (by omega) (by simpa using h))
    · rw [lead_stop cs hc] at hi
      obtain rfl : i = 0 := by omega
      exact absurd (by simpa using h) hc
theorem lead_off {cs : List Nat} : ∀ {i : Nat}, i ≤ lead cs → cs.getD i 0 ≠ 32 → i = lead cs := by
  induction cs with
  | nil => intro i hi _; simpa [lead] using hi
  | cons c cs ih =>
    intro i hi h
    by_cases hc : c = 32
    · subst hc
      rw [lead_cons] at hi ⊢
      cases i with
      | zero => exact absurd rfl h
      | succ i => exact congrArg Nat.succ (ih (by omega) (by simpa using h))
    · rw [lead_stop cs hc] at hi ⊢
      omega

theorem str_item_at {prog : Program} {w : World} {A : Around} {E : Value → Shared → Prop} {hp : Heap} {gs : Array GenState} {dr : Drawn} {tk : Nat} {os : OsState} {value slice : PySem.Expr} {cs : List Nat} {t u : Tok} {i : Int} {Q : Value → Shared → Prop}
    (h0 : 0 ≤ i) (h1 : i < cs.length) (h2 : cs.length ≤ 1000) (h : Q (.str ⟨#[cs.getD i.toNat 0]⟩ tk) ⟨hp, gs, dr, tk + 1, os⟩)
    (hs : subscripted slice false (.str ⟨cs.toArray⟩ t) (.int i u) = operate [.str ⟨cs.toArray⟩ t, .int i u] (getItem (.str ⟨cs.toArray⟩ t) (.int i u)))
    (ht : ∀ r, letTemporaryGo value (.str ⟨cs.toArray⟩ t) r = pure ()) :
    wpAny (model prog w) A (subscriptTail value slice (.str ⟨cs.toArray⟩ t) (.int i u)) Q E ⟨hp, gs, dr, tk, os⟩ := by
  have hl : Str.length ⟨cs.toArray⟩ = cs.length := List.size_toArray
  refine item_str (s := ⟨hp, gs, dr, tk, os⟩) (fitsSsize_of (N := 9223372036854775808) (by omega) (by omega) (Int.le_refl _)) (by rw [hl]; omega) (by rw [hl]; omega) ?_ hs ht
  intro _
  have e : Txt.item ⟨cs.toArray⟩ i = ⟨#[cs.getD i.toNat 0]⟩ := by
    unfold Txt.item Txt.charAt
    congr 2
    rw [hl]
    simp only [seqIndex?]
    have hn : i.toNat < cs.length := by omega
    simp [show ¬ i < 0 by omega, List.getD_eq_getElem?_getD, hn, h0, h1]
  rw [e]
  exact h
theorem one_eq (c : Nat) : ((⟨#[c]⟩ : Str) == Str.ofString " ") = decide (c = 32) := by
  by_cases h : c = 32
  · subst h; decide
  · have : ((⟨#[c]⟩ : Str) == Str.ofString " ") = false := by
      rw [beq_eq_false_iff_ne]
      intro e
      have e2 : Str.ofString " " = ⟨#[32]⟩ := by decide
      rw [e2] at e
      exact h (by injection e with e; simpa using e)
    rw [this, decide_eq_false h]
theorem blank_at {prog : Program} {w : World} {A : Around} {E : Value → Shared → Prop} {s : Shared} {c : Nat} {t u : Tok} {Q : Value → Shared → Prop}
    (h1 : c = 32 → Q (.bool true) s) (h2 : ¬ c = 32 → Q (.bool false) s) :
    wpAny (model prog w) A (compareOp .Eq (.str ⟨#[c]⟩ t) (.str (Str.ofString " ") u)) Q E s := by
  refine eq_str ?_
  rw [one_eq]
  by_cases h : c = 32
  · rw [decide_eq_true h]; exact h1 h
  · rw [decide_eq_false h]; exact h2 h

noncomputable def LInv (cs : List Nat) (am lp am' : Int) : Prop := 0 ≤ lp ∧ lp ≤ (lead cs : Int) ∧ am' = am - lp ∧ 0 ≤ am'
theorem LInv.turn {cs : List Nat} {am lp am' : Int} (h : LInv cs am lp am') (ha : am' ≠ 0) (hc : cs.getD lp.toNat 0 = 32) : LInv cs am (lp + 1) (am' - 1) := by
  obtain ⟨h1, h2, h3, h4⟩ := h
  have := lead_at (i := lp.toNat) (by omega) hc
  exact ⟨by omega, by omega, by omega, by omega⟩
theorem LInv.fin0 {cs : List Nat} {am lp am' : Int} (h : LInv cs am lp am') (ha : am' = 0) : lp.toNat = min am.toNat (lead cs) := by
  obtain ⟨h1, h2, h3, h4⟩ := h
  omega
theorem LInv.fin1 {cs : List Nat} {am lp am' : Int} (h : LInv cs am lp am') (hc : ¬ cs.getD lp.toNat 0 = 32) : lp.toNat = min am.toNat (lead cs) := by
  obtain ⟨h1, h2, h3, h4⟩ := h
  have := lead_off (i := lp.toNat) (by omega) hc
  omega

theorem last_no {cs : List Nat} {rp : Int} (h : rp = (cs.length : Int) - 1) (hc : cs.getD rp.toNat 0 = 32) (hl : cs.getD (cs.length - 1) 0 ≠ 32) : False := by
  have e : rp.toNat = cs.length - 1 := by omega
  rw [e] at hc
  exact hl hc
theorem slice_drop {cs : List Nat} {i j : Int} (h0 : 0 ≤ i) (h1 : i ≤ j) (hj : j = cs.length) : Txt.slice ⟨cs.toArray⟩ (some i) (some j) = ⟨(cs.drop i.toNat).toArray⟩ := by
  have h := slice_closes (x := ⟨cs.toArray⟩) (i := i) (j := j) ⟨h0, h1, by simp [hj]⟩
  rw [beq_iff_eq] at h
  rw [h]
  congr 2
  show (cs.toArray.toList.drop i.toNat).take (j - i).toNat = cs.drop i.toNat
  simp only [List.toList_toArray]
  rw [List.take_of_length_le]
  rw [List.length_drop]
  omega

local macro_rules | `(tactic| walk_at "my none") => `(tactic| skip)
local macro_rules | `(tactic| walk_at "subscriptTail Name Name str int") => `(tactic| (k_here; (try dsimp only); k_dflt (refine' str_item_at ?zqA ?zqB ?zqC ?_ ?zqD ?zqE; (case zqA => omega); (case zqB => omega); (case zqC => omega); (case zqD => with_unfolding_all rfl); (case zqE => (intro _; with_unfolding_all rfl)))))
local macro_rules | `(tactic| walk_at "compareOp Eq str str") => `(tactic| (k_here; k_dflt (refine blank_at (fun b9 => ?_) (fun b9 => ?_)) <;> (try (exfalso; exact last_no (by assumption) (by assumption) (by assumption)))))
theorem c_strip (w : World) (mean : ExcName → Option Value) (mg mb : Str → Option Value) {news : List (Addr × Obj)} {cs : List Nat} {t ta : Tok} {am : Int} (h0 : 0 ≤ am) (hlen : cs.length ≤ 1000) (hlead : lead cs < cs.length) (hlast : cs.getD (cs.length - 1) 0 ≠ 32) :
    CallOK w mean mg mb 62 1 [.str ⟨cs.toArray⟩ t, .int am ta] news fun k => ∀ t', k (.str ⟨(cs.drop (min am.toNat (lead cs))).toArray⟩ t') news := by
  k_with_none
  w_top off
  unfold CallOK
  k_fill
  intro dp un gd cn cs' a ccd cl outer A₀ base h₀ h L m gs dr tk os Q E B F X N T hk hd' hu hret
  have hsz : Str.length ⟨cs.toArray⟩ = cs.length := List.size_toArray
  refine wpAny_call ?_
  k_dflt ktr_enter
  k_with "exec While BoolOp cons nil" => first
    | (k_while (fun _ rp (_ : Int) => rp = (cs.length : Int) - 1) (fun _ _ am' => am'.toNat) "rpos" "amount")
    | (k_while (fun _ lp am' => LInv cs am lp am') (fun _ _ am' => am'.toNat) "lpos" "amount"; (have kJ9 := kInv; obtain ⟨hf1, hf2, hf3, hf4⟩ := kJ9))
  k_with "state" => (first | exact LInv.turn (by assumption) (by assumption) (by assumption) | exact ⟨by omega, by omega, by omega, by omega⟩ | omega)
  k_steps
  all_goals
    rename LInv _ _ _ _ => kJ8
    have e9 := by first | exact kJ8.fin1 (by assumption) | exact kJ8.fin0 (by omega)
    rw [slice_drop (by omega) (by omega) (by omega), e9]
    rename Fr h₀ L _ _ => kF9
    rename News h₀ L _ _ => kN9
    exact hret _ _ _ kF9 kN9
end

section
open PySem PySem.W PyProof.Rows
set_option maxRecDepth 100000
noncomputable def textL (t : Tr) : List Nat := t.word.map Int.toNat
noncomputable def blankL (t : Tr) : List Nat := (t.word.map Int.toNat).map (fun k => if k = 13 then 32 else k) |>.map fun k => if k = 10 then 111 else k
noncomputable def dotL (t : Tr) : List Nat := (textL t).map fun k => if k = 13 then 46 else k
theorem textL_fork (a b : Tr) : textL (.fork a b) = 13 :: (textL a ++ textL b) := by simp [textL, Tr.word]
theorem textL_leaf : textL .leaf = [10] := rfl
theorem dotL_fork (a b : Tr) : dotL (.fork a b) = 46 :: (dotL a ++ dotL b) := by simp [dotL, textL_fork]
theorem dotL_leaf : dotL .leaf = [10] := rfl
theorem blankL_fork (a b : Tr) : blankL (.fork a b) = 32 :: (blankL a ++ blankL b) := by simp [blankL, Tr.word]
theorem blankL_leaf : blankL .leaf = [111] := rfl

/-- how many ends the row's text comes to -/
noncomputable def Tr.ends : Tr → Nat
  | .leaf => 1
  | .fork .leaf b => b.ends + 1
  | .fork a b => a.ends + b.ends + 1
noncomputable def crlfs (n : Nat) : List Nat := (List.replicate n [13, 10]).flatten
theorem crlfs_succ (n : Nat) : crlfs (n + 1) = 13 :: 10 :: crlfs n := by simp [crlfs, List.replicate_succ]
theorem crlfs_add (n k : Nat) : crlfs (n + k) = crlfs n ++ crlfs k := by simp [crlfs, ← List.replicate_append_replicate]
theorem fixed_lf (r : List Nat) : fixed (10 :: r) = 13 :: 10 :: fixed r := by
  cases r <;> simp [fixed]
theorem fixed_crlf (r : List Nat) : fixed (13 :: 10 :: r) = 13 :: 10 :: fixed r := by simp [fixed]
theorem fixed_cr (r : List Nat) : fixed (13 :: 13 :: r) = 13 :: 10 :: fixed (13 :: r) := by
  rw [fixed]
  · simp
  · intro _ _ h; simp at h
theorem fixed_dot (r : List Nat) : fixed (46 :: r) = 46 :: fixed r := by
  cases r <;> simp [fixed]
theorem fixed_text (t : Tr) : ∀ r, fixed (textL t ++ r) = crlfs t.ends ++ fixed r := by
  induction t with
  | leaf => intro r; rw [textL_leaf]; show fixed (10 :: r) = _; rw [fixed_lf]; rfl
  | fork a b iha ihb =>
    intro r
    cases a with
    | leaf =>
      rw [textL_fork, textL_leaf]
      show fixed (13 :: 10 :: (textL b ++ r)) = _
      rw [fixed_crlf, ihb]
      show _ = crlfs (b.ends + 1) ++ _
      rw [crlfs_succ]; rfl
    | fork x y =>
      have e : textL (.fork (.fork x y) b) ++ r = 13 :: (textL (.fork x y) ++ (textL b ++ r)) := by
        rw [textL_fork]; simp
      rw [e]
      have e2 : textL (.fork x y) ++ (textL b ++ r) = 13 :: ((textL x ++ textL y) ++ (textL b ++ r)) := by rw [textL_fork]; simp
      rw [e2, fixed_cr, ← e2, iha, ihb]
      show _ = crlfs ((Tr.fork x y).ends + b.ends + 1) ++ _
      rw [crlfs_succ, crlfs_add]
      simp
noncomputable def Th.piece (th : Th) : List Nat := if th.isFork = false then [13, 10] else if th.isFirst = true then [46] else [46, 46]
noncomputable def Th.blank (th : Th) : Nat := if th.isFork = true then 32 else 111
theorem dotted_lf (b : Bool) (r : List Nat) : dotted b (13 :: 10 :: r) = 13 :: 10 :: dotted true r := by
  cases b <;> simp [dotted]
theorem sent_text (t : Tr) : ∀ f s b r, dotted (!b) (fixed (dotL t ++ r)) = ((t.things f s b).map Th.piece).flatten ++ dotted true (fixed r) := by
  induction t with
  | leaf =>
    intro f s b r
    rw [dotL_leaf]
    show dotted (!b) (fixed (10 :: r)) = _
    rw [fixed_lf, dotted_lf]
    rfl
  | fork x y ihx ihy =>
    intro f s b r
    have e : dotL (.fork x y) ++ r = 46 :: (dotL x ++ (dotL y ++ r)) := by rw [dotL_fork]; simp
    rw [e, fixed_dot]
    have h1 : dotted (!b) (46 :: fixed (dotL x ++ (dotL y ++ r))) = (if b = true then [46] else [46, 46]) ++ dotted (!true) (fixed (dotL x ++ (dotL y ++ r))) := by
      cases b <;> simp [dotted]
    have h2 := ihy f (s + 1) false r
    rw [h1, ihx (f + 1) s true]
    rw [show (true : Bool) = !false from rfl, h2]
    simp [Tr.things, Th.piece]
theorem blank_text (t : Tr) : ∀ f s b, (t.things f s b).map Th.blank = blankL t := by
  induction t with
  | leaf => intro f s b; rfl
  | fork x y ihx ihy => intro f s b; rw [blankL_fork, Tr.things]; simp [ihx, ihy, Th.blank]
noncomputable def Tr.spine : Tr → Nat
  | .leaf => 0
  | .fork a _ => a.spine + 1
theorem lead_text (t : Tr) : ∀ r, lead (blankL t ++ r) = t.spine := by
  induction t with
  | leaf => intro r; exact lead_stop _ (by decide)
  | fork a b iha ihb =>
    intro r
    have e : blankL (.fork a b) ++ r = 32 :: (blankL a ++ (blankL b ++ r)) := by rw [blankL_fork]; simp
    rw [e, lead_cons, iha]; rfl
theorem blankL_length (t : Tr) : (blankL t).length = 2 * t.forks + 1 := by simp [blankL, t.word_length]
theorem spine_le (t : Tr) : t.spine ≤ t.forks := by
  induction t with
  | leaf => exact Nat.le_refl _
  | fork a b iha ihb => simp only [Tr.spine, Tr.forks]; omega
theorem lead_lt (t : Tr) : lead (blankL t) < (blankL t).length := by
  have h := lead_text t []
  rw [List.append_nil] at h
  rw [h, blankL_length]
  have := spine_le t
  omega
theorem blankL_last (t : Tr) : ∃ r, blankL t = r ++ [111] := by
  induction t with
  | leaf => exact ⟨[], rfl⟩
  | fork a b iha ihb => obtain ⟨r, e⟩ := ihb; exact ⟨32 :: (blankL a ++ r), by rw [blankL_fork, e]; simp⟩
theorem last_not (t : Tr) : (blankL t).getD ((blankL t).length - 1) 0 ≠ 32 := by
  obtain ⟨r, e⟩ := blankL_last t
  rw [e]
  simp

/-- the forks' first and second branches ahead -/
noncomputable def Tr.fh : Tr → Int → List Int
  | .leaf, _ => []
  | .fork a b, f => f :: (a.fh (f + 1) ++ b.fh f)
noncomputable def Tr.sh : Tr → Int → List Int
  | .leaf, _ => []
  | .fork a b, s => s :: (a.sh s ++ b.sh (s + 1))
noncomputable def Tr.lh : Tr → Int → List Int
  | .leaf, h => [h]
  | .fork a b, h => a.lh (h + 1) ++ b.lh h
theorem things_fi (t : Tr) : ∀ f s b, ((t.things f s b).filter Th.isFork).map Th.fi = t.fh f := by
  induction t with
  | leaf => intro f s b; rfl
  | fork x y ihx ihy => intro f s b; simp [Tr.things, Tr.fh, ihx, ihy]
theorem things_se (t : Tr) : ∀ f s b, ((t.things f s b).filter Th.isFork).map Th.se = t.sh s := by
  induction t with
  | leaf => intro f s b; rfl
  | fork x y ihx ihy => intro f s b; simp [Tr.things, Tr.sh, ihx, ihy]
noncomputable def Th.leafFirst (th : Th) : Bool := th.isFirst && !th.isFork
noncomputable def Tr.lf : Tr → Bool → Nat
  | .leaf, b => if b then 1 else 0
  | .fork a b, _ => a.lf true + b.lf false
theorem things_lf (t : Tr) : ∀ f s b, ((t.things f s b).filter Th.leafFirst).length = t.lf b := by
  induction t with
  | leaf => intro f s b; cases b <;> rfl
  | fork x y ihx ihy => intro f s b; simp [Tr.things, Tr.lf, ihx, ihy, Th.leafFirst]
theorem ends_lf (t : Tr) : t.ends + t.lf false = 2 * t.forks + 1 := by
  induction t with
  | leaf => rfl
  | fork a b iha ihb =>
    cases a with
    | leaf => simp only [Tr.ends, Tr.lf, Tr.forks] at ihb ⊢; simp only [if_true]; omega
    | fork x y =>
      have e1 : (Tr.fork (.fork x y) b).ends = (Tr.fork x y).ends + b.ends + 1 := rfl
      have e2 : (Tr.fork (.fork x y) b).lf false = (Tr.fork x y).lf false + b.lf false := rfl
      have e3 : (Tr.fork (.fork x y) b).forks = (Tr.fork x y).forks + b.forks + 1 := rfl
      rw [e1, e2, e3]
      omega
theorem lf_mirror (t : Tr) : ∀ x, t.lf x + t.mirror.lf (!x) = t.forks + 1 := by
  induction t with
  | leaf => intro x; cases x <;> rfl
  | fork a b iha ihb =>
    intro x
    have h1 := iha true
    have h2 := ihb false
    simp only [Bool.not_true, Bool.not_false] at h1 h2
    simp only [Tr.lf, Tr.mirror, Tr.forks]
    omega
theorem lf_mirror0 {t : Tr} (h : 1 ≤ t.forks) : t.lf false + t.mirror.lf false = t.forks + 1 := by
  cases t with
  | leaf => simp [Tr.forks] at h
  | fork a b => exact lf_mirror (.fork a b) false
theorem mirror_ends {t : Tr} (h : 1 ≤ t.forks) : t.mirror.ends = t.forks + t.lf false := by
  have h1 := ends_lf t.mirror
  have h2 := lf_mirror0 h
  have h3 := t.mirror_forks
  omega
theorem fh_length (t : Tr) : ∀ f, (t.fh f).length = t.forks := by
  induction t with
  | leaf => intro f; rfl
  | fork a b iha ihb => intro f; simp only [Tr.fh, Tr.forks, List.length_cons, List.length_append, iha, ihb]
theorem sh_length (t : Tr) : ∀ f, (t.sh f).length = t.forks := by
  induction t with
  | leaf => intro f; rfl
  | fork a b iha ihb => intro f; simp only [Tr.sh, Tr.forks, List.length_cons, List.length_append, iha, ihb]
theorem fh_bounds (t : Tr) : ∀ f x, x ∈ t.fh f → f ≤ x ∧ x < f + t.forks := by
  induction t with
  | leaf => intro f x h; cases h
  | fork a b iha ihb =>
    intro f x h
    simp only [Tr.fh, List.mem_cons, List.mem_append] at h
    simp only [Tr.forks]
    rcases h with rfl | h | h
    · omega
    · have := iha _ _ h; omega
    · have := ihb _ _ h; omega
theorem sh_bounds (t : Tr) : ∀ f x, x ∈ t.sh f → f ≤ x ∧ x < f + t.forks := by
  induction t with
  | leaf => intro f x h; cases h
  | fork a b iha ihb =>
    intro f x h
    simp only [Tr.sh, List.mem_cons, List.mem_append] at h
    simp only [Tr.forks]
    rcases h with rfl | h | h
    · omega
    · have := iha _ _ h; omega
    · have := ihb _ _ h; omega
theorem fh_mirror (t : Tr) : ∀ f, (t.mirror.fh f).Perm (t.sh f) := by
  induction t with
  | leaf => intro f; exact .refl _
  | fork a b iha ihb =>
    intro f
    simp only [Tr.mirror, Tr.fh, Tr.sh]
    exact .cons _ ((List.perm_append_comm).trans ((iha f).append (ihb (f + 1))))
theorem sh_mirror (t : Tr) : ∀ f, (t.mirror.sh f).Perm (t.fh f) := by
  induction t with
  | leaf => intro f; exact .refl _
  | fork a b iha ihb =>
    intro f
    simp only [Tr.mirror, Tr.fh, Tr.sh]
    exact .cons _ ((List.perm_append_comm).trans ((iha (f + 1)).append (ihb f)))
theorem spine_count (t : Tr) : (t.sh 0).count 0 = t.spine := by
  induction t with
  | leaf => rfl
  | fork a b iha ihb =>
    have h0 : (b.sh 1).count 0 = 0 := List.count_eq_zero.mpr fun hm => by have := sh_bounds b 1 0 hm; omega
    simp only [Tr.sh, Tr.spine, List.count_cons_self, List.count_append, iha]
    show a.spine + (b.sh (0 + 1)).count 0 + 1 = _
    rw [Int.zero_add, h0]
theorem lh_perm (t : Tr) : ∀ h, (t.lh h).Perm (h :: (t.fh h).map (· + 1)) := by
  induction t with
  | leaf => intro h; exact .refl _
  | fork a b iha ihb =>
    intro h
    simp only [Tr.lh, Tr.fh, List.map_cons, List.map_append]
    refine ((iha (h + 1)).append (ihb h)).trans ?_
    show ((h + 1) :: ((a.fh (h + 1)).map (· + 1) ++ h :: (b.fh h).map (· + 1))).Perm _
    refine .trans (.cons _ List.perm_middle) ?_
    exact .swap _ _ _
theorem perm_sum {xs ys : List Int} (h : xs.Perm ys) : xs.sum = ys.sum := by
  induction h with
  | nil => rfl
  | cons _ _ ih => simp only [List.sum_cons, ih]
  | swap a b l => simp only [List.sum_cons]; omega
  | trans _ _ h1 h2 => exact h1.trans h2
theorem map_sum (xs : List Int) : (xs.map (· + 1)).sum = xs.sum + xs.length := by
  induction xs with
  | nil => rfl
  | cons a r ih => simp only [List.map_cons, List.sum_cons, List.length_cons, ih]; omega

/-- what the height and the names go through -/
noncomputable def Tr.names : Tr → Int → List (Bool × Int)
  | .leaf, h => [(false, h)]
  | .fork a b, h => (true, h) :: (a.names (h + 1) ++ b.names h)
noncomputable def nameOf (p : Bool × Int) : Str := stdName p.1 p.2
theorem sum_append (xs ys : List Int) : (xs ++ ys).sum = xs.sum + ys.sum := by
  induction xs with
  | nil => simp
  | cons a r ih => simp only [List.cons_append, List.sum_cons, ih]; omega
theorem fold_word (t : Tr) : ∀ e : Ent, t.word.foldl Ent.step e =
    ⟨e.a + (t.forks + 1 : Nat), e.b + (t.forks : Nat), e.c + (t.lh e.h).sum, e.d + (t.fh e.h).sum, ((t.names e.h).map nameOf).foldl bump e.dict, e.h - 1⟩ := by
  induction t with
  | leaf =>
    intro e
    simp only [Tr.word, List.foldl_cons, List.foldl_nil, Ent.step, Tr.forks, Tr.lh, Tr.fh, Tr.names, List.map_cons, List.map_nil, List.sum_cons, List.sum_nil, nameOf]
    rw [if_neg (by decide)]
    simp only [Ent.mk.injEq, and_true]
    refine ⟨by omega, by omega, by omega, by omega⟩
  | fork a b iha ihb =>
    intro e
    simp only [Tr.word, List.foldl_cons, List.foldl_append, iha, ihb]
    simp only [Ent.step, if_true, Tr.forks, Tr.lh, Tr.fh, Tr.names, List.map_cons, List.map_append, List.sum_cons, List.foldl_cons, List.foldl_append, nameOf, sum_append, Ent.mk.injEq]
    have e1 : e.h + 1 - 1 = e.h := by omega
    rw [e1]
    exact ⟨by omega, by omega, by omega, by omega, rfl, rfl⟩
theorem ent_all (t : Tr) : entAt t.word t.word.length = ⟨((t.forks + 1 : Nat) : Int), (t.forks : Nat), (t.lh 0).sum, (t.fh 0).sum, ((t.names 0).map nameOf).foldl bump [], -1⟩ := by
  unfold entAt
  rw [List.take_length, fold_word]
  simp
end

section
open PySem PySem.W PyProof.Rows
set_option maxRecDepth 100000
theorem has_put (c : List (Str × Int)) (k x : Str) (v : Int) : kdpHas (kdpPut c k v) x = (decide (k = x) || kdpHas c x) := by
  unfold kdpHas kdpPut
  split
  · next h =>
    have e : (c.map fun p => if decide (p.1 = k) then (p.1, v) else p).any (fun p => decide (p.1 = x)) = c.any fun p => decide (p.1 = x) := by
      rw [List.any_map]
      congr 1
      funext p
      simp only [Function.comp_apply]
      split <;> rfl
    rw [e]
    by_cases hk : k = x
    · subst hk; rw [h]; simp
    · simp [hk]
  · simp [Bool.or_comm]
theorem look_put (c : List (Str × Int)) (k x : Str) (v d : Int) : kdpLook (kdpPut c k v) x d = if k = x then v else kdpLook c x d := by
  unfold kdpLook kdpPut
  split
  · next h =>
    rw [List.find?_map]
    have e : ((fun p : Str × Int => decide (p.1 = x)) ∘ fun p => if decide (p.1 = k) then (p.1, v) else p) = fun p => decide (p.1 = x) := by
      funext p
      simp only [Function.comp_apply]
      split <;> rfl
    rw [e]
    by_cases hk : k = x
    · subst hk
      rw [if_pos rfl]
      obtain ⟨p, hp⟩ := Option.isSome_iff_exists.mp ((List.find?_isSome (p := fun p : Str × Int => decide (p.1 = k)) (xs := c)).mpr (by simpa using h))
      have hpk : p.1 = k := by simpa using List.find?_some hp
      rw [hp]
      simp [hpk]
    · rw [if_neg hk]
      cases hf : c.find? fun p => decide (p.1 = x) with
      | none => rfl
      | some p =>
        have hpx : p.1 = x := by simpa using List.find?_some hf
        have : ¬ p.1 = k := fun e => hk (e ▸ hpx)
        simp [this]
  · next h =>
    rw [List.find?_append]
    by_cases hk : k = x
    · subst hk
      have hn : c.find? (fun p => decide (p.1 = k)) = none := by
        rw [List.find?_eq_none]
        intro p hp e
        exact h (List.any_eq_true.mpr ⟨p, hp, e⟩)
      rw [hn]
      simp
    · rw [if_neg hk]
      cases c.find? fun p => decide (p.1 = x) <;> simp [hk]
theorem keys_put (c : List (Str × Int)) (k : Str) (v : Int) (h : (c.map (·.1)).Nodup) : ((kdpPut c k v).map (·.1)).Nodup := by
  unfold kdpPut
  split
  · have e : (c.map fun p => if decide (p.1 = k) then (p.1, v) else p).map (·.1) = c.map (·.1) := by
      rw [List.map_map]
      congr 1
      funext p
      simp only [Function.comp_apply]
      split <;> rfl
    rw [e]; exact h
  · next hn =>
    rw [List.map_append, List.nodup_append]
    refine ⟨h, by simp, ?_⟩
    intro a ha b hb e
    subst e
    have hb' : a = k := by simpa using hb
    subst hb'
    obtain ⟨p, hp, e⟩ := List.mem_map.mp ha
    exact hn (List.any_eq_true.mpr ⟨p, hp, by simpa using e⟩)
theorem has_mem {c : List (Str × Int)} {x : Str} : kdpHas c x = true ↔ x ∈ c.map (·.1) := by
  unfold kdpHas
  rw [List.any_eq_true, List.mem_map]
  constructor
  · rintro ⟨p, hp, e⟩; exact ⟨p, hp, by simpa using e⟩
  · rintro ⟨p, hp, e⟩; exact ⟨p, hp, by simpa using e⟩
theorem look_mem {c : List (Str × Int)} (h : (c.map (·.1)).Nodup) : ∀ p ∈ c, kdpLook c p.1 0 = p.2 := by
  induction c with
  | nil => intro p hp; cases hp
  | cons q c ih =>
    intro p hp
    rw [List.map_cons, List.nodup_cons] at h
    unfold kdpLook
    rw [List.find?_cons]
    rcases List.mem_cons.mp hp with rfl | hp
    · simp
    · have : ¬ q.1 = p.1 := fun e => h.1 (e ▸ List.mem_map_of_mem hp)
      simp only [this, decide_false]
      exact ih h.2 p hp
theorem nodup_len {xs ys : List Str} (hx : xs.Nodup) (h : ∀ x ∈ xs, x ∈ ys) : xs.length ≤ ys.length := by
  induction xs generalizing ys with
  | nil => exact Nat.zero_le _
  | cons a r ih =>
    rw [List.nodup_cons] at hx
    have ha := h a (.head _)
    have h2 := ih (ys := ys.erase a) hx.2 fun x hm => (List.mem_erase_of_ne (fun e => hx.1 (by rw [← e]; exact hm))).mpr (h x (.tail _ hm))
    rw [List.length_erase_of_mem ha] at h2
    have : 0 < ys.length := List.length_pos_of_mem ha
    simp only [List.length_cons]
    omega
theorem same_dict {c c' : List (Str × Int)} (h : (c.map (·.1)).Nodup) (h' : (c'.map (·.1)).Nodup) (hh : ∀ x, kdpHas c x = kdpHas c' x) (hl : ∀ x, kdpHas c x = true → kdpLook c' x 0 = kdpLook c x 0) : SameDict c c' := by
  refine ⟨?_, fun p hp => ?_⟩
  · have h1 := nodup_len h (ys := c'.map (·.1)) fun x hx => has_mem.mp ((hh x).symm.trans (has_mem.mpr hx))
    have h2 := nodup_len h' (ys := c.map (·.1)) fun x hx => has_mem.mp ((hh x).trans (has_mem.mpr hx))
    simp only [List.length_map] at h1 h2
    omega
  · have hx : kdpHas c p.1 = true := has_mem.mpr (List.mem_map_of_mem hp)
    exact ⟨(hh _).symm.trans hx, (hl _ hx).trans (look_mem h p hp)⟩
theorem bumps_look (xs : List Str) : ∀ (c : List (Str × Int)) (x : Str), kdpLook (xs.foldl bump c) x 0 = kdpLook c x 0 + (xs.count x : Nat) := by
  induction xs with
  | nil => intro c x; simp
  | cons a r ih =>
    intro c x
    rw [List.foldl_cons, ih]
    unfold bump
    rw [look_put, List.count_cons]
    by_cases h : a = x
    · subst h; simp; omega
    · simp [h]
theorem bumps_has (xs : List Str) : ∀ (c : List (Str × Int)) (x : Str), kdpHas (xs.foldl bump c) x = (kdpHas c x || decide (x ∈ xs)) := by
  induction xs with
  | nil => intro c x; simp
  | cons a r ih =>
    intro c x
    rw [List.foldl_cons, ih]
    unfold bump
    rw [has_put]
    by_cases h : a = x
    · subst h; simp
    · have h' : ¬ x = a := fun e => h e.symm
      simp [h, h']
theorem bumps_keys (xs : List Str) : ∀ (c : List (Str × Int)), (c.map (·.1)).Nodup → ((xs.foldl bump c).map (·.1)).Nodup := by
  induction xs with
  | nil => intro c h; exact h
  | cons a r ih => intro c h; exact ih _ (keys_put _ _ _ h)
noncomputable def puts (ps : List (Str × Int)) (c : List (Str × Int)) : List (Str × Int) := ps.foldl (fun c p => kdpPut c p.1 p.2) c
theorem puts_has (ps : List (Str × Int)) : ∀ (c : List (Str × Int)) (x : Str), kdpHas (puts ps c) x = (kdpHas c x || decide (x ∈ ps.map (·.1))) := by
  induction ps with
  | nil => intro c x; simp [puts]
  | cons a r ih =>
    intro c x
    have e : puts (a :: r) c = puts r (kdpPut c a.1 a.2) := rfl
    rw [e, ih, has_put]
    by_cases h : a.1 = x
    · subst h; simp
    · have h' : ¬ x = a.1 := fun e => h e.symm
      simp only [List.map_cons, List.mem_cons, h', false_or, decide_eq_false h, Bool.false_or]
theorem puts_keys (ps : List (Str × Int)) : ∀ (c : List (Str × Int)), (c.map (·.1)).Nodup → ((puts ps c).map (·.1)).Nodup := by
  induction ps with
  | nil => intro c h; exact h
  | cons a r ih => intro c h; exact ih _ (keys_put _ _ _ h)
theorem puts_look (ps : List (Str × Int)) {x : Str} {v : Int} (hv : ∀ p ∈ ps, p.1 = x → p.2 = v) : ∀ (c : List (Str × Int)), (kdpLook c x 0 = v ∨ x ∈ ps.map (·.1)) → kdpLook (puts ps c) x 0 = v := by
  induction ps with
  | nil => intro c h; rcases h with h | h; exact h; cases h
  | cons a r ih =>
    intro c h
    have e : puts (a :: r) c = puts r (kdpPut c a.1 a.2) := rfl
    rw [e]
    refine ih (fun p hp => hv p (.tail _ hp)) _ ?_
    rw [look_put]
    by_cases ha : a.1 = x
    · rw [if_pos ha]; exact .inl (hv a (.head _) ha)
    · rw [if_neg ha]
      rcases h with h | h
      · exact .inl h
      · rw [List.map_cons] at h
        rcases List.mem_cons.mp h with h | h
        · exact absurd h.symm ha
        · exact .inr h

/-- the told names -/
noncomputable def toldPairs (H : List Int) (hs : List Int) : List (Str × Int) := hs.flatMap fun h => [(stdName true h, (H.count h : Nat)), (stdName false (h + 1), (H.count h : Nat))]
noncomputable def toldDict (H : List Int) (hs : List Int) : List (Str × Int) := puts (toldPairs H hs) [(stdName false 0, 1)]
theorem names_apart : ∀ (f f' : Bool) (h h' : Fin 12), stdName f (h.val : Int) = stdName f' (h'.val : Int) → f = f' ∧ h = h' := by decide +kernel
theorem nameOf_inj {f f' : Bool} {h h' : Int} (h0 : 0 ≤ h) (h1 : h < 12) (h0' : 0 ≤ h') (h1' : h' < 12) (e : stdName f h = stdName f' h') : f = f' ∧ h = h' := by
  have := names_apart f f' ⟨h.toNat, by omega⟩ ⟨h'.toNat, by omega⟩ (by
    show stdName f ((h.toNat : Nat) : Int) = stdName f' ((h'.toNat : Nat) : Int)
    rw [Int.toNat_of_nonneg h0, Int.toNat_of_nonneg h0']; exact e)
  refine ⟨this.1, ?_⟩
  have h2 : h.toNat = h'.toNat := by simpa using this.2
  omega
theorem names_mem (t : Tr) : ∀ h p, p ∈ t.names h ↔ (p.1 = true ∧ p.2 ∈ t.fh h) ∨ (p.1 = false ∧ p.2 ∈ t.lh h) := by
  induction t with
  | leaf =>
    intro h p
    obtain ⟨b, x⟩ := p
    cases b <;> simp [Tr.names, Tr.fh, Tr.lh]
  | fork a b iha ihb =>
    intro h p
    obtain ⟨c, x⟩ := p
    simp only [Tr.names, Tr.fh, Tr.lh, List.mem_cons, List.mem_append, iha, ihb]
    cases c <;> simp
theorem names_count (t : Tr) : ∀ h x, (t.names h).count (true, x) = (t.fh h).count x ∧ (t.names h).count (false, x) = (t.lh h).count x := by
  induction t with
  | leaf => intro h x; simp [Tr.names, Tr.fh, Tr.lh, List.count_cons]
  | fork a b iha ihb =>
    intro h x
    simp only [Tr.names, Tr.fh, Tr.lh, List.count_cons, List.count_append, iha, ihb]
    simp
theorem names_bounds (t : Tr) {p : Bool × Int} (ht : t.forks ≤ 7) (h : p ∈ t.names 0) : 0 ≤ p.2 ∧ p.2 < 12 := by
  rcases (names_mem t 0 p).mp h with ⟨_, h⟩ | ⟨_, h⟩
  · have := fh_bounds t 0 _ h; omega
  · have := (lh_perm t 0).mem_iff.mp h
    simp only [List.mem_cons, List.mem_map] at this
    rcases this with h | ⟨y, hy, e⟩
    · omega
    · have := fh_bounds t 0 _ hy; omega
theorem count_map_inj {α β : Type} [BEq α] [LawfulBEq α] [BEq β] [LawfulBEq β] (f : α → β) (xs : List α) (a : α) (h : ∀ x ∈ xs, f x = f a → x = a) : (xs.map f).count (f a) = xs.count a := by
  induction xs with
  | nil => rfl
  | cons x r ih =>
    rw [List.map_cons, List.count_cons, List.count_cons, ih fun y hy => h y (.tail _ hy)]
    by_cases e : x = a
    · subst e; simp
    · have h1 : (f x == f a) = false := beq_eq_false_iff_ne.mpr fun q => e (h x (.head _) q)
      have h2 : (x == a) = false := beq_eq_false_iff_ne.mpr e
      rw [h1, h2]
theorem mem_map_inj {p : Bool × Int} {t : Tr} (ht : t.forks ≤ 7) (h0 : 0 ≤ p.2) (h1 : p.2 < 12) : nameOf p ∈ (t.names 0).map nameOf ↔ p ∈ t.names 0 := by
  constructor
  · intro h
    obtain ⟨q, hq, e⟩ := List.mem_map.mp h
    have hb := names_bounds t ht hq
    obtain ⟨e1, e2⟩ := nameOf_inj hb.1 hb.2 h0 h1 e
    have : q = p := Prod.ext e1 e2
    exact this ▸ hq
  · exact fun h => List.mem_map_of_mem h
/-- the filed names are the told ones -/
theorem dict_law (t : Tr) (ht : t.forks ≤ 7) {H : List Int} (hH : H.Perm (t.fh 0)) : SameDict (((t.names 0).map nameOf).foldl bump []) (toldDict H H) := by
  have hb : ∀ x ∈ H, 0 ≤ x ∧ x < 7 := fun x hx => by have := fh_bounds t 0 x (hH.mem_iff.mp hx); omega
  have hpairs : ∀ p, p ∈ toldPairs H H ↔ ∃ h ∈ H, p = (stdName true h, ((H.count h : Nat) : Int)) ∨ p = (stdName false (h + 1), ((H.count h : Nat) : Int)) := fun p => by
    simp [toldPairs, List.mem_flatMap]
  have hkeys : ∀ x, x ∈ (toldPairs H H).map (·.1) ↔ ∃ h ∈ H, x = stdName true h ∨ x = stdName false (h + 1) := fun x => by
    rw [List.mem_map]
    constructor
    · rintro ⟨p, hp, rfl⟩
      obtain ⟨h, hh, e | e⟩ := (hpairs p).mp hp
      · exact ⟨h, hh, .inl (by rw [e])⟩
      · exact ⟨h, hh, .inr (by rw [e])⟩
    · rintro ⟨h, hh, rfl | rfl⟩
      · exact ⟨_, (hpairs _).mpr ⟨h, hh, .inl rfl⟩, rfl⟩
      · exact ⟨_, (hpairs _).mpr ⟨h, hh, .inr rfl⟩, rfl⟩
  have hlh : ∀ x, x ∈ t.lh 0 ↔ x = 0 ∨ ∃ y ∈ H, x = y + 1 := fun x => by
    rw [(lh_perm t 0).mem_iff, List.mem_cons, List.mem_map]
    refine or_congr .rfl ⟨?_, ?_⟩
    · rintro ⟨y, hy, rfl⟩; exact ⟨y, hH.mem_iff.mpr hy, rfl⟩
    · rintro ⟨y, hy, rfl⟩; exact ⟨y, hH.mem_iff.mp hy, rfl⟩
  have hl0 : (t.lh 0).count 0 = 1 := by
    rw [(lh_perm t 0).count_eq, List.count_cons_self]
    have : ((t.fh 0).map (· + 1)).count 0 = 0 := List.count_eq_zero.mpr fun hm => by
      obtain ⟨y, hy, e⟩ := List.mem_map.mp hm
      have := fh_bounds t 0 y hy
      omega
    rw [this]
  have hl1 : ∀ y ∈ H, (t.lh 0).count (y + 1) = H.count y := fun y hy => by
    have h0 := hb y hy
    rw [(lh_perm t 0).count_eq, List.count_cons_of_ne (by omega), hH.count_eq]
    exact count_map_inj (· + 1) _ y fun x _ e => by have e' : x + 1 = y + 1 := e; omega
  have hcount : ∀ p : Bool × Int, 0 ≤ p.2 → p.2 < 12 → ((t.names 0).map nameOf).count (nameOf p) = (t.names 0).count p := fun p h0 h1 => 
    count_map_inj nameOf _ p fun q hq e => by
      have hbq := names_bounds t ht hq
      obtain ⟨e1, e2⟩ := nameOf_inj hbq.1 hbq.2 h0 h1 e
      exact Prod.ext e1 e2
  have hseen : ∀ x, x ∈ (t.names 0).map nameOf ↔ x = stdName false 0 ∨ ∃ h ∈ H, x = stdName true h ∨ x = stdName false (h + 1) := fun x => by
    rw [List.mem_map]
    constructor
    · rintro ⟨⟨f, h⟩, hp, rfl⟩
      rcases (names_mem t 0 _).mp hp with ⟨e, hm⟩ | ⟨e, hm⟩
      · dsimp only at e hm
        subst e
        exact .inr ⟨h, hH.mem_iff.mpr hm, .inl rfl⟩
      · dsimp only at e hm
        subst e
        rcases (hlh h).mp hm with rfl | ⟨y, hy, rfl⟩
        · exact .inl rfl
        · exact .inr ⟨y, hy, .inr rfl⟩
    · rintro (rfl | ⟨h, hh, rfl | rfl⟩)
      · exact ⟨(false, 0), (names_mem t 0 _).mpr (.inr ⟨rfl, (hlh 0).mpr (.inl rfl)⟩), rfl⟩
      · exact ⟨(true, h), (names_mem t 0 _).mpr (.inl ⟨rfl, hH.mem_iff.mp hh⟩), rfl⟩
      · exact ⟨(false, h + 1), (names_mem t 0 _).mpr (.inr ⟨rfl, (hlh _).mpr (.inr ⟨h, hh, rfl⟩)⟩), rfl⟩
  have hval : ∀ y ∈ H, ∀ x, (x = stdName true y ∨ x = stdName false (y + 1)) → kdpLook (toldDict H H) x 0 = (H.count y : Nat) := fun y hy x hx => by
    have hy0 := hb y hy
    refine puts_look _ (fun p hp e => ?_) _ (.inr ((hkeys x).mpr ⟨y, hy, hx⟩))
    obtain ⟨z, hz, hp⟩ := (hpairs p).mp hp
    have hz0 := hb z hz
    rcases hp with rfl | rfl <;> dsimp only at e ⊢ <;> rcases hx with rfl | rfl
    · obtain ⟨_, e2⟩ := nameOf_inj (by omega) (by omega) (by omega) (by omega) e; rw [e2]
    · obtain ⟨e1, _⟩ := nameOf_inj (by omega) (by omega) (by omega) (by omega) e; cases e1
    · obtain ⟨e1, _⟩ := nameOf_inj (by omega) (by omega) (by omega) (by omega) e; cases e1
    · obtain ⟨_, e2⟩ := nameOf_inj (by omega) (by omega) (by omega) (by omega) e
      have : z = y := by omega
      rw [this]
  have hval0 : kdpLook (toldDict H H) (stdName false 0) 0 = 1 := by
    refine puts_look _ (fun p hp e => ?_) _ (.inl (by simp [kdpLook]))
    obtain ⟨z, hz, hp⟩ := (hpairs p).mp hp
    have hz0 := hb z hz
    rcases hp with rfl | rfl <;> dsimp only at e
    · obtain ⟨e1, _⟩ := nameOf_inj (by omega) (by omega) (by omega) (by omega) e; cases e1
    · obtain ⟨_, e2⟩ := nameOf_inj (by omega) (by omega) (by omega) (by omega) e; omega
  refine same_dict (bumps_keys _ _ .nil) (puts_keys _ _ (by simp)) (fun x => ?_) fun x hx => ?_
  · rw [bumps_has]
    unfold toldDict
    rw [puts_has]
    have e1 : kdpHas [] x = false := rfl
    have e2 : kdpHas [(stdName false 0, (1 : Int))] x = decide (stdName false 0 = x) := by simp [kdpHas]
    rw [e1, e2, Bool.false_or]
    have e3 : decide (x ∈ (t.names 0).map nameOf) = decide (x = stdName false 0 ∨ x ∈ (toldPairs H H).map (·.1)) := by
      congr 1
      exact propext ((hseen x).trans (or_congr .rfl (hkeys x).symm))
    rw [e3, Bool.decide_or]
    congr 2
    exact propext eq_comm
  · rw [bumps_has] at hx
    have hx' : x ∈ (t.names 0).map nameOf := by simpa [kdpHas] using hx
    rw [bumps_look]
    have e1 : kdpLook [] x 0 = 0 := rfl
    rw [e1, Int.zero_add]
    rcases (hseen x).mp hx' with rfl | ⟨y, hy, h | h⟩
    · rw [hval0]
      have := hcount (false, 0) (by decide) (by decide)
      rw [show stdName false 0 = nameOf (false, 0) from rfl, this, (names_count t 0 0).2, hl0]
      rfl
    · have hy0 := hb y hy
      rw [hval y hy x (.inl h), h, show stdName true y = nameOf (true, y) from rfl, hcount (true, y) (by show 0 ≤ y; omega) (by show y < 12; omega), (names_count t 0 y).1, hH.count_eq]
    · have hy0 := hb y hy
      rw [hval y hy x (.inr h), h, show stdName false (y + 1) = nameOf (false, y + 1) from rfl, hcount (false, y + 1) (by show 0 ≤ y + 1; omega) (by show y + 1 < 12; omega), (names_count t 0 (y + 1)).2, hl1 y hy]
end

section
open PySem PySem.W PyProof.Rows
set_option maxRecDepth 100000
noncomputable def seenRes (t : Tr) : Res where
  text := fixed (textL t)
  sent := dotted true (fixed (dotL t))
  bare := (List.range (t.forks + 1)).map fun am => (blankL t).drop (min am (lead (blankL t)))
  a := (entAt t.word t.word.length).a
  b := (entAt t.word t.word.length).b
  c := (entAt t.word t.word.length).c
  d := (entAt t.word t.word.length).d
  dict := (entAt t.word t.word.length).dict
noncomputable def toldRes (ths : List Th) (n : Nat) (H O : List Int) : Res where
  text := crlfs n
  sent := (ths.map Th.piece).flatten
  bare := (List.range (H.length + 1)).map fun am => (ths.map Th.blank).drop (min am (O.count 0))
  a := H.length + 1
  b := H.length
  c := H.sum + H.length
  d := H.sum
  dict := toldDict H H
theorem plain_law (t : Tr) (ht : t.forks ≤ 7) {n : Nat} {H O : List Int} (hn : n = t.ends) (hH : H.Perm (t.fh 0)) (hO : O.Perm (t.sh 0)) : SameRes (seenRes t) (toldRes (t.things 0 0 false) n H O) := by
  have hlen : H.length = t.forks := by rw [hH.length_eq, fh_length]
  have hsum : H.sum = (t.fh 0).sum := perm_sum hH
  have hlh : (t.lh 0).sum = (t.fh 0).sum + t.forks := by
    rw [perm_sum (lh_perm t 0), List.sum_cons, map_sum, fh_length]; omega
  have hspine : O.count 0 = lead (blankL t) := by
    have h := lead_text t []
    rw [List.append_nil] at h
    rw [hO.count_eq, spine_count, h]
  constructor
  · show fixed (textL t) = crlfs n
    have h := fixed_text t []
    rw [List.append_nil] at h
    rw [h, hn]; simp [fixed]
  · show dotted true (fixed (dotL t)) = _
    have h := sent_text t 0 0 false []
    rw [List.append_nil] at h
    rw [show (true : Bool) = !false from rfl, h]
    simp [fixed, dotted, toldRes]
  · show ((List.range (t.forks + 1)).map fun am => (blankL t).drop (min am (lead (blankL t)))) = (List.range (H.length + 1)).map fun am => ((t.things 0 0 false).map Th.blank).drop (min am (O.count 0))
    rw [hlen, hspine, blank_text]
  · show (entAt t.word t.word.length).a = (H.length : Int) + 1
    rw [ent_all, hlen]; rfl
  · show (entAt t.word t.word.length).b = (H.length : Int)
    rw [ent_all, hlen]
  · show (entAt t.word t.word.length).c = H.sum + H.length
    rw [ent_all, hlen, hsum]; exact hlh
  · show (entAt t.word t.word.length).d = H.sum
    rw [ent_all, hsum]
  · show SameDict (entAt t.word t.word.length).dict (toldDict H H)
    rw [ent_all]
    exact dict_law t ht hH
/-- for the word itself, and for its mirror -/
theorem plain_first (t : Tr) (ht : t.forks ≤ 7) : SameRes (seenRes t) (toldRes (t.things 0 0 false) (2 * t.forks + 1 - t.lf false) (t.fh 0) (t.sh 0)) :=
  plain_law t ht (by have := ends_lf t; omega) (.refl _) (.refl _)
theorem plain_second (t : Tr) (ht : t.forks ≤ 7) (h1 : 1 ≤ t.forks) : SameRes (seenRes t.mirror) (toldRes (t.mirror.things 0 0 false) (t.forks + t.lf false) (t.sh 0) (t.fh 0)) :=
  plain_law t.mirror (by rw [t.mirror_forks]; exact ht) (mirror_ends h1).symm (fh_mirror t 0).symm (sh_mirror t 0).symm
/-- the turned row is the mirror's -/
theorem behind_turned (t : Tr) : t.behind.reverse = t.mirror.word := by
  induction t with
  | leaf => rfl
  | fork a b iha ihb => simp [Tr.behind, Tr.mirror, Tr.word, iha, ihb]
end

section
open PySem PySem.W PySem.Calls PyProof.Rows
set_option maxRecDepth 100000
/-- a row of octets: a list of ints that the ledger bears, or bytes -/
inductive RowIs (news : List (Addr × Obj)) : Value → List Int → Prop where
  | list {a : Addr} {vs : List Value} {n : Nat} {ns : List Int} : (a, listOf vs.toArray n) ∈ news → IntsAre vs ns → RowIs news (.ref a) ns
  | bytes {b : Array UInt8} {t : Tok} {ns : List Int} : KBw.bInts b = ns → RowIs news (.bytes b t) ns
theorem RowIs.mono {news news' : List (Addr × Obj)} {v : Value} {ns : List Int} (h : RowIs news v ns) (hs : ∀ p ∈ news, p ∈ news') : RowIs news' v ns := by
  cases h with
  | list hm hi => exact .list (hs _ hm) hi
  | bytes hb => exact .bytes hb
noncomputable def RowItem (ns : List Int) (i : Nat) (v : Value) : Prop := ∃ k t, v = .int k t ∧ ns[i]? = some k
section
variable {prog : Program} {w : World} {A : Around} {E : Value → Shared → Prop} {s : Shared} {h₀ : Heap} {L : Addr} {m : Str → Option Value} {env : Env}
theorem comp_imp {elt : Expr} {x : Str} {scope : Scope} {cl : List (Str × Addr)} {S : List (Addr × Obj) → Prop} {P P' : Nat → Value → Prop} {Fin : List Value → List (Addr × Obj) → Prop} (hP : ∀ i v, P' i v → P i v) : ∀ {n i : Nat} {ys : List Value} {news : List (Addr × Obj)},
    LCg.CompRest prog w A h₀ L m env elt x scope cl s S P Fin n i ys news → LCg.CompRest prog w A h₀ L m env elt x scope cl s S P' Fin n i ys news := by
  intro n
  induction n with
  | zero => intro i ys news h; exact h
  | succ n ih =>
    intro i ys news h
    refine LCg.CompRest.succ ?_
    intro v I oI C oC D m₂ hh tk E' hp hC hx F N off ne
    refine wpAny_mono (h v I oI C oC D m₂ hh tk E' (hP _ _ hp) hC hx F N off ne) (fun y s' q => ?_) fun _ _ e => e
    obtain ⟨h', tk', news', rfl, F', N', off', hS', r⟩ := q
    exact ⟨h', tk', news', rfl, F', N', off', hS', ih r⟩
theorem comp_impS {elt : Expr} {x : Str} {scope : Scope} {cl : List (Str × Addr)} {S : List (Addr × Obj) → Prop} {P P' : Nat → Value → Prop} {Fin : List Value → List (Addr × Obj) → Prop} (Inv : Nat → List Value → Prop) {n : Nat} {news : List (Addr × Obj)} (hS : S news) (h0 : Inv 0 []) (fin : ∀ ys, Inv n ys → Fin ys news) (hP : ∀ i v, P i v → P' i v)
    (turn : ∀ i v ys I oI C oC D m₂ h tk (E' : Value → Shared → Prop), i < n → P' i v → Inv i ys → LCg.NsObj oC m₂ → m₂ x = some v → Fr h₀ L h m → News h₀ L h ((I, oI) :: (C, oC) :: (D, LCg.lst ys) :: news) →
      wpAny (model prog w) A (eval elt (compEnvC scope cl C env)) (fun y s' => ∃ h' tk', s' = ⟨h', s.gens, s.drawn, tk', s.os⟩ ∧ Fr h₀ L h' m ∧ News h₀ L h' ((I, oI) :: (C, oC) :: (D, LCg.lst ys) :: news) ∧ Inv (i + 1) (ys ++ [y])) E' ⟨h, s.gens, s.drawn, tk, s.os⟩) :
    LCg.CompRest prog w A h₀ L m env elt x scope cl s S P Fin n 0 [] news :=
  comp_ind Inv hS h0 fin fun i v ys I oI C oC D m₂ h tk E' hi hp => turn i v ys I oI C oC D m₂ h tk E' hi (hP i v hp)
open LCg in
/-- a comprehension over a row, whose turns keep nothing that they make -/
theorem row_comp {elt iter : Expr} {x : Str} {px : Pos} {scope : Scope} {cl : List (Str × Addr)} {pos : Pos} {rv : Value} {ns : List Int} {news : List (Addr × Obj)} {Q : Value → Shared → Prop} (F₀ : Fr h₀ L s.heap m) (N₀ : News h₀ L s.heap news) (hr : RowIs news rv ns) (Inv : Nat → List Value → Prop) (hh : A.handled = none) (hz : ns.length ≤ 1000)
    (hclos : closureFor scope env = pure cl) (hcell : ∀ y ∈ scope.names, y.2 ≠ .cell) (hkind : scope.kind = .function)
    (hnames : ∀ y ∈ scope.names, y.2 = .local → scope.names.lookup y.1 = some .local) (hx : scope.names.lookup x = some .local)
    (hs : ∀ x, foldedSetIterable iter env x = pure x)
    (h : wpAny (model prog w) A (eval iter env) (fun xv s₁ => xv = rv ∧ Fr h₀ L s₁.heap m ∧ News h₀ L s₁.heap news ∧ Inv 0 [] ∧
      (∀ D h tk ys, Inv ns.length ys → Fr h₀ L h m → News h₀ L h ((D, LCg.lst ys) :: news) → LCg.Off1 D news → Q (.ref D) ⟨h, s₁.gens, s₁.drawn, tk, s₁.os⟩) ∧
      (∀ i k t ys I oI C oC D m₂ h tk (E' : Value → Shared → Prop), i < ns.length → ns[i]? = some k → Inv i ys → LCg.NsObj oC m₂ → m₂ x = some (.int k t) → Fr h₀ L h m → News h₀ L h ((I, oI) :: (C, oC) :: (D, LCg.lst ys) :: news) →
        wpAny (model prog w) A (eval elt (compEnvC scope cl C env)) (fun y s' => ∃ h' tk', s' = ⟨h', s₁.gens, s₁.drawn, tk', s₁.os⟩ ∧ Fr h₀ L h' m ∧ News h₀ L h' ((I, oI) :: (C, oC) :: (D, LCg.lst ys) :: news) ∧ Inv (i + 1) (ys ++ [y])) E' ⟨h, s₁.gens, s₁.drawn, tk, s₁.os⟩)) E s) :
    wpAny (model prog w) A (eval (.ListComp elt [⟨.Name x px, iter, [], 0⟩] scope pos) env) Q E s := by
  cases hr with
  | @list a vs n ns hm hi =>
    refine LCg.ListComp_U F₀ hclos hcell hkind hnames hx (wpAny_mono h (fun xv s₁ h₁ => ?_) fun _ _ e => e) hs
    obtain ⟨rfl, F, N, h0, fin, turn⟩ := h₁
    have hlen : vs.toArray.size = ns.length := by rw [List.size_toArray]; exact hi.length
    refine LCg.CompSrc.ledger hh F N hm (by rw [hlen, sizeLine_eq]; omega) fun g => ?_
    rw [hlen]
    refine comp_impS (P' := RowItem ns) Inv (.inr ⟨_, hm, rfl, _, rfl⟩) h0 (fun ys hys D h tk F N o => fin D h tk ys hys F N o) (fun i v hp => ?_) ?_
    · obtain ⟨k, t, e, hk⟩ := IntsAre.at hi i v (by simpa using hp)
      exact ⟨k, t, e, hk⟩
    · rintro i v ys I oI C oC D m₂ h tk E' hi2 ⟨k, t, rfl, hk⟩ hinv hC hx F N
      exact turn i k t ys I oI C oC D m₂ h tk E' hi2 hk hinv hC hx F N
  | @bytes b t ns hb =>
    rw [eval_ListComp]
    refine wpAny_comprehension_free (use := none) rfl hs hclos hkind hnames (wpAny_mono h (fun xv s₁ h₁ => ?_) fun _ _ e => e)
    obtain ⟨rfl, F, N, h0, fin, turn⟩ := h₁
    have hlen : b.size = ns.length := by rw [← hb, KBw.ints_length]
    refine KBw.pyIter_bytes ?_
    refine block_U (S := fun _ => True) (KBw.walks hh s₁.heap.objs.size b t) (by rw [hlen, sizeLine_eq]; omega) (fun i h st => by obtain ⟨o, e, _⟩ := st; exact ⟨o, e⟩) (fun i h h' o nw st e e' _ _ _ => by obtain ⟨o', q, r⟩ := st; rw [e] at q; cases q; exact ⟨o, e', r⟩) hcell hkind hx ⟨_, Heap.get?_push_size _ rfl, rfl, rfl⟩ (fun b' hb' => ?_)
      (F.keeps fun _ _ e => Heap.get?_push_of_some _ e) (N.grown fun _ _ e => Heap.get?_push_of_some _ e) (Nat.ne_of_lt F.ns.lt) (next_is_new F) (fun p hp => Nat.ne_of_lt (Heap.lt_size (N p hp).1)) trivial 
      (Fin := fun ys nw => nw = news ∧ Inv ns.length ys) ?_ ?_
    · rw [List.mem_singleton.mp hb']
      show s₁.heap.objs.size < (s₁.heap.push _).objs.size
      rw [Heap.size_push]; exact Nat.lt_succ_self _
    · rw [hlen]
      refine comp_impS (P' := RowItem ns) Inv trivial h0 (fun ys hys => ⟨rfl, hys⟩) (fun i v hp => ?_) ?_
      · obtain ⟨c, u, hc, rfl⟩ := hp
        exact ⟨_, u, rfl, hb ▸ KBw.ints_get hc⟩
      · rintro i v ys I oI C oC D m₂ h tk E' hi2 ⟨k, t, rfl, hk⟩ hinv hC hx F N
        exact turn i k t ys I oI C oC D m₂ h tk E' hi2 hk hinv hC hx F N
    · intro D C h tk m' ys news' F' N' o1 hn hC₀ hD₀ hCL hDL hCD offC hfin
      obtain ⟨rfl, hys⟩ := hfin
      refine ⟨m', hn, fun h'' hs'' => fin D h'' tk ys hys (F'.change hs'' hCL hC₀) (fun p hp => ?_) o1⟩
      refine ⟨hs''.extBut _ _ ?_ (N' p hp).1, (N' p hp).2⟩
      rcases List.mem_cons.mp hp with rfl | hp
      · exact Ne.symm hCD
      · exact offC p hp
end
section
variable {prog : Program} {w : World} {A : Around} {E : Value → Shared → Prop} {env : Env} {h₀ hp : Heap} {gs : Array GenState} {dr : Drawn} {tk₀ : Nat} {os : OsState} {x : Str} {body : List Stmt} {Q : Flow → Shared → Prop}
theorem loop_row {rv : Value} {ns : List Int} {m₀ : Str → Option Value} {base news : List (Addr × Obj)} (hr : RowIs base rv ns) (J : Nat → (Str → Option Value) → List (Addr × Obj) → Prop)
    (hh : A.handled = none) (hb : ∀ i m nx, J i m nx → ∀ p ∈ base, p ∈ nx) (F : Fr h₀ env.locals hp m₀) (N : News h₀ env.locals hp news) (hj : J 0 m₀ news)
    (turn : ∀ i k t m₁ nx h tk I oI, i < ns.length → ns[i]? = some k → J i m₁ nx → (∀ p ∈ nx, @Ne Nat p.1 I) → Fr h₀ env.locals h (fun y => if y = x then some (.int k t) else m₁ y) → News h₀ env.locals h ((I, oI) :: nx) →
      wpAny (model prog w) A (execs body env) (TurnPost h₀ env.locals (J (i + 1)) I oI ⟨h, gs, dr, tk, os⟩ Q) E ⟨h, gs, dr, tk, os⟩)
    (done : ∀ m₁ nx h tk, J ns.length m₁ nx → Fr h₀ env.locals h m₁ → News h₀ env.locals h nx → Q .next ⟨h, gs, dr, tk, os⟩) :
    wpAny (model prog w) A (pyIter rv) (fun it s₂ => LoopAtV prog w A h₀ env x body Q E it s₂) E ⟨hp, gs, dr, tk₀, os⟩ := by
  cases hr with
  | @list a vs n ns hm hi =>
    refine loop_list (vs := vs) (c := n) J hh (fun i m nx hJ => hb i m nx hJ _ hm) F N hj ?_ ?_
    · intro i v m₁ nx h tk I oI hi2 hv hJ hne F₁ N₁
      obtain ⟨k, t, rfl, hk⟩ := IntsAre.at hi i v hv
      exact turn i k t m₁ nx h tk I oI (by rw [← hi.length]; exact hi2) hk hJ hne F₁ N₁
    · intro m₁ nx h tk hJ F₁ N₁
      exact done m₁ nx h tk (by rw [← hi.length]; exact hJ) F₁ N₁
  | @bytes b t ns hbi =>
    have hlen : b.size = ns.length := by rw [← hbi, KBw.ints_length]
    refine KBw.pyIter_bytes (s := ⟨hp, gs, dr, tk₀, os⟩) ?_
    have W := KBw.walks (prog := prog) (w := w) hh hp.objs.size b t
    rw [hlen] at W
    refine loop_any J W ?_ ?_ ?_ (fun i h st => by obtain ⟨o, q, _⟩ := st; exact ⟨o, q⟩) ?_ ⟨_, Heap.get?_push_size _ rfl, rfl, rfl⟩ (F.push _) (fun p hp => ⟨Heap.get?_push_of_some _ (N p hp).1, (N p hp).2⟩) hj ?_ done
    · intro hm
      exact absurd F.ns.lt ((List.mem_singleton.mp hm) ▸ Nat.lt_irrefl _)
    · exact next_is_new F
    · intro p hp' e
      exact absurd (Heap.lt_size (N p hp').1) (e ▸ Nat.lt_irrefl _)
    · intro b' hb' hne
      exact absurd (List.mem_singleton.mp hb') hne
    · rintro i v m₁ nx h tk oI hi ⟨c, u, hc, rfl⟩ hJ hne F₁ N₁
      exact turn i _ u m₁ nx h tk _ oI hi (hbi ▸ KBw.ints_get hc) hJ hne F₁ N₁
theorem row_len {L : Addr} {rv : Value} {ns : List Int} {news : List (Addr × Obj)} {Q : Value → Shared → Prop} (hr : RowIs news rv ns) (N : News h₀ L hp news) (hz : ns.length ≤ 1000)
    (h : Q (.int ns.length (tk₀ + 1)) ⟨hp, gs, dr, tk₀ + 1 + 1, os⟩) : wpAny (model prog w) A (call (.builtin "len") [rv]) Q E ⟨hp, gs, dr, tk₀, os⟩ := by
  cases hr with
  | list hm hi => exact len_ints_at N hm hi hz h
  | bytes hb => exact KBw.len_K (s := ⟨hp, gs, dr, tk₀, os⟩) hb (by omega) h
end
end

section
open PySem PySem.W PySem.Calls PyProof.Rows
set_option maxRecDepth 100000
theorem wpC_enter {M : Model} {A : Around} {s : Shared} {f : Value} {pos : List Value} {kw : List (Str × Value)} {c : ClaimW} {cl : Str → Option Addr} {mean : ExcName → Option Value} {args : List WData} {s₁ : Shared}
    (h : codeC M A (.call f ⟨pos, kw⟩) (GoodWG c cl mean args s₁) s) : wpC M A (PySem.call f pos kw) (fun v s' => GoodWG c cl mean args s₁ (.ok (.ret v)) s') (fun e s' => GoodWG c cl mean args s₁ (.error e) s') s :=
  wpC_call (codeC_mono h fun res s' g => by rcases g.1 with ⟨v, _, _, rfl, _⟩ | ⟨e, _, _, rfl, _⟩ <;> exact g)
theorem call_fullC {prog : Program} {w : World} {A : Around} {R : Result → Shared → Prop} {s : Shared} {name : Str} {params : Arguments} {body : List Stmt} {scope : Scope}
    {dV kV pm cd doc : Value} {a : Addr} {o : Obj} {args : Args} {binds : List (Str × Value)}
    (hroom : A.depth < recursionLimit) (ho : s.heap.get? a = some o) (hdata : o.data = .func { docDef name params body scope pm cd doc with defaults := dV, kwdefaults := kV }) (hlim : s.heap.NoLimit) (hcd : s.heap.CodeRec cd name)
    (hbind : BindsTo s { docDef name params body scope pm cd doc with defaults := dV, kwdefaults := kV } args binds)
    (hloc : ∀ x ∈ binds, scope.names.lookup x.1 = some .local)
    (h : ∀ h₁, Fr s.heap s.heap.objs.size h₁ (fun x => binds.reverse.lookup x) →
      wpC (model prog w) (A.deeper (envOf name scope s.heap.objs.size a cd)) (execs body (envOf name scope s.heap.objs.size a cd))
        (fun f s' => R (.ok (.ret (match f with | .ret v => v | _ => .none))) s')
        (fun e s' => wpAny (model prog w) (A.deeper (envOf name scope s.heap.objs.size a cd)) (leaving (envOf name scope s.heap.objs.size a cd) e)
          (fun _ s'' => R (.error e) s'') (fun e' s'' => R (.error e') s'') s')
        { s with heap := h₁, toks := s.toks + binds.length })
    (hco : scope.isCoroutine = false := by rfl) (hgen : scope.isGenerator = false := by rfl) (hk : scope.kind = .function := by rfl)
    (hcell : ∀ x ∈ scope.names, x.2 ≠ .cell := by decide) :
    codeC (model prog w) A (.call (.ref a) args) R s :=
  codeC_call_def hroom ho hdata hlim hcd rfl hbind hcell hloc (fun h₁ hns hkeep => h h₁ ⟨hns, hkeep, Nat.le_refl _⟩) hco hgen hk
theorem CallOKC.use {w : World} {mean : ExcName → Option Value} {mg mb : Str → Option Value} {f : Addr} {k : Nat} {vs : List Value} {news : List (Addr × Obj)} {Post : (Value → List (Addr × Obj) → Prop) → Prop}
    {dp un : Nat} {gd : Option (List Code)} {cn : Str} {cs : Scope} {a : Addr} {ccd : Value} {cl : List (Str × Addr)} {outer : List Env} {A₀ : Around} {base h₀ h : Heap} {L : Addr} {m : Str → Option Value} {gs : Array GenState} {dr : Drawn} {tk : Nat} {os : OsState} {Q E : Value → Shared → Prop}
    (B : Below A₀ base outer h₀) (F : Fr h₀ L h m) (X : (hd.heap_39 w.params).In h₀) (N : News h₀ L h news) (T : Top hd.view_39 (looseW hd.view_39 [Str.ofString "_twin_re_1", Str.ofString "_twin_re_2"]) mean mg mb h₀) (C : CallOKC w mean mg mb f k vs news Post) (hk : cs.kind = .function) (hd : dp + k < recursionLimit) (hu : un + 8 * k + 100 < cLine)
    (ret : Post (fun r news' => ∀ h' tk', Fr h₀ L h' m → News h₀ L h' news' → Q r ⟨h', gs, dr, tk', os⟩)) :
    wpC (model PySem.Challenge.rw_zn0004_01.row.prog w) (ktrTop dp un gd cn cs L a ccd cl outer) (call (.ref f) vs) Q E ⟨h, gs, dr, tk, os⟩ := C _ _ _ _ _ _ _ _ _ _ _ _ _ _ _ _ _ _ _ _ _ B F X N T hk hd hu ret
noncomputable def octs (ns : List Int) : List UInt8 := ns.map fun n => n.toNat.toUInt8
theorem word_signs (t : Tr) : ∀ n ∈ t.word, n = 13 ∨ n = 10 := by
  induction t with
  | leaf => intro n h; right; simpa [Tr.word] using h
  | fork a b iha ihb =>
    intro n h
    simp only [Tr.word, List.mem_cons, List.mem_append] at h
    rcases h with h | h | h
    · exact .inl h
    · exact iha n h
    · exact ihb n h
theorem behind_signs (t : Tr) : ∀ n ∈ t.behind, n = 13 ∨ n = 10 := fun n h => by
  have h1 : n ∈ t.behind.reverse := List.mem_reverse.mpr h
  rw [behind_turned] at h1
  exact word_signs _ n h1
theorem word_in (t : Tr) : ∀ n ∈ t.word, 0 ≤ n ∧ n < 256 := fun n h => by rcases word_signs t n h with h | h <;> omega
theorem behind_in (t : Tr) : ∀ n ∈ t.behind, 0 ≤ n ∧ n < 256 := fun n h => by rcases behind_signs t n h with h | h <;> omega
theorem behind_length (t : Tr) : t.behind.length = 2 * t.forks + 1 := by
  have h := congrArg List.length (behind_turned t)
  rw [List.length_reverse, Tr.word_length, Tr.mirror_forks] at h
  exact h
theorem octs_turned (t : Tr) : (octs t.behind).reverse = octs t.mirror.word := by
  unfold octs
  rw [← List.map_reverse, behind_turned]
theorem ne_same {prog : Program} {w : World} {A : Around} {E : Value → Shared → Prop} {s : Shared} {b : Array UInt8} {t u : Tok} {Q : Value → Shared → Prop} (h : Q (.bool false) s) : wpAny (model prog w) A (compareOp .NotEq (.bytes b t) (.bytes b u)) Q E s := by
  refine ne_bytes ?_
  rw [bne_self_eq_false]
  exact h
theorem octs_back {ns : List Int} (h : ∀ n ∈ ns, n = 13 ∨ n = 10) : KBw.bInts (octs ns).toArray = ns := by
  unfold octs KBw.bInts
  rw [List.toList_toArray, List.map_map]
  induction ns with
  | nil => rfl
  | cons a r ih =>
    rw [List.map_cons, ih fun n hn => h n (.tail _ hn)]
    rcases h a (.head _) with rfl | rfl <;> rfl
end

section
open PySem PySem.W PyProof.Rows
set_option maxRecDepth 100000
set_option maxHeartbeats 8000000

/-- the row after j turns: zeros, and behind them the first j octets turned about -/
noncomputable def swp (b : List UInt8) (j : Nat) : Array UInt8 := (List.replicate (b.length - j) 0 ++ (b.take j).reverse).toArray
theorem swp_zero (b : List UInt8) : swp b 0 = Array.replicate b.length 0 := by simp [swp]
theorem swp_all (b : List UInt8) : swp b b.length = b.reverse.toArray := by simp [swp]
theorem swp_size (b : List UInt8) {j : Nat} (h : j ≤ b.length) : (swp b j).size = b.length := by simp [swp]; omega
theorem swp_step (b : List UInt8) {j : Nat} (h : j < b.length) : (swp b j).setIfInBounds (b.length - 1 - j) (b.getD j 0) = swp b (j + 1) := by
  unfold swp
  have e1 : b.length - j = (b.length - (j + 1)) + 1 := by omega
  have e2 : b.length - 1 - j = b.length - (j + 1) := by omega
  have e3 : b.take (j + 1) = b.take j ++ [b.getD j 0] := by
    rw [List.take_add_one, List.getD_eq_getElem?_getD, List.getElem?_eq_getElem h]; rfl
  rw [e1, e2, e3, List.replicate_succ', List.reverse_append]
  apply Array.toList_inj.mp
  simp

theorem loop_rangeC {prog : Program} {w : World} {A : Around} {E : Value → Shared → Prop} {env : Env} {h₀ hp : Heap} {gs : Array GenState} {dr : Drawn} {tk₀ : Nat} {os : OsState} {x : Str} {body : List Stmt} {Q : Flow → Shared → Prop}
    {r : Addr} {a₀ b₀ c₀ : Int} {t₀ u₀ v₀ : Tok} {n : Nat} {m₀ : Str → Option Value} {news : List (Addr × Obj)} (J : Nat → (Str → Option Value) → List (Addr × Obj) → Prop)
    (hh : A.handled = none) (hr : IsRange hp r a₀ b₀ c₀ t₀ u₀ v₀) (hsmall : Builtin.Range.small a₀ b₀ c₀ = true) (hn : Builtin.Range.rangeSize a₀ b₀ c₀ = (n : Int)) (F : Fr h₀ env.locals hp m₀) (N : News h₀ env.locals hp news) (hj : J 0 m₀ news)
    (turn : ∀ i t m₁ nx h tk I oI, i < n → J i m₁ nx → (∀ p ∈ nx, @Ne Nat p.1 I) → Fr h₀ env.locals h (fun y => if y = x then some (.int (a₀ + (i : Nat) * c₀) t) else m₁ y) → News h₀ env.locals h ((I, oI) :: nx) →
      wpAny (model prog w) A (execs body env) (TurnPost h₀ env.locals (J (i + 1)) I oI ⟨h, gs, dr, tk, os⟩ Q) E ⟨h, gs, dr, tk, os⟩)
    (done : ∀ m₁ nx h tk, J n m₁ nx → Fr h₀ env.locals h m₁ → News h₀ env.locals h nx → Q .next ⟨h, gs, dr, tk, os⟩) :
    wpAny (model prog w) A (pyIter (.ref r)) (fun it s₂ => LoopAtV prog w A h₀ env x body Q E it s₂) E ⟨hp, gs, dr, tk₀, os⟩ := by
  refine wpAny_pyIter_range hr hsmall ?_
  refine loop_any J (Walks.range hh hp.objs.size a₀ c₀ n) ?_ ?_ ?_ (fun i h st => ⟨_, st⟩) ?_ (by show IsRangeIter _ _ _ _ _; rw [hn]; simpa using Heap.get?_push_size _ rfl) (F.push _) (fun p hp => ⟨Heap.get?_push_of_some _ (N p hp).1, (N p hp).2⟩) hj ?_ done
  · intro hm
    exact absurd F.ns.lt ((List.mem_singleton.mp hm) ▸ Nat.lt_irrefl _)
  · exact next_is_new F
  · intro p hp' e
    exact absurd (Heap.lt_size (N p hp').1) (e ▸ Nat.lt_irrefl _)
  · intro b hb hne
    exact absurd (List.mem_singleton.mp hb) hne
  · rintro i v m₁ nx h tk oI hi ⟨t, rfl⟩ hJ hne F₁ N₁
    exact turn i t m₁ nx h tk _ oI hi hJ hne F₁ N₁

noncomputable def SwapM (b : List UInt8) (t tw : Tok) (D : Addr) (m : Str → Option Value) : Prop :=
  m (Str.ofString "data") = some (.bytes b.toArray t) ∧ m (Str.ofString "width") = some (.int b.length tw) ∧ m (Str.ofString "swapped_data") = some (.ref D)
noncomputable def SwapJ (b : List UInt8) (t tw : Tok) (D : Addr) (news : List (Addr × Obj)) (f : Nat → Nat) (k : Nat) (m : Str → Option Value) (nx : List (Addr × Obj)) : Prop :=
  SwapM b t tw D m ∧ nx = (D, baObj (swp b (f k))) :: news
noncomputable def SwapI (b : List UInt8) (t tw : Tok) (D : Addr) (iv : Int) (news : List (Addr × Obj)) (I : Addr) (oI : Obj) (k : Nat) (m : Str → Option Value) (nx : List (Addr × Obj)) : Prop :=
  (SwapM b t tw D m ∧ ∃ ti, m (Str.ofString "i") = some (.int iv ti)) ∧ nx = (I, oI) :: (D, baObj (swp b k)) :: news

local macro_rules | `(tactic| walk_at "call type:bytes") => `(tactic| (k_here; (with_reducible show wpAny _ _ (call (Value.type "bytes") [Value.ref _]) _ _ _); (try dsimp only); k_dflt (refine' ba_bytes_at ?zqN ?zqM ?zqZ ?_; (case zqN => k_asm); (case zqM => k_mem); (case zqZ => (rw [swp_size _ (by simp)]; omega)))))
theorem c_swap (w : World) (mean : ExcName → Option Value) (mg mb : Str → Option Value) {news : List (Addr × Obj)} {b : List UInt8} {t tw : Tok} (hlen : b.length ≤ 100) (hpos : 0 < b.length) :
    CallOKC w mean mg mb 90 1 [.bytes b.toArray t, .int b.length tw] news fun k => ∀ t', k (.bytes b.reverse.toArray t') news := by
  k_with_none
  w_top off
  unfold CallOKC
  k_fill
  intro dp un gd cn cs a ccd cl outer A₀ base h₀ h L m gs dr tk os Q E B F X N T hk hd' hu hret
  refine wpC_call ?_
  k_dflt (((refine' codeC_def ?k1 ?k2 ?k3 ?k4 ?k5 ?kA ?kF ?kK ?k6 ?k7 ?k8 ?k9 ?kB ?_ ?c2 ?c3 ?c4 ?c5; (case kA => exact rfl); (case kF => exact rfl); (case kK => assumption); (case k1 => k_asm); (case k2 => k_asm); (case k3 => k_asm); (case k4 => k_asm); (case k5 => k_asm); (case k6 => k_is); (case k7 => k_is); (case k8 => ktr_room); (case k9 => exact BindsTo.of_eq rfl); (case c5 => decide); (case kB => exact locs rfl); (case c2 => exact rfl); (case c3 => exact rfl); (case c4 => exact rfl); k_whole; intro g' L' h' FG' F' N' B' X' T'; (try dsimp only))))
  refine wpC_execs_cons (wpC_Assign_Name (wpC_Call ?_))
  k_steps
  refine wpC_callWith_type ?_
  k_steps
  rename Fr _ _ _ (fun y => _) => lF
  rename News _ _ _ _ => lN
  refine ba_call_at lF lN (by omega) (by rw [List.size_toArray]; omega) ?_
  intro D hD FD ND lD
  (try dsimp only)
  k_steps
  refine wpC_any ?_
  k_with "pyIter ref" => refine stop_of ?_
  k_steps
  unfold Stopped
  rename IsRange _ _ _ _ _ _ _ _ => rg
  rename Fr _ _ _ (fun y => _) => lF
  rename News _ _ _ _ => lN
  dsimp only
  have esz : ((b.toArray.size : Int)).toNat = b.length := by simp
  have esz2 : (b.toArray.size : Int) = b.length := by simp
  rw [esz] at lN
  rw [esz2] at rg
  have hrs : Builtin.Range.rangeSize 0 b.length b.length = ((1 : Nat) : Int) := by
    unfold Builtin.Range.rangeSize
    rw [if_pos (by omega), if_pos (by omega), Int.ediv_eq_zero_of_lt (by omega) (by omega)]; rfl
  have hsm : Builtin.Range.small 0 b.length b.length = true := by
    unfold Builtin.Range.small
    rw [hrs]
    simp only [Builtin.Range.rangeFitsLong, Bool.and_eq_true, Bool.or_eq_true, decide_eq_true_eq, beq_iff_eq]
    refine ⟨⟨⟨⟨by omega, by omega⟩, by omega, by omega⟩, by omega, by omega⟩, .inr ?_⟩
    rw [if_pos (by omega)]
    simp only [Bool.and_eq_true, decide_eq_true_eq]
    omega
  refine loop_rangeC (SwapJ b t tw D news fun k => if k = 0 then 0 else b.length) (by rfl) rg hsm hrs lF lN ?_ ?_ ?_
  · exact ⟨⟨rfl, rfl, rfl⟩, by show _ = (D, baObj (swp b 0)) :: news; rw [swp_zero]⟩
  · intro i ti m₁ nx h tk I oI hi hJ hne F₁ N₁
    obtain ⟨⟨hm1, hm2, hm3⟩, rfl⟩ := hJ
    obtain rfl : i = 0 := by omega
    have e0 : (0 : Int) + ((0 : Nat) : Int) * (b.length : Int) = 0 := by simp
    rw [e0] at F₁
    replace F₁ := fr_kst [(Str.ofString "data", .bytes b.toArray t), (Str.ofString "width", .int b.length tw), (Str.ofString "swapped_data", .ref D)] (by intro p hp; simp only [List.mem_cons, List.not_mem_nil, or_false] at hp; rcases hp with rfl | rfl | rfl <;> assumption) F₁
    k_with "pyIter ref" => refine stop_of ?_
    k_steps
    unfold Stopped
    rename IsRange _ _ _ _ _ _ _ _ => rg2
    rename Fr _ _ _ (fun y => _) => lF2
    rename News _ _ _ _ => lN2
    dsimp only
    refine loop_range (n := b.length) (SwapI b t tw D 0 news I oI) (by rfl) rg2 (small_one (by omega) (by omega) (by omega) (by omega)) ((rangeSize_nat _ _).trans (by simp)) lF2 lN2 ?_ ?_ ?_
    · exact ⟨⟨⟨rfl, rfl, rfl⟩, _, rfl⟩, rfl⟩
    · intro j tj m₂ nx2 h2 tk2 I2 oI2 hj hJ2 hne2 F₂ N₂
      obtain ⟨⟨⟨hn1, hn2, hn3⟩, ti2, hn4⟩, rfl⟩ := hJ2
      replace F₂ := fr_kst [(Str.ofString "data", .bytes b.toArray t), (Str.ofString "width", .int b.length tw), (Str.ofString "swapped_data", .ref D), (Str.ofString "i", .int 0 ti2)] (by intro p hp; simp only [List.mem_cons, List.not_mem_nil, or_false] at hp; rcases hp with rfl | rfl | rfl | rfl <;> assumption) F₂
      k_with "setItem ref int" => refine stop_of ?_
      k_steps
      unfold Stopped
      rename Fr _ _ _ (fun y => _) => lF3
      rename News _ _ _ _ => lN3
      simp only [List.forall_mem_cons] at hne hne2
      have hlN := fun p hp => Nat.ne_of_lt (lD p hp)
      refine ba_set_at (own := [_, _]) lF3 lN3 ?_ hlN (by omega) (by rw [swp_size _ (by omega)]; omega) (by rw [swp_size _ (by omega)]; omega) (by omega) (by have := (b.getD (0 + (0 + (j : Int))).toNat 0).toNat_lt; omega) ?_
      · intro p hp
        simp only [List.mem_cons, List.not_mem_nil, or_false] at hp
        rcases hp with rfl | rfl
        · exact Ne.symm hne2.2.1
        · exact Ne.symm hne.1
      · intro h' F' N'
        have e1 : (0 + (b.length : Int) - 1 - (0 + (j : Int))).toNat = b.length - 1 - j := by omega
        have e2 : (0 + (0 + (j : Int))).toNat = j := by omega
        have e3 : ((b.getD j 0).toNat : Int).toNat.toUInt8 = b.getD j 0 := by rw [Int.toNat_natCast]; exact UInt8.ofNat_toNat
        rw [e1, e2, e3, swp_step b hj] at N'
        dsimp only
        k_steps
        rename Fr _ _ _ _ => kF9
        rename News _ _ _ _ => kN9
        refine TurnPost.next kF9 kN9 ?_ ?_ ⟨⟨⟨rfl, rfl, rfl⟩, _, rfl⟩, rfl⟩
        · intro p hp; exact hp
        · intro p hp
          simp only [List.mem_cons] at hp
          rcases hp with rfl | rfl | hp
          · exact hne2.1
          · exact hne2.2.1
          · exact hne2.2.2 p hp
    · intro m₂ nx2 h2 tk2 hJ2 F₂ N₂
      obtain ⟨⟨⟨hn1, hn2, hn3⟩, ti2, hn4⟩, rfl⟩ := hJ2
      dsimp only
      replace F₂ := fr_kst0 [(Str.ofString "data", .bytes b.toArray t), (Str.ofString "width", .int b.length tw), (Str.ofString "swapped_data", .ref D), (Str.ofString "i", .int 0 ti2)] (by intro p hp; simp only [List.mem_cons, List.not_mem_nil, or_false] at hp; rcases hp with rfl | rfl | rfl | rfl <;> assumption) F₂
      k_steps
      refine TurnPost.next F₂ N₂ ?_ ?_ ⟨⟨rfl, rfl, rfl⟩, rfl⟩
      · intro p hp
        exact hp
      · simp only [List.forall_mem_cons] at hne ⊢
        exact hne
  · intro m₁ nx h tk hJ F₁ N₁
    obtain ⟨⟨hm1, hm2, hm3⟩, rfl⟩ := hJ
    replace F₁ := fr_kst0 [(Str.ofString "swapped_data", .ref D)] (by intro p hp; rcases List.mem_singleton.mp hp with rfl; exact hm3) F₁
    dsimp only
    k_steps
    rename Fr h₀ L _ _ => kF9
    rename News h₀ L _ _ => kN9
    rw [if_neg (by decide), swp_all]
    exact hret _ _ _ kF9 (news_sub kN9 (by intro p hp; exact List.mem_cons_of_mem _ hp))
end

section
open PySem PySem.W PyProof.Rows
set_option maxRecDepth 100000
set_option maxHeartbeats 8000000
local macro_rules | `(tactic| walk_at "my none") => `(tactic| skip)
local macro_rules | `(tactic| walk_at "getMethod ref") => `(tactic| (k_here; (with_reducible show wpAny _ _ (getMethod (Value.ref _) _ _) _ _ _); (try dsimp only); k_dflt (refine' sub_get_at ?zqF ?zqX ?zqA ?_; (case zqF => k_asm); (case zqX => k_asm); (case zqA => first | exact .inl rfl | exact .inr rfl))))
theorem crlf_str : Str.ofString "\r\n" = ⟨([13, 10] : List Nat).toArray⟩ := by decide
theorem dots_str : Str.ofString ".." = ⟨([46, 46] : List Nat).toArray⟩ := by decide
section
variable {prog : Program} {w : World} {A : Around} {E : Value → Shared → Prop} {h₀ hp : Heap} {gs : Array GenState} {dr : Drawn} {tk : Nat} {os : OsState} {L : Addr} {m : Str → Option Value} {news : List (Addr × Obj)} {P : Params}
theorem sub2_at {cs : List Nat} {t tr : Tok} {Q : Value → Shared → Prop} (F : Fr h₀ L hp m) (N : News h₀ L hp news) (X : (hd.heap_39 P).In h₀) (hz : cs.length ≤ 1000)
    (hQ : ∀ h' t' k, Fr h₀ L h' m → News h₀ L h' news → Q (.str ⟨(fixed cs).toArray⟩ t') ⟨h', gs, dr, k, os⟩) :
    wpAny (model prog w) A (call (.builtin "re.Pattern.sub") [.ref 41, .str (Str.ofString "\r\n") tr, .str ⟨cs.toArray⟩ t]) Q E ⟨hp, gs, dr, tk, os⟩ := by
  rw [crlf_str]
  exact sub_call_at F N (pat2 X).1 hz (by decide) (by decide +kernel) (subs_fixed cs hz) hQ
theorem sub1_at {cs : List Nat} {t tr : Tok} {Q : Value → Shared → Prop} (F : Fr h₀ L hp m) (N : News h₀ L hp news) (X : (hd.heap_39 P).In h₀) (hz : cs.length ≤ 1000)
    (hQ : ∀ h' t' k, Fr h₀ L h' m → News h₀ L h' news → Q (.str ⟨(dotted true cs).toArray⟩ t') ⟨h', gs, dr, k, os⟩) :
    wpAny (model prog w) A (call (.builtin "re.Pattern.sub") [.ref 36, .str (Str.ofString "..") tr, .str ⟨cs.toArray⟩ t]) Q E ⟨hp, gs, dr, tk, os⟩ := by
  rw [dots_str]
  exact sub_call_at F N (pat1 X).1 hz (by decide) (by decide +kernel) (subs_dotted cs hz) hQ
end
local macro_rules | `(tactic| walk_at "call builtin:re.Pattern.sub") => `(tactic| (k_here; (try dsimp only); k_dflt (first
  | (refine' sub2_at ?zqF ?zqN ?zqX ?zqZ ?_; (case zqF => k_asm); (case zqN => k_asm); (case zqX => k_asm); (case zqZ => omega))
  | (refine' sub1_at ?zqF ?zqN ?zqX ?zqZ ?_; (case zqF => k_asm); (case zqN => k_asm); (case zqX => k_asm); (case zqZ => omega))); intro h' t' k' F' N'))
theorem c_fix (w : World) (mean : ExcName → Option Value) (mg mb : Str → Option Value) {news : List (Addr × Obj)} {cs : List Nat} {t : Tok} (hlen : cs.length ≤ 1000) :
    CallOK w mean mg mb 55 1 [.str ⟨cs.toArray⟩ t] news fun k => ∀ t', k (.str ⟨(fixed cs).toArray⟩ t') news := by
  k_with_none
  w_top off
  unfold CallOK
  k_fill
  intro dp un gd cn cs' a ccd cl outer A₀ base h₀ h L m gs dr tk os Q E B F X N T hk hd' hu hret
  refine wpAny_call ?_
  k_dflt ktr_enter
  k_steps
  rename Fr h₀ L _ _ => kF9
  rename News h₀ L _ _ => kN9
  exact hret _ _ _ kF9 kN9
theorem c_quoted (w : World) (mean : ExcName → Option Value) (mg mb : Str → Option Value) {news : List (Addr × Obj)} {cs : List Nat} {t : Tok} (hlen : cs.length ≤ 500) :
    CallOK w mean mg mb 48 1 [.str ⟨cs.toArray⟩ t] news fun k => ∀ t', k (.str ⟨(dotted true (fixed cs)).toArray⟩ t') news := by
  k_with_none
  w_top off
  unfold CallOK
  k_fill
  intro dp un gd cn cs' a ccd cl outer A₀ base h₀ h L m gs dr tk os Q E B F X N T hk hd' hu hret
  have hfl := fixed_length cs
  refine wpAny_call ?_
  k_dflt ktr_enter
  k_steps
  rename Fr h₀ L _ _ => kF9
  rename News h₀ L _ _ => kN9
  exact hret _ _ _ kF9 kN9
end

section
open PySem PySem.W PyProof.Rows
set_option maxRecDepth 100000
set_option maxHeartbeats 8000000
section
variable {prog : Program} {w : World} {A : Around} {E : Value → Shared → Prop} {h₀ hp : Heap} {gs : Array GenState} {dr : Drawn} {tk : Nat} {os : OsState} {L : Addr} {m : Str → Option Value} {news : List (Addr × Obj)}
theorem join_chars_at {D : Addr} {ys : List Value} {cs : List Nat} {t : Tok} {c : Nat} {Q : Value → Shared → Prop} (N : News h₀ L hp news) (hm : (D, listOf ys.toArray c) ∈ news) (hy : StrsAre ys (cs.map fun k => (⟨#[k]⟩ : Str))) (hz : cs.length ≤ 1000)
    (hQ : ∀ t' k, Q (.str ⟨cs.toArray⟩ t') ⟨hp, gs, dr, k, os⟩) : wpAny (model prog w) A (call (.builtin "str.join") [.str (Str.ofString "") t, .ref D]) Q E ⟨hp, gs, dr, tk, os⟩ := by
  have e0 : Str.ofString "" = ⟨#[]⟩ := by decide
  have e1 : ∀ zs : List Str, Txt.join ⟨#[]⟩ zs = Str.join ⟨#[]⟩ zs := fun zs => by first | rfl | exact StrLaws.glued_eq_join _ _
  rw [e0]
  have hs : ∀ l : List Nat, ((l.map fun k => (⟨#[k]⟩ : Str)).map (·.length)).sum = l.length := by
    intro l
    induction l with
    | nil => rfl
    | cons k l ih => simp only [List.map_cons, List.sum_cons, ih, List.length_cons]; show 1 + l.length = l.length + 1; omega
  refine join_list (s := ⟨hp, gs, dr, tk, os⟩) (News.isList N hm) hy ?_ fun t' k => ?_
  · rw [hs]
    show cs.length + _ * 0 ≤ _
    omega
  · rw [e1, join_ones]
    exact hQ t' k
theorem replace_at {cs : List Nat} {a b : Str} {c d : Nat} {t u v : Tok} {Q : Value → Shared → Prop} (ha : a = ⟨#[c]⟩) (hb : b = ⟨#[d]⟩) (hu : @Ne Nat u 0) (hv : @Ne Nat v 0) (huv : @Ne Nat u v) (hcd : c ≠ d) (hz : cs.length ≤ 1000)
    (hQ : ∀ t' k, Q (.str ⟨(cs.map fun k => if k = c then d else k).toArray⟩ t') ⟨hp, gs, dr, k, os⟩) : wpAny (model prog w) A (call (.builtin "str.replace") [.str ⟨cs.toArray⟩ t, .str a u, .str b v]) Q E ⟨hp, gs, dr, tk, os⟩ := by
  subst ha; subst hb
  refine SC.replace (s := ⟨hp, gs, dr, tk, os⟩) hu hv huv ?_ ?_ fun t' k => ?_
  · rw [beq_eq_false_iff_ne]
    intro e
    injection e with e
    exact hcd (by simpa using e)
  · have e1 : Str.length ⟨cs.toArray⟩ = cs.length := List.size_toArray
    have e2 : Str.length ⟨#[d]⟩ = 1 := rfl
    rw [e1, e2]
    omega
  · rw [rep_one]
    exact hQ t' k
end
local macro_rules | `(tactic| walk_at "call builtin:str.join") => `(tactic| (k_here; (with_reducible show wpAny _ _ (call (Value.builtin "str.join") [Value.str _ _, Value.ref _]) _ _ _); (try dsimp only); (refine toks_later ?_); k_dflt (refine' join_chars_at ?zqN ?zqM ?zqY ?zqZ ?_; (case zqN => k_asm); (case zqM => first | k_mem | exact List.Mem.head _); (case zqY => assumption); (case zqZ => first | omega | (simp only [List.length_map]; omega))); intro t' k' htk'; (try dsimp only at htk')))
local macro_rules | `(tactic| walk_at "call builtin:str.replace") => `(tactic| (k_here; (try dsimp only); (refine toks_later ?_); k_dflt (refine' replace_at ?zqA ?zqB ?zqU ?zqV ?zqW ?zqC ?zqZ ?_; (case zqA => first | exact (by decide : Str.ofString "\r" = ⟨#[13]⟩) | exact (by decide : Str.ofString "\n" = ⟨#[10]⟩)); (case zqB => first | exact (by decide : Str.ofString " " = ⟨#[32]⟩) | exact (by decide : Str.ofString "o" = ⟨#[111]⟩) | exact (by decide : Str.ofString "." = ⟨#[46]⟩)); (case zqU => first | omega | (dsimp only at *; omega)); (case zqV => first | omega | (dsimp only at *; omega)); (case zqW => first | omega | (dsimp only at *; omega)); (case zqC => decide); (case zqZ => first | omega | (simp only [List.length_map]; omega) | (simp only [textL, List.length_map]; omega))); intro t' k' htk'; (try dsimp only at htk')))
theorem news_drop4 {h₀ h : Heap} {L : Addr} {a b c d x : Addr × Obj} {rest : List (Addr × Obj)} (N : News h₀ L h (a :: b :: c :: d :: x :: rest)) : News h₀ L h (a :: b :: c :: d :: rest) := fun p hp => by
  rcases List.mem_cons.mp hp with rfl | hp
  · exact N _ (.head _)
  · rcases List.mem_cons.mp hp with rfl | hp
    · exact N _ (.tail _ (.head _))
    · rcases List.mem_cons.mp hp with rfl | hp
      · exact N _ (.tail _ (.tail _ (.head _)))
      · rcases List.mem_cons.mp hp with rfl | hp
        · exact N _ (.tail _ (.tail _ (.tail _ (.head _))))
        · exact N _ (.tail _ (.tail _ (.tail _ (.tail _ (.tail _ hp)))))
theorem codes_range {t : Tr} {k : Int} (h : k ∈ t.word) : k = 13 ∨ k = 10 := by
  induction t with
  | leaf => right; simpa [Tr.word] using h
  | fork a b iha ihb =>
    simp only [Tr.word, List.mem_cons, List.mem_append] at h
    rcases h with h | h | h
    · exact .inl h
    · exact iha h
    · exact ihb h

noncomputable def SeenJ (w : World) (t : Tr) (rowv : Value) {cw : Addr} {news : List (Addr × Obj)} (_ : LtAll cw news) (i : Nat) (m : Str → Option Value) (nx : List (Addr × Obj)) : Prop :=
  ∃ (e D : Addr) (o oc : Obj) (t1 t2 t3 t4 tt th tb : Tok) (n1 : Nat), m (Str.ofString "row") = some rowv ∧ m (Str.ofString "text") = some (.str ⟨(textL t).toArray⟩ tt) ∧ m (Str.ofString "height") = some (.int (entAt t.word i).h th) ∧ m (Str.ofString "entry") = some (.ref e) ∧
    DictAt w o (entAt t.word i).dict ∧ (D == sysModules) = false ∧ oc.data = .cell (some (.str ⟨(blankL t).toArray⟩ tb)) ∧ @LT.lt Nat _ (cw + 1) D ∧ @LT.lt Nat _ D e ∧
    nx = (e, entObj (entAt t.word i).a (entAt t.word i).b (entAt t.word i).c (entAt t.word i).d t1 t2 t3 t4 D n1) :: (D, o) :: (cw + 1, oc) :: news
local macro_rules | `(tactic| walk_at "call ref") => `(tactic| (k_here; (with_reducible show wpAny _ _ (call (Value.ref 69) _) _ _ _); (try dsimp only); k_dflt (walk_at "my call"); (case zqC => first | exact c_std_fork _ _ _ _ (by k_mem) (by omega) (by omega) | exact c_std_leaf _ _ _ _ (by k_mem) (by omega) (by omega)); (walk_at "my call end"); intro t' h' tk' F' N'))
local macro_rules | `(tactic| walk_at "call ref") => `(tactic| (k_here; (with_reducible show wpAny _ _ (call (Value.ref 76) _) _ _ _); (try dsimp only); k_dflt (walk_at "my call"); (case zqC => exact c_stats _ _ _ _ (by k_mem) (by k_mem) (by k_mem) (by k_mem) (by assumption) (by assumption) (by assumption) ⟨_, by assumption, .cons .nil⟩ (by omega)); (walk_at "my call end"); intro p' D' o' v1' v2' v3' v4' l1' l2' lo' hd' h' tk' F' N'))
local macro_rules | `(tactic| walk_at "eval Dict cons cons") => `(tactic| (k_here; k_dflt (refine' kdn_eval (knd := PySem.strKind _ _) ?zqF ?zqN ?zqB ?zqA ?zqL ?zqE ?zqM ?_; (case zqF => k_asm); (case zqN => k_asm); (case zqB => exact Top.nolimit (by k_asm)); (case zqA => rfl); (case zqL => rfl); (case zqE => exact List.cons_ne_nil _ _); (case zqM => exact Nat.le_of_ble_eq_true rfl)); intro d' h' o' F' N' l1 lo' hd'; (try k_lt l1)))
local macro_rules | `(tactic| walk_at "eval Dict") => `(tactic| (k_here; (with_reducible show wpAny _ _ (eval (Expr.Dict (_ :: _) _ _) _) _ _ _); walk_at "eval Dict cons cons"))
local macro_rules | `(tactic| walk_at "KdnMade") => `(tactic| (k_here; k_dflt (refine' kdn_made_str ?zqF ?zqN ?zqU ?zqD ?zqK ?zqM ?_; (case zqF => k_asm); (case zqN => k_asm); (case zqU => k_updF); (case zqD => k_asm); (case zqK => rfl); (case zqM => exact of_decide_eq_true (by first | rfl | kernel_rfl!))); intro h' o' F' N' hd'; (try dsimp only at N')))
theorem TurnPost.next2 {h₀ h' : Heap} {L : Addr} {Jn : (Str → Option Value) → List (Addr × Obj) → Prop} {I : Addr} {oI : Obj} {h : Heap} {gs : Array GenState} {dr : Drawn} {tk tk' : Nat} {os : OsState} {Q : Flow → Shared → Prop} {m' : Str → Option Value} {x y : Addr × Obj} {rest tail : List (Addr × Obj)}
    (tl : List (Addr × Obj)) (et : tail = tl) (F : Fr h₀ L h' m') (N : News h₀ L h' (x :: y :: rest)) (hs : ∀ p ∈ (I, oI) :: tl, p ∈ rest) (ho : ∀ p ∈ x :: y :: tl, @Ne Nat p.1 I) (hJ : Jn m' (x :: y :: tl)) : TurnPost h₀ L Jn I oI ⟨h, gs, dr, tk, os⟩ Q .next ⟨h', gs, dr, tk', os⟩ :=
  TurnPost.next F N (fun p hp => by
    rcases List.mem_cons.mp hp with rfl | hp
    · exact .tail _ (.tail _ (hs _ (.head _)))
    · rcases List.mem_cons.mp hp with rfl | hp
      · exact .head _
      · rcases List.mem_cons.mp hp with rfl | hp
        · exact .tail _ (.head _)
        · exact .tail _ (.tail _ (hs _ (.tail _ hp)))) ho hJ
theorem TurnPost.next3 {h₀ h' : Heap} {L : Addr} {Jn : (Str → Option Value) → List (Addr × Obj) → Prop} {I : Addr} {oI : Obj} {h : Heap} {gs : Array GenState} {dr : Drawn} {tk tk' : Nat} {os : OsState} {Q : Flow → Shared → Prop} {m' : Str → Option Value} {x y : Addr × Obj} {rest news : List (Addr × Obj)} {cw : Addr} (_ : LtAll cw news) (oc : Obj)
    (F : Fr h₀ L h' m') (N : News h₀ L h' (x :: y :: rest)) (hs : ∀ p ∈ (I, oI) :: (cw + 1, oc) :: news, p ∈ rest) (ho : ∀ p ∈ x :: y :: (cw + 1, oc) :: news, @Ne Nat p.1 I) (hJ : Jn m' (x :: y :: (cw + 1, oc) :: news)) : TurnPost h₀ L Jn I oI ⟨h, gs, dr, tk, os⟩ Q .next ⟨h', gs, dr, tk', os⟩ :=
  TurnPost.next2 _ rfl (tail := (cw + 1, oc) :: news) F N hs ho hJ
local macro_rules | `(tactic| walk_at "call builtin:len") => `(tactic| (k_here; (with_reducible show wpAny _ _ (call (Value.builtin "len") [_]) _ _ _); (try dsimp only); k_dflt (refine' row_len ?zqR ?zqN ?zqZ ?_; (case zqN => k_asm); (case zqR => exact RowIs.mono (by assumption) (by intro p hp; (repeat (first | exact hp | apply List.mem_cons_of_mem)))); (case zqZ => omega))))
local macro_rules | `(tactic| walk_at "call ref") => `(tactic| (k_here; (with_reducible show wpAny _ _ (call (Value.ref 62) _) _ _ _); (try dsimp only); k_dflt (walk_at "my call"); (case zqC => exact c_strip _ _ _ _ (by omega) (by rw [blankL_length]; omega) (lead_lt _) (last_not _)); (walk_at "my call end"); intro t' h' tk' F' N'))
local macro_rules | `(tactic| walk_at "call ref") => `(tactic| (k_here; (with_reducible show wpAny _ _ (call (Value.ref 55) _) _ _ _); (try dsimp only); (refine toks_later ?_); k_dflt (walk_at "my call"); (case zqC => exact c_fix _ _ _ _ (by first | omega | (simp only [textL, List.length_map]; omega))); (walk_at "my call end"); intro t' h' tk' F' N' htk'; (try dsimp only at htk')))
local macro_rules | `(tactic| walk_at "call ref") => `(tactic| (k_here; (with_reducible show wpAny _ _ (call (Value.ref 48) _) _ _ _); (try dsimp only); k_dflt (walk_at "my call"); (case zqC => exact c_quoted _ _ _ _ (by first | omega | (simp only [textL, List.length_map]; omega))); (walk_at "my call end"); intro t' h' tk' F' N'))
theorem c_seen (w : World) (mean : ExcName → Option Value) (mg mb : Str → Option Value) (t : Tr) (ht : t.forks ≤ 7) {news : List (Addr × Obj)} {rv : Value} (hr : RowIs news rv t.word) :
    CallOK w mean mg mb 135 3 [rv] news fun k => ∀ p B e D o t1 t2 u1 u2 u3 u4 vs n n1 n2, StrsAre vs ((seenRes t).bare.map strOf) → (D == sysModules) = false → DictAt w o (seenRes t).dict →
      k (.ref p) ((p, resObj (strOf (seenRes t).text) (strOf (seenRes t).sent) t1 t2 B e n) :: (B, listOf (List.toArray vs) n1) :: (e, entObj (seenRes t).a (seenRes t).b (seenRes t).c (seenRes t).d u1 u2 u3 u4 D n2) :: (D, o) :: news) := by
  k_with_none
  w_top off
  unfold CallOK
  k_fill
  intro dp un gd cn cs' a ccd cl outer A₀ base h₀ h L m gs dr tk os Q E B F X N T hk hd' hu hret
  have hwl := t.word_length
  refine wpAny_call ?_
  k_dflt (((refine' code_defC ?zk1 ?zk2 ?zk3 ?zk4 ?zk5 ?zkA ?zkF ?zkK ?zk6 ?zk7 ?zk8 ?zk9 ?zkB ?zkD ?_ ?zc2 ?zc3 ?zc4; (case zkA => exact rfl); (case zkF => exact rfl); (case zkK => assumption); (case zk1 => k_asm); (case zk2 => k_asm); (case zk3 => k_asm); (case zk4 => k_asm); (case zk5 => k_asm); (case zk6 => k_is); (case zk7 => k_is); (case zk8 => ktr_room); (case zk9 => exact BindsTo.of_eq rfl); (case zkB => exact rfl); (case zkD => decide +kernel); (case zc2 => exact rfl); (case zc3 => exact rfl); (case zc4 => exact rfl); k_whole; intro g' L' h' tk' cells' FG' F' N' Y' B' X' T' l1; (have lA' : LtAll _ _ := l1); k_cells Y'; (try simp only [List.cons_append, List.nil_append] at N'); (try dsimp only); (try k_fold))))
  k_with "eval ListComp" => refine stop_of ?_
  k_steps
  unfold Stopped
  refine toks_later ?_
  k_with_none
  k_with "And" => refine stop_of ?_
  refine row_comp (by k_asm) (by k_asm) (hr.mono (by intro p hp; (repeat (first | exact hp | apply List.mem_cons_of_mem)))) (fun i ys => StrsAre ys (((t.word.map Int.toNat).take i).map fun k => (⟨#[k]⟩ : Str))) (by rfl) (by omega) (by with_unfolding_all rfl) (by decide) (by rfl) (by decide) (by rfl) (by intro _; rfl) ?_
  k_steps
  unfold Stopped
  k_with_none
  refine ⟨rfl, by k_asm, by k_asm, .nil, ?_, ?_⟩
  · intro D9 h9 tk9 ys hys F9 N9 o9
    rw [List.take_of_length_le (by rw [List.length_map]; omega)] at hys
    simp only [LCg.Off1] at o9
    dsimp only
    intro htk9
    (try dsimp only at htk9)
    k_with "execs cons" => refine stop_of ?_
    k_steps
    unfold Stopped
    k_with_none
    k_with "CompSrc" => refine stop_of ?_
    k_with "exec For Name Name cons nil" => refine stop_of ?_
    refine wpAny_execs_cons ?_
    k_steps
    unfold Stopped
    refine toks_later ?_
    k_with_none
    rename Fr _ _ _ (fun y => _) => lF'
    k_here
    (with_unfolding_all refine' For_invVF lF' ?k1 ?k2 ?_; (case k1 => exact rfl); (case k2 => exact rfl); k_whole)
    k_with "pyIter" => refine stop_of ?_
    k_steps
    unfold Stopped
    rename Fr _ _ _ (fun y => _) => lF
    rename News _ _ _ _ => lN
    rename LtAll _ news => lA
    rename Obj.IsDictOf (PySem.strKind _ _) _ [] => hsD
    (try dsimp only)
    replace lN := news_sub lN (news' := _ :: _ :: _ :: news) (by intro p hp; simp only [List.mem_cons] at hp ⊢; rcases hp with hp | hp | hp | hp; exact .inl hp; exact .inr (.inl hp); exact .inr (.inr (.inr (.inl hp))); exact .inr (.inr (.inr (.inr hp))))
    refine loop_row hr (SeenJ w t rv lA) (by rfl) ?_ lF lN ?_ ?_ ?_
    · intro i m nx hJ
      obtain ⟨e, D, o, oc, t1, t2, t3, t4, tt, th, tb, n1, j1, j2, j3, j4, j5, j6, j7, j8, j9, rfl⟩ := hJ
      intro p hp
      exact .tail _ (.tail _ (.tail _ hp))
    · exact ⟨_, _, _, _, _, _, _, _, _, _, _, _, rfl, rfl, rfl, rfl, ⟨[], hsD, .nil⟩, by assumption, by assumption, (by first | exact And.left (And.right (by assumption)) | omega), (by first | exact And.left (by assumption) | omega), rfl⟩
    · intro i k2 t2' m₁ nx h2 tk2 I oI hi2 hn2 hJ hne F₁ N₁
      obtain ⟨e, D, o, oc, t1, t2, t3, t4, tt, th, tb, n1, j1, j2, j3, j4, j5, j6, j7, j8, j9, rfl⟩ := hJ
      have hh := height_ok t (i := i) (by omega)
      have hdl := entAt_dict t.word i (by omega)
      replace F₁ := fr_kst [(Str.ofString "row", rv), (Str.ofString "text", .str ⟨(textL t).toArray⟩ tt), (Str.ofString "height", .int (entAt t.word i).h th), (Str.ofString "entry", .ref e)] (by intro p hp; simp only [List.mem_cons, List.not_mem_nil, or_false] at hp; rcases hp with rfl | rfl | rfl | rfl <;> assumption) F₁
      rcases codes_range (List.mem_of_getElem? hn2) with rfl | rfl
      · k_with_none
        k_steps
        rename Fr _ _ _ _ => kF9
        rename News _ _ _ _ => kN9
        rename DictAt w _ (kdpPut _ _ _) => hdD
        rename (∀ q ∈ _ :: _, _ < _) => lD
        rename (_ < _) => l2
        have es := entAt_succ hn2
        have hID := lD (I, oI) (by repeat (first | exact List.mem_cons_self | apply List.mem_cons_of_mem))
        have hcD := lD (_ + 1, oc) (by repeat (first | exact List.mem_cons_self | apply List.mem_cons_of_mem))
        dsimp only at hID hcD
        refine' TurnPost.next3 lA oc kF9 kN9 ?zs ?zo ?zJ
        case zJ =>
          unfold SeenJ
          rw [es]
          exact ⟨_, _, _, oc, _, _, _, _, tt, _, tb, _, rfl, rfl, rfl, rfl, hdD, by assumption, j7, hcD, l2, rfl⟩
        case zs =>
          intro p hp
          simp only [List.mem_cons] at hp ⊢
          rcases hp with hq | hq | hq <;> simp only [hq, true_or, or_true]
        case zo =>
          simp only [List.forall_mem_cons] at hne ⊢
          refine ⟨?_, ?_, hne.2.2⟩
          · (intro hx; have hx2 : @Eq Nat _ _ := hx; have hI2 : @LT.lt Nat _ _ _ := hID; have l3 : @LT.lt Nat _ _ _ := l2; omega)
          · (intro hx; have hx2 : @Eq Nat _ _ := hx; have hI2 : @LT.lt Nat _ _ _ := hID; have l3 : @LT.lt Nat _ _ _ := l2; omega)
      · k_with_none
        k_steps
        rename Fr _ _ _ _ => kF9
        rename News _ _ _ _ => kN9
        rename DictAt w _ (kdpPut _ _ _) => hdD
        rename (∀ q ∈ _ :: _, _ < _) => lD
        rename (_ < _) => l2
        have es := entAt_succ hn2
        have hID := lD (I, oI) (by repeat (first | exact List.mem_cons_self | apply List.mem_cons_of_mem))
        have hcD := lD (_ + 1, oc) (by repeat (first | exact List.mem_cons_self | apply List.mem_cons_of_mem))
        dsimp only at hID hcD
        refine' TurnPost.next3 lA oc kF9 kN9 ?zs ?zo ?zJ
        case zJ =>
          unfold SeenJ
          rw [es]
          exact ⟨_, _, _, oc, _, _, _, _, tt, _, tb, _, rfl, rfl, rfl, rfl, hdD, by assumption, j7, hcD, l2, rfl⟩
        case zs =>
          intro p hp
          simp only [List.mem_cons] at hp ⊢
          rcases hp with hq | hq | hq <;> simp only [hq, true_or, or_true]
        case zo =>
          simp only [List.forall_mem_cons] at hne ⊢
          refine ⟨?_, ?_, hne.2.2⟩
          · (intro hx; have hx2 : @Eq Nat _ _ := hx; have hI2 : @LT.lt Nat _ _ _ := hID; have l3 : @LT.lt Nat _ _ _ := l2; omega)
          · (intro hx; have hx2 : @Eq Nat _ _ := hx; have hI2 : @LT.lt Nat _ _ _ := hID; have l3 : @LT.lt Nat _ _ _ := l2; omega)
    · intro m₁ nx h2 tk2 hJ F₁ N₁
      obtain ⟨e, D, o, oc, t1, t2, t3, t4, tt, th, tb, n1, j1, j2, j3, j4, j5, j6, j7, j8, j9, rfl⟩ := hJ
      replace F₁ := fr_kst0 [(Str.ofString "row", rv), (Str.ofString "text", .str ⟨(textL t).toArray⟩ tt), (Str.ofString "entry", .ref e)] (by intro p hp; simp only [List.mem_cons, List.not_mem_nil, or_false] at hp; rcases hp with rfl | rfl | rfl <;> assumption) F₁
      dsimp only
      intro htk8
      (try dsimp only at htk8)
      refine wpAny_execs_cons ?_
      refine toks_later ?_
      k_with_none
      k_with "CompSrc" => refine stop_of ?_
      k_steps
      unfold Stopped
      have hdiv : ((t.word.length : Int).fdiv 2) = t.forks := by
        rw [Int.fdiv_eq_ediv_of_nonneg _ (by decide)]; omega
      refine LCg.CompSrc.range (by rfl) (by k_asm) (by k_asm) (by assumption) (small_one (by omega) (by omega) (by omega) (by omega)) (rangeSize_nat _ _) (by rw [sizeLine_eq]; omega) ?_
      intro g9
      refine comp_ind (fun i ys => StrsAre ys (((List.range i).map fun am => (blankL t).drop (min am (lead (blankL t)))).map strOf)) trivial .nil ?_ ?_
      · intro ys hys
        unfold LCg.FinA
        intro D9 h9 tk9 F9 N9 o9
        simp only [LCg.Off1] at o9
        dsimp only
        intro htk7
        (try dsimp only at htk7)
        k_steps
        rename Fr h₀ L _ _ => kF9
        rename News h₀ L _ _ => kN9
        have en : ((t.word.length : Int).fdiv 2 + 1 - 0).toNat = t.forks + 1 := by omega
        rw [en] at hys
        exact hret _ D9 e D o _ _ _ _ _ _ ys _ _ _ hys j6 j5 _ _ kF9 (news_drop4 kN9)
      · intro i v ys I oI C oC D₂ m₂ h2 tk2 E2 hi2 hP hys hns hx2 F2 N2
        obtain ⟨t2, rfl⟩ := hP
        k_steps
        · k_asm
        · k_asm
        · have e0 : (0 + (i : Int)).toNat = i := by omega
          rw [e0, List.range_succ, List.map_append, List.map_append]
          exact strs_snoc hys _ _
  · intro i k tk7 ys I oI C oC D m₂ h2 tk2 E2 hi2 hn2 hys hns hx2 F2 N2
    have hc := codes_range (List.mem_of_getElem? hn2)
    have hb0 : 0 ≤ k := by omega
    have hb1 : k ≤ 1114111 := by omega
    k_steps
    · exact F2
    · exact N2
    · have e1 : (t.word.map Int.toNat).take (i + 1) = (t.word.map Int.toNat).take i ++ [k.toNat] := by
        rw [List.take_add_one, List.getElem?_map, hn2]; rfl
      rw [e1, List.map_append]
      exact strs_snoc hys _ _
end

section
open PySem PySem.W PyProof.Rows
set_option maxRecDepth 100000
theorem str_ext {x y : Str} (h : x.cps.toList = y.cps.toList) : x = y := by
  obtain ⟨⟨a⟩⟩ := x
  obtain ⟨⟨b⟩⟩ := y
  have : a = b := h
  rw [this]
theorem join_flat : ∀ xs : List (List Nat), Str.join ⟨#[]⟩ (xs.map strOf) = strOf xs.flatten
  | [] => rfl
  | [a] => by
    show strOf a = _
    simp
  | a :: b :: r => by
    have ih := join_flat (b :: r)
    refine str_ext ?_
    show (strOf a ++ ⟨#[]⟩ ++ Str.join ⟨#[]⟩ ((b :: r).map strOf)).cps.toList = _
    rw [ih]
    simp only [Str.cps_append, Array.toList_append]
    simp [strOf]
section
variable {prog : Program} {w : World} {A : Around} {E : Value → Shared → Prop} {h₀ hp : Heap} {gs : Array GenState} {dr : Drawn} {tk : Nat} {os : OsState} {L : Addr} {m : Str → Option Value} {news : List (Addr × Obj)}
theorem join_parts_at {D : Addr} {ys : List Value} {xs : List (List Nat)} {t : Tok} {c : Nat} {Q : Value → Shared → Prop} (N : News h₀ L hp news) (hm : (D, listOf ys.toArray c) ∈ news) (hy : StrsAre ys (xs.map strOf)) (hz : xs.length ≤ 1000) (hz2 : ∀ x ∈ xs, x.length ≤ 2)
    (hQ : ∀ t' k, Q (.str (strOf xs.flatten) t') ⟨hp, gs, dr, k, os⟩) : wpAny (model prog w) A (call (.builtin "str.join") [.str (Str.ofString "") t, .ref D]) Q E ⟨hp, gs, dr, tk, os⟩ := by
  have e0 : Str.ofString "" = ⟨#[]⟩ := by decide
  have e1 : ∀ zs : List Str, Txt.join ⟨#[]⟩ zs = Str.join ⟨#[]⟩ zs := fun zs => by first | rfl | exact StrLaws.glued_eq_join _ _
  rw [e0]
  have hs : ∀ l : List (List Nat), (∀ x ∈ l, x.length ≤ 2) → ((l.map strOf).map (·.length)).sum ≤ 2 * l.length := by
    intro l
    induction l with
    | nil => intro _; exact Nat.le_refl _
    | cons k l ih =>
      intro h
      have h1 := h k (.head _)
      have h2 := ih fun x hx => h x (.tail _ hx)
      simp only [List.map_cons, List.sum_cons, List.length_cons]
      have : Str.length (strOf k) = k.length := List.size_toArray
      rw [this]
      omega
  refine join_list (s := ⟨hp, gs, dr, tk, os⟩) (News.isList N hm) hy ?_ fun t' k => ?_
  · have h1 := hs xs hz2
    show _ + _ * 0 ≤ _
    omega
  · rw [e1, join_flat]
    exact hQ t' k
end
theorem piece_len (th : Th) : th.piece.length ≤ 2 := by
  unfold Th.piece
  split
  · exact Nat.le_refl _
  · split
    · exact Nat.le_succ 1
    · exact Nat.le_refl _
theorem pieces_len (ths : List Th) : ∀ x ∈ ths.map Th.piece, x.length ≤ 2 := fun x hx => by
  obtain ⟨th, _, rfl⟩ := List.mem_map.mp hx
  exact piece_len th
theorem mul_crlfs : ∀ n : Fin 21, Txt.mul (Str.ofString "\r\n") (n.val : Int) = strOf (crlfs n.val) := by decide +kernel
theorem mul_crlf {n : Nat} (h : n ≤ 20) : Txt.mul (Str.ofString "\r\n") (n : Int) = strOf (crlfs n) := mul_crlfs ⟨n, by omega⟩
theorem news_pick {h₀ h : Heap} {L : Addr} {p e x y b d c1 c2 : Addr × Obj} {rest : List (Addr × Obj)} (N : News h₀ L h (p :: e :: x :: b :: y :: d :: c1 :: c2 :: rest)) : News h₀ L h (p :: b :: e :: d :: rest) := fun q hq => N q (by
  simp only [List.mem_cons] at hq ⊢
  rcases hq with hq | hq | hq | hq | hq <;> simp only [hq, true_or, or_true])
theorem stored_len (kvs : List (Str × Value)) (k : Str) (v : Value) : (stored kvs k v).length ≤ kvs.length + 1 := by
  unfold stored
  split
  · rw [List.length_map]; omega
  · rw [List.length_append]; simp
theorem puts_len (ps : List (Str × Int)) : ∀ c, (puts ps c).length ≤ c.length + ps.length := by
  induction ps with
  | nil => intro c; exact Nat.le_refl _
  | cons a r ih =>
    intro c
    have h1 := ih (kdpPut c a.1 a.2)
    have h2 := kdpPut_len c a.1 a.2
    have e : puts (a :: r) c = puts r (kdpPut c a.1 a.2) := rfl
    rw [e, List.length_cons]
    omega
theorem toldPairs_len (H hs : List Int) : (toldPairs H hs).length = 2 * hs.length := by
  induction hs with
  | nil => rfl
  | cons a r ih =>
    have e : toldPairs H (a :: r) = (stdName true a, ((H.count a : Nat) : Int)) :: (stdName false (a + 1), ((H.count a : Nat) : Int)) :: toldPairs H r := rfl
    rw [e, List.length_cons, List.length_cons, List.length_cons, ih]
    omega
noncomputable def toldAt (H : List Int) (i : Nat) : List (Str × Int) := puts (toldPairs H (H.take i)) [(stdName false 0, 1)]
theorem toldAt_len (H : List Int) (i : Nat) : (toldAt H i).length ≤ 2 * H.length + 1 := by
  have h1 := puts_len (toldPairs H (H.take i)) [(stdName false 0, 1)]
  rw [toldPairs_len, List.length_take] at h1
  have e : [(stdName false 0, (1 : Int))].length = 1 := rfl
  rw [e] at h1
  unfold toldAt
  omega
theorem toldAt_succ {H : List Int} {i : Nat} {k : Int} (h : H[i]? = some k) : toldAt H (i + 1) = kdpPut (kdpPut (toldAt H i) (stdName true k) (H.count k : Nat)) (stdName false (k + 1)) (H.count k : Nat) := by
  unfold toldAt
  rw [List.take_add_one, h]
  unfold toldPairs puts
  rw [List.flatMap_append, List.foldl_append]
  rfl
theorem toldAt_all (H : List Int) : toldAt H H.length = toldDict H H := by
  unfold toldAt toldDict
  rw [List.take_length]
theorem fork_names : ∀ h : Fin 12, h ≠ 0 → Str.ofString "~:" ++ Str.ofString (toString (h.val : Int)) ++ Str.ofString "(<fork>)" = stdName true (h.val : Int) := by decide +kernel
theorem leaf_names : ∀ h : Fin 12, h ≠ 0 → Str.ofString "~:" ++ Str.ofString (toString (h.val : Int)) ++ Str.ofString "(leaf)" = stdName false (h.val : Int) := by decide +kernel
theorem fork_name {h : Int} (h0 : 0 < h) (h1 : h < 12) : Str.ofString "~:" ++ Str.ofString (toString h) ++ Str.ofString "(<fork>)" = stdName true h := by
  have := fork_names ⟨h.toNat, by omega⟩ (by intro e; have := congrArg Fin.val e; have e2 : h.toNat = 0 := this; omega)
  have e : ((h.toNat : Nat) : Int) = h := Int.toNat_of_nonneg (by omega)
  dsimp only at this
  rw [e] at this
  exact this
theorem leaf_name {h : Int} (h0 : 0 < h) (h1 : h < 12) : Str.ofString "~:" ++ Str.ofString (toString h) ++ Str.ofString "(leaf)" = stdName false h := by
  have := leaf_names ⟨h.toNat, by omega⟩ (by intro e; have := congrArg Fin.val e; have e2 : h.toNat = 0 := this; omega)
  have e : ((h.toNat : Nat) : Int) = h := Int.toNat_of_nonneg (by omega)
  dsimp only at this
  rw [e] at this
  exact this
theorem fork_zero : Str.ofString "{fork}" = stdName true 0 := by decide +kernel
theorem leaf_zero : Str.ofString "leaf" = stdName false 0 := by decide +kernel
theorem drop_from {cs : List Nat} {i : Int} (h0 : 0 ≤ i) (h1 : i ≤ cs.length) : Txt.slice ⟨cs.toArray⟩ (some i) none = strOf (cs.drop i.toNat) := by
  have h := slice_closes_from (x := ⟨cs.toArray⟩) (i := i) ⟨h0, by simpa using h1⟩
  rw [beq_iff_eq] at h
  rw [h]
  refine str_ext ?_
  show (cs.toArray.toList.drop i.toNat).take ((cs.toArray.toList.length : Int) - i).toNat = cs.drop i.toNat
  simp only [List.toList_toArray]
  rw [List.take_of_length_le]
  rw [List.length_drop]
  omega
section
variable {prog : Program} {w : World} {A : Around} {E : Value → Shared → Prop} {h₀ hp : Heap} {gs : Array GenState} {dr : Drawn} {tk : Nat} {os : OsState} {L : Addr} {m : Str → Option Value} {news : List (Addr × Obj)}
/-- an item of a thing -/
theorem th_get_at {value slice : PySem.Expr} {a : Addr} {th : Th} {t1 t2 : Tok} {n : Nat} {k : Int} {u : Tok} {j : Nat} {x : Value} {Q : Value → Shared → Prop} (N : News h₀ L hp news) (hm : (a, thObj th t1 t2 n) ∈ news) (hlo : -(2 ^ 63) ≤ k) (hhi : k < 2 ^ 63) (hj : seqIndex? k 4 = some j)
    (hx : [Value.bool th.isFork, .int th.fi t1, .int th.se t2, .bool th.isFirst][j]? = some x) (h : Q x ⟨hp, gs, dr, tk, os⟩)
    (hs : subscripted slice false (.ref a) (.int k u) = operate [.ref a, .int k u] (getItem (.ref a) (.int k u))) :
    wpAny (model prog w) A (subscriptTail value slice (.ref a) (.int k u)) Q E ⟨hp, gs, dr, tk, os⟩ :=
  item_tupleT (l := [Value.bool th.isFork, .int th.fi t1, .int th.se t2, .bool th.isFirst]) ⟨_, (N _ hm).1, rfl, n, rfl⟩ hlo hhi hj hx h hs
theorem slice_from_at {value slice : PySem.Expr} {cs : List Nat} {i : Int} {ui t : Tok} {Q : Value → Shared → Prop} (hF : Fr h₀ L hp m) (hN : News h₀ L hp news) (h0 : 0 ≤ i) (h1 : i ≤ cs.length) (hz : cs.length ≤ 1000)
    (h : ∀ h' t' k, Fr h₀ L h' m → News h₀ L h' news → Q (.str (strOf (cs.drop i.toNat)) t') ⟨h', gs, dr, k, os⟩)
    (hs : subscripted slice false (.str ⟨cs.toArray⟩ t) (.ref hp.objs.size) = operate [.ref hp.objs.size, .str ⟨cs.toArray⟩ t] (getItem (.str ⟨cs.toArray⟩ t) (.ref hp.objs.size)))
    (ht : ∀ r, letTemporaryGo value (.str ⟨cs.toArray⟩ t) r = pure ()) :
    wpAny (model prog w) A (subscriptTail value slice (.str ⟨cs.toArray⟩ t) (.ref hp.objs.size)) Q E ⟨hp.push { cls := .type "slice", data := .fields #[.int i ui, .none, .none] }, gs, dr, tk, os⟩ := by
  have hl : Str.length ⟨cs.toArray⟩ = cs.length := List.size_toArray
  refine slice_strN_sn (s := ⟨hp, gs, dr, tk, os⟩) hF hN (fun h' t' k F' N' => ?_) hs ht (by rw [hl, sizeLine_eq]; omega)
  rw [drop_from h0 h1]
  exact h h' t' k F' N'
end
end

section
open PySem PySem.W PyProof.Rows
set_option maxRecDepth 100000
set_option maxHeartbeats 8000000
theorem allLt3 {d a b : Addr} {oa ob : Obj} {news : List (Addr × Obj)} (h : a < d ∧ b < d ∧ AllLt d news) : ∀ p ∈ (a, oa) :: (b, ob) :: news, p.1 ≠ d := fun p hp => by
  rcases List.mem_cons.mp hp with rfl | hp
  · exact Nat.ne_of_lt h.1
  · rcases List.mem_cons.mp hp with rfl | hp
    · exact Nat.ne_of_lt h.2.1
    · exact Nat.ne_of_lt (allLt_mem h.2.2 p hp)
theorem th_item {news : List (Addr × Obj)} {us : List Value} {ths : List Th} (h : ThAre news us ths) : ∀ {i : Nat} {v : Value}, us.toArray[i]? = some v → ∃ a th t1 t2 n, v = .ref a ∧ ths[i]? = some th ∧ (a, thObj th t1 t2 n) ∈ news := by
  induction h with
  | nil => intro i v hv; simp at hv
  | @cons a th t1 t2 n vs ths hm _ ih =>
    intro i v hv
    cases i with
    | zero => exact ⟨a, th, t1, t2, n, by simpa using hv.symm, rfl, hm⟩
    | succ i =>
      obtain ⟨a', th', t1', t2', n', e1, e2, e3⟩ := ih (i := i) (v := v) (by simpa using hv)
      exact ⟨a', th', t1', t2', n', e1, by simpa using e2, e3⟩
local macro_rules | `(tactic| walk_at "call builtin:str.join") => `(tactic| (k_here; (with_reducible show wpAny _ _ (call (Value.builtin "str.join") [Value.str _ _, Value.ref _]) _ _ _); (try dsimp only); k_dflt (first | (refine' join_chars_at ?zqN ?zqM ?zqY ?zqZ ?_; (case zqN => k_asm); (case zqM => first | k_mem | exact List.Mem.head _); (case zqY => assumption); (case zqZ => (simp only [List.length_map]; omega))) | (refine' join_parts_at ?zqN ?zqM ?zqY ?zqZ ?zqW ?_; (case zqN => k_asm); (case zqM => first | k_mem | exact List.Mem.head _); (case zqY => assumption); (case zqZ => (simp only [List.length_map]; omega)); (case zqW => exact pieces_len _))); intro t' k'))
local macro_rules | `(tactic| walk_at "subscriptTail Name Slice str ref") => `(tactic| (k_here; (try dsimp only); k_dflt (refine' slice_from_at ?zqF ?zqN ?zqA ?zqB ?zqZ ?_ ?zqs ?zqt; (case zqF => k_asm); (case zqN => k_asm); (case zqA => first | omega | (split <;> omega)); (case zqB => (simp only [List.length_map]; first | omega | (split <;> omega))); (case zqZ => (simp only [List.length_map]; omega)); (case zqs => with_unfolding_all rfl); (case zqt => kmk_pure)); intro h' t' k' F' N'))
local macro_rules | `(tactic| walk_at "CompSrc") => `(tactic| (k_here; refine stop_of ?_))
local macro_rules | `(tactic| walk_at "subscriptTail Name Constant ref int") => `(tactic| (k_here; (with_reducible show wpAny _ _ (subscriptTail _ _ (Value.ref _) (Value.int _ _)) _ _ _); (try dsimp only); k_dflt (refine' th_get_at ?zqN ?zqM ?zqA ?zqB ?zqC ?zqD ?_ ?zqs; (case zqN => k_asm); (case zqM => k_mem); (case zqA => decide); (case zqB => decide); (case zqC => exact rfl); (case zqD => exact rfl); (case zqs => with_unfolding_all rfl)); (try dsimp only)))
noncomputable def ToldJ (w : World) (H : List Int) (tv hv : Addr) (n : Nat) (tn : Tok) {h₀ h : Heap} {L D : Addr} {od : Obj} {rest : List (Addr × Obj)} (_ : News h₀ L h ((D, od) :: rest)) (i : Nat) (m : Str → Option Value) (nx : List (Addr × Obj)) : Prop :=
  ∃ o, m (Str.ofString "things") = some (.ref tv) ∧ m (Str.ofString "ends") = some (.int (n : Int) tn) ∧ m (Str.ofString "heights") = some (.ref hv) ∧ m (Str.ofString "names") = some (.ref D) ∧ DictAt w o (toldAt H i) ∧ nx = (D, o) :: rest
theorem c_told (w : World) (mean : ExcName → Option Value) (mg mb : Str → Option Value) {news : List (Addr × Obj)} {tv hv ov : Addr} {us hvs ovs : List Value} {c1 c2 c3 : Nat} {ths : List Th} {H O : List Int} {n : Nat} {tn : Tok}
    (hth : (tv, listOf us.toArray c1) ∈ news) (hta : ThAre news us ths) (hhm : (hv, listOf hvs.toArray c2) ∈ news) (hhi : IntsAre hvs H) (hom : (ov, listOf ovs.toArray c3) ∈ news) (hoi : IntsAre ovs O)
    (hb : ∀ x ∈ H, 0 ≤ x ∧ x < 7) (hz1 : ths.length ≤ 20) (hz2 : H.length ≤ 7) (hz3 : O.length ≤ 7) (hz4 : n ≤ 20) (hz5 : H.length ≤ ths.length) :
    CallOK w mean mg mb 140 3 [.ref tv, .int (n : Int) tn, .ref hv, .ref ov] news fun k => ∀ p B e D o t1 t2 u1 u2 u3 u4 vs n' n1 n2, StrsAre vs ((toldRes ths n H O).bare.map strOf) → (D == sysModules) = false → DictAt w o (toldRes ths n H O).dict →
      k (.ref p) ((p, resObj (strOf (toldRes ths n H O).text) (strOf (toldRes ths n H O).sent) t1 t2 B e n') :: (B, listOf (List.toArray vs) n1) :: (e, entObj (toldRes ths n H O).a (toldRes ths n H O).b (toldRes ths n H O).c (toldRes ths n H O).d u1 u2 u3 u4 D n2) :: (D, o) :: news) := by
  k_with_none
  w_top off
  unfold CallOK
  k_fill
  intro dp un gd cn cs' a ccd cl outer A₀ base h₀ h L m gs dr tk os Q E B F X N T hk hd' hu hret
  refine wpAny_call ?_
  k_dflt (((refine' code_defC ?zk1 ?zk2 ?zk3 ?zk4 ?zk5 ?zkA ?zkF ?zkK ?zk6 ?zk7 ?zk8 ?zk9 ?zkB ?zkD ?_ ?zc2 ?zc3 ?zc4; (case zkA => exact rfl); (case zkF => exact rfl); (case zkK => assumption); (case zk1 => k_asm); (case zk2 => k_asm); (case zk3 => k_asm); (case zk4 => k_asm); (case zk5 => k_asm); (case zk6 => k_is); (case zk7 => k_is); (case zk8 => ktr_room); (case zk9 => exact BindsTo.of_eq rfl); (case zkB => exact rfl); (case zkD => decide +kernel); (case zc2 => exact rfl); (case zc3 => exact rfl); (case zc4 => exact rfl); k_whole; intro g' L' h' tk' cells' FG' F' N' Y' B' X' T' l1; (have lA' : LtAll _ _ := l1); k_cells Y'; (try simp only [List.cons_append, List.nil_append] at N'); (try dsimp only); (try k_fold))))
  k_with "exec For Name Name cons nil" => refine stop_of ?_
  k_steps
  unfold Stopped
  rename Fr _ _ _ (fun y => _) => lF'
  rename News _ _ _ _ => lN
  rename Obj.IsDictOf (PySem.strKind _ _) _ _ => hsD
  rename (_ == sysModules) = false => hsM
  rename (_ = Data.cell _) => dO
  replace dO : Obj.data _ = Data.cell (some (Value.ref ov)) := dO
  rename (_ < _ ∧ _ < _ ∧ _) => lD
  k_with_none
  k_here
  (with_unfolding_all refine' For_invVF lF' ?k1 ?k2 ?_; (case k1 => exact rfl); (case k2 => exact rfl); k_whole)
  k_with "pyIter ref" => refine stop_of ?_
  k_steps
  unfold Stopped
  (try dsimp only)
  (try dsimp only at lN)
  refine loop_list (vs := hvs) (c := c2) (ToldJ w H tv hv n tn lN) (by rfl) ?_ (by k_asm) lN ?_ ?_ ?_
  · intro i m nx hJ
    obtain ⟨o, j1, j2, j3, j4, j5, rfl⟩ := hJ
    exact .tail _ (.tail _ (.tail _ hhm))
  · exact ⟨_, rfl, rfl, rfl, rfl, ⟨_, hsD, by rw [show toldAt H 0 = [(stdName false 0, 1)] from rfl, ← leaf_zero]; exact .cons .nil⟩, rfl⟩
  · intro i v m₁ nx h2 tk2 I oI hi2 hP hJ hne F₁ N₁
    obtain ⟨o, j1, j2, j3, j4, j5, rfl⟩ := hJ
    obtain ⟨k, t2', rfl, hk2⟩ := IntsAre.at hhi i v hP
    have hkb := hb k (List.mem_of_getElem? hk2)
    replace F₁ := fr_kst [(Str.ofString "things", .ref tv), (Str.ofString "ends", .int (n : Int) tn), (Str.ofString "heights", .ref hv), (Str.ofString "names", .ref _)] (by intro p hp; simp only [List.mem_cons, List.not_mem_nil, or_false] at hp; rcases hp with rfl | rfl | rfl | rfl <;> assumption) F₁
    k_with_none
    k_with "setItem ref str" => refine stop_of ?_
    obtain ⟨kvs, hk1, hv1⟩ := j5
    have hl1 := hv1.length
    have htl := toldAt_len H i
    have hDI := hne _ (.head _)
    k_steps
    · unfold Stopped
      rename (k = 0) => e0
      rename Fr _ _ _ (fun y => _) => lF5
      rename News _ _ _ _ => lN5
      refine dict_set_at (own := [_]) lF5 lN5 (by intro p hp; rw [List.mem_singleton.mp hp]; exact Ne.symm hDI) (allLt3 lD) hk1 (by omega) ?_
      intro h6 o6 F6 N6 hd6
      dsimp only [List.cons_append, List.nil_append] at N6
      dsimp only
      k_steps
      unfold Stopped
      rename Fr _ _ _ (fun y => _) => lF6
      rename News _ _ _ _ => lN6
      refine dict_set_at (own := [_]) lF6 lN6 (by intro p hp; rw [List.mem_singleton.mp hp]; exact Ne.symm hDI) (allLt3 lD) hd6 (Nat.le_trans (stored_len _ _ _) (by omega)) ?_
      intro h7 o7 F7 N7 hd7
      dsimp only [List.cons_append, List.nil_append] at N7
      dsimp only
      k_steps
      rename Fr _ _ _ _ => kF9
      rename News _ _ _ _ => kN9
      refine TurnPost.next kF9 kN9 (fun p hp => hp) (by intro p hp; rcases List.mem_cons.mp hp with rfl | hp; exact hDI; exact hne p (.tail _ hp)) ⟨_, rfl, rfl, rfl, rfl, ⟨_, hd7, ?_⟩, rfl⟩
      rw [toldAt_succ hk2]
      have ek := leaf_name (h := k + 1) (by omega) (by omega)
      have ez : stdName true k = Str.ofString "{fork}" := by rw [e0]; exact fork_zero.symm
      rw [ez, ← ek]
      exact ((hv1.put _ _ _).put _ _ _)
    · unfold Stopped
      rename (k ≠ 0) => e0
      rename Fr _ _ _ (fun y => _) => lF5
      rename News _ _ _ _ => lN5
      refine dict_set_at (own := [_]) lF5 lN5 (by intro p hp; rw [List.mem_singleton.mp hp]; exact Ne.symm hDI) (allLt3 lD) hk1 (by omega) ?_
      intro h6 o6 F6 N6 hd6
      dsimp only [List.cons_append, List.nil_append] at N6
      dsimp only
      k_steps
      unfold Stopped
      rename Fr _ _ _ (fun y => _) => lF6
      rename News _ _ _ _ => lN6
      refine dict_set_at (own := [_]) lF6 lN6 (by intro p hp; rw [List.mem_singleton.mp hp]; exact Ne.symm hDI) (allLt3 lD) hd6 (Nat.le_trans (stored_len _ _ _) (by omega)) ?_
      intro h7 o7 F7 N7 hd7
      dsimp only [List.cons_append, List.nil_append] at N7
      dsimp only
      k_steps
      rename Fr _ _ _ _ => kF9
      rename News _ _ _ _ => kN9
      refine TurnPost.next kF9 kN9 (fun p hp => hp) (by intro p hp; rcases List.mem_cons.mp hp with rfl | hp; exact hDI; exact hne p (.tail _ hp)) ⟨_, rfl, rfl, rfl, rfl, ⟨_, hd7, ?_⟩, rfl⟩
      rw [toldAt_succ hk2]
      have ek := leaf_name (h := k + 1) (by omega) (by omega)
      have ez := fork_name (h := k) (by omega) (by omega)
      rw [← ez, ← ek]
      exact ((hv1.put _ _ _).put _ _ _)
  · intro m₁ nx h2 tk2 hJ F₁ N₁
    obtain ⟨o, j1, j2, j3, j4, j5, rfl⟩ := hJ
    rw [hhi.length, toldAt_all] at j5
    replace F₁ := fr_kst0 [(Str.ofString "things", .ref tv), (Str.ofString "ends", .int (n : Int) tn), (Str.ofString "heights", .ref hv), (Str.ofString "names", .ref _)] (by intro p hp; simp only [List.mem_cons, List.not_mem_nil, or_false] at hp; rcases hp with rfl | rfl | rfl | rfl <;> assumption) F₁
    dsimp only
    k_with_none
    k_steps
    unfold Stopped
    have hul := hta.length
    refine LCg.CompSrc.ledger (by rfl) (by k_asm) (by k_asm) (by k_mem) (by rw [sizeLine_eq, List.size_toArray]; omega) ?_
    intro g9
    refine comp_ind (fun i ys => StrsAre ys (((ths.take i).map Th.blank).map fun k => (⟨#[k]⟩ : Str))) (.inr ⟨_, by k_mem, rfl, _, rfl⟩) .nil ?_ ?_
    · intro ys hys
      rw [List.size_toArray, hul, List.take_of_length_le (Nat.le_refl _)] at hys
      unfold LCg.FinE
      intro D9 h9 tk9 F9 N9 o9
      simp only [LCg.Off1] at o9
      dsimp only
      k_steps
      unfold Stopped
      refine LCg.CompSrc.range (by rfl) (by k_asm) (by k_asm) (by assumption) (small_one (by omega) (by omega) (by omega) (by omega)) (rangeSize_nat _ _) (by rw [sizeLine_eq]; omega) ?_
      intro g9
      refine comp_ind (fun i ys => StrsAre ys (((List.range i).map fun am => (ths.map Th.blank).drop (min am (O.count 0))).map strOf)) trivial .nil ?_ ?_
      · intro ys2 hys2
        have en : ((H.length : Int) + 1 - 0).toNat = H.length + 1 := by omega
        rw [en] at hys2
        unfold LCg.FinA
        intro D8 h8 tk8 F8 N8 o8
        simp only [LCg.Off1] at o8
        dsimp only
        k_steps
        unfold Stopped
        refine LCg.CompSrc.ledger (by rfl) (by k_asm) (by k_asm) (by k_mem) (by rw [sizeLine_eq, List.size_toArray]; omega) ?_
        intro g8
        refine comp_ind (fun i ys => StrsAre ys (((ths.take i).map Th.piece).map strOf)) (.inr ⟨_, by k_mem, rfl, _, rfl⟩) .nil ?_ ?_
        · intro ys3 hys3
          rw [List.size_toArray, hul, List.take_of_length_le (Nat.le_refl _)] at hys3
          unfold LCg.FinE
          intro D7 h7 tk7 F7 N7 o7
          simp only [LCg.Off1] at o7
          dsimp only
          k_steps
          rename Fr h₀ L _ _ => kF9
          rename News h₀ L _ _ => kN9
          rw [mul_crlf hz4] at kN9
          exact hret _ D8 _ _ o _ _ _ _ _ _ ys2 _ _ _ hys2 hsM j5 _ _ kF9 (news_pick kN9)
        · intro i v ys3 I oI C oC D₂ m₂ h3 tk3 E3 hi3 hP hys3 hns hx3 F3 N3
          obtain ⟨a3, ⟨f3, fi3, se3, b3⟩, t13, t23, n3, rfl, hth3, hma3⟩ := th_item hta hP
          have e3 : ths.take (i + 1) = ths.take i ++ [⟨f3, fi3, se3, b3⟩] := by rw [List.take_add_one, hth3]; rfl
          cases f3 <;> cases b3
          all_goals
            k_steps
            · k_asm
            · k_asm
            · rw [e3, List.map_append, List.map_append]
              exact strs_snoc hys3 _ _
      · intro i v ys2 I oI C oC D₂ m₂ h3 tk3 E3 hi3 hP hys2 hns hx3 F3 N3
        obtain ⟨t3, rfl⟩ := hP
        k_steps
        · k_asm
        · k_asm
        · have e0 : (if ((O.count 0 : Nat) : Int) < 0 + (i : Int) then ((O.count 0 : Nat) : Int) else 0 + (i : Int)).toNat = min i (O.count 0) := by split <;> omega
          rw [e0, List.range_succ, List.map_append, List.map_append]
          exact strs_snoc hys2 _ _
    · intro i v ys I oI C oC D₂ m₂ h3 tk3 E3 hi3 hP hys hns hx3 F3 N3
      obtain ⟨a3, ⟨f3, fi3, se3, b3⟩, t13, t23, n3, rfl, hth3, hma3⟩ := th_item hta hP
      have e3 : ths.take (i + 1) = ths.take i ++ [⟨f3, fi3, se3, b3⟩] := by rw [List.take_add_one, hth3]; rfl
      cases f3
      · k_steps
        · k_asm
        · k_asm
        · rw [e3, List.map_append, List.map_append]
          exact strs_snoc hys _ _
      · k_steps
        · k_asm
        · k_asm
        · rw [e3, List.map_append, List.map_append]
          exact strs_snoc hys _ _
end

section
open PySem PySem.W PyProof.Rows
set_option maxRecDepth 100000
set_option maxHeartbeats 8000000
local macro_rules | `(tactic| walk_at "call ref") => `(tactic| (k_here; refine stop_of ?_))
local macro_rules | `(tactic| walk_at "call type:bytes") => `(tactic| (k_here; (with_reducible show wpAny _ _ (call (Value.type "bytes") [Value.ref _]) _ _ _); (try dsimp only); k_dflt (refine' bytes_K ?F ?N ?l ?i ?r ?z ?h ?_; (case F => k_asm); (case N => k_asm); (case l => is_list); (case i => assumption); (case r => first | exact behind_in _ | exact word_in _); (case z => (rw [sizeLine_eq]; omega)); (case h => rfl)); intro h' t' k' F' N' a9))
local macro_rules | `(tactic| walk_at "compareOp NotEq bytes bytes") => `(tactic| (k_here; (try dsimp only); k_dflt (refine ne_same ?_)))
local macro_rules | `(tactic| walk_at "CompSrcT") => `(tactic| (k_here; refine stop_of ?_))
local macro_rules | `(tactic| walk_at "CompSrc") => `(tactic| (k_here; refine stop_of ?_))
local macro_rules | `(tactic| walk_at "subscriptTail Name Constant ref int") => `(tactic| (k_here; (with_reducible show wpAny _ _ (subscriptTail _ _ (Value.ref _) (Value.int _ _)) _ _ _); (try dsimp only); k_dflt (refine' th_get_at ?zqN ?zqM ?zqA ?zqB ?zqC ?zqD ?_ ?zqs; (case zqN => k_asm); (case zqM => k_mem); (case zqA => decide); (case zqB => decide); (case zqC => exact rfl); (case zqD => exact rfl); (case zqs => with_unfolding_all rfl)); (try dsimp only)))
local macro_rules | `(tactic| walk_at "compareOp NotEq ref ref") => `(tactic| (k_here; refine stop_of ?_))
local macro_rules | `(tactic| walk_at "compareOp Eq ref ref") => `(tactic| (k_here; refine stop_of ?_))
noncomputable def Names (m : Str → Option Value) (ps : List (Str × Value)) : Prop := ∀ p ∈ ps, m p.1 = some p.2
theorem Names.nil {m : Str → Option Value} : Names m [] := fun p hp => nomatch hp
theorem Names.cons {m : Str → Option Value} {k : Str} {v : Value} {ps : List (Str × Value)} (h : m k = some v) (hr : Names m ps) : Names m ((k, v) :: ps) := fun p hp => by
  rcases List.mem_cons.mp hp with rfl | hp
  · exact h
  · exact hr p hp
theorem Names.frame {h₀ h : Heap} {L : Addr} {m : Str → Option Value} {ps : List (Str × Value)} (hm : Names m ps) (F : Fr h₀ L h m) : Fr h₀ L h (kstB m ps) := fr_kst0 ps hm F
inductive Left (P : Prop) : Prop where
  | mk (h : P) : Left P
/-- how a statement of the law leaves the machine -/
noncomputable def LawS (hp0 : Heap) (L0 : Addr) (gs : Array GenState) (dr : Drawn) (os : OsState) (ps : List (Str × Value)) (news : List (Addr × Obj)) (f : Flow) (s' : Shared) : Prop :=
  f = .next ∧ ∃ h' tk' m', s' = ⟨h', gs, dr, tk', os⟩ ∧ Fr hp0 L0 h' m' ∧ News hp0 L0 h' news ∧ Names m' ps
theorem LawS.intro {hp0 h' : Heap} {L0 : Addr} {gs : Array GenState} {dr : Drawn} {os : OsState} {tk' : Nat} {m' : Str → Option Value} {ps : List (Str × Value)} {news all : List (Addr × Obj)} (F : Fr hp0 L0 h' m') (N : News hp0 L0 h' all) (hs : ∀ p ∈ news, p ∈ all) (hm : Names m' ps) :
    LawS hp0 L0 gs dr os ps news .next ⟨h', gs, dr, tk', os⟩ := ⟨rfl, h', tk', m', rfl, F, news_sub N hs, hm⟩
theorem law_holds : PySem.Challenge.rw_zn0004_01.Holds := by
  k_with_none
  w_top off
  refine hd ?_
  k_fill
  intro w s₀ s₁ mg mb G Y fa o pm cd doc dV kV ho hd' hcd hD hmg hg args vals as hpre hlay hrd hwl hlo
  have KX := kIn_of Y
  have X := (Ground.X G).1
  have V := (Ground.X G).2
  refine Ground.open G ?_
  intro T B D TE TW
  try (refine guard_noD D (by decide +kernel) ?_; clear D)
  obtain ⟨_, _, M⟩ := bmod_of_top T
  have TA := at_of_top T
  try (obtain ⟨_, _, he, B0⟩ := based_of_top T rfl hmg ho hd'; have he' : cd = _ := he; subst he'; clear he)
  clear hmg
  wrow_args hpre hlay hrd hwl hlo
  refine wpC_enter ?_
  w_top on
  have K0 := below_caller (Top.heap T)
  have he := Dflts.none hD rfl
  subst he
  refine call_fullC (by decide) ho hd' (Top.nolimit T) hcd (BindsTo.of_eq rfl) (locs rfl) fun h₁ F => ?_
  w_binds F
  have N0 := (News.nil : News _ _ _ []).at F
  clear hd' TA
  k_drop
  rename s₁.heap.IsList _ _ => hL
  rename IntsAre _ _ => hI
  rename ¬ _ < _ => hC
  refine wpC_mono (Q := fun f s' => f = .ret (.bool true) ∧ ∃ h' tk' m', s' = ⟨h', s₁.gens, s₁.drawn, tk', s₁.os⟩ ∧ Fr s₁.heap s₁.heap.objs.size h' m') (E := fun _ _ => False) ?walk ?fin (fun _ _ x => x.elim)
  case fin =>
    rintro f s' ⟨rfl, h', tk', m', rfl, F'⟩
    dsimp only
    refine GoodW.toG ?_
    k_steps
  clear hD ho hcd TE TW M B X V hg
  (repeat (rename ReadsAll _ _ _ _ => hx9; clear hx9))
  clear G Y
  rename_i x1 x2 x3 x4 x5 x6 x7 x8 x9 x10 x11 x12 x13 x14 x15 x16 x17 x18 x19
  clear x6 x7 x8 x9 x10 x16 x17 x18 x19
  clear x2 x4 x1 x11 x12 x15 pm doc kV o
  generalize ExcName.means s₀.heap = mean at T
  clear s₀ K0
  obtain ⟨hp0, gs0, dr0, tk0, os0⟩ := s₁
  dsimp only at *
  generalize hL0 : hp0.objs.size = L0 at F N0 ⊢
  clear hL0
  have K0 : Below callerA hp0 [] hp0 := below_caller _
  refine wpC_execs_cons (wpC_any (wpAny_mono (Q := fun f s' => Left (∃ c us t, 3 ≤ Tr.forks t ∧ t.forks ≤ 7 ∧ IntsAre us t.word ∧ LawS hp0 L0 gs0 dr0 os0 [(Str.ofString "word", .ref c)] [(c, listOf (List.toArray us) 0)] f s')) ?_ ?_ (fun _ _ x => x)))
  · k_steps
    unfold Stopped
    ((refine' CallOKB.use ?zqB ?zqF ?zqX ?zqN ?zqT ?zqC ?zqb ?zqk ?zqd ?zqu ?_; (case zqB => k_asm); (case zqF => k_asm); (case zqX => k_asm); (case zqN => k_asm); (case zqT => k_asm)))
    case zqC => exact c_draws _ _ _ _ (by assumption) (by omega)
    case zqb => assumption
    walk_at "my call end"
    intro c1 us1 ds hl1 hp1 hlt1 hi1 h1 tk1 F1 N1
    (try dsimp only)
    k_steps
    unfold Stopped
    walk_at "my call"
    case zqC => exact c_tree _ _ _ _ (.head _) hi1 hl1 hp1
    walk_at "my call end"
    intro c2 us2 t ht3 ht7 hlt2 hi2 h2 tk2 F2 N2
    (try dsimp only)
    k_steps
    exact .mk ⟨c2, us2, t, ht3, ht7, hi2, .intro (by k_asm) (by k_asm) (by ((intro p hp; simp only [List.mem_cons, List.mem_append, List.not_mem_nil, or_false] at hp ⊢; (first | (rcases hp with hp | hp | hp | hp | hp | hp <;> simp only [hp, true_or, or_true]) | (rcases hp with hp | hp | hp | hp | hp <;> simp only [hp, true_or, or_true]) | (rcases hp with hp | hp | hp | hp <;> simp only [hp, true_or, or_true]) | (rcases hp with hp | hp | hp <;> simp only [hp, true_or, or_true]) | (rcases hp with hp | hp <;> simp only [hp, true_or, or_true]) | simp only [hp, true_or, or_true])))) (by ((repeat (first | exact Names.nil | refine Names.cons rfl ?_))))⟩
  rintro f s' ⟨⟨c2, us2, t, ht3, ht7, hi2, rfl, h2, tk2, m2, rfl, F2, N2, hm2⟩⟩
  clear F N0 hC hL hI
  dsimp only
  have hl2 := hi2.length
  have hw2 := t.word_length
  have hw3 := t.mirror.word_length
  have hw4 := behind_length t
  have hmf := t.mirror_forks
  replace F2 := hm2.frame F2
  refine wpC_execs_cons (wpC_any (wpAny_mono (Q := fun f s' => Left (∃ c us, IntsAre us t.mirror.word ∧ LawS hp0 L0 gs0 dr0 os0 [(Str.ofString "word", .ref c2), (Str.ofString "mirror", .ref c)] [(c, listOf (List.toArray us) 0), (c2, listOf us2.toArray 0)] f s')) ?_ ?_ (fun _ _ x => x)))
  · k_steps
    unfold Stopped
    walk_at "my call"
    case zqC => exact c_mirror _ _ _ _ t (by omega) (.head _) hi2
    walk_at "my call end"
    intro c3 us3 hlt3 hi3 h3 tk3 F3 N3
    (try dsimp only)
    k_steps
    exact .mk ⟨c3, us3, hi3, .intro (by k_asm) (by k_asm) (by ((intro p hp; simp only [List.mem_cons, List.mem_append, List.not_mem_nil, or_false] at hp ⊢; (first | (rcases hp with hp | hp | hp | hp | hp | hp <;> simp only [hp, true_or, or_true]) | (rcases hp with hp | hp | hp | hp | hp <;> simp only [hp, true_or, or_true]) | (rcases hp with hp | hp | hp | hp <;> simp only [hp, true_or, or_true]) | (rcases hp with hp | hp | hp <;> simp only [hp, true_or, or_true]) | (rcases hp with hp | hp <;> simp only [hp, true_or, or_true]) | simp only [hp, true_or, or_true])))) (by ((repeat (first | exact Names.nil | refine Names.cons rfl ?_))))⟩
  rintro f s' ⟨⟨c3, us3, hi3, rfl, h3, tk3, m3, rfl, F3, N3, hm3⟩⟩
  clear F2 N2 hm2
  dsimp only
  have hl3 := hi3.length
  replace F3 := hm3.frame F3
  refine wpC_execs_cons (wpC_mono (Q := fun f s' => Left (∃ t4, LawS hp0 L0 gs0 dr0 os0 [(Str.ofString "word", .ref c2), (Str.ofString "mirror", .ref c3), (Str.ofString "turned", .bytes (octs t.mirror.word).toArray t4)] [(c3, listOf us3.toArray 0), (c2, listOf us2.toArray 0)] f s')) (E := fun _ _ => False) ?_ ?_ (fun _ _ x => x.elim))
  · refine wpC_Assign_Name (wpC_Call ?_)
    k_steps
    refine wpC_callWith_K (K := hd.heap_39 w.params) (by k_is) ?_
    k_steps
    unfold Stopped
    walk_at "my call"
    case zqC => exact c_behind _ _ _ _ t (by omega) (.tail _ (.head _)) hi2
    walk_at "my call end"
    intro c4 us4 hlt4 hi4 h4 tk4 F4 N4
    (try dsimp only)
    have hl4 := hi4.length
    k_steps
    have ew : (t.word.length : Int) = ((octs t.behind).length : Nat) := by unfold octs; rw [List.length_map]; omega
    have el : (octs t.behind).length = 2 * t.forks + 1 := by unfold octs; rw [List.length_map]; omega
    rw [ew]
    refine CallOKC.use (by k_asm) (by k_asm) (by k_asm) (by k_asm) (by k_asm) (c_swap _ _ _ _ (b := octs t.behind) (by omega) (by omega)) ?zqk ?zqd ?zqu ?_
    walk_at "my call end"
    intro t4 h5 tk5 F5 N5
    rw [octs_turned]
    (try dsimp only)
    k_steps
    exact .mk ⟨t4, .intro (by k_asm) (by k_asm) (by ((intro p hp; simp only [List.mem_cons, List.mem_append, List.not_mem_nil, or_false] at hp ⊢; (first | (rcases hp with hp | hp | hp | hp | hp | hp <;> simp only [hp, true_or, or_true]) | (rcases hp with hp | hp | hp | hp | hp <;> simp only [hp, true_or, or_true]) | (rcases hp with hp | hp | hp | hp <;> simp only [hp, true_or, or_true]) | (rcases hp with hp | hp | hp <;> simp only [hp, true_or, or_true]) | (rcases hp with hp | hp <;> simp only [hp, true_or, or_true]) | simp only [hp, true_or, or_true])))) (by ((repeat (first | exact Names.nil | refine Names.cons rfl ?_))))⟩
  rintro f s' ⟨⟨t4, rfl, h4, tk4, m4, rfl, F4, N4, hm4⟩⟩
  clear F3 N3 hm3
  dsimp only
  refine wpC_any ?_
  replace F4 := hm4.frame F4
  refine wpAny_execs_cons (wpAny_mono (Q := fun f s' => Left (LawS hp0 L0 gs0 dr0 os0 [(Str.ofString "word", .ref c2), (Str.ofString "mirror", .ref c3), (Str.ofString "turned", .bytes (octs t.mirror.word).toArray t4)] [(c3, listOf us3.toArray 0), (c2, listOf us2.toArray 0)] f s')) ?_ ?_ (fun _ _ x => x))
  · k_steps
    exact .mk (.intro (by k_asm) (by k_asm) (by ((intro p hp; simp only [List.mem_cons, List.mem_append, List.not_mem_nil, or_false] at hp ⊢; (first | (rcases hp with hp | hp | hp | hp | hp | hp <;> simp only [hp, true_or, or_true]) | (rcases hp with hp | hp | hp | hp | hp <;> simp only [hp, true_or, or_true]) | (rcases hp with hp | hp | hp | hp <;> simp only [hp, true_or, or_true]) | (rcases hp with hp | hp | hp <;> simp only [hp, true_or, or_true]) | (rcases hp with hp | hp <;> simp only [hp, true_or, or_true]) | simp only [hp, true_or, or_true])))) (by ((repeat (first | exact Names.nil | refine Names.cons rfl ?_)))))
  rintro f s' ⟨⟨rfl, h5, tk5, m5, rfl, F5, N5, hm5⟩⟩
  clear F4 N4 hm4
  dsimp only
  replace F5 := hm5.frame F5
  have hth := t.things_length 0 0 false
  refine wpAny_execs_cons (wpAny_mono (Q := fun f s' => Left (∃ c us tl, ThAre tl us (t.things 0 0 false) ∧ LawS hp0 L0 gs0 dr0 os0 [(Str.ofString "word", .ref c2), (Str.ofString "mirror", .ref c3), (Str.ofString "turned", .bytes (octs t.mirror.word).toArray t4), (Str.ofString "things", .ref c)] ((c, listOf (List.toArray us) 0) :: (c3, listOf us3.toArray 0) :: (c2, listOf us2.toArray 0) :: tl) f s')) ?_ ?_ (fun _ _ x => x))
  · k_steps
    unfold Stopped
    walk_at "my call"
    case zqC => exact c_things _ _ _ _ t (by omega) (by k_mem) hi2
    walk_at "my call end"
    intro c5 us5 tl hta h6 tk6 F6 N6
    (try dsimp only)
    k_steps
    exact .mk ⟨c5, us5, tl, hta, .intro (by k_asm) (by k_asm) (by ((intro p hp; simp only [List.mem_cons, List.mem_append, List.not_mem_nil, or_false] at hp ⊢; (first | (rcases hp with hp | hp | hp | hp | hp | hp <;> simp only [hp, true_or, or_true]) | (rcases hp with hp | hp | hp | hp | hp <;> simp only [hp, true_or, or_true]) | (rcases hp with hp | hp | hp | hp <;> simp only [hp, true_or, or_true]) | (rcases hp with hp | hp | hp <;> simp only [hp, true_or, or_true]) | (rcases hp with hp | hp <;> simp only [hp, true_or, or_true]) | simp only [hp, true_or, or_true])))) (by ((repeat (first | exact Names.nil | refine Names.cons rfl ?_))))⟩
  rintro f s' ⟨⟨c5, us5, tl, hta, rfl, h6, tk6, m6, rfl, F6, N6, hm6⟩⟩
  clear F5 N5 hm5
  dsimp only
  have hul := hta.length
  replace F6 := hm6.frame F6
  refine wpAny_execs_cons (wpAny_mono (Q := fun f s' => Left (∃ D us, IntsAre us (t.fh 0) ∧ LawS hp0 L0 gs0 dr0 os0 [(Str.ofString "word", .ref c2), (Str.ofString "mirror", .ref c3), (Str.ofString "turned", .bytes (octs t.mirror.word).toArray t4), (Str.ofString "things", .ref c5), (Str.ofString "firsts", .ref D)] ((D, LCg.lst us) :: (c5, listOf us5.toArray 0) :: (c3, listOf us3.toArray 0) :: (c2, listOf us2.toArray 0) :: tl) f s')) ?_ ?_ (fun _ _ x => x))
  · k_steps
    unfold Stopped
    refine LCt.CompSrcT.ledger (by rfl) (by k_asm) (by k_asm) (by k_mem) (by rw [sizeLine_eq, List.size_toArray]; omega) ?_
    intro g9
    refine compT_ind (fun j ys => IntsAre ys ((((t.things 0 0 false).take j).filter Th.isFork).map Th.fi)) (.inr ⟨_, by k_mem, rfl, _, rfl⟩) .nil ?_ ?_
    · intro ys hys
      rw [List.size_toArray, hul, List.take_of_length_le (Nat.le_refl _), things_fi] at hys
      unfold LCg.FinA
      intro D9 h9 tk9 F9 N9 o9
      exact .mk ⟨D9, ys, hys, .intro F9 N9 (fun p hp => hp) (by ((repeat (first | exact Names.nil | refine Names.cons rfl ?_))))⟩
    · intro i v ys I oI C oC D₂ m₂ h7 tk7 E7 hi7 hP hys hns hx7 F7 N7
      obtain ⟨a3, ⟨f3, fi3, se3, b3⟩, t13, t23, n3, rfl, hth3, hma3⟩ := th_item hta hP
      have e3 : (t.things 0 0 false).take (i + 1) = (t.things 0 0 false).take i ++ [⟨f3, fi3, se3, b3⟩] := by rw [List.take_add_one, hth3]; rfl
      cases f3
      · k_steps
        · k_asm
        · k_asm
        · rw [e3, List.filter_append, List.map_append]
          have e4 : List.map Th.fi (List.filter Th.isFork [⟨false, fi3, se3, b3⟩]) = [] := rfl
          rw [e4, List.append_nil]
          exact hys
      · k_steps
        · k_asm
        · k_asm
        · rw [e3, List.filter_append, List.map_append]
          exact hys.append (.cons _ _ .nil)
  rintro f s' ⟨⟨D9, ys1, hys1, rfl, h7, tk7, m7, rfl, F7, N7, hm7⟩⟩
  clear F6 N6 hm6
  dsimp only
  replace F7 := hm7.frame F7
  refine wpAny_execs_cons (wpAny_mono (Q := fun f s' => Left (∃ D us, IntsAre us (t.sh 0) ∧ LawS hp0 L0 gs0 dr0 os0 [(Str.ofString "word", .ref c2), (Str.ofString "mirror", .ref c3), (Str.ofString "turned", .bytes (octs t.mirror.word).toArray t4), (Str.ofString "things", .ref c5), (Str.ofString "firsts", .ref D9), (Str.ofString "seconds", .ref D)] ((D, LCg.lst us) :: (D9, LCg.lst ys1) :: (c5, listOf us5.toArray 0) :: (c3, listOf us3.toArray 0) :: (c2, listOf us2.toArray 0) :: tl) f s')) ?_ ?_ (fun _ _ x => x))
  · k_steps
    unfold Stopped
    refine LCt.CompSrcT.ledger (by rfl) (by k_asm) (by k_asm) (by k_mem) (by rw [sizeLine_eq, List.size_toArray]; omega) ?_
    intro g9
    refine compT_ind (fun j ys => IntsAre ys ((((t.things 0 0 false).take j).filter Th.isFork).map Th.se)) (.inr ⟨_, by k_mem, rfl, _, rfl⟩) .nil ?_ ?_
    · intro ys hys
      rw [List.size_toArray, hul, List.take_of_length_le (Nat.le_refl _), things_se] at hys
      unfold LCg.FinA
      intro D8 h9 tk9 F9 N9 o9
      exact .mk ⟨D8, ys, hys, .intro F9 N9 (fun p hp => hp) (by ((repeat (first | exact Names.nil | refine Names.cons rfl ?_))))⟩
    · intro i v ys I oI C oC D₂ m₂ h7 tk7 E7 hi7 hP hys hns hx7 F7 N7
      obtain ⟨a3, ⟨f3, fi3, se3, b3⟩, t13, t23, n3, rfl, hth3, hma3⟩ := th_item hta hP
      have e3 : (t.things 0 0 false).take (i + 1) = (t.things 0 0 false).take i ++ [⟨f3, fi3, se3, b3⟩] := by rw [List.take_add_one, hth3]; rfl
      cases f3
      · k_steps
        · k_asm
        · k_asm
        · rw [e3, List.filter_append, List.map_append]
          have e4 : List.map Th.se (List.filter Th.isFork [⟨false, fi3, se3, b3⟩]) = [] := rfl
          rw [e4, List.append_nil]
          exact hys
      · k_steps
        · k_asm
        · k_asm
        · rw [e3, List.filter_append, List.map_append]
          exact hys.append (.cons _ _ .nil)
  rintro f s' ⟨⟨D8, ys2, hys2, rfl, h8, tk8, m8, rfl, F8, N8, hm8⟩⟩
  clear F7 N7 hm7
  dsimp only
  replace F8 := hm8.frame F8
  refine wpAny_execs_cons (wpAny_mono (Q := fun f s' => Left (∃ tk, LawS hp0 L0 gs0 dr0 os0 [(Str.ofString "word", .ref c2), (Str.ofString "mirror", .ref c3), (Str.ofString "turned", .bytes (octs t.mirror.word).toArray t4), (Str.ofString "things", .ref c5), (Str.ofString "firsts", .ref D9), (Str.ofString "seconds", .ref D8), (Str.ofString "leaves", .int ((t.lf false : Nat) : Int) tk)] ((D8, LCg.lst ys2) :: (D9, LCg.lst ys1) :: (c5, listOf us5.toArray 0) :: (c3, listOf us3.toArray 0) :: (c2, listOf us2.toArray 0) :: tl) f s')) ?_ ?_ (fun _ _ x => x))
  · k_steps
    unfold Stopped
    refine LCt.CompSrcT.ledger (by rfl) (by k_asm) (by k_asm) (by k_mem) (by rw [sizeLine_eq, List.size_toArray]; omega) ?_
    intro g7
    refine compT_ind (fun j ys => ys.length = (((t.things 0 0 false).take j).filter Th.leafFirst).length) (.inr ⟨_, by k_mem, rfl, _, rfl⟩) rfl ?_ ?_
    · intro ys3 hys3
      rw [List.size_toArray, hul, List.take_of_length_le (Nat.le_refl _), things_lf] at hys3
      unfold LCg.FinE
      intro D7 h7 tk7 F7 N7 o7
      simp only [LCg.Off1] at o7
      dsimp only
      k_steps
      refine len_any_at (by k_asm) (.head _) (by rw [hys3]; have := ends_lf t; omega) ?_
      rw [hys3]
      (try dsimp only)
      k_steps
      exact .mk ⟨_, .intro (by k_asm) (by k_asm) (fun p hp => .tail _ hp) (by ((repeat (first | exact Names.nil | refine Names.cons rfl ?_))))⟩
    · intro i v ys I oI C oC D₂ m₂ h7 tk7 E7 hi7 hP hys hns hx7 F7 N7
      obtain ⟨a3, ⟨f3, fi3, se3, b3⟩, t13, t23, n3, rfl, hth3, hma3⟩ := th_item hta hP
      have e3 : (t.things 0 0 false).take (i + 1) = (t.things 0 0 false).take i ++ [⟨f3, fi3, se3, b3⟩] := by rw [List.take_add_one, hth3]; rfl
      cases f3 <;> cases b3
      all_goals
        k_steps
        · k_asm
        · k_asm
        · simp only [e3, List.filter_append, List.length_append, ← hys]
          simp [Th.leafFirst]
  rintro f s' ⟨⟨tk5, rfl, h9, tk9, m9, rfl, F9, N9, hm9⟩⟩
  clear F8 N8 hm8
  dsimp only
  replace F9 := hm9.frame F9
  have hfl := fh_length t 0
  have hsl := sh_length t 0
  have en : (t.word.length : Int) - ((t.lf false : Nat) : Int) = ((2 * t.forks + 1 - t.lf false : Nat) : Int) := by have := ends_lf t; omega
  refine wpAny_execs_cons (wpAny_mono (Q := fun f s' => Left (LawS hp0 L0 gs0 dr0 os0 [(Str.ofString "mirror", .ref c3), (Str.ofString "turned", .bytes (octs t.mirror.word).toArray t4), (Str.ofString "firsts", .ref D9), (Str.ofString "seconds", .ref D8), (Str.ofString "leaves", .int ((t.lf false : Nat) : Int) tk5)] [(D8, LCg.lst ys2), (D9, LCg.lst ys1), (c3, listOf us3.toArray 0)] f s')) ?_ ?_ (fun _ _ x => x))
  · k_steps
    unfold Stopped
    walk_at "my call"
    case zqC => exact c_seen _ _ _ _ t (by omega) (.list (by k_mem) hi2)
    walk_at "my call end"
    intro p1 B1 e1 X1 o1 q1 q2 q3 q4 q5 q6 vs1 n1 n2 n3 hvs1 hsm1 hd1 hh1 tkk1 FF1 NN1
    (try dsimp only)
    k_steps
    unfold Stopped
    rw [en]
    walk_at "my call"
    case zqC => exact c_told _ _ _ _ (by k_mem) (hta.mono (by ((intro p hp; (repeat (first | exact hp | apply List.mem_cons_of_mem)))))) (by k_mem) hys1 (by k_mem) hys2 (fun x hx => by have := fh_bounds t 0 x hx; omega) (by omega) (by omega) (by omega) (by omega) (by omega)
    walk_at "my call end"
    intro p2 B2 e2 X2 o2 r1 r2 r3 r4 r5 r6 vs2 m1 m2 m3 hvs2 hsm2 hd2 hh2 tkk2 FF2 NN2
    (try dsimp only)
    k_steps
    unfold Stopped
    refine res_ne NN2 (r := seenRes t) (r' := toldRes (t.things 0 0 false) (2 * t.forks + 1 - t.lf false) (t.fh 0) (t.sh 0)) ⟨B1, e1, X1, o1, q1, q2, q3, q4, q5, q6, vs1, n1, n2, n3, by k_mem, by k_mem, hvs1, by k_mem, by k_mem, hsm1, hd1⟩ ⟨B2, e2, X2, o2, r1, r2, r3, r4, r5, r6, vs2, m1, m2, m3, by k_mem, by k_mem, hvs2, by k_mem, by k_mem, hsm2, hd2⟩ (plain_first t ht7) (by ktr_units) ?_
    (try dsimp only)
    k_steps
    exact .mk (.intro (by k_asm) (by k_asm) (fun p hp => by
      simp only [List.mem_cons, List.not_mem_nil, or_false] at hp ⊢
      rcases hp with hp | hp | hp <;> simp only [hp, true_or, or_true]) (by ((repeat (first | exact Names.nil | refine Names.cons rfl ?_)))))
  rintro f s' ⟨⟨rfl, h10, tk10, m10, rfl, F10, N10, hm10⟩⟩
  clear F9 N9 hm9
  dsimp only
  replace F10 := hm10.frame F10
  have hfr1 : 1 ≤ t.forks := by omega
  have hth2 := t.mirror.things_length 0 0 false
  refine wpAny_mono (Q := fun f s' => Left (f = .ret (.bool true) ∧ ∃ h' tk' m', s' = ⟨h', gs0, dr0, tk', os0⟩ ∧ Fr hp0 L0 h' m')) ?_ (fun f s' h => by obtain ⟨h⟩ := h; exact h) (fun _ _ x => x)
  k_steps
  unfold Stopped
  walk_at "my call"
  case zqC => exact c_seen _ _ _ _ t.mirror (by omega) (.bytes (octs_back (word_signs _)))
  walk_at "my call end"
  intro p1 B1 e1 X1 o1 q1 q2 q3 q4 q5 q6 vs1 n1 n2 n3 hvs1 hsm1 hd1 hh1 tkk1 FF1 NN1
  (try dsimp only)
  k_steps
  unfold Stopped
  walk_at "my call"
  case zqC => exact c_things _ _ _ _ t.mirror (by omega) (by k_mem) hi3
  walk_at "my call end"
  intro c6 us6 tl6 hta6 hh6 tkk6 FF6 NN6
  have hul6 := hta6.length
  replace NN6 := news_sub NN6 (news' := (c6, listOf us6.toArray 0) :: (p1, resObj (strOf (seenRes t.mirror).text) (strOf (seenRes t.mirror).sent) q1 q2 B1 e1 n1) :: (B1, listOf (List.toArray vs1) n2) :: (e1, entObj (seenRes t.mirror).a (seenRes t.mirror).b (seenRes t.mirror).c (seenRes t.mirror).d q3 q4 q5 q6 X1 n3) :: (X1, o1) :: (D8, LCg.lst ys2) :: (D9, LCg.lst ys1) :: tl6) (by
    intro p hp
    simp only [List.mem_cons, List.mem_append] at hp ⊢
    rcases hp with hp | hp | hp | hp | hp | hp | hp | hp <;> simp only [hp, true_or, or_true])
  clear NN1
  (try dsimp only)
  k_steps
  unfold Stopped
  have en2 : ((t.fh 0).length : Int) + ((t.lf false : Nat) : Int) = ((t.forks + t.lf false : Nat) : Int) := by omega
  rw [en2]
  have hlm := lf_mirror0 hfr1
  walk_at "my call"
  case zqC => exact c_told _ _ _ _ (by k_mem) (hta6.mono (by ((intro p hp; (repeat (first | exact hp | apply List.mem_cons_of_mem)))))) (by k_mem) hys2 (by k_mem) hys1 (fun x hx => by have := sh_bounds t 0 x hx; omega) (by omega) (by omega) (by omega) (by omega) (by omega)
  walk_at "my call end"
  intro p2 B2 e2 X2 o2 r1 r2 r3 r4 r5 r6 vs2 m1 m2 m3 hvs2 hsm2 hd2 hh2 tkk2 FF2 NN2
  (try dsimp only)
  k_steps
  unfold Stopped
  refine res_eq NN2 (r := seenRes t.mirror) (r' := toldRes (t.mirror.things 0 0 false) (t.forks + t.lf false) (t.sh 0) (t.fh 0)) ⟨B1, e1, X1, o1, q1, q2, q3, q4, q5, q6, vs1, n1, n2, n3, by k_mem, by k_mem, hvs1, by k_mem, by k_mem, hsm1, hd1⟩ ⟨B2, e2, X2, o2, r1, r2, r3, r4, r5, r6, vs2, m1, m2, m3, by k_mem, by k_mem, hvs2, by k_mem, by k_mem, hsm2, hd2⟩ (plain_second t ht7 hfr1) (by ktr_units) ?_
  (try dsimp only)
  k_steps
  exact .mk ⟨rfl, _, _, _, rfl, by k_asm⟩
end

end Mine
end

theorem PySem.Challenge.cw_zn0004_01_holds : PySem.Challenge.rw_zn0004_01.Holds := by
  exact Mine.law_holds
