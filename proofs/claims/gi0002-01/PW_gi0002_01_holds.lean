import PyProof.Rows.All
import Wide.All
import OpenK.AllK
import Wide.FinOn
import PySem.Challenge.RW_gi0002_01
set_option Elab.async false
section -- Refine
open PySem PySem.W PySem.Calls PyProof.Rows
set_option Elab.async false
set_option maxRecDepth 100000
set_option maxHeartbeats 8000000
namespace Mine

/-- the built-in codes that `exported` looks for on the stack -/
def noisyIds : List String := ["bytearray.__contains__", "bytearray.__mod__", "bytearray.__rmod__", "_struct.pack_into.held", "bytearray.find.held"] ++ Builtin.Bytes.decodersThatHold
def noisy (c : Code) : Bool := match c with
  | .builtin id _ => noisyIds.contains id
  | _ => false
def StillB (Γ : Ctx) : Prop := ∀ x ∈ Γ.below, noisy x.1 = false
def Still (Γ : Ctx) : Prop := noisy Γ.code = false ∧ StillB Γ

def wpC {α : Type} (M : Model) (A : Around) (t : Sem α) (Q : α → Shared → Prop) (E : Value → Shared → Prop) (s : Shared) : Prop :=
  ∀ Γ p, Γ.In A → Still Γ → Sem.wp M Γ t (fun a _ s' => Q a s') (fun e _ s' => E e s') p s
def codeC (M : Model) (A : Around) (c : Code) (R : Result → Shared → Prop) (s : Shared) : Prop :=
  ∀ Γ p, Γ.code = c → Γ.Below A → StillB Γ → wpCode M Γ R p s

section
variable {α β : Type} {M : Model} {A : Around} {E : Value → Shared → Prop} {s : Shared}
theorem wpC_of {t : Sem α} {Q : α → Shared → Prop} (h : wpAny M A t Q E s) : wpC M A t Q E s := fun Γ p i _ => h Γ p i
theorem codeC_of {c : Code} {R : Result → Shared → Prop} (h : codeAny M A c R s) : codeC M A c R s := fun Γ p e b _ => h Γ p e b
theorem wpC_pure {a : α} {Q : α → Shared → Prop} (h : Q a s) : wpC M A (pure a) Q E s := wpC_of (wpAny_pure h)
theorem wpC_mono {t : Sem α} {Q Q' : α → Shared → Prop} {E' : Value → Shared → Prop} (h : wpC M A t Q E s)
    (hQ : ∀ a s, Q a s → Q' a s) (hE : ∀ e s, E e s → E' e s) : wpC M A t Q' E' s :=
  fun Γ p i c => Sem.wp_mono M Γ t (fun a _ s => hQ a s) (fun e _ s => hE e s) p s (h Γ p i c)
/-- a step that the library knows, the rest refined -/
theorem wpC_step {m : Sem α} {f : α → Sem β} {Q : β → Shared → Prop} (h : wpC M A m (fun a s' => wpC M A (f a) Q E s') E s) :
    wpC M A (m >>= f) Q E s := fun Γ p i c => by
  rw [Sem.wp_bind']
  exact Sem.wp_mono M Γ m (fun a p' s' h' => h' Γ p' i c) (fun _ _ _ h' => h') p s (h Γ p i c)
theorem wpC_tryCatch {m : Sem α} {k : Value → Sem α} {Q : α → Shared → Prop} (h : wpC M A m Q (fun e s' => wpC M A (k e) Q E s') s) :
    wpC M A (tryCatch m k) Q E s := fun Γ p i c => by
  rw [Sem.wp_tryCatch']
  exact Sem.wp_mono M Γ m (fun _ _ _ h' => h') (fun e p' s' h' => h' Γ p' i c) p s (h Γ p i c)
theorem wpC_onRaise {m : Sem α} {k : Value → Sem Unit} {Q : α → Shared → Prop}
    (h : wpC M A m Q (fun e s' => wpC M A (k e) (fun _ s'' => E e s'') E s') s) : wpC M A (m.onRaise k) Q E s := fun Γ p i c => by
  rw [Sem.wp_onRaise]
  exact Sem.wp_mono M Γ m (fun _ _ _ h' => h') (fun e p' s' h' => h' Γ p' i c) p s (h Γ p i c)
theorem wpC_attempt {m : Sem α} {Q : Except Value α → Shared → Prop} (h : wpC M A m (fun a => Q (.ok a)) (fun e => Q (.error e)) s) :
    wpC M A m.attempt Q E s := fun Γ p i c => by rw [Sem.wp_attempt]; exact h Γ p i c
theorem wpC_holding {vs : List Value} {m : Sem α} {Q : α → Shared → Prop} (h : wpC M A m Q E s) : wpC M A (holding vs m) Q E s :=
  fun Γ p i c => by rw [Sem.wp_holding]; exact h Γ p i c
theorem wpC_keep {vs : List Value} {m : Sem α} {Q : α → Shared → Prop} (h : wpC M A m Q E s) : wpC M A (m.keep vs) Q E s :=
  fun Γ p i c => by rw [Sem.wp_keep]; exact h Γ p i c
theorem wpC_standAt {pos : Pos} {Q : Unit → Shared → Prop} (h : Q () s) : wpC M A (standAt pos) Q E s := fun _ _ _ _ => h
theorem wpC_eq {t : Sem α} {a : α} {Q : α → Shared → Prop} (e : t = pure a) (h : Q a s) : wpC M A t Q E s := by rw [e]; exact wpC_pure h
theorem wpC_true {c : Bool} {a b : Sem α} {Q : α → Shared → Prop} (hc : c = true) (h : wpC M A a Q E s) : wpC M A (if c = true then a else b) Q E s := by
  subst hc; exact h
theorem wpC_false {c : Bool} {a b : Sem α} {Q : α → Shared → Prop} (hc : c = false) (h : wpC M A b Q E s) : wpC M A (if c = true then a else b) Q E s := by
  subst hc; exact h

theorem codeC_mono {c : Code} {R R' : Result → Shared → Prop} (h : codeC M A c R s) (hR : ∀ r s, R r s → R' r s) : codeC M A c R' s :=
  fun Γ p hc hΓ b => wpCode_mono hR (h Γ p hc hΓ b)
theorem still_enter {Γ : Ctx} {c : Code} {h : Option Value} {p : Pos} (x : Still Γ) : StillB (Γ.enter c h p) := fun y hy => by
  have hy' : y ∈ (Γ.code, p) :: Γ.below := hy
  rcases List.mem_cons.mp hy' with rfl | hy'
  · exact x.1
  · exact x.2 y hy'
theorem wpC_run {c : Code} {h : Option Value} {Q : Flow → Shared → Prop}
    (hc : codeC M (A.mark h) c (fun r s' => match r with | .ok f => Q f s' | .error e => E e s') s) (hnb : h ≠ some byPass := by intro x; cases x) :
    wpC M A (run c h) Q E s :=
  fun Γ p i x => by rw [Sem.wp_run]; exact hc _ p rfl (i.enter c h p hnb) (still_enter x)
theorem wpC_runValue {c : Code} {Q : Value → Shared → Prop}
    (hc : codeC M A c (fun r s' => match r with | .ok (.ret v) => Q v s' | .ok _ => False | .error e => E e s') s) :
    wpC M A (runValue c) Q E s := fun Γ p i x => by rw [Sem.wp_runValue]; exact hc _ p rfl (i.enter c none p (by intro x; cases x)) (still_enter x)
theorem wpC_call {f : Value} {pos : List Value} {kw : List (Str × Value)} {Q : Value → Shared → Prop}
    (hc : codeC M A (.call f ⟨pos, kw⟩) (fun r s' => match r with | .ok (.ret v) => Q v s' | .ok _ => False | .error e => E e s') s) :
    wpC M A (call f pos kw) Q E s := wpC_runValue hc
theorem codeC_of_tree {c : Code} {R : Result → Shared → Prop} (hn : noisy c = false)
    (h : wpC M (A.under c) (M.den c) (fun fin s' => match fin with | .done f => R (.ok f) s' | .again c' => c'.quiet = true ∧ codeC M A c' R s')
      (fun e s' => R (.error e) s') s) : codeC M A c R s := fun Γ p hc hΓ b => by
  rw [wpCode_iff_wp, hc]
  refine Sem.wp_mono M Γ _ (fun fin p' s' h' => ?_) (fun _ _ _ h' => h') p s (h Γ p (hc ▸ hΓ.in) ⟨by rw [hc]; exact hn, b⟩)
  cases fin with
  | done f => exact h'
  | again c' => exact ⟨h'.1, h'.2 (Γ.goto c') p' rfl (hΓ.goto c') b⟩
theorem codeC_loop {c : Code} {R : Result → Shared → Prop} (hn : noisy c = false) (hq : c.quiet = true) (I : Nat → Shared → Prop)
    (turn : ∀ n s, I n s → wpC M (A.under c) (M.den c)
      (fun fin s' => match fin with | .done f => R (.ok f) s' | .again c' => (c' = c ∧ ∃ m, m < n ∧ I m s') ∨ (c'.quiet = true ∧ codeC M A c' R s')) (fun e s' => R (.error e) s') s)
    (n : Nat) (h : I n s) : codeC M A c R s := by
  induction n using Nat.strongRecOn generalizing s with
  | ind n ih =>
    refine codeC_of_tree hn (wpC_mono (turn n s h) (fun fin s' hf => ?_) fun _ _ h' => h')
    cases fin with
    | done f => exact hf
    | again c' =>
      rcases hf with ⟨rfl, m, hm, hI⟩ | hf
      · exact ⟨hq, ih m hm hI⟩
      · exact hf
theorem quiet_dec {id : String} (b : Bool) (hy : noisyIds.contains id = false) : ¬ (b && Builtin.Bytes.decodersThatHold.contains id) = true := by
  have h2 : Builtin.Bytes.decodersThatHold.contains id = false := by
    cases hb : Builtin.Bytes.decodersThatHold.contains id with
    | false => rfl
    | true =>
      rw [List.contains_iff_mem] at hb
      have : noisyIds.contains id = true := by
        unfold noisyIds
        rw [List.contains_iff_mem]
        exact List.mem_append_right _ hb
      rw [this] at hy; cases hy
  rw [h2, Bool.and_false]; exact Bool.false_ne_true
/-- no frame of a still context holds an export -/
theorem wpC_exported {self : Value} {Q : Bool → Shared → Prop} (h : Q false s) : wpC M A (Builtin.Bytes.exported self) Q E s := fun Γ p i x => by
  have no : ∀ y ∈ (Γ.code, p) :: Γ.below, noisy y.1 = false := fun y hy => by
    rcases List.mem_cons.mp hy with rfl | hy
    · exact x.1
    · exact x.2 y hy
  unfold Builtin.Bytes.exported
  rw [Sem.wp_bind']
  show Q (((Γ.code, p) :: Γ.below).any _) s
  refine (congrArg (fun b => Q b s) ?_).mpr h
  rw [List.any_eq_false]
  intro y hy
  have hy := no y hy
  obtain ⟨c, q⟩ := y
  unfold noisy at hy
  dsimp only at hy
  split
  · rename_i heq; cases heq; exact absurd (show noisyIds.contains "bytearray.__contains__" = false from hy) (by decide)
  · rename_i heq; cases heq; exact absurd (show noisyIds.contains "bytearray.__mod__" = false from hy) (by decide)
  · rename_i heq; cases heq; exact absurd (show noisyIds.contains "bytearray.__rmod__" = false from hy) (by decide)
  · rename_i heq; cases heq; exact absurd (show noisyIds.contains "_struct.pack_into.held" = false from hy) (by decide)
  · rename_i heq; cases heq; exact absurd (show noisyIds.contains "bytearray.find.held" = false from hy) (by decide)
  · rename_i heq
    cases heq
    exact quiet_dec _ hy
  · exact Bool.false_ne_true
end
end Mine
end
section -- Bytearr
open PySem PySem.W PySem.Calls PyProof.Rows
set_option Elab.async false
set_option maxRecDepth 100000
set_option maxHeartbeats 8000000
namespace Mine
open Builtin
theorem ba_mro : mroOf (.type "bytearray") = pure [.type "bytearray", .type "object"] := by rw [mroOf_type]; kernel_rfl
theorem ba_lookup_new : typeLookup (.type "bytearray") "__new__" = pure (some (.builtin "bytearray.__new__")) := by rw [typeLookup_type, builtinLookup_eq_fast]; kernel_rfl
theorem ba_slot_init : Slot "bytearray" "__init__" "bytearray.__init__" :=
  .of (owner := "bytearray") (n := "__init__") (by rw [typeLookup_type, builtinLookup_eq_fast]; kernel_rfl) (by decide +kernel) (by decide +kernel) (by decide +kernel)
    (by first | exact .inl (by decide +kernel) | exact .inr (by decide +kernel)) (by rw [isSubtype_type]; kernel_rfl)
theorem ba_called : TypeCalled "bytearray" "bytearray.__new__" "bytearray.__init__" :=
  ⟨by decide +kernel, by decide +kernel, ⟨_, _, ba_mro⟩, madeBy_type ba_mro ba_lookup_new (by decide +kernel), by decide +kernel, by rw [isSubtype_type]; kernel_rfl, ba_slot_init⟩
theorem ba_typeCall (a : Value) : checkTypeCall "bytearray" ⟨[a], []⟩ = pure () := by kernel_rfl
theorem ba_newCall (a : Value) : checkBuiltinCall "bytearray.__new__" ⟨[.type "bytearray", a], []⟩ = pure () := by kernel_rfl
theorem ba_entry_new : entryFor table "bytearray.__new__" = some Builtin.«list.__new__» := entryFor_alias (id' := "list.__new__") (by kernel_rfl) (by first | rfl | decide +kernel) (by decide +kernel) (by kernel_rfl)
theorem ba_entry_init : entryFor table "bytearray.__init__" = some Builtin.«bytearray.__init__» := by first | exact entryFor_of_fast (by kernel_rfl) | exact entryFor_of_tree (by kernel_rfl)
theorem ba_plain_new : plainId "bytearray.__new__" = true := by decide +kernel
theorem ba_owner : ("bytearray.__new__".splitOn ".__new__").headD "" = "bytearray" := by simp +decide [String.splitOn, String.splitOnAux]
theorem ba_sub : isSubtype (.type "bytearray") (.type "bytearray") = pure true := by rw [isSubtype_type]; kernel_rfl
theorem ba_release : typeLookup (.type "bytearray") "__release_buffer__" = pure (some (.builtin "bytearray.__release_buffer__")) := by rw [typeLookup_type, builtinLookup_eq_fast]; kernel_rfl
theorem ba_buffer : typeLookup (.type "bytearray") "__buffer__" = pure (some (.builtin "bytearray.__buffer__")) := by rw [typeLookup_type, builtinLookup_eq_fast]; kernel_rfl
theorem ba_bind (v : Value) : Bytes.bindOptional "bytearray.__init__" "bytearray" ["source", "encoding", "errors"] [v] [] = pure [some v, none, none] := by kernel_rfl
theorem ba_args_init (a v : Value) : argsOk "bytearray.__init__" ⟨[a, v], []⟩ := by unfold argsOk; kernel_rfl

section
variable {prog : Program} {w : World} {A : Around} {E : Value → Shared → Prop} {s : Shared}
theorem ba_code_new (a : Value) {Q₁ : Value → Shared → Prop}
    (h : Q₁ (.ref s.heap.objs.size) { s with heap := s.heap.push { cls := .type "bytearray", data := .bytearray #[] } }) :
    codeAny (model prog w) A (.call (.builtin "bytearray.__new__") ⟨[.type "bytearray", a], []⟩) (wants Q₁ E) s := by
  refine codeAny_of_tree ?_
  show wpAny _ A.in1 (do checkBuiltinCall "bytearray.__new__" ⟨[.type "bytearray", a], []⟩; again (.builtin "bytearray.__new__" ⟨[.type "bytearray", a], []⟩)) _ _ s
  refine wpAny_bind (wpAny_of_eq (ba_newCall a) (wpAny_pure ⟨plainId_quiet ba_plain_new _, codeAny_builtin_stack ba_entry_new rfl fun p st => ?_⟩))
  rw [Around.under_plainId ba_plain_new _]
  have hsub := ba_sub
  have hown := ba_owner
  obtain ⟨hp, g, d, tk, os⟩ := s
  simp only [hown]
  wp_walk
  exact h
end
end Mine
end
section -- Bytearr2
open PySem PySem.W PySem.Calls PyProof.Rows
set_option Elab.async false
set_option maxRecDepth 100000
set_option maxHeartbeats 8000000
namespace Mine
open Builtin
section
variable {prog : Program} {w : World} {A : Around} {E : Value → Shared → Prop} {s : Shared}
theorem ba_endsR : ("bytearray.__release_buffer__" : String).endsWith ("." ++ "__release_buffer__") = true := by decide +kernel
theorem ba_endsB : ("bytearray.__buffer__" : String).endsWith ("." ++ "__buffer__") = true := by decide +kernel
theorem ba_dropR : ("bytearray.__release_buffer__" : String).dropRight ("__release_buffer__".length + 1) = "bytearray" := by decide +kernel
theorem ba_dropB : ("bytearray.__buffer__" : String).dropRight ("__buffer__".length + 1) = "bytearray" := by decide +kernel
theorem ba_ownSlotR {v : Value} {M : Model} {Q : Bool → Shared → Prop} (hT : s.TypeIs v "bytearray") (h : Q true s) : wpAny M A (Bytes.slotIsOwn v "__release_buffer__") Q E s := by
  unfold Bytes.slotIsOwn
  refine wpAny_bind (wpAny_specialOf hT ba_release ?_)
  dsimp only
  rw [ba_endsR]
  simp only [Bool.not_true, Bool.false_eq_true, if_false]
  show wpAny M A (isInstance v (.type (("bytearray.__release_buffer__" : String).dropRight ("__release_buffer__".length + 1)))) _ _ _
  rw [ba_dropR]
  exact wpAny_isInstance hT ba_sub h
theorem ba_ownSlotB {v : Value} {M : Model} {Q : Bool → Shared → Prop} (hT : s.TypeIs v "bytearray") (h : Q true s) : wpAny M A (Bytes.slotIsOwn v "__buffer__") Q E s := by
  unfold Bytes.slotIsOwn
  refine wpAny_bind (wpAny_specialOf hT ba_buffer ?_)
  dsimp only
  rw [ba_endsB]
  simp only [Bool.not_true, Bool.false_eq_true, if_false]
  show wpAny M A (isInstance v (.type (("bytearray.__buffer__" : String).dropRight ("__buffer__".length + 1)))) _ _ _
  rw [ba_dropB]
  exact wpAny_isInstance hT ba_sub h
theorem ba_ownRelease {v : Value} {M : Model} {Q : Bool → Shared → Prop} (hT : s.TypeIs v "bytearray") (h : Q false s) : wpAny M A (Bytes.ownRelease v) Q E s := by
  unfold Bytes.ownRelease
  exact wpAny_bind (ba_ownSlotR hT (wpAny_pure h))
theorem ba_write {a : Addr} {b : Array UInt8} {n : Nat} {o : Obj} {M : Model} {f : Array UInt8 → Array UInt8} {Q : Unit → Shared → Prop} (ho : s.heap.get? a = some o) (hd : o.data = .bytearray b n) (hz : (f b).size ≤ sizeLine)
    (h : Q () { s with heap := s.heap.update a (Obj.mapBytearray f) }) : wpAny M A (Bytes.write (.ref a) f) Q E s := by
  show wpAny _ _ (updateBytearray a f) _ _ _
  unfold updateBytearray
  refine wpAny_bind (wpAny_load ho ?_)
  rw [hd]
  show wpAny _ _ (update a (Obj.mapBytearray f) >>= fun _ => lookBehind a) _ _ _
  refine wpAny_bind (wpAny_update ho ?_)
  obtain ⟨c, d, dt, sl⟩ := o
  dsimp only at hd
  subst hd
  have hS : (s.heap.update a (Obj.mapBytearray f)).get? a = some ⟨c, d, .bytearray (f b) n, sl⟩ := Heap.get?_update_self (Obj.mapBytearray f) ho rfl
  refine wpAny_lookBehind hS ?_ h
  show (if (f b).size > sizeLine then some "bytearray:memory" else none) = none
  rw [if_neg (Nat.not_lt.mpr hz)]

/-- bytearray(n) lays n zeros -/
theorem ba_init {a : Addr} {n : Int} {t : Tok} {Q : Fin → Shared → Prop} (ho : s.heap.get? a = some { cls := .type "bytearray", data := .bytearray #[] }) (h0 : 0 < n) (h1 : n ≤ 16777216)
    (h : ∀ h' : Heap, Heap.SameBut a s.heap h' → h'.get? a = some { cls := .type "bytearray", data := .bytearray (Array.replicate n.toNat 0) } → Q (.done (.ret .none)) { s with heap := h' }) :
    wpC (model prog w) A (Builtin.«bytearray.__init__» ⟨[.ref a, .int n t], []⟩) Q E s := by
  have hT : s.TypeIs (.ref a) "bytearray" := ⟨_, ho, rfl⟩
  unfold Builtin.«bytearray.__init__»
  refine wpC_step (wpC_of (ba_ownRelease hT ?_))
  refine wpC_false rfl ?_
  refine wpC_step (wpC_eq (ba_bind _) ?_)
  dsimp only
  refine wpC_step (wpC_eq (a := ()) rfl ?_)
  refine wpC_step (wpC_eq (a := ()) rfl ?_)
  refine wpC_step ?_
  show wpC _ _ (Bytes.exported (.ref a) >>= _) _ _ _
  refine wpC_step (wpC_exported ?_)
  dsimp only [ToBool.toBool]
  show wpC _ _ (Bytes.exportsOf (.ref a) >>= _) _ _ _
  refine wpC_of (wpAny_bind ?_)
  unfold Bytes.exportsOf
  refine wpAny_bind (wpAny_load ho ?_)
  refine wpAny_pure (wpAny_pure ?_)
  refine wpC_of (bm_if_false (by decide) ?_)
  refine wpAny_bind (ba_write ho rfl (Nat.zero_le _) ?_)
  have ho₁ : (s.heap.update a (Obj.mapBytearray fun _ => #[])).get? a = some { cls := .type "bytearray", data := .bytearray #[] } := Heap.get?_update_self (Obj.mapBytearray fun _ => #[]) ho rfl
  refine wpAny_bind (wpAny_of_eq (a := Option.none) rfl ?_)
  refine bm_if_false rfl ?_
  refine wpAny_bind (wpAny_of_eq (a := ()) rfl ?_)
  refine wpAny_bind (wpAny_specialOf (T := "int") (typeIs_int _ _ _) F.slot_int_index.lookup ?_)
  refine bm_if_true rfl ?_
  refine wpAny_bind (wpAny_attempt (wpAny_of_eq (a := n) rfl ?_))
  dsimp only
  refine bm_if_false (by unfold Bytes.fitsIndex; simp only [Bool.not_eq_false', Bool.and_eq_true, decide_eq_true_eq]; omega) ?_
  rw [if_neg (by omega)]
  refine bm_if_false (by simp only [beq_eq_false_iff_ne, ne_eq]; omega) ?_
  refine bm_if_false (by unfold Bytes.tooLong; rw [sizeLine_eq]; simp only [decide_eq_false_iff_not]; omega) ?_
  refine wpAny_bind (wpAny_rule ?_)
  rw [if_pos h0]
  refine wpAny_bind (ba_write ho₁ rfl (by rw [Array.size_replicate, sizeLine_eq]; omega) ?_)
  refine wpAny_pure ?_
  refine h _ ?_ ?_
  · exact Heap.SameBut.trans (Heap.SameBut.update ..) (Heap.SameBut.update ..)
  · exact Heap.get?_update_self (Obj.mapBytearray fun _ => Array.replicate n.toNat 0) ho₁ rfl
end
end Mine
end
section -- Bytearr3
open PySem PySem.W PySem.Calls PyProof.Rows
set_option Elab.async false
set_option maxRecDepth 100000
set_option maxHeartbeats 8000000
namespace Mine
open Builtin
section
variable {prog : Program} {w : World} {A : Around} {E : Value → Shared → Prop} {s : Shared}
theorem codeC_builtin {R : Result → Shared → Prop} {id : String} {args : Args} {b : Builtin} (hn : noisy (.builtin id args) = false) (hb : entryFor table id = some b)
    (h : wpC (model prog w) (A.under (.builtin id args)) (b args)
      (fun fin s' => match fin with | .done f => R (.ok f) s' | .again c' => c'.quiet = true ∧ codeC (model prog w) A c' R s') (fun e s' => R (.error e) s') s) :
    codeC (model prog w) A (.builtin id args) R s := by
  refine codeC_of_tree hn ?_
  show wpC _ _ (match entryFor table id with | some b => b args | none => unsupported ((withoutEnding? id "#data").getD id)) _ _ s
  rw [hb]; exact h
theorem codeC_call_builtin {R : Result → Shared → Prop} {id : String} {args : Args} {b : Builtin} (hq : plainId id = true) (hn : noisy (.builtin id args) = false) (hb : entryFor table id = some b)
    (h : wpAny (model prog w) A.in1 (checkBuiltinCall id args) (fun _ s₁ => wpC (model prog w) A.in1 (b args)
      (fun fin s' => match fin with | .done f => R (.ok f) s' | .again c' => c'.quiet = true ∧ codeC (model prog w) A c' R s') (fun e s' => R (.error e) s') s₁)
      (fun e s' => R (.error e) s') s) : codeC (model prog w) A (.call (.builtin id) args) R s := by
  refine codeC_of_tree rfl ?_
  show wpC _ A.in1 (do checkBuiltinCall id args; again (.builtin id args)) _ _ s
  refine wpC_step (wpC_of (wpAny_mono h (fun _ s₁ h₁ => wpC_pure ⟨plainId_quiet hq _, codeC_builtin hn hb ?_⟩) fun _ _ x => x))
  rw [Around.under_plainId hq args]
  exact h₁
theorem ba_call {n : Int} {t : Tok} {Q : Value → Shared → Prop} (h0 : 0 < n) (h1 : n ≤ 16777216)
    (h : ∀ (h' : Heap) (a : Addr), a = s.heap.objs.size → (∀ b o, s.heap.get? b = some o → h'.get? b = some o) → h'.get? a = some { cls := .type "bytearray", data := .bytearray (Array.replicate n.toNat 0) } → Q (.ref a) { s with heap := h' }) :
    wpC (model prog w) A (call (.type "bytearray") [.int n t]) Q E s := by
  obtain ⟨c, tl, hmro⟩ := ba_called.mro
  refine wpC_call (codeC_of_tree rfl ?_)
  show wpC _ A.in1 (callAny (.type "bytearray") ⟨[.int n t], []⟩) _ _ _
  refine wpC_pure ⟨Code.quiet_builtin _ (by decide +kernel), codeC_builtin (show noisyIds.contains "type.__call__" = false by decide +kernel) F.entry_type_call ?_⟩
  rw [Around.under_plain (weight_type_call_type "bytearray" [.int n t] []) rfl]
  unfold Builtin.«type.__call__»
  dsimp only
  refine wpC_false ba_called.notType ?_
  refine wpC_false ba_called.canCreate ?_
  refine wpC_step (wpC_eq (ba_typeCall _) ?_)
  refine wpC_step (wpC_eq hmro ?_)
  refine wpC_false rfl ?_
  refine wpC_step (wpC_eq ba_called.made ?_)
  dsimp only
  refine wpC_step (wpC_pure ?_)
  refine wpC_step (wpC_holding (wpC_call (codeC_mono (codeC_of (ba_code_new (Q₁ := fun obj s₁ => obj = .ref s.heap.objs.size ∧ s₁ = { s with heap := s.heap.push { cls := .type "bytearray", data := .bytearray #[] } }) (E := fun e s' => E e s') _ ⟨rfl, rfl⟩)) fun r s₁ hr => ?_)))
  cases r with
  | error e => exact hr
  | ok fl =>
    cases fl with
    | ret obj =>
      obtain ⟨rfl, rfl⟩ := hr
      have hS : (s.heap.push { cls := .type "bytearray", data := .bytearray #[] }).get? s.heap.objs.size = some { cls := .type "bytearray", data := .bytearray #[] } := Heap.get?_push_size _ rfl
      have hT : ({ s with heap := s.heap.push { cls := .type "bytearray", data := .bytearray #[] } } : Shared).TypeIs (.ref s.heap.objs.size) "bytearray" := ⟨_, hS, rfl⟩
      refine wpC_step (wpC_of (wpAny_isInstance hT ba_sub ?_))
      refine wpC_false rfl ?_
      refine wpC_step (wpC_holding ?_)
      unfold callSpecial?
      refine wpC_step (wpC_of (wpAny_specialOf hT ba_slot_init.lookup ?_))
      dsimp only
      refine wpC_holding (wpC_step (wpC_eq (ba_slot_init.bind _) ?_))
      dsimp only
      refine wpC_step (wpC_call (codeC_call_builtin ba_slot_init.plain (show noisyIds.contains "bytearray.__init__" = false by decide +kernel) ba_entry_init (ba_slot_init.check _ _ _ _ _ _ _ _ hT (ba_args_init _ _) ?_)))
      refine ba_init hS h0 h1 fun h' hs hb => ?_
      dsimp only
      refine wpC_pure ?_
      dsimp only
      refine wpC_false rfl ?_
      refine wpC_pure ?_
      refine h h' _ rfl (fun b o e => hs.extBut b o (Nat.ne_of_lt (Heap.lt_size e)) (Heap.get?_push_of_some _ e)) hb
    | _ => exact hr.elim
end
end Mine
end
section -- HeadC
open PySem PySem.W PySem.Calls PyProof.Rows
set_option Elab.async false
set_option maxRecDepth 100000
set_option maxHeartbeats 8000000
namespace Mine
theorem caller_still : Still (⟨.builtin "claim.caller" {}, none, none, [], none⟩ : Ctx) :=
  ⟨show noisyIds.contains "claim.caller" = false by decide +kernel, fun _ hx => nomatch hx⟩
theorem wp_of_wpC_done {M : Model} {A : Around} {Γ : Ctx} {t : Sem Fin} {R : Result → Shared → Prop} {s : Shared} (hin : Γ.In A) (hst : Still Γ)
    (h : wpC M A t (fun fin s' => ∃ f, fin = .done f ∧ R (.ok f) s') (fun e s' => R (.error e) s') s) (p : Pos) :
    Sem.wp M Γ t (Sem.finPost M Γ R) (fun e _ s' => R (.error e) s') p s := by
  refine Sem.wp_mono M Γ t (fun fin p' s' h' => ?_) (fun _ _ _ h' => h') p s (h Γ p hin hst)
  obtain ⟨f, rfl, hf⟩ := h'
  exact hf
theorem thread_ends_C {prog : Program} {w : World} {t : Sem Fin} {s : Shared} {R : Result → Shared → Prop} (hreg : s.asleep)
    (h : wpC (model prog w) callerA t (fun fin s' => ∃ f, fin = .done f ∧ (R (.ok f) s' ∧ leftWithCleanup s'.gens = false)) (fun e s' => R (.error e) s' ∧ leftWithCleanup s'.gens = false) s) :
    ∃ n r s' s'', runN (denote table) prog w n s ⟨t, .builtin "claim.caller" {}, default, []⟩ = .halted (outcomeOf r) s' ∧
      schedN (denote table) prog w n (.single s ⟨t, .builtin "claim.caller" {}, default, []⟩) = .halted (outcomeOf r) s' ∧ s'.forget = s''.forget ∧ R r s'' := by
  obtain ⟨n, r, s₁, s₂, hs, hn, hfo, hR⟩ := wp_halts_full (M := model prog w) (R := R) hreg (wp_of_wpC_done (R := fun r s' => R r s' ∧ leftWithCleanup s'.gens = false) caller_in caller_still h default)
  exact ⟨n, r, s₂, s₁, hn, hs, hfo, hR⟩
theorem callFrom_C {c : ClaimW} {tree : List Value → Sem Fin} {w : World} {s : Shared} {free : Addr → Prop} {gens : Prop} {kept : Heap → Prop} (hz : s.asleep) (hgens : s.gens = #[])
    (hspec : ∀ args, c.pre args = true → WData.layableAll args = true →
      ∀ ord : List DictEntry → List DictEntry, (∀ l, (ord l).Perm l) →
      ∃ vs s₁, layAllW c.records (classAt s.heap) w.params ord args s = some (vs, s₁) ∧
        wpC (model c.prog w) callerA (tree vs) (fun fin s' => ∃ f, fin = .done f ∧ (c.Ends s args vs s₁ (.ok f) s' ∧ s'.os = s.os ∧ AllBare s'.gens ∧ kept s'.heap))
          (fun e s' => c.Ends s args vs s₁ (.error e) s' ∧ s'.os = s.os ∧ AllBare s'.gens ∧ kept s'.heap) s₁) :
    c.CallFrom (fun vs => ⟨tree vs, .builtin "claim.caller" {}, default, []⟩) w free gens kept s := by
  intro args hpre hlay ord hord
  obtain ⟨vs, s₁, hlaid, hcode⟩ := hspec args hpre hlay ord hord
  have hal := layAllW_rest _ _ _ hlaid
  obtain ⟨k, r, s', s'', hrun, hsched, hfo, hcase, hos, hkp⟩ := thread_ends_C (prog := c.prog) (w := w) (t := tree vs) (s := s₁)
    (R := fun r s' => c.Ends s args vs s₁ r s' ∧ s'.os = s.os ∧ kept s'.heap)
    (Shared.asleep_of_life hal.2.2.2 hz)
    (wpC_mono hcode (by
      rintro fin s' ⟨f, e, h1, h2, h3, h4⟩
      exact ⟨f, e, ⟨h1, h2, h4⟩, leftWithCleanup_false_of_bare h3⟩) (by
      rintro e s' ⟨h1, h2, h3, h4⟩
      exact ⟨⟨h1, h2, h4⟩, leftWithCleanup_false_of_bare h3⟩))
  obtain ⟨eh, _, _, eo, _⟩ := Shared.forget_eq hfo
  have hcase' : c.Ends s args vs s₁ r s' := by
    unfold ClaimW.Ends at hcase ⊢
    rw [eh]; exact hcase
  have hkp' : kept s'.heap := by rw [eh]; exact hkp
  have hos' : s'.os = s.os := by rw [eo]; exact hos
  have hlife : s'.heap.life = s.heap.life := (runN_life _ _ _ hrun).trans hal.2.2.2
  refine ⟨vs, s₁, hlaid, k, _, s', hsched, ?_, (fun _ i x hx => by rw [hgens] at hx; simp at hx), hkp', by rw [hlife], Shared.rest_eq hos'⟩
  rcases hcase' with ⟨v, rfl, d1, d2, d3, d4, d5⟩ | ⟨e, ob, cls, rfl, d1, d2, d3, d4, d5⟩
  · exact .inl ⟨v, rfl, d1, d2, d3, fun b o y _ => d4 b o y, d5⟩
  · exact .inr ⟨e, ob, cls, rfl, d1, d2, d3, d4, fun b o y _ => d5 b o y⟩

abbrev WalkC (q : Program) (loose : List Str) (XP : (Str → Option Value) → Heap → Prop) (YP : World → Heap → Prop) (r : RowW) (d : DefRec) (kwd : List (Str × Expr)) : Prop :=
  ∀ (w : World) (s₀ s₁ : Shared) (mg mb : Str → Option Value), Ground q loose r.records XP w s₀ mg mb s₁.heap → YP w s₁.heap → ∀ (a : Addr) (o : Obj) (pm cd doc dV kV : Value), s₁.heap.get? a = some o →
    o.data = .func { docDef d.name d.params d.body d.scope pm cd doc with defaults := dV, kwdefaults := kV } → s₁.heap.CodeRec cd d.name → Dflts mg s₁.heap d.params kwd dV kV → mg d.name = some (.ref a) → s₁.gens = #[] →
    ∀ (args : List WData) (vals : List Value) (as : List Addr), r.claim.pre args = true → WData.layableAll args = true → ReadsAllW r.records (classAt s₀.heap) s₁.heap vals args as → WellAll w.params s₁.heap vals args → (∀ a ∈ as, (a == sysModules) = false) →
      codeC (model r.prog w) callerA (.call (.ref a) ⟨vals, []⟩) (GoodWG r.claim (classAt s₀.heap) (ExcName.means s₀.heap) args s₁) s₁

end Mine
namespace Mine.PySem.W
/-- the head of an open law, over the refined walk: a name of my own (Mine.PySem.W.holds_open); within namespace Mine the library's head line finds it ahead of the library's own -/
theorem holds_open {r : OpenRow} {q : Program} {loose : List Str} {Xt : Shared → Bool} {XP : (Str → Option Value) → Heap → Prop} {α : Type} {Yf : Shared → α} {Ya : World → α} {YP : World → Heap → Prop} {d : DefRec} {kwd : List (Str × Expr)} {N : Nat}
    (left : LeftO r.prog q loose Xt Yf Ya N) (hY : ∀ w s, Yf s = Ya w → YP w s.heap) (hYk : ∀ w h h', YP w h → (∀ b o, h.get? b = some o → h'.get? b = some o) → YP w h')
    (hX : ∀ s, Xt s = true → XP (s.heap.nsMap mainGlobals) s.heap) (hXk : ∀ mg h h', XP mg h → (∀ b o, h.get? b = some o → h'.get? b = some o) → XP mg h')
    (hdef : defOf q r.name = some (d, kwd)) (hp : r.prog.theDef r.name = some (d.params, d.body, d.scope)) (hk : kwWritten? d.params.kwonlyargs d.params.kw_defaults = some kwd) (hRf : ∀ s, Xt s = true → RecFacts r.records s.heap) (hwr : (!r.writes || r.records.isEmpty) = true)
    (k1 : r.wellSaid = true) (ok : (chainsOk q && opensWell r.prog && (frees r.toRowW && r.within.isEmpty)) = true) (hb : r.prog.bare) (hw : r.toRowW.promised)
    (call : WalkC q loose XP YP r.toRowW d kwd) : r.Holds := by
  refine ⟨k1, hw, ?_⟩
  obtain ⟨ok, k5⟩ := Bool.and_eq_true_iff.mp ok
  obtain ⟨hch, o1⟩ := Bool.and_eq_true_iff.mp ok
  obtain ⟨k5, k6⟩ := Bool.and_eq_true_iff.mp k5
  obtain ⟨hsame, hu, ha, hap, hm⟩ := frees_parts k5
  refine ⟨⟨hb, o1, by show r.toRowW.makers.map _ = []; rw [hm]; rfl⟩, hw.witness, fun w => ⟨(left.behind hX hch w).1, fun s' hs' => ?_⟩⟩
  obtain ⟨s₀, hf, hg0, s, hT, hz, hgens, hg, G00, y⟩ := (left.behind (XP := fun mg h => XP mg h ∧ RecFacts r.records h) (fun s hs => ⟨hX s hs, hRf s hs⟩) hch w).2 s' hs'
  have G0 : Ground q loose [] XP w s (s.heap.nsMap mainGlobals) (s.heap.nsMap builtinsNs) s.heap := ⟨G00.T, G00.B, G00.D, G00.TE, G00.TD, G00.W, G00.X.1, G00.cls, G00.has, G00.apart, G00.once, G00.K⟩
  have RF := G00.X.2
  refine ⟨s₀, hf, hg0, s, hT, fun n hn => ?_, RF.1, RF.2.1, ?_⟩
  · obtain rfl : n = r.name := by split at hn <;> simp_all
    exact pinned_of_view hg G0 hdef hp hk
  have hgens : s.gens = #[] := Array.eq_empty_of_size_eq_zero (beq_iff_eq.mp hgens)
  have G : Ground q loose r.records XP w s _ _ s.heap := RF.ground G0
  refine callFrom_C (c := r.toRowW.claim) (tree := fun vs => do match ← nsGet mainNs r.name with
      | some f => do ret (← _root_.PySem.call f vs)
      | none => unsupported "claim.caller:no-such-global") hz hgens fun args hpre hlay ord hord => ?_
  obtain ⟨⟨vs, s₁⟩, hlaid⟩ := Option.isSome_iff_exists.mp (layAllW_isSome (P := w.params) (ord := ord) G.has args r.args s (pre_splitW hpre).1)
  have keeps := layAllW_keeps _ _ _ hlaid
  have hal := layAllW_rest _ _ _ hlaid
  obtain ⟨as, hrd, hin, hold⟩ := reads_layAllW hord _ _ _ hlaid hlay s₁.heap (fun _ _ e => e)
  have L : Laid r.records w s s₁ args vs as := ⟨⟨ord, hord, hlaid⟩, hrd, hin, hold, keeps, hal.1.trans hgens, hal.2.2.1⟩
  have G₁ := G.keeps hXk keeps
  obtain ⟨a, o, pm, cd, doc, dV, kV, h1, h2, h3, h4, h5⟩ := G₁.fn hdef
  have hi := ident_freeW hu ha hap
  have hwi : r.toRowW.claim.within = [] := List.isEmpty_iff.mp k6
  have C := call w s s₁ _ _ G₁ (hYk _ _ _ (hY w s y) keeps) a o pm cd doc dV kV h2 h3 h4 h5 (defOf_name hdef ▸ h1) L.gens args vs as hpre hlay L.reads L.well (L.low G.low)
  refine ⟨vs, s₁, hlaid, wpC_step (wpC_of (wpAny_nsGet G₁.T.g ?_))⟩
  rw [h1]
  have fin : ∀ res s', GoodWG r.toRowW.claim (classAt s.heap) (ExcName.means s.heap) args s₁ res s' → r.toRowW.claim.Ends s args vs s₁ res s' ∧ s'.os = s.os ∧ AllBare s'.gens ∧ (r.writes = true → namesKept r.prog r.keeps s.heap s'.heap ∧ ∀ x ∈ r.toRowW.claim.records, ∀ a, classAt s.heap x.1 = some a → recordClass s'.heap a x.1 (x.2.map (·.1)) = true) := fun res s' g =>
    have z := g.laid (c := r.toRowW.claim) hsame hwi hi L
    ⟨z.1, z.2.1, z.2.2, fun q => ⟨namesKept_of hT hg r.keeps keeps g.2.1.old, noTable hwr q⟩⟩
  refine wpC_step (wpC_call (codeC_mono C fun res s' g => ?_))
  cases res with
  | error e => exact fin _ _ g
  | ok f =>
    cases f with
    | ret v => exact wpC_pure ⟨_, rfl, fin _ _ g⟩
    | _ =>
      rcases g.1 with ⟨_, _, _, e, _⟩ | ⟨_, _, _, e, _⟩ <;> cases e
end Mine.PySem.W
end
section -- Head2
open PySem PySem.W PyProof.Rows
set_option Elab.async false
set_option maxRecDepth 100000
set_option maxHeartbeats 8000000
namespace Mine
open_top hd for PySem.Challenge.rw_gi0002_01
end Mine
end
section -- RulesC
open PySem PySem.W PySem.Calls PyProof.Rows
set_option Elab.async false
set_option maxRecDepth 100000
set_option maxHeartbeats 8000000
namespace Mine
section
variable {prog : Program} {w : World} {A : Around} {E : Value → Shared → Prop} {s : Shared} {env : Env}
theorem codeC_func {body : List Stmt} {R : Result → Shared → Prop}
    (h : wpC (model prog w) (A.deeper env) (execs body env) (fun f s' => R (.ok (.ret (match f with | .ret v => v | _ => .none))) s') (fun _ _ => False) s) :
    codeC (model prog w) A (.func body env) R s := by
  refine codeC_of_tree rfl ?_
  show wpC _ (A.deeper env) (do point; match ← (execs body env).onRaise (leaving env) with | .ret v => ret v | _ => ret .none) _ _ s
  refine wpC_step (wpC_of (wpAny_point (wpC_step (wpC_onRaise (wpC_mono h (fun f s' h' => ?_) fun _ _ h' => h'.elim)))))
  cases f <;> exact wpC_pure h'
theorem codeC_call_function {R : Result → Shared → Prop} {a : Addr} {args : Args} {o : Obj} {fd : FuncData} {body : List Stmt} (hroom : A.depth < recursionLimit)
    (ho : s.heap.get? a = some o)
    (hd' : o.data = .func fd) (hco : fd.scope.isCoroutine = false) (hgen : fd.scope.isGenerator = false) (hbody : fd.body = .stmts body) (hcd : s.heap.CodeRec fd.code fd.qualname)
    (h : wpAny (model prog w) A.in1 (bindArgs fd args) (fun binds s₁ =>
      wpAny (model prog w) A.in1 (newFunctionEnv fd.scope fd.globals fd.closure binds (fd.qualname ++ ".<locals>.") (some a) fd.code none fd.builtins)
        (fun env s₂ => s₂.heap.NoLimit ∧ codeC (model prog w) A (.func body env) R s₂) (fun e s' => R (.error e) s') s₁) (fun e s' => R (.error e) s') s) :
    codeC (model prog w) A (.call (.ref a) args) R s := by
  refine codeC_of_tree rfl ?_
  show wpC _ A.in1 (callAny (.ref a) args) _ _ s
  simp only [callAny]
  refine wpC_of (wpAny_bind (wpAny_load ho ?_))
  obtain ⟨c, oc, vs, tq, hc, hoc, hdc, hq⟩ := hcd
  simp only [hd', callFunction, hco, hgen, hbody, hc]
  rw [hc] at h
  refine wpAny_bind (m := field (.ref c) 1) (wpAny_field hoc hdc hq (wpAny_bind (wpAny_pure ?_)))
  exact wpAny_bind (wpAny_mono h (fun binds s₁ h₁ => wpAny_bind (wpAny_mono h₁ (fun env s₂ h₂ => wpAny_bind (wpAny_enterFrame h₂.1 hroom
    (wpAny_pure (And.intro rfl h₂.2)))) fun _ _ h' => h')) fun _ _ h' => h')
end

section
variable {prog : Program} {w : World} {A₀ A : Around} {s : Shared} {base h₀ : Heap} {outer : List Env} {L : Addr} {m : Str → Option Value} {env : Env} {news : List (Addr × Obj)}
  {R : Result → Shared → Prop} {name qual : Str} {params : Arguments} {body : List Stmt} {scope : Scope} {cl : List (Str × Addr)} {dV kV doc pm cdv ct : Value} {an : Option Addr} {fo : Obj} {f : Addr} {args : Args} {binds : List (Str × Value)}

theorem callC_plain (B : Below A₀ base outer h₀) (F : Fr h₀ L s.heap m) (N : News h₀ L s.heap news) (hlim : h₀.NoLimit) (hA : A.frames = some (env :: outer)) (hf : env.frame = some L) (hke : env.scope.kind = .function)
    (ho : s.heap.get? f = some fo) (hd : fo.data = .func (fnX name qual params body scope cl dV kV doc pm an cdv ct)) (hcd : s.heap.CodeRec cdv qual) (hroom : A.depth < recursionLimit)
    (hbind : BindsTo s (fnX name qual params body scope cl dV kV doc pm an cdv ct) args binds) (hloc : ∀ y ∈ binds, scope.names.lookup y.1 = some .local)
    (h : ∀ g L' h₁, Fr h₀ L g m → Fr g L' h₁ (fun y => binds.reverse.lookup y) → News g L' h₁ news → Below A base (env :: outer) g → h₀.StaysIn g → (∀ p ∈ news, p.1 < L') →
      wpC (model prog w) (A.deeper (envX qual scope L' f cdv cl)) (execs body (envX qual scope L' f cdv cl))
        (fun fl s' => LeaveK h₀ L m g R (match fl with | .ret v => v | _ => .none) s') (fun _ _ => False)
        { s with heap := h₁, toks := s.toks + binds.length })
    (hcell : ∀ x ∈ scope.names, x.2 ≠ .cell) (hco : scope.isCoroutine = false := by rfl) (hgen : scope.isGenerator = false := by rfl) (hk : scope.kind = .function := by rfl) : codeC (model prog w) A (.call (.ref f) args) R s := by
  obtain ⟨FG, BG, st, lv⟩ := groundX (R := R) B F N hA hf hke
  refine codeC_call_function hroom ho hd hco hgen rfl hcd (hbind _ _ _ _ ?_)
  refine wpAny_newFunctionEnv hcell hloc (fun hp hns₀ hsb₀ => ⟨(hlim.keeps F.keep).fresh _ hsb₀, codeC_func ?_⟩) hk
  have hk₁ : ∀ b o, s.heap.get? b = some o → hp.get? b = some o := fun b o e => hsb₀.extBut b o (Nat.ne_of_lt (Heap.lt_size e)) (Heap.get?_push_of_some _ e)
  exact wpC_mono (h _ s.heap.objs.size hp FG ⟨hns₀, fun b o e => hk₁ b o (of_hideAll _ e), Nat.le_of_eq (hideAll_size _ _)⟩
    (fun p hp => ⟨hk₁ _ _ (N p hp).1, Nat.ne_of_lt (Heap.lt_size (N p hp).1), hideAll_none _ (List.mem_map_of_mem hp)⟩) BG st (fun p hp => Heap.lt_size (N p hp).1)) (fun fl s' hl => lv _ _ hl) fun _ _ y => y

theorem callC_cells (B : Below A₀ base [] h₀) (hB : A.frames = some []) (hlim : s.heap.NoLimit)
    (ho : s.heap.get? f = some fo) (hd : fo.data = .func (fnX name qual params body scope [] dV kV doc pm an cdv ct)) (hcd : s.heap.CodeRec cdv qual) (hroom : A.depth < recursionLimit)
    (hbind : BindsTo s (fnX name qual params body scope [] dV kV doc pm an cdv ct) args binds)
    (hkind : ∀ n, ∀ x ∈ binds, scope.names.lookup x.1 = some .local ∨ (scope.names.lookup x.1 = some .cell ∧ ((cellsFrom n scope.names []).lookup x.1).isSome = true))
    (hnd : ((cellsFrom 0 scope.names []).map (·.1)).Nodup)
    (h : ∀ L' h₁ tk cells, L' = s.heap.objs.size → Fr s.heap L' h₁ (bindL (envOfC qual scope L' f cdv).kindOf binds fun _ => none) → News s.heap L' h₁ cells →
      CellsAre (bindC (envOfC qual scope L' f cdv).kindOf binds fun _ => none) (cellsFrom (L' + 1) scope.names []) cells →
      wpC (model prog w) (A.deeper (envOfC qual scope L' f cdv)) (execs body (envOfC qual scope L' f cdv))
        (fun fl s' => R (.ok (.ret (match fl with | .ret v => v | _ => .none))) s') (fun _ _ => False)
        { s with heap := h₁, toks := tk })
    (hco : scope.isCoroutine = false := by rfl) (hgen : scope.isGenerator = false := by rfl) (hk : scope.kind = .function := by rfl) : codeC (model prog w) A (.call (.ref f) args) R s := by
  refine codeC_call_function hroom ho hd hco hgen rfl hcd (hbind _ _ _ _ ?_)
  refine wpAny_newFunctionEnv_cells hk (hkind _) fun env' he s' x => ?_
  subst he
  refine ⟨hlim.keeps x.toInCall.keep, codeC_func ?_⟩
  obtain ⟨h₁, tk, rfl, _⟩ := x.done
  have hk₁ := x.toInCall.keep
  obtain ⟨cells, NC, Y⟩ := Cl.news (h₀ := s.heap) (Nat.le_refl _) fun n c hm => ⟨x.cell n c (lookup_of_mem_nodup (cellsFrom_names scope.names 0 (s.heap.objs.size + 1) [] [] rfl ▸ hnd) hm), x.above n c hm⟩
  exact h s.heap.objs.size h₁ tk cells rfl ⟨x.toInCall.ns, fun b o e => hk₁ b o e, Nat.le_refl _⟩ NC Y
end

section
variable {prog : Program} {w : World} {A : Around} {E : Value → Shared → Prop} {s : Shared} {env : Env}
theorem execs_C {st : Stmt} {rest : List Stmt} {Q : Flow → Shared → Prop}
    (h : wpC (model prog w) A (exec st env) (fun f s' => match f with | .next => wpC (model prog w) A (execs rest env) Q E s' | f => Q f s') E s) :
    wpC (model prog w) A (execs (st :: rest) env) Q E s := by
  rw [execs_cons]
  refine wpC_step (wpC_mono h (fun f s' h' => ?_) fun _ _ x => x)
  cases f <;> first | exact h' | exact wpC_pure h'
theorem Assign_Name_C {x : Str} {px pos : Pos} {value : Expr} {Q : Flow → Shared → Prop}
    (h : wpC (model prog w) A (eval value env) (fun v s₁ => wpAny (model prog w) A (storeName env x v) (fun _ => Q .next) E s₁) E s)
    (hs : swapsWith value (some (.Name x px)) pos.line env = pure false := by rfl) :
    wpC (model prog w) A (exec (.Assign [.Name x px] value pos) env) Q E s := by
  rw [exec_Assign_Name env x px value pos hs]
  refine wpC_step (wpC_standAt (wpC_step (wpC_mono h (fun v s₁ h₁ => ?_) fun _ _ x => x)))
  exact wpC_step (wpC_standAt (wpC_step (wpC_of (wpAny_bindName (wpAny_mono h₁ (fun _ _ q => wpC_pure q) fun _ _ x => x)))))
theorem Assign_Tuple_C {elts : List Expr} {k : Nat} {tpos pos : Pos} {value : Expr} {Q : Flow → Shared → Prop}
    (h : wpC (model prog w) A (eval value env) (fun v s₁ => wpAny (model prog w) A (assign (.Tuple elts k tpos) env v) (fun _ => Q .next) E s₁) E s)
    (hs : swapsWithSole [.Tuple elts k tpos] value pos.line env = pure false := by rfl)
    (hw : swappedStores [.Tuple elts k tpos] value env = pure none := by rfl) :
    wpC (model prog w) A (exec (.Assign [.Tuple elts k tpos] value pos) env) Q E s := by
  rw [exec_Assign]
  refine wpC_step (wpC_standAt ?_)
  rw [hs]
  refine wpC_step (wpC_pure ?_)
  rw [if_neg (by decide)]
  refine wpC_step (wpC_mono h (fun v s₁ h₁ => ?_) fun _ _ x => x)
  rw [hw]
  refine wpC_step (wpC_pure ?_)
  show wpC _ A (do assignAll v [assign (.Tuple elts k tpos) env]; pure .next) Q E s₁
  exact wpC_step (wpC_of (wpAny_mono h₁ (fun _ _ x => wpC_pure x) fun _ _ x => x))
theorem Tuple_C {elts : List Expr} {k : Nat} {pos : Pos} {Q : Value → Shared → Prop}
    (h : wpC (model prog w) A (spliced (backTo pos (starEach elts env))) (fun vs s₁ => wpAny (model prog w) A (newTuple vs) Q E s₁) E s) : wpC (model prog w) A (eval (.Tuple elts k pos) env) Q E s := by
  show wpC _ A (do standAt pos; newTuple (← spliced (backTo pos (starEach elts env)))) Q E s
  exact wpC_step (wpC_standAt (wpC_step (wpC_mono h (fun _ _ q => wpC_of q) fun _ _ x => x)))
theorem spliced_C {x : Sem Value} {rest : List (Bool × Sem Value)} {Q : List Value → Shared → Prop}
    (h : wpC (model prog w) A x (fun v s₁ => wpC (model prog w) A (spliced rest) (fun vs s₂ => Q (v :: vs) s₂) E s₁) E s) : wpC (model prog w) A (spliced ((false, x) :: rest)) Q E s := by
  rw [spliced]
  refine wpC_step (wpC_mono h (fun v s₁ h₁ => ?_) fun _ _ x => x)
  simp only [Bool.false_eq_true, if_false]
  exact wpC_step (wpC_pure (wpC_step (wpC_holding (wpC_mono h₁ (fun vs s₂ h₂ => wpC_pure h₂) fun _ _ x => x))))
theorem IfExp_C {test body orelse : Expr} {pos : Pos} {Q : Value → Shared → Prop}
    (h : wpAny (model prog w) A (isTrue test env (eval test env)) (fun b s₁ => if b then wpC (model prog w) A (eval body env) Q E s₁ else wpC (model prog w) A (eval orelse env) Q E s₁) E s) :
    wpC (model prog w) A (eval (.IfExp test body orelse pos) env) Q E s := by
  rw [eval_IfExp]
  refine wpC_step (wpC_of (wpAny_mono h (fun b s₁ h₁ => ?_) fun _ _ x => x))
  cases b <;> exact h₁
theorem operate_C {vs : List Value} {m : Sem Value} {Q : Value → Shared → Prop} (h : wpAny (model prog w) A m Q E s) : wpAny (model prog w) A (operate vs m) Q E s := fun Γ p i => by
  rw [Sem.wp_operate]; exact h Γ p i
theorem BinOp_C {l r : Expr} {op : Operator} {pos : Pos} {Q : Value → Shared → Prop}
    (h : wpAny (model prog w) A (eval l env) (fun a s₁ => wpC (model prog w) A (eval r env) (fun b s₂ => wpAny (model prog w) A (binaryOp op a b) Q E s₂) E s₁) E s) :
    wpC (model prog w) A (eval (.BinOp l op r pos) env) Q E s := by
  rw [eval_BinOp]
  refine wpC_step (wpC_of (wpAny_mono h (fun a s₁ h₁ => ?_) fun _ _ x => x))
  refine wpC_step (wpC_holding (wpC_mono h₁ (fun b s₂ h₂ => ?_) fun _ _ x => x))
  exact wpC_step (wpC_standAt (wpC_of (operate_C h₂)))
theorem callWith_C {P : Heap → Prop} {pos : Pos} {f : Value} {first : List Value} {args : List (Bool × Sem Value)} {keywords : List (Option Str × Sem Value)} {Q : Value → Shared → Prop} (hplain : (args.any (·.1) || keywords.any (·.1.isNone)) = false)
    (hk : ∀ h, P h → ∃ k, (k = Keeper.frame ∨ k = Keeper.machine ∨ k = Keeper.boundFrame) ∧ Looks (model prog w) h (keeperOf f) k)
    (h : wpAny (model prog w) A (evalArgs f true args keywords) (fun a s₁ => P s₁.heap ∧ wpC (model prog w) A (call f (first ++ a.pos) a.kw) Q E s₁) E s) : wpC (model prog w) A (callWith pos f first args keywords) Q E s := by
  unfold callWith
  refine wpC_step (wpC_holding (wpC_of (wpAny_mono h (fun a s₁ h₁ => wpC_step (wpC_standAt ?_)) fun _ _ x => x)))
  obtain ⟨k, hk', L⟩ := hk _ h₁.1
  simp only [hplain]
  refine wpC_step (wpC_of (L.here ?_))
  have tail : ∀ {t : Sem Value}, wpC (model prog w) A t Q E s₁ → wpC (model prog w) A (t >>= fun r => holding [r] point >>= fun _ => pure r) Q E s₁ :=
    fun ht => wpC_step (wpC_mono ht (fun r s₂ hr => wpC_step (wpC_holding (wpC_of (wpAny_point (wpC_pure hr))))) fun _ _ x => x)
  have marked (mk : Value) : wpC (model prog w) A (callMarked mk f (first ++ a.pos) a.kw) Q E s₁ := by unfold callMarked; exact wpC_keep h₁.2
  rcases hk' with rfl | rfl | rfl <;> dsimp only <;> first | exact tail h₁.2 | (split <;> first | exact tail h₁.2 | exact tail (marked _))
theorem eval_Call_Name (x : Str) (px : Pos) (args : List Expr) (ks : List Keyword) (pos : Pos) : eval (.Call (.Name x px) args ks pos) env = (do
    callWith pos (← eval (.Name x px) env) [] (backTo pos (starEach args env)) (backToKw pos (keywordEach ks env))) := rfl
theorem Call_C {P : Heap → Prop} {x : Str} {px pos : Pos} {e : Expr} {rest : List Expr} {f : Value} {Q : Value → Shared → Prop}
    (hk : ∀ h, P h → ∃ k, (k = Keeper.frame ∨ k = Keeper.machine ∨ k = Keeper.boundFrame) ∧ Looks (model prog w) h (keeperOf f) k)
    (h : wpAny (model prog w) A (eval (.Name x px) env) (fun f' s₀ => f' = f ∧ wpAny (model prog w) A (spliced (backTo pos (starEach (e :: rest) env))) (fun vs s₁ => P s₁.heap ∧ wpC (model prog w) A (call f vs) Q E s₁) E s₀) E s)
    (he : starEach (e :: rest) env = (false, eval e env) :: starEach rest env := by rfl) (hplain : (backTo pos (starEach rest env)).any (·.1) = false := by rfl) :
    wpC (model prog w) A (eval (.Call (.Name x px) (e :: rest) [] pos) env) Q E s := by
  rw [eval_Call_Name]
  refine wpC_step (wpC_of (wpAny_mono h (fun f' s₀ h₀ => ?_) fun _ _ x => x))
  obtain ⟨rfl, h₀⟩ := h₀
  rw [he] at h₀ ⊢
  exact callWith_C (by show ((false || (backTo pos (starEach rest env)).any (·.1)) || false) = false; rw [hplain]; rfl) hk (evalArgs_plain h₀)
theorem keeps_type (n : String) (h : Heap) (_ : True) : ∃ k, (k = Keeper.frame ∨ k = Keeper.machine ∨ k = Keeper.boundFrame) ∧ Looks (model prog w) h (keeperOf (.type n)) k :=
  ⟨.machine, .inr (.inl rfl), Looks.of_pure rfl⟩
end
end Mine
end
section -- ForC
open PySem PySem.W PySem.Calls PyProof.Rows
set_option Elab.async false
set_option maxRecDepth 100000
set_option maxHeartbeats 8000000
namespace Mine
section
variable {prog : Program} {w : World} {A : Around} {s : Shared} {env : Env}
theorem codeC_forLoop {R : Result → Shared → Prop} {target : Expr} {it : Value} {body : List Stmt} (I : Nat → Shared → Prop)
    (turn : ∀ n s, I n s → wpAny (model prog w) A (pyNext it) (fun r s₁ => match r with
      | none => R (.ok .next) s₁
      | some v => wpAny (model prog w) A (assign target env v) (fun _ s₂ => wpC (model prog w) A (execs body env) (fun f s₃ => match f with
          | .next | .cont => ∃ m, m < n ∧ I m s₃
          | .brk => R (.ok .next) s₃
          | .ret v => R (.ok (.ret v)) s₃) (fun _ _ => False) s₂) (fun _ _ => False) s₁) (fun _ _ => False) s)
    (n : Nat) (h : I n s) (ht : ∀ v, letOwnedTupleGo target it v = pure () := by intro _; rfl) : codeC (model prog w) A (.forLoop target it body [] env) R s := by
  refine codeC_loop rfl rfl I (fun n s hI => ?_) n h
  show wpC _ _ ((forTurn target it body [] env).onRaise (fun x => do noteFrame x env; theTreesLotGoes x)) _ _ s
  refine wpC_onRaise (wpC_mono (E := fun _ _ => False) ?_ (fun _ _ x => x) fun _ _ x => x.elim)
  simp only [forTurn]
  refine wpC_step (wpC_standAt (wpC_step (wpC_onRaise (wpC_mono (wpC_of (turn n s hI)) (fun r s₁ h₁ => ?_) fun _ _ h' => h'.elim))))
  cases r with
  | none => exact wpC_pure (.inr ⟨rfl, codeC_of (codeAny_block (wpAny_execs_nil h₁))⟩)
  | some v =>
    refine wpC_step (wpC_eq (ht v) ?_)
    refine wpC_step (wpC_of (wpAny_mono h₁ (fun _ s₂ h₂ => wpC_step (wpC_mono h₂ (fun f s₃ h₃ => ?_) fun _ _ h' => h')) fun _ _ h' => h'))
    cases f with
    | next => exact wpC_pure (.inl ⟨rfl, h₃⟩)
    | cont => exact wpC_pure (.inl ⟨rfl, h₃⟩)
    | brk => exact wpC_pure h₃
    | ret v => exact wpC_pure h₃
theorem For_exec_C {target iter : Expr} {body : List Stmt} {pos : Pos} {Q : Flow → Shared → Prop}
    (h : wpAny (model prog w) A (eval iter env) (fun x s₁ => wpAny (model prog w) A (pyIter x) (fun it s₂ =>
      codeC (model prog w) A (.forLoop target it body [] env) (fun r s' => match r with | .ok f => Q f s' | .error _ => False) s₂) (fun _ _ => False) s₁) (fun _ _ => False) s)
    (hs : ∀ x, foldedSetIterable iter env x = pure x := by intro _; rfl) :
    wpC (model prog w) A (exec (.For target iter body [] pos) env) Q (fun _ _ => False) s := by
  rw [exec_For]
  refine wpC_step (wpC_standAt (wpC_step (wpC_of (wpAny_mono h (fun x s₁ h₁ => ?_) fun _ _ x => x))))
  refine wpC_step (wpC_eq (hs x) (wpC_step (wpC_standAt (wpC_step (wpC_holding (wpC_of (wpAny_mono h₁ (fun it s₂ h₂ => ?_) fun _ _ x => x)))))))
  unfold runOwn
  refine wpC_onRaise (wpC_run (codeC_mono h₂ fun r s' hr => ?_))
  cases r with
  | ok f => exact hr
  | error e => exact hr.elim

/-- a for over a walked source, refined: the state between the turns is said by J -/
theorem For_C {h₀ : Heap} {x : Str} {px pos : Pos} {iter : Expr} {body : List Stmt} {Q : Flow → Shared → Prop} (hx : env.kindOf x = some .local)
    (hp : (env.scope.kind == .class || (env.scope.kind == .module && env.locals != env.globals)) = false)
    (h : wpAny (model prog w) A (eval iter env) (fun xv s₁ => wpAny (model prog w) A (pyIter xv) (fun it s₂ =>
      ∃ (I : Addr) (fp wr : List Addr) (n : Nat) (P : Nat → Value → Prop) (St : Nat → Heap → Prop) (m : Str → Option Value) (news : List (Addr × Obj)) (J : Nat → (Str → Option Value) → List (Addr × Obj) → Prop),
        it = .ref I ∧ Walks prog w A I fp wr n P St ∧ env.locals ∉ fp ∧ (∀ b ∈ wr, h₀.get? b = none) ∧ (∀ p ∈ news, p.1 ∉ wr) ∧ St 0 s₂.heap ∧ Fr h₀ env.locals s₂.heap m ∧ News h₀ env.locals s₂.heap news ∧ J 0 m news ∧
        (∀ i v m₁ news₁ s₁ own, (∃ h tk, s₁ = { s₂ with heap := h, toks := tk }) → i < n → P i v → J i m₁ news₁ → (∀ p ∈ news₁, p.1 ∉ wr) → (∀ p ∈ own, p.1 ∈ fp) →
          Fr h₀ env.locals s₁.heap (fun y => if y = x then some v else m₁ y) → News h₀ env.locals s₁.heap (own ++ news₁) →
          (∀ b ∈ fp, h₀.get? b = none → ∀ o, s₁.heap.get? b = some o → (b, o) ∈ own) → St (i + 1) s₁.heap →
          wpC (model prog w) A (execs body env) (LoopStepU h₀ env.locals wr own (J (i + 1)) s₁) (fun _ _ => False) s₁) ∧
        ∀ h' tk m' news', Fr h₀ env.locals h' m' → News h₀ env.locals h' news' → (∀ p ∈ news', p.1 ∉ wr) → J n m' news' → Q .next { s₂ with heap := h', toks := tk }) (fun _ _ => False) s₁) (fun _ _ => False) s)
    (hs : ∀ x, foldedSetIterable iter env x = pure x := by intro _; rfl) :
    wpC (model prog w) A (exec (.For (.Name x px) iter body [] pos) env) Q (fun _ _ => False) s := by
  refine For_exec_C (wpAny_mono h (fun xv s₁ h₁ => wpAny_mono h₁ (fun it s₂ h₂ => ?_) fun _ _ e => e) fun _ _ e => e) hs
  obtain ⟨I, fp, wr, n, P, St, m, news, J, rfl, W, hLf, hwr, hnw, hst, F, N, h0, step, hQ⟩ := h₂
  have hLw : env.locals ∉ wr := fun h => hLf (W.sub _ h)
  have old : ∀ b o, h₀.get? b = some o → b ∉ wr := fun b o e hb => by rw [hwr b hb] at e; cases e
  refine codeC_forLoop
    (fun k s' => ∃ h' tk m' news' i, s' = { s₂ with heap := h', toks := tk } ∧ St i h' ∧ Fr h₀ env.locals h' m' ∧ News h₀ env.locals h' news' ∧ (∀ p ∈ news', p.1 ∉ wr) ∧ J i m' news' ∧ i ≤ n ∧ k = n + 1 - i) ?_ (n + 1)
    ⟨s₂.heap, s₂.toks, m, news, 0, rfl, hst, F, N, hnw, h0, Nat.zero_le _, rfl⟩
  rintro k s' ⟨h', tk, m', news', i, rfl, hst', F', N', hnw', hJ, hi, rfl⟩
  have next : ∀ h₁ : Heap, (∀ b o, b ∉ wr → h'.get? b = some o → h₁.get? b = some o) → Fr h₀ env.locals h₁ m' ∧ News h₀ env.locals h₁ news' := fun h₁ hk₁ =>
    ⟨⟨F'.ns.at' fun o e => hk₁ _ o hLw e, fun b o e => hk₁ b o (old b o e) (F'.keep b o e), F'.above⟩, fun p hp => ⟨hk₁ _ _ (hnw' p hp) (N' p hp).1, (N' p hp).2⟩⟩
  by_cases hlt : i < n
  · refine W.item i _ _ _ hlt hst' fun v h₁ tk₁ hP hst₁ hk₁ => ?_
    obtain ⟨F₁, N₁⟩ := next h₁ hk₁
    refine wpAny_assign_Name (wpAny_storeName_local hx F₁.ns (fun h₂ hn₂ hs₂ => ?_) hp)
    have F₂ := F₁.set hn₂ hs₂
    have Nown : News h₀ env.locals h₂ (ownOf h₀ fp h₂) := news_ownOf hLf
    refine wpC_mono (step i v m' news' _ (ownOf h₀ fp h₂) ⟨_, _, rfl⟩ hlt hP hJ hnw' ownOf_sub F₂ (Nown.append (N₁.set hs₂)) (fun b hb hn o e => mem_ownOf hb hn e) (W.frame _ _ _ hst₁ fun b hb o e => (hs₂.2 b fun q => hLf (q ▸ hb)).trans e)) (fun f s₃ h₃ => ?_) fun _ _ e => e
    obtain ⟨rfl, h₃', tk₃, m₂, news₂, rfl, F₃, N₃, ha₃, hJ₃⟩ := h₃
    refine ⟨n + 1 - (i + 1), by omega, h₃', tk₃, m₂, news₂, i + 1, rfl, ?_, F₃, N₃.right, ha₃, hJ₃, hlt, rfl⟩
    refine W.frame _ _ _ hst₁ fun b hb o e => ?_
    have e₂ : h₂.get? b = some o := (hs₂.2 b fun q => hLf (q ▸ hb)).trans e
    cases hn : h₀.get? b with
    | some o₀ =>
      have : o₀ = o := by have := F₂.keep b o₀ hn; rw [e₂] at this; exact (Option.some.inj this).symm
      exact this ▸ F₃.keep b o₀ hn
    | none => exact (N₃ _ (List.mem_append_left _ (mem_ownOf hb hn e₂))).1
  · have hin : i = n := by omega
    subst hin
    refine W.done _ _ _ hst' fun h₁ tk₁ hk₁ => ?_
    obtain ⟨F₁, N₁⟩ := next h₁ hk₁
    exact hQ h₁ tk₁ m' news' F₁ N₁ hnw' hJ
end
end Mine
end
section -- Base
open PySem PySem.W PySem.Calls PyProof.Rows
set_option Elab.async false
set_option maxRecDepth 100000
set_option maxHeartbeats 8000000
namespace Mine
/-- the walk halts here -/
def Stop (P : Prop) : Prop := P
theorem Stop.out {P : Prop} (h : Stop P) : P := h
theorem Stop.go {P : Prop} (h : P) : Stop P := h
abbrev AA (dp un : Nat) (fr : Option (List Env)) (gd : Option (List Code)) : Around := { handled := none, depth := dp, frames := fr, guards := gd, units := un }
def Ext (h h' : Heap) : Prop := ∀ b o, h.get? b = some o → h'.get? b = some o
theorem Ext.refl (h : Heap) : Ext h h := fun _ _ e => e
theorem Ext.trans {a b c : Heap} (x : Ext a b) (y : Ext b c) : Ext a c := fun p o e => y p o (x p o e)
/-- what a def of the text tells of a call: nothing that stood turns; Post of the heap before, the heap behind, the value -/
def Tel {D : Type} (w : World) (f : Addr) (Pre : Heap → List Value → D → Prop) (Post : Heap → Heap → Value → D → Prop) (sz : Nat) (d : D) : Prop :=
  ∀ (p : Program) (loose : List Str) (mean : ExcName → Option Value) (mg mb : Str → Option Value) (dp un : Nat) (fr : Option (List Env)) (gd : Option (List Code)) (s : Shared) (vs : List Value) (Q E : Value → Shared → Prop),
    (hd.heap_39 w.params).In s.heap → Top p loose mean mg mb s.heap → Pre s.heap vs d → dp + sz < recursionLimit → un + 8 * sz < cLine →
    (∀ r h' tk', Ext s.heap h' → Post s.heap h' r d → Q r { s with heap := h', toks := tk' }) →
    wpAny (model PySem.Challenge.rw_gi0002_01.row.prog w) (AA dp un fr gd) (call (.ref f) vs) Q E s
/-- the same over the refined walk -/
def TelC {D : Type} (w : World) (f : Addr) (Pre : Heap → List Value → D → Prop) (Post : Heap → Heap → Value → D → Prop) (sz : Nat) (d : D) : Prop :=
  ∀ (p : Program) (loose : List Str) (mean : ExcName → Option Value) (mg mb : Str → Option Value) (dp un : Nat) (fr : Option (List Env)) (gd : Option (List Code)) (s : Shared) (vs : List Value) (Q : Value → Shared → Prop),
    (hd.heap_39 w.params).In s.heap → Top p loose mean mg mb s.heap → Pre s.heap vs d → dp + sz < recursionLimit → un + 8 * sz < cLine →
    (∀ r h' tk', Ext s.heap h' → Post s.heap h' r d → Q r { s with heap := h', toks := tk' }) →
    wpC (model PySem.Challenge.rw_gi0002_01.row.prog w) (AA dp un fr gd) (call (.ref f) vs) Q (fun _ _ => False) s
/-- a told call, from within a frame -/
theorem Tel.at {D : Type} {w : World} {f : Addr} {Pre : Heap → List Value → D → Prop} {Post : Heap → Heap → Value → D → Prop} {sz : Nat} {d : D} (C : Tel w f Pre Post sz d)
    {p : Program} {loose : List Str} {mean : ExcName → Option Value} {mg mb : Str → Option Value} {dp un : Nat} {fr : Option (List Env)} {gd : Option (List Code)} {A : Around} {s : Shared} {vs : List Value} {Q E : Value → Shared → Prop}
    {h₀ : Heap} {L : Addr} {m : Str → Option Value} {news : List (Addr × Obj)}
    (X : (hd.heap_39 w.params).In h₀) (T : Top p loose mean mg mb h₀) (hA : A = AA dp un fr gd) (F : Fr h₀ L s.heap m) (N : News h₀ L s.heap news) (hpre : Pre s.heap vs d) (hd : dp + sz < recursionLimit) (hu : un + 8 * sz < cLine)
    (h : ∀ r h' tk', Fr h₀ L h' m → News h₀ L h' news → Ext s.heap h' → Post s.heap h' r d → Q r { s with heap := h', toks := tk' }) :
    wpAny (model PySem.Challenge.rw_gi0002_01.row.prog w) A (call (.ref f) vs) Q E s := by
  subst hA
  exact C p loose mean mg mb dp un fr gd s vs Q E (Frag.In.keeps X F.keep) (T.keeps F.keep) hpre hd hu fun r h' tk' x y => h r h' tk' (F.keeps x) (N.grown x) x y
theorem TelC.at {D : Type} {w : World} {f : Addr} {Pre : Heap → List Value → D → Prop} {Post : Heap → Heap → Value → D → Prop} {sz : Nat} {d : D} (C : TelC w f Pre Post sz d)
    {p : Program} {loose : List Str} {mean : ExcName → Option Value} {mg mb : Str → Option Value} {dp un : Nat} {fr : Option (List Env)} {gd : Option (List Code)} {A : Around} {s : Shared} {vs : List Value} {Q : Value → Shared → Prop}
    {h₀ : Heap} {L : Addr} {m : Str → Option Value} {news : List (Addr × Obj)}
    (X : (hd.heap_39 w.params).In h₀) (T : Top p loose mean mg mb h₀) (hA : A = AA dp un fr gd) (F : Fr h₀ L s.heap m) (N : News h₀ L s.heap news) (hpre : Pre s.heap vs d) (hd : dp + sz < recursionLimit) (hu : un + 8 * sz < cLine)
    (h : ∀ r h' tk', Fr h₀ L h' m → News h₀ L h' news → Ext s.heap h' → Post s.heap h' r d → Q r { s with heap := h', toks := tk' }) :
    wpC (model PySem.Challenge.rw_gi0002_01.row.prog w) A (call (.ref f) vs) Q (fun _ _ => False) s := by
  subst hA
  exact C p loose mean mg mb dp un fr gd s vs Q (Frag.In.keeps X F.keep) (T.keeps F.keep) hpre hd hu fun r h' tk' x y => h r h' tk' (F.keeps x) (N.grown x) x y
/-- an object that a call made, laid into the ledger -/
theorem ledger_add {h₀ h h' : Heap} {L p : Addr} {m : Str → Option Value} {news : List (Addr × Obj)} {o : Obj} (F : Fr h₀ L h m) (N : News h₀ L h news) (N' : News h₀ L h' news) (hn : h.get? p = none) (ho : h'.get? p = some o) :
    News h₀ L h' ((p, o) :: news) ∧ ∀ q ∈ news, @Ne Nat q.1 p := by
  refine ⟨fun q hq => ?_, fun q hq e => ?_⟩
  · rcases List.mem_cons.mp hq with rfl | hq
    · refine ⟨ho, fun e => ?_, ?_⟩
      · obtain ⟨oL, _, _, hL, _⟩ := F.ns
        have e' : p = L := e
        rw [e', hL] at hn; cases hn
      · show h₀.get? p = none
        cases hc : h₀.get? p with
        | none => rfl
        | some o₀ => rw [F.keep p o₀ hc] at hn; cases hn
    · exact N' _ hq
  · have := (N q hq).1
    rw [e, hn] at this; cases this
/-- one object more, above all -/
theorem grow1 {h₀ h h' : Heap} {L a : Addr} {m : Str → Option Value} {news : List (Addr × Obj)} {o : Obj} (ha : a = h.objs.size) (F : Fr h₀ L h m) (N : News h₀ L h news) (hk : ∀ b o, h.get? b = some o → h'.get? b = some o) (ho : h'.get? a = some o) :
    Fr h₀ L h' m ∧ News h₀ L h' ((a, o) :: news) ∧ ∀ p ∈ news, p.1 < a := by
  subst ha
  refine ⟨F.keeps hk, fun p hp => ?_, fun p hp => Heap.lt_size (N p hp).1⟩
  rcases List.mem_cons.mp hp with rfl | hp
  · exact ⟨ho, Nat.ne_of_gt F.ns.lt, next_is_new F⟩
  · exact ⟨hk _ _ (N p hp).1, (N p hp).2⟩
/-- range(0, n, n) has one turn -/
theorem small_whole {n : Int} (h0 : 0 < n) (h1 : n ≤ 1000) : Builtin.Range.small 0 n n = true := by
  unfold Builtin.Range.small
  have e : Builtin.Range.rangeSize 0 n n = 1 := by
    unfold Builtin.Range.rangeSize
    rw [if_pos (by omega), if_pos (by omega), Int.ediv_eq_zero_of_lt (by omega) (by omega)]
    rfl
  rw [e]
  simp only [Builtin.Range.rangeFitsLong, Bool.and_eq_true, Bool.or_eq_true, decide_eq_true_eq, beq_iff_eq]
  refine ⟨⟨⟨⟨?_, ?_⟩, ?_⟩, ?_⟩, Or.inr ?_⟩
  all_goals (try rw [if_pos (by omega)])
  all_goals (try simp only [decide_eq_true_eq, Bool.and_eq_true])
  all_goals omega
theorem rangeSize_whole {n : Int} (h0 : 0 < n) : Builtin.Range.rangeSize 0 n n = ((1 : Nat) : Int) := by
  unfold Builtin.Range.rangeSize
  rw [if_pos (by omega), if_pos (by omega), Int.ediv_eq_zero_of_lt (by omega) (by omega)]
  rfl
theorem rangeSize_upto (n : Nat) : Builtin.Range.rangeSize 0 (n : Int) 1 = (n : Int) := by
  rw [rangeSize_one]; split <;> omega
theorem small_upto {n : Nat} (h : n ≤ 1000) : Builtin.Range.small 0 (n : Int) 1 = true := small_one (by omega) (by omega) (by omega) (by omega)
section
variable {prog : Program} {w : World} {A : Around} {s : Shared} {K : Frag} {mg mb : Str → Option Value} {p : Program} {loose : List Str} {mean : ExcName → Option Value}
  {R : Result → Shared → Prop} {name qual : Str} {params : Arguments} {body : List Stmt} {scope : Scope} {dV kV doc pm cdv ct oc : Value} {an od : Option Addr} {osl : Array (Option Value)} {f : Addr} {args : Args} {binds : List (Str × Value)}
theorem enterC (X : K.In s.heap) (T : Top p loose mean mg mb s.heap)
    (ho : K.lookup f = some ⟨oc, od, .func (fnOf name qual params body scope dV kV doc pm an cdv ct), osl⟩) (hcd : codeIn K cdv qual = true) (hroom : A.depth < recursionLimit)
    (hbind : BindsTo s (fnOf name qual params body scope dV kV doc pm an cdv ct) args binds) (hloc : ∀ y ∈ binds, scope.names.lookup y.1 = some .local)
    (h : ∀ L h₁, Fr s.heap L h₁ (fun y => binds.reverse.lookup y) → News s.heap L h₁ [] →
      wpC (model prog w) (A.deeper (envOf qual scope L f cdv)) (execs body (envOf qual scope L f cdv))
        (fun fl s' => R (.ok (.ret (match fl with | .ret v => v | _ => .none))) s') (fun _ _ => False) { s with heap := h₁, toks := s.toks + binds.length })
    (hco : scope.isCoroutine = false) (hgen : scope.isGenerator = false) (hk : scope.kind = .function) (hcell : ∀ x ∈ scope.names, x.2 ≠ .cell) : codeC (model prog w) A (.call (.ref f) args) R s := by
  refine codeC_call_function hroom (X _ _ ho) rfl hco hgen rfl (codeRec_of X hcd) (hbind _ _ _ _ ?_)
  refine wpAny_newFunctionEnv hcell hloc (fun hp hns₀ hsb₀ => ⟨T.nolimit.fresh _ hsb₀, codeC_func ?_⟩) hk
  have hk₁ : ∀ b o, s.heap.get? b = some o → hp.get? b = some o := fun b o e => hsb₀.extBut b o (Nat.ne_of_lt (Heap.lt_size e)) (Heap.get?_push_of_some _ e)
  exact h s.heap.objs.size hp ⟨hns₀, hk₁, Nat.le_refl _⟩ News.nil
theorem enter (X : K.In s.heap) (T : Top p loose mean mg mb s.heap)
    (ho : K.lookup f = some ⟨oc, od, .func (fnOf name qual params body scope dV kV doc pm an cdv ct), osl⟩) (hcd : codeIn K cdv qual = true) (hroom : A.depth < recursionLimit)
    (hbind : BindsTo s (fnOf name qual params body scope dV kV doc pm an cdv ct) args binds) (hloc : ∀ y ∈ binds, scope.names.lookup y.1 = some .local)
    (h : ∀ L h₁, Fr s.heap L h₁ (fun y => binds.reverse.lookup y) → News s.heap L h₁ [] →
      wpAny (model prog w) (A.deeper (envOf qual scope L f cdv)) (execs body (envOf qual scope L f cdv))
        (fun fl s' => R (.ok (.ret (match fl with | .ret v => v | _ => .none))) s') (fun _ _ => False) { s with heap := h₁, toks := s.toks + binds.length })
    (hco : scope.isCoroutine = false) (hgen : scope.isGenerator = false) (hk : scope.kind = .function) (hcell : ∀ x ∈ scope.names, x.2 ≠ .cell) : codeAny (model prog w) A (.call (.ref f) args) R s := by
  refine codeAny_call_def (fd := fnOf name qual params body scope dV kV doc pm an cdv ct) hroom (X _ _ ho) rfl T.nolimit (codeRec_of X hcd) rfl hbind hcell hloc (fun h₁ hns hk₁ => ?_) hco hgen hk
  exact wpAny_mono (h s.heap.objs.size h₁ ⟨hns, hk₁, Nat.le_refl _⟩ News.nil) (fun _ _ x => x) fun _ _ x => x.elim
theorem enterCells (X : K.In s.heap) (T : Top p loose mean mg mb s.heap)
    (ho : K.lookup f = some ⟨oc, od, .func (fnOf name qual params body scope dV kV doc pm an cdv ct), osl⟩) (hcd : codeIn K cdv qual = true) (hroom : A.depth < recursionLimit)
    (hbind : BindsTo s (fnOf name qual params body scope dV kV doc pm an cdv ct) args binds) (hkind : (binds.all fun y => scope.names.lookup y.1 == some .local || scope.names.lookup y.1 == some .cell) = true)
    (hnd : ((cellsFrom 0 scope.names []).map (·.1)).Nodup)
    (h : ∀ L h₁ tk cells, Fr s.heap L h₁ (bindL (envOfC qual scope L f cdv).kindOf binds fun _ => none) → News s.heap L h₁ cells →
      CellsAre (bindC (envOfC qual scope L f cdv).kindOf binds fun _ => none) (cellsFrom (L + 1) scope.names []) cells →
      wpAny (model prog w) (A.deeper (envOfC qual scope L f cdv)) (execs body (envOfC qual scope L f cdv))
        (fun fl s' => R (.ok (.ret (match fl with | .ret v => v | _ => .none))) s') (fun _ _ => False) { s with heap := h₁, toks := tk })
    (hco : scope.isCoroutine = false) (hgen : scope.isGenerator = false) (hk : scope.kind = .function) : codeAny (model prog w) A (.call (.ref f) args) R s := by
  refine codeAny_call_function hroom (X _ _ ho) rfl hco hgen rfl (codeRec_of X hcd) (hbind _ _ _ _ ?_)
  refine wpAny_newFunctionEnv_cells hk (kindsX hkind _) fun env' he s' x => ?_
  subst he
  refine ⟨T.nolimit.keeps x.toInCall.keep, codeAny_func ?_⟩
  obtain ⟨h₁, tk, rfl, _⟩ := x.done
  have hk₁ := x.toInCall.keep
  obtain ⟨cells, NC, Y⟩ := Cl.news (h₀ := s.heap) (Nat.le_refl _) fun n c hm => ⟨x.cell n c (lookup_of_mem_nodup (cellsFrom_names scope.names 0 (s.heap.objs.size + 1) [] [] rfl ▸ hnd) hm), x.above n c hm⟩
  exact wpAny_mono (h s.heap.objs.size h₁ tk cells ⟨x.toInCall.ns, fun b o e => hk₁ b o e, Nat.le_refl _⟩ NC Y) (fun _ _ y => y) fun _ _ y => y.elim
end
/-- entering a def: the tactic lines -/
local macro_rules | `(tactic| walk_at "MineEnterC") => `(tactic| (k_dflt (refine' enterC ?k3 ?k5 ?k6 ?k7 ?k8 ?k9 ?kB ?_ ?c2 ?c3 ?c4 ?c5; (case k3 => k_asm); (case k5 => k_asm); (case k6 => k_is); (case k7 => k_is); (case k8 => ktr_room); (case k9 => exact BindsTo.of_eq rfl); (case c5 => decide); (case kB => exact locs rfl); (case c2 => exact rfl); (case c3 => exact rfl); (case c4 => exact rfl); k_whole)))
end Mine
end
section -- BaOps
open PySem PySem.W PySem.Calls PyProof.Rows
set_option Elab.async false
set_option maxRecDepth 100000
set_option maxHeartbeats 8000000
namespace Mine
open Builtin
abbrev baObj (b : Array UInt8) : Obj := { cls := .type "bytearray", data := .bytearray b }
theorem ba_slot_setitem : Slot "bytearray" "__setitem__" "bytearray.__setitem__" :=
  .of (owner := "bytearray") (n := "__setitem__") (by rw [typeLookup_type, builtinLookup_eq_fast]; kernel_rfl) (by decide +kernel) (by decide +kernel) (by decide +kernel)
    (by first | exact .inl (by decide +kernel) | exact .inr (by decide +kernel)) (by rw [isSubtype_type]; kernel_rfl)
theorem ba_entry_setitem : entryFor table "bytearray.__setitem__" = some Builtin.«bytearray.__setitem__» := by first | exact entryFor_of_fast (by kernel_rfl) | exact entryFor_of_tree (by kernel_rfl)
theorem ba_args_setitem (a i v : Value) : argsOk "bytearray.__setitem__" ⟨[a, i, v], []⟩ := by unfold argsOk; kernel_rfl
theorem ba_no_bytes : typeLookup (.type "bytearray") "__bytes__" = pure none := by rw [typeLookup_type, builtinLookup_eq_fast]; kernel_rfl
theorem ba_no_index : typeLookup (.type "bytearray") "__index__" = pure none := by rw [typeLookup_type, builtinLookup_eq_fast]; kernel_rfl
section
variable {prog : Program} {w : World} {A : Around} {E : Value → Shared → Prop} {s : Shared}
theorem ba_setItem0 {a : Addr} {b : Array UInt8} {k v : Int} {t u : Tok} {Q : Unit → Shared → Prop} (ho : s.heap.get? a = some (baObj b)) (h0 : 0 ≤ k) (h1 : k < b.size) (hz : b.size ≤ sizeLine) (v0 : 0 ≤ v) (v1 : v < 256)
    (h : ∀ h' : Heap, Heap.SameBut a s.heap h' → h'.get? a = some (baObj (b.setIfInBounds k.toNat v.toNat.toUInt8)) → Q () { s with heap := h' }) :
    wpAny (model prog w) A (setItem (.ref a) (.int k t) (.int v u)) Q E s := by
  have hT : s.TypeIs (.ref a) "bytearray" := ⟨_, ho, rfl⟩
  unfold setItem
  try with_reducible refine wpAny_holding ?_
  first | refine wpAny_bind (wpAny_pure ?_) | skip
  refine wpAny_bind (wpAny_sequenceKey hT (by decide) ?_)
  refine wpAny_bind (wpAny_callSpecial?_slot (name := Str.ofString "__setitem__") hT ba_slot_setitem
    (wpAny_call_entry ba_slot_setitem hT ba_entry_setitem ?_ (ba_args_setitem _ _ _)))
  unfold Builtin.«bytearray.__setitem__»
  refine bm_if_false rfl ?_
  show wpAny _ _ (Bytes.subscript? (.int k t) >>= _) _ _ s
  refine wpAny_bind ?_
  unfold Bytes.subscript?
  refine wpAny_bind (wpAny_specialOf (T := "int") (typeIs_int _ _ _) F.slot_int_index.lookup ?_)
  refine bm_if_false rfl ?_
  refine wpAny_bind (wpAny_of_eq (a := k) rfl ?_)
  have hz' := hz
  rw [sizeLine_eq] at hz'
  refine bm_if_false (by unfold Bytes.fitsIndex; simp only [Bool.not_eq_false', Bool.and_eq_true, decide_eq_true_eq]; omega) ?_
  refine wpAny_pure ?_
  dsimp only
  refine wpAny_bind ?_
  unfold Bytes.byteValue
  refine wpAny_bind (wpAny_of_eq (a := v) rfl ?_)
  refine bm_if_false (by simp only [Bool.or_eq_false_iff, decide_eq_false_iff_not]; omega) ?_
  refine wpAny_pure ?_
  refine wpAny_bind ?_
  unfold Bytes.payload Bytes.payload?
  refine wpAny_bind (wpAny_bind (wpAny_load ho ?_))
  refine wpAny_pure (wpAny_pure ?_)
  have hj : seqIndex? k b.size = some k.toNat := by
    unfold seqIndex?
    simp only
    first
      | (rw [if_pos (by omega)]; done)
      | (simp; omega)
      | (split <;> simp_all <;> omega)
  rw [hj]
  dsimp only
  refine wpAny_bind (ba_write ho rfl (by rw [Array.size_setIfInBounds]; exact hz) ?_)
  refine wpAny_bind (wpAny_pure (wpAny_pure ⟨_, rfl, wpAny_pure ?_⟩))
  exact h _ (Heap.SameBut.update ..) (Heap.get?_update_self (Obj.mapBytearray (·.setIfInBounds k.toNat v.toNat.toUInt8)) ho rfl)
theorem ba_bytes {a : Addr} {b : Array UInt8} {Q : Value → Shared → Prop} (ho : s.heap.get? a = some (baObj b)) (hz : b.size ≤ sizeLine)
    (h : ∀ t k, Q (.bytes b t) { s with toks := k }) : wpAny (model prog w) A (call (.type "bytes") [.ref a]) Q E s := by
  have hT : s.TypeIs (.ref a) "bytearray" := ⟨_, ho, rfl⟩
  refine callType_codes (Q₁ := fun obj s₁ => s₁.TypeIs obj "bytes" ∧ Q obj s₁) F.bm_called (F.bm_typeCall _) F.entry_object_init ?_ fun obj s₁ h₁ => ?_
  · refine codeAny_of_tree ?_
    show wpAny _ A.in1.in1 (do checkBuiltinCall "bytes.__new__" ⟨[.type "bytes", .ref a], []⟩; again (.builtin "bytes.__new__" ⟨[.type "bytes", .ref a], []⟩)) _ _ s
    refine wpAny_bind (wpAny_of_eq (F.bm_newCall _) (wpAny_pure ⟨plainId_quiet F.bm_plain _, codeAny_builtin F.bm_entry ?_⟩))
    rw [Around.under_plainId F.bm_plain _]
    unfold Builtin.«bytes.__new__»
    refine wpAny_bind (wpAny_of_eq (a := true) rfl ?_)
    refine bm_if_false rfl ?_
    refine wpAny_bind (wpAny_of_eq F.bm_sub ?_)
    refine bm_if_false rfl ?_
    refine wpAny_bind (wpAny_of_eq (F.bm_bind _) ?_)
    refine wpAny_bind (wpAny_of_eq (a := ()) rfl ?_)
    refine wpAny_bind (wpAny_of_eq (a := ()) rfl ?_)
    refine bm_if_false rfl ?_
    refine wpAny_bind (wpAny_specialOf hT ba_no_bytes ?_)
    refine wpAny_bind (wpAny_bind ?_)
    show wpAny _ _ (load a >>= _) _ _ _
    refine wpAny_bind (wpAny_load ho ?_)
    refine wpAny_pure (wpAny_pure ?_)
    refine bm_if_false rfl ?_
    refine wpAny_bind (wpAny_specialOf hT ba_no_index ?_)
    refine bm_if_true rfl ?_
    first
      | show wpAny _ _ (Builtin.Bytes.buffer? "bytes.__new__" (.ref a) true >>= _) _ _ _
      | (refine wpAny_bind ?_; show wpAny _ _ (Builtin.Bytes.buffer? "bytes.__new__" (.ref a) true >>= _) _ _ _)
    refine wpAny_bind ?_
    unfold Builtin.Bytes.buffer?
    refine wpAny_bind (wpAny_specialOf hT ba_buffer ?_)
    dsimp only
    refine wpAny_bind (ba_ownSlotB hT ?_)
    refine bm_if_false rfl ?_
    refine wpAny_bind (wpAny_specialOf hT ba_buffer ?_)
    split
    · rename_i e; cases e
    · rename_i e; exact absurd (Option.some.inj e) (by simp)
    · refine wpAny_bind (ba_ownRelease hT ?_)
      refine bm_if_false rfl ?_
      refine wpAny_bind ?_
      unfold Bytes.payload Bytes.payload?
      refine wpAny_bind (wpAny_bind (wpAny_load ho ?_))
      refine wpAny_pure (wpAny_pure ?_)
      refine wpAny_pure ?_
      dsimp only
      refine wpAny_bind (wpAny_rule ?_)
      refine wpAny_bind (wpAny_mkBytes ?_ hz)
      show wpAny _ _ (if (Value.type "bytes" == Value.type "bytes") = true then _ else _) _ _ _
      refine bm_if_true (by decide) ?_
      first
        | exact wpAny_pure ⟨PySem.W.typeIs_bytes _ _ _, h _ _⟩
        | exact wpAny_bind (wpAny_pure (wpAny_pure ⟨PySem.W.typeIs_bytes _ _ _, h _ _⟩))
    · rename_i e; exact absurd (Option.some.inj e) (by simp)
    · rename_i e; exact absurd (Option.some.inj e) (by simp)
    · rename_i h2 _ _ e; exact (h2 (Option.some.inj e).symm).elim
  · exact ⟨h₁.1, F.args_object_init_2 obj _, object_init_meets F.bm_called.init.lookup F.bm_called.made (by decide) prog w A.in1 _ s₁ ⟨h₁.1, rfl, h₁.2⟩⟩
/-- a bytearray of the ledger's, stored into -/
theorem ba_setItem {h₀ : Heap} {L : Addr} {m : Str → Option Value} {news news' : List (Addr × Obj)} {a : Addr} {b : Array UInt8} {k v : Int} {t u : Tok} {Q : Unit → Shared → Prop}
    (F : Fr h₀ L s.heap m) (N : News h₀ L s.heap news) (U : Upd a (baObj b) (baObj (b.setIfInBounds k.toNat v.toNat.toUInt8)) news news') (h0 : 0 ≤ k) (h1 : k < b.size) (hz : b.size ≤ 1000) (v0 : 0 ≤ v) (v1 : v < 256)
    (h : ∀ h', Fr h₀ L h' m → News h₀ L h' news' → Q () { s with heap := h' }) : wpAny (model prog w) A (setItem (.ref a) (.int k t) (.int v u)) Q E s := by
  obtain ⟨pre, post, rfl, rfl, h3, h4⟩ := U.split
  have hm := N (a, baObj b) (List.mem_append_right _ (.head _))
  refine ba_setItem0 hm.1 h0 h1 (by rw [sizeLine_eq]; omega) v0 v1 fun h' hs hb => ?_
  exact h h' (F.change hs hm.2.1 hm.2.2) (N.setIn h3 h4 hs hb)
theorem ba_bytesN {h₀ : Heap} {L : Addr} {news : List (Addr × Obj)} {a : Addr} {b : Array UInt8} {Q : Value → Shared → Prop} (N : News h₀ L s.heap news) (hm : (a, baObj b) ∈ news) (hz : b.size ≤ 1000)
    (h : ∀ t k, Q (.bytes b t) { s with toks := k }) : wpAny (model prog w) A (call (.type "bytes") [.ref a]) Q E s :=
  ba_bytes (N.get hm) (by rw [sizeLine_eq]; omega) h
end
end Mine
end
section -- Pure1
open PySem PySem.W PySem.Calls PyProof.Rows
set_option Elab.async false
namespace Mine
theorem rev_of {b c : Array UInt8} (hs : c.size = b.size) (h : ∀ q, q < b.size → c[b.size - 1 - q]? = b[q]?) : c = b.reverse := by
  apply Array.ext
  · simp [hs]
  · intro i h1 h2
    have hi : i < b.size := by omega
    have := h (b.size - 1 - i) (by omega)
    rw [show b.size - 1 - (b.size - 1 - i) = i by omega, Array.getElem?_eq_getElem h1, Array.getElem?_eq_getElem (by omega)] at this
    rw [Option.some.inj this, Array.getElem_reverse]
theorem bInts_getD {b : Array UInt8} {ks : List Int} (h : KBw.bInts b = ks) {j : Nat} (hj : j < b.size) : (ks.getD j 0).toNat.toUInt8 = b[j] := by
  subst h
  unfold KBw.bInts
  rw [List.getD_eq_getElem?_getD, List.getElem?_map]
  rw [show b.toList[j]? = some b[j] by simp [hj]]
  simp
theorem swap_turn {b c : Array UInt8} {ks : List Int} {n : Nat} {k : Int} (hks : KBw.bInts b = ks) (hk : k = (n : Int)) (hn : n < b.size) (hs : c.size = b.size) (h : ∀ q, q < n → q < b.size → c[b.size - 1 - q]? = b[q]?)
    {q : Nat} (hq : q < n + 1) (hqb : q < b.size) : (c.setIfInBounds ((0 : Int) + (b.size : Int) - 1 - k).toNat (ks.getD (0 + k).toNat 0).toNat.toUInt8)[b.size - 1 - q]? = b[q]? := by
  subst hk
  have e1 : ((0 : Int) + (b.size : Int) - 1 - (n : Int)).toNat = b.size - 1 - n := by omega
  have e2 : ((0 : Int) + (n : Int)).toNat = n := by omega
  rw [e1, e2, bInts_getD hks hn]
  rw [Array.getElem?_setIfInBounds]
  by_cases e : q = n
  · subst e
    rw [if_pos rfl, if_pos (by omega)]
    simp [hqb]
  · rw [if_neg (by omega)]
    exact h q (by omega) hqb
end Mine
end
section -- FnByte
open PySem PySem.W PySem.Calls PyProof.Rows
set_option Elab.async false
set_option maxRecDepth 100000
set_option maxHeartbeats 8000000
namespace Mine
local macro_rules | `(tactic| walk_at "MineEnterC") => `(tactic| (k_dflt (refine' enterC ?k3 ?k5 ?k6 ?k7 ?k8 ?k9 ?kB ?_ ?c2 ?c3 ?c4 ?c5; (case k3 => k_asm); (case k5 => k_asm); (case k6 => k_is); (case k7 => k_is); (case k8 => ktr_room); (case k9 => exact BindsTo.of_eq rfl); (case c5 => decide); (case kB => exact locs rfl); (case c2 => exact rfl); (case c3 => exact rfl); (case c4 => exact rfl); k_whole)))
local macro_rules | `(tactic| walk_at "pyIter ref") => `(tactic| refine Stop.out ?_)
local macro_rules | `(tactic| walk_at "InvEndN") => `(tactic| refine Stop.out ?_)
local macro_rules | `(tactic| walk_at "UnrEnd") => `(tactic| refine Stop.out ?_)
local macro_rules | `(tactic| walk_at "pyIter bytes") => `(tactic| refine Stop.out ?_)
theorem C_byte {w : World} (b : Array UInt8) :
    TelC w 21 (fun _ vs b => (∃ t1 t2, vs = [.bytes b t1, .int b.size t2]) ∧ 0 < b.size ∧ b.size ≤ 9)
      (fun _ _ r b => ∃ t, r = .bytes b.reverse t) 4 b := by
  unfold TelC
  w_top off
  k_fill
  intro p loose mean mg mb dp un fr gd s vs Q X T hR hd hu hret
  obtain ⟨⟨t1, t2, rfl⟩, h1, h2⟩ := hR
  obtain ⟨g, gs, dn, tk, os⟩ := s
  dsimp only at X T hret
  refine wpC_call ?_
  walk_at "MineEnterC"
  intro L h F N
  (try dsimp only)
  refine execs_C (Assign_Name_C (Call_C (f := .type "bytearray") (P := fun _ => True) (keeps_type _) ?_))
  k_steps
  · trivial
  refine ba_call (by omega) (by omega) fun h'' ba hba hk' hb => ?_
  obtain ⟨F1, N1, l1⟩ := grow1 hba (by k_asm) (by k_asm) hk' hb
  clear hk' hb l1 hba
  k_steps
  refine wpC_of ?_
  k_steps
  (with_reducible rename Fr _ _ _ _ => F2)
  (with_reducible rename News _ _ _ _ => N2)
  (with_reducible rename IsRange _ _ _ _ _ _ _ _ => R2)
  refine Stop.go ?_
  refine krs_iter (hh := rfl) R2 (small_whole (by omega) (by omega)) (rangeSize_whole (by omega)) F2 N2 fun I lI => ?_
  (replace lI := allLt_of lI; simp only [AllLt, and_true] at lI)
  refine KrsRest.succ (v := 0) (by omega) fun t h' tk' F' N' => ?_
  clear F2 N2 R2
  generalize krsIt _ _ _ = oI at N' ⊢
  k_steps
  (with_reducible rename Fr _ _ _ _ => F2)
  (with_reducible rename News _ _ _ _ => N2)
  (with_reducible rename IsRange _ _ _ _ _ _ _ _ => R2)
  refine Stop.go ?_
  refine kst_range (σ := Array UInt8) (fun c => [(I, oI), (ba, baObj c)]) (fun _ => []) (fun _ => True) [] (fun pre c => c.size = b.size ∧ ∀ q, q < pre.length → q < b.size → c[b.size - 1 - q]? = b[q]?) (Array.replicate ((b.size : Int)).toNat 0)
    (hh := rfl) R2 (small_upto (by omega)) (rangeSize_upto _) F2 N2 trivial (fun _ h => nomatch h) ⟨by simp, fun q h => absurd h (Nat.not_lt_zero _)⟩ ?_ ?_
  · clear R2 F2 N2
    intro c pre k t5 u5 h5 tk5 own hk5 hl5 hoff5 _ hp5 F5 N5
    obtain ⟨ks, hks⟩ : ∃ ks, KBw.bInts b = ks := ⟨_, rfl⟩
    have hkl : ks.length = b.size := by rw [← hks]; exact KBw.ints_length b
    simp only [List.cons_append, List.nil_append] at N5
    k_steps
    refine ba_setItem (by k_asm) (by k_asm) (by k_upd) (by omega) (by omega) (by omega) (by assumption) (by assumption) fun h6 F6 N6 => ?_
    k_steps
    refine Stop.go (kst_end (c.setIfInBounds ((0 : Int) + (b.size : Int) - 1 - k).toNat (ks.getD (0 + k).toNat 0).toNat.toUInt8) F6 N6 ?_ ?_ rfl trivial (fun _ h => nomatch h) ?_ ?_)
    · intro p hp; simp only [List.mem_cons, List.not_mem_nil, or_false] at hp ⊢; rcases hp with rfl | rfl <;> simp
    · intro p hp; simp [hp]
    · intro z hz _ _; simp [hz, kstB]
    · refine ⟨by rw [Array.size_setIfInBounds]; exact hp5.1, fun q hq hqb => ?_⟩
      rw [List.length_append, List.length_singleton] at hq
      exact swap_turn hks (by omega) hl5 hp5.1 hp5.2 hq hqb
  · intro c u5 h5 tk5 _ hp5 F5 N5
    k_steps
    refine Stop.go (UnrEnd.intro F5 N5 [(ba, baObj c)] (by intro p hp; exact hp) (by intro p hp; rw [List.mem_singleton.mp hp]; exact Nat.ne_of_lt lI) ?_)
    refine KrsRest.zero fun h7 tk7 F7 N7 => ?_
    k_steps
    refine ba_bytesN N7 (.head _) (by omega) fun t8 k8 => ?_
    have e : c = b.reverse := rev_of hp5.1 fun q hq => hp5.2 q (by rw [rangeKs_length]; exact hq) hq
    subst e
    k_steps
    exact hret _ _ _ F7.keep ⟨_, rfl⟩
end Mine
end
section -- Comp
open PySem PySem.W PySem.Calls PyProof.Rows PySem.Spec
set_option Elab.async false
set_option maxRecDepth 100000
set_option maxHeartbeats 8000000
namespace Mine
section
variable {prog : Program} {w : World} {A : Around} {E : Value → Shared → Prop} {s : Shared} {h₀ : Heap} {L : Addr} {m : Str → Option Value} {env : Env}
theorem compEnd_mono {s₁ : Shared} {I C D : Addr} {oI oC oD : Obj} {S : List (Addr × Obj) → Prop} {r r' : Value → List (Addr × Obj) → Prop} {y : Value} {s₂ : Shared}
    (h : LCg.CompEnd h₀ L m s₁ I oI C oC D oD S r y s₂) (k : ∀ news', r y news' → r' y news') : LCg.CompEnd h₀ L m s₁ I oI C oC D oD S r' y s₂ := by
  obtain ⟨h', tk, news', e, F, N, o, hS, hr⟩ := h
  exact ⟨h', tk, news', e, F, N, o, hS, k _ hr⟩
/-- a comprehension's turns by an invariant -/
theorem comp_inv {elt : Expr} {x : Str} {scope : Scope} {cl : List (Str × Addr)} {S : List (Addr × Obj) → Prop} {P : Nat → Value → Prop} {Fin : List Value → List (Addr × Obj) → Prop} {n : Nat} (Inv : Nat → List Value → List (Addr × Obj) → Prop)
    (step : ∀ i ys news v I oI C oC D m₂ h tk (E' : Value → Shared → Prop), i < n → Inv i ys news → P i v → LCg.NsObj oC m₂ → m₂ x = some v → Fr h₀ L h m → News h₀ L h ((I, oI) :: (C, oC) :: (D, LCg.lst ys) :: news) → LCg.Off3 I C D news → ((@Ne Nat I C) ∧ (@Ne Nat I D) ∧ (@Ne Nat C D)) →
      wpAny (model prog w) A (eval elt (compEnvC scope cl C env)) (LCg.CompEnd h₀ L m { s with heap := h, toks := tk } I oI C oC D (LCg.lst ys) S (fun y news' => Inv (i + 1) (ys ++ [y]) news')) E' { s with heap := h, toks := tk })
    (fin : ∀ ys news, Inv n ys news → Fin ys news) : ∀ (k i : Nat) (ys : List Value) (news : List (Addr × Obj)), i + k = n → Inv i ys news → LCg.CompRest prog w A h₀ L m env elt x scope cl s S P Fin k i ys news := by
  intro k
  induction k with
  | zero =>
    intro i ys news e hI
    have : i = n := by omega
    subst this
    exact LCg.CompRest.zero (fin _ _ hI)
  | succ k ih =>
    intro i ys news e hI
    refine LCg.CompRest.succ fun v I oI C oC D m₂ h tk E' hP hC hx F N off ne => ?_
    refine wpAny_mono (step i ys news v I oI C oC D m₂ h tk E' (by omega) hI hP hC hx F N off ne) (fun y s₂ q => compEnd_mono q fun news' hI' => ih (i + 1) _ _ (by omega) hI') fun _ _ e => e
def CompSrcB (prog : Program) (w : World) (A : Around) (h₀ : Heap) (L : Addr) (m : Str → Option Value) (env : Env) (elt : Expr) (x : Str) (scope : Scope) (cl : List (Str × Addr)) (Fin : Shared → List Value → List (Addr × Obj) → Prop) (xv : Value) (s₁ : Shared) : Prop :=
  ∃ b t news, xv = .bytes b t ∧ A.handled = none ∧ Fr h₀ L s₁.heap m ∧ News h₀ L s₁.heap news ∧ b.size ≤ sizeLine ∧
    ∀ s₂ : Shared, (∃ h, s₂ = { s₁ with heap := h }) → LCg.CompRest prog w A h₀ L m env elt x scope cl s₂ (fun _ => True) (fun i v => ∃ u, v = .int ((KBw.bInts b).getD i 0) u) (Fin s₂) b.size 0 [] news
theorem bytes_walks {I : Addr} {b : Array UInt8} {t : Tok} (hh : A.handled = none) : Walks prog w A I [I] [I] b.size (fun i v => ∃ u, v = .int ((KBw.bInts b).getD i 0) u) (fun i h => KBw.IsBytesIter h I b t i) :=
  let W := KBw.walks (prog := prog) (w := w) hh I b t
  { sub := W.sub, frame := W.frame, done := W.done, self := W.self,
    item := fun i s Q E hi st hQ => W.item i s Q E hi st fun v h' tk hP => hQ v h' tk (by
      obtain ⟨c, u, hc, rfl⟩ := hP
      exact ⟨u, by rw [List.getD_eq_getElem?_getD, KBw.ints_get hc]; rfl⟩) }
/-- a list comprehension over bytes -/
theorem ListComp_B {elt iter : Expr} {x : Str} {px : Pos} {scope : Scope} {cl : List (Str × Addr)} {pos : Pos} {Q : Value → Shared → Prop} (_F₀ : Fr h₀ L s.heap m)
    (hclos : closureFor scope env = pure cl) (hcell : ∀ y ∈ scope.names, y.2 ≠ .cell) (hkind : scope.kind = .function)
    (hnames : ∀ y ∈ scope.names, y.2 = .local → scope.names.lookup y.1 = some .local) (hx : scope.names.lookup x = some .local)
    (h : wpAny (model prog w) A (eval iter env) (CompSrcB prog w A h₀ L m env elt x scope cl (fun s₂ => LCg.FinE h₀ L m s₂ Q)) E s)
    (hs : ∀ x, foldedSetIterable iter env x = pure x := by intro _; rfl) :
    wpAny (model prog w) A (eval (.ListComp elt [⟨.Name x px, iter, [], 0⟩] scope pos) env) Q E s := by
  rw [eval_ListComp]
  refine wpAny_comprehension_free (use := none) rfl hs hclos hkind hnames (wpAny_mono h (fun xv s₁ h₁ => ?_) fun _ _ e => e)
  obtain ⟨b, t, news, rfl, hh, F, N, hsz, R⟩ := h₁
  refine KBw.pyIter_bytes ?_
  refine LCg.block_U (h₀ := h₀) (S := fun _ => True) (bytes_walks hh) hsz (fun i h st => by obtain ⟨o, e, _⟩ := st; exact ⟨o, e⟩) (fun i h h' o nw st e e' _ _ _ => ?_) hcell hkind hx ⟨_, Heap.get?_push_size _ rfl, rfl, rfl⟩ (fun b' hb => ?_)
      (F.keeps fun _ _ e => Heap.get?_push_of_some _ e) (N.grown fun _ _ e => Heap.get?_push_of_some _ e) (Nat.ne_of_lt F.ns.lt) (next_is_new F) (fun p hp => Nat.ne_of_lt (Heap.lt_size (N p hp).1)) trivial (R _ ⟨_, rfl⟩) ?_
  · obtain ⟨o₁, q, r⟩ := st
    rw [e] at q; cases q
    exact ⟨o, e', r⟩
  · rw [List.mem_singleton.mp hb]
    show s₁.heap.objs.size < (s₁.heap.push _).objs.size
    rw [Heap.size_push]; exact Nat.lt_succ_self _
  · intro D C h tk m' ys news' F' N' o1 hn hC₀ hD₀ hCL hDL hCD offC fin
    refine ⟨m', hn, fun h'' hs'' => fin D h'' tk (F'.change hs'' hCL hC₀) (fun p hp => ?_) o1⟩
    refine ⟨hs''.extBut _ _ ?_ (N' p hp).1, (N' p hp).2⟩
    rcases List.mem_cons.mp hp with rfl | hp
    · exact Ne.symm hCD
    · exact offC p hp
end
end Mine
end
section -- Loops
open PySem PySem.W PySem.Calls PyProof.Rows
set_option Elab.async false
set_option maxRecDepth 100000
set_option maxHeartbeats 8000000
namespace Mine
/-- values that are bytes, by their ints -/
inductive BsAre : List Value → List (List Int) → Prop where
  | nil : BsAre [] []
  | cons {b : Array UInt8} {t : Tok} {ks : List Int} {vs : List Value} {rs : List (List Int)} : KBw.bInts b = ks → BsAre vs rs → BsAre (.bytes b t :: vs) (ks :: rs)
theorem BsAre.append : ∀ {vs ws : List Value} {rs qs : List (List Int)}, BsAre vs rs → BsAre ws qs → BsAre (vs ++ ws) (rs ++ qs)
  | _, _, _, _, .nil, k => k
  | _, _, _, _, .cons e h, k => .cons e (h.append k)
theorem BsAre.length : ∀ {vs : List Value} {rs : List (List Int)}, BsAre vs rs → vs.length = rs.length
  | _, _, .nil => rfl
  | _, _, .cons _ h => by rw [List.length_cons, List.length_cons, h.length]
theorem BsAre.get : ∀ {vs : List Value} {rs : List (List Int)}, BsAre vs rs → ∀ (i : Nat) (v : Value), vs[i]? = some v → ∃ b t, v = .bytes b t ∧ rs[i]? = some (KBw.bInts b)
  | _, _, .nil, i, v, h => by simp at h
  | _, _, .cons (b := b) (t := t) e h, 0, v, hv => by
    simp only [List.getElem?_cons_zero, Option.some.injEq] at hv
    exact ⟨b, t, hv.symm, by rw [List.getElem?_cons_zero, e]⟩
  | _, _, .cons e h, i + 1, v, hv => by
    rw [List.getElem?_cons_succ] at hv ⊢
    exact h.get i v hv
/-- a frame told anew by names that are known -/
theorem told {h₀ h : Heap} {L : Addr} {m : Str → Option Value} (F : Fr h₀ L h m) (ps : List (Str × Value)) (hp : ∀ p ∈ ps, m p.1 = some p.2) : Fr h₀ L h (kstB m ps) := by
  have e : kstB m ps = m := funext fun z => kstB_eq hp fun _ => rfl
  rw [e]; exact F
theorem ints_snoc {vs : List Value} {ns : List Int} {n : Int} {t : Tok} (h : IntsAre vs ns) : IntsAre (vs ++ [.int n t]) (ns ++ [n]) := h.append (.cons n t .nil)
section
variable {prog : Program} {w : World} {A : Around} {E : Value → Shared → Prop} {s : Shared} {env : Env} {h₀ : Heap} {x : Str} {body : List Stmt} {Q : Flow → Shared → Prop}
/-- a range's turns, of a number that is not written, by an invariant over frame and ledger -/
theorem krs_inv {I : Addr} {a c : Int} {n : Nat} (J : Nat → (Str → Option Value) → List (Addr × Obj) → Prop)
    (turn : ∀ i m news t h tk oI, i < n → J i m news → Fr h₀ env.locals h (fun y => if y = x then some (.int (a + (i : Int) * c) t) else m y) → News h₀ env.locals h ((I, oI) :: news) →
      wpAny (model prog w) A (execs body env) (UnrPost h₀ env.locals { s with heap := h, toks := tk } I oI (J (i + 1)) Q) E { s with heap := h, toks := tk })
    (done : ∀ m news h tk, J n m news → Fr h₀ env.locals h m → News h₀ env.locals h news → Q .next { s with heap := h, toks := tk }) :
    ∀ (k i : Nat) (m : Str → Option Value) (news : List (Addr × Obj)), i + k = n → J i m news → KrsRest prog w A E h₀ env x body Q s I a c n k i m news := by
  intro k
  induction k with
  | zero =>
    intro i m news e hJ
    have : i = n := by omega
    subst this
    exact KrsRest.zero fun h tk F N => done m news h tk hJ F N
  | succ k ih =>
    intro i m news e hJ
    refine KrsRest.succ rfl fun t h tk F N => ?_
    refine wpAny_mono (turn i m news t h tk _ (by omega) hJ F N) (fun f s₂ p => ?_) fun _ _ e => e
    have fin : ∀ {s₂}, UnrEnd h₀ env.locals { s with heap := h, toks := tk } I (krsIt (a + ((i + 1 : Nat) : Int) * c) ((n : Int) - ((i + 1 : Nat) : Int)) c) (J (i + 1)) s₂ →
        UnrEnd h₀ env.locals { s with heap := h, toks := tk } I (krsIt (a + ((i + 1 : Nat) : Int) * c) ((n : Int) - ((i + 1 : Nat) : Int)) c) (KrsRest prog w A E h₀ env x body Q s I a c n k (i + 1)) s₂ := by
      rintro s₂ ⟨h', tk', m', news', e', F', N', o, r⟩
      exact ⟨h', tk', m', news', e', F', N', o, ih (i + 1) m' news' (by omega) r⟩
    cases f with
    | ret v => exact p
    | brk => exact p
    | next => exact fin p
    | cont => exact fin p
/-- the end of a while's turn -/
def WhEnd (I : Nat → Shared → Prop) (n : Nat) (f : Flow) (s : Shared) : Prop := f = .next ∧ ∃ m, m < n ∧ I m s
theorem While_rule {test : Expr} {pos : Pos} (I : Nat → Shared → Prop)
    (turn : ∀ n s, I n s → wpAny (model prog w) A (isTrue test env (eval test env)) (fun b s₂ =>
      if b then wpAny (model prog w) A (execs body env) (WhEnd I n) (fun _ _ => False) s₂ else Q .next s₂) (fun _ _ => False) s)
    (n : Nat) (h : I n s) : wpAny (model prog w) A (exec (.While test body [] pos) env) Q E s := by
  refine wpAny_While (codeAny_whileLoop I (fun n s hI => ?_) n h)
  refine wpAny_mono (turn n s hI) (fun b s₂ h₂ => ?_) fun _ _ x => x.elim
  cases b with
  | true =>
    simp only [if_true] at h₂ ⊢
    refine wpAny_mono h₂ (fun f s₃ h₃ => ?_) fun _ _ x => x.elim
    obtain ⟨rfl, m, hm, hI'⟩ := h₃
    exact ⟨m, hm, hI'⟩
  | false =>
    simp only [Bool.false_eq_true, if_false] at h₂ ⊢
    exact wpAny_execs_nil h₂
end
end Mine
end
section -- FnThen
open PySem PySem.W PySem.Calls PyProof.Rows
set_option Elab.async false
set_option maxRecDepth 100000
set_option maxHeartbeats 8000000
namespace Mine
local macro_rules | `(tactic| walk_at "MineEnterCells") => `(tactic| (k_dflt (refine' enterCells ?k3 ?k5 ?k6 ?k7 ?k8 ?k9 ?kB ?kD ?_ ?c2 ?c3 ?c4; (case k3 => k_asm); (case k5 => k_asm); (case k6 => k_is); (case k7 => k_is); (case k8 => ktr_room); (case k9 => exact BindsTo.of_eq rfl); (case kB => exact rfl); (case kD => decide +kernel); (case c2 => exact rfl); (case c3 => exact rfl); (case c4 => exact rfl); k_whole)))
local macro_rules | `(tactic| walk_at "eval ListComp") => `(tactic| refine Stop.out ?_)
local macro_rules | `(tactic| walk_at "CompSrcB") => `(tactic| refine Stop.out ?_)
/-- what then yields -/
def thenInts (ks ls : List Int) : List Int := ks.map fun k => ls.getD k.toNat 0
theorem C_then {w : World} (d : List Int × List Int) :
    Tel w 44 (fun _ vs d => (∃ b c t1 t2, vs = [.bytes b t1, .bytes c t2] ∧ KBw.bInts b = d.1 ∧ KBw.bInts c = d.2) ∧ d.1.length ≤ 9 ∧ d.2.length ≤ 9 ∧ ∀ k ∈ d.1, k < d.2.length)
      (fun _ _ r d => ∃ b t, r = .bytes b t ∧ KBw.bInts b = thenInts d.1 d.2) 4 d := by
  unfold Tel
  w_top off
  k_fill
  intro p loose mean mg mb dp un fr gd s vs Q E X T hR hd hu hret
  obtain ⟨⟨b, c, t1, t2, rfl, hb, hc⟩, h1, h2, h3⟩ := hR
  obtain ⟨ks, ls⟩ := d
  dsimp only at hb hc h1 h2 h3 hret
  obtain ⟨g, gs, dn, tk, os⟩ := s
  dsimp only at X T hret
  refine wpAny_call ?_
  walk_at "MineEnterCells"
  intro L h tk₁ cells F N Y
  k_cells Y
  (try dsimp only)
  k_steps
  refine Stop.go (ListComp_B F (by with_unfolding_all rfl) (by decide) (by rfl) (by decide) (by rfl) ?_)
  k_steps
  refine Stop.go ?_
  have hbl : ks.length = b.size := by rw [← hb]; exact KBw.ints_length b
  refine ⟨b, t1, _, rfl, rfl, F, N, by rw [sizeLine_eq]; omega, ?_⟩
  rintro s₂ ⟨h₂, rfl⟩
  refine comp_inv (n := b.size) (fun i ys news => news = [(L + 1, _)] ∧ IntsAre ys (thenInts (ks.take i) ls)) ?_ ?_ b.size 0 [] _ (Nat.zero_add _) ⟨rfl, IntsAre.nil⟩
  · intro i ys news v I oI C oC D m₂ h5 tk5 E5 hi hI hP hC5 hx5 F5 N5 off5 ne5
    obtain ⟨rfl, hys⟩ := hI
    obtain ⟨u5, rfl⟩ := hP
    rw [hb] at hx5
    have hi' : i < ks.length := by omega
    have hk := List.mem_of_getElem? (l := ks) (i := i) (List.getElem?_eq_getElem hi')
    generalize hkv : ks.getD i 0 = kv at hx5
    have hkv' : ks[i] = kv := by rw [← hkv, List.getD_eq_getElem?_getD, List.getElem?_eq_getElem hi']; rfl
    rw [hkv'] at hk
    have h30 := (KBw.ints_in (hb ▸ hk)).1
    have h31 := h3 _ hk
    k_steps
    refine ⟨_, _, _, rfl, by k_asm, by k_asm, off5, trivial, rfl, ?_⟩
    have e : thenInts (ks.take (i + 1)) ls = thenInts (ks.take i) ls ++ [ls.getD kv.toNat 0] := by
      unfold thenInts
      rw [List.take_add_one, List.getElem?_eq_getElem hi', hkv']
      simp
    rw [e]
    exact ints_snoc hys
  · rintro ys news ⟨rfl, hys⟩
    rw [List.take_of_length_le (by omega)] at hys
    have hin : KBa.In (thenInts ks ls) := by
      intro n hn
      obtain ⟨k, hk, rfl⟩ := List.mem_map.1 hn
      exact KBw.getD_in fun k hk => KBw.ints_in (hc ▸ hk)
    have hln : (thenInts ks ls).length = ks.length := by simp [thenInts]
    dsimp only
    k_steps
    (with_reducible rename Fr _ _ _ _ => F9)
    exact hret _ _ _ F9.keep ⟨_, _, rfl, KBa.ints_make hin⟩
end Mine
end
section -- RingsPure
set_option Elab.async false
namespace Mine
/-- at most n different ints in [0, n) -/
theorem pigeon : ∀ (n : Nat) (l : List Int), l.Nodup → (∀ x ∈ l, 0 ≤ x ∧ x < (n : Int)) → l.length ≤ n
  | 0, l, _, hb => by
    cases l with
    | nil => simp
    | cons x r => have := hb x (List.mem_cons_self ..); omega
  | n + 1, l, hd, hb => by
    have h1 := pigeon n (l.erase (n : Int)) (hd.erase _) (fun x hx => by
      have h2 := hb x (List.mem_of_mem_erase hx)
      have h3 : x ≠ (n : Int) := by
        rintro rfl
        exact absurd hx (List.Nodup.not_mem_erase hd)
      omega)
    have h2 : l.length ≤ (l.erase (n : Int)).length + 1 := by
      rw [List.length_erase]
      split <;> omega
    omega
/-- where an order leads -/
def sg (ks : List Int) (x : Int) : Int := ks.getD x.toNat 0
structure IsOrd (ks : List Int) : Prop where
  nodup : ks.Nodup
  bound : ∀ x ∈ ks, 0 ≤ x ∧ x < (ks.length : Int)
theorem sg_mem {ks : List Int} {x : Int} (h0 : 0 ≤ x) (h1 : x < (ks.length : Int)) : sg ks x ∈ ks := by
  unfold sg
  have : x.toNat < ks.length := by omega
  rw [List.getD_eq_getElem?_getD, List.getElem?_eq_getElem this]
  exact List.getElem_mem _
theorem IsOrd.to {ks : List Int} (o : IsOrd ks) {x : Int} (h0 : 0 ≤ x) (h1 : x < (ks.length : Int)) : 0 ≤ sg ks x ∧ sg ks x < (ks.length : Int) := o.bound _ (sg_mem h0 h1)
theorem IsOrd.inj {ks : List Int} (o : IsOrd ks) {x y : Int} (h0 : 0 ≤ x) (h1 : x < (ks.length : Int)) (g0 : 0 ≤ y) (g1 : y < (ks.length : Int)) (e : sg ks x = sg ks y) : x = y := by
  unfold sg at e
  have hx : x.toNat < ks.length := by omega
  have hy : y.toNat < ks.length := by omega
  rw [List.getD_eq_getElem?_getD, List.getElem?_eq_getElem hx, List.getD_eq_getElem?_getD, List.getElem?_eq_getElem hy] at e
  have := (List.getElem_inj o.nodup).mp (show ks[x.toNat] = ks[y.toNat] from e)
  omega
/-- a ring of an order -/
structure Cyc (ks : List Int) (r : List Int) : Prop where
  ne : r ≠ []
  chain : ∀ (k : Nat) (x y : Int), r[k]? = some x → r[k + 1]? = some y → sg ks x = y
  close : ∀ (x y : Int), r[r.length - 1]? = some x → r[0]? = some y → sg ks x = y
/-- the rings found so far -/
structure RI (ks : List Int) (i : Nat) (seen : List Int) (found : List (List Int)) : Prop where
  flat : seen = found.flatten
  nodup : seen.Nodup
  bound : ∀ x ∈ seen, 0 ≤ x ∧ x < (ks.length : Int)
  all : ∀ p : Nat, p < i → (p : Int) ∈ seen
  cyc : ∀ r ∈ found, Cyc ks r
structure WI (ks : List Int) (place : Int) (found : List (List Int)) (seen ring : List Int) (here : Int) : Prop where
  flat : seen = found.flatten ++ ring
  nodup : seen.Nodup
  bound : ∀ x ∈ seen, 0 ≤ x ∧ x < (ks.length : Int)
  h0 : 0 ≤ here
  h1 : here < (ks.length : Int)
  chain : ∀ (k : Nat) (x y : Int), ring[k]? = some x → ring[k + 1]? = some y → sg ks x = y
  last : ∀ x : Int, ring[ring.length - 1]? = some x → sg ks x = here
  first : ring = [] → here = place
  head : ∀ y : Int, ring[0]? = some y → y = place
theorem flat_len : ∀ (found : List (List Int)), (∀ r ∈ found, r ≠ []) → found.length ≤ found.flatten.length
  | [], _ => Nat.le_refl _
  | r :: q, h => by
    have h1 := flat_len q fun x hx => h x (List.mem_cons_of_mem _ hx)
    have h2 : 0 < r.length := List.length_pos_iff.mpr (h r (List.mem_cons_self ..))
    rw [List.length_cons, List.flatten_cons, List.length_append]
    omega
theorem RI.room {ks : List Int} {i : Nat} {seen : List Int} {found : List (List Int)} (h : RI ks i seen found) : found.length ≤ ks.length := by
  have h1 := flat_len found fun r hr => (h.cyc r hr).ne
  have h2 := pigeon _ _ h.nodup h.bound
  rw [← h.flat] at h1
  omega
theorem flat_le : ∀ (found : List (List Int)) (r : List Int), r ∈ found → r.length ≤ found.flatten.length
  | q :: fs, r, h => by
    rw [List.flatten_cons, List.length_append]
    rcases List.mem_cons.mp h with rfl | h
    · omega
    · have := flat_le fs r h
      omega
theorem RI.ring {ks : List Int} {i : Nat} {seen : List Int} {found : List (List Int)} (h : RI ks i seen found) {r : List Int} (hr : r ∈ found) : r ≠ [] ∧ r.length ≤ ks.length ∧ ∀ x ∈ r, 0 ≤ x ∧ x < (ks.length : Int) := by
  refine ⟨(h.cyc r hr).ne, ?_, fun x hx => h.bound x (by rw [h.flat]; exact List.mem_flatten.mpr ⟨r, hr, hx⟩)⟩
  have h1 := flat_le found r hr
  have h2 := pigeon _ _ h.nodup h.bound
  rw [← h.flat] at h1
  omega
theorem RI.start {ks : List Int} : RI ks 0 [] [] := ⟨rfl, List.nodup_nil, (fun _ h => nomatch h), fun p h => absurd h (Nat.not_lt_zero _), fun _ h => nomatch h⟩
theorem WI.start {ks : List Int} {i : Nat} {seen : List Int} {found : List (List Int)} (h : RI ks i seen found) (hi : i < ks.length) : WI ks (i : Int) found seen [] (i : Int) :=
  ⟨by rw [h.flat, List.append_nil], h.nodup, h.bound, by omega, by omega, (fun k x y h => by simp at h), (fun x h => by simp at h), fun _ => rfl, fun y h => by simp at h⟩
theorem WI.step {ks : List Int} (o : IsOrd ks) {place : Int} {found : List (List Int)} {seen ring : List Int} {here : Int} (h : WI ks place found seen ring here) (hn : here ∉ seen) :
    WI ks place found (seen ++ [here]) (ring ++ [here]) (sg ks here) := by
  have t := o.to h.h0 h.h1
  refine ⟨by rw [h.flat, List.append_assoc], ?_, ?_, t.1, t.2, ?_, ?_, (fun e => by simp at e), ?_⟩
  · rw [List.nodup_append]
    refine ⟨h.nodup, by simp, fun a ha b hb => ?_⟩
    rw [List.mem_singleton] at hb
    rintro rfl
    exact hn (hb ▸ ha)
  · intro x hx
    rcases List.mem_append.mp hx with hx | hx
    · exact h.bound x hx
    · rw [List.mem_singleton.mp hx]; exact ⟨h.h0, h.h1⟩
  · intro k x y hx hy
    by_cases hk : k + 1 < ring.length
    · rw [List.getElem?_append_left (by omega)] at hx
      rw [List.getElem?_append_left hk] at hy
      exact h.chain k x y hx hy
    · have hlt : k + 1 < (ring ++ [here]).length := by
        rcases Nat.lt_or_ge (k + 1) (ring ++ [here]).length with q | q
        · exact q
        · rw [List.getElem?_eq_none q] at hy; cases hy
      rw [List.length_append, List.length_singleton] at hlt
      have e : k + 1 = ring.length := by omega
      rw [List.getElem?_append_right (by omega), e, Nat.sub_self] at hy
      cases hy
      rw [List.getElem?_append_left (by omega)] at hx
      exact h.last x (by rw [show ring.length - 1 = k by omega]; exact hx)
  · intro x hx
    rw [List.length_append, List.length_singleton, Nat.add_sub_cancel, List.getElem?_append_right (Nat.le_refl _), Nat.sub_self] at hx
    cases hx
    rfl
  · intro y hy
    cases hr : ring with
    | nil =>
      rw [hr] at hy
      simp only [List.nil_append, List.getElem?_cons_zero, Option.some.injEq] at hy
      rw [← hy]; exact h.first hr
    | cons a q =>
      refine h.head y ?_
      rw [hr] at hy ⊢
      simpa using hy
theorem WI.room {ks : List Int} {place : Int} {found : List (List Int)} {seen ring : List Int} {here : Int} (h : WI ks place found seen ring here) (hn : here ∉ seen) : seen.length < ks.length := by
  have := pigeon ks.length (seen ++ [here]) (by
    rw [List.nodup_append]
    refine ⟨h.nodup, by simp, fun a ha b hb => ?_⟩
    rw [List.mem_singleton] at hb
    rintro rfl
    exact hn (hb ▸ ha)) (fun x hx => by
      rcases List.mem_append.mp hx with hx | hx
      · exact h.bound x hx
      · rw [List.mem_singleton.mp hx]; exact ⟨h.h0, h.h1⟩)
  rw [List.length_append, List.length_singleton] at this
  omega
theorem Cyc.pred {ks r : List Int} (c : Cyc ks r) {x : Int} (hx : x ∈ r) : ∃ y ∈ r, sg ks y = x := by
  obtain ⟨j, hj, e⟩ := List.getElem_of_mem hx
  have hx' : r[j]? = some x := by rw [List.getElem?_eq_getElem hj, e]
  cases j with
  | zero =>
    have hl : r.length - 1 < r.length := by omega
    exact ⟨r[r.length - 1], List.getElem_mem _, c.close _ _ (List.getElem?_eq_getElem hl) hx'⟩
  | succ j =>
    have hl : j < r.length := by omega
    exact ⟨r[j], List.getElem_mem _, c.chain j _ _ (List.getElem?_eq_getElem hl) hx'⟩
theorem WI.fin {ks : List Int} (o : IsOrd ks) {i : Nat} {found : List (List Int)} {seen₀ seen ring : List Int} {here : Int} (r : RI ks i seen₀ found) (h : WI ks (i : Int) found seen ring here) (hin : here ∈ seen) :
    RI ks (i + 1) seen (found ++ (if ring = [] then [] else [ring])) := by
  by_cases he : ring = []
  · rw [if_pos he, List.append_nil]
    have e : seen = found.flatten := by rw [h.flat, he, List.append_nil]
    refine ⟨e, h.nodup, h.bound, fun p hp => ?_, r.cyc⟩
    by_cases q : p < i
    · rw [e, ← r.flat]; exact r.all p q
    · have : p = i := by omega
      subst this
      rw [← h.first he]; exact hin
  · rw [if_neg he]
    have hlen : 0 < ring.length := List.length_pos_iff.mpr he
    have hl : ring.length - 1 < ring.length := by omega
    have hlast := h.last _ (List.getElem?_eq_getElem hl)
    have hlm : ring[ring.length - 1] ∈ seen := by rw [h.flat]; exact List.mem_append_right _ (List.getElem_mem _)
    have hlb := h.bound _ hlm
    have hnd := h.nodup
    rw [h.flat, List.nodup_append] at hnd
    obtain ⟨nd1, nd2, nd3⟩ := hnd
    have hz : ring[0]? = some here := by
      rw [h.flat] at hin
      rcases List.mem_append.mp hin with hf | hr
      · exfalso
        obtain ⟨q, hq, hm⟩ := List.mem_flatten.mp hf
        obtain ⟨y, hy, ey⟩ := (r.cyc q hq).pred hm
        have hyf : y ∈ found.flatten := List.mem_flatten.mpr ⟨q, hq, hy⟩
        have hyb := h.bound y (by rw [h.flat]; exact List.mem_append_left _ hyf)
        have := o.inj hyb.1 hyb.2 hlb.1 hlb.2 (ey.trans hlast.symm)
        exact nd3 y hyf _ (List.getElem_mem hl) this
      · obtain ⟨j, hj, e⟩ := List.getElem_of_mem hr
        cases j with
        | zero => rw [List.getElem?_eq_getElem hj, e]
        | succ j =>
          exfalso
          have hj' : j < ring.length := by omega
          have e2 := h.chain j _ _ (List.getElem?_eq_getElem hj') (List.getElem?_eq_getElem hj)
          have hjb := h.bound ring[j] (by rw [h.flat]; exact List.mem_append_right _ (List.getElem_mem _))
          have := o.inj hjb.1 hjb.2 hlb.1 hlb.2 ((e2.trans e).trans hlast.symm)
          have := (List.getElem_inj nd2).mp this
          omega
    refine ⟨by rw [h.flat]; simp, h.nodup, h.bound, fun p hp => ?_, fun q hq => ?_⟩
    · by_cases q : p < i
      · rw [h.flat]; exact List.mem_append_left _ (r.flat ▸ r.all p q)
      · have : p = i := by omega
        subst this
        rw [← h.head _ hz, h.flat]
        exact List.mem_append_right _ (List.mem_of_getElem? hz)
    · rcases List.mem_append.mp hq with hq | hq
      · exact r.cyc q hq
      · rw [List.mem_singleton.mp hq]
        refine ⟨he, h.chain, fun x y hx hy => ?_⟩
        rw [h.last x hx]
        rw [hz] at hy
        exact Option.some.inj hy
end Mine
end
section -- FnRings
open PySem PySem.W PySem.Calls PyProof.Rows
set_option Elab.async false
set_option maxRecDepth 100000
set_option maxHeartbeats 8000000
namespace Mine
local macro_rules | `(tactic| walk_at "MineEnter") => `(tactic| (k_dflt (refine' enter ?k3 ?k5 ?k6 ?k7 ?k8 ?k9 ?kB ?_ ?c2 ?c3 ?c4 ?c5; (case k3 => k_asm); (case k5 => k_asm); (case k6 => k_is); (case k7 => k_is); (case k8 => ktr_room); (case k9 => exact BindsTo.of_eq rfl); (case c5 => decide); (case kB => exact locs rfl); (case c2 => exact rfl); (case c3 => exact rfl); (case c4 => exact rfl); k_whole)))
local macro_rules | `(tactic| walk_at "pyIter ref") => `(tactic| refine Stop.out ?_)
local macro_rules | `(tactic| walk_at "UnrEnd") => `(tactic| refine Stop.out ?_)
local macro_rules | `(tactic| walk_at "exec While Compare cons nil") => `(tactic| refine Stop.out ?_)
local macro_rules | `(tactic| walk_at "binaryOp Add ref ref") => `(tactic| refine Stop.out ?_)
local macro_rules | `(tactic| walk_at "WhEnd") => `(tactic| refine Stop.out ?_)
theorem C_rings {w : World} (ks : List Int) :
    Tel w 51 (fun _ vs ks => (∃ b t1, vs = [.bytes b t1] ∧ KBw.bInts b = ks) ∧ ks.length ≤ 9 ∧ IsOrd ks)
      (fun h h' r ks => ∃ p vs n rs seen, r = .ref p ∧ h.get? p = none ∧ h'.get? p = some (listOf vs.toArray n) ∧ BsAre vs rs ∧ RI ks ks.length seen rs) 20 ks := by
  unfold Tel
  w_top off
  k_fill
  intro p loose mean mg mb dp un fr gd s vs Q E X T hR hd hu hret
  obtain ⟨⟨b, t1, rfl, hb⟩, h1, ho⟩ := hR
  obtain ⟨g, gs, dn, tk, os⟩ := s
  dsimp only at X T hret
  refine wpAny_call ?_
  walk_at "MineEnter"
  intro L h F N
  (try dsimp only)
  k_steps
  refine Stop.go ?_
  (with_reducible rename Fr _ _ _ _ => F2)
  (with_reducible rename News _ _ _ _ => N2)
  (with_reducible rename IsRange _ _ _ _ _ _ _ _ => R2)
  have hbl : ks.length = b.size := by rw [← hb]; exact KBw.ints_length b
  refine krs_iter (hh := rfl) R2 (n := ks.length) (by rw [hbl]; exact small_upto (by omega)) (by rw [hbl]; exact rangeSize_upto _) F2 (fun p hp => N2 p (.tail _ hp)) fun I lI => ?_
  (replace lI := allLt_of lI; simp only [AllLt, and_true] at lI)
  refine krs_inv (n := ks.length) (fun i m news => ∃ pS pF vS vF nS nF seen found, news = [(pF, listOf vF.toArray nF), (pS, listOf vS.toArray nS)] ∧ @LT.lt Nat _ pS pF ∧ @Ne Nat pF I ∧ @LT.lt Nat _ pS I ∧ m "seen" = some (.ref pS) ∧ m "found" = some (.ref pF) ∧ m "order" = some (.bytes b t1) ∧ IntsAre vS seen ∧ BsAre vF found ∧ RI ks i seen found) ?_ ?_ ks.length 0 _ _ (by omega) ?_
  · clear F2 N2 R2 lI
    rintro i m news t h₂ tk₂ oI hi ⟨pS, pF, vS, vF, nS, nF, seen, found, rfl, hSF, hFI, hSI, m1, m2, m3, hS, hF, hR⟩ F₂ N₂
    have F₃ := told F₂ [("place", .int (0 + (i : Int) * 1) t), ("seen", .ref pS), ("found", .ref pF), ("order", .bytes b t1)] (by
      intro p hp
      simp only [List.mem_cons, List.not_mem_nil, or_false] at hp
      rcases hp with rfl | rfl | rfl | rfl
      · rfl
      · exact m1
      · exact m2
      · exact m3)
    clear F₂
    have e0 : (0 : Int) + (i : Int) * 1 = (i : Int) := by omega
    rw [e0] at F₃
    k_steps
    refine Stop.go ?_
    (with_reducible rename Fr _ _ _ _ => F4)
    (with_reducible rename News _ _ _ _ => N4)
    rename_i pR _ lR _ _ _ _ _ _ _ _
    have N5 : News g L _ [(pR, listOf ([] : List Value).toArray 0), (I, oI), (pF, listOf vF.toArray nF), (pS, listOf vS.toArray nS)] := fun p hp => N4 p (.tail _ hp)
    refine While_rule (fun k s' => ∃ h tk m seen vS nS ring vR nR here t', s' = ⟨h, gs, dn, tk, os⟩ ∧ Fr g L h m ∧ News g L h [(pR, listOf vR.toArray nR), (I, oI), (pF, listOf vF.toArray nF), (pS, listOf vS.toArray nS)] ∧
      m "ring" = some (.ref pR) ∧ m "here" = some (.int here t') ∧ m "seen" = some (.ref pS) ∧ m "found" = some (.ref pF) ∧ m "order" = some (.bytes b t1) ∧ IntsAre vS seen ∧ IntsAre vR ring ∧ WI ks (i : Int) found seen ring here ∧ k = ks.length - seen.length) ?_ _
      ⟨_, _, _, seen, vS, nS, [], [], 0, (i : Int), t, rfl, F4, N5, rfl, rfl, rfl, rfl, rfl, hS, .nil, WI.start hR hi, rfl⟩
    clear F4 N4 N5
    rintro k _ ⟨h, tk, m, seen', vS', nS', ring, vR, nR, here, t', rfl, F5, N5, m1, m2, m3, m4, m5, hS', hR', hW, rfl⟩
    have F6 := told F5 [("ring", .ref pR), ("here", .int here t'), ("seen", .ref pS), ("found", .ref pF), ("order", .bytes b t1)] (by
      intro p hp
      simp only [List.mem_cons, List.not_mem_nil, or_false] at hp
      rcases hp with rfl | rfl | rfl | rfl | rfl
      · exact m1
      · exact m2
      · exact m3
      · exact m4
      · exact m5)
    clear F5
    have hsz : seen'.length ≤ ks.length := pigeon _ _ hW.nodup hW.bound
    have hszr : ring.length ≤ seen'.length := by rw [hW.flat, List.length_append]; omega
    have hlS : vS'.toArray.size ≤ sizeLine := by rw [List.size_toArray, hS'.length, sizeLine_eq]; omega
    have hlR : vR.toArray.size ≤ sizeLine := by rw [List.size_toArray, hR'.length, sizeLine_eq]; omega
    have hh0 := hW.h0
    have hh1 := hW.h1
    have hrm := hR.room
    have hvF := hF.length
    have hIn : KBa.In ring := fun n hn => by
      have := hW.bound n (by rw [hW.flat]; exact List.mem_append_right _ hn)
      omega
    have hmem : (seen'.any fun x => x == here) = true ↔ here ∈ seen' := by simp [List.any_eq_true]
    k_steps
    · refine Stop.go (kmk_add_lit (its := vF.toArray) (its2 := ([] : List Value).toArray) (zs := vF) (by k_asm) (by k_asm) (by is_list) (by is_list) (by simp) (fun D h7 F7 N7 l7 => ?_) (by rw [sizeLine_eq]; simp; omega))
      (replace l7 := allLt_of l7; simp only [AllLt, and_true] at l7)
      k_steps
      (with_reducible rename Fr _ _ _ _ => F8)
      (with_reducible rename News _ _ _ _ => N8)
      have he : ring = [] := by simpa using ‹decide (ring = []) = true›
      have hW' := WI.fin ho hR hW (hmem.mp (by assumption))
      rw [if_pos he, List.append_nil] at hW'
      refine Stop.go (UnrEnd.intro F8 N8 [(D, listOf (vF).toArray 0), (pS, listOf vS'.toArray nS')] (by intro p hp; simp only [List.mem_cons, List.not_mem_nil, or_false] at hp ⊢; rcases hp with rfl | rfl | rfl <;> simp) (by intro p hp; simp only [List.mem_cons, List.not_mem_nil, or_false] at hp; rcases hp with rfl | rfl <;> (show @Ne Nat _ _) <;> omega) ⟨pS, D, vS', vF, nS', 0, seen', found, rfl, by omega, by omega, by omega, rfl, rfl, rfl, hS', hF, hW'⟩)
    · rename_i t9 _ _ _ _ _ _ _ _
      refine Stop.go (kmk_add_lit (its := vF.toArray) (its2 := [Value.bytes (byteArr ring) t9].toArray) (zs := vF ++ [Value.bytes (byteArr ring) t9]) (by k_asm) (by k_asm) (by is_list) (by is_list) (by simp) (fun D h7 F7 N7 l7 => ?_) (by rw [sizeLine_eq]; simp; omega))
      (replace l7 := allLt_of l7; simp only [AllLt, and_true] at l7)
      k_steps
      (with_reducible rename Fr _ _ _ _ => F8)
      (with_reducible rename News _ _ _ _ => N8)
      have he : ring ≠ [] := by simpa using ‹decide (ring = []) = false›
      have hW' := WI.fin ho hR hW (hmem.mp (by assumption))
      rw [if_neg he] at hW'
      refine Stop.go (UnrEnd.intro F8 N8 [(D, listOf (vF ++ [Value.bytes (byteArr ring) t9]).toArray 0), (pS, listOf vS'.toArray nS')] (by intro p hp; simp only [List.mem_cons, List.not_mem_nil, or_false] at hp ⊢; rcases hp with rfl | rfl | rfl <;> simp) (by intro p hp; simp only [List.mem_cons, List.not_mem_nil, or_false] at hp; rcases hp with rfl | rfl <;> (show @Ne Nat _ _) <;> omega) ⟨pS, D, vS', vF ++ [Value.bytes (byteArr ring) t9], nS', 0, seen', found ++ [ring], rfl, by omega, by omega, by omega, rfl, rfl, rfl, hS', hF.append (.cons (KBa.ints_make hIn) .nil), hW'⟩)
    · have hn : here ∉ seen' := fun h => by rw [hmem.mpr h] at *; contradiction
      (with_reducible rename Fr _ _ _ _ => F8)
      (with_reducible rename News _ _ _ _ => N8)
      have hlt := hW.room hn
      rename_i t9 _ _ _ _
      refine Stop.go ⟨rfl, _, (show ks.length - (seen' ++ [here]).length < _ by rw [List.length_append, List.length_singleton]; omega), _, _, _, seen' ++ [here], vS' ++ [.int here t'], nS' + 1, ring ++ [here], vR ++ [.int here t'], nR + 1, _, t9, rfl, F8, ?_, rfl, rfl, rfl, rfl, rfl, ints_snoc hS', ints_snoc hR', hW.step ho hn, rfl⟩
      rw [List.push_toArray, List.push_toArray] at N8
      exact N8
  · clear F2 N2 R2 lI
    rintro m news h₂ tk₂ ⟨pS, pF, vS, vF, nS, nF, seen, found, rfl, hSF, hFI, hSI, m1, m2, m3, hS, hF, hR⟩ F₂ N₂
    have F₃ := told F₂ [("found", .ref pF)] (by
      intro p hp
      simp only [List.mem_cons, List.not_mem_nil, or_false] at hp
      rcases hp with rfl
      exact m2)
    clear F₂
    dsimp only
    k_steps
    exact hret _ _ _ F₃.keep ⟨pF, vF, nF, found, seen, rfl, (N₂ _ (.head _)).2.2, (N₂ _ (.head _)).1, hF, hR⟩
  · exact ⟨_, _, [], [], 0, 0, [], [], rfl, by omega, by omega, by omega, rfl, rfl, rfl, .nil, .nil, RI.start⟩
end Mine
end
section -- ForL
open PySem PySem.W PySem.Calls PyProof.Rows
set_option Elab.async false
set_option maxRecDepth 100000
set_option maxHeartbeats 8000000
namespace Mine
section
variable {prog : Program} {w : World} {A : Around} {E : Value → Shared → Prop} {s : Shared} {env : Env} {h₀ : Heap} {x : Str} {body : List Stmt} {Q : Flow → Shared → Prop}
/-- the end of a turn -/
def TurnEnd (h₀ : Heap) (L : Addr) (s : Shared) (I : Addr) (oI : Obj) (R : (Str → Option Value) → List (Addr × Obj) → Prop) (f : Flow) (s' : Shared) : Prop :=
  f = .next ∧ UnrEnd h₀ L s I oI R s'
/-- what a refined for over a list of the ground wants of its source -/
def ListAtC (prog : Program) (w : World) (A : Around) (h₀ : Heap) (env : Env) (x : Str) (body : List Stmt) (Q : Flow → Shared → Prop) (l : Addr) (vs : List Value) (J : Nat → (Str → Option Value) → List (Addr × Obj) → Prop) (xv : Value) (s₁ : Shared) : Prop :=
  xv = .ref l ∧ ∃ m news, Fr h₀ env.locals s₁.heap m ∧ News h₀ env.locals s₁.heap news ∧ J 0 m news ∧
      (∀ i v m news I oI h tk, vs[i]? = some v → J i m news → (∀ p ∈ news, @Ne Nat p.1 I) → Fr h₀ env.locals h (fun y => if y = x then some v else m y) → News h₀ env.locals h ((I, oI) :: news) →
        wpC (model prog w) A (execs body env) (TurnEnd h₀ env.locals { s₁ with heap := h, toks := tk } I oI (J (i + 1))) (fun _ _ => False) { s₁ with heap := h, toks := tk }) ∧
      ∀ m news h tk, J vs.length m news → Fr h₀ env.locals h m → News h₀ env.locals h news → Q .next { s₁ with heap := h, toks := tk }
/-- a refined for over a list of the ground, by an invariant -/
theorem For_list_C {px pos : Pos} {iter : Expr} {l : Addr} {vs : List Value} (J : Nat → (Str → Option Value) → List (Addr × Obj) → Prop) (hx : env.kindOf x = some .local)
    (hp : (env.scope.kind == .class || (env.scope.kind == .module && env.locals != env.globals)) = false) (hh : A.handled = none) (hl : h₀.IsList l vs.toArray)
    (h : wpAny (model prog w) A (eval iter env) (ListAtC prog w A h₀ env x body Q l vs J) (fun _ _ => False) s)
    (hs : ∀ x, foldedSetIterable iter env x = pure x := by intro _; rfl) :
    wpC (model prog w) A (exec (.For (.Name x px) iter body [] pos) env) Q (fun _ _ => False) s := by
  refine For_C (h₀ := h₀) hx hp (wpAny_mono h (fun xv s₁ h₁ => ?_) fun _ _ e => e) hs
  obtain ⟨rfl, m, news, F, N, hJ, turn, done⟩ := h₁
  have hls : s₁.heap.IsList l vs.toArray := hl.at fun o e => F.keep l o e
  obtain ⟨ol, hol, _⟩ := id hl
  have hlt : l < h₀.objs.size := Heap.lt_size hol
  have hne : l ≠ s₁.heap.objs.size := Nat.ne_of_lt (Nat.lt_trans (Nat.lt_of_lt_of_le hlt F.above) F.ns.lt)
  refine wpAny_pyIter_list hls ?_
  have W := Walks.list (prog := prog) (w := w) hh s₁.heap.objs.size l hne vs.toArray
  refine ⟨_, _, _, vs.toArray.size, _, _, m, news, fun i m₁ nx => J i m₁ nx, rfl, W, ?_, ?_, ?_, ⟨⟨_, Heap.get?_push_size _ rfl, rfl, rfl⟩, hls.at fun o e => Heap.get?_push_of_some _ e⟩, F.push _, (fun p hp => ⟨Heap.get?_push_of_some _ (N p hp).1, (N p hp).2⟩), hJ, ?_, ?_⟩
  · intro hm
    rcases List.mem_cons.mp hm with e | hm
    · exact absurd F.ns.lt (e ▸ Nat.lt_irrefl _)
    · exact absurd (Nat.lt_of_lt_of_le hlt F.above) ((List.mem_singleton.mp hm) ▸ Nat.lt_irrefl _)
  · intro b hb
    rw [List.mem_singleton.mp hb]
    exact next_is_new F
  · intro p hp hI
    exact absurd (Heap.lt_size (N p hp).1) ((List.mem_singleton.mp hI) ▸ Nat.lt_irrefl _)
  · rintro i v m₁ news₁ s₂ own ⟨hh', tk', rfl⟩ hin hP hJ₁ hoff hown F₁ N₁ hall hst
    have hP' : vs[i]? = some v := by simpa using hP
    obtain ⟨⟨oI, hoI, _⟩, _⟩ := id hst
    have hI := hall _ (List.mem_cons_self ..) (next_is_new F) _ hoI
    refine wpC_mono (turn i v m₁ news₁ s₁.heap.objs.size oI hh' tk' hP' hJ₁ (fun p hp e => hoff p hp (List.mem_singleton.mpr e)) F₁ (fun p hp => ?_)) (fun f s₃ h₃ => ?_) fun _ _ e => e
    · rcases List.mem_cons.mp hp with rfl | hp
      · exact N₁ _ (List.mem_append_left _ hI)
      · exact N₁ _ (List.mem_append_right _ hp)
    · obtain ⟨rfl, h', tk, m', news', e, F', N', ho, r⟩ := h₃
      refine ⟨rfl, h', tk, m', news', e, F', fun p hp => ?_, fun p hp hI => ho p hp (List.mem_singleton.mp hI), r⟩
      rcases List.mem_append.mp hp with hp | hp
      · have z := N₁ p (List.mem_append_left _ hp)
        have h1 : p.1 = s₁.heap.objs.size := by
          rcases List.mem_cons.mp (hown p hp) with h1 | h1
          · exact h1
          · rw [List.mem_singleton.mp h1] at z
            exact absurd (z.2.2.symm.trans hol) (by intro q; cases q)
        have h2 := z.1
        have h3 : p = (s₁.heap.objs.size, oI) := by
          have h2' : hh'.get? p.1 = some p.2 := h2
          rw [h1] at h2'
          have : hh'.get? s₁.heap.objs.size = some oI := hoI
          rw [this] at h2'
          exact Prod.ext h1 (Option.some.inj h2').symm
        rw [h3]; exact N' _ (List.mem_cons_self ..)
      · exact N' _ (List.mem_cons_of_mem _ hp)
  · intro h' tk m' news' F' N' _ hJ'
    refine done m' news' h' tk ?_ F' N'
    simpa using hJ'
end
end Mine
end
section -- TurnPure
set_option Elab.async false
namespace Mine
/-- the octets of a ring, turned -/
def turnedOf (first : Bool) (r : List Int) : List Int := if first then r.reverse else r.take 1 ++ (r.drop 1).reverse
/-- each at its place -/
def puts : List Int → List Int → List Int → List Int
  | r :: rs, t :: ts, acc => puts rs ts (acc.set r.toNat t)
  | _, _, acc => acc
def putRings (first : Bool) : List (List Int) → List Int → List Int
  | [], acc => acc
  | r :: rs, acc => putRings first rs (puts r (turnedOf first r) acc)
theorem puts_snoc : ∀ (r t acc : List Int) (x y : Int), r.length = t.length → puts (r ++ [x]) (t ++ [y]) acc = (puts r t acc).set x.toNat y
  | [], [], acc, x, y, _ => rfl
  | a :: r, b :: t, acc, x, y, h => by
    show puts (r ++ [x]) (t ++ [y]) (acc.set a.toNat b) = (puts r t (acc.set a.toNat b)).set x.toNat y
    exact puts_snoc r t _ x y (by simpa using h)
  | [], b :: t, _, _, _, h => by simp at h
  | a :: r, [], _, _, _, h => by simp at h
theorem puts_length : ∀ (r t acc : List Int), (puts r t acc).length = acc.length
  | [], _, _ => by simp [puts]
  | _ :: _, [], _ => by simp [puts]
  | a :: r, b :: t, acc => by
    show (puts r t (acc.set a.toNat b)).length = _
    rw [puts_length, List.length_set]
theorem puts_take (r t acc : List Int) (k : Nat) (hk : k < r.length) (ht : r.length = t.length) : puts (r.take (k + 1)) (t.take (k + 1)) acc = (puts (r.take k) (t.take k) acc).set (r.getD k 0).toNat (t.getD k 0) := by
  have h1 : r.take (k + 1) = r.take k ++ [r.getD k 0] := by
    rw [List.take_add_one, List.getElem?_eq_getElem hk, List.getD_eq_getElem?_getD, List.getElem?_eq_getElem hk]; rfl
  have hk' : k < t.length := ht ▸ hk
  have h2 : t.take (k + 1) = t.take k ++ [t.getD k 0] := by
    rw [List.take_add_one, List.getElem?_eq_getElem hk', List.getD_eq_getElem?_getD, List.getElem?_eq_getElem hk']; rfl
  rw [h1, h2, puts_snoc]
  rw [List.length_take, List.length_take, ht]
theorem putRings_length (first : Bool) : ∀ (rs : List (List Int)) (acc : List Int), (putRings first rs acc).length = acc.length
  | [], _ => rfl
  | r :: rs, acc => by
    show (putRings first rs (puts r _ acc)).length = _
    rw [putRings_length first rs, puts_length]
theorem turnedOf_length (first : Bool) (r : List Int) : (turnedOf first r).length = r.length := by
  unfold turnedOf
  cases first
  · simp; omega
  · simp
theorem mem_turnedOf {first : Bool} {r : List Int} {x : Int} (h : x ∈ turnedOf first r) : x ∈ r := by
  unfold turnedOf at h
  cases first
  · simp only [Bool.false_eq_true, if_false, List.mem_append, List.mem_reverse] at h
    rcases h with h | h
    · exact List.mem_of_mem_take h
    · exact List.mem_of_mem_drop h
  · simpa using h
theorem mem_puts : ∀ (r t acc : List Int) (x : Int), x ∈ puts r t acc → x ∈ t ∨ x ∈ acc
  | [], _, _, _, h => .inr (by simpa [puts] using h)
  | _ :: _, [], _, _, h => .inr (by simpa [puts] using h)
  | a :: r, b :: t, acc, x, h => by
    rcases mem_puts r t (acc.set a.toNat b) x h with q | q
    · exact .inl (List.mem_cons_of_mem _ q)
    · rcases List.mem_or_eq_of_mem_set q with q | rfl
      · exact .inr q
      · exact .inl (List.mem_cons_self ..)
theorem mem_putRings (first : Bool) : ∀ (rs : List (List Int)) (acc : List Int) (x : Int), x ∈ putRings first rs acc → (∃ r ∈ rs, x ∈ r) ∨ x ∈ acc
  | [], _, _, h => .inr h
  | r :: rs, acc, x, h => by
    rcases mem_putRings first rs (puts r (turnedOf first r) acc) x h with ⟨q, hq, hx⟩ | h
    · exact .inl ⟨q, List.mem_cons_of_mem _ hq, hx⟩
    · rcases mem_puts _ _ _ _ h with h | h
      · exact .inl ⟨r, List.mem_cons_self .., mem_turnedOf h⟩
      · exact .inr h
theorem putRings_snoc (first : Bool) : ∀ (rs : List (List Int)) (r acc : List Int), putRings first (rs ++ [r]) acc = puts r (turnedOf first r) (putRings first rs acc)
  | [], _, _ => rfl
  | q :: rs, r, acc => by
    show putRings first (rs ++ [r]) _ = puts r _ (putRings first rs _)
    exact putRings_snoc first rs r _
end Mine
end
section -- FnTurn
open PySem PySem.W PySem.Calls PyProof.Rows
set_option Elab.async false
set_option maxRecDepth 100000
set_option maxHeartbeats 8000000
namespace Mine
local macro_rules | `(tactic| walk_at "MineEnterC") => `(tactic| (k_dflt (refine' enterC ?k3 ?k5 ?k6 ?k7 ?k8 ?k9 ?kB ?_ ?c2 ?c3 ?c4 ?c5; (case k3 => k_asm); (case k5 => k_asm); (case k6 => k_is); (case k7 => k_is); (case k8 => ktr_room); (case k9 => exact BindsTo.of_eq rfl); (case c5 => decide); (case kB => exact locs rfl); (case c2 => exact rfl); (case c3 => exact rfl); (case c4 => exact rfl); k_whole)))
local macro_rules | `(tactic| walk_at "pyIter ref") => `(tactic| refine Stop.out ?_)
local macro_rules | `(tactic| walk_at "UnrEnd") => `(tactic| refine Stop.out ?_)
local macro_rules | `(tactic| walk_at "ListAtC") => `(tactic| refine Stop.out ?_)
local macro_rules | `(tactic| walk_at "GotB") => `(tactic| refine Stop.out ?_)
/-- bytes at hand, by their ints -/
def GotB (g : Heap) (L : Addr) (gs : Array GenState) (dn : Drawn) (os : OsState) (m : Str → Option Value) (news : List (Addr × Obj)) (ls : List Int) (v : Value) (s : Shared) : Prop :=
  ∃ tb t' h' tk', v = .bytes tb t' ∧ s = ⟨h', gs, dn, tk', os⟩ ∧ Fr g L h' m ∧ News g L h' news ∧ KBw.bInts tb = ls
theorem bInts_reverse (b : Array UInt8) : KBw.bInts b.reverse = (KBw.bInts b).reverse := by simp [KBw.bInts]
structure TurnArgs where
  rs : List (List Int)
  many : Nat
  first : Bool
theorem C_turn {w : World} (d : TurnArgs) :
    TelC w 58 (fun h vs d => (∃ p us n t, vs = [.ref p, .int d.many t, .bool d.first] ∧ h.get? p = some (listOf us.toArray n) ∧ BsAre us d.rs) ∧ d.many ≤ 9 ∧ ∀ r ∈ d.rs, r ≠ [] ∧ r.length ≤ 9 ∧ ∀ x ∈ r, 0 ≤ x ∧ x < (d.many : Int))
      (fun _ _ r d => ∃ b t, r = .bytes b t ∧ KBw.bInts b = putRings d.first d.rs (rangeKs 0 d.many)) 20 d := by
  unfold TelC
  w_top off
  k_fill
  intro p loose mean mg mb dp un fr gd s vs Q X T hR hdd huu hret
  obtain ⟨⟨pR, us, nu, t1, rfl, hpR, hB⟩, h1, h2⟩ := hR
  obtain ⟨rs, many, first⟩ := d
  obtain ⟨g, gs, dn, tk, os⟩ := s
  dsimp only at X T hpR hB h1 h2 hret
  refine wpC_call ?_
  walk_at "MineEnterC"
  intro L h F N
  (try dsimp only)
  refine execs_C (wpC_of ?_)
  k_steps
  (with_reducible rename Fr _ _ _ _ => F2)
  (with_reducible rename News _ _ _ _ => N2)
  rename_i D vs₀ c₀ _ _ hI₀ _ _
  have e9 : ((many : Int) - 0).toNat = many := by omega
  rw [e9] at hI₀
  have hpl : ∀ rs : List (List Int), (putRings first rs (rangeKs 0 many)).length = many := fun rs => by rw [putRings_length, rangeKs_length]
  refine execs_C (For_list_C (vs := us) (h₀ := g) (fun i m news => ∃ vs n acc, news = [(D, listOf (List.toArray vs) n)] ∧ IntsAre vs acc ∧ acc = putRings first (rs.take i) (rangeKs 0 many) ∧ m "found" = some (.ref D) ∧ m "first" = some (.bool first)) rfl rfl rfl ⟨_, hpR, rfl, _, rfl⟩ ?_)
  k_steps
  refine Stop.go ⟨rfl, _, _, F2, N2, ⟨vs₀, c₀, _, rfl, hI₀, rfl, rfl, rfl⟩, ?_, ?_⟩
  · clear F2 N2 hI₀
    rintro i v m news I oI h tk hv ⟨vs, n, acc, rfl, hvs, hacc, m1, m2⟩ hne F2 N2
    obtain ⟨b, t, rfl, hri⟩ := hB.get i v hv
    obtain ⟨ks, hb⟩ : ∃ ks, KBw.bInts b = ks := ⟨_, rfl⟩
    rw [hb] at hri
    have hbl : ks.length = b.size := by rw [← hb]; exact KBw.ints_length b
    obtain ⟨hk0, hk1, hk2⟩ := h2 ks (List.mem_of_getElem? hri)
    have hDI := hne _ (.head _)
    dsimp only at hDI
    have F3 := told F2 [("ring", .bytes b t), ("found", .ref D), ("first", .bool first)] (by
      intro p hp
      simp only [List.mem_cons, List.not_mem_nil, or_false] at hp
      rcases hp with rfl | rfl | rfl
      · rfl
      · exact m1
      · exact m2)
    clear F2
    have hk3 : 0 < ks.length := List.length_pos_iff.mpr hk0
    refine execs_C (wpC_of ?_)
    k_steps
    have hcl : clipAt ks.length 1 = 1 := by rw [show (1 : Int) = ((1 : Nat) : Int) from rfl, clipAt_nat]; omega
    have hc1 : KBw.bInts (KBy.picked b (some 1) none) = ks.drop 1 := by
      rw [‹KBw.bInts (KBy.picked b (some 1) none) = _›, hcl]
      exact List.take_of_length_le (by rw [List.length_drop]; omega)
    clear ‹KBw.bInts (KBy.picked b (some 1) none) = List.take _ _›
    generalize KBy.picked b (some 1) none = c at *
    (with_reducible rename Fr _ _ _ _ => F4)
    (with_reducible rename News _ _ _ _ => N4)
    clear ‹Fr g _ _ (kstB _ _)›
    have hcz : c.size = ks.length - 1 := by rw [← KBw.ints_length c, hc1, List.length_drop]
    obtain ⟨tR, F5⟩ : ∃ tR, Fr g L _ (fun y => if y = "rest" then some (.bytes c tR) else kstB (fun y => if y = "ring" then some (Value.bytes b t) else m y) [("ring", .bytes b t), ("found", .ref D), ("first", .bool first)] y) := ⟨_, F4⟩
    refine execs_C (Assign_Name_C (wpC_mono (Q := GotB g L gs dn os (fun y => if y = "rest" then some (.bytes c tR) else kstB (fun y => if y = "ring" then some (Value.bytes b t) else m y) [("ring", .bytes b t), ("found", .ref D), ("first", .bool first)] y) [(I, oI), (D, listOf vs.toArray n)] (turnedOf first ks)) ?_ ?_ fun _ _ e => e))
    · refine IfExp_C ?_
      cases first
      · k_steps
        refine BinOp_C ?_
        k_steps
        have hc2 : KBw.bInts (KBy.picked b none (some 1)) = ks.take 1 := by
          rw [‹KBw.bInts (KBy.picked b none (some 1)) = _›, hcl]
        clear ‹KBw.bInts (KBy.picked b none (some 1)) = List.take (clipAt _ _) _›
        generalize KBy.picked b none (some 1) = c2 at *
        refine IfExp_C ?_
        k_steps
        · refine Call_C (f := .ref 21) (P := (hd.heap_39 w.params).In) (keeps_K rfl) ?_
          k_steps
          have hcz0 : 0 < c.size := by
            have hc3 : (c.toList != #[].toList) = true := by assumption
            rcases Nat.eq_zero_or_pos c.size with q | q
            · rw [Array.eq_empty_of_size_eq_zero q] at hc3
              exact absurd hc3 (by decide)
            · exact q
          refine (C_byte c).at X T rfl (by k_asm) (by k_asm) ⟨⟨_, _, by rw [hcz]⟩, hcz0, by omega⟩ (by show dp + 1 + 4 < _; omega) (by show un + 3 + 8 * 4 < _; omega) fun r h7 tk7 F7 N7 _ hr => ?_
          obtain ⟨t7, rfl⟩ := hr
          have hrev : KBw.bInts c.reverse = (ks.drop 1).reverse := by rw [bInts_reverse, hc1]
          refine KBa.add_K hc2 hrev (by simp; omega) fun t8 k8 h8 => ?_
          exact ⟨_, _, _, _, rfl, rfl, F7, N7, h8⟩
        · refine wpC_of ?_
          k_steps
          refine Stop.go ⟨_, _, _, _, rfl, rfl, by k_asm, by k_asm, ?_⟩
          have hc3 : (c.toList != #[].toList) = false := by assumption
          have hc4 : c.toList = [] := by simpa using hc3
          have hc5 : ks.drop 1 = [] := by rw [← hc1]; unfold KBw.bInts; rw [hc4]; rfl
          rw [‹KBw.bInts (c2 ++ #[]) = _›]
          show _ = ks.take 1 ++ (ks.drop 1).reverse
          rw [hc5]; rfl
      · k_steps
        refine Call_C (f := .ref 21) (P := (hd.heap_39 w.params).In) (keeps_K rfl) ?_
        k_steps
        refine (C_byte b).at X T rfl (by k_asm) (by k_asm) ⟨⟨_, _, by rw [hbl]⟩, by omega, by omega⟩ (by show dp + 1 + 4 < _; omega) (by show un + 3 + 8 * 4 < _; omega) fun r h7 tk7 F7 N7 _ hr => ?_
        obtain ⟨t7, rfl⟩ := hr
        exact ⟨_, _, _, _, rfl, rfl, F7, N7, by rw [bInts_reverse, hb]; rfl⟩
    · rintro _ _ ⟨tb, t9, h9, tk9, rfl, rfl, F9, N9, htb⟩
      k_steps
      refine wpC_of ?_
      k_steps
      (with_reducible rename Fr _ _ _ _ => F10)
      (with_reducible rename News _ _ _ _ => N10)
      (with_reducible rename IsRange _ _ _ _ _ _ _ _ => R10)
      refine Stop.go ?_
      obtain ⟨ls, hls⟩ : ∃ ls, turnedOf first ks = ls := ⟨_, rfl⟩
      rw [hls] at htb
      have hlsl : ls.length = ks.length := by rw [← hls]; exact turnedOf_length first ks
      refine krs_iter (hh := rfl) R10 (n := ks.length) (small_upto (by omega)) (rangeSize_upto _) F10 N10 fun I2 lI2 => ?_
      (replace lI2 := allLt_of lI2; simp only [AllLt, and_true] at lI2)
      refine krs_inv (n := ks.length) (fun j m news => ∃ vs n acc', news = [(I, oI), (D, listOf (List.toArray vs) n)] ∧ IntsAre vs acc' ∧ acc' = puts (ks.take j) (ls.take j) acc ∧ m "ring" = some (.bytes b t) ∧ m "turned" = some (.bytes tb t9) ∧ m "found" = some (.ref D) ∧ m "first" = some (.bool first)) ?_ ?_ ks.length 0 _ _ (by omega) ⟨_, _, _, rfl, hvs, rfl, rfl, rfl, rfl, rfl⟩
      · clear F10 N10 R10
        rintro j m news t3 h3 tk3 oI2 hj ⟨vs3, n3, acc3, rfl, hvs3, hacc3, m3, m4, m5, m6⟩ F3 N3
        have F11 := told F3 [("k", .int (0 + (j : Int) * 1) t3), ("ring", .bytes b t), ("turned", .bytes tb t9), ("found", .ref D), ("first", .bool first)] (by
          intro p hp
          simp only [List.mem_cons, List.not_mem_nil, or_false] at hp
          rcases hp with rfl | rfl | rfl | rfl | rfl
          · rfl
          · exact m3
          · exact m4
          · exact m5
          · exact m6)
        clear F3
        have e0 : (0 : Int) + (j : Int) * 1 = (j : Int) := by omega
        rw [e0] at F11
        dsimp only [kstB] at F11
        obtain ⟨hx0, hx1⟩ : 0 ≤ ks.getD j 0 ∧ ks.getD j 0 < (many : Int) := hk2 _ (by rw [List.getD_eq_getElem?_getD, List.getElem?_eq_getElem hj]; exact List.getElem_mem _)
        have hl3 : acc3.length = many := by rw [hacc3, puts_length, hacc, hpl]
        have ej : (j : Int).toNat = j := by omega
        have hI2 := lI2.1
        have hD2 := lI2.2
        k_steps
        refine ksa_set (by k_asm) (by k_asm) (by k_upd) hvs3 (by rw [ej]; exact hx0) (by rw [ej, hl3]; exact hx1) (by rw [ej]; omega) fun h5 F5' N5' hvs5 _ _ => ?_
        k_steps
        refine Stop.go (UnrEnd.intro (by k_asm) N5' [(I, oI), (D, listOf (List.toArray _) n3)] (by intro p hp; simp only [List.mem_cons, List.not_mem_nil, or_false] at hp ⊢; rcases hp with rfl | rfl | rfl <;> simp) (by intro p hp; simp only [List.mem_cons, List.not_mem_nil, or_false] at hp; rcases hp with rfl | rfl <;> (show @Ne Nat _ _) <;> omega) ⟨_, n3, _, rfl, hvs5, ?_, rfl, rfl, rfl, rfl⟩)
        rw [hacc3, ej, puts_take _ _ _ _ hj hlsl.symm]
      · clear F10 N10 R10
        rintro m news h3 tk3 ⟨vs3, n3, acc3, rfl, hvs3, hacc3, m3, m4, m5, m6⟩ F3 N3
        refine wpAny_execs_nil ⟨rfl, _, _, _, _, rfl, F3, N3, ?_, ⟨vs3, n3, acc3, rfl, hvs3, ?_, m5, m6⟩⟩
        · intro p hp
          rw [List.mem_singleton.mp hp]
          exact hDI
        · rw [hacc3, List.take_of_length_le (Nat.le_refl _), List.take_of_length_le (by omega), hacc, List.take_add_one, hri]
          show _ = putRings first (rs.take i ++ [ks]) _
          rw [putRings_snoc, hls]
  · clear F2 N2 hI₀
    rintro m news h3 tk3 ⟨vs3, n3, acc3, rfl, hvs3, hacc3, m3, m4⟩ F3 N3
    have F4 := told F3 [("found", .ref D)] (by
      intro p hp
      rw [List.mem_singleton.mp hp]
      exact m3)
    clear F3
    dsimp only [kstB] at F4
    have hrs : rs.length = us.length := hB.length.symm
    rw [List.take_of_length_le (by omega)] at hacc3
    have hIn : KBa.In acc3 := fun x hx => by
      rw [hacc3] at hx
      rcases mem_putRings _ _ _ _ hx with ⟨r, hr, hxr⟩ | hx
      · have := (h2 r hr).2.2 x hxr
        omega
      · have := mem_rangeKs hx
        omega
    have hl3 : acc3.length = many := by rw [hacc3, hpl]
    refine wpC_of ?_
    k_steps
    (with_reducible rename Fr _ _ _ _ => F9)
    exact hret _ _ _ F9.keep ⟨_, _, rfl, by rw [← hacc3]; exact KBa.ints_make hIn⟩
end Mine
end
section -- ForR
open PySem PySem.W PySem.Calls PyProof.Rows
set_option Elab.async false
set_option maxRecDepth 100000
set_option maxHeartbeats 8000000
namespace Mine
section
variable {prog : Program} {w : World} {A : Around} {E : Value → Shared → Prop} {s : Shared} {env : Env} {h₀ : Heap} {body : List Stmt} {Q : Flow → Shared → Prop}
/-- what a for over a range wants, whatever its target is -/
def RangeAtG (prog : Program) (w : World) (A : Around) (h₀ : Heap) (env : Env) (target : Expr) (body : List Stmt) (Q : Flow → Shared → Prop) (n : Nat) (J : Nat → (Str → Option Value) → List (Addr × Obj) → Prop) (xv : Value) (s₁ : Shared) : Prop :=
  ∃ r t u v m news, xv = .ref r ∧ IsRange s₁.heap r 0 (n : Int) 1 t u v ∧ n ≤ 1000 ∧ Fr h₀ env.locals s₁.heap m ∧ News h₀ env.locals s₁.heap news ∧ J 0 m news ∧
    (∀ i m news I oI h tk t, i < n → J i m news → (∀ p ∈ news, @Ne Nat p.1 I) → Fr h₀ env.locals h m → News h₀ env.locals h ((I, oI) :: news) →
      wpAny (model prog w) A (assign target env (.int (i : Int) t)) (fun _ s₂ => wpAny (model prog w) A (execs body env) (TurnEnd h₀ env.locals { s₁ with heap := h, toks := tk } I oI (J (i + 1))) (fun _ _ => False) s₂) (fun _ _ => False) { s₁ with heap := h, toks := tk }) ∧
    ∀ m news h tk, J n m news → Fr h₀ env.locals h m → News h₀ env.locals h news → Q .next { s₁ with heap := h, toks := tk }
theorem For_range_G {pos : Pos} {target iter : Expr} {n : Nat} (J : Nat → (Str → Option Value) → List (Addr × Obj) → Prop) (hh : A.handled = none)
    (h : wpAny (model prog w) A (eval iter env) (RangeAtG prog w A h₀ env target body Q n J) E s)
    (ht : ∀ it v, letOwnedTupleGo target it v = pure () := by intro _ _; rfl)
    (hs : ∀ x, foldedSetIterable iter env x = pure x := by intro _; rfl) :
    wpAny (model prog w) A (exec (.For target iter body [] pos) env) Q E s := by
  refine wpAny_For (wpAny_mono h (fun xv s₁ h₁ => ?_) fun _ _ e => e) hs
  obtain ⟨r, t, u, v, m, news, rfl, hr, hn, F, N, hJ, turn, done⟩ := h₁
  refine wpAny_pyIter_range hr (small_upto hn) ?_
  have W : Walks prog w A s₁.heap.objs.size [s₁.heap.objs.size] [s₁.heap.objs.size] n (fun i v => ∃ t, v = .int (0 + i * 1) t)
      (fun i h => IsRangeIter h s₁.heap.objs.size (0 + (i : Nat) * 1) ((n : Int) - (i : Nat)) 1) := Walks.range hh _ 0 1 n
  have hIn := next_is_new F
  have hIL : env.locals ≠ s₁.heap.objs.size := Nat.ne_of_lt F.ns.lt
  refine codeAny_forLoop
    (fun k s' => ∃ h' tk m' news' i, s' = { s₁ with heap := h', toks := tk } ∧ IsRangeIter h' s₁.heap.objs.size (0 + (i : Nat) * 1) ((n : Int) - (i : Nat)) 1 ∧ Fr h₀ env.locals h' m' ∧ News h₀ env.locals h' news' ∧ (∀ p ∈ news', @Ne Nat p.1 s₁.heap.objs.size) ∧ J i m' news' ∧ i ≤ n ∧ k = n + 1 - i) ?_ (n + 1)
    ⟨_, s₁.toks, m, news, 0, rfl, (by show IsRangeIter _ _ _ _ _; rw [rangeSize_upto]; simpa using Heap.get?_push_size _ rfl), F.push _, (fun p hp => ⟨Heap.get?_push_of_some _ (N p hp).1, (N p hp).2⟩), (fun p hp => Nat.ne_of_lt (Heap.lt_size (N p hp).1)), hJ, Nat.zero_le _, rfl⟩ (ht _)
  rintro k s' ⟨h', tk, m', news', i, rfl, hst, F', N', hnI, hJ', hi, rfl⟩
  have next : ∀ h₁ : Heap, (∀ b o, b ∉ [s₁.heap.objs.size] → h'.get? b = some o → h₁.get? b = some o) → Fr h₀ env.locals h₁ m' ∧ News h₀ env.locals h₁ news' := fun h₁ hk₁ =>
    ⟨⟨F'.ns.at' fun o e => hk₁ _ o (fun q => hIL (List.mem_singleton.mp q)) e, fun b o e => hk₁ b o (fun q => by rw [List.mem_singleton.mp q, hIn] at e; cases e) (F'.keep b o e), F'.above⟩,
      fun p hp => ⟨hk₁ _ _ (fun q => hnI p hp (List.mem_singleton.mp q)) (N' p hp).1, (N' p hp).2⟩⟩
  by_cases hlt : i < n
  · refine W.item i _ _ _ hlt hst fun v h₁ tk₁ hP hst₁ hk₁ => ?_
    obtain ⟨t₁, rfl⟩ := hP
    obtain ⟨F₁, N₁⟩ := next h₁ hk₁
    have e0 : (0 : Int) + (i : Int) * 1 = (i : Int) := by omega
    rw [e0]
    have hI : h₁.get? s₁.heap.objs.size = some (krsIt (0 + ((i + 1 : Nat) : Int) * 1) ((n : Int) - ((i + 1 : Nat) : Int)) 1) := hst₁
    refine wpAny_mono (turn i m' news' s₁.heap.objs.size (krsIt (0 + ((i + 1 : Nat) : Int) * 1) ((n : Int) - ((i + 1 : Nat) : Int)) 1) h₁ tk₁ t₁ hlt hJ' hnI F₁ (fun p hp => ?_)) (fun _ s₂ h₂ => wpAny_mono h₂ (fun f s₃ h₃ => ?_) fun _ _ x => x.elim) fun _ _ x => x.elim
    · rcases List.mem_cons.mp hp with rfl | hp
      · exact ⟨hI, hIL.symm, hIn⟩
      · exact N₁ _ hp
    · obtain ⟨rfl, h₄, tk₄, m₄, news₄, rfl, F₄, N₄, hn₄, hJ₄⟩ := h₃
      exact ⟨n + 1 - (i + 1), by omega, h₄, tk₄, m₄, news₄, i + 1, rfl, (N₄ _ (.head _)).1, F₄, fun p hp => N₄ p (.tail _ hp), hn₄, hJ₄, hlt, rfl⟩
  · have hin : i = n := by omega
    subst hin
    refine W.done _ _ _ hst fun h₁ tk₁ hk₁ => ?_
    obtain ⟨F₁, N₁⟩ := next h₁ hk₁
    exact wpAny_execs_nil (done m' news' h₁ tk₁ hJ' F₁ N₁)
end
end Mine
end
section -- OrdPure
set_option Elab.async false
namespace Mine
def ordersF : Nat → List Int → List (List Int)
  | 0, ks => [ks]
  | n + 1, ks => if ks.length < 2 then [ks] else (List.range ks.length).flatMap fun k => (ordersF n (ks.take k ++ ks.drop (k + 1))).map (((ks.drop k).take 1) ++ ·)
def ordersP (n : Nat) (ks : List Int) (i : Nat) : List (List Int) := (List.range i).flatMap fun k => (ordersF n (ks.take k ++ ks.drop (k + 1))).map (((ks.drop k).take 1) ++ ·)
theorem ordersP_succ (n : Nat) (ks : List Int) (i : Nat) : ordersP n ks (i + 1) = ordersP n ks i ++ (ordersF n (ks.take i ++ ks.drop (i + 1))).map (((ks.drop i).take 1) ++ ·) := by
  unfold ordersP
  rw [List.range_succ, List.flatMap_append]
  simp
theorem flatMap_len {B : Nat} (f : Nat → List (List Int)) : ∀ i, (∀ k, k < i → (f k).length ≤ B) → ((List.range i).flatMap f).length ≤ i * B
  | 0, _ => by simp
  | i + 1, h => by
    rw [List.range_succ, List.flatMap_append, List.length_append]
    have h1 := flatMap_len f i fun k hk => h k (by omega)
    have h2 := h i (by omega)
    simp only [List.flatMap_cons, List.flatMap_nil, List.append_nil]
    rw [Nat.succ_mul]
    omega
theorem cut_len (ks : List Int) (k : Nat) : (ks.take k ++ ks.drop (k + 1)).length ≤ ks.length := by
  rw [List.length_append, List.length_take, List.length_drop]
  omega
theorem ordersF_len : ∀ (n : Nat) (ks : List Int), ks.length ≤ 4 → (ordersF n ks).length ≤ 4 ^ n
  | 0, _, _ => by simp [ordersF]
  | n + 1, ks, h => by
    unfold ordersF
    split
    · simp only [List.length_singleton]; exact Nat.one_le_pow _ _ (by omega)
    · have h1 := flatMap_len (B := 4 ^ n) (fun k => (ordersF n (ks.take k ++ ks.drop (k + 1))).map (((ks.drop k).take 1) ++ ·)) ks.length (fun k hk => by
        rw [List.length_map]
        exact ordersF_len n _ (Nat.le_trans (cut_len ks k) h))
      have h2 : ks.length * 4 ^ n ≤ 4 * 4 ^ n := Nat.mul_le_mul_right _ h
      rw [Nat.pow_succ, Nat.mul_comm]
      omega
theorem ordersP_len (n : Nat) (ks : List Int) (hn : n ≤ 3) (h : ks.length ≤ 4) (i : Nat) (hi : i ≤ 4) : (ordersP n ks i).length ≤ 256 := by
  have h1 := flatMap_len (B := 4 ^ n) (fun k => (ordersF n (ks.take k ++ ks.drop (k + 1))).map (((ks.drop k).take 1) ++ ·)) i (fun k hk => by
    rw [List.length_map]
    exact ordersF_len n _ (Nat.le_trans (cut_len ks k) h))
  have h2 : 4 ^ n ≤ 4 ^ 3 := Nat.pow_le_pow_right (by omega) hn
  have h3 : i * 4 ^ n ≤ 4 * 4 ^ 3 := Nat.mul_le_mul hi h2
  unfold ordersP
  omega
theorem ordersF_len64 (n : Nat) (ks : List Int) (hn : n ≤ 3) (h : ks.length ≤ 4) : (ordersF n ks).length ≤ 64 := by
  have h1 := ordersF_len n ks h
  have h2 : 4 ^ n ≤ 4 ^ 3 := Nat.pow_le_pow_right (by omega) hn
  omega
theorem ordersF_lens : ∀ (n : Nat) (ks r : List Int), r ∈ ordersF n ks → r.length ≤ ks.length
  | 0, ks, r, h => by
    simp only [ordersF, List.mem_singleton] at h
    rw [h]; exact Nat.le_refl _
  | n + 1, ks, r, h => by
    unfold ordersF at h
    split at h
    · rw [List.mem_singleton.mp h]; exact Nat.le_refl _
    · obtain ⟨k, hk, hr⟩ := List.mem_flatMap.mp h
      obtain ⟨q, hq, rfl⟩ := List.mem_map.mp hr
      have h1 := ordersF_lens n _ q hq
      rw [List.mem_range] at hk
      rw [List.length_append, List.length_take, List.length_drop] at h1
      rw [List.length_append, List.length_take, List.length_drop]
      omega
end Mine
end
section -- FnOrders
open PySem PySem.W PySem.Calls PyProof.Rows
set_option Elab.async false
set_option maxRecDepth 100000
set_option maxHeartbeats 8000000
namespace Mine
local macro_rules | `(tactic| walk_at "MineEnterCells") => `(tactic| (k_dflt (refine' enterCells ?k3 ?k5 ?k6 ?k7 ?k8 ?k9 ?kB ?kD ?_ ?c2 ?c3 ?c4; (case k3 => k_asm); (case k5 => k_asm); (case k6 => k_is); (case k7 => k_is); (case k8 => ktr_room); (case k9 => exact BindsTo.of_eq rfl); (case kB => exact rfl); (case kD => decide +kernel); (case c2 => exact rfl); (case c3 => exact rfl); (case c4 => exact rfl); k_whole)))
local macro_rules | `(tactic| walk_at "eval ListComp") => `(tactic| refine Stop.out ?_)
local macro_rules | `(tactic| walk_at "pyIter ref") => `(tactic| refine Stop.out ?_)
local macro_rules | `(tactic| walk_at "RangeAtG") => `(tactic| refine Stop.out ?_)
local macro_rules | `(tactic| walk_at "TurnEnd") => `(tactic| refine Stop.out ?_)
local macro_rules | `(tactic| walk_at "binaryOp Add ref ref") => `(tactic| refine Stop.out ?_)
local macro_rules | `(tactic| walk_at "call ref") => `(tactic| refine Stop.out ?_)
local macro_rules | `(tactic| walk_at "CompSrc") => `(tactic| refine Stop.out ?_)
theorem C_orders {w : World} : ∀ (n : Nat), n ≤ 3 → ∀ (ks : List Int),
    Tel w 63 (fun _ vs ks => (∃ b t1, vs = [.bytes b t1] ∧ KBw.bInts b = ks) ∧ ks.length ≤ n + 1)
      (fun h h' r ks => ∃ p vs k, r = .ref p ∧ h.get? p = none ∧ h'.get? p = some (listOf vs.toArray k) ∧ BsAre vs (ordersF n ks)) (20 + 10 * n) ks := by
  intro n
  induction n with
  | zero =>
    intro _ ks
    unfold Tel
    w_top off
    k_fill
    intro p loose mean mg mb dp un fr gd s vs Q E X T hR hdd huu hret
    obtain ⟨⟨b, t1, rfl, hb⟩, h1⟩ := hR
    have h24 : ks.length ≤ 4 := by omega
    obtain ⟨g, gs, dn, tk, os⟩ := s
    dsimp only at X T hret
    refine wpAny_call ?_
    walk_at "MineEnterCells"
    intro L h tk₁ cells F N Y
    k_cells Y
    (try dsimp only)
    k_steps
    · rename_i o₁ o₂ d₁ d₂ hlt _ _ _ _ _
      (with_reducible rename Fr _ _ _ _ => F2)
      (with_reducible rename News _ _ _ _ => N2)
      exact hret _ _ _ F2.keep ⟨_, [.bytes b t1], _, rfl, (N2 _ (.head _)).2.2, (N2 _ (.head _)).1, by unfold ordersF;  exact .cons hb .nil⟩
  | succ n ih =>
    intro hn3 ks
    have ih := ih (by omega)
    unfold Tel
    w_top off
    k_fill
    intro p loose mean mg mb dp un fr gd s vs Q E X T hR hdd huu hret
    obtain ⟨⟨b, t1, rfl, hb⟩, h1⟩ := hR
    have h24 : ks.length ≤ 4 := by omega
    obtain ⟨g, gs, dn, tk, os⟩ := s
    dsimp only at X T hret
    refine wpAny_call ?_
    walk_at "MineEnterCells"
    intro L h tk₁ cells F N Y
    k_cells Y
    (try dsimp only)
    k_steps
    · rename_i o₁ o₂ d₁ d₂ hlt _ _ _ _ _
      (with_reducible rename Fr _ _ _ _ => F2)
      (with_reducible rename News _ _ _ _ => N2)
      exact hret _ _ _ F2.keep ⟨_, [.bytes b t1], _, rfl, (N2 _ (.head _)).2.2, (N2 _ (.head _)).1, by unfold ordersF; rw [if_pos (by omega)]; exact .cons hb .nil⟩
    · rename_i o₁ o₂ d₁ d₂ hlt _ pF _ lF _ _ _
      (with_reducible rename Fr _ _ _ _ => F2)
      (with_reducible rename News _ _ _ _ => N2)
      have d2 : o₂.data = .cell (some (.bytes b t1)) := d₂
      have d1 : o₁.data = .cell none := d₁
      clear d₁ d₂
      have hbl : ks.length = b.size := by rw [← hb]; exact KBw.ints_length b
      refine For_range_G (n := ks.length) (h₀ := g) (fun i m news => ∃ pF vF nF oK c, news = [(pF, listOf (List.toArray vF) nF), (L + 1 + 1, oK), (L + 1, o₂)] ∧ @LT.lt Nat _ (L + 1 + 1) pF ∧ oK.data = .cell c ∧ m "found" = some (.ref pF) ∧ BsAre vF (ordersP n ks i)) rfl ?_
      k_steps
      refine Stop.go ⟨_, _, _, _, _, _, rfl, by k_asm, by omega, by k_asm, by k_asm, ⟨_, [], _, _, _, rfl, by omega, d1, rfl, .nil⟩, ?_, ?_⟩
      · clear hlt
        rintro i m news I oI h2 tk2 t2 hi ⟨pF, vF, nF, oK, c, rfl, hpF, dK, mF, hF⟩ hnI F2 N2
        have F3 := told F2 [("found", .ref pF)] (by
          intro p hp
          rw [List.mem_singleton.mp hp]
          exact mF)
        clear F2
        dsimp only [kstB] at F3
        have hI2 : @Ne Nat (L + 1 + 1) I := hnI _ (.tail _ (.head _))
        k_steps
        (with_reducible rename Fr _ _ _ _ => F4)
        refine Stop.go (LCg.ListComp_U F4 (by with_unfolding_all rfl) (by decide) (by rfl) (by decide) (by rfl) ?_)
        have hcl : clipAt ks.length (i : Int) = i := by rw [clipAt_nat]; omega
        have hcl1 : clipAt ks.length ((i : Int) + 1) = i + 1 := by rw [show (i : Int) + 1 = ((i + 1 : Nat) : Int) by omega, clipAt_nat]; omega
        k_steps
        have hcat : KBw.bInts (KBy.picked b none (some (i : Int)) ++ KBy.picked b (some ((i : Int) + 1)) none) = ks.take i ++ ks.drop (i + 1) := by
          rw [‹KBw.bInts (KBy.picked b none (some (i : Int)) ++ KBy.picked b (some ((i : Int) + 1)) none) = _›, hcl1, Nat.min_eq_left (by omega), List.take_of_length_le (l := ks.drop (i + 1)) (by rw [List.length_drop]; omega)]
        clear ‹KBw.bInts (KBy.picked b none (some (i : Int)) ++ KBy.picked b (some ((i : Int) + 1)) none) = List.take _ _ ++ List.take _ _› ‹KBw.bInts (KBy.picked b (some ((i : Int) + 1)) none) = _› ‹KBw.bInts (KBy.picked b none (some (i : Int))) = _›
        generalize KBy.picked b none (some (i : Int)) ++ KBy.picked b (some ((i : Int) + 1)) none = bc at *
        have hlc : (ks.take i ++ ks.drop (i + 1)).length ≤ n + 1 := by rw [List.length_append, List.length_take, List.length_drop]; omega
        refine Stop.go ((ih (ks.take i ++ ks.drop (i + 1))).at X T rfl (by k_asm) (by k_asm) ⟨⟨_, _, rfl, hcat⟩, hlc⟩ (by show dp + 1 + (20 + 10 * n) < _; omega) (by show un + 3 + 8 * (20 + 10 * n) < _; omega) fun r h7 tk7 F7 N7 x7 hr => ?_)
        obtain ⟨p, us, nu, rfl, hn, hp, hB⟩ := hr
        dsimp only at hn
        obtain ⟨N8, -⟩ := ledger_add (by k_asm) (by k_asm) N7 hn hp
        have hul : us.length ≤ 64 := by rw [hB.length]; exact ordersF_len64 _ _ (by omega) (by omega)
        have hvl : vF.length ≤ 256 := by rw [hF.length]; exact ordersP_len _ _ (by omega) h24 _ (by omega)
        refine LCg.CompSrc.ledger rfl F7 N8 (.head _) (by rw [sizeLine_eq, List.size_toArray]; omega) fun gg => ?_
        refine comp_inv (n := us.toArray.size) (fun j ys news => news = [(p, listOf us.toArray nu), (I, oI), (pF, listOf vF.toArray nF), (L + 1 + 1, _), (L + 1, o₂)] ∧ BsAre ys (((ordersF n (ks.take i ++ ks.drop (i + 1))).take j).map (((ks.drop i).take 1) ++ ·))) ?_ ?_ us.toArray.size 0 [] _ (Nat.zero_add _) ⟨rfl, .nil⟩
        · intro j ys news v I2 oI2 C2 oC2 D2 m₂ h5 tk5 E5 hj hI hP hC5 hx5 F5 N5 off5 ne5
          obtain ⟨rfl, hys⟩ := hI
          have hP' : us[j]? = some v := by simpa using hP
          obtain ⟨bv, tv, rfl, hbv⟩ := hB.get j v hP'
          obtain ⟨kv, hkv⟩ : ∃ kv, KBw.bInts bv = kv := ⟨_, rfl⟩
          rw [hkv] at hbv
          have hkl : kv.length ≤ 4 := Nat.le_trans (ordersF_lens _ _ _ (List.mem_of_getElem? hbv)) (by omega)
          clear hI2
          k_steps
          refine ⟨_, _, _, rfl, by k_asm, by k_asm, off5, .inr ⟨_, .head _, rfl, _, rfl⟩, rfl, ?_⟩
          rw [List.take_add_one (l := ordersF n (ks.take i ++ ks.drop (i + 1))), hbv, List.map_append]
          refine hys.append (.cons ?_ .nil)
          rw [‹KBw.bInts (KBy.picked b (some (i : Int)) (some ((i : Int) + 1)) ++ bv) = _›, hcl1, Nat.min_eq_left (by omega), Nat.add_sub_cancel_left]
        · rintro ys news ⟨rfl, hys⟩
          rw [List.take_of_length_le (l := ordersF n (ks.take i ++ ks.drop (i + 1))) (by rw [← hB.length, List.size_toArray]; omega)] at hys
          have hyl : ys.length ≤ 64 := by rw [hys.length, List.length_map, ← hB.length]; exact hul
          dsimp only
          k_steps
          (with_reducible rename Fr _ _ _ _ => F9)
          (with_reducible rename News _ _ _ _ => N9)
          refine Stop.go (kmk_add_lit (its := vF.toArray) (its2 := ys.toArray) (zs := vF ++ ys) (by k_asm) (by k_asm) (by is_list) ⟨_, (N9 _ (.head _)).1, rfl, _, rfl⟩ (by simp) (fun D h9 F10 N10 l10 => ?_) (by rw [sizeLine_eq]; simp; omega))
          (replace l10 := allLt_of l10; simp only [AllLt, and_true] at l10)
          k_steps
          rename_i oK' _ dK' _ _ _ _ _ _ _ _ _ _ _ _ _ _ _
          (with_reducible rename Fr _ _ _ _ => F11)
          (with_reducible rename News _ _ _ _ => N11)
          have hI3 : @Ne Nat (L + 1) I := hnI _ (.tail _ (.tail _ (.head _)))
          refine Stop.go ⟨rfl, UnrEnd.intro F11 N11 [(D, listOf (vF ++ ys).toArray 0), (L + 1 + 1, oK'), (L + 1, o₂)] (by intro p hp; simp only [List.mem_cons, List.not_mem_nil, or_false] at hp ⊢; rcases hp with rfl | rfl | rfl | rfl <;> simp) (by intro p hp; simp only [List.mem_cons, List.not_mem_nil, or_false] at hp; rcases hp with rfl | rfl | rfl <;> (show @Ne Nat _ _) <;> omega) ⟨D, vF ++ ys, 0, _, _, rfl, by omega, by assumption, rfl, by rw [ordersP_succ]; exact hF.append hys⟩⟩
      · rintro m news h2 tk2 ⟨pF, vF, nF, oK, c, rfl, hpF, dK, mF, hF⟩ F2 N2
        have F3 := told F2 [("found", .ref pF)] (by
          intro p hp
          rw [List.mem_singleton.mp hp]
          exact mF)
        clear F2
        dsimp only [kstB] at F3
        dsimp only
        k_steps
        exact hret _ _ _ F3.keep ⟨pF, vF, nF, rfl, (N2 _ (.head _)).2.2, (N2 _ (.head _)).1, by unfold ordersF; rw [if_neg (by omega)]; exact hF⟩
end Mine
end
section -- BytesLt
open PySem PySem.W PySem.Calls PyProof.Rows
set_option Elab.async false
set_option maxRecDepth 100000
set_option maxHeartbeats 8000000
namespace Mine
open Builtin
theorem bt_slot_lt : Slot "bytes" (cmpInfo .Lt).2.1 "bytes.__lt__" :=
  .of (owner := "bytes") (n := "__lt__") (by rw [typeLookup_type, builtinLookup_eq_fast]; kernel_rfl) (by decide +kernel) (by decide +kernel) (by decide +kernel)
    (by first | exact .inl (by decide +kernel) | exact .inr (by decide +kernel)) (by rw [isSubtype_type]; kernel_rfl)
theorem bt_entry_lt : entryFor table "bytes.__lt__" = some Builtin.«bytes.__lt__» := by first | exact entryFor_of_fast (by kernel_rfl) | exact entryFor_of_tree (by kernel_rfl)
theorem bt_args_lt (a b : Value) : argsOk "bytes.__lt__" ⟨[a, b], []⟩ := by unfold argsOk; kernel_rfl
theorem gives_bytes_lt (b c : Array UInt8) (t u : Tok) : Gives («bytes.__lt__» ⟨[.bytes b t, .bytes c u], []⟩) (.val (.bool (Bytes.order b.toList c.toList == .lt))) := by
  refine .of_wp fun M A E s Q hq => ?_
  show wpAny M A (isInstance (.bytes c u) (.type "bytes") >>= fun r => _) _ E s
  refine wpAny_bind (wpAny_isInstance (typeIs_bytes s c u) F.sub_bytes_bytes ?_)
  exact wpAny_pure ⟨_, rfl, hq⟩
section
variable {prog : Program} {w : World} {A : Around} {E : Value → Shared → Prop} {s : Shared} {b c : Array UInt8} {t u : Tok}
theorem lt_bytes {Q : Value → Shared → Prop} (h : Q (.bool (Bytes.order b.toList c.toList == .lt)) s) : wpAny (model prog w) A (compareOp .Lt (.bytes b t) (.bytes c u)) Q E s :=
  compareOp_gives (op := .Lt) (typeIs_bytes s b t) (typeIs_bytes s c u) bt_slot_lt bt_entry_lt (bt_args_lt _ _) (gives_bytes_lt b c t u) (fun e => nomatch e) h
end
def cmpI : List Int → List Int → Ordering
  | [], [] => .eq
  | [], _ :: _ => .lt
  | _ :: _, [] => .gt
  | x :: a, y :: b => if x < y then .lt else if y < x then .gt else cmpI a b
theorem order_ints : ∀ a b : List UInt8, Bytes.order a b = cmpI (a.map fun c => (c.toNat : Int)) (b.map fun c => (c.toNat : Int))
  | [], [] => rfl
  | [], _ :: _ => rfl
  | _ :: _, [] => rfl
  | x :: a, y :: b => by
    have h1 : (x < y) ↔ ((x.toNat : Int) < (y.toNat : Int)) := by rw [UInt8.lt_iff_toNat_lt]; omega
    have h2 : (x > y) ↔ ((y.toNat : Int) < (x.toNat : Int)) := by show (y < x) ↔ _; rw [UInt8.lt_iff_toNat_lt]; omega
    simp only [Bytes.order, List.map_cons, cmpI, h1, h2, order_ints a b]
def ltI (a b : List Int) : Bool := cmpI a b == .lt
theorem lt_bytesI {prog : Program} {w : World} {A : Around} {E : Value → Shared → Prop} {s : Shared} {b c : Array UInt8} {t u : Tok} {ks ls : List Int} {Q : Value → Shared → Prop} (hb : KBw.bInts b = ks) (hc : KBw.bInts c = ls)
    (h : Q (.bool (ltI ks ls)) s) : wpAny (model prog w) A (compareOp .Lt (.bytes b t) (.bytes c u)) Q E s := by
  refine lt_bytes ?_
  rw [order_ints]
  subst hb hc
  exact h
end Mine
end
section -- FnBis
open PySem PySem.W PySem.Calls PyProof.Rows
set_option Elab.async false
set_option maxRecDepth 100000
set_option maxHeartbeats 8000000
namespace Mine
local macro_rules | `(tactic| walk_at "MineEnter") => `(tactic| (k_dflt (refine' enter ?k3 ?k5 ?k6 ?k7 ?k8 ?k9 ?kB ?_ ?c2 ?c3 ?c4 ?c5; (case k3 => k_asm); (case k5 => k_asm); (case k6 => k_is); (case k7 => k_is); (case k8 => ktr_room); (case k9 => first | exact BindsTo.of_eq rfl | exact kp_binds (by k_asm) (fun _ => rfl)); (case c5 => decide); (case kB => exact locs rfl); (case c2 => exact rfl); (case c3 => exact rfl); (case c4 => exact rfl); k_whole)))
local macro_rules | `(tactic| walk_at "exec While") => `(tactic| refine Stop.out ?_)
local macro_rules | `(tactic| walk_at "WhEnd") => `(tactic| refine Stop.out ?_)
/-- where bisect_left goes in -/
def bisF (as : List (List Int)) (x : List Int) : Nat → Nat → Nat → Nat
  | 0, lo, _ => lo
  | f + 1, lo, hi => if lo < hi then (if ltI (as.getD ((lo + hi) / 2) []) x then bisF as x f ((lo + hi) / 2 + 1) hi else bisF as x f lo ((lo + hi) / 2)) else lo
def bis (as : List (List Int)) (x : List Int) : Nat := bisF as x as.length 0 as.length
theorem bisF_end {as : List (List Int)} {x : List Int} {f lo hi : Nat} (h : ¬ lo < hi) : bisF as x f lo hi = lo := by
  cases f with
  | zero => rfl
  | succ f => unfold bisF; rw [if_neg h]
theorem bisF_le {as : List (List Int)} {x : List Int} : ∀ (f lo hi : Nat), lo ≤ hi → bisF as x f lo hi ≤ hi
  | 0, lo, hi, h => h
  | f + 1, lo, hi, h => by
    unfold bisF
    split
    · split
      · exact bisF_le f _ _ (by omega)
      · exact Nat.le_trans (bisF_le f _ _ (by omega)) (by omega)
    · exact h
theorem bis_le (as : List (List Int)) (x : List Int) : bis as x ≤ as.length := bisF_le _ _ _ (Nat.zero_le _)
theorem C_bis {w : World} (d : List (List Int) × List Int) :
    Tel w 39 (fun h vs d => (∃ p us n b t, (vs = [.ref p, .bytes b t] ∨ ∃ t0, vs = [.ref p, .bytes b t, .int 0 t0, .none]) ∧ h.get? p = some (listOf us.toArray n) ∧ BsAre us d.1 ∧ KBw.bInts b = d.2) ∧ d.1.length ≤ 64)
      (fun h h' r d => ∃ t, r = .int (bis d.1 d.2 : Int) t) 20 d := by
  unfold Tel
  w_top off
  k_fill
  intro p loose mean mg mb dp un fr gd s vs Q E X T hR hdd huu hret
  obtain ⟨⟨pA, us, nu, b, t, hvs, hp, hB, hb⟩, h1⟩ := hR
  obtain ⟨as, ks⟩ := d
  obtain ⟨g, gs, dn, tk, os⟩ := s
  dsimp only at X T hp hB hb h1 hret
  rcases hvs with rfl | ⟨t0, rfl⟩
  all_goals
    refine wpAny_call ?_
    walk_at "MineEnter"
    intro L h F N
    (try dsimp only)
    k_steps
    have hl0 : g.IsList pA us.toArray := ⟨_, hp, rfl, _, rfl⟩
    have hul : us.length = as.length := hB.length
    refine len_list (F.lst hl0) (by rw [List.size_toArray]; omega) ?_
    k_steps
    refine Stop.go ?_
    (with_reducible rename Fr _ _ _ _ => F2)
    refine While_rule (fun k s' => ∃ h tk m lo hi t1 t2 f, s' = ⟨h, gs, dn, tk, os⟩ ∧ Fr g L h m ∧ m "lo" = some (.int ((lo : Nat) : Int) t1) ∧ m "hi" = some (.int ((hi : Nat) : Int) t2) ∧ m "a" = some (.ref pA) ∧ m "x" = some (.bytes b t) ∧
      lo ≤ hi ∧ hi ≤ as.length ∧ hi - lo ≤ f ∧ bisF as ks f lo hi = bis as ks ∧ k = hi - lo) ?_ _ ⟨_, _, _, 0, as.length, _, _, as.length, rfl, F2, rfl, by rw [← hul, ← List.size_toArray]; rfl, rfl, rfl, Nat.zero_le _, Nat.le_refl _, Nat.le_refl _, rfl, rfl⟩
    rintro k _ ⟨h, tk, m, lo, hi, t3, t4, f, rfl, F3, m1, m2, m3, m4, h3, h4, h5, h6, rfl⟩
    have F4 := told F3 [("lo", .int (lo : Int) t3), ("hi", .int (hi : Int) t4), ("a", .ref pA), ("x", .bytes b t)] (by
      intro p hp
      simp only [List.mem_cons, List.not_mem_nil, or_false] at hp
      rcases hp with rfl | rfl | rfl | rfl
      · exact m1
      · exact m2
      · exact m3
      · exact m4)
    clear F3
    dsimp only [kstB] at F4
    have N4 : News g L h [] := News.nil
    have hmid : ((lo : Int) + (hi : Int)).fdiv 2 = (((lo + hi) / 2 : Nat) : Int) := by
      rw [Int.fdiv_eq_ediv_of_nonneg _ (by omega)]; omega
    k_steps
    · have hlt : lo < hi := by omega
      have hm1 : (lo + hi) / 2 < us.length := by omega
      obtain ⟨bm, tm, hv, hbm⟩ := hB.get ((lo + hi) / 2) _ (List.getElem?_eq_getElem hm1)
      have hv' : us[(lo + hi) / 2]? = some (.bytes bm tm) := by rw [List.getElem?_eq_getElem hm1, hv]
      have hgd : as.getD ((lo + hi) / 2) [] = KBw.bInts bm := by rw [List.getD_eq_getElem?_getD, hbm]; rfl
      obtain ⟨f, rfl⟩ : ∃ f', f = f' + 1 := ⟨f - 1, by omega⟩
      have h7 : (if ltI (KBw.bInts bm) ks then bisF as ks f ((lo + hi) / 2 + 1) hi else bisF as ks f lo ((lo + hi) / 2)) = bis as ks := by
        rw [← h6, ← hgd]
        conv => rhs; unfold bisF
        rw [if_pos hlt]
      (with_reducible rename Fr _ _ _ _ => F5)
      refine item_listL (F5.lst hl0) (by rw [hmid]; omega) (by rw [hmid]; omega) (by rw [hmid]; exact hv') ?_
      k_steps
      refine lt_bytesI rfl hb ?_
      k_steps
      · (with_reducible rename Fr _ _ _ _ => F6)
        rw [if_pos (by assumption)] at h7
        refine Stop.go ⟨rfl, hi - ((lo + hi) / 2 + 1), by omega, _, _, _, (lo + hi) / 2 + 1, hi, _, t4, f, rfl, F6, by rw [hmid]; rfl, rfl, rfl, rfl, by omega, h4, by omega, h7, rfl⟩
      · (with_reducible rename Fr _ _ _ _ => F6)
        rw [if_neg (by simp [*])] at h7
        refine Stop.go ⟨rfl, (lo + hi) / 2 - lo, by omega, _, _, _, lo, (lo + hi) / 2, t3, _, f, rfl, F6, rfl, by rw [hmid]; rfl, rfl, rfl, by omega, by omega, by omega, h7, rfl⟩
    · dsimp only
      rw [bisF_end (by omega)] at h6
      exact hret _ _ _ F4.keep ⟨t3, by rw [← h6]⟩
end Mine
end
section -- ForG
open PySem PySem.W PySem.Calls PyProof.Rows
set_option Elab.async false
set_option maxRecDepth 100000
set_option maxHeartbeats 8000000
namespace Mine
section
variable {prog : Program} {w : World} {A : Around} {E : Value → Shared → Prop} {s : Shared} {env : Env} {h₀ : Heap} {body : List Stmt} {Q : Flow → Shared → Prop}
/-- what a for over a list of the ledger wants -/
def ListAtG (prog : Program) (w : World) (A : Around) (h₀ : Heap) (env : Env) (target : Expr) (body : List Stmt) (Q : Flow → Shared → Prop) (xv : Value) (s₁ : Shared) : Prop :=
  ∃ (l : Addr) (us : List Value) (k : Nat) (J : Nat → (Str → Option Value) → List (Addr × Obj) → Prop) (m : Str → Option Value) (news : List (Addr × Obj)), xv = .ref l ∧ Fr h₀ env.locals s₁.heap m ∧ News h₀ env.locals s₁.heap news ∧ J 0 m news ∧ (∀ i m news, J i m news → (l, listOf us.toArray k) ∈ news) ∧
    (∀ i v m news I oI h tk, us[i]? = some v → J i m news → (∀ p ∈ news, @Ne Nat p.1 I) → Fr h₀ env.locals h m → News h₀ env.locals h ((I, oI) :: news) →
      wpAny (model prog w) A (assign target env v) (fun _ s₂ => wpAny (model prog w) A (execs body env) (TurnEnd h₀ env.locals { s₁ with heap := h, toks := tk } I oI (J (i + 1))) (fun _ _ => False) s₂) (fun _ _ => False) { s₁ with heap := h, toks := tk }) ∧
    ∀ m news h tk, J us.length m news → Fr h₀ env.locals h m → News h₀ env.locals h news → Q .next { s₁ with heap := h, toks := tk }
theorem For_list_G {pos : Pos} {target iter : Expr} (hh : A.handled = none)
    (h : wpAny (model prog w) A (eval iter env) (ListAtG prog w A h₀ env target body Q) E s)
    (ht : ∀ it v, letOwnedTupleGo target it v = pure () := by intro _ _; rfl)
    (hs : ∀ x, foldedSetIterable iter env x = pure x := by intro _; rfl) :
    wpAny (model prog w) A (exec (.For target iter body [] pos) env) Q E s := by
  refine wpAny_For (wpAny_mono h (fun xv s₁ h₁ => ?_) fun _ _ e => e) hs
  obtain ⟨l, us, k, J, m, news, rfl, F, N, hJ, hJl, turn, done⟩ := h₁
  have hol : s₁.heap.get? l = some (listOf us.toArray k) := (N _ (hJl _ _ _ hJ)).1
  have hls : s₁.heap.IsList l us.toArray := ⟨_, hol, rfl, _, rfl⟩
  have hne : l ≠ s₁.heap.objs.size := Nat.ne_of_lt (Heap.lt_size hol)
  refine wpAny_pyIter_list hls ?_
  have W := Walks.list (prog := prog) (w := w) hh s₁.heap.objs.size l hne us.toArray
  have hIn := next_is_new F
  have hIL : env.locals ≠ s₁.heap.objs.size := Nat.ne_of_lt F.ns.lt
  refine codeAny_forLoop
    (fun q s' => ∃ h' tk m' news' i, s' = { s₁ with heap := h', toks := tk } ∧ ((∃ o, h'.get? s₁.heap.objs.size = some o ∧ o.cls = .type "list_iterator" ∧ o.data = .fields #[.ref l, rawInt (i : Nat)]) ∧ h'.IsList l us.toArray) ∧ Fr h₀ env.locals h' m' ∧ News h₀ env.locals h' news' ∧ (∀ p ∈ news', @Ne Nat p.1 s₁.heap.objs.size) ∧ J i m' news' ∧ i ≤ us.toArray.size ∧ q = us.toArray.size + 1 - i) ?_ (us.toArray.size + 1)
    ⟨_, s₁.toks, m, news, 0, rfl, ⟨⟨_, Heap.get?_push_size _ rfl, rfl, rfl⟩, hls.at fun o e => Heap.get?_push_of_some _ e⟩, F.push _, (fun p hp => ⟨Heap.get?_push_of_some _ (N p hp).1, (N p hp).2⟩), (fun p hp => Nat.ne_of_lt (Heap.lt_size (N p hp).1)), hJ, Nat.zero_le _, rfl⟩ (ht _)
  rintro q s' ⟨h', tk, m', news', i, rfl, hst, F', N', hnI, hJ', hi, rfl⟩
  have next : ∀ h₁ : Heap, (∀ b o, b ∉ [s₁.heap.objs.size] → h'.get? b = some o → h₁.get? b = some o) → Fr h₀ env.locals h₁ m' ∧ News h₀ env.locals h₁ news' := fun h₁ hk₁ =>
    ⟨⟨F'.ns.at' fun o e => hk₁ _ o (fun q => hIL (List.mem_singleton.mp q)) e, fun b o e => hk₁ b o (fun q => by rw [List.mem_singleton.mp q, hIn] at e; cases e) (F'.keep b o e), F'.above⟩,
      fun p hp => ⟨hk₁ _ _ (fun q => hnI p hp (List.mem_singleton.mp q)) (N' p hp).1, (N' p hp).2⟩⟩
  by_cases hlt : i < us.toArray.size
  · refine W.item i _ _ _ hlt hst fun v h₁ tk₁ hP hst₁ hk₁ => ?_
    have hP' : us[i]? = some v := by simpa using hP
    obtain ⟨F₁, N₁⟩ := next h₁ hk₁
    obtain ⟨⟨oI, hoI, hoc, hod⟩, hli⟩ := id hst₁
    refine wpAny_mono (turn i v m' news' s₁.heap.objs.size oI h₁ tk₁ hP' hJ' hnI F₁ (fun p hp => ?_)) (fun _ s₂ h₂ => wpAny_mono h₂ (fun f s₃ h₃ => ?_) fun _ _ x => x.elim) fun _ _ x => x.elim
    · rcases List.mem_cons.mp hp with rfl | hp
      · exact ⟨hoI, hIL.symm, hIn⟩
      · exact N₁ _ hp
    · obtain ⟨rfl, h₄, tk₄, m₄, news₄, rfl, F₄, N₄, hn₄, hJ₄⟩ := h₃
      exact ⟨us.toArray.size + 1 - (i + 1), by omega, h₄, tk₄, m₄, news₄, i + 1, rfl, ⟨⟨oI, (N₄ _ (.head _)).1, hoc, hod⟩, ⟨_, (N₄ _ (.tail _ (hJl _ _ _ hJ₄))).1, rfl, _, rfl⟩⟩, F₄, fun p hp => N₄ p (.tail _ hp), hn₄, hJ₄, hlt, rfl⟩
  · have hin : i = us.toArray.size := by omega
    subst hin
    refine W.done _ _ _ hst fun h₁ tk₁ hk₁ => ?_
    obtain ⟨F₁, N₁⟩ := next h₁ hk₁
    exact wpAny_execs_nil (done m' news' h₁ tk₁ (by simpa using hJ') F₁ N₁)
end
end Mine
end
section -- FnInsort
open PySem PySem.W PySem.Calls PyProof.Rows
set_option Elab.async false
set_option maxRecDepth 100000
set_option maxHeartbeats 8000000
namespace Mine
local macro_rules | `(tactic| walk_at "MineIdle") => `(tactic| fail)
section
variable {prog : Program} {w : World} {A : Around} {s : Shared} {K : Frag} {mg mb : Str → Option Value} {p : Program} {loose : List Str} {mean : ExcName → Option Value}
  {R : Result → Shared → Prop} {name qual : Str} {params : Arguments} {body : List Stmt} {scope : Scope} {dV kV doc pm cdv ct oc : Value} {an od : Option Addr} {osl : Array (Option Value)} {f : Addr} {args : Args} {binds : List (Str × Value)}
/-- entering a def that may change one object -/
theorem enterM {a : Addr} {oa : Obj} (X : K.In s.heap) (T : Top p loose mean mg mb s.heap) (ha : s.heap.get? a = some oa)
    (ho : K.lookup f = some ⟨oc, od, .func (fnOf name qual params body scope dV kV doc pm an cdv ct), osl⟩) (hcd : codeIn K cdv qual = true) (hroom : A.depth < recursionLimit)
    (hbind : BindsTo s (fnOf name qual params body scope dV kV doc pm an cdv ct) args binds) (hloc : ∀ y ∈ binds, scope.names.lookup y.1 = some .local)
    (h : ∀ L h₁, Fr (hideAll s.heap [a]) L h₁ (fun y => binds.reverse.lookup y) → News (hideAll s.heap [a]) L h₁ [(a, oa)] →
      wpAny (model prog w) (A.deeper (envOf qual scope L f cdv)) (execs body (envOf qual scope L f cdv))
        (fun fl s' => R (.ok (.ret (match fl with | .ret v => v | _ => .none))) s') (fun _ _ => False) { s with heap := h₁, toks := s.toks + binds.length })
    (hco : scope.isCoroutine = false) (hgen : scope.isGenerator = false) (hk : scope.kind = .function) (hcell : ∀ x ∈ scope.names, x.2 ≠ .cell) : codeAny (model prog w) A (.call (.ref f) args) R s := by
  refine codeAny_call_def (fd := fnOf name qual params body scope dV kV doc pm an cdv ct) hroom (X _ _ ho) rfl T.nolimit (codeRec_of X hcd) rfl hbind hcell hloc (fun h₁ hns hk₁ => ?_) hco hgen hk
  refine wpAny_mono (h s.heap.objs.size h₁ ⟨hns, fun b o e => hk₁ b o (of_hideAll _ e), Nat.le_of_eq (hideAll_size _ _)⟩ (fun q hq => ?_)) (fun _ _ x => x) fun _ _ x => x.elim
  rw [List.mem_singleton.mp hq]
  exact ⟨hk₁ _ _ ha, Nat.ne_of_lt (Heap.lt_size ha), hideAll_none _ (.head _)⟩
end
local macro_rules | `(tactic| walk_at "MineEnterM") => `(tactic| (k_dflt (refine' enterM ?k3 ?k5 ?k4 ?k6 ?k7 ?k8 ?k9 ?kB ?_ ?c2 ?c3 ?c4 ?c5; (case k3 => k_asm); (case k5 => k_asm); (case k4 => assumption); (case k6 => k_is); (case k7 => k_is); (case k8 => ktr_room); (case k9 => first | exact BindsTo.of_eq rfl | exact kp_binds (by k_asm) (fun _ => rfl)); (case c5 => decide); (case kB => exact locs rfl); (case c2 => exact rfl); (case c3 => exact rfl); (case c4 => exact rfl); k_whole)))
local macro_rules | `(tactic| walk_at "call ref") => `(tactic| refine Stop.out ?_)
local macro_rules | `(tactic| walk_at "call builtin:list.insert") => `(tactic| refine Stop.out ?_)
theorem BsAre.take : ∀ {vs : List Value} {rs : List (List Int)}, BsAre vs rs → ∀ k, BsAre (vs.take k) (rs.take k)
  | _, _, .nil, k => by rw [List.take_nil, List.take_nil]; exact .nil
  | _, _, .cons e h, 0 => .nil
  | _, _, .cons e h, k + 1 => .cons e (h.take k)
theorem BsAre.drop : ∀ {vs : List Value} {rs : List (List Int)}, BsAre vs rs → ∀ k, BsAre (vs.drop k) (rs.drop k)
  | _, _, .nil, k => by rw [List.drop_nil, List.drop_nil]; exact .nil
  | _, _, .cons e h, 0 => .cons e h
  | _, _, .cons e h, k + 1 => h.drop k
def insI (as : List (List Int)) (x : List Int) : List (List Int) := as.take (bis as x) ++ x :: as.drop (bis as x)
theorem C_insort {w : World} {p : Program} {loose : List Str} {mean : ExcName → Option Value} {mg mb : Str → Option Value} {dp un : Nat} {fr : Option (List Env)} {gd : Option (List Code)} {s : Shared} {Q E : Value → Shared → Prop}
    {h₀ : Heap} {a : Addr} {us : List Value} {n : Nat} {as : List (List Int)} {b : Array UInt8} {t : Tok} {ks : List Int}
    (X₀ : (hd.heap_39 w.params).In h₀) (T₀ : Top p loose mean mg mb h₀) (st : ∀ x o, h₀.get? x = some o → s.heap.get? x = some o) (hn : h₀.get? a = none) (ha : s.heap.get? a = some (listOf us.toArray n)) (hB : BsAre us as) (hb : KBw.bInts b = ks) (hl : as.length ≤ 63)
    (hdd : dp + 40 < recursionLimit) (huu : un + 8 * 40 < cLine)
    (hret : ∀ h' tk' us' n', (∀ x o, x ≠ a → s.heap.get? x = some o → h'.get? x = some o) → h'.get? a = some (listOf (List.toArray us') n') → BsAre us' (insI as ks) → Q .none { s with heap := h', toks := tk' }) :
    wpAny (model PySem.Challenge.rw_gi0002_01.row.prog w) (AA dp un fr gd) (call (.ref 30) [.ref a, .bytes b t]) Q E s := by
  have X := Frag.In.keeps X₀ st
  have T := T₀.keeps st
  have st' : ∀ x o, h₀.get? x = some o → (hideAll s.heap [a]).get? x = some o := fun x o e => hideAll_get _ (st x o e) fun q => by rw [List.mem_singleton.mp q, hn] at e; cases e
  have keep' : ∀ x o, x ≠ a → s.heap.get? x = some o → (hideAll s.heap [a]).get? x = some o := fun x o q e => hideAll_get _ e fun r => q (List.mem_singleton.mp r)
  revert X T
  w_top off
  k_fill
  intro X T
  obtain ⟨g, gs, dn, tk, os⟩ := s
  dsimp only at X T st st' ha hret keep'
  refine wpAny_call ?_
  walk_at "MineEnterM"
  intro L h F N
  (try dsimp only)
  have X1 := Frag.In.keeps X₀ st'
  have T1 := T₀.keeps st'
  dsimp only at F N
  generalize hideAll g [a] = g1 at *
  clear X T
  k_steps
  refine Stop.go ((C_bis (as, ks)).at X1 T1 rfl (by k_asm) (by k_asm) ⟨⟨a, us, n, b, t, .inr ⟨_, rfl⟩, (N _ (.head _)).1, hB, hb⟩, by show as.length ≤ 64; omega⟩ (by show dp + 1 + 20 < _; omega) (by show un + 3 + 8 * 20 < _; omega) fun r h7 tk7 F7 N7 x7 hr => ?_)
  obtain ⟨t7, rfl⟩ := hr
  dsimp only
  k_steps
  refine Stop.go ?_
  have hul : us.length = as.length := hB.length
  have hbl := bis_le as ks
  (with_reducible rename Fr _ _ _ _ => F8)
  (with_reducible rename News _ _ _ _ => N8)
  refine kl_insert (its := us.toArray) F8 N8 ?_ rfl (by k_upd) (by rw [sizeLine_eq]; show us.length ≤ _; omega) fun h9 F9 N9 => ?_
  · simp only [Builtin.List.listFitsIndex, Bool.and_eq_true, decide_eq_true_eq]; omega
  k_steps
  refine hret _ _ _ (n + 1) (fun x o q e => F9.keep x o (keep' x o q e)) (N9 _ (.head _)).1 ?_
  unfold kl_ins insI
  have e : (if ((bis as ks : Nat) : Int) < 0 then (((bis as ks : Nat) : Int) + ((us.toArray.toList.length : Nat) : Int)).toNat else min ((bis as ks : Nat) : Int).toNat us.toArray.toList.length) = bis as ks := by
    rw [if_neg (by omega)]
    show min _ us.length = _
    omega
  rw [e]
  exact (hB.take _).append (.cons hb (hB.drop _))
end Mine
end
section -- BytesRange
open PySem PySem.W PySem.Calls PyProof.Rows
set_option Elab.async false
set_option maxRecDepth 100000
set_option maxHeartbeats 8000000
namespace Mine
open Builtin
theorem br_no_bytes : typeLookup (.type "range") "__bytes__" = pure none := by rw [typeLookup_type, builtinLookup_eq_fast]; kernel_rfl
theorem br_no_index : typeLookup (.type "range") "__index__" = pure none := by rw [typeLookup_type, builtinLookup_eq_fast]; kernel_rfl
theorem br_no_buffer : typeLookup (.type "range") "__buffer__" = pure none := by rw [typeLookup_type, builtinLookup_eq_fast]; kernel_rfl
theorem br_split : splitId "range.__len__" = some ("range", "__len__") := by decide +kernel
theorem br_sub : isSubtype (.type "range") (.type "range") = pure true := by rw [isSubtype_type]; kernel_rfl
section
variable {prog : Program} {w : World} {A : Around} {E : Value → Shared → Prop} {s : Shared}
theorem rangeKs_get {n i : Nat} (h : i < n) : (rangeKs 0 n)[i]? = some (i : Int) := by simp [rangeKs, h]
theorem br_loop {R : Result → Shared → Prop} {I S : Addr} {n : Nat} (hh : A.handled = none) (hn : n ≤ 256) (hIS : I ≠ S) :
    ∀ (k i : Nat) (s : Shared), n - i = k → i ≤ n → IsRangeIter s.heap I (0 + (i : Nat) * 1) ((n : Int) - (i : Nat)) 1 → s.heap.get? S = some { cls := .type "bytearray", data := .bytearray (byteArr ((rangeKs 0 n).take i)) } →
      (∀ h' t k', (∀ b o, b ≠ I → b ≠ S → s.heap.get? b = some o → h'.get? b = some o) → R (.ok (.ret (.bytes (byteArr (rangeKs 0 n)) t))) { s with heap := h', toks := k' }) →
      codeAny (model prog w) A (.builtin "bytes.__new__.loop" ⟨[.type "bytes", .ref I, .ref S], []⟩) R s := by
  have W := Walks.range (prog := prog) (w := w) (A := A.in1) hh I 0 1 n
  have hlr : (rangeKs 0 n).length = n := rangeKs_length 0 n
  intro k
  induction k with
  | zero =>
    intro i s hk hle hit hS hR
    have hin : i = n := by omega
    subst hin
    refine codeAny_builtin F.bm_entry_loop ?_
    rw [Around.under_plainId F.bm_plain_loop _]
    show wpAny _ A.in1 (pyNext (.ref I) >>= _) _ _ s
    refine wpAny_bind (W.done _ _ _ hit fun h' tk' he => ?_)
    have hS' : h'.get? S = some { cls := .type "bytearray", data := .bytearray (byteArr ((rangeKs 0 i).take i)) } := he S _ (fun q => hIS (List.mem_singleton.mp q).symm) hS
    refine wpAny_bind ?_
    unfold Builtin.Bytes.payload Builtin.Bytes.payload?
    refine wpAny_bind (wpAny_bind (wpAny_load hS' ?_))
    refine wpAny_pure (wpAny_pure ?_)
    rw [List.take_of_length_le (Nat.le_of_eq hlr)]
    refine wpAny_bind (wpAny_mkBytes ?_ (by rw [byteArr_size, hlr, sizeLine_eq]; omega))
    show wpAny _ _ (if (Value.type "bytes" == Value.type "bytes") = true then _ else _) _ _ _
    refine bm_if_true (by decide) ?_
    first
      | exact wpAny_pure (hR h' _ _ fun b o hb _ e => he b o (fun q => hb (List.mem_singleton.mp q)) e)
      | exact wpAny_bind (wpAny_pure (wpAny_pure (hR h' _ _ fun b o hb _ e => he b o (fun q => hb (List.mem_singleton.mp q)) e)))
  | succ k ih =>
    intro i s hk hle hit hS hR
    have hlt : i < n := by omega
    refine codeAny_builtin F.bm_entry_loop ?_
    rw [Around.under_plainId F.bm_plain_loop _]
    show wpAny _ A.in1 (pyNext (.ref I) >>= _) _ _ s
    refine wpAny_bind (W.item i _ _ _ hlt hit fun v h' tk' hP hit' hs => ?_)
    obtain ⟨t, rfl⟩ := hP
    have hS' : h'.get? S = some { cls := .type "bytearray", data := .bytearray (byteArr ((rangeKs 0 n).take i)) } := hs S _ (fun q => hIS (List.mem_singleton.mp q).symm) hS
    refine wpAny_bind (wpAny_holding (wpAny_of_eq (rfl : asIndex (.int (0 + (i : Int) * 1) t) = pure (0 + (i : Int) * 1)) ?_))
    refine wpAny_bind (wpAny_letGo ?_)
    refine bm_if_false (by simp only [Bool.or_eq_false_iff, decide_eq_false_iff_not]; omega) ?_
    refine wpAny_bind ?_
    have e0 : (0 : Int) + (i : Int) * 1 = (i : Int) := by omega
    rw [e0]
    show wpAny _ _ (updateBytearray S (·.push (i : Int).toNat.toUInt8)) _ _ _
    unfold updateBytearray
    refine wpAny_bind (wpAny_load hS' ?_)
    show wpAny _ _ (update S (Obj.mapBytearray (·.push (i : Int).toNat.toUInt8)) >>= fun _ => lookBehind S) _ _ _
    refine wpAny_bind (wpAny_update hS' ?_)
    have hS₂ : (h'.update S (Obj.mapBytearray (·.push (i : Int).toNat.toUInt8))).get? S = some { cls := .type "bytearray", data := .bytearray (byteArr ((rangeKs 0 n).take (i + 1))) } := by
      rw [byteArr_take (rangeKs_get hlt)]
      exact Heap.get?_update_self (Obj.mapBytearray (·.push (i : Int).toNat.toUInt8)) hS' rfl
    refine wpAny_lookBehind hS₂ ?_ ?_
    · show (if (byteArr ((rangeKs 0 n).take (i + 1))).size > sizeLine then some "bytearray:memory" else none) = none
      rw [if_neg]
      rw [byteArr_size, List.length_take, sizeLine_eq]
      omega
    · refine wpAny_pure ⟨plainId_quiet F.bm_plain_loop _, ih (i + 1) { s with heap := h'.update S (Obj.mapBytearray (·.push (i : Int).toNat.toUInt8)), toks := tk' } (by omega) hlt ?_ hS₂ fun h3 t' k' hk3 => ?_⟩
      · exact (Heap.get?_update_other _ _ (Ne.symm hIS)).trans hit'
      · exact hR h3 t' k' fun b o hbI hbS e => hk3 b o hbI hbS ((Heap.get?_update_other _ _ (Ne.symm hbS)).trans (hs b o (fun q => hbI (List.mem_singleton.mp q)) e))
theorem br_new {r : Addr} {t u v : Tok} {n : Nat} {Q : Value → Shared → Prop} (hh : A.handled = none) (hr : IsRange s.heap r 0 (n : Int) 1 t u v) (hn : n ≤ 256)
    (hQ : ∀ h' t k, (∀ b o, s.heap.get? b = some o → h'.get? b = some o) → Q (.bytes (byteArr (rangeKs 0 n)) t) { s with heap := h', toks := k }) :
    codeAny (model prog w) A (.call (.builtin "bytes.__new__") ⟨[.type "bytes", .ref r], []⟩) (wants Q E) s := by
  refine codeAny_of_tree ?_
  show wpAny _ A.in1 (do checkBuiltinCall "bytes.__new__" ⟨[.type "bytes", .ref r], []⟩; again (.builtin "bytes.__new__" ⟨[.type "bytes", .ref r], []⟩)) _ _ s
  refine wpAny_bind (wpAny_of_eq (F.bm_newCall _) (wpAny_pure ⟨plainId_quiet F.bm_plain _, codeAny_builtin F.bm_entry ?_⟩))
  rw [Around.under_plainId F.bm_plain _]
  have hT : s.TypeIs (.ref r) "range" := ⟨_, hr, rfl⟩
  unfold Builtin.«bytes.__new__»
  refine wpAny_bind (wpAny_of_eq (a := true) rfl ?_)
  refine bm_if_false rfl ?_
  refine wpAny_bind (wpAny_of_eq F.bm_sub ?_)
  refine bm_if_false rfl ?_
  refine wpAny_bind (wpAny_of_eq (F.bm_bind _) ?_)
  refine wpAny_bind (wpAny_of_eq (a := ()) rfl ?_)
  refine wpAny_bind (wpAny_of_eq (a := ()) rfl ?_)
  refine bm_if_false rfl ?_
  refine wpAny_bind (wpAny_specialOf hT br_no_bytes ?_)
  refine wpAny_bind (wpAny_bind ?_)
  show wpAny _ _ (load r >>= _) _ _ _
  refine wpAny_bind (wpAny_load hr ?_)
  refine wpAny_pure (wpAny_pure ?_)
  refine bm_if_false rfl ?_
  refine wpAny_bind (wpAny_specialOf hT br_no_index ?_)
  refine bm_if_true rfl ?_
  first
    | show wpAny _ _ (Builtin.Bytes.buffer? "bytes.__new__" (.ref r) true >>= _) _ _ _
    | (refine wpAny_bind ?_; show wpAny _ _ (Builtin.Bytes.buffer? "bytes.__new__" (.ref r) true >>= _) _ _ _)
  refine wpAny_bind ?_
  unfold Builtin.Bytes.buffer?
  refine wpAny_bind (wpAny_specialOf hT br_no_buffer ?_)
  refine wpAny_bind (wpAny_specialOf hT br_no_buffer ?_)
  refine wpAny_pure ?_
  refine wpAny_bind (wpAny_tryCatch (wpAny_pyIter_range hr (small_upto (by omega)) ?_))
  have hr₁ : IsRange (s.heap.push { cls := .type "range_iterator", data := .fields #[rawInt 0, rawInt (Builtin.Range.rangeSize 0 (n : Int) 1), rawInt 1] }) r 0 (n : Int) 1 t u v := Heap.get?_push_of_some _ hr
  refine wpAny_bind (wpAny_holding ?_)
  unfold Builtin.Bytes.lengthHint
  refine wpAny_bind (wpAny_specialOf (T := "range") ⟨_, hr₁, rfl⟩ F.slot_range_len.lookup ?_)
  dsimp only
  rw [br_split]
  dsimp only
  refine wpAny_bind (wpAny_isInstance (T := "range") ⟨_, hr₁, rfl⟩ br_sub ?_)
  refine bm_if_false rfl ?_
  refine bm_if_false (by decide +kernel) ?_
  refine bm_if_true rfl ?_
  refine wpAny_bind (wpAny_rule ?_)
  refine wpAny_bind (wpAny_attempt (call_len_range (n := n) hr₁ (rangeSize_upto _) (by omega) ?_))
  dsimp only
  refine wpAny_bind (m := asInt? _) (wpAny_pure ?_)
  dsimp only
  refine bm_if_false (by simp [Builtin.Bytes.tooLong, sizeLine_eq]; omega) ?_
  refine wpAny_pure ?_
  refine wpAny_bind ?_
  unfold Builtin.Bytes.newBytearray
  refine wpAny_newObj_type ?_ (Nat.zero_le _)
  have hsz : (s.heap.push { cls := .type "range_iterator", data := .fields #[rawInt 0, rawInt (Builtin.Range.rangeSize 0 (n : Int) 1), rawInt 1] }).objs.size = s.heap.objs.size + 1 := Heap.size_push _ _
  have main := br_loop (prog := prog) (w := w) (A := A) (R := wants Q E) (I := s.heap.objs.size) (S := (s.heap.push { cls := .type "range_iterator", data := .fields #[rawInt 0, rawInt (Builtin.Range.rangeSize 0 (n : Int) 1), rawInt 1] }).objs.size) hh hn (by rw [hsz]; exact Nat.ne_of_lt (Nat.lt_succ_self _))
    n 0 { s with heap := (s.heap.push { cls := .type "range_iterator", data := .fields #[rawInt 0, rawInt (Builtin.Range.rangeSize 0 (n : Int) 1), rawInt 1] }).push { cls := .type "bytearray", data := .bytearray #[] }, toks := s.toks + 1 + 1 } rfl (Nat.zero_le _)
    (by show Heap.get? _ _ = _; rw [rangeSize_upto]; refine Heap.get?_push_of_some _ ?_; simpa using Heap.get?_push_size _ rfl) (Heap.get?_push_size _ rfl)
    fun h' t k hk => hQ h' t k fun b o e => hk b o (Nat.ne_of_lt (Heap.lt_size e)) (by rw [hsz]; exact Nat.ne_of_lt (Nat.lt_succ_of_lt (Heap.lt_size e))) (Heap.get?_push_of_some _ (Heap.get?_push_of_some _ e))
  first
    | exact wpAny_pure ⟨plainId_quiet F.bm_plain_loop _, main⟩
    | exact wpAny_pure (wpAny_pure ⟨plainId_quiet F.bm_plain_loop _, main⟩)
/-- bytes(range(n)) -/
theorem bytes_range {r : Addr} {t u v : Tok} {n : Nat} {Q : Value → Shared → Prop} (hr : IsRange s.heap r 0 (n : Int) 1 t u v) (hh : A.handled = none) (hn : n ≤ 256)
    (hQ : ∀ h' t k, (∀ b o, s.heap.get? b = some o → h'.get? b = some o) → Q (.bytes (byteArr (rangeKs 0 n)) t) { s with heap := h', toks := k }) : wpAny (model prog w) A (call (.type "bytes") [.ref r]) Q E s := by
  refine callType_codes (Q₁ := fun obj s₁ => s₁.TypeIs obj "bytes" ∧ Q obj s₁) F.bm_called (F.bm_typeCall _) F.entry_object_init
    (br_new hh hr hn fun h' t k hk => ⟨PySem.W.typeIs_bytes _ _ _, hQ h' t k hk⟩) fun obj s₁ h₁ => ?_
  exact ⟨h₁.1, F.args_object_init_2 obj _, object_init_meets F.bm_called.init.lookup F.bm_called.made (by decide) prog w A.in1 _ s₁ ⟨h₁.1, rfl, h₁.2⟩⟩
theorem bytes_range_K {h₀ : Heap} {L : Addr} {m : Str → Option Value} {news : List (Addr × Obj)} {r : Addr} {t u v : Tok} {n : Nat} {Q : Value → Shared → Prop} (F : Fr h₀ L s.heap m) (N : News h₀ L s.heap news) (hr : IsRange s.heap r 0 (n : Int) 1 t u v) (hh : A.handled = none) (hn : n ≤ 256)
    (h : ∀ h' t' k, Fr h₀ L h' m → News h₀ L h' news → KBw.bInts (byteArr (rangeKs 0 n)) = rangeKs 0 n → Q (.bytes (byteArr (rangeKs 0 n)) t') { s with heap := h', toks := k }) : wpAny (model prog w) A (call (.type "bytes") [.ref r]) Q E s :=
  bytes_range hr hh hn fun h' t' k hk => h h' t' k (F.keeps hk) (N.grown hk) (KBa.ints_make fun x hx => by have := mem_rangeKs hx; omega)
end
end Mine
end
section -- FnOwn
open PySem PySem.W PySem.Calls PyProof.Rows
set_option Elab.async false
set_option maxRecDepth 100000
set_option maxHeartbeats 8000000
namespace Mine
local macro_rules | `(tactic| walk_at "MineEnter") => `(tactic| (k_dflt (refine' enter ?k3 ?k5 ?k6 ?k7 ?k8 ?k9 ?kB ?_ ?c2 ?c3 ?c4 ?c5; (case k3 => k_asm); (case k5 => k_asm); (case k6 => k_is); (case k7 => k_is); (case k8 => ktr_room); (case k9 => exact BindsTo.of_eq rfl); (case c5 => decide); (case kB => exact locs rfl); (case c2 => exact rfl); (case c3 => exact rfl); (case c4 => exact rfl); k_whole)))
local macro_rules | `(tactic| walk_at "call ref") => `(tactic| refine Stop.out ?_)
local macro_rules | `(tactic| walk_at "ListAtG") => `(tactic| refine Stop.out ?_)
local macro_rules | `(tactic| walk_at "TurnEnd") => `(tactic| refine Stop.out ?_)
local macro_rules | `(tactic| walk_at "exec For Name Call cons nil") => `(tactic| refine Stop.out ?_)
local macro_rules | `(tactic| walk_at "call type:bytes") => `(tactic| refine Stop.out ?_)
theorem ordersF_mem : ∀ (n : Nat) (ks r : List Int), r ∈ ordersF n ks → ∀ x ∈ r, x ∈ ks
  | 0, ks, r, h, x, hx => by
    simp only [ordersF, List.mem_singleton] at h
    rw [← h]; exact hx
  | n + 1, ks, r, h, x, hx => by
    unfold ordersF at h
    split at h
    · rw [← List.mem_singleton.mp h]; exact hx
    · obtain ⟨k, hk, hr⟩ := List.mem_flatMap.mp h
      obtain ⟨q, hq, rfl⟩ := List.mem_map.mp hr
      rcases List.mem_append.mp hx with hx | hx
      · exact List.mem_of_mem_drop (List.mem_of_mem_take hx)
      · rcases List.mem_append.mp (ordersF_mem n _ q hq x hx) with hx | hx
        · exact List.mem_of_mem_take hx
        · exact List.mem_of_mem_drop hx
theorem ordersF_length : ∀ (n : Nat) (ks r : List Int), ks.length ≤ n + 1 → r ∈ ordersF n ks → r.length = ks.length
  | 0, ks, r, hl, h => by
    simp only [ordersF, List.mem_singleton] at h
    rw [h]
  | n + 1, ks, r, hl, h => by
    unfold ordersF at h
    split at h
    · rw [List.mem_singleton.mp h]
    · obtain ⟨k, hk, hr⟩ := List.mem_flatMap.mp h
      obtain ⟨q, hq, rfl⟩ := List.mem_map.mp hr
      rw [List.mem_range] at hk
      have hc : (ks.take k ++ ks.drop (k + 1)).length = ks.length - 1 := by rw [List.length_append, List.length_take, List.length_drop]; omega
      have h1 := ordersF_length n _ q (by rw [hc]; omega) hq
      rw [List.length_append, List.length_take, List.length_drop, h1, hc]
      omega
/-- own ways back, of those that were tried -/
def ownOn (n : Nat) (acc : List (List Int)) : List (List Int) → List (List Int)
  | [] => acc
  | o :: r => ownOn n (if thenInts o o = rangeKs 0 n then insI acc o else acc) r
def ownP (n : Nat) : List (List Int) := ownOn n [] (ordersF 3 (rangeKs 0 n))
theorem ownOn_snoc (n : Nat) : ∀ (rs : List (List Int)) (acc : List (List Int)) (o : List Int), ownOn n acc (rs ++ [o]) = if thenInts o o = rangeKs 0 n then insI (ownOn n acc rs) o else ownOn n acc rs
  | [], _, _ => rfl
  | q :: rs, acc, o => by
    show ownOn n _ (rs ++ [o]) = _
    exact ownOn_snoc n rs _ o
theorem insI_length (as : List (List Int)) (x : List Int) : (insI as x).length = as.length + 1 := by
  have := bis_le as x
  unfold insI
  rw [List.length_append, List.length_cons, List.length_take, List.length_drop]
  omega
theorem ownOn_length (n : Nat) : ∀ (rs : List (List Int)) (acc : List (List Int)), (ownOn n acc rs).length ≤ acc.length + rs.length
  | [], _ => Nat.le_refl _
  | q :: rs, acc => by
    have h := ownOn_length n rs (if thenInts q q = rangeKs 0 n then insI acc q else acc)
    have h2 : (if thenInts q q = rangeKs 0 n then insI acc q else acc).length ≤ acc.length + 1 := by
      split
      · rw [insI_length]; exact Nat.le_refl _
      · omega
    rw [List.length_cons]
    exact Nat.le_trans h (by omega)
theorem bInts_inj {a b : Array UInt8} (h : KBw.bInts a = KBw.bInts b) : a.toList = b.toList := by
  unfold KBw.bInts at h
  have : ∀ {x y : List UInt8}, x.map (fun c => (c.toNat : Int)) = y.map (fun c => (c.toNat : Int)) → x = y := by
    intro x
    induction x with
    | nil => intro y h; cases y with | nil => rfl | cons _ _ => simp at h
    | cons a x ih =>
      intro y h
      cases y with
      | nil => simp at h
      | cons b y =>
        simp only [List.map_cons, List.cons.injEq] at h
        have e : a.toNat = b.toNat := by omega
        rw [UInt8.toNat_inj.mp e, ih h.2]
  exact this h
theorem eq_ints {a b : Array UInt8} {ks ls : List Int} (ha : KBw.bInts a = ks) (hb : KBw.bInts b = ls) : (a.toList == b.toList) = decide (ks = ls) := by
  by_cases e : ks = ls
  · rw [decide_eq_true e, beq_iff_eq]
    exact bInts_inj (ha.trans (e.trans hb.symm))
  · rw [decide_eq_false e, beq_eq_false_iff_ne]
    intro q
    exact e (by rw [← ha, ← hb]; unfold KBw.bInts; rw [q])
theorem C_own {w : World} (n : Nat) :
    Tel (D := Nat) w 70 (fun _ vs n => (∃ t1, vs = [.int (n : Int) t1]) ∧ 1 ≤ n ∧ n ≤ 4)
      (fun h h' r n => ∃ p vs k, r = .ref p ∧ h.get? p = none ∧ h'.get? p = some (listOf vs.toArray k) ∧ BsAre vs (ownP n)) 70 n := by
  unfold Tel
  w_top off
  k_fill
  intro p loose mean mg mb dp un fr gd s vs Q E X T hR hdd huu hret
  obtain ⟨⟨t1, rfl⟩, h1, h2⟩ := hR
  obtain ⟨g, gs, dn, tk, os⟩ := s
  dsimp only at X T hret
  have hS : Stop (1 ≤ n ∧ n ≤ 4) := ⟨h1, h2⟩
  have h9 : n ≤ 9 := by omega
  clear h1 h2
  refine wpAny_call ?_
  walk_at "MineEnter"
  intro L h F N
  (try dsimp only)
  k_steps
  rename_i pO _ _ _ _ _
  (with_reducible rename Fr _ _ _ _ => F2)
  (with_reducible rename News _ _ _ _ => N2)
  obtain ⟨hn1, hn4⟩ := hS.out
  have hle : ∀ i, (ownOn n [] ((ordersF 3 (rangeKs 0 n)).take i)).length ≤ i := fun i => by
    have := ownOn_length n ((ordersF 3 (rangeKs 0 n)).take i) []
    rw [List.length_take] at this
    simp only [List.length_nil] at this
    omega
  have hlr : (rangeKs 0 n).length = n := rangeKs_length 0 n
  have h64 := ordersF_len64 3 (rangeKs 0 n) (by omega) (by omega)
  refine For_list_G (h₀ := g) rfl ?_
  k_steps
  refine Stop.go (bytes_range_K (n := n) (by k_asm) (by k_asm) (by assumption) rfl (by omega) fun h5 t5 k5 F5 N5 hbr => ?_)
  dsimp only
  k_steps
  refine Stop.go ((C_orders 3 (by omega) (rangeKs 0 n)).at X T rfl (by k_asm) (by k_asm) ⟨⟨_, _, rfl, hbr⟩, by omega⟩ (by show dp + 1 + (20 + 10 * 3) < _; omega) (by show un + 3 + 8 * (20 + 10 * 3) < _; omega) fun r h7 tk7 F7 N7 x7 hr => ?_)
  obtain ⟨pL, us, ku, rfl, hn, hp, hB⟩ := hr
  dsimp only at hn
  obtain ⟨N8, hp8⟩ := ledger_add (by k_asm) (by k_asm) N7 hn hp
  have hOL : @Ne Nat pO pL := hp8 _ (.head _)
  have hul : us.length = (ordersF 3 (rangeKs 0 n)).length := hB.length
  refine ⟨pL, us, ku, fun i m news => ∃ vs k, news = [(pL, listOf (List.toArray us) ku), (pO, listOf (List.toArray vs) k)] ∧ BsAre vs (ownOn n [] ((ordersF 3 (rangeKs 0 n)).take i)) ∧ m "order" = some (.ref pO) ∧ m "many" = some (.int (n : Int) t1), _, _, rfl, F7, N8, ⟨[], _, rfl, .nil, rfl, rfl⟩, ?_, ?_, ?_⟩
  · rintro i m news ⟨vs, k, rfl, _⟩
    exact .head _
  · rintro i v m news I oI h2 tk2 hv ⟨vs, k, rfl, hvs, m1, m2⟩ hnI F9 N9
    obtain ⟨b, tb, rfl, hob⟩ := hB.get i v hv
    obtain ⟨ks, hb⟩ : ∃ ks, KBw.bInts b = ks := ⟨_, rfl⟩
    rw [hb] at hob
    have hom := List.mem_of_getElem? hob
    have hkl : ks.length = n := (ordersF_length 3 _ _ (by omega) hom).trans hlr
    have hkb : ∀ x ∈ ks, 0 ≤ x ∧ x < (n : Int) := fun x hx => by
      have := mem_rangeKs (ordersF_mem 3 _ _ hom x hx)
      omega
    have hi64 : i < us.length := (List.getElem?_eq_some_iff.mp hv).1
    have hIL : @Ne Nat pL I := hnI _ (.head _)
    have hIO : @Ne Nat pO I := hnI _ (.tail _ (.head _))
    have F10 := told F9 [("order", .ref pO), ("many", .int (n : Int) t1)] (by
      intro p hp
      simp only [List.mem_cons, List.not_mem_nil, or_false] at hp
      rcases hp with rfl | rfl
      · exact m1
      · exact m2)
    clear F9
    dsimp only [kstB] at F10
    k_steps
    refine Stop.go ((C_then (ks, ks)).at X T rfl (by k_asm) (by k_asm) ⟨⟨_, _, _, _, rfl, hb, hb⟩, by show ks.length ≤ 9; omega, by show ks.length ≤ 9; omega, fun x hx => by rw [hkl]; exact (hkb x hx).2⟩ (by show dp + 1 + 4 < _; omega) (by show un + 3 + 8 * 4 < _; omega) fun r h11 tk11 F11 N11 x11 hr => ?_)
    obtain ⟨bT, tT, rfl, hbT⟩ := hr
    dsimp only at hbT
    dsimp only
    clear hn1 hn4
    k_steps
    refine Stop.go (bytes_range_K (n := n) (by k_asm) (by k_asm) (by assumption) rfl (by omega) fun h12 t12 k12 F12 N12 _ => ?_)
    dsimp only
    k_steps
    · have hTr : thenInts ks ks = rangeKs 0 n := by
        have q : (bT.toList == (byteArr (rangeKs 0 n)).toList) = true := by assumption
        rw [eq_ints hbT hbr, decide_eq_true_eq] at q
        exact q
      have zO := N12 _ (.tail _ (.tail _ (.head _)))
      have hlv : (ownOn n [] ((ordersF 3 (rangeKs 0 n)).take i)).length ≤ 63 := Nat.le_trans (hle i) (by omega)
      refine Stop.go (C_insort (dp := dp + 1) (un := un + 3) X T F12.keep zO.2.2 zO.1 hvs hb hlv (by omega) (by omega) fun h13 tk13 us' n' hk13 hO13 hB13 => ?_)
      have F13 : Fr g L h13 (fun y => if y = "one" then some (Value.bytes b tb) else if y = "order" then some (Value.ref pO) else if y = "many" then some (.int (n : Int) t1) else m y) :=
        ⟨F12.ns.at' fun o e => hk13 L o (fun q => zO.2.1 q.symm) e, fun x o e => hk13 x o (fun q => by rw [q, zO.2.2] at e; cases e) (F12.keep x o e), F12.above⟩
      have N13 : News g L h13 [(I, oI), (pL, listOf us.toArray ku), (pO, listOf us'.toArray n')] := fun q hq => by
        rcases List.mem_cons.mp hq with rfl | hq
        · have z := N12 _ (.head _)
          exact ⟨hk13 _ _ (Ne.symm hIO) z.1, z.2⟩
        · rcases List.mem_cons.mp hq with rfl | hq
          · have z := N12 _ (.tail _ (.head _))
            exact ⟨hk13 _ _ (Ne.symm hOL) z.1, z.2⟩
          · rw [List.mem_singleton.mp hq]
            exact ⟨hO13, zO.2⟩
      dsimp only
      k_steps
      refine Stop.go ⟨rfl, UnrEnd.intro F13 N13 [(pL, listOf us.toArray ku), (pO, listOf us'.toArray n')] (by intro p hp; exact hp) (by intro p hp; simp only [List.mem_cons, List.not_mem_nil, or_false] at hp; rcases hp with rfl | rfl <;> (show @Ne Nat _ _) <;> omega) ⟨us', n', rfl, ?_, rfl, rfl⟩⟩
      rw [List.take_add_one (l := ordersF 3 (rangeKs 0 n)), hob]
      show BsAre us' (ownOn n [] ((ordersF 3 (rangeKs 0 n)).take i ++ [ks]))
      rw [ownOn_snoc, if_pos hTr]
      exact hB13
    · have hTr : ¬ thenInts ks ks = rangeKs 0 n := by
        have q : (bT.toList == (byteArr (rangeKs 0 n)).toList) = false := by assumption
        rw [eq_ints hbT hbr, decide_eq_false_iff_not] at q
        exact q
      refine Stop.go ⟨rfl, UnrEnd.intro F12 N12 [(pL, listOf us.toArray ku), (pO, listOf (List.toArray vs) k)] (by intro p hp; exact hp) (by intro p hp; simp only [List.mem_cons, List.not_mem_nil, or_false] at hp; rcases hp with rfl | rfl <;> (show @Ne Nat _ _) <;> omega) ⟨vs, k, rfl, ?_, rfl, rfl⟩⟩
      rw [List.take_add_one (l := ordersF 3 (rangeKs 0 n)), hob]
      show BsAre vs (ownOn n [] ((ordersF 3 (rangeKs 0 n)).take i ++ [ks]))
      rw [ownOn_snoc, if_neg hTr]
      exact hvs
  · rintro m news h2 tk2 ⟨vs, k, rfl, hvs, m1, m2⟩ F9 N9
    have F10 := told F9 [("order", .ref pO)] (by
      intro p hp
      rw [List.mem_singleton.mp hp]
      exact m1)
    clear F9
    dsimp only [kstB] at F10
    dsimp only
    k_steps
    have z := N9 _ (.tail _ (.head _))
    rw [List.take_of_length_le (by omega)] at hvs
    exact hret _ _ _ F10.keep ⟨pO, vs, k, rfl, z.2.2, z.1, hvs⟩
end Mine
end
section -- LawPure1
open PySem PySem.W PySem.Calls PyProof.Rows
set_option Elab.async false
namespace Mine
theorem rangeKs_nodup (n : Nat) : (rangeKs 0 n).Nodup := by
  unfold rangeKs
  unfold List.Nodup
  rw [List.pairwise_map]
  exact (List.nodup_range (n := n)).imp fun h e => h (by omega)
theorem ints_take : ∀ {vs : List Value} {ns : List Int}, IntsAre vs ns → ∀ k, IntsAre (vs.take k) (ns.take k)
  | _, _, .nil, k => by rw [List.take_nil, List.take_nil]; exact .nil
  | _, _, .cons _ _ _, 0 => .nil
  | _, _, .cons e t h, k + 1 => .cons e t (ints_take h k)
theorem ints_drop : ∀ {vs : List Value} {ns : List Int}, IntsAre vs ns → ∀ k, IntsAre (vs.drop k) (ns.drop k)
  | _, _, .nil, k => by rw [List.drop_nil, List.drop_nil]; exact .nil
  | _, _, .cons e t h, 0 => .cons e t h
  | _, _, .cons _ _ h, k + 1 => ints_drop h k
theorem cut_at : ∀ (l : List Value) (j : Nat) (y : Value), l[j]? = some y → kl_cut l j = some (l.take j, y, l.drop (j + 1))
  | [], j, y, h => by simp at h
  | x :: r, 0, y, h => by
    simp only [List.getElem?_cons_zero, Option.some.injEq] at h
    subst h
    rfl
  | x :: r, j + 1, y, h => by
    rw [List.getElem?_cons_succ] at h
    unfold kl_cut
    rw [cut_at r j y h]
    rfl
theorem draw_perm (ds ls : List Int) (j : Nat) (x : Int) (h : ls[j]? = some x) : ((ds ++ [x]) ++ (ls.take j ++ ls.drop (j + 1))).Perm (ds ++ ls) := by
  have hj : j < ls.length := (List.getElem?_eq_some_iff.mp h).1
  have hx : ls[j] = x := (List.getElem?_eq_some_iff.mp h).2
  have e : ls = ls.take j ++ x :: ls.drop (j + 1) := by
    conv => lhs; rw [← List.take_append_drop j ls]
    rw [List.drop_eq_getElem_cons hj, hx]
  rw [List.append_assoc]
  refine List.Perm.append_left ds ?_
  conv => rhs; rw [e]
  exact (List.perm_middle (l₁ := ls.take j)).symm
theorem seq_at {j len : Nat} (h : j < len) : seqIndex? (j : Int) len = some j := by
  simp only [seqIndex?]
  rw [if_neg (show ¬ (j : Int) < 0 by omega), if_pos (by simp; omega)]
  simp
end Mine
end
section -- BytesIndex
open PySem PySem.W PySem.Calls PyProof.Rows
set_option Elab.async false
set_option maxRecDepth 100000
set_option maxHeartbeats 8000000
namespace Mine
open Builtin
theorem bx_slot : Slot "bytes" "index" "bytes.index" :=
  .of (owner := "bytes") (n := "index") (by rw [typeLookup_type, builtinLookup_eq_fast]; kernel_rfl) (by decide +kernel) (by decide +kernel) (by decide +kernel)
    (by first | exact .inl (by decide +kernel) | exact .inr (by decide +kernel)) (by rw [isSubtype_type]; kernel_rfl)
theorem bx_type : typeOf (.builtin "bytes.index") = pure (.type "method_descriptor") := by show builtinType _ = _; rw [builtinType_eq_fast]; kernel_rfl
theorem bx_entry : entryFor table "bytes.index" = some Builtin.«bytes.index» := by first | exact entryFor_of_tree (by kernel_rfl) | exact entryFor_of_fast (by kernel_rfl)
theorem bx_args (a b : Value) : argsOk "bytes.index" ⟨[a, b], []⟩ := by unfold argsOk; kernel_rfl
theorem int_no_buffer : typeLookup (.type "int") "__buffer__" = pure none := by rw [typeLookup_type, builtinLookup_eq_fast]; kernel_rfl
theorem find_one {b : Array UInt8} {ks : List Int} {k : Int} (hb : KBw.bInts b = ks) (hk : k ∈ ks) : ∃ i : Nat, Bytes.find? b #[k.toNat.toUInt8] 0 b.size = some i ∧ i < ks.length ∧ ks.getD i 0 = k := by
  subst hb
  have hl := KBw.ints_length b
  obtain ⟨j, hj, e⟩ := List.getElem_of_mem hk
  have hkk := KBw.ints_in hk
  have hjb : j < b.size := by omega
  have key : ∀ i, i < b.size → ((b.extract i (i + 1) == #[k.toNat.toUInt8]) = true ↔ (KBw.bInts b).getD i 0 = k) := by
    intro i hi
    have e1 : b.extract i (i + 1) = #[b[i]] := by
      apply Array.ext
      · simp; omega
      · intro q h1 h2
        simp at h2
        subst h2
        simp
    have e2 : (KBw.bInts b).getD i 0 = (b[i].toNat : Int) := by
      rw [List.getD_eq_getElem?_getD, KBw.ints_get (c := b[i]) (by simp [hi])]; rfl
    rw [e1, e2, beq_iff_eq]
    constructor
    · intro h
      have h' : b[i] = k.toNat.toUInt8 := by simpa using h
      rw [h']
      have : k.toNat < 256 := by omega
      simp [Nat.toUInt8, UInt8.toNat_ofNat, Nat.mod_eq_of_lt this]
      omega
    · intro h
      have : b[i] = k.toNat.toUInt8 := by
        apply UInt8.toNat_inj.mp
        have : k.toNat < 256 := by omega
        simp [Nat.toUInt8, UInt8.toNat_ofNat, Nat.mod_eq_of_lt this]
        omega
      rw [this]
  unfold Bytes.find?
  have hsz : (#[k.toNat.toUInt8] : Array UInt8).size = 1 := rfl
  rw [hsz]
  have hex : ∃ i, ((List.range (b.size + 1 - (0 + 1))).map (· + 0)).find? (fun i => b.extract i (i + 1) == #[k.toNat.toUInt8]) = some i := by
    have := List.find?_isSome (xs := (List.range (b.size + 1 - (0 + 1))).map (· + 0)) (p := fun i => b.extract i (i + 1) == #[k.toNat.toUInt8])
    refine Option.isSome_iff_exists.mp (this.mpr ⟨j, ?_, ?_⟩)
    · simp; omega
    · refine (key j hjb).mpr ?_
      rw [List.getD_eq_getElem?_getD, List.getElem?_eq_getElem hj, e]; rfl
  obtain ⟨i, hi⟩ := hex
  have hm := List.mem_of_find?_eq_some hi
  have hib : i < b.size := by simp at hm; omega
  have hp := List.find?_some hi
  exact ⟨i, hi, by omega, (key i hib).mp hp⟩
section
variable {prog : Program} {w : World} {A : Around} {E : Value → Shared → Prop} {s : Shared}
theorem bx_method {b : Array UInt8} {t : Tok} {pl : Sem Bool} {Q : Value × List Value → Shared → Prop} (h : Q (.builtin "bytes.index", [.bytes b t]) s) : wpAny (model prog w) A (getMethod (.bytes b t) "index" pl) Q E s :=
  getMethod_builtin (typeIs_bytes s b t) FB.plainAttrs_bytes bx_slot bx_type (fun a e => nomatch e) h
theorem bx_call {b : Array UInt8} {t u : Tok} {ks : List Int} {k : Int} {Q : Value → Shared → Prop} (hb : KBw.bInts b = ks) (hk : k ∈ ks) (hz : ks.length ≤ 100)
    (h : ∀ (i : Nat) t' k', i < ks.length → ks.getD i 0 = k → Q (.int (i : Int) t') { s with toks := k' }) : wpAny (model prog w) A (call (.builtin "bytes.index") [.bytes b t, .int k u]) Q E s := by
  refine wpAny_call_entry bx_slot (typeIs_bytes s b t) bx_entry ?_ (bx_args _ _)
  obtain ⟨i, hi, hlt, he⟩ := find_one hb hk
  have hkk := KBw.ints_in (hb ▸ hk)
  have hbs : b.size = ks.length := by rw [← hb]; exact (KBw.ints_length b).symm
  show wpAny _ _ (Bytes.searchM .bytes "index" false true _) _ _ s
  unfold Bytes.searchM
  refine wpAny_bind ?_
  unfold Bytes.searchArgs
  refine wpAny_bind (wpAny_of_eq (a := (Value.bytes b t, [Value.int k u])) (by rfl) ?_)
  refine wpAny_bind (wpAny_of_eq (a := none) rfl ?_)
  refine wpAny_bind (wpAny_of_eq (a := none) rfl ?_)
  refine wpAny_bind ?_
  unfold Bytes.buffer?
  refine wpAny_bind (wpAny_specialOf (typeIs_int s k u) int_no_buffer ?_)
  refine wpAny_bind (wpAny_specialOf (typeIs_int s k u) int_no_buffer ?_)
  refine wpAny_pure ?_
  refine wpAny_bind (wpAny_specialOf (typeIs_int s k u) F.slot_int_index.lookup ?_)
  refine bm_if_false rfl ?_
  refine wpAny_bind (wpAny_of_eq (a := k) rfl ?_)
  refine bm_if_false (by simp only [Bool.or_eq_false_iff, decide_eq_false_iff_not]; omega) ?_
  refine wpAny_bind (wpAny_pure ?_)
  refine wpAny_bind (wpAny_of_eq (a := b) rfl ?_)
  have hw : Bytes.window b.size none none = ((0 : Int), (b.size : Int)) := by
    unfold Bytes.window
    simp
    have e : (if (b.size : Int) < 0 then Max.max 0 ((b.size : Int) + (b.size : Int)) else (b.size : Int)) = (b.size : Int) := if_neg (by omega)
    omega
  rw [hw]
  have hpos : 1 ≤ b.size := by omega
  have hif : (if (b.size : Int) - 0 < ((#[k.toNat.toUInt8] : Array UInt8).size : Int) then (none : Option (Nat × Nat)) else some ((0 : Int).toNat, (b.size : Int).toNat)) = some (0, b.size) := by
    rw [if_neg (by simp; omega)]
    simp
  dsimp only
  rw [hif]
  refine wpAny_pure ?_
  dsimp only [Option.bind]
  simp only [Bool.false_eq_true, if_false, Option.bind_some, hi]
  refine wpAny_bind (wpAny_mkInt (wpAny_pure ⟨_, rfl, h i _ _ hlt he⟩))
end
end Mine
end
section -- LawPure2
open PySem PySem.W PySem.Calls PyProof.Rows
set_option Elab.async false
namespace Mine
theorem order_all {ks : List Int} (o : IsOrd ks) (i : Nat) (h : i < ks.length) : (i : Int) ∈ ks := by
  apply Classical.byContradiction
  intro q
  have := pigeon ks.length ((i : Int) :: ks) (List.nodup_cons.mpr ⟨q, o.nodup⟩) (fun x hx => by
    rcases List.mem_cons.mp hx with rfl | hx
    · omega
    · exact o.bound x hx)
  rw [List.length_cons] at this
  omega
/-- the way back, as far as it is told -/
def BackInv (ds : List Int) (i : Nat) (ys : List Value) : Prop :=
  ∃ bs : List Int, IntsAre ys bs ∧ bs.length = i ∧ (∀ x ∈ bs, 0 ≤ x ∧ x < (ds.length : Int)) ∧ ∀ q, q < i → sg ds (bs.getD q 0) = (q : Int)
theorem BackInv.start {ds : List Int} : BackInv ds 0 [] := ⟨[], .nil, rfl, (fun _ h => nomatch h), fun q h => absurd h (Nat.not_lt_zero _)⟩
theorem BackInv.snoc {ds : List Int} {i j : Nat} {ys : List Value} {t : Tok} (h : BackInv ds i ys) (hj : j < ds.length) (e : ds.getD j 0 = (i : Int)) : BackInv ds (i + 1) (ys ++ [.int (j : Int) t]) := by
  obtain ⟨bs, h1, h2, h3, h4⟩ := h
  refine ⟨bs ++ [(j : Int)], ints_snoc h1, by rw [List.length_append, List.length_singleton, h2], fun x hx => ?_, fun q hq => ?_⟩
  · rcases List.mem_append.mp hx with hx | hx
    · exact h3 x hx
    · rw [List.mem_singleton.mp hx]; omega
  · by_cases hqi : q < i
    · rw [List.getD_eq_getElem?_getD, List.getElem?_append_left (by omega), ← List.getD_eq_getElem?_getD]
      exact h4 q hqi
    · have : q = i := by omega
      subst this
      rw [List.getD_eq_getElem?_getD, List.getElem?_append_right (by omega), h2, Nat.sub_self]
      show sg ds (j : Int) = _
      unfold sg
      rw [show (j : Int).toNat = j by omega]
      exact e
/-- places that stay -/
def fixed (l : List Int) (n : Nat) : List Int := (rangeKs 0 n).filter fun k => l.getD k.toNat 0 == k
def oddR (r : List Int) : Bool := r.length % 2 == 1
structure TurnLaw (ds bs W M : List Int) (rs : List (List Int)) : Prop where
  wl : W.length = ds.length
  ml : M.length = ds.length
  wb : ∀ x ∈ W, 0 ≤ x ∧ x < (ds.length : Int)
  mb : ∀ x ∈ M, 0 ≤ x ∧ x < (ds.length : Int)
  ww : thenInts W W = rangeKs 0 ds.length
  mm : thenInts M M = rangeKs 0 ds.length
  wm : thenInts W M = ds
  mw : thenInts M W = bs
  wf : (fixed W ds.length).length = (rs.filter oddR).length
  mf : ((fixed M ds.length).length : Int) = (rs.map fun r => if oddR r then (1 : Int) else 2).sum
end Mine
end
section -- LawPure3
open PySem PySem.W PySem.Calls PyProof.Rows
set_option Elab.async false
namespace Mine
theorem nodup_len : ∀ (l m : List Int), l.Nodup → (∀ x ∈ l, x ∈ m) → l.length ≤ m.length
  | [], _, _, _ => Nat.zero_le _
  | x :: l, m, hd, hs => by
    have hx : x ∈ m := hs x (List.mem_cons_self ..)
    obtain ⟨hxl, hdl⟩ := List.nodup_cons.mp hd
    have h1 := nodup_len l (m.erase x) hdl (fun y hy => (List.mem_erase_of_ne (fun (e : y = x) => hxl (by rw [← e]; exact hy))).mpr (hs y (List.mem_cons_of_mem _ hy)))
    rw [List.length_erase_of_mem hx] at h1
    have : 0 < m.length := List.length_pos_of_mem hx
    rw [List.length_cons]
    omega
theorem getD_set_ne (l : List Int) (i j : Nat) (v : Int) (h : i ≠ j) : (l.set i v).getD j 0 = l.getD j 0 := by
  rw [List.getD_eq_getElem?_getD, List.getD_eq_getElem?_getD, List.getElem?_set_ne h]
theorem getD_set_eq (l : List Int) (i : Nat) (v : Int) (h : i < l.length) : (l.set i v).getD i 0 = v := by
  rw [List.getD_eq_getElem?_getD, List.getElem?_set_self h]; rfl
/-- what stays out of a ring stays -/
theorem puts_out : ∀ (r t acc : List Int) (y : Int), 0 ≤ y → (∀ x ∈ r, 0 ≤ x) → y ∉ r → (puts r t acc).getD y.toNat 0 = acc.getD y.toNat 0
  | [], _, _, _, _, _, _ => by simp [puts]
  | _ :: _, [], _, _, _, _, _ => by simp [puts]
  | a :: r, b :: t, acc, y, h0, hb, hn => by
    show (puts r t (acc.set a.toNat b)).getD y.toNat 0 = _
    rw [puts_out r t _ y h0 (fun x hx => hb x (List.mem_cons_of_mem _ hx)) (fun h => hn (List.mem_cons_of_mem _ h))]
    refine getD_set_ne _ _ _ _ fun e => hn ?_
    have ha := hb a (List.mem_cons_self ..)
    have : a = y := by omega
    rw [this]; exact List.mem_cons_self ..
theorem puts_in : ∀ (r t acc : List Int) (k : Nat), r.Nodup → r.length = t.length → (∀ x ∈ r, 0 ≤ x ∧ x < (acc.length : Int)) → k < r.length → (puts r t acc).getD (r.getD k 0).toNat 0 = t.getD k 0
  | [], _, _, _, _, _, _, h => absurd h (Nat.not_lt_zero _)
  | _ :: _, [], _, _, _, h, _, _ => by simp at h
  | a :: r, b :: t, acc, 0, hd, hl, hb, _ => by
    obtain ⟨hna, hdr⟩ := List.nodup_cons.mp hd
    have ha := hb a (List.mem_cons_self ..)
    show (puts r t (acc.set a.toNat b)).getD a.toNat 0 = b
    rw [puts_out r t _ a ha.1 (fun x hx => (hb x (List.mem_cons_of_mem _ hx)).1) hna]
    exact getD_set_eq _ _ _ (by omega)
  | a :: r, b :: t, acc, k + 1, hd, hl, hb, hk => by
    show (puts r t (acc.set a.toNat b)).getD (r.getD k 0).toNat 0 = t.getD k 0
    refine puts_in r t _ k (List.nodup_cons.mp hd).2 (by simpa using hl) (fun x hx => ?_) (by simpa using hk)
    rw [List.length_set]
    exact hb x (List.mem_cons_of_mem _ hx)
theorem putRings_out (first : Bool) : ∀ (rs : List (List Int)) (acc : List Int) (y : Int), 0 ≤ y → (∀ x ∈ rs.flatten, 0 ≤ x) → y ∉ rs.flatten → (putRings first rs acc).getD y.toNat 0 = acc.getD y.toNat 0
  | [], _, _, _, _, _ => rfl
  | r :: rs, acc, y, h0, hb, hn => by
    rw [List.flatten_cons] at hb hn
    show (putRings first rs (puts r (turnedOf first r) acc)).getD y.toNat 0 = _
    rw [putRings_out first rs _ y h0 (fun x hx => hb x (List.mem_append_right _ hx)) (fun h => hn (List.mem_append_right _ h)), puts_out r _ _ y h0 (fun x hx => hb x (List.mem_append_left _ hx)) (fun h => hn (List.mem_append_left _ h))]
theorem putRings_in (first : Bool) : ∀ (rs : List (List Int)) (acc : List Int), rs.flatten.Nodup → (∀ x ∈ rs.flatten, 0 ≤ x ∧ x < (acc.length : Int)) → ∀ r ∈ rs, ∀ k, k < r.length → (putRings first rs acc).getD (r.getD k 0).toNat 0 = (turnedOf first r).getD k 0
  | r :: rs, acc, hd, hb, q, hq, k, hk => by
    rw [List.flatten_cons] at hd hb
    obtain ⟨hd1, hd2, hd3⟩ := List.nodup_append.mp hd
    show (putRings first rs (puts r (turnedOf first r) acc)).getD _ 0 = _
    rcases List.mem_cons.mp hq with rfl | hq
    · have hm : q.getD k 0 ∈ q := by rw [List.getD_eq_getElem?_getD, List.getElem?_eq_getElem hk]; exact List.getElem_mem _
      rw [putRings_out first rs _ _ (hb _ (List.mem_append_left _ hm)).1 (fun x hx => (hb x (List.mem_append_right _ hx)).1) (fun h => hd3 _ hm _ h rfl)]
      exact puts_in q _ acc k hd1 (turnedOf_length first q).symm (fun x hx => hb x (List.mem_append_left _ hx)) hk
    · refine putRings_in first rs _ hd2 (fun x hx => ?_) q hq k hk
      rw [puts_length]
      exact hb x (List.mem_append_right _ hx)
theorem turned_true (r : List Int) (k : Nat) (h : k < r.length) : (turnedOf true r).getD k 0 = r.getD (r.length - 1 - k) 0 := by
  unfold turnedOf
  rw [if_pos rfl, List.getD_eq_getElem?_getD, List.getD_eq_getElem?_getD, List.getElem?_reverse h]
theorem turned_false_zero (r : List Int) (h : 0 < r.length) : (turnedOf false r).getD 0 0 = r.getD 0 0 := by
  cases r with
  | nil => simp at h
  | cons a r => rfl
theorem turned_false (r : List Int) (k : Nat) (h : k < r.length) (h1 : 1 ≤ k) : (turnedOf false r).getD k 0 = r.getD (r.length - k) 0 := by
  cases r with
  | nil => simp at h
  | cons a r =>
    obtain ⟨j, rfl⟩ : ∃ j, k = j + 1 := ⟨k - 1, by omega⟩
    show (a :: r.reverse).getD (j + 1) 0 = (a :: r).getD ((a :: r).length - (j + 1)) 0
    have hj : j < r.length := by simpa using h
    have e : (a :: r).length - (j + 1) = (r.length - 1 - j) + 1 := by rw [List.length_cons]; omega
    rw [e]
    show r.reverse.getD j 0 = r.getD (r.length - 1 - j) 0
    rw [List.getD_eq_getElem?_getD, List.getD_eq_getElem?_getD, List.getElem?_reverse hj]
end Mine
end
section -- LawPure4
open PySem PySem.W PySem.Calls PyProof.Rows
set_option Elab.async false
set_option maxRecDepth 10000
namespace Mine
theorem rangeKs_getD {n i : Nat} (h : i < n) : (rangeKs 0 n).getD i 0 = (i : Int) := by
  rw [List.getD_eq_getElem?_getD]; simp [rangeKs, h]
theorem thenInts_get (A B : List Int) (i : Nat) (h : i < A.length) : (thenInts A B).getD i 0 = sg B (A.getD i 0) := by
  unfold thenInts sg
  rw [List.getD_eq_getElem?_getD, List.getElem?_map, List.getElem?_eq_getElem h, List.getD_eq_getElem?_getD (l := A), List.getElem?_eq_getElem h]
  rfl
theorem list_ext {A B : List Int} (hl : A.length = B.length) (h : ∀ i, i < A.length → A.getD i 0 = B.getD i 0) : A = B := by
  apply List.ext_getElem hl
  intro i h1 h2
  have := h i h1
  rw [List.getD_eq_getElem?_getD, List.getD_eq_getElem?_getD, List.getElem?_eq_getElem h1, List.getElem?_eq_getElem h2] at this
  exact this
/-- where the two turnings lead -/
structure Turn (ds W M : List Int) (r : List Int) : Prop where
  w : ∀ k, k < r.length → sg W (r.getD k 0) = r.getD (r.length - 1 - k) 0
  m0 : 0 < r.length → sg M (r.getD 0 0) = r.getD 0 0
  m : ∀ k, k < r.length → 1 ≤ k → sg M (r.getD k 0) = r.getD (r.length - k) 0
  s : ∀ k, k + 1 < r.length → sg ds (r.getD k 0) = r.getD (k + 1) 0
  s0 : 0 < r.length → sg ds (r.getD (r.length - 1) 0) = r.getD 0 0
theorem getD_some {r : List Int} {k : Nat} (h : k < r.length) : r[k]? = some (r.getD k 0) := by
  rw [List.getD_eq_getElem?_getD, List.getElem?_eq_getElem h]; rfl
theorem turn_of {ds sn : List Int} {rs : List (List Int)} (R : RI ds ds.length sn rs) {r : List Int} (hr : r ∈ rs) :
    Turn ds (putRings true rs (rangeKs 0 ds.length)) (putRings false rs (rangeKs 0 ds.length)) r := by
  have hnd : rs.flatten.Nodup := R.flat ▸ R.nodup
  have hbd : ∀ x ∈ rs.flatten, 0 ≤ x ∧ x < ((rangeKs 0 ds.length).length : Int) := fun x hx => by rw [rangeKs_length]; exact R.bound x (R.flat ▸ hx)
  have c := R.cyc r hr
  refine ⟨fun k hk => ?_, fun hk => ?_, fun k hk h1 => ?_, fun k hk => ?_, fun hk => ?_⟩
  · show (putRings true rs _).getD _ 0 = _
    rw [putRings_in true rs _ hnd hbd r hr k hk, turned_true r k hk]
  · show (putRings false rs _).getD _ 0 = _
    rw [putRings_in false rs _ hnd hbd r hr 0 hk, turned_false_zero r hk]
  · show (putRings false rs _).getD _ 0 = _
    rw [putRings_in false rs _ hnd hbd r hr k hk, turned_false r k hk h1]
  · exact c.chain k _ _ (getD_some (by omega)) (getD_some hk)
  · exact c.close _ _ (getD_some (by omega)) (getD_some hk)
theorem Turn.ww {ds W M r : List Int} (t : Turn ds W M r) {k : Nat} (hk : k < r.length) : sg W (sg W (r.getD k 0)) = r.getD k 0 := by
  rw [t.w k hk, t.w _ (by omega)]
  congr 1
  omega
theorem Turn.mm {ds W M r : List Int} (t : Turn ds W M r) {k : Nat} (hk : k < r.length) : sg M (sg M (r.getD k 0)) = r.getD k 0 := by
  by_cases h : k = 0
  · subst h; rw [t.m0 hk, t.m0 hk]
  · rw [t.m k hk (by omega), t.m _ (by omega) (by omega)]
    congr 1
    omega
theorem Turn.wm {ds W M r : List Int} (t : Turn ds W M r) {k : Nat} (hk : k < r.length) : sg M (sg W (r.getD k 0)) = sg ds (r.getD k 0) := by
  rw [t.w k hk]
  by_cases h : k = r.length - 1
  · subst h
    rw [show r.length - 1 - (r.length - 1) = 0 by omega, t.m0 (by omega), t.s0 (by omega)]
  · rw [t.m _ (by omega) (by omega), t.s k (by omega)]
    congr 1
    omega
theorem Turn.mw {ds W M r : List Int} (t : Turn ds W M r) {k : Nat} (hk : k < r.length) : sg ds (sg W (sg M (r.getD k 0))) = r.getD k 0 := by
  by_cases h : k = 0
  · subst h
    rw [t.m0 hk, t.w 0 hk, Nat.sub_zero, t.s0 hk]
  · rw [t.m k hk (by omega), t.w _ (by omega), show r.length - 1 - (r.length - k) = (k - 1) by omega, t.s (k - 1) (by omega)]
    congr 1
    omega
theorem fixed_count (W ds sn : List Int) (rs : List (List Int)) (R : RI ds ds.length sn rs) :
    (fixed W ds.length).length = (rs.map fun r => (r.filter fun x => sg W x == x).length).sum := by
  have hnd : rs.flatten.Nodup := R.flat ▸ R.nodup
  have e1 : (fixed W ds.length).length = (rs.flatten.filter fun x => sg W x == x).length := by
    have hm : ∀ x, x ∈ fixed W ds.length ↔ x ∈ rs.flatten.filter fun x => sg W x == x := by
      intro x
      unfold fixed
      rw [List.mem_filter, List.mem_filter]
      refine and_congr ⟨fun h => ?_, fun h => ?_⟩ Iff.rfl
      · have := mem_rangeKs h
        have h2 := R.all x.toNat (by omega)
        rw [← R.flat, show x = ((x.toNat : Nat) : Int) by omega]
        exact h2
      · have := R.bound x (R.flat ▸ h)
        exact kre_mem (by omega) (by omega)
    have hn1 : (fixed W ds.length).Nodup := (rangeKs_nodup _).filter _
    have hn2 : (rs.flatten.filter fun x => sg W x == x).Nodup := hnd.filter _
    exact Nat.le_antisymm (nodup_len _ _ hn1 fun x h => (hm x).mp h) (nodup_len _ _ hn2 fun x h => (hm x).mpr h)
  rw [e1]
  clear e1 R hnd
  induction rs with
  | nil => rfl
  | cons r rs ih => rw [List.flatten_cons, List.filter_append, List.length_append, ih]; rfl
theorem ring_filter (p : Int → Bool) (r : List Int) : (r.filter p).length = ((List.range r.length).filter fun k => p (r.getD k 0)).length := by
  have e : r = (List.range r.length).map fun k => r.getD k 0 := by
    apply List.ext_getElem
    · simp
    · intro i h1 h2
      simp [h1]
  conv => lhs; rw [e]
  rw [List.filter_map, List.length_map]
  rfl
theorem nodup_getD {r : List Int} (h : r.Nodup) {i j : Nat} (hi : i < r.length) (hj : j < r.length) : (r.getD i 0 == r.getD j 0) = (i == j) := by
  rw [List.getD_eq_getElem?_getD, List.getD_eq_getElem?_getD, List.getElem?_eq_getElem hi, List.getElem?_eq_getElem hj]
  show (r[i] == r[j]) = _
  by_cases e : i = j
  · subst e; simp
  · rw [beq_eq_false_iff_ne.mpr e, beq_eq_false_iff_ne]
    exact fun q => e ((List.getElem_inj h).mp q)
theorem cnt_w : ∀ L, L < 10 → ((List.range L).filter fun k => (L - 1 - k == k)).length = if L % 2 == 1 then 1 else 0 := by decide
theorem cnt_m : ∀ L, L < 10 → 0 < L → ((List.range L).filter fun k => ((if k = 0 then 0 else L - k) == k)).length = if L % 2 == 1 then 1 else 2 := by decide
theorem Turn.cw {ds W M r : List Int} (t : Turn ds W M r) (h : r.Nodup) (h9 : r.length < 10) : (r.filter fun x => sg W x == x).length = if oddR r then 1 else 0 := by
  rw [ring_filter]
  have := cnt_w r.length h9
  unfold oddR
  rw [← this]
  congr 1
  refine List.filter_congr fun k hk => ?_
  have hk' := List.mem_range.mp hk
  rw [t.w k hk', nodup_getD h (by omega) hk']
theorem Turn.cm {ds W M r : List Int} (t : Turn ds W M r) (h : r.Nodup) (h9 : r.length < 10) (h0 : 0 < r.length) : (r.filter fun x => sg M x == x).length = if oddR r then 1 else 2 := by
  rw [ring_filter]
  have := cnt_m r.length h9 h0
  unfold oddR
  rw [← this]
  congr 1
  refine List.filter_congr fun k hk => ?_
  have hk' := List.mem_range.mp hk
  by_cases e : k = 0
  · subst e
    rw [t.m0 h0, if_pos rfl]
    simp
  · rw [t.m k hk' (by omega), nodup_getD h (by omega) hk', if_neg e]
theorem ring_nodup : ∀ (rs : List (List Int)), rs.flatten.Nodup → ∀ r ∈ rs, r.Nodup
  | q :: rs, h, r, hr => by
    rw [List.flatten_cons] at h
    obtain ⟨h1, h2, _⟩ := List.nodup_append.mp h
    rcases List.mem_cons.mp hr with rfl | hr
    · exact h1
    · exact ring_nodup rs h2 r hr
theorem turn_law' {ds bs sn : List Int} {rs : List (List Int)} (o : IsOrd ds) (h9 : ds.length ≤ 9) (R : RI ds ds.length sn rs) (hbl : bs.length = ds.length) (hbb : ∀ x ∈ bs, 0 ≤ x ∧ x < (ds.length : Int)) (hbq : ∀ q, q < ds.length → sg ds (bs.getD q 0) = (q : Int)) :
    TurnLaw ds bs (putRings true rs (rangeKs 0 ds.length)) (putRings false rs (rangeKs 0 ds.length)) rs := by
  have hnd : rs.flatten.Nodup := R.flat ▸ R.nodup
  have T : ∀ r ∈ rs, Turn ds (putRings true rs (rangeKs 0 ds.length)) (putRings false rs (rangeKs 0 ds.length)) r := fun r hr => turn_of R hr
  have hin : ∀ first, ∀ x ∈ putRings first rs (rangeKs 0 ds.length), 0 ≤ x ∧ x < (ds.length : Int) := fun first x hx => by
    rcases mem_putRings _ _ _ _ hx with ⟨r, hr, hxr⟩ | hx
    · exact (R.ring hr).2.2 x hxr
    · have := mem_rangeKs hx; omega
  have hlen : ∀ first, (putRings first rs (rangeKs 0 ds.length)).length = ds.length := fun first => by rw [putRings_length, rangeKs_length]
  have cov : ∀ i, i < ds.length → ∃ r ∈ rs, ∃ k, k < r.length ∧ r.getD k 0 = (i : Int) := fun i hi => by
    have h := R.all i hi
    rw [R.flat] at h
    obtain ⟨r, hr, hx⟩ := List.mem_flatten.mp h
    obtain ⟨k, hk, e⟩ := List.getElem_of_mem hx
    exact ⟨r, hr, k, hk, by rw [List.getD_eq_getElem?_getD, List.getElem?_eq_getElem hk]; exact e⟩
  have ringnd : ∀ r ∈ rs, r.Nodup := fun r hr => ring_nodup rs hnd r hr
  generalize hW : putRings true rs (rangeKs 0 ds.length) = W at T
  generalize hM : putRings false rs (rangeKs 0 ds.length) = M at T
  have wl : W.length = ds.length := hW ▸ hlen true
  have ml : M.length = ds.length := hM ▸ hlen false
  have wb : ∀ x ∈ W, 0 ≤ x ∧ x < (ds.length : Int) := hW ▸ hin true
  have mb : ∀ x ∈ M, 0 ≤ x ∧ x < (ds.length : Int) := hM ▸ hin false
  have sgd : ∀ (l : List Int) (i : Nat), sg l (i : Int) = l.getD i 0 := fun l i => by unfold sg; rw [show (i : Int).toNat = i by omega]
  have tl : ∀ A B : List Int, (thenInts A B).length = A.length := fun A B => by simp [thenInts]
  refine ⟨wl, ml, wb, mb, ?_, ?_, ?_, ?_, ?_, ?_⟩
  · refine list_ext (by rw [tl, wl, rangeKs_length]) fun i hi => ?_
    rw [tl, wl] at hi
    obtain ⟨r, hr, k, hk, e⟩ := cov i hi
    rw [thenInts_get _ _ _ (by omega), rangeKs_getD hi, ← sgd W i, ← e]
    exact (T r hr).ww hk
  · refine list_ext (by rw [tl, ml, rangeKs_length]) fun i hi => ?_
    rw [tl, ml] at hi
    obtain ⟨r, hr, k, hk, e⟩ := cov i hi
    rw [thenInts_get _ _ _ (by omega), rangeKs_getD hi, ← sgd M i, ← e]
    exact (T r hr).mm hk
  · refine list_ext (by rw [tl, wl]) fun i hi => ?_
    rw [tl, wl] at hi
    obtain ⟨r, hr, k, hk, e⟩ := cov i hi
    rw [thenInts_get _ _ _ (by omega), ← sgd W i, ← sgd ds i, ← e]
    exact (T r hr).wm hk
  · refine list_ext (by rw [tl, ml, hbl]) fun i hi => ?_
    rw [tl, ml] at hi
    obtain ⟨r, hr, k, hk, e⟩ := cov i hi
    rw [thenInts_get _ _ _ (by omega), ← sgd M i]
    have h1 := (T r hr).mw hk
    rw [e] at h1
    have gm : ∀ (l : List Int), l.length = ds.length → (∀ x ∈ l, 0 ≤ x ∧ x < (ds.length : Int)) → ∀ y : Int, 0 ≤ y → y < (ds.length : Int) → 0 ≤ sg l y ∧ sg l y < (ds.length : Int) := fun l hl hb y y0 y1 => by
      refine hb _ ?_
      unfold sg
      have : y.toNat < l.length := by omega
      rw [List.getD_eq_getElem?_getD, List.getElem?_eq_getElem this]
      exact List.getElem_mem _
    have a1 := gm M ml mb (i : Int) (by omega) (by omega)
    have a2 := gm W wl wb _ a1.1 a1.2
    have a3 := gm bs hbl hbb (i : Int) (by omega) (by omega)
    rw [sgd bs i] at a3
    exact o.inj a2.1 a2.2 a3.1 a3.2 (h1.trans (hbq i hi).symm)
  · rw [fixed_count W ds sn rs R]
    have : ∀ q : List (List Int), (∀ r ∈ q, r ∈ rs) → (q.map fun r => (r.filter fun x => sg W x == x).length).sum = (q.filter oddR).length := by
      intro q
      induction q with
      | nil => intro _; rfl
      | cons r q ih =>
        intro hq
        have hr := hq r (List.mem_cons_self ..)
        have hl := (R.ring hr).2.1
        rw [List.map_cons, List.sum_cons, ih fun x hx => hq x (List.mem_cons_of_mem _ hx), (T r hr).cw (ringnd r hr) (by omega), List.filter_cons]
        cases oddR r
        · simp
        · simp [Nat.add_comm]
    exact this rs fun r hr => hr
  · rw [fixed_count M ds sn rs R]
    have : ∀ q : List (List Int), (∀ r ∈ q, r ∈ rs) → (((q.map fun r => (r.filter fun x => sg M x == x).length).sum : Nat) : Int) = (q.map fun r => if oddR r then (1 : Int) else 2).sum := by
      intro q
      induction q with
      | nil => intro _; rfl
      | cons r q ih =>
        intro hq
        have hr := hq r (List.mem_cons_self ..)
        have hl := (R.ring hr).2.1
        have hp : 0 < r.length := List.length_pos_iff.mpr (R.ring hr).1
        rw [List.map_cons, List.sum_cons, List.map_cons, List.sum_cons, ← ih fun x hx => hq x (List.mem_cons_of_mem _ hx), (T r hr).cm (ringnd r hr) (by omega) hp]
        cases oddR r <;> simp
    exact this rs fun r hr => hr
end Mine
end
section -- CompCell
open PySem PySem.W PySem.Calls PyProof.Rows
set_option Elab.async false
set_option maxRecDepth 100000
set_option maxHeartbeats 8000000
namespace Mine
def Off4 (I C c D : Addr) (news : List (Addr × Obj)) : Prop := ∀ p ∈ news, @Ne Nat p.1 I ∧ @Ne Nat p.1 C ∧ @Ne Nat p.1 c ∧ @Ne Nat p.1 D
/-- the end of a turn of a comprehension whose name is a cell -/
def CellEnd (h₀ : Heap) (L : Addr) (m : Str → Option Value) (s₁ : Shared) (I : Addr) (oI : Obj) (C : Addr) (oC : Obj) (c : Addr) (oc : Obj) (D : Addr) (oD : Obj) (rest : Value → List (Addr × Obj) → Prop) (y : Value) (s₂ : Shared) : Prop :=
  ∃ h' tk news', s₂ = { s₁ with heap := h', toks := tk } ∧ Fr h₀ L h' m ∧ News h₀ L h' ((I, oI) :: (C, oC) :: (c, oc) :: (D, oD) :: news') ∧ Off4 I C c D news' ∧ rest y news'
def CellAt (prog : Program) (w : World) (A : Around) (h₀ : Heap) (L : Addr) (m : Str → Option Value) (env : Env) (elt : Expr) (x : Str) (scope : Scope) (cl : List (Str × Addr)) (mE : Addr → Str → Option Value) (QQ : Addr → Shared → Prop) (xv : Value) (s₁ : Shared) : Prop :=
  ∃ (ax : Addr) (us : List Value) (k : Nat) (J : Nat → List Value → List (Addr × Obj) → Prop) (news : List (Addr × Obj)), xv = .ref ax ∧ A.handled = none ∧ us.length ≤ 100 ∧ Fr h₀ L s₁.heap m ∧ News h₀ L s₁.heap news ∧ J 0 [] news ∧ (∀ i ys news, J i ys news → (ax, listOf us.toArray k) ∈ news) ∧
    (∀ i v ys news I oI C oC c oc D h tk, us[i]? = some v → J i ys news → oc.data = .cell (some v) → Fr h₀ L h m → News h₀ L h ((I, oI) :: (C, oC) :: (c, oc) :: (D, LCg.lst ys) :: news) → Off4 I C c D news → (@LT.lt Nat _ I D ∧ @LT.lt Nat _ D C ∧ @LT.lt Nat _ C c) →
      wpAny (model prog w) A (eval elt (compEnvC scope ((x, c) :: cl) C env)) (CellEnd h₀ L m { s₁ with heap := h, toks := tk } I oI C oC c oc D (LCg.lst ys) (fun y news' => J (i + 1) (ys ++ [y]) news')) (fun _ _ => False) { s₁ with heap := h, toks := tk }) ∧
    ∀ ys news D h tk, J us.length ys news → Fr h₀ L h (mE D) → News h₀ L h ((D, LCg.lst ys) :: news) → (∀ p ∈ news, @Ne Nat p.1 D) → QQ D { s₁ with heap := h, toks := tk }
section
variable {prog : Program} {w : World} {A : Around} {E : Value → Shared → Prop} {s : Shared} {h₀ : Heap} {L : Addr} {m : Str → Option Value} {env : Env}
theorem cell_block {elt iter : Expr} {x : Str} {px : Pos} {scope : Scope} {cl : List (Str × Addr)} {pos : Pos} {s₁ : Shared} {ax : Addr} {us : List Value} {k : Nat} {J : Nat → List Value → List (Addr × Obj) → Prop} {news : List (Addr × Obj)} {RR : Value → Addr → Result → Shared → Prop}
    (hc1 : ∀ n, cellsFrom n scope.names cl = (x, n) :: cl) (hp1 : ∀ h, pushCells h scope.names = h.push { cls := .type "cell", data := .cell none })
    (hkind : scope.kind = .function) (hxk : ∀ c C, (compEnvC scope ((x, c) :: cl) C env).kindOf x = some .cell)
    (hh : A.handled = none) (hul : us.length ≤ 100) (F : Fr h₀ L s₁.heap m) (N : News h₀ L s₁.heap news) (hJ0 : J 0 [] news) (hJl : ∀ i ys news, J i ys news → (ax, listOf us.toArray k) ∈ news)
    (turn : ∀ i v ys news I oI C oC c oc D h tk, us[i]? = some v → J i ys news → oc.data = .cell (some v) → Fr h₀ L h m → News h₀ L h ((I, oI) :: (C, oC) :: (c, oc) :: (D, LCg.lst ys) :: news) → Off4 I C c D news → (@LT.lt Nat _ I D ∧ @LT.lt Nat _ D C ∧ @LT.lt Nat _ C c) →
      wpAny (model prog w) A (eval elt (compEnvC scope ((x, c) :: cl) C env)) (CellEnd h₀ L m { s₁ with heap := h, toks := tk } I oI C oC c oc D (LCg.lst ys) (fun y news' => J (i + 1) (ys ++ [y]) news')) (fun _ _ => False) { s₁ with heap := h, toks := tk })
    (fin : ∀ ys news D C h tk, J us.length ys news → Fr h₀ L h m → News h₀ L h ((D, LCg.lst ys) :: news) → (∀ p ∈ news, @Ne Nat p.1 D ∧ @Ne Nat p.1 C) → h.Ns C (fun _ => none) → @Ne Nat C L → @Ne Nat C D → h₀.get? C = none → RR (.ref D) C (.ok .next) { s₁ with heap := h, toks := tk }) :
    wpAny (model prog w) A (newList []) (fun acc s₃ => wpAny (model prog w) A (newFunctionEnv scope env.globals cl [] env.qual none .none (some env)) (fun cenv s₄ =>
      codeAny (model prog w) A (.compStart (.ListComp elt [⟨.Name x px, iter, [], 0⟩] scope pos) 0 (.ref s₁.heap.objs.size) acc { cenv with scope := relabel scope env }) (RR acc cenv.locals) s₄) E s₃) E { s₁ with heap := s₁.heap.push { cls := .type "list_iterator", data := .fields #[.ref ax, .int 0 0] } } := by
  have hol : s₁.heap.get? ax = some (listOf us.toArray k) := (N _ (hJl _ _ _ hJ0)).1
  have hls : s₁.heap.IsList ax us.toArray := ⟨_, hol, rfl, _, rfl⟩
  have hne : ax ≠ s₁.heap.objs.size := Nat.ne_of_lt (Heap.lt_size hol)
  refine wpAny_newObj_type ?_ (Nat.zero_le _)
  simp only [newFunctionEnv, Option.isSome_some, if_true]
  refine wpAny_bind (wpAny_alloc ?_)
  refine wpAny_bind (wpAny_layCells _ (fun name kind cells => by cases hkc : kind == NameKind.cell <;> simp [hkc]) _ _ _ _ ?_)
  rw [hc1, hp1]
  rw [List.forIn_nil]
  refine wpAny_bind (wpAny_pure (wpAny_pure ?_))
  dsimp only
  generalize e1 : s₁.heap.push { cls := .type "list_iterator", data := .fields #[.ref ax, .int 0 0] } = H1
  generalize e2 : H1.push { cls := .type "list", data := .seq #[] } = H2
  generalize e3 : H2.push { cls := .type "dict", data := .dict #[] } = H3
  generalize e4 : H3.push { cls := .type "cell", data := .cell none } = H4
  have z1 : H1.objs.size = s₁.heap.objs.size + 1 := by rw [← e1, Heap.size_push]
  have z2 : H2.objs.size = s₁.heap.objs.size + 2 := by rw [← e2, Heap.size_push, z1]
  have z3 : H3.objs.size = s₁.heap.objs.size + 3 := by rw [← e3, Heap.size_push, z2]
  have up1 : ∀ b o, s₁.heap.get? b = some o → H1.get? b = some o := fun b o e => e1 ▸ Heap.get?_push_of_some _ e
  have up2 : ∀ b o, H1.get? b = some o → H2.get? b = some o := fun b o e => e2 ▸ Heap.get?_push_of_some _ e
  have up3 : ∀ b o, H2.get? b = some o → H3.get? b = some o := fun b o e => e3 ▸ Heap.get?_push_of_some _ e
  have up4 : ∀ b o, H3.get? b = some o → H4.get? b = some o := fun b o e => e4 ▸ Heap.get?_push_of_some _ e
  have old : ∀ b o, s₁.heap.get? b = some o → H4.get? b = some o := fun b o e => up4 _ _ (up3 _ _ (up2 _ _ (up1 _ _ e)))
  have gI : H4.get? s₁.heap.objs.size = some { cls := .type "list_iterator", data := .fields #[.ref ax, .int 0 0] } := up4 _ _ (up3 _ _ (up2 _ _ (e1 ▸ Heap.get?_push_size _ rfl)))
  have gD : H4.get? H1.objs.size = some (LCg.lst []) := up4 _ _ (up3 _ _ (e2 ▸ Heap.get?_push_size _ rfl))
  have gC : H4.get? H2.objs.size = some { cls := .type "dict", data := .dict #[] } := up4 _ _ (e3 ▸ Heap.get?_push_size _ rfl)
  have gc : H4.get? H3.objs.size = some { cls := .type "cell", data := .cell none } := e4 ▸ Heap.get?_push_size _ rfl
  have fresh₀ : ∀ a, s₁.heap.objs.size ≤ a → h₀.get? a = none := fun a ha => by
    cases e : h₀.get? a with
    | none => rfl
    | some o' => exact absurd (Heap.lt_size (F.keep a o' e)) (Nat.not_lt.mpr ha)
  have hLI : L < s₁.heap.objs.size := F.ns.lt
  have hDlt := z1
  have hLI' : @LT.lt Nat _ L s₁.heap.objs.size := hLI
  generalize hI : s₁.heap.objs.size = I at *
  generalize hDD : H1.objs.size = D at *
  generalize hCC : H2.objs.size = C at *
  generalize hcc : H3.objs.size = c at *
  subst hDlt z2 z3
  have kb : ∀ a, I ≤ a → ∀ (h' : Heap) (o : Obj), h'.get? a = some o → h'.get? a = some o ∧ a ≠ L ∧ h₀.get? a = none := fun a ha h' o e => ⟨e, (Nat.ne_of_lt (Nat.lt_of_lt_of_le hLI ha)).symm, fresh₀ a ha⟩
  have W := Walks.list (prog := prog) (w := w) hh I ax hne us.toArray
  have nsC : ∀ h' : Heap, h'.get? (I + 2) = some { cls := .type "dict", data := .dict #[] } → h'.Ns (I + 2) fun _ => none := fun h' e => ⟨_, #[], 0, e, rfl, (fun _ he => by simp at he), fun _ => rfl⟩
  have hsz : us.toArray.size ≤ 100 := by rw [List.size_toArray]; exact hul
  have loop : codeAny (model prog w) A (.compLoop (.ListComp elt [⟨.Name x px, iter, [], 0⟩] scope pos) 0 (.ref I) (.ref (I + 1)) (compEnvC scope ((x, I + 3) :: cl) (I + 2) env)) (RR (.ref (I + 1)) (I + 2)) { s₁ with heap := H4 } := by
    refine codeAny_compLoop_tests
      (fun q s' => ∃ h' tk i ys news' oc v0, s' = { s₁ with heap := h', toks := tk } ∧ (h'.IsListIter I ax i ∧ h'.IsList ax us.toArray) ∧ Fr h₀ L h' m ∧ h'.get? (I + 2) = some { cls := .type "dict", data := .dict #[] } ∧ h'.get? (I + 3) = some oc ∧ oc.data = .cell v0 ∧
        h'.get? (I + 1) = some (LCg.lst ys) ∧ News h₀ L h' news' ∧ Off4 I (I + 2) (I + 3) (I + 1) news' ∧ ys.length = i ∧ J i ys news' ∧ i ≤ us.toArray.size ∧ q = us.toArray.size + 1 - i) ?_ (us.toArray.size + 1)
      ⟨H4, s₁.toks, 0, [], news, _, none, rfl, ⟨⟨_, gI, rfl, rfl⟩, hls.at fun o e => old _ o e⟩, F.keeps old, gC, gc, rfl, gD, N.grown old, fun p hp => by have this : @LT.lt Nat _ p.1 I := hI ▸ Heap.lt_size (N p hp).1; exact ⟨by omega, by omega, by omega, by omega⟩, rfl, hJ0, Nat.zero_le _, rfl⟩
    rintro q s' ⟨h', tk, i, ys, news', oc, v0, rfl, hst, F', hC', hc', hcd', hD', N', off, hyl, hJ', hi, rfl⟩
    by_cases hlt : i < us.toArray.size
    · refine W.item i _ _ _ hlt hst fun v h₂ tk₂ hP hst₂ hk₂ => ?_
      have hP' : us[i]? = some v := by simpa using hP
      have k2 : ∀ b o, b ≠ I → h'.get? b = some o → h₂.get? b = some o := fun b o q e => hk₂ b o (fun r => q (List.mem_singleton.mp r)) e
      refine wpAny_assign_Name (wpAny_storeName_cell hkind (hxk _ _) (c := I + 3) (v₀ := v0) (by simp [compEnvC]) ⟨oc, k2 _ _ (by omega) hc', hcd'⟩ fun h₃ hv₃ hs₃ => ?_)
      refine wpAny_tests_nil ?_
      simp only [if_true]
      obtain ⟨oc₃, hc₃, hcd₃⟩ := hv₃
      have k3 : ∀ b o, b ≠ I → b ≠ I + 3 → h'.get? b = some o → h₃.get? b = some o := fun b o q1 q2 e => (hs₃.2 b q2).trans (k2 b o q1 e)
      obtain ⟨⟨oI, hoI, hoIc, hoId⟩, hl₂⟩ := id hst₂
      have hI₃ : h₃.get? I = some oI := (hs₃.2 I (show @Ne Nat I (I + 3) by omega)).trans hoI
      have nb : ∀ b o, h₀.get? b = some o → b ≠ I ∧ b ≠ I + 3 := fun b o e => ⟨(fun q => by rw [q, fresh₀ I (Nat.le_refl _)] at e; cases e), (fun q => by rw [q, fresh₀ (I + 3) (Nat.le_add_right _ _)] at e; cases e)⟩
      have F₃ : Fr h₀ L h₃ m := ⟨F'.ns.at' fun o e => k3 L o (by omega) (by omega) e, fun b o e => k3 b o (nb b o e).1 (nb b o e).2 (F'.keep b o e), F'.above⟩
      have N₃ : News h₀ L h₃ ((I, oI) :: (I + 2, { cls := .type "dict", data := .dict #[] }) :: (I + 3, oc₃) :: (I + 1, LCg.lst ys) :: news') := fun p hp => by
        rcases List.mem_cons.mp hp with rfl | hp
        · exact kb I (Nat.le_refl _) _ _ hI₃
        · rcases List.mem_cons.mp hp with rfl | hp
          · exact kb (I + 2) (by omega) _ _ (k3 _ _ (by omega) (by omega) hC')
          · rcases List.mem_cons.mp hp with rfl | hp
            · exact kb (I + 3) (by omega) _ _ hc₃
            · rcases List.mem_cons.mp hp with rfl | hp
              · exact kb (I + 1) (by omega) _ _ (k3 _ _ (by omega) (by omega) hD')
              · exact ⟨k3 _ _ (off p hp).1 (off p hp).2.2.1 (N' p hp).1, (N' p hp).2⟩
      refine wpAny_mono (turn i v ys news' I oI (I + 2) _ (I + 3) oc₃ (I + 1) h₃ tk₂ hP' hJ' hcd₃ F₃ N₃ off ⟨by omega, by omega, by omega⟩) (fun y s₄ h₄ => ?_) fun _ _ x => x.elim
      obtain ⟨h₄, tk₄, news₄, rfl, F₄, N₄, off₄, hJ₄⟩ := h₄
      have zI := (N₄ _ (.head _)).1
      have zC := (N₄ _ (.tail _ (.head _))).1
      have zc := (N₄ _ (.tail _ (.tail _ (.head _)))).1
      have zD := (N₄ _ (.tail _ (.tail _ (.tail _ (.head _))))).1
      refine append_at (hsz := by show ys.toArray.size ≤ sizeLine; rw [List.size_toArray, hyl, sizeLine_eq]; omega) zD fun h₅ hs₅ hD₅ => ?_
      have k5 : ∀ b o, b ≠ I + 1 → h₄.get? b = some o → h₅.get? b = some o := fun b o q e => (hs₅.2 b q).trans e
      have hlm := N₄ _ (.tail _ (.tail _ (.tail _ (.tail _ (hJl _ _ _ hJ₄)))))
      have hal := (off₄ _ (hJl _ _ _ hJ₄)).2.2.2
      refine ⟨us.toArray.size + 1 - (i + 1), by omega, h₅, tk₄, i + 1, ys ++ [y], news₄, oc₃, some v, rfl, ⟨⟨oI, k5 _ _ (by omega) zI, hoIc, hoId⟩, ⟨_, k5 _ _ hal hlm.1, rfl, _, rfl⟩⟩,
        ⟨F₄.ns.at' fun o e => k5 L o (by omega) e, fun b o e => k5 b o (fun q => by rw [q, fresh₀ (I + 1) (Nat.le_add_right _ _)] at e; cases e) (F₄.keep b o e), F₄.above⟩,
        k5 _ _ (by omega) zC, k5 _ _ (by omega) zc, hcd₃, hD₅.trans (congrArg some (LCg.lst_snoc ys y)), fun p hp => ?_, off₄, by rw [List.length_append, List.length_singleton, hyl], hJ₄, hlt, rfl⟩
      have z := N₄ p (.tail _ (.tail _ (.tail _ (.tail _ hp))))
      exact ⟨k5 _ _ (off₄ p hp).2.2.2 z.1, z.2⟩
    · have hin : i = us.toArray.size := by omega
      refine W.done _ _ _ (hin ▸ hst) fun h₂ tk₂ hk₂ => ?_
      have k2 : ∀ b o, b ≠ I → h'.get? b = some o → h₂.get? b = some o := fun b o q e => hk₂ b o (fun r => q (List.mem_singleton.mp r)) e
      refine fin ys news' (I + 1) (I + 2) h₂ tk₂ (by rw [List.size_toArray] at hin; rw [← hin]; exact hJ') ⟨F'.ns.at' fun o e => k2 L o (by omega) e, fun b o e => k2 b o (fun q => by rw [q, fresh₀ I (Nat.le_refl _)] at e; cases e) (F'.keep b o e), F'.above⟩ (fun p hp => ?_) (fun p hp => ⟨(off p hp).2.2.2, (off p hp).2.1⟩) (nsC h₂ (k2 _ _ (by omega) hC')) (by omega) (by omega) (fresh₀ _ (Nat.le_add_right _ _))
      rcases List.mem_cons.mp hp with rfl | hp
      · exact kb (I + 1) (by omega) _ _ (k2 _ _ (by omega) hD')
      · exact ⟨k2 _ _ (off p hp).1 (N' p hp).1, (N' p hp).2⟩
  exact codeAny_compStart_list loop (W.self 0 _ _ _ ⟨⟨_, gI, rfl, rfl⟩, hls.at fun o e => old _ o e⟩ loop)
theorem ListComp_cell {elt iter : Expr} {x : Str} {px : Pos} {scope : Scope} {cl : List (Str × Addr)} {pos : Pos} {Q : Value → Shared → Prop} (_F₀ : Fr h₀ L s.heap m)
    (hclos : closureFor scope env = pure cl) (hc1 : ∀ n, cellsFrom n scope.names cl = (x, n) :: cl) (hp1 : ∀ h, pushCells h scope.names = h.push { cls := .type "cell", data := .cell none })
    (hkind : scope.kind = .function) (hnames : ∀ y ∈ scope.names, y.2 = .local → scope.names.lookup y.1 = some .local)
    (hxk : ∀ c C, (compEnvC scope ((x, c) :: cl) C env).kindOf x = some .cell)
    (h : wpAny (model prog w) A (eval iter env) (CellAt prog w A h₀ L m env elt x scope cl (fun _ => m) (fun D => Q (.ref D))) E s)
    (hs : ∀ x, foldedSetIterable iter env x = pure x := by intro _; rfl) :
    wpAny (model prog w) A (eval (.ListComp elt [⟨.Name x px, iter, [], 0⟩] scope pos) env) Q E s := by
  rw [eval_ListComp]
  refine wpAny_comprehension_free (use := none) rfl hs hclos hkind hnames (wpAny_mono h (fun xv s₁ h₁ => ?_) fun _ _ e => e)
  obtain ⟨ax, us, k, J, news, rfl, hh, hul, F, N, hJ0, hJl, turn, done⟩ := h₁
  refine wpAny_pyIter_list ⟨_, (N _ (hJl _ _ _ hJ0)).1, rfl, _, rfl⟩ (cell_block hc1 hp1 hkind hxk hh hul F N hJ0 hJl turn fun ys news D C h tk hJ F' N' off hn hCL hCD hC₀ => ⟨_, hn, fun h'' hs'' => ?_⟩)
  refine done ys news D h'' tk hJ (F'.change hs'' hCL hC₀) (fun p hp => ?_) fun p hp => (off p hp).1
  refine ⟨hs''.extBut _ _ ?_ (N' p hp).1, (N' p hp).2⟩
  rcases List.mem_cons.mp hp with rfl | hp
  · exact Ne.symm hCD
  · exact (off p hp).2
theorem Assign_ListComp_cell {elt iter : Expr} {x y : Str} {px py : Pos} {scope : Scope} {cl : List (Str × Addr)} {pos spos : Pos} {Q : Flow → Shared → Prop} (_F₀ : Fr h₀ L s.heap m) (hLe : env.locals = L)
    (hsw : swapsWith (.ListComp elt [⟨.Name x px, iter, [], 0⟩] scope pos) (some (.Name y py)) spos.line env = pure true)
    (hclos : closureFor scope env = pure cl) (hc1 : ∀ n, cellsFrom n scope.names cl = (x, n) :: cl) (hp1 : ∀ h, pushCells h scope.names = h.push { cls := .type "cell", data := .cell none })
    (hkind : scope.kind = .function) (hnames : ∀ y ∈ scope.names, y.2 = .local → scope.names.lookup y.1 = some .local)
    (hxk : ∀ c C, (compEnvC scope ((x, c) :: cl) C env).kindOf x = some .cell)
    (hy : env.kindOf y = some .local) (hp : (env.scope.kind == .class || (env.scope.kind == .module && env.locals != env.globals)) = false)
    (h : wpAny (model prog w) A (eval iter env) (CellAt prog w A h₀ L m env elt x scope cl (fun D => fun z => if z = y then some (.ref D) else m z) (fun _ => Q .next)) E s)
    (hs : ∀ x, foldedSetIterable iter env x = pure x := by intro _; rfl) :
    wpAny (model prog w) A (exec (.Assign [.Name y py] (.ListComp elt [⟨.Name x px, iter, [], 0⟩] scope pos) spos) env) Q E s := by
  subst hLe
  rw [exec_Assign_Name_used _ _ _ _ hsw]
  refine wpAny_bind (wpAny_standAt (wpAny_bind ?_))
  show wpAny _ A (do let _ ← comprehension (.ListComp elt [⟨.Name x px, iter, [], 0⟩] scope pos) scope env _ (newList []) false (eval iter env) (some (assign (.Name y py) env))) _ _ s
  refine wpAny_bind (wpAny_mono (wpAny_comprehension_free (use := some (assign (.Name y py) env)) (Q := fun _ s' => Q .next s') rfl hs hclos hkind hnames
    (wpAny_mono h (fun xv s₁ h₁ => ?_) fun _ _ e => e)) (fun _ s' hq => wpAny_pure (wpAny_pure hq)) fun _ _ e => e)
  obtain ⟨ax, us, k, J, news, rfl, hh, hul, F, N, hJ0, hJl, turn, done⟩ := h₁
  refine wpAny_pyIter_list ⟨_, (N _ (hJl _ _ _ hJ0)).1, rfl, _, rfl⟩ (cell_block hc1 hp1 hkind hxk hh hul F N hJ0 hJl turn fun ys news D C h tk hJ F' N' off hn hCL hCD hC₀ => ?_)
  show wpAny _ A (assign (.Name y py) env (.ref D)) _ _ _
  refine wpAny_assign_Name (wpAny_storeName_local hy F'.ns (fun h₂ hn₂ hs₂ => ?_) hp)
  have hL₀ : h₀.get? env.locals = none := Heap.get?_none_of_le F'.above
  have F₂ : Fr h₀ env.locals h₂ (fun z => if z = y then some (.ref D) else m z) := ⟨hn₂, fun b o e => hs₂.extBut b o (fun q => by rw [q, hL₀] at e; cases e) (F'.keep b o e), F'.above⟩
  refine ⟨_, hn.sameBut hs₂ hCL, fun h'' hs'' => done ys news D h'' _ hJ (F₂.change hs'' hCL hC₀) (fun p hp => ?_) fun p hp => (off p hp).1⟩
  have z : h₂.get? p.1 = some p.2 := hs₂.extBut _ _ (N' p hp).2.1 (N' p hp).1
  refine ⟨hs''.extBut _ _ ?_ z, (N' p hp).2⟩
  rcases List.mem_cons.mp hp with rfl | hp
  · exact Ne.symm hCD
  · exact (off p hp).2
end
end Mine
end
section -- CompT
open PySem PySem.W PySem.Calls PyProof.Rows PySem.Spec
set_option Elab.async false
set_option maxRecDepth 100000
set_option maxHeartbeats 8000000
namespace Mine
section
variable {prog : Program} {w : World} {A : Around} {s : Shared} {h₀ : Heap} {L : Addr} {m : Str → Option Value} {env : Env}
/-- a tested comprehension's turns by an invariant -/
theorem comp_invT {ct elt : Expr} {x : Str} {scope : Scope} {cl : List (Str × Addr)} {S : List (Addr × Obj) → Prop} {P : Nat → Value → Prop} {Fin : List Value → List (Addr × Obj) → Prop} {n : Nat} (Inv : Nat → List Value → List (Addr × Obj) → Prop)
    (step : ∀ i ys news v I oI C oC D m₂ h tk (E' : Value → Shared → Prop), i < n → Inv i ys news → P i v → LCg.NsObj oC m₂ → m₂ x = some v → Fr h₀ L h m → News h₀ L h ((I, oI) :: (C, oC) :: (D, LCg.lst ys) :: news) → LCg.Off3 I C D news → ((@Ne Nat I C) ∧ (@Ne Nat I D) ∧ (@Ne Nat C D)) →
      wpAny (model prog w) A (isTrue ct (compEnvC scope cl C env) (eval ct (compEnvC scope cl C env))) (fun ok s' => if ok = true then
        wpAny (model prog w) A (eval elt (compEnvC scope cl C env)) (LCg.CompEnd h₀ L m { s with heap := h, toks := tk } I oI C oC D (LCg.lst ys) S (fun y news' => Inv (i + 1) (ys ++ [y]) news')) E' s'
        else LCg.CompEnd h₀ L m { s with heap := h, toks := tk } I oI C oC D (LCg.lst ys) S (fun _ news' => Inv (i + 1) ys news') Value.none s') E' { s with heap := h, toks := tk })
    (fin : ∀ ys news, Inv n ys news → Fin ys news) : ∀ (k i : Nat) (ys : List Value) (news : List (Addr × Obj)), i + k = n → Inv i ys news → LCt.CompRestT prog w A h₀ L m env ct elt x scope cl s S P Fin k i ys news := by
  intro k
  induction k with
  | zero =>
    intro i ys news e hI
    have : i = n := by omega
    subst this
    exact LCt.CompRestT.zero (fin _ _ hI)
  | succ k ih =>
    intro i ys news e hI
    refine LCt.CompRestT.succ fun v I oI C oC D m₂ h tk E' hP hC hx F N off ne => ?_
    refine wpAny_mono (step i ys news v I oI C oC D m₂ h tk E' (by omega) hI hP hC hx F N off ne) (fun ok s₂ q => ?_) fun _ _ e => e
    cases ok with
    | true =>
      simp only [if_true] at q ⊢
      exact wpAny_mono q (fun y s₃ q => compEnd_mono q fun news' hI' => ih (i + 1) _ _ (by omega) hI') fun _ _ e => e
    | false =>
      simp only [Bool.false_eq_true, if_false] at q ⊢
      exact compEnd_mono q fun news' hI' => ih (i + 1) _ _ (by omega) hI'
end
def fixU (l : List Int) (i : Nat) : List Int := (rangeKs 0 i).filter fun k => l.getD k.toNat 0 == k
theorem rangeKs_succ (i : Nat) : rangeKs 0 (i + 1) = rangeKs 0 i ++ [(i : Int)] := by
  unfold rangeKs
  rw [List.range_succ, List.map_append]
  simp
theorem fixU_in {l : List Int} {i : Nat} (h : l.getD i 0 = (i : Int)) : fixU l (i + 1) = fixU l i ++ [(i : Int)] := by
  unfold fixU
  rw [rangeKs_succ, List.filter_append]
  congr 1
  have : ((i : Int)).toNat = i := by omega
  rw [List.filter_cons]
  rw [this, h]
  simp
theorem fixU_out {l : List Int} {i : Nat} (h : l.getD i 0 ≠ (i : Int)) : fixU l (i + 1) = fixU l i := by
  unfold fixU
  rw [rangeKs_succ, List.filter_append]
  have : ((i : Int)).toNat = i := by omega
  rw [List.filter_cons, this, if_neg (by simpa using h)]
  simp
theorem fixU_fixed (l : List Int) (n : Nat) : fixU l n = fixed l n := rfl
theorem fixU_len (l : List Int) (i : Nat) : (fixU l i).length ≤ i := by
  unfold fixU
  refine Nat.le_trans (List.length_filter_le _ _) ?_
  rw [rangeKs_length]
  exact Nat.le_refl _
end Mine
end
section -- OwnPure
open PySem PySem.W PySem.Calls PyProof.Rows
set_option Elab.async false
set_option maxRecDepth 100000
namespace Mine
theorem own_len1 : (ownP 1).length = 1 := by decide +kernel
theorem own_len2 : (ownP 2).length = 2 := by decide +kernel
theorem own_len3 : (ownP 3).length = 4 := by decide +kernel
theorem own_len4 : (ownP 4).length = 10 := by decide +kernel
/-- all lists of k ints below n -/
def allL (n : Nat) : Nat → List (List Int)
  | 0 => [[]]
  | k + 1 => (rangeKs 0 n).flatMap fun x => (allL n k).map (x :: ·)
theorem mem_allL (n : Nat) : ∀ (l : List Int), (∀ x ∈ l, 0 ≤ x ∧ x < (n : Int)) → l ∈ allL n l.length
  | [], _ => List.mem_singleton.mpr rfl
  | x :: l, h => by
    have hx := h x (.head _)
    have ih := mem_allL n l fun y hy => h y (.tail _ hy)
    refine List.mem_flatMap.mpr ⟨x, ?_, List.mem_map.mpr ⟨l, ih, rfl⟩⟩
    unfold rangeKs
    exact List.mem_map.mpr ⟨x.toNat, List.mem_range.mpr (by omega), by omega⟩
def ownOk (n : Nat) (W : List Int) : Bool := if thenInts W W = rangeKs 0 n then decide (bis (ownP n) W < (ownP n).length) && decide ((ownP n).getD (bis (ownP n) W) [] = W) else true
theorem own_all1 : ((allL 1 1).all (ownOk 1)) = true := by decide +kernel
theorem own_all2 : ((allL 2 2).all (ownOk 2)) = true := by decide +kernel
theorem own_all3 : ((allL 3 3).all (ownOk 3)) = true := by decide +kernel
theorem own_all4 : ((allL 4 4).all (ownOk 4)) = true := by decide +kernel
theorem own_found {n : Nat} (h1 : 1 ≤ n) (h4 : n ≤ 4) {W : List Int} (hl : W.length = n) (hb : ∀ x ∈ W, 0 ≤ x ∧ x < (n : Int)) (hw : thenInts W W = rangeKs 0 n) :
    bis (ownP n) W < (ownP n).length ∧ (ownP n).getD (bis (ownP n) W) [] = W := by
  have hm := mem_allL n W hb
  rw [hl] at hm
  have ha : (allL n n).all (ownOk n) = true := by
    rcases (show n = 1 ∨ n = 2 ∨ n = 3 ∨ n = 4 by omega) with rfl | rfl | rfl | rfl
    · exact own_all1
    · exact own_all2
    · exact own_all3
    · exact own_all4
  have h := List.all_eq_true.mp ha W hm
  unfold ownOk at h
  rw [if_pos hw, Bool.and_eq_true, decide_eq_true_eq, decide_eq_true_eq] at h
  exact h
end Mine
end
section -- FnTailC
open PySem PySem.W PySem.Calls PyProof.Rows
set_option Elab.async false
set_option maxRecDepth 100000
set_option maxHeartbeats 8000000
namespace Mine
/-- a def's body and scope, by its address -/
def bodyAt (K : Frag) (a : Addr) : List Stmt := match K.lookup a with
  | some ⟨_, _, .func fd, _⟩ => (match fd.body with | .stmts b => b | _ => [])
  | _ => []
def scopeAt (K : Frag) (a : Addr) : Scope := match K.lookup a with
  | some ⟨_, _, .func fd, _⟩ => fd.scope
  | _ => default
theorem at_use {K : Frag} {a : Addr} {oc : Value} {od : Option Addr} {osl : Array (Option Value)} {name qual : Str} {params : Arguments} {body : List Stmt} {scope : Scope} {dV kV doc pm cdv ct : Value} {an : Option Addr}
    {P : List Stmt → Scope → Prop} (ho : K.lookup a = some ⟨oc, od, .func (fnOf name qual params body scope dV kV doc pm an cdv ct), osl⟩) (h : P body scope) : P (bodyAt K a) (scopeAt K a) := by
  have e1 : bodyAt K a = body := by unfold bodyAt; rw [ho]
  have e2 : scopeAt K a = scope := by unfold scopeAt; rw [ho]
  rw [e1, e2]; exact h
local macro_rules | `(tactic| walk_at "call ref") => `(tactic| refine Stop.out ?_)
local macro_rules | `(tactic| walk_at "ListAtG") => `(tactic| refine Stop.out ?_)
local macro_rules | `(tactic| walk_at "TurnEnd") => `(tactic| refine Stop.out ?_)
local macro_rules | `(tactic| walk_at "exec For Name List cons nil") => `(tactic| refine Stop.out ?_)
local macro_rules | `(tactic| walk_at "compareOp NotEq bytes bytes") => `(tactic| refine Stop.out ?_)
theorem tail_C {w : World} {p : Program} {loose : List Str} {mean : ExcName → Option Value} {mg mb : Str → Option Value} {g h : Heap} {s : Shared} {tk : Nat} {L fa : Addr} {cd : Value} {m : Str → Option Value}
    {bW bT : Array UInt8} {tW tT tn : Tok} {W M : List Int} {n : Nat} {oM : Obj} {Q : Flow → Shared → Prop}
    (X : (hd.heap_39 w.params).In g) (T : Top p loose mean mg mb g)
    (F : Fr g L h (fun y => if y = "whole" then some (.bytes bW tW) else if y = "most" then some (.bytes bT tT) else m y))
    (N : News g L h [(L + 1 + 1, oM)]) (dM : oM.data = .cell (some (.int (n : Int) tn))) (hn1 : 1 ≤ n) (hn9 : n ≤ 9)
    (hbW : KBw.bInts bW = W) (hbT : KBw.bInts bT = M) (hwl : W.length = n) (hml : M.length = n)
    (hwb : ∀ x ∈ W, 0 ≤ x ∧ x < (n : Int)) (hmb : ∀ x ∈ M, 0 ≤ x ∧ x < (n : Int)) (hww : thenInts W W = rangeKs 0 n) (hmm : thenInts M M = rangeKs 0 n)
    (hret : ∀ h' tk' m', Fr g L h' m' → Q (.ret (.bool true)) { s with heap := h', toks := tk' }) :
    wpAny (model PySem.Challenge.rw_gi0002_01.row.prog w) (callerA.deeper (envOfC (Str.ofString "law") (scopeAt (hd.heap_39 w.params) 75) L fa cd))
      (execs ((bodyAt (hd.heap_39 w.params) 75).drop 13) (envOfC (Str.ofString "law") (scopeAt (hd.heap_39 w.params) 75) L fa cd)) Q (fun _ _ => False) { s with heap := h, toks := tk } := by
  revert X T
  w_top off
  k_fill
  intro X T
  refine' at_use (K := hd.heap_39 w.params) (a := 75) (P := fun b sc => wpAny (model PySem.Challenge.rw_gi0002_01.row.prog w) (callerA.deeper (envOfC (Str.ofString "law") sc L fa cd))
      (execs (b.drop 13) (envOfC (Str.ofString "law") sc L fa cd)) Q (fun _ _ => False) { s with heap := h, toks := tk }) ?k1 ?_
  case k1 => k_is
  simp only [List.drop_succ_cons, List.drop_zero]
  obtain ⟨sg, gs, dn, stk, os⟩ := s
  dsimp only at hret ⊢
  k_steps
  · have hn4 : n ≤ 4 := by omega
    have hFW := own_found hn1 hn4 hwl hwb hww
    have hFM := own_found hn1 hn4 hml hmb hmm
    refine Stop.go ((C_own n).at X T rfl (by k_asm) (by k_asm) ⟨⟨_, rfl⟩, hn1, hn4⟩ (by decide) (by decide) fun r h1 tk1 F1 N1 x1 hr => ?_)
    obtain ⟨pO, us, kO, rfl, hfr, hpO, hBO⟩ := hr
    dsimp only at hfr
    obtain ⟨N2, hp2⟩ := ledger_add (by k_asm) (by k_asm) N1 hfr hpO
    have hO1 : @Ne Nat (L + 1 + 1) pO := hp2 _ (.head _)
    have hol : (ownP n).length ≤ 64 := by
      rcases (show n = 1 ∨ n = 2 ∨ n = 3 ∨ n = 4 by omega) with rfl | rfl | rfl | rfl
      · rw [own_len1]; omega
      · rw [own_len2]; omega
      · rw [own_len3]; omega
      · rw [own_len4]; omega
    clear N1 hp2
    dsimp only
    k_steps
    refine Stop.go (For_list_G (h₀ := g) rfl ?_)
    k_steps
    (with_reducible rename Fr _ _ _ _ => F3)
    (with_reducible rename News _ _ _ _ => N3)
    rename_i pZ _ lZ
    refine Stop.go ⟨pZ, [.bytes bW tW, .bytes bT tT], 0, fun _ m2 news => news = [(pZ, listOf (List.toArray [.bytes bW tW, .bytes bT tT]) 0), (pO, listOf us.toArray kO), (L + 1 + 1, oM)] ∧ m2 "own" = some (.ref pO), _, _, rfl, F3, N3, ⟨rfl, rfl⟩, ?_, ?_, ?_⟩
    · rintro i m news ⟨rfl, _⟩
      exact .head _
    · rintro i v m2 news I oI h2 tk2 hv ⟨rfl, m1⟩ hnI F4 N4
      have hI1 : @Ne Nat pZ I := hnI _ (.head _)
      have hI2 : @Ne Nat pO I := hnI _ (.tail _ (.head _))
      have hI3 : @Ne Nat (L + 1 + 1) I := hnI _ (.tail _ (.tail _ (.head _)))
      have F5 := told F4 [("own", .ref pO)] (by
        intro p hp
        rw [List.mem_singleton.mp hp]
        exact m1)
      clear F4 F3 N3
      dsimp only [kstB] at F5
      have hone : ∃ bX tX X, v = .bytes bX tX ∧ KBw.bInts bX = X ∧ bis (ownP n) X < (ownP n).length ∧ (ownP n).getD (bis (ownP n) X) [] = X := by
        match i, hv with
        | 0, hv => cases hv; exact ⟨_, _, W, rfl, hbW, hFW⟩
        | 1, hv => cases hv; exact ⟨_, _, M, rfl, hbT, hFM⟩
        | i + 2, hv => simp at hv
      obtain ⟨bX, tX, X', rfl, hbX, hx1, hx2⟩ := hone
      clear hFW hFM hv
      k_steps
      (with_reducible rename News _ _ _ _ => N6)
      refine Stop.go ((C_bis (ownP n, X')).at X T rfl (by k_asm) (by k_asm) ⟨⟨pO, us, kO, bX, tX, .inl rfl, (N6 _ (.tail _ (.tail _ (.head _)))).1, hBO, hbX⟩, hol⟩ (by decide) (by decide) fun r h7 tk7 F7 N7 x7 hr => ?_)
      obtain ⟨t7, rfl⟩ := hr
      dsimp only
      have hul : us.length = (ownP n).length := hBO.length
      generalize bis (ownP n) X' = j at hx1 hx2 ⊢
      have hju : j < us.length := by omega
      k_steps
      (with_reducible rename News _ _ _ _ => N8)
      refine len_list ⟨_, (N8 _ (.tail _ (.tail _ (.head _)))).1, rfl, _, rfl⟩ (by rw [List.size_toArray]; omega) ?_
      have hsz : us.toArray.size = us.length := List.size_toArray
      k_steps
      · exfalso
        have hb1 : ((j : Nat) : Int) = ((us.toArray.size : Nat) : Int) := by assumption
        omega
      · obtain ⟨bq, tq, hvq, hbq⟩ := hBO.get j _ (List.getElem?_eq_getElem hju)
        have hvq' : us[j]? = some (.bytes bq tq) := by rw [List.getElem?_eq_getElem hju, hvq]
        have hq2 : KBw.bInts bq = X' := by rw [← hx2, List.getD_eq_getElem?_getD, hbq]; rfl
        have hnb : (bq.toList != bX.toList) = false := by rw [bne, eq_ints hq2 hbX, decide_eq_true rfl]; rfl
        refine item_listL ⟨_, (N8 _ (.tail _ (.tail _ (.head _)))).1, rfl, _, rfl⟩ (by omega) (by omega) (by simpa using hvq') ?_
        k_steps
        refine Stop.go (ne_bytes ?_)
        rw [hnb]
        k_steps
        (with_reducible rename Fr _ _ _ _ => F9)
        (with_reducible rename News _ _ _ _ => N9)
        refine Stop.go ⟨rfl, UnrEnd.intro F9 N9 [(pZ, listOf (List.toArray [.bytes bW tW, .bytes bT tT]) 0), (pO, listOf us.toArray kO), (L + 1 + 1, oM)] (by intro p hp; exact hp)
          (by intro p hp; simp only [List.mem_cons, List.not_mem_nil, or_false] at hp; rcases hp with rfl | rfl | rfl <;> (show @Ne Nat _ _) <;> assumption) ⟨rfl, rfl⟩⟩
    · rintro m2 news h2 tk2 ⟨rfl, m1⟩ F4 N4
      k_steps
      exact hret _ _ _ (by k_asm)
  · dsimp only
    exact hret _ _ _ F
end Mine
end
section -- FnTailB
open PySem PySem.W PySem.Calls PyProof.Rows
set_option Elab.async false
set_option maxRecDepth 100000
set_option maxHeartbeats 8000000
namespace Mine
local macro_rules | `(tactic| walk_at "MineIdle") => `(tactic| fail)
local macro_rules | `(tactic| walk_at "call ref") => `(tactic| refine Stop.out ?_)
local macro_rules | `(tactic| walk_at "eval ListComp") => `(tactic| refine Stop.out ?_)
local macro_rules | `(tactic| walk_at "CompSrc") => `(tactic| refine Stop.out ?_)
local macro_rules | `(tactic| walk_at "CompSrcT") => `(tactic| refine Stop.out ?_)
local macro_rules | `(tactic| walk_at "execs cons") => `(tactic| ((with_reducible show wpAny _ _ (execs [Stmt.If (Expr.Compare _ [CmpOp.LtE] _ _) _ _ _, _] _) _ _ _); refine Stop.out ?_))
theorem tail_B {w : World} {p : Program} {loose : List Str} {mean : ExcName → Option Value} {mg mb : Str → Option Value} {g h : Heap} {s : Shared} {tk : Nat} {L fa : Addr} {cd : Value} {m : Str → Option Value}
    {bW bT : Array UInt8} {tW tT tn : Tok} {W M : List Int} {n : Nat} {oM oK : Obj} {Q : Flow → Shared → Prop}
    (X : (hd.heap_39 w.params).In g) (T : Top p loose mean mg mb g)
    (F : Fr g L h (fun y => if y = "whole" then some (.bytes bW tW) else if y = "most" then some (.bytes bT tT) else m y))
    (N : News g L h [(L + 1 + 1 + 1, oK), (L + 1 + 1, oM)]) (dK : oK.data = .cell none) (dM : oM.data = .cell (some (.int (n : Int) tn))) (hn1 : 1 ≤ n) (hn9 : n ≤ 9)
    (hbW : KBw.bInts bW = W) (hbT : KBw.bInts bT = M) (hwl : W.length = n) (hml : M.length = n)
    (hwb : ∀ x ∈ W, 0 ≤ x ∧ x < (n : Int)) (hmb : ∀ x ∈ M, 0 ≤ x ∧ x < (n : Int)) (hww : thenInts W W = rangeKs 0 n) (hmm : thenInts M M = rangeKs 0 n)
    (hret : ∀ h' tk' m', Fr g L h' m' → Q (.ret (.bool true)) { s with heap := h', toks := tk' }) :
    wpAny (model PySem.Challenge.rw_gi0002_01.row.prog w) (callerA.deeper (envOfC (Str.ofString "law") (scopeAt (hd.heap_39 w.params) 75) L fa cd))
      (execs ((bodyAt (hd.heap_39 w.params) 75).drop 11) (envOfC (Str.ofString "law") (scopeAt (hd.heap_39 w.params) 75) L fa cd)) Q (fun _ _ => False) { s with heap := h, toks := tk } := by
  revert X T
  w_top off
  k_fill
  intro X T
  refine' at_use (K := hd.heap_39 w.params) (a := 75) (P := fun b sc => wpAny (model PySem.Challenge.rw_gi0002_01.row.prog w) (callerA.deeper (envOfC (Str.ofString "law") sc L fa cd))
      (execs (b.drop 11) (envOfC (Str.ofString "law") sc L fa cd)) Q (fun _ _ => False) { s with heap := h, toks := tk }) ?k1 ?_
  case k1 => k_is
  simp only [List.drop_succ_cons, List.drop_zero]
  obtain ⟨sg, gs, dn, stk, os⟩ := s
  dsimp only at hret ⊢
  k_steps
  refine Stop.go (LCg.ListComp_U F (by with_unfolding_all rfl) (by decide) (by rfl) (by decide) (by rfl) ?_)
  k_steps
  refine Stop.go ?_
  refine LCg.CompSrc.range (n := 4) rfl (by k_asm) (by k_asm) (by assumption) (by decide +kernel) (by decide +kernel) (by rw [sizeLine_eq]; omega) fun gg => ?_
  refine comp_inv (n := 4) (fun i ys news => news = [(L + 1 + 1 + 1, oK), (L + 1 + 1, oM)] ∧ IntsAre ys (([1, 2, 4, 10] : List Int).take i)) ?_ ?_ 4 0 [] _ (Nat.zero_add _) ⟨rfl, .nil⟩
  · intro i ys news v I2 oI2 C2 oC2 D2 m₂ h5 tk5 E5 hi hI hP hC5 hx5 F5 N5 off5 ne5
    obtain ⟨rfl, hys⟩ := hI
    obtain ⟨u5, rfl⟩ := hP
    have e0 : (1 : Int) + (i : Int) = ((i + 1 : Nat) : Int) := by omega
    rw [e0] at hx5
    have off5' := off5
    have hcl : ((ownP (i + 1)).length : Nat) ≤ 64 ∧ ([1, 2, 4, 10] : List Int).take (i + 1) = ([1, 2, 4, 10] : List Int).take i ++ [((ownP (i + 1)).length : Int)] := by
      rcases (show i = 0 ∨ i = 1 ∨ i = 2 ∨ i = 3 by omega) with rfl | rfl | rfl | rfl
      · rw [own_len1]; exact ⟨by omega, rfl⟩
      · rw [own_len2]; exact ⟨by omega, rfl⟩
      · rw [own_len3]; exact ⟨by omega, rfl⟩
      · rw [own_len4]; exact ⟨by omega, rfl⟩
    k_steps
    refine Stop.go ((C_own (i + 1)).at X T rfl (by k_asm) (by k_asm) ⟨⟨_, rfl⟩, by omega, by omega⟩ (by decide) (by decide) fun r h1 tk1 F1 N1 x1 hr => ?_)
    obtain ⟨pO, us, kO, rfl, hfr, hpO, hBO⟩ := hr
    dsimp only
    have hul : us.length = (ownP (i + 1)).length := hBO.length
    have hsz : us.toArray.size = us.length := List.size_toArray
    k_steps
    refine len_list ⟨_, hpO, rfl, _, rfl⟩ (by omega) ?_
    exact ⟨_, _, _, rfl, F1, N1, off5', trivial, rfl, by rw [hcl.2, hsz, hul]; exact ints_snoc hys⟩
  · rintro ys news ⟨rfl, hys⟩
    obtain ⟨t1, t2, t3, t4, rfl⟩ : ∃ t1 t2 t3 t4, ys = [.int 1 t1, .int 2 t2, .int 4 t3, .int 10 t4] := by
      have h : IntsAre ys [1, 2, 4, 10] := hys
      cases h with | cons _ t1 h => cases h with | cons _ t2 h => cases h with | cons _ t3 h => cases h with | cons _ t4 h => cases h with | nil => exact ⟨t1, t2, t3, t4, rfl⟩
    clear hys
    dsimp only
    k_steps
    (with_reducible rename Fr _ _ _ _ => F6)
    (with_reducible rename News _ _ _ _ => N6)
    rename_i D _ _ _ _ oC dC _ pL _ lL
    refine Stop.go (LCt.ListComp_T F6 (by with_unfolding_all rfl) (by decide) (by rfl) (by decide) (by rfl) ?_)
    k_steps
    refine Stop.go ?_
    refine LCt.CompSrcT.range (n := 2) rfl (by k_asm) (by k_asm) (by assumption) (by decide +kernel) (by decide +kernel) (by rw [sizeLine_eq]; omega) fun gg => ?_
    refine comp_invT (n := 2) (fun i zs news => news = _ ∧ zs = []) ?_ ?_ 2 0 [] _ (Nat.zero_add _) ⟨rfl, rfl⟩
    · intro i ys news v I2 oI2 C2 oC2 D2 m₂ h5 tk5 E5 hi hI hP hC5 hx5 F5 N5 off5 ne5
      obtain ⟨rfl, rfl⟩ := hI
      obtain ⟨u5, rfl⟩ := hP
      have off5' := off5
      rcases (show i = 0 ∨ i = 1 by omega) with rfl | rfl
      · have e0 : (2 : Int) + ((0 : Nat) : Int) = 2 := by omega
        rw [e0] at hx5
        k_steps
        exact ⟨_, _, _, rfl, F5, N5, off5', trivial, rfl, rfl⟩
      · have e0 : (2 : Int) + ((1 : Nat) : Int) = 3 := by omega
        rw [e0] at hx5
        k_steps
        exact ⟨_, _, _, rfl, F5, N5, off5', trivial, rfl, rfl⟩
    · rintro ys news ⟨rfl, rfl⟩
      dsimp only
      k_steps
      (with_reducible rename Fr _ _ _ _ => F8)
      (with_reducible rename News _ _ _ _ => N8)
      refine Stop.go (tail_C (s := ⟨sg, gs, dn, stk, os⟩) X T F8 (fun q hq => N8 q ?_) dM hn1 hn9 hbW hbT hwl hml hwb hmb hww hmm hret)
      rw [List.mem_singleton.mp hq]
      simp
end Mine
end
section -- FnTailA
open PySem PySem.W PySem.Calls PyProof.Rows
set_option Elab.async false
set_option maxRecDepth 100000
set_option maxHeartbeats 8000000
namespace Mine
local macro_rules | `(tactic| walk_at "call ref") => `(tactic| refine Stop.out ?_)
local macro_rules | `(tactic| walk_at "eval ListComp") => `(tactic| refine Stop.out ?_)
local macro_rules | `(tactic| walk_at "CompSrc") => `(tactic| refine Stop.out ?_)
local macro_rules | `(tactic| walk_at "CompSrcT") => `(tactic| refine Stop.out ?_)
local macro_rules | `(tactic| walk_at "execs cons") => `(tactic| ((with_reducible show wpAny _ _ (execs [Stmt.Assign _ _ _, Stmt.If _ _ _ _, Stmt.If _ _ _ _, Stmt.Return _ _] _) _ _ _); refine Stop.out ?_))
theorem odd_fmod (q : List Int) : (((q.length : Int).fmod 2) == 1) = oddR q := by
  unfold oddR
  rw [Int.fmod_eq_emod_of_nonneg _ (by decide)]
  rcases Nat.mod_two_eq_zero_or_one q.length with e | e
  · rw [e]; have : (q.length : Int) % 2 = 0 := by omega
    rw [this]; rfl
  · rw [e]; have : (q.length : Int) % 2 = 1 := by omega
    rw [this]; rfl
theorem tail_A {w : World} {p : Program} {loose : List Str} {mean : ExcName → Option Value} {mg mb : Str → Option Value} {g h : Heap} {s : Shared} {tk : Nat} {L fa : Addr} {cd : Value} {m : Str → Option Value}
    {bW bT : Array UInt8} {tW tT tn ta tb : Tok} {W M : List Int} {n nR : Nat} {oM oK : Obj} {D pR : Addr} {vR : List Value} {rs : List (List Int)} {a b : Int} {Q : Flow → Shared → Prop}
    (X : (hd.heap_39 w.params).In g) (T : Top p loose mean mg mb g)
    (F : Fr g L h (fun y => if y = "stay" then some (.ref D) else if y = "whole" then some (.bytes bW tW) else if y = "most" then some (.bytes bT tT) else if y = "rings" then some (.ref pR) else m y))
    (N : News g L h [(D, LCg.lst [.int a ta, .int b tb]), (pR, listOf (List.toArray vR) nR), (L + 1 + 1 + 1, oK), (L + 1 + 1, oM)])
    (hB : BsAre vR rs) (hrs : ∀ r ∈ rs, r.length ≤ 9) (hrl : rs.length ≤ 9) (ha : a = ((rs.filter oddR).length : Int)) (hb : b = (rs.map fun r => if oddR r then (1 : Int) else 2).sum)
    (dK : oK.data = .cell none) (dM : oM.data = .cell (some (.int (n : Int) tn))) (hn1 : 1 ≤ n) (hn9 : n ≤ 9)
    (hbW : KBw.bInts bW = W) (hbT : KBw.bInts bT = M) (hwl : W.length = n) (hml : M.length = n)
    (hwb : ∀ x ∈ W, 0 ≤ x ∧ x < (n : Int)) (hmb : ∀ x ∈ M, 0 ≤ x ∧ x < (n : Int)) (hww : thenInts W W = rangeKs 0 n) (hmm : thenInts M M = rangeKs 0 n)
    (hret : ∀ h' tk' m', Fr g L h' m' → Q (.ret (.bool true)) { s with heap := h', toks := tk' }) :
    wpAny (model PySem.Challenge.rw_gi0002_01.row.prog w) (callerA.deeper (envOfC (Str.ofString "law") (scopeAt (hd.heap_39 w.params) 75) L fa cd))
      (execs ((bodyAt (hd.heap_39 w.params) 75).drop 9) (envOfC (Str.ofString "law") (scopeAt (hd.heap_39 w.params) 75) L fa cd)) Q (fun _ _ => False) { s with heap := h, toks := tk } := by
  revert X T
  w_top off
  k_fill
  intro X T
  refine' at_use (K := hd.heap_39 w.params) (a := 75) (P := fun b sc => wpAny (model PySem.Challenge.rw_gi0002_01.row.prog w) (callerA.deeper (envOfC (Str.ofString "law") sc L fa cd))
      (execs (b.drop 9) (envOfC (Str.ofString "law") sc L fa cd)) Q (fun _ _ => False) { s with heap := h, toks := tk }) ?k1 ?_
  case k1 => k_is
  simp only [List.drop_succ_cons, List.drop_zero]
  obtain ⟨sg, gs, dn, stk, os⟩ := s
  dsimp only at hret ⊢
  have hvR : vR.length = rs.length := hB.length
  have hvz : vR.toArray.size = vR.length := List.size_toArray
  k_steps
  refine Stop.go (LCt.ListComp_T F (by with_unfolding_all rfl) (by decide) (by rfl) (by decide) (by rfl) ?_)
  walk1
  refine LCt.CompSrcT.ledger rfl F N (.tail _ (.head _)) (by rw [sizeLine_eq, List.size_toArray]; omega) fun gg => ?_
  refine comp_invT (n := vR.toArray.size) (fun j zs news => news = [(D, LCg.lst [.int a ta, .int b tb]), (pR, listOf (List.toArray vR) nR), (L + 1 + 1 + 1, oK), (L + 1 + 1, oM)] ∧ zs.length = ((rs.take j).filter oddR).length) ?_ ?_ vR.toArray.size 0 [] _ (Nat.zero_add _) ⟨rfl, rfl⟩
  · intro j zs news v I2 oI2 C2 oC2 D2 m₂ h5 tk5 E5 hj hI hP hC5 hx5 F5 N5 off5 ne5
    obtain ⟨rfl, hzs⟩ := hI
    have hP' : vR[j]? = some v := by simpa using hP
    obtain ⟨bq, tq, rfl, hrq⟩ := hB.get j v hP'
    obtain ⟨q, hq⟩ : ∃ q, KBw.bInts bq = q := ⟨_, rfl⟩
    rw [hq] at hrq
    have off5' := off5
    have hql := hrs _ (List.mem_of_getElem? hrq)
    walk1
    walk1
    walk1
    walk1
    walk1
    walk1
    walk1
    walk1
    walk1
    walk1
    walk1
    walk1
    walk1
    rw [odd_fmod q]
    have htk : (rs.take (j + 1)).filter oddR = (rs.take j).filter oddR ++ (if oddR q then [q] else []) := by
      rw [List.take_add_one, hrq, List.filter_append]
      cases hb : oddR q <;> simp [hb]
    cases hb : oddR q
    · refine wpAny_truthy_bool ?_
      rw [if_neg (by decide)]
      exact ⟨_, _, _, rfl, F5, N5, off5', .inr ⟨_, .tail _ (.head _), rfl, _, rfl⟩, rfl, by rw [htk, hb, hzs]; simp⟩
    · refine wpAny_truthy_bool ?_
      rw [if_pos rfl]
      walk1
      exact ⟨_, _, _, rfl, F5, N5, off5', .inr ⟨_, .tail _ (.head _), rfl, _, rfl⟩, rfl, by rw [htk, hb]; simp [hzs]⟩
  · rintro zs news ⟨rfl, hzs⟩
    rw [List.take_of_length_le (by omega)] at hzs
    dsimp only
    k_steps
    (with_reducible rename News _ _ _ _ => N6)
    have hzz : zs.toArray.size = zs.length := List.size_toArray
    have hfl : (rs.filter oddR).length ≤ rs.length := List.length_filter_le _ _
    refine len_list ⟨_, (N6 _ (.head _)).1, rfl, _, rfl⟩ (by omega) ?_
    have ea : ([a, b] : List Int).getD (Int.toNat 0) 0 = a := rfl
    rw [ea]
    have hza : (zs.toArray.size : Int) = a := by omega
    rw [hza]
    k_steps
    · exact absurd rfl ‹a ≠ a›
    (with_reducible rename Fr _ _ _ _ => F6)
    have N7 : News g L _ [(D, LCg.lst [.int a ta, .int b tb]), (pR, listOf (List.toArray vR) nR), (L + 1 + 1 + 1, oK), (L + 1 + 1, oM)] := fun q hq => N6 q (.tail _ hq)
    clear N6
    refine Stop.go (LCg.ListComp_U F6 (by with_unfolding_all rfl) (by decide) (by rfl) (by decide) (by rfl) ?_)
    k_steps
    refine Stop.go ?_
    refine LCg.CompSrc.ledger rfl (by k_asm) N7 (.tail _ (.head _)) (by rw [sizeLine_eq, List.size_toArray]; omega) fun gg => ?_
    refine comp_inv (n := vR.toArray.size) (fun j zs news => news = [(D, LCg.lst [.int a ta, .int b tb]), (pR, listOf (List.toArray vR) nR), (L + 1 + 1 + 1, oK), (L + 1 + 1, oM)] ∧ IntsAre zs ((rs.take j).map fun r => if oddR r then (1 : Int) else 2)) ?_ ?_ vR.toArray.size 0 [] _ (Nat.zero_add _) ⟨rfl, .nil⟩
    · intro j zs news v I2 oI2 C2 oC2 D2 m₂ h5 tk5 E5 hj hI hP hC5 hx5 F5 N5 off5 ne5
      obtain ⟨rfl, hzs⟩ := hI
      have hP' : vR[j]? = some v := by simpa using hP
      obtain ⟨bq, tq, rfl, hrq⟩ := hB.get j v hP'
      obtain ⟨q, hq⟩ : ∃ q, KBw.bInts bq = q := ⟨_, rfl⟩
      rw [hq] at hrq
      have off5' := off5
      have hql := hrs _ (List.mem_of_getElem? hrq)
      k_steps
      · have ho : oddR q = true := by rw [← odd_fmod, beq_iff_eq]; assumption
        refine ⟨_, _, _, rfl, F5, N5, off5', .inr ⟨_, .tail _ (.head _), rfl, _, rfl⟩, rfl, ?_⟩
        rw [List.take_add_one, hrq, List.map_append]
        show IntsAre _ (_ ++ [if oddR q = true then (1 : Int) else 2])
        rw [if_pos ho]
        exact ints_snoc hzs
      · have ho : ¬ oddR q = true := by rw [← odd_fmod, beq_iff_eq]; assumption
        refine ⟨_, _, _, rfl, F5, N5, off5', .inr ⟨_, .tail _ (.head _), rfl, _, rfl⟩, rfl, ?_⟩
        rw [List.take_add_one, hrq, List.map_append]
        show IntsAre _ (_ ++ [if oddR q = true then (1 : Int) else 2])
        rw [if_neg ho]
        exact ints_snoc hzs
    · rintro zs news ⟨rfl, hzs⟩
      rw [List.take_of_length_le (by omega)] at hzs
      have eb : ([a, b] : List Int).getD (Int.toNat 1) 0 = b := rfl
      rw [eb]
      generalize hR : (rs.map fun r => if oddR r then (1 : Int) else 2) = rs1 at hzs hb
      dsimp only
      k_steps
      · exact absurd hb ‹b ≠ rs1.sum›
      (with_reducible rename Fr _ _ _ _ => F8)
      (with_reducible rename News _ _ _ _ => N8)
      have F9 := told F8 [("whole", .bytes bW tW), ("most", .bytes bT tT)] (by
        intro p hp
        simp only [List.mem_cons, List.not_mem_nil, or_false] at hp
        rcases hp with rfl | rfl
        · rfl
        · rfl)
      dsimp only [kstB] at F9
      refine Stop.go (tail_B (s := ⟨sg, gs, dn, stk, os⟩) X T F9 (fun q hq => N8 q ?_) dK dM hn1 hn9 hbW hbT hwl hml hwb hmb hww hmm hret)
      simp only [List.mem_cons, List.not_mem_nil, or_false] at hq ⊢
      rcases hq with rfl | rfl <;> simp
end Mine
end
section -- FnLaw
open PySem PySem.W PySem.Calls PyProof.Rows
set_option Elab.async false
set_option maxRecDepth 100000
set_option maxHeartbeats 8000000
namespace Mine
local macro_rules | `(tactic| walk_at "call type:bytes") => `(tactic| refine Stop.out ?_)
local macro_rules | `(tactic| walk_at "call ref") => `(tactic| refine Stop.out ?_)
local macro_rules | `(tactic| walk_at "ListAtG") => `(tactic| refine Stop.out ?_)
local macro_rules | `(tactic| walk_at "TurnEnd") => `(tactic| refine Stop.out ?_)
local macro_rules | `(tactic| walk_at "eval ListComp") => `(tactic| refine Stop.out ?_)
local macro_rules | `(tactic| walk_at "exec For Name Subscript cons nil") => `(tactic| refine Stop.out ?_)
local macro_rules | `(tactic| walk_at "exec For Name List cons nil") => `(tactic| refine Stop.out ?_)
local macro_rules | `(tactic| walk_at "call builtin:list.pop") => `(tactic| refine Stop.out ?_)
local macro_rules | `(tactic| walk_at "CompSrc") => `(tactic| refine Stop.out ?_)
local macro_rules | `(tactic| walk_at "CompSrcT") => `(tactic| refine Stop.out ?_)
local macro_rules | `(tactic| walk_at "getMethod bytes") => `(tactic| refine Stop.out ?_)
local macro_rules | `(tactic| walk_at "call builtin:bytes.index") => `(tactic| refine Stop.out ?_)
section
variable {prog : Program} {w : World} {A : Around} {E : Value → Shared → Prop} {s : Shared} {env : Env}
theorem Assign_TupleS_C {elts : List Expr} {k : Nat} {tpos pos : Pos} {value : Expr} {names : List Str} {Q : Flow → Shared → Prop}
    (h : wpC (model prog w) A (eval value env) (fun v s₁ => wpAny (model prog w) A (unpackItems v names.length none) (fun items s₂ =>
      wpAny (model prog w) A (assignInOrder (names.reverse.map fun n => bindName env n) items.reverse) (fun _ => Q .next) E s₂) E s₁) E s)
    (hs : swapsWithSole [.Tuple elts k tpos] value pos.line env = pure false := by rfl)
    (hw : swappedStores [.Tuple elts k tpos] value env = pure (some names) := by rfl) :
    wpC (model prog w) A (exec (.Assign [.Tuple elts k tpos] value pos) env) Q E s := by
  rw [exec_Assign]
  refine wpC_step (wpC_standAt ?_)
  rw [hs]
  refine wpC_step (wpC_pure ?_)
  rw [if_neg (by decide)]
  refine wpC_step (wpC_mono h (fun v s₁ h₁ => ?_) fun _ _ x => x)
  rw [hw]
  refine wpC_step (wpC_pure (wpC_of ?_))
  show wpAny _ A (do rule "assign.swapped-stores"; let items ← unpackItems v names.length none; assignInOrder (names.reverse.map fun n => bindName env n) items.reverse; pure .next) Q E s₁
  exact wpAny_bind (wpAny_rule (wpAny_bind (wpAny_mono h₁ (fun items s₂ h₂ => wpAny_bind (wpAny_mono h₂ (fun _ _ x => wpAny_pure x) fun _ _ x => x)) fun _ _ x => x)))
end
local macro_rules | `(tactic| walk_at "compareOp NotEq bytes bytes") => `(tactic| refine Stop.out ?_)
local macro_rules | `(tactic| walk_at "CellAt") => `(tactic| refine Stop.out ?_)
local macro_rules | `(tactic| walk_at "CellEnd") => `(tactic| refine Stop.out ?_)
theorem t : PySem.Challenge.rw_gi0002_01.Holds := hd (by
  w_top off
  k_fill
  intro w s₀ s₁ mg mb G Y fa o pm cd doc dV kV ho hdat hcd hD hmg hg args vals as hpre hlay hrd hwl hlo
  have KX := kIn_of Y
  have X := (Ground.X G).1
  have V := (Ground.X G).2
  refine Ground.open G ?_
  intro T B D TE TW
  clear D
  clear hmg
  wrow_args hpre hlay hrd hwl hlo
  rename_i script _ _ _ _ _ _ _ lS vS _ hLS _ _ _ hIS _ hcond _
  have hlen : script.length ≤ 63 := by omega
  refine codeC_mono ?_ (fun _ _ g => GoodW.toG g)
  have hdV : dV = .none := by
    rcases hD.pos with ⟨_, h⟩ | ⟨h, _⟩
    · exact h
    · exact absurd rfl h
  subst hdV
  dsimp only [Calls.docDef] at hdat hcd
  refine callC_cells (below_caller (Top.heap T)) rfl T.nolimit ho hdat hcd (by decide) (BindsTo.of_eq rfl) ?_ (by decide +kernel) (fun L h tk cells hL F N Y => ?_) rfl rfl rfl
  · intro n x hx
    have hx' : x ∈ [(("script" : Str), Value.ref lS)] := hx
    rw [List.mem_singleton.mp hx']
    exact .inl rfl
  k_cells Y
  (try dsimp only)
  rename_i o₁ o₂ o₃ d₁ d₂ d₃
  have d1 : o₁.data = .cell none := d₁
  have d2 : o₂.data = .cell none := d₂
  have d3 : o₃.data = .cell none := d₃
  clear d₁ d₂ d₃
  refine execs_C (wpC_of ?_)
  k_steps
  have hI := ‹IntsAre _ (rangeKs 0 _)›
  generalize hX : (( _ : Int) - 0).toNat = n at hI
  have hn19 : 1 ≤ n ∧ n ≤ 9 := by
    subst hX
    repeat' split
    all_goals omega
  have hnl : n ≤ script.length + 1 := by
    subst hX
    repeat' split
    all_goals omega
  obtain ⟨hn1, hn9⟩ := hn19
  rename_i pL vL₀ nL₀ _ _ _ _ pD _ _ _ _ _ _ _ _ _ _
  refine execs_C (wpC_of (For_list_G (h₀ := s₁.heap) rfl ?_))
  k_steps
  rename_i pZ vZ _ _ _ hZ _ _ lZ
  (with_reducible rename Fr _ _ _ _ => F2)
  (with_reducible rename News _ _ _ _ => N2)
  have hlr : (rangeKs 0 n).length = n := rangeKs_length 0 n
  have hZl : vZ.length = n := by
    rw [hZ.length, List.length_take, List.length_append, List.length_singleton, hlr]
    omega
  refine Stop.go ⟨pZ, vZ, 0, fun i m news => ∃ vL nL vD nD ls ds, news = [(pZ, listOf vZ.toArray 0), (pD, listOf (List.toArray vD) nD), (pL, listOf (List.toArray vL) nL), (L + 1 + 1 + 1, o₁), (L + 1 + 1, o₂), (L + 1, o₃)] ∧ IntsAre vL ls ∧ IntsAre vD ds ∧ ls.length = n - i ∧ ds.length = i ∧
    (ds ++ ls).Nodup ∧ (∀ x ∈ ds ++ ls, 0 ≤ x ∧ x < (n : Int)) ∧ m "left" = some (.ref pL) ∧ m "drawn" = some (.ref pD), _, [(pZ, listOf vZ.toArray 0), (pD, listOf ([] : List Value).toArray 0), (pL, listOf vL₀.toArray nL₀), (L + 1 + 1 + 1, o₁), (L + 1 + 1, o₂), (L + 1, o₃)], rfl, F2, ?_, ⟨vL₀, nL₀, [], 0, rangeKs 0 n, [], rfl, hI, .nil, by rw [hlr]; rfl, rfl, ?_, ?_, rfl, rfl⟩, ?_, ?_, ?_⟩
  · intro q hq
    refine N2 q ?_
    simp only [List.mem_cons, List.not_mem_nil, or_false] at hq ⊢
    rcases hq with rfl | rfl | rfl | rfl | rfl | rfl <;> simp
  · exact rangeKs_nodup n
  · intro x hx
    have := mem_rangeKs (List.nil_append (rangeKs 0 n) ▸ hx)
    omega
  · rintro i m news ⟨vL, nL, vD, nD, ls, ds, rfl, _⟩
    exact .head _
  · rintro i v m news I oI h2 tk2 hv ⟨vL, nL, vD, nD, ls, ds, rfl, hvL, hvD, hls, hds, hnd, hbd, m1, m2⟩ hnI F3 N3
    obtain ⟨k, tv, rfl, hk⟩ := IntsAre.at hZ i v hv
    have hin : i < n := by rw [← hZl]; exact (List.getElem?_eq_some_iff.mp hv).1
    have hI2 : @Ne Nat pD I := hnI _ (.tail _ (.head _))
    have hI3 : @Ne Nat pL I := hnI _ (.tail _ (.tail _ (.head _)))
    have F4 := told F3 [("left", .ref pL), ("drawn", .ref pD)] (by
      intro p hp
      simp only [List.mem_cons, List.not_mem_nil, or_false] at hp
      rcases hp with rfl | rfl
      · exact m1
      · exact m2)
    clear F3
    dsimp only [kstB] at F4
    have hlsp : 0 < ls.length := by omega
    have hj0 : 0 ≤ k.fmod (ls.length : Int) := Int.fmod_nonneg_of_pos _ (by omega)
    have hj1 : k.fmod (ls.length : Int) < (ls.length : Int) := Int.fmod_lt_of_pos _ (by omega)
    k_steps
    have hlv : vL.length = ls.length := hvL.length
    obtain ⟨j, hj⟩ : ∃ j : Nat, k.fmod (ls.length : Int) = (j : Int) := ⟨(k.fmod (ls.length : Int)).toNat, by omega⟩
    rw [hj] at hj1
    have hjl : j < vL.length := by omega
    obtain ⟨x, tx, hvx, hlx⟩ := IntsAre.at hvL j _ (List.getElem?_eq_getElem hjl)
    have hvx' : vL[j]? = some (.int x tx) := by rw [List.getElem?_eq_getElem hjl, hvx]
    have hlD : vD.toArray.size ≤ sizeLine := by rw [List.size_toArray, hvD.length, sizeLine_eq]; omega
    refine Stop.go ?_
    rw [hj]
    refine kl_popAt (its := vL.toArray) (k := j) (by k_asm) (by k_asm) (by simp only [Builtin.List.listFitsIndex, Bool.and_eq_true, decide_eq_true_eq]; omega) (by rw [List.size_toArray]; exact seq_at hjl) (cut_at vL j _ hvx') (by k_upd) (by rw [sizeLine_eq]; show vL.length ≤ _; omega) fun h5 F5 N5 => ?_
    k_steps
    (with_reducible rename Fr _ _ _ _ => F6)
    (with_reducible rename News _ _ _ _ => N6)
    rw [List.push_toArray] at N6
    have hpm := draw_perm ds ls j x hlx
    have hq1 : (ls.take j ++ ls.drop (j + 1)).length = n - (i + 1) := by
      clear hI2 hI3
      rw [List.length_append, List.length_take, List.length_drop]; omega
    have hq2 : (ds ++ [x]).length = i + 1 := by rw [List.length_append, List.length_singleton, hds]
    have hI1 : @Ne Nat pZ I := hnI _ (.head _)
    have hI4 : @Ne Nat (L + 1 + 1 + 1) I := hnI _ (.tail _ (.tail _ (.tail _ (.head _))))
    have hI5 : @Ne Nat (L + 1 + 1) I := hnI _ (.tail _ (.tail _ (.tail _ (.tail _ (.head _)))))
    have hI6 : @Ne Nat (L + 1) I := hnI _ (.tail _ (.tail _ (.tail _ (.tail _ (.tail _ (.head _))))))
    refine Stop.go ⟨rfl, UnrEnd.intro F6 N6 [(pZ, listOf vZ.toArray 0), (pD, listOf (vD ++ [Value.int x tx]).toArray (nD + 1)), (pL, listOf (vL.take j ++ vL.drop (j + 1)).toArray (nL + 1)), (L + 1 + 1 + 1, o₁), (L + 1 + 1, o₂), (L + 1, o₃)] (by intro p hp; exact hp)
      (by intro p hp; simp only [List.mem_cons, List.not_mem_nil, or_false] at hp; rcases hp with rfl | rfl | rfl | rfl | rfl | rfl <;> (show @Ne Nat _ _) <;> assumption)
      ⟨_, _, _, _, ls.take j ++ ls.drop (j + 1), ds ++ [x], rfl, (ints_take hvL j).append (ints_drop hvL (j + 1)), ints_snoc hvD, hq1, hq2, hpm.nodup_iff.mpr hnd, fun y hy => hbd y (hpm.mem_iff.mp hy), rfl, rfl⟩⟩
  · clear F2 N2
    rintro m news h2 tk2 ⟨vL, nL, vD, nD, ls, ds, rfl, hvL, hvD, hls, hds, hnd, hbd, m1, m2⟩ F3 N3
    rw [hZl] at hls hds
    obtain rfl : ls = [] := List.eq_nil_of_length_eq_zero (by omega)
    rw [List.append_nil] at hnd hbd
    have F4 := told F3 [("drawn", .ref pD)] (by
      intro p hp
      rw [List.mem_singleton.mp hp]
      exact m2)
    clear F3
    dsimp only [kstB] at F4
    have N4 : News s₁.heap L h2 [(pD, listOf (List.toArray vD) nD), (L + 1 + 1 + 1, o₁), (L + 1 + 1, o₂), (L + 1, o₃)] := fun q hq => by
      refine N3 q ?_
      simp only [List.mem_cons, List.not_mem_nil, or_false] at hq ⊢
      rcases hq with rfl | rfl | rfl | rfl <;> simp
    clear N3
    have hord : IsOrd ds := ⟨hnd, fun x hx => by rw [hds]; exact hbd x hx⟩
    have hIn : KBa.In ds := fun x hx => by have := hbd x hx; omega
    clear hZ hI
    refine execs_C (wpC_of ?_)
    k_steps
    refine Stop.go (KBa.make_K (by k_asm) (by k_asm) rfl ⟨_, (N4 _ (.head _)).1, rfl, _, rfl⟩ hvD hIn (by omega) fun h5 t5 k5 F5 N5 _ => ?_)
    have hbo : KBw.bInts (byteArr ds) = ds := KBa.ints_make hIn
    generalize byteArr ds = bO at hbo ⊢
    have hlD : vD.length = n := by rw [hvD.length, hds]
    subst hds
    k_steps
    rename_i oO dO _ oM _ _ dM
    (with_reducible rename Fr _ _ _ _ => F6)
    (with_reducible rename News _ _ _ _ => N6)
    have N7 : News s₁.heap L _ [(L + 1 + 1 + 1, o₁), (L + 1 + 1, oM), (L + 1, oO)] := fun q hq => N6 q (.tail _ (.tail _ hq))
    clear N6 d2 d3
    refine execs_C (wpC_of ?_)
    k_steps
    refine Stop.go ((C_rings ds).at KX T rfl (by k_asm) (by k_asm) ⟨⟨_, _, rfl, hbo⟩, hn9, hord⟩ (by decide) (by decide) fun r h7 tk7 F7 N8 x7 hr => ?_)
    obtain ⟨pR, vR, nR, rs, sn, rfl, hfr, hpR, hB, hRI⟩ := hr
    dsimp only at hfr
    obtain ⟨N9, -⟩ := ledger_add (by k_asm) (by k_asm) N8 hfr hpR
    clear N8
    dsimp only
    k_steps
    refine Stop.go (bytes_range_K (n := ds.length) (by k_asm) (by k_asm) (by assumption) rfl (by omega) fun h8 t8 k8 F8 N8 hbp => ?_)
    generalize byteArr (rangeKs 0 ds.length) = bP at hbp ⊢
    dsimp only
    k_steps
    (with_reducible rename Fr _ _ _ _ => F9)
    (with_reducible rename News _ _ _ _ => N9)
    have N10 : News s₁.heap L _ [(pR, listOf (List.toArray vR) nR), (L + 1 + 1 + 1, o₁), (L + 1 + 1, oM), (L + 1, oO)] := fun q hq => N9 q (.tail _ hq)
    clear N9
    have hrs : ∀ r ∈ rs, r ≠ [] ∧ r.length ≤ 9 ∧ ∀ x ∈ r, 0 ≤ x ∧ x < (ds.length : Int) := fun r hr => by
      obtain ⟨a1, a2, a3⟩ := hRI.ring hr
      exact ⟨a1, by omega, a3⟩
    refine execs_C (Assign_TupleS_C (Tuple_C ?_))
    refine spliced_C (Call_C (f := .ref 58) (P := (hd.heap_39 w.params).In) (keeps_K rfl) ?_)
    k_steps
    refine (C_turn ⟨rs, ds.length, true⟩).at KX T rfl (by k_asm) (by k_asm) ⟨⟨pR, vR, nR, _, rfl, (N10 _ (.head _)).1, hB⟩, hn9, hrs⟩ (by decide) (by decide) fun r h11 tk11 F11 N11 x11 hr => ?_
    obtain ⟨bW, tW, rfl, hbW⟩ := hr
    dsimp only at hbW
    clear N10 F9
    dsimp only
    refine spliced_C (Call_C (f := .ref 58) (P := (hd.heap_39 w.params).In) (keeps_K rfl) ?_)
    k_steps
    refine (C_turn ⟨rs, ds.length, false⟩).at KX T rfl (by k_asm) (by k_asm) ⟨⟨pR, vR, nR, _, rfl, (N11 _ (.head _)).1, hB⟩, hn9, hrs⟩ (by decide) (by decide) fun r h12 tk12 F12 N12 x12 hr => ?_
    obtain ⟨bT, tT, rfl, hbT⟩ := hr
    dsimp only at hbT
    clear N11 F11
    dsimp only
    refine wpC_of ?_
    k_steps
    refine wpC_of ?_
    k_steps
    clear hrs
    (with_reducible rename Fr _ _ _ _ => F13)
    (with_reducible rename News _ _ _ _ => N13)
    have N14 : News s₁.heap L _ [(pR, listOf (List.toArray vR) nR), (L + 1 + 1 + 1, o₁), (L + 1 + 1, oM), (L + 1, oO)] := fun q hq => N13 q (.tail _ hq)
    clear N13
    refine Stop.go (LCg.ListComp_U F13 (by with_unfolding_all rfl) (by decide) (by rfl) (by decide) (by rfl) ?_)
    k_steps
    refine Stop.go ?_
    refine LCg.CompSrc.range rfl (by k_asm) (by k_asm) (by assumption) (small_upto (n := ds.length) (by omega)) (rangeSize_upto ds.length) (by rw [sizeLine_eq]; omega) fun gg => ?_
    refine comp_inv (n := ds.length) (fun i ys news => news = [(pR, listOf (List.toArray vR) nR), (L + 1 + 1 + 1, o₁), (L + 1 + 1, oM), (L + 1, oO)] ∧ BackInv ds i ys) ?_ ?_ ds.length 0 [] _ (Nat.zero_add _) ⟨rfl, BackInv.start⟩
    · intro i ys news v I2 oI2 C2 oC2 D2 m₂ h5 tk5 E5 hi hI hP hC5 hx5 F5 N5 off5 ne5
      obtain ⟨rfl, hbk⟩ := hI
      obtain ⟨u5, rfl⟩ := hP
      have e0 : (0 : Int) + (i : Int) = (i : Int) := by omega
      rw [e0] at hx5
      k_steps
      refine Stop.go (bx_method ?_)
      k_steps
      refine Stop.go (bx_call hbo (order_all hord i hi) (by omega) fun j tj kj hj hjk => ?_)
      k_steps
      exact ⟨_, _, _, rfl, by k_asm, by k_asm, off5, trivial, rfl, hbk.snoc hj hjk⟩
    · rintro ys news ⟨rfl, bs, hys, hbl, hbb, hbq⟩
      have hTL := turn_law' hord hn9 hRI hbl hbb hbq
      have hInB : KBa.In bs := fun x hx => by have := hbb x hx; omega
      have hyl : ys.length = ds.length := by rw [hys.length, hbl]
      dsimp only
      k_steps
      (with_reducible rename News _ _ _ _ => N15)
      refine Stop.go (KBa.make_K (by k_asm) (by k_asm) rfl ⟨_, (N15 _ (.head _)).1, rfl, _, rfl⟩ hys hInB (by omega) fun h16 t16 k16 F16 N16 _ => ?_)
      have hbB : KBw.bInts (byteArr bs) = bs := KBa.ints_make hInB
      generalize byteArr bs = bB at hbB ⊢
      generalize putRings true rs (rangeKs 0 ds.length) = W at hbW hTL
      generalize putRings false rs (rangeKs 0 ds.length) = M at hbT hTL
      obtain ⟨hwl, hml, hwb, hmb, hww, hmm, hwm, hmw, hwf, hmf⟩ := hTL
      have N17 : News s₁.heap L _ [(pR, listOf (List.toArray vR) nR), (L + 1 + 1 + 1, o₁), (L + 1 + 1, oM), (L + 1, oO)] := fun q hq => N16 q (.tail _ hq)
      clear N16 N15
      k_steps
      (with_reducible rename News _ _ _ _ => N18)
      refine Stop.go ((C_then (W, W)).at KX T rfl (by k_asm) (by k_asm) ⟨⟨_, _, _, _, rfl, hbW, hbW⟩, by show W.length ≤ 9; omega, by show W.length ≤ 9; omega, fun x hx => by show x < (W.length : Int); rw [hwl]; exact (hwb x hx).2⟩ (by decide) (by decide) fun r h21 tk21 F21 N21 x21 hr => ?_)
      obtain ⟨b21, t21, rfl, hb21⟩ := hr
      have e21 : (b21.toList != bP.toList) = false := by rw [bne, eq_ints hb21 hbp, decide_eq_true (by exact hww)]; rfl
      dsimp only
      k_steps
      refine Stop.go (ne_bytes ?_)
      rw [e21]
      k_steps
      refine Stop.go ((C_then (M, M)).at KX T rfl (by k_asm) (by k_asm) ⟨⟨_, _, _, _, rfl, hbT, hbT⟩, by show M.length ≤ 9; omega, by show M.length ≤ 9; omega, fun x hx => by show x < (M.length : Int); rw [hml]; exact (hmb x hx).2⟩ (by decide) (by decide) fun r h22 tk22 F22 N22 x22 hr => ?_)
      obtain ⟨b22, t22, rfl, hb22⟩ := hr
      have e22 : (b22.toList != bP.toList) = false := by rw [bne, eq_ints hb22 hbp, decide_eq_true (by exact hmm)]; rfl
      dsimp only
      k_steps
      refine Stop.go (ne_bytes ?_)
      rw [e22]
      k_steps
      refine Stop.go ((C_then (W, M)).at KX T rfl (by k_asm) (by k_asm) ⟨⟨_, _, _, _, rfl, hbW, hbT⟩, by show W.length ≤ 9; omega, by show M.length ≤ 9; omega, fun x hx => by show x < (M.length : Int); rw [hml]; exact (hwb x hx).2⟩ (by decide) (by decide) fun r h23 tk23 F23 N23 x23 hr => ?_)
      obtain ⟨b23, t23, rfl, hb23⟩ := hr
      have e23 : (b23.toList != bO.toList) = false := by rw [bne, eq_ints hb23 hbo, decide_eq_true (by exact hwm)]; rfl
      dsimp only
      k_steps
      refine Stop.go (ne_bytes ?_)
      rw [e23]
      k_steps
      refine Stop.go ((C_then (M, W)).at KX T rfl (by k_asm) (by k_asm) ⟨⟨_, _, _, _, rfl, hbT, hbW⟩, by show M.length ≤ 9; omega, by show W.length ≤ 9; omega, fun x hx => by show x < (W.length : Int); rw [hwl]; exact (hmb x hx).2⟩ (by decide) (by decide) fun r h24 tk24 F24 N24 x24 hr => ?_)
      obtain ⟨b24, t24, rfl, hb24⟩ := hr
      have e24 : (b24.toList != bB.toList) = false := by rw [bne, eq_ints hb24 hbB, decide_eq_true (by exact hmw)]; rfl
      dsimp only
      k_steps
      refine Stop.go (ne_bytes ?_)
      rw [e24]
      k_steps
      refine Assign_ListComp_cell F24 rfl (by rfl) (by with_unfolding_all rfl) (fun _ => rfl) (fun _ => rfl) rfl (by decide) (fun _ _ => rfl) rfl rfl ?_
      k_steps
      (with_reducible rename Fr _ _ _ _ => F25)
      (with_reducible rename News _ _ _ _ => N25)
      rename_i pW _ lW
      refine Stop.go ⟨pW, [.bytes bW tW, .bytes bT tT], 0, fun i ys news => news = [(pW, listOf (List.toArray [.bytes bW tW, .bytes bT tT]) 0), (pR, listOf (List.toArray vR) nR), (L + 1 + 1 + 1, o₁), (L + 1 + 1, oM), (L + 1, oO)] ∧ IntsAre ys (([((fixed W ds.length).length : Int), ((fixed M ds.length).length : Int)] : List Int).take i), _, rfl, rfl, Nat.le_of_ble_eq_true rfl, F25, N25, ⟨rfl, .nil⟩, ?_, ?_, ?_⟩
      · rintro i ys news ⟨rfl, _⟩
        exact .head _
      · rintro i v ys news I oI C oC c oc D h30 tk30 hv ⟨rfl, hys⟩ hoc F30 N30 off30 ⟨q1, q2, q3⟩
        have hone : ∃ bX tX X, v = .bytes bX tX ∧ KBw.bInts bX = X ∧ X.length = ds.length ∧ ([((fixed W ds.length).length : Int), ((fixed M ds.length).length : Int)] : List Int).take (i + 1) = ([((fixed W ds.length).length : Int), ((fixed M ds.length).length : Int)] : List Int).take i ++ [((fixed X ds.length).length : Int)] := by
          match i, hv with
          | 0, hv => cases hv; exact ⟨_, _, W, rfl, hbW, hwl, rfl⟩
          | 1, hv => cases hv; exact ⟨_, _, M, rfl, hbT, hml, rfl⟩
          | i + 2, hv => simp at hv
        obtain ⟨bX, tX, X', rfl, hbX, hXl, hXt⟩ := hone
        k_steps
        (with_reducible rename Fr _ _ _ _ => F31)
        refine Stop.go (LCt.ListComp_T F31 (by with_unfolding_all rfl) (by decide) (by rfl) (by decide) (by rfl) ?_)
        k_steps
        refine Stop.go ?_
        refine LCt.CompSrcT.range rfl (by k_asm) (by k_asm) (by assumption) (small_upto (n := ds.length) (by omega)) (rangeSize_upto ds.length) (by rw [sizeLine_eq]; omega) fun gg => ?_
        refine comp_invT (n := ds.length) (fun j zs news => news = [(I, oI), (C, oC), (c, oc), (D, LCg.lst ys), (pW, listOf (List.toArray [.bytes bW tW, .bytes bT tT]) 0), (pR, listOf (List.toArray vR) nR), (L + 1 + 1 + 1, o₁), (L + 1 + 1, oM), (L + 1, oO)] ∧ IntsAre zs (fixU X' j)) ?_ ?_ ds.length 0 [] _ (Nat.zero_add _) ⟨rfl, .nil⟩
        · intro j zs news v I2 oI2 C2 oC2 D2 m₂ h5 tk5 E5 hj hI hP hC5 hx5 F5 N5 off5 ne5
          obtain ⟨rfl, hzs⟩ := hI
          obtain ⟨u5, rfl⟩ := hP
          have e0 : (0 : Int) + (j : Int) = (j : Int) := by omega
          rw [e0] at hx5
          have ej : (j : Int).toNat = j := by omega
          have off5' := off5
          (try clear hXt); (try clear hv); (try clear hys); (try clear hwf); (try clear hmf); (try clear hww); (try clear hmm); (try clear hwm); (try clear hmw); (try clear hbq); (try clear hbb); (try clear hRI); (try clear hord); (try clear e21); (try clear e22); (try clear e23); (try clear e24); (try clear hb21); (try clear hb22); (try clear hb23); (try clear hb24); (try clear x24); (try clear hB); (try clear hpR); (try clear hIn); (try clear hInB); (try clear hwb); (try clear hmb); (try clear hnd); (try clear hbd); (try clear hnl); (try clear hX); (try clear hsz)
          walk1
          walk1
          walk1
          walk1
          refine KBw.item_K hbX (by omega) (by omega) (by omega) ?_
          intro tA kA loA hiA
          rw [ej] at loA hiA ⊢
          walk1
          walk1
          by_cases hq : X'.getD j 0 = (j : Int)
          · have hbq' : (X'.getD j 0 == (j : Int)) = true := by simpa using hq
            rw [hbq']
            refine wpAny_truthy_bool ?_
            rw [if_pos rfl]
            walk1
            exact ⟨_, _, _, rfl, F5, N5, off5', trivial, rfl, by rw [fixU_in hq]; exact ints_snoc hzs⟩
          · have hbq' : (X'.getD j 0 == (j : Int)) = false := by simpa using hq
            rw [hbq']
            refine wpAny_truthy_bool ?_
            rw [if_neg (by decide)]
            exact ⟨_, _, _, rfl, F5, N5, off5', trivial, rfl, by rw [fixU_out hq]; exact hzs⟩
        · rintro zs news ⟨rfl, hzs⟩
          have hfl := fixU_len X' ds.length
          dsimp only
          k_steps
          (with_reducible rename Fr _ _ _ _ => F32)
          (with_reducible rename News _ _ _ _ => N32)
          refine Stop.go ⟨_, _, _, rfl, F32, fun p hp => N32 p (.tail _ hp), off30, rfl, ?_⟩
          rw [hXt]
          exact ints_snoc hys
      · rintro ys news D h30 tk30 ⟨rfl, hys⟩ F30 N30 off30
        dsimp only at F30
        have hys2 : IntsAre ys [((fixed W ds.length).length : Int), ((fixed M ds.length).length : Int)] := hys
        obtain ⟨ta, tb, rfl⟩ : ∃ ta tb, ys = [.int ((fixed W ds.length).length : Int) ta, .int ((fixed M ds.length).length : Int) tb] := by
          cases hys2 with | cons _ t1 h => cases h with | cons _ t2 h => cases h with | nil => exact ⟨t1, t2, rfl⟩
        have hrl := hRI.room
        have F31 := told F30 [("stay", .ref D), ("whole", .bytes bW tW), ("most", .bytes bT tT), ("rings", .ref pR)] (by
          intro p hp
          simp only [List.mem_cons, List.not_mem_nil, or_false] at hp
          rcases hp with rfl | rfl | rfl | rfl <;> rfl)
        dsimp only [kstB] at F31
        have N34 : News s₁.heap L h30 [(D, LCg.lst [.int ((fixed W ds.length).length : Int) ta, .int ((fixed M ds.length).length : Int) tb]), (pR, listOf (List.toArray vR) nR), (L + 1 + 1 + 1, o₁), (L + 1 + 1, oM)] := fun q hq => by
          refine N30 q ?_
          simp only [List.mem_cons, List.not_mem_nil, or_false] at hq ⊢
          rcases hq with rfl | rfl | rfl | rfl <;> simp
        have hr9 : ∀ r ∈ rs, r.length ≤ 9 := fun r hr => Nat.le_trans (hRI.ring hr).2.1 hn9
        have hl9 : rs.length ≤ 9 := Nat.le_trans hrl hn9
        have hwf' : ((fixed W ds.length).length : Int) = ((rs.filter oddR).length : Int) := by rw [hwf]
        dsimp only
        refine tail_A (s := s₁) KX T F31 N34 hB hr9 hl9 hwf' hmf d1 dM hn1 hn9 hbW hbT hwl hml hwb hmb hww hmm (fun h' tk' m' FF => ?_)
        dsimp only
        exact goodW_bool FF hg (raisesW_false (by wrow_none_raised)) (by kc_post))
end Mine
end
set_option maxRecDepth 100000 in
set_option maxHeartbeats 8000000 in
theorem PySem.Challenge.cw_gi0002_01_holds : PySem.Challenge.rw_gi0002_01.Holds :=
  Mine.t
