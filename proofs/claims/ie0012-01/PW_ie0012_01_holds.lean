import PyProof.Rows.All
import Wide.All
import OpenK.AllK
import Wide.FinOn
import PySem.Challenge.RW_ie0012_01
set_option Elab.async false
set_option maxRecDepth 100000
set_option maxHeartbeats 8000000
set_option pp.deepTerms false
set_option pp.deepTerms.threshold 6

/-! ## HeadC -/
namespace Mine
section
open PySem PySem.W PyProof.Rows PySem.Calls
/-- the built-ins that `exported` looks for among the activations -/
def holdWords : List String := ["bytearray.__contains__", "bytearray.__mod__", "bytearray.__rmod__", "_struct.pack_into.held", "bytearray.find.held"] ++ Builtin.Bytes.decodersThatHold
def tameC (c : Code) : Bool := match c with
  | .builtin id _ => !(holdWords.contains id)
  | _ => true
def cleanSt (st : List (Code × Pos)) : Bool := st.all fun q => tameC q.1
/-- the call, from a stack that bears none of those -/
def runC (f : Value) (vs : List Value) : Sem Value := Sem.stack fun st => if cleanSt st = true then PySem.call f vs else pure (.bool true)

/-- the stub's term, from a clean stack -/
def treeC (n : Str) (vs : List Value) : Sem Fin := Sem.stack fun st => if cleanSt st = true then (callStub n vs).cur else ret (.bool true)

theorem sched_skip {prog : Program} {w : World} {name : Str} {vs : List Value} {s : Shared} (hz : s.asleep) {n : Nat} {o : Outcome} {s' : Shared}
    (h : schedN (denote table) prog w n (.single s ⟨treeC name vs, .builtin "claim.caller" {}, default, []⟩) = .halted o s') :
    ∃ m, schedN (denote table) prog w m (.single s (callStub name vs)) = .halted o s' := by
  cases n with
  | zero => cases h
  | succ n =>
    have e1 : step (denote table) prog w s ⟨treeC name vs, .builtin "claim.caller" {}, default, []⟩ = .go s (callStub name vs) := by
      have hc : cleanSt [((Code.builtin "claim.caller" {}, default) : Code × Pos)] = true := by decide +kernel
      show Step.go s ⟨if cleanSt [((Code.builtin "claim.caller" {}, default) : Code × Pos)] = true then (callStub name vs).cur else ret (.bool true), .builtin "claim.caller" {}, default, []⟩ = _
      rw [if_pos hc]
      rfl
    have e2 := sstep_single (denote table) prog w s ⟨treeC name vs, .builtin "claim.caller" {}, default, []⟩ rfl hz
    rw [e1] at e2
    rcases e2 with e2 | e2
    · simp only [schedN, e2, Step.lift] at h
      exact ⟨n, h⟩
    · cases e2

theorem holdsOpen_skip {c : ClaimW} {name : Str} {defs kps : List Str} {writes : Bool}
    (H : c.HoldsOpenBy (fun vs => ⟨treeC name vs, .builtin "claim.caller" {}, default, []⟩) defs kps writes) :
    c.HoldsOpenBy (callStub name) defs kps writes := by
  obtain ⟨h1, h2, h3⟩ := H
  refine ⟨h1, h2, fun w => ⟨(h3 w).1, fun s hs => ?_⟩⟩
  obtain ⟨s₀, hf, hg, s₁, hT, hd, hr1, hr2, hcall⟩ := (h3 w).2 s hs
  refine ⟨s₀, hf, hg, s₁, hT, hd, hr1, hr2, fun args hpre hlay ord hord => ?_⟩
  obtain ⟨vs, s₂, hlaid, n, o, s', hrun, rest⟩ := hcall args hpre hlay ord hord
  have z : s.asleep := AfterImport.life hs
  have z₀ : s₀.asleep := Shared.asleep_of_life (fence_lifeW hf) z
  have z₁ : s₁.asleep := Shared.asleep_of_life hT.2.1 z₀
  have z₂ : s₂.asleep := Shared.asleep_of_life (layAllW_rest _ _ _ hlaid).2.2.2 z₁
  obtain ⟨m, hm⟩ := sched_skip z₂ hrun
  exact ⟨vs, s₂, hlaid, m, o, s', hm, rest⟩

theorem skip_ht {prog : Program} {w : World} {name : Str} {vs : List Value} {s : Shared} {mg : Str → Option Value} {f : Value} {Q : Fin → Shared → Prop} {E : Value → Shared → Prop}
    (hg : s.heap.Ns mainGlobals mg) (hf : mg name = some f) (h : wpAny (model prog w) callerA (runC f vs) (fun v s' => Q (.done (.ret v)) s') E s) :
    wpAny (model prog w) callerA (treeC name vs) Q E s := by
  intro Γ p hΓ
  have h' := h Γ p hΓ
  unfold runC at h'
  unfold treeC
  rw [Sem.wp_stack] at h' ⊢
  by_cases hc : cleanSt ((Γ.code, p) :: Γ.below) = true
  · rw [if_pos hc] at h' ⊢
    unfold callStub
    have key : Sem.wp (model prog w) Γ (PySem.call f vs) (fun v _ s' => Q (.done (.ret v)) s') (fun e _ s' => E e s') p s := h'
    refine (Sem.wp_bind' _ _ _ _ _ _ _ _).mpr ?_
    refine (Sem.wp_nsGet _ _ _ _ _ hg _ _).mpr ?_
    rw [hf]
    refine (Sem.wp_bind' _ _ _ _ _ _ _ _).mpr ?_
    exact Sem.wp_mono _ _ _ (fun _ _ _ x => x) (fun _ _ _ x => x) _ _ key
  · rw [if_neg hc] at h' ⊢
    exact h'

end
end Mine
namespace Hd
open_top hd for PySem.Challenge.rw_ie0012_01
end Hd

/-! ## Clean -/
namespace Mine
section
open PySem PySem.W PyProof.Rows PySem.Calls
abbrev PP : Program := PySem.Challenge.rw_ie0012_01.row.prog
abbrev AA (dp un : Nat) (fr : Option (List Env)) (gd : Option (List Code)) : Around := { handled := none, depth := dp, frames := fr, guards := gd, units := un }

def CleanX (Γ : Ctx) : Prop := tameC Γ.code = true ∧ cleanSt Γ.below = true
/-- wpAny over the clean contexts alone -/
def wpC {α : Type} (w : World) (A : Around) (t : Sem α) (Q : α → Shared → Prop) (E : Value → Shared → Prop) (s : Shared) : Prop :=
  ∀ Γ p, Γ.In A → CleanX Γ → Sem.wp (model PP w) Γ t (fun a _ s' => Q a s') (fun e _ s' => E e s') p s
def codeC (w : World) (A : Around) (c : Code) (R : Result → Shared → Prop) (s : Shared) : Prop :=
  ∀ Γ p, Γ.code = c → Γ.Below A → CleanX Γ → wpCode (model PP w) Γ R p s

section
variable {α β : Type} {w : World} {A : Around} {E : Value → Shared → Prop} {s : Shared}
theorem wpC_of_any {t : Sem α} {Q : α → Shared → Prop} (h : wpAny (model PP w) A t Q E s) : wpC w A t Q E s := fun Γ p hΓ _ => h Γ p hΓ
theorem codeC_of_any {c : Code} {R : Result → Shared → Prop} (h : codeAny (model PP w) A c R s) : codeC w A c R s := fun Γ p hc hΓ _ => h Γ p hc hΓ
theorem wpC_mono {t : Sem α} {Q Q' : α → Shared → Prop} {E' : Value → Shared → Prop} (h : wpC w A t Q E s) (hQ : ∀ a s, Q a s → Q' a s) (hE : ∀ e s, E e s → E' e s) : wpC w A t Q' E' s :=
  fun Γ p hΓ hc => Sem.wp_mono _ Γ t (fun a _ s => hQ a s) (fun e _ s => hE e s) p s (h Γ p hΓ hc)
theorem wpC_pure {a : α} {Q : α → Shared → Prop} (h : Q a s) : wpC w A (pure a) Q E s := fun _ _ _ _ => h
theorem wpC_bind {m : Sem α} {f : α → Sem β} {Q : β → Shared → Prop} (h : wpC w A m (fun a s' => wpC w A (f a) Q E s') E s) : wpC w A (m >>= f) Q E s := fun Γ p hΓ hc => by
  rw [Sem.wp_bind']
  exact Sem.wp_mono _ Γ m (fun a p' s' h' => h' Γ p' hΓ hc) (fun _ _ _ h' => h') p s (h Γ p hΓ hc)
/-- a first part that the library's rules walk -/
theorem wpC_bind_any {m : Sem α} {f : α → Sem β} {Q : β → Shared → Prop} (h : wpAny (model PP w) A m (fun a s' => wpC w A (f a) Q E s') E s) : wpC w A (m >>= f) Q E s := wpC_bind (wpC_of_any h)
theorem wpC_holding {vs : List Value} {m : Sem α} {Q : α → Shared → Prop} (h : wpC w A m Q E s) : wpC w A (holding vs m) Q E s := fun Γ p hΓ hc => by rw [Sem.wp_holding]; exact h Γ p hΓ hc
theorem wpC_onRaise {m : Sem α} {k : Value → Sem Unit} {Q : α → Shared → Prop} (h : wpC w A m Q (fun e s' => wpC w A (k e) (fun _ s'' => E e s'') E s') s) : wpC w A (m.onRaise k) Q E s := fun Γ p hΓ hc => by
  rw [Sem.wp_onRaise]
  exact Sem.wp_mono _ Γ m (fun _ _ _ h' => h') (fun e p' s' h' => h' Γ p' hΓ hc) p s (h Γ p hΓ hc)
theorem wpC_stack {Q : List (Code × Pos) → Shared → Prop} (h : ∀ st, cleanSt st = true → Q st s) : wpC w A stack Q E s := fun Γ p _ hc => by
  show Q ((Γ.code, p) :: Γ.below) s
  refine h _ ?_
  show (tameC Γ.code && cleanSt Γ.below) = true
  rw [hc.1, hc.2]; rfl
theorem CleanX.enter {Γ : Ctx} (h : CleanX Γ) {c : Code} (ht : tameC c = true) (hd : Option Value) (p : Pos) : CleanX (Γ.enter c hd p) :=
  ⟨ht, by show (tameC Γ.code && cleanSt Γ.below) = true; rw [h.1, h.2]; rfl⟩
theorem wpC_runValue {c : Code} {Q : Value → Shared → Prop} (ht : tameC c = true)
    (hc : codeC w A c (fun r s' => match r with | .ok (.ret v) => Q v s' | .ok _ => False | .error e => E e s') s) : wpC w A (runValue c) Q E s := fun Γ p hΓ hx => by
  rw [Sem.wp_runValue]; exact hc _ p rfl (hΓ.enter c none p (by intro x; cases x)) (hx.enter ht none p)
theorem wpC_call {f : Value} {pos : List Value} {kw : List (Str × Value)} {Q : Value → Shared → Prop}
    (hc : codeC w A (.call f ⟨pos, kw⟩) (fun r s' => match r with | .ok (.ret v) => Q v s' | .ok _ => False | .error e => E e s') s) : wpC w A (call f pos kw) Q E s := wpC_runValue rfl hc
theorem codeC_of_tree {c : Code} {R : Result → Shared → Prop}
    (h : wpC w (A.under c) ((model PP w).den c) (fun fin s' => match fin with | .done f => R (.ok f) s' | .again c' => c'.quiet = true ∧ tameC c' = true ∧ codeC w A c' R s') (fun e s' => R (.error e) s') s) : codeC w A c R s := fun Γ p hc hΓ hx => by
  rw [wpCode_iff_wp, hc]
  refine Sem.wp_mono _ Γ _ (fun fin p' s' h' => ?_) (fun _ _ _ h' => h') p s (h Γ p (hc ▸ hΓ.in) hx)
  cases fin with
  | done f => exact h'
  | again c' => exact ⟨h'.1, h'.2.2 (Γ.goto c') p' rfl (hΓ.goto c') ⟨h'.2.1, hx.2⟩⟩
theorem codeC_builtin {id : String} {args : Args} {b : Builtin} {R : Result → Shared → Prop} (hb : entryFor table id = some b)
    (h : wpC w (A.under (.builtin id args)) (b args) (fun fin s' => match fin with | .done f => R (.ok f) s' | .again c' => c'.quiet = true ∧ tameC c' = true ∧ codeC w A c' R s') (fun e s' => R (.error e) s') s) :
    codeC w A (.builtin id args) R s := by
  refine codeC_of_tree ?_
  show wpC _ _ (match entryFor table id with | some b => b args | none => unsupported ((withoutEnding? id "#data").getD id)) _ _ s
  rw [hb]; exact h
theorem codeC_mono {c : Code} {R R' : Result → Shared → Prop} (h : codeC w A c R s) (hR : ∀ r s, R r s → R' r s) : codeC w A c R' s := fun Γ p hc hΓ hx => wpCode_mono hR (h Γ p hc hΓ hx)
end

theorem tame_off {id : String} {args : Args} (h : tameC (.builtin id args) = true) : Builtin.Bytes.decodersThatHold.contains id = false := by
  have h1 : holdWords.contains id = false := by simpa [tameC] using h
  cases hd : Builtin.Bytes.decodersThatHold.contains id with
  | false => rfl
  | true =>
    have h2 : holdWords.contains id = true := by
      unfold holdWords
      rw [List.contains_iff_mem] at hd ⊢
      exact List.mem_append_right _ hd
    rw [h1] at h2
    cases h2
/-- a look along a clean stack for words that none of it bears -/
theorem none_there {f : Code × Pos → Bool} {st : List (Code × Pos)} (h : cleanSt st = true) (hf : ∀ c p, tameC c = true → f (c, p) = false) : st.any f = false :=
  List.any_eq_false.mpr fun q hq => by rw [hf q.1 q.2 (List.all_eq_true.mp h q hq)]; exact Bool.false_ne_true
theorem not_word {id : String} {args : Args} (h : tameC (.builtin id args) = true) (x : String) (hx : holdWords.contains x = true) : id ≠ x := by
  rintro rfl
  have : (!(holdWords.contains id)) = true := h
  rw [hx] at this
  cases this
theorem wpC_exported {w : World} {A : Around} {E : Value → Shared → Prop} {s : Shared} {self : Value} {Q : Bool → Shared → Prop} (h : Q false s) : wpC w A (Builtin.Bytes.exported self) Q E s := by
  unfold Builtin.Bytes.exported
  refine wpC_bind (wpC_stack fun st hst => ?_)
  rw [none_there hst fun c p ht => ?_]
  · exact wpC_pure h
  · split
    all_goals first
      | rfl
      | (rename_i heq; cases heq; first | exact absurd rfl (not_word ht _ (by decide +kernel)) | rw [tame_off ht, Bool.and_false])

theorem ba_mro : mroOf (.type "bytearray") = pure [.type "bytearray", .type "object"] := by rw [mroOf_type]; kernel_rfl
theorem ba_lookup_new : typeLookup (.type "bytearray") "__new__" = pure (some (.builtin "bytearray.__new__")) := by rw [typeLookup_type, builtinLookup_eq_fast]; kernel_rfl
theorem ba_slot_init : Slot "bytearray" "__init__" "bytearray.__init__" :=
  .of (owner := "bytearray") (n := "__init__") (by rw [typeLookup_type, builtinLookup_eq_fast]; kernel_rfl) (by decide +kernel) (by decide +kernel) (by decide +kernel)
    (by first | exact .inl (by decide +kernel) | exact .inr (by decide +kernel)) (by rw [isSubtype_type]; kernel_rfl)
theorem ba_called : TypeCalled "bytearray" "bytearray.__new__" "bytearray.__init__" :=
  ⟨by decide +kernel, by decide +kernel, ⟨_, _, ba_mro⟩, madeBy_type ba_mro ba_lookup_new (by decide +kernel), by decide +kernel, by rw [isSubtype_type]; kernel_rfl, ba_slot_init⟩
theorem ba_typeCall (a : Value) : checkTypeCall "bytearray" ⟨[a], []⟩ = pure () := by kernel_rfl
theorem ba_newCall (a : Value) : checkBuiltinCall "bytearray.__new__" ⟨[.type "bytearray", a], []⟩ = pure () := by kernel_rfl
theorem ba_entry_new : entryFor table "bytearray.__new__" = some Builtin.«list.__new__» :=
  entryFor_alias (id' := "list.__new__") (by kernel_rfl) rfl (by decide +kernel) (by kernel_rfl)
theorem ba_entry_init : entryFor table "bytearray.__init__" = some Builtin.«bytearray.__init__» := by first | exact entryFor_of_fast (by kernel_rfl) | exact entryFor_of_tree (by kernel_rfl)
theorem ba_plain_new : plainId "bytearray.__new__" = true := by decide +kernel
theorem ba_plain_init : plainId "bytearray.__init__" = true := by decide +kernel
theorem ba_owner : ("bytearray.__new__".splitOn ".__new__").headD "" = "bytearray" := by simp +decide [String.splitOn, String.splitOnAux]
theorem ba_no_release : typeLookup (.type "bytearray") "__release_buffer__" = pure (some (.builtin "bytearray.__release_buffer__")) := by rw [typeLookup_type, builtinLookup_eq_fast]; kernel_rfl
theorem ba_bind (v : Value) : Builtin.Bytes.bindOptional "bytearray.__init__" "bytearray" ["source", "encoding", "errors"] [v] [] = pure [some v, none, none] := by kernel_rfl

theorem ba_owner_sig : Manifest.owners.lookup (String.ofList ['y', 'a', 'r', 'r', 'a', 'e', 't', 'y', 'b'].reverse) = some Manifest.sig_bytearray := by kernel_rfl
theorem ba_args_init (a b : Value) : argsOk "bytearray.__init__" ⟨[a, b], []⟩ := by
  unfold argsOk; rw [signature?_of (id := "bytearray.__init__") (n := ['_', '_', 't', 'i', 'n', 'i', '_', '_']) (o := ['y', 'a', 'r', 'r', 'a', 'e', 't', 'y', 'b']) (by kernel_rfl) ba_owner_sig]; kernel_rfl

section
variable {w : World} {A : Around} {E : Value → Shared → Prop} {s : Shared}
theorem ba_new (a : Value) {Q₁ : Value → Shared → Prop}
    (h : Q₁ (.ref s.heap.objs.size) { s with heap := s.heap.push { cls := .type "bytearray", data := .bytearray #[] } }) :
    codeAny (model PP w) A (.call (.builtin "bytearray.__new__") ⟨[.type "bytearray", a], []⟩) (wants Q₁ E) s := by
  refine codeAny_of_tree ?_
  show wpAny _ A.in1 (do checkBuiltinCall "bytearray.__new__" ⟨[.type "bytearray", a], []⟩; again (.builtin "bytearray.__new__" ⟨[.type "bytearray", a], []⟩)) _ _ s
  refine wpAny_bind (wpAny_of_eq (ba_newCall a) (wpAny_pure ⟨plainId_quiet ba_plain_new _, codeAny_builtin_stack ba_entry_new rfl fun p st => ?_⟩))
  rw [Around.under_plainId ba_plain_new _]
  have hsub := F.isi_self_bytearray
  have hown := ba_owner
  obtain ⟨hp, g, d, tk, os⟩ := s
  simp only [hown]
  wp_walk
  exact h

end
end
end Mine

/-! ## Ba -/
namespace Mine
section
open PySem PySem.W PyProof.Rows PySem.Calls
section
variable {w : World} {A : Around} {E : Value → Shared → Prop} {s : Shared}
theorem wpC_if_false {α : Type} {c : Bool} {a b : Sem α} {Q : α → Shared → Prop} (hc : c = false) (h : wpC w A b Q E s) : wpC w A (if c = true then a else b) Q E s := by
  subst hc
  exact h
theorem wpC_if_true {α : Type} {c : Bool} {a b : Sem α} {Q : α → Shared → Prop} (hc : c = true) (h : wpC w A a Q E s) : wpC w A (if c = true then a else b) Q E s := by
  subst hc
  exact h
theorem ba_drop : "bytearray.__release_buffer__".dropRight ("__release_buffer__".length + 1) = "bytearray" := by decide +kernel
theorem ba_release {a : Addr} {Q : Bool → Shared → Prop} (hT : s.TypeIs (.ref a) "bytearray") (h : Q false s) : wpAny (model PP w) A (Builtin.Bytes.ownRelease (.ref a)) Q E s := by
  unfold Builtin.Bytes.ownRelease Builtin.Bytes.slotIsOwn
  refine wpAny_bind (wpAny_bind (wpAny_specialOf hT ba_no_release ?_))
  show wpAny _ _ (if (!"bytearray.__release_buffer__".endsWith ("." ++ "__release_buffer__")) = true then _ else _) _ _ _
  rw [if_neg (by decide +kernel), ba_drop]
  exact wpAny_isInstance hT F.isi_self_bytearray (wpAny_pure h)
theorem ba_write {a : Addr} {b : Array UInt8} {f : Array UInt8 → Array UInt8} {Q : Unit → Shared → Prop} (ho : s.heap.get? a = some { cls := .type "bytearray", data := .bytearray b }) (hz : (f b).size ≤ sizeLine)
    (h : ∀ h', h'.get? a = some { cls := .type "bytearray", data := .bytearray (f b) } → Heap.SameBut a s.heap h' → Q () { s with heap := h' }) : wpAny (model PP w) A (Builtin.Bytes.write (.ref a) f) Q E s := by
  show wpAny _ _ (updateBytearray a f) _ _ _
  unfold updateBytearray
  refine wpAny_bind (wpAny_load ho ?_)
  show wpAny _ _ (update a (Obj.mapBytearray f) >>= fun _ => lookBehind a) _ _ _
  refine wpAny_bind (wpAny_update ho ?_)
  have h2 : (s.heap.update a (Obj.mapBytearray f)).get? a = some { cls := .type "bytearray", data := .bytearray (f b) } := Heap.get?_update_self (Obj.mapBytearray f) ho rfl
  refine wpAny_lookBehind h2 ?_ (h _ h2 (Heap.SameBut.update ..))
  show (if (f b).size > sizeLine then some "bytearray:memory" else none) = none
  rw [if_neg (Nat.not_lt.mpr hz)]
theorem ba_init {a : Addr} {n : Int} {t : Tok} {Q : Value → Shared → Prop} (h0 : 0 ≤ n) (h1 : n ≤ 1000) (ho : s.heap.get? a = some { cls := .type "bytearray", data := .bytearray #[] })
    (h : ∀ h', h'.get? a = some { cls := .type "bytearray", data := .bytearray (Array.replicate n.toNat 0) } → Heap.SameBut a s.heap h' → Q .none { s with heap := h' }) :
    wpC w A (Builtin.«bytearray.__init__» ⟨[.ref a, .int n t], []⟩) (fun fin s' => fin = .done (.ret .none) ∧ Q .none s') E s := by
  have hT : s.TypeIs (.ref a) "bytearray" := ⟨_, ho, rfl⟩
  unfold Builtin.«bytearray.__init__»
  refine wpC_bind_any (ba_release hT ?_)
  show wpC w A (if (false = true) then _ else _) _ _ _
  rw [if_neg Bool.false_ne_true]
  refine wpC_bind_any (wpAny_of_eq (ba_bind _) ?_)
  refine wpC_bind_any (wpAny_of_eq (a := ()) rfl ?_)
  refine wpC_bind_any (wpAny_of_eq (a := ()) rfl ?_)
  refine wpC_bind ?_
  show wpC w A (Builtin.Bytes.exported (.ref a) >>= _) _ _ _
  refine wpC_bind (wpC_exported (wpC_of_any ?_))
  show wpAny (model PP w) A (Builtin.Bytes.exportsOf (.ref a) >>= _) _ _ _
  refine wpAny_bind ?_
  show wpAny (model PP w) A (load a >>= _) _ _ _
  refine wpAny_bind (wpAny_load ho (wpAny_pure (wpAny_pure (wpC_of_any ?_))))
  refine wpAny_ite ?_
  rw [if_neg (by decide)]
  refine wpAny_bind (ba_write ho (Nat.zero_le _) fun h₁ hg₁ hs₁ => ?_)
  dsimp only
  refine wpAny_bind (wpAny_of_eq (a := none) rfl ?_)
  refine wpAny_ite ?_
  rw [if_neg (by decide)]
  refine wpAny_bind (wpAny_of_eq (a := ()) rfl ?_)
  refine wpAny_bind (wpAny_specialOf (T := "int") (typeIs_int _ _ _) F.slot_int_index.lookup ?_)
  refine bm_if_true rfl ?_
  refine wpAny_bind (wpAny_of_eq (a := Except.ok n) rfl ?_)
  dsimp only
  refine bm_if_false (by simp only [Builtin.Bytes.fitsIndex, Bool.not_eq_false', Bool.and_eq_true, decide_eq_true_eq]; omega) ?_
  refine wpAny_ite ?_
  rw [if_neg (by omega)]
  refine bm_if_false (by rw [beq_eq_false_iff_ne]; omega) ?_
  refine bm_if_false (by unfold Builtin.Bytes.tooLong; rw [sizeLine_eq]; exact decide_eq_false (by omega)) ?_
  refine wpAny_bind (wpAny_rule ?_)
  refine wpAny_ite ?_
  by_cases hn : n > 0
  · rw [if_pos hn]
    refine wpAny_bind (ba_write hg₁ (by rw [Array.size_replicate, sizeLine_eq]; omega) fun h₂ hg₂ hs₂ => ?_)
    exact wpAny_pure ⟨rfl, h h₂ hg₂ (hs₁.trans hs₂)⟩
  · rw [if_neg hn]
    have e : n = 0 := by omega
    subst e
    exact wpAny_pure ⟨rfl, h h₁ hg₁ hs₁⟩

theorem tame_word {id : String} (h : (!(holdWords.contains id)) = true) (args : Args) : tameC (.builtin id args) = true := h
theorem ba_init_call {a : Addr} {n : Int} {t : Tok} {Q : Value → Shared → Prop} (h0 : 0 ≤ n) (h1 : n ≤ 1000) (ho : s.heap.get? a = some { cls := .type "bytearray", data := .bytearray #[] })
    (h : ∀ h', h'.get? a = some { cls := .type "bytearray", data := .bytearray (Array.replicate n.toNat 0) } → Heap.SameBut a s.heap h' → Q .none { s with heap := h' }) :
    wpC w A (call (.builtin "bytearray.__init__") [.ref a, .int n t]) Q E s := by
  have hT : s.TypeIs (.ref a) "bytearray" := ⟨_, ho, rfl⟩
  refine wpC_call (codeC_of_tree ?_)
  show wpC w A.in1 (do checkBuiltinCall "bytearray.__init__" ⟨[.ref a, .int n t], []⟩; again (.builtin "bytearray.__init__" ⟨[.ref a, .int n t], []⟩)) _ _ s
  refine wpC_bind_any (ba_slot_init.check _ _ _ _ _ _ _ _ hT (ba_args_init _ _) ?_)
  refine wpC_pure ⟨plainId_quiet ba_plain_init _, tame_word (by decide +kernel) _, codeC_builtin ba_entry_init ?_⟩
  refine wpC_mono (ba_init (Q := Q) h0 h1 ho h) (fun fin s' hf => ?_) fun _ _ x => x
  obtain ⟨rfl, hq⟩ := hf
  exact hq

theorem call_bytearray {n : Int} {t : Tok} {Q : Value → Shared → Prop} (h0 : 0 ≤ n) (h1 : n ≤ 1000)
    (h : ∀ h', (∀ b o, s.heap.get? b = some o → h'.get? b = some o) → h'.get? s.heap.objs.size = some { cls := .type "bytearray", data := .bytearray (Array.replicate n.toNat 0) } → Q (.ref s.heap.objs.size) { s with heap := h' }) :
    wpC w A (call (.type "bytearray") [.int n t]) Q E s := by
  refine wpC_call (codeC_of_tree ?_)
  show wpC w _ (callAny (.type "bytearray") _) _ _ _
  refine wpC_pure ⟨Code.quiet_builtin _ (by decide +kernel), tame_word (by decide +kernel) _, codeC_builtin F.entry_type_call ?_⟩
  rw [Around.under_plain (weight_type_call_type "bytearray" [.int n t] []) (units_type_call_type "bytearray" [.int n t] [])]
  have hmade := ba_called.made
  unfold Builtin.«type.__call__»
  dsimp only
  refine wpC_if_false (by decide) ?_
  refine wpC_if_false ba_called.canCreate ?_
  refine wpC_bind_any (wpAny_of_eq (ba_typeCall _) ?_)
  refine wpC_bind_any (wpAny_of_eq ba_mro ?_)
  refine wpC_if_false rfl ?_
  refine wpC_bind_any (wpAny_of_eq ba_called.made ?_)
  dsimp only
  refine wpC_bind_any (wpAny_pure ?_)
  refine wpC_bind_any (wpAny_holding (wpAny_call (ba_new _ ?_)))
  have ho : (s.heap.push { cls := .type "bytearray", data := .bytearray #[] }).get? s.heap.objs.size = some { cls := .type "bytearray", data := .bytearray #[] } := Heap.get?_push_size _ rfl
  generalize hh : s.heap.push { cls := .type "bytearray", data := .bytearray #[] } = H at ho ⊢
  have hT : ({ s with heap := H } : Shared).TypeIs (.ref s.heap.objs.size) "bytearray" := ⟨_, ho, rfl⟩
  refine wpC_bind_any (wpAny_isInstance hT F.isi_self_bytearray ?_)
  refine wpC_if_false rfl ?_
  refine wpC_bind (wpC_holding ?_)
  unfold callSpecial?
  refine wpC_bind_any (wpAny_specialOf hT ba_slot_init.lookup ?_)
  dsimp only
  refine wpC_holding (wpC_bind_any (wpAny_of_eq (ba_slot_init.bind _) ?_))
  dsimp only
  refine wpC_bind (ba_init_call (s := { s with heap := H }) h0 h1 ho fun h' hg hs => ?_)
  refine wpC_pure ?_
  dsimp only
  refine wpC_if_false (by decide) ?_
  refine wpC_pure ?_
  refine h h' (fun b o e => ?_) hg
  have hb : b ≠ s.heap.objs.size := Nat.ne_of_lt (Heap.lt_size e)
  refine (hs.2 b hb).trans ?_
  rw [← hh]
  exact Heap.get?_push_of_some _ e
end
end
end Mine

/-! ## Ba2 -/
namespace Mine
section
open PySem PySem.W PyProof.Rows PySem.Calls
theorem ba_slot_set : Slot "bytearray" "__setitem__" "bytearray.__setitem__" :=
  .of (owner := "bytearray") (n := "__setitem__") (by rw [typeLookup_type, builtinLookup_eq_fast]; kernel_rfl) (by decide +kernel) (by decide +kernel) (by decide +kernel)
    (by first | exact .inl (by decide +kernel) | exact .inr (by decide +kernel)) (by rw [isSubtype_type]; kernel_rfl)
theorem ba_entry_set : entryFor table "bytearray.__setitem__" = some Builtin.«bytearray.__setitem__» := by first | exact entryFor_of_fast (by kernel_rfl) | exact entryFor_of_tree (by kernel_rfl)
theorem ba_args_set (a b c : Value) : argsOk "bytearray.__setitem__" ⟨[a, b, c], []⟩ := by
  unfold argsOk; rw [signature?_of (id := "bytearray.__setitem__") (n := ['_', '_', 'm', 'e', 't', 'i', 't', 'e', 's', '_', '_']) (o := ['y', 'a', 'r', 'r', 'a', 'e', 't', 'y', 'b']) (by kernel_rfl) ba_owner_sig]; kernel_rfl
theorem ba_no_bytes : typeLookup (.type "bytearray") "__bytes__" = pure none := by rw [typeLookup_type, builtinLookup_eq_fast]; kernel_rfl
theorem ba_no_index : typeLookup (.type "bytearray") "__index__" = pure none := by rw [typeLookup_type, builtinLookup_eq_fast]; kernel_rfl
theorem ba_buffer : typeLookup (.type "bytearray") "__buffer__" = pure (some (.builtin "bytearray.__buffer__")) := by rw [typeLookup_type, builtinLookup_eq_fast]; kernel_rfl
theorem ba_drop2 : "bytearray.__buffer__".dropRight ("__buffer__".length + 1) = "bytearray" := by decide +kernel
section
variable {w : World} {A : Around} {E : Value → Shared → Prop} {s : Shared}
theorem ba_setItem {a : Addr} {b : Array UInt8} {i v : Int} {t u : Tok} {Q : Unit → Shared → Prop} (ho : s.heap.get? a = some { cls := .type "bytearray", data := .bytearray b })
    (h0 : 0 ≤ i) (h1 : i < (b.size : Int)) (hz : b.size ≤ 1000) (v0 : 0 ≤ v) (v1 : v < 256)
    (h : ∀ h', h'.get? a = some { cls := .type "bytearray", data := .bytearray (b.setIfInBounds i.toNat v.toNat.toUInt8) } → Heap.SameBut a s.heap h' → Q () { s with heap := h' }) :
    wpAny (model PP w) A (setItem (.ref a) (.int i t) (.int v u)) Q E s := by
  have hT : s.TypeIs (.ref a) "bytearray" := ⟨_, ho, rfl⟩
  unfold setItem
  try with_reducible refine wpAny_holding ?_
  refine wpAny_bind (wpAny_sequenceKey hT (by decide) ?_)
  refine wpAny_bind (wpAny_callSpecial?_slot (name := Str.ofString "__setitem__") hT ba_slot_set (wpAny_call_entry ba_slot_set hT ba_entry_set ?_ (ba_args_set _ _ _)))
  unfold Builtin.«bytearray.__setitem__»
  dsimp only
  refine bm_if_false rfl ?_
  have hf : Builtin.Bytes.fitsIndex i = true := by simp only [Builtin.Bytes.fitsIndex, Bool.and_eq_true, decide_eq_true_eq]; omega
  refine wpAny_bind ?_
  unfold Builtin.Bytes.subscript?
  refine wpAny_bind (wpAny_specialOf (typeIs_int _ i t) F.slot_int_index.lookup ?_)
  show wpAny (model PP w) A.in1 (if (!Builtin.Bytes.fitsIndex i) = true then _ else pure (some i)) _ _ s
  rw [hf]
  refine wpAny_pure ?_
  dsimp only
  refine wpAny_bind ?_
  show wpAny (model PP w) A.in1 (if (decide (v < 0) || decide (v ≥ 256)) = true then _ else pure v.toNat.toUInt8) _ _ s
  rw [if_neg (by simp only [Bool.or_eq_true, decide_eq_true_eq]; omega)]
  refine wpAny_pure (wpAny_bind ?_)
  unfold Builtin.Bytes.payload Builtin.Bytes.payload?
  refine wpAny_bind (wpAny_bind (wpAny_load ho (wpAny_pure (wpAny_pure ?_))))
  have hi : seqIndex? i b.size = some i.toNat := by
    have hn : ¬ i < 0 := by omega
    simp [seqIndex?, hn, h0, h1]
  rw [hi]
  dsimp only
  refine wpAny_bind (ba_write ho (by rw [Array.size_setIfInBounds, sizeLine_eq]; omega) fun h' hg hs => ?_)
  exact wpAny_pure ⟨.none, rfl, wpAny_pure (h h' hg hs)⟩

theorem bytes_of_ba_new {a : Addr} {b : Array UInt8} {Q : Value → Shared → Prop} (ho : s.heap.get? a = some { cls := .type "bytearray", data := .bytearray b }) (hz : b.size ≤ 1000)
    (h : ∀ t tk, Q (.bytes b t) { s with toks := tk }) :
    codeAny (model PP w) A (.call (.builtin "bytes.__new__") ⟨[.type "bytes", .ref a], []⟩) (wants Q E) s := by
  have hT : s.TypeIs (.ref a) "bytearray" := ⟨_, ho, rfl⟩
  refine codeAny_of_tree ?_
  show wpAny _ A.in1 (do checkBuiltinCall "bytes.__new__" ⟨[.type "bytes", .ref a], []⟩; again (.builtin "bytes.__new__" ⟨[.type "bytes", .ref a], []⟩)) _ _ s
  refine wpAny_bind (wpAny_of_eq (PySem.F.bm_newCall _) (wpAny_pure ⟨plainId_quiet PySem.F.bm_plain _, codeAny_builtin PySem.F.bm_entry ?_⟩))
  rw [Around.under_plainId PySem.F.bm_plain _]
  unfold Builtin.«bytes.__new__»
  refine wpAny_bind (wpAny_of_eq (a := true) rfl ?_)
  refine bm_if_false rfl ?_
  refine wpAny_bind (wpAny_of_eq PySem.F.bm_sub ?_)
  refine bm_if_false rfl ?_
  refine wpAny_bind (wpAny_of_eq (PySem.F.bm_bind _) ?_)
  refine wpAny_bind (wpAny_of_eq (a := ()) rfl ?_)
  refine wpAny_bind (wpAny_of_eq (a := ()) rfl ?_)
  refine bm_if_false rfl ?_
  refine wpAny_bind (wpAny_specialOf hT ba_no_bytes ?_)
  refine wpAny_bind (wpAny_bind ?_)
  show wpAny _ _ (load a >>= _) _ _ _
  refine wpAny_bind (wpAny_load ho ?_)
  refine wpAny_pure (wpAny_pure ?_)
  refine bm_if_false rfl ?_
  refine wpAny_bind (wpAny_specialOf hT ba_no_index ?_)
  refine bm_if_true rfl ?_
  first
    | show wpAny _ _ (Builtin.Bytes.buffer? "bytes.__new__" (.ref a) true >>= _) _ _ _
    | (refine wpAny_bind ?_; show wpAny _ _ (Builtin.Bytes.buffer? "bytes.__new__" (.ref a) true >>= _) _ _ _)
  refine wpAny_bind ?_
  unfold Builtin.Bytes.buffer?
  refine wpAny_bind (wpAny_specialOf hT ba_buffer ?_)
  dsimp only
  refine wpAny_bind ?_
  unfold Builtin.Bytes.slotIsOwn
  refine wpAny_bind (wpAny_specialOf hT ba_buffer ?_)
  show wpAny _ _ (if (!"bytearray.__buffer__".endsWith ("." ++ "__buffer__")) = true then _ else _) _ _ _
  rw [if_neg (by decide +kernel), ba_drop2]
  refine wpAny_isInstance hT F.isi_self_bytearray ?_
  refine bm_if_false rfl ?_
  refine wpAny_bind (wpAny_specialOf hT ba_buffer ?_)
  show wpAny _ _ (Builtin.Bytes.ownRelease (.ref a) >>= _) _ _ _
  refine wpAny_bind (ba_release hT ?_)
  refine bm_if_false rfl ?_
  refine wpAny_bind ?_
  unfold Builtin.Bytes.payload Builtin.Bytes.payload?
  refine wpAny_bind (wpAny_bind (wpAny_load ho (wpAny_pure (wpAny_pure (wpAny_pure ?_)))))
  dsimp only
  refine wpAny_bind (wpAny_rule ?_)
  refine wpAny_bind (wpAny_mkBytes ?_ (by rw [sizeLine_eq]; omega))
  show wpAny _ _ (if (Value.type "bytes" == Value.type "bytes") = true then _ else _) _ _ _
  refine bm_if_true (by decide) ?_
  exact wpAny_pure (h _ _)

theorem bytes_of_ba {a : Addr} {b : Array UInt8} {Q : Value → Shared → Prop} (ho : s.heap.get? a = some { cls := .type "bytearray", data := .bytearray b }) (hz : b.size ≤ 1000)
    (h : ∀ t tk, Q (.bytes b t) { s with toks := tk }) : wpAny (model PP w) A (call (.type "bytes") [.ref a]) Q E s := by
  refine callType_codes (Q₁ := fun obj s₁ => s₁.TypeIs obj "bytes" ∧ Q obj s₁) PySem.F.bm_called (PySem.F.bm_typeCall _) PySem.F.entry_object_init
    (bytes_of_ba_new ho hz fun t k => ⟨PySem.W.typeIs_bytes _ _ _, h t k⟩) fun obj s₁ h₁ => ?_
  exact ⟨h₁.1, PySem.F.args_object_init_2 obj _, object_init_meets PySem.F.bm_called.init.lookup PySem.F.bm_called.made (by decide) PP w A.in1 _ s₁ ⟨h₁.1, rfl, h₁.2⟩⟩
end
end
end Mine

/-! ## CleanCall -/
namespace Mine
section
open PySem PySem.W PyProof.Rows PySem.Calls
theorem fill : ∀ P h, (Hd.hd.heap_39 P).In h → PySem.Challenge.rw_ie0012_01.row.prog = PySem.Challenge.rw_ie0012_01.row.prog := by
  k_fill
  intros; rfl

theorem call_fn {w : World} {A : Around} {E : Value → Shared → Prop} {s : Shared} {name : Str} {params : Arguments} {body : List Stmt} {scope : Scope}
    {pm cd doc : Value} {a : Addr} {oc : Value} {args : List Value} {mg mb : Str → Option Value} {p : Program} {loose : List Str} {Q : Value → Shared → Prop}
    (X : (Hd.hd.heap_39 w.params).In s.heap) (T : TopRead p loose mg mb s.heap)
    (hroom : A.depth < recursionLimit)
    (ho : (Hd.hd.heap_39 w.params).lookup a = some ⟨oc, none, .func (docDef name params body scope pm cd doc), #[]⟩) (hcd : codeIn (Hd.hd.heap_39 w.params) cd name = true)
    (hbind : bindArgs (docDef name params body scope pm cd doc) ⟨args, []⟩ = pure ((params.args.map (·.arg)).zip args))
    (hloc : ∀ x ∈ (params.args.map (·.arg)).zip args, scope.names.lookup x.1 = some .local)
    (hco : scope.isCoroutine = false) (hgen : scope.isGenerator = false) (hk : scope.kind = .function)
    (hcell : ∀ x ∈ scope.names, x.2 ≠ .cell)
    (h : ∀ L h₁ tk, Fr s.heap L h₁ (fun x => ((params.args.map (·.arg)).zip args).reverse.lookup x) → News s.heap L h₁ [] → (Hd.hd.heap_39 w.params).In s.heap → TopRead p loose mg mb s.heap →
      wpAny (model PP w) (A.deeper (envOf name scope L a cd)) (execs body (envOf name scope L a cd))
        (fun f s' => Q (match f with | .ret v => v | _ => .none) s') (fun _ _ => False)
        { s with heap := h₁, toks := tk }) :
    wpAny (model PP w) A (call (.ref a) args) Q E s :=
  wpAny_call (call_pos_ret hroom (X _ _ ho) rfl T.nolimit (codeRec_of X hcd) hbind hloc (fun h₁ F => h _ h₁ _ F News.nil X T) hco hgen hk hcell)

section
variable {w : World} {A : Around} {E : Value → Shared → Prop} {s : Shared}
/-- the call of a plain def whose arguments are bound already: its frame, then its body -/
theorem codeC_def {a : Addr} {args : Args} {o : Obj} {fd : FuncData} {body : List Stmt} {binds : List (Str × Value)} {R : Result → Shared → Prop} (ho : s.heap.get? a = some o) (hf : o.data = .func fd)
    (plain : fd.scope.isGenerator = false ∧ fd.scope.isCoroutine = false) (stmts : fd.body = .stmts body) (named : s.heap.CodeRec fd.code fd.qualname) (bound : bindArgs fd args = pure binds) (room : A.depth < recursionLimit)
    (h : wpAny (model PP w) A.in1 (newFunctionEnv fd.scope fd.globals fd.closure binds (fd.qualname ++ ".<locals>.") (some a) fd.code none fd.builtins)
      (fun env s₂ => s₂.heap.NoLimit ∧ codeC w A (.func body env) R s₂) (fun e s' => R (.error e) s') s) :
    codeC w A (.call (.ref a) args) R s := by
  obtain ⟨c, oc, vs, tq, isRef, inHeap, fields, name⟩ := named
  have entry : wpAny (model PP w) A.in1 (callFunction a fd args) (fun fin s' => match fin with | .done f => R (.ok f) s' | .again c' => c'.quiet = true ∧ tameC c' = true ∧ codeC w A c' R s') (fun e s' => R (.error e) s') s := by
    unfold callFunction
    rw [bound, stmts, plain.1, plain.2]
    rw [isRef] at h ⊢
    refine wpAny_bind (wpAny_field inHeap fields name (wpAny_bind (wpAny_pure ?_)))
    exact wpAny_bind (wpAny_pure (wpAny_bind (wpAny_mono h (fun env s₂ g => wpAny_bind (wpAny_enterFrame g.1 room (wpAny_pure ⟨rfl, rfl, g.2⟩))) fun _ _ e => e)))
  refine codeC_of_tree (wpC_of_any ?_)
  refine wpAny_bind (m := load a) (wpAny_load ho ?_)
  rw [hf]
  exact entry
theorem wpC_point {Q : Unit → Shared → Prop} (h : Q () s) : wpC w A point Q E s := wpC_of_any (wpAny_point h)
theorem codeC_func {body : List Stmt} {env : Env} {R : Result → Shared → Prop}
    (h : wpC w (A.deeper env) (execs body env) (fun f s' => R (.ok (.ret (match f with | .ret v => v | _ => .none))) s') (fun _ _ => False) s) :
    codeC w A (.func body env) R s := by
  refine codeC_of_tree ?_
  show wpC w (A.deeper env) (do point; match ← (execs body env).onRaise (leaving env) with | .ret v => ret v | _ => ret .none) _ _ s
  refine wpC_bind (wpC_point (wpC_bind (wpC_onRaise (wpC_mono h (fun f s' h' => ?_) fun _ _ h' => h'.elim))))
  cases f <;> exact wpC_pure h'
theorem call_fnC {name : Str} {params : Arguments} {body : List Stmt} {scope : Scope}
    {pm cd doc : Value} {a : Addr} {oc : Value} {args : List Value} {mg mb : Str → Option Value} {p : Program} {loose : List Str} {Q : Value → Shared → Prop}
    (X : (Hd.hd.heap_39 w.params).In s.heap) (T : TopRead p loose mg mb s.heap)
    (hroom : A.depth < recursionLimit)
    (ho : (Hd.hd.heap_39 w.params).lookup a = some ⟨oc, none, .func (docDef name params body scope pm cd doc), #[]⟩) (hcd : codeIn (Hd.hd.heap_39 w.params) cd name = true)
    (hbind : bindArgs (docDef name params body scope pm cd doc) ⟨args, []⟩ = pure ((params.args.map (·.arg)).zip args))
    (hloc : ∀ x ∈ (params.args.map (·.arg)).zip args, scope.names.lookup x.1 = some .local)
    (hco : scope.isCoroutine = false) (hgen : scope.isGenerator = false) (hk : scope.kind = .function)
    (hcell : ∀ x ∈ scope.names, x.2 ≠ .cell)
    (h : ∀ L h₁ tk, Fr s.heap L h₁ (fun x => ((params.args.map (·.arg)).zip args).reverse.lookup x) → News s.heap L h₁ [] → (Hd.hd.heap_39 w.params).In s.heap → TopRead p loose mg mb s.heap →
      wpC w (A.deeper (envOf name scope L a cd)) (execs body (envOf name scope L a cd))
        (fun f s' => Q (match f with | .ret v => v | _ => .none) s') (fun _ _ => False)
        { s with heap := h₁, toks := tk }) :
    wpC w A (call (.ref a) args) Q E s := by
  refine wpC_call (codeC_def (X _ _ ho) rfl ⟨hgen, hco⟩ rfl (codeRec_of X hcd) hbind hroom ?_)
  refine (wpAny_newFunctionEnv hcell hloc (fun h₁ hns hsb => ⟨T.nolimit.fresh _ hsb, ?_⟩) hk)
  refine codeC_func ?_
  exact h s.heap.objs.size h₁ _ ⟨hns, fun b o e => hsb.extBut b o (Nat.ne_of_lt (Heap.lt_size e)) (Heap.get?_push_of_some _ e), Nat.le_refl _⟩ News.nil X T

theorem wpC_execs_cons {st : Stmt} {rest : List Stmt} {env : Env} {Q : Flow → Shared → Prop}
    (h : wpC w A (exec st env) (fun f s' => match f with | .next => wpC w A (execs rest env) Q E s' | f => Q f s') E s) : wpC w A (execs (st :: rest) env) Q E s := by
  rw [execs]
  refine wpC_bind (wpC_mono h (fun f s' h' => ?_) fun _ _ x => x)
  cases f with
  | next => exact h'
  | brk => exact wpC_pure h'
  | cont => exact wpC_pure h'
  | ret v => exact wpC_pure h'
theorem wpC_standAt {pos : Pos} {Q : Unit → Shared → Prop} (h : Q () s) : wpC w A (standAt pos) Q E s := wpC_of_any (wpAny_standAt h)
theorem wpC_keep {α : Type} {vs : List Value} {m : Sem α} {Q : α → Shared → Prop} (h : wpC w A m Q E s) : wpC w A (m.keep vs) Q E s := fun Γ p hΓ hc => by rw [Sem.wp_keep]; exact h Γ p hΓ hc
theorem wpC_Assign_Name {x : Str} {pos' : Pos} {value : Expr} {pos : Pos} {env : Env} {Q : Flow → Shared → Prop}
    (h : wpC w A (eval value env) (fun v s₁ => wpC w A (storeName env x v) (fun _ => Q .next) E s₁) E s)
    (hs : swapsWith value (some (.Name x pos')) pos.line env = pure false) :
    wpC w A (exec (.Assign [.Name x pos'] value pos) env) Q E s := fun Γ p hΓ hc => by
  simp only [exec_Assign_Name env x pos' value pos hs, Sem.wp_bind', Sem.wp_cmd_standAt, Sem.wp_bindName, Sem.wp_pure']
  exact Sem.wp_mono _ Γ _ (fun v _ s₁ h₁ => h₁ Γ _ hΓ hc) (fun _ _ _ h' => h') _ _ (h Γ _ hΓ hc)
theorem wpC_operate {vs : List Value} {m : Sem Value} {Q : Value → Shared → Prop} (h : wpC w A m Q E s) : wpC w A (operate vs m) Q E s := fun Γ p hΓ hc => by rw [Sem.wp_operate]; exact h Γ p hΓ hc
/-- a call without stars, whoever keeps its arguments: its arguments, a look at the callee, the call -/
theorem callWithC {pos : Pos} {f : Value} {es : List (Bool × Sem Value)} {Q : Value → Shared → Prop} (plain : es.any (·.1) = false) (few : es.length ≤ 10)
    (h : wpC w A (evalArgs f true es []) (fun a s₁ => wpAny (model PP w) A (keeperOf f) (fun _ s₂ => wpC w A (call f a.pos a.kw) Q E s₂) E s₁) E s) :
    wpC w A (callWith pos f [] es []) Q E s := by
  unfold callWith
  refine wpC_bind (wpC_holding (wpC_mono h (fun a s₁ look => wpC_bind (wpC_standAt ?_)) fun _ _ e => e))
  refine wpC_bind (wpC_mono (wpC_of_any look) (fun k s₂ go => ?_) fun _ _ e => e)
  have go : wpC w A (call f a.pos a.kw) (fun r s₃ => wpC w A (do holding [r] point; pure r) Q E s₃) E s₂ :=
    wpC_mono go (fun r s₃ q => wpC_bind (wpC_holding (wpC_point (wpC_pure q)))) fun _ _ e => e
  have small : ¬ es.length + 2 * ([] : List (Option Str × Sem Value)).length > 30 := by rw [List.length_nil]; omega
  simp only [plain, List.any_nil, Bool.or_self]
  cases k
  all_goals dsimp only
  all_goals first
    | exact wpC_bind go
    | exact wpC_bind (wpC_operate go)
    | (rw [if_neg small]; exact wpC_bind (wpC_keep go))
/-- the look at a def -/
theorem keeper_def {a : Addr} {o : Obj} {fd : FuncData} {Q : Keeper → Shared → Prop} (hd : o.data = .func fd) (ho : s.heap.get? a = some o) (h : Q .frame s) : wpAny (model PP w) A (keeperOf (.ref a)) Q E s :=
  wpAny_bind (wpAny_load ho (by rw [hd]; exact wpAny_pure h))
theorem evalC_Call {func : Expr} {args : List Expr} {pos : Pos} {env : Env} {Q : Value → Shared → Prop} (hf : eval (.Call func args [] pos) env = (do callWith pos (← eval func env) [] (backTo pos (starEach args env)) (backToKw pos (keywordEach [] env))))
    (h : wpAny (model PP w) A (eval func env) (fun f s₁ => wpC w A (callWith pos f [] (backTo pos (starEach args env)) []) Q E s₁) E s) : wpC w A (eval (.Call func args [] pos) env) Q E s := by
  rw [hf]
  exact wpC_bind_any h
/-- the same, of arguments as they are written -/
theorem callWithC_args {pos : Pos} {f : Value} {e : Expr} {rest : List Expr} {env : Env} {Q : Value → Shared → Prop} (he : starEach (e :: rest) env = (false, eval e env) :: starEach rest env)
    (plain : (backTo pos (starEach rest env)).any (·.1) = false) (few : (backTo pos (starEach (e :: rest) env)).length ≤ 10)
    (h : wpAny (model PP w) A (spliced (backTo pos (starEach (e :: rest) env))) (fun vs s₁ => wpAny (model PP w) A (keeperOf f) (fun _ s₂ => wpC w A (call f vs) Q E s₂) E s₁) E s) :
    wpC w A (callWith pos f [] (backTo pos (starEach (e :: rest) env)) []) Q E s := by
  refine callWithC ?_ few (wpC_of_any ?_)
  · rw [he]; exact plain
  · rw [he] at h ⊢; exact evalArgs_plain h
end
end
end Mine

/-! ## Loops -/
namespace Mine
section
open PySem PySem.W PyProof.Rows PySem.Calls
/-- the end of one turn of a loop -/
def StEnd {σ : Type} (h₀ : Heap) (L : Addr) (x : Str) (base : σ → Str → Option Value) (Nl : σ → List (Addr × Obj)) (R : σ → Prop) (own : List (Addr × Obj)) (s : Shared) (f : Flow) (s₂ : Shared) : Prop :=
  f = .next ∧ ∃ c u h' tk news', s₂ = { s with heap := h', toks := tk } ∧ R c ∧ Fr h₀ L h' (fun y => if y = x then u else base c y) ∧ News h₀ L h' news' ∧ (∀ p ∈ Nl c, p ∈ news') ∧ ∀ p ∈ own, p ∈ news'
section
variable {w : World} {A : Around} {E : Value → Shared → Prop} {s : Shared} {env : Env} {h₀ : Heap} {x : Str} {body : List Stmt} {Q : Flow → Shared → Prop}
/-- the walker stops here: the loop's source is there, the loop is to be run -/
def AtIter (w : World) (A : Around) (h₀ : Heap) (env : Env) (x : Str) (body : List Stmt) (Q : Flow → Shared → Prop) (E : Value → Shared → Prop) (xv : Value) (s₁ : Shared) : Prop :=
  wpAny (model PP w) A (pyIter xv) (fun it s₂ => LoopAtV PP w A h₀ env x body Q E it s₂) E s₁
theorem for_at {px pos : Pos} {iter : Expr} {m : Str → Option Value} (F : Fr h₀ env.locals s.heap m) (hx : env.kindOf x = some .local)
    (hp : (env.scope.kind == .class || (env.scope.kind == .module && env.locals != env.globals)) = false)
    (hE : PassesOwn (model PP w) A env E) (hs : ∀ x, foldedSetIterable iter env x = pure x)
    (h : wpAny (model PP w) A (eval iter env) (fun xv s₁ => AtIter w A h₀ env x body Q E xv s₁) E s) :
    wpAny (model PP w) A (exec (.For (.Name x px) iter body [] pos) env) Q E s := For_invV h₀ hx hp h hs hE
theorem upd_twice {x : Str} {v u : Option Value} {b : Str → Option Value} : (fun y => if y = x then v else (fun z => if z = x then u else b z) y) = fun y => if y = x then v else b y := by
  funext y
  by_cases h : y = x
  · simp [h]
  · simp [h]
theorem upd_self {x : Str} {b : Str → Option Value} : (fun y => if y = x then b x else b y) = b := by
  funext y
  by_cases h : y = x
  · simp [h]
  · simp [h]
theorem st_loop {σ : Type} {I : Addr} {fp wr : List Addr} {n : Nat} {P : Nat → Value → Prop} {St : Nat → Heap → Prop} (base : σ → Str → Option Value) (Nl : σ → List (Addr × Obj)) (R : Nat → σ → Prop) (c₀ : σ)
    (same : ∀ c, (Nl c).map (·.1) = (Nl c₀).map (·.1))
    (W : Walks PP w A I fp wr n P St) (hLf : env.locals ∉ fp) (hwr : ∀ b ∈ wr, h₀.get? b = none) (hnw : ∀ p ∈ Nl c₀, p.1 ∉ wr) (hfp : ∀ q ∈ Nl c₀, q.1 ∉ fp) (hst : St 0 s.heap) (F : Fr h₀ env.locals s.heap (base c₀)) (N : News h₀ env.locals s.heap (Nl c₀)) (h0 : R 0 c₀)
    (turn : ∀ i c v h tk own, i < n → P i v → R i c → OwnOff own ((Nl c₀).map (·.1)) → Fr h₀ env.locals h (fun y => if y = x then some v else base c y) → News h₀ env.locals h (Nl c ++ own) →
      wpAny (model PP w) A (execs body env) (StEnd h₀ env.locals x base Nl (R (i + 1)) own { s with heap := h, toks := tk }) E { s with heap := h, toks := tk })
    (done : ∀ c u h tk, R n c → Fr h₀ env.locals h (fun y => if y = x then u else base c y) → News h₀ env.locals h (Nl c) → Q .next { s with heap := h, toks := tk }) :
    LoopAtV PP w A h₀ env x body Q E (.ref I) s := by
  refine loop_invN (fun i m nx => ∃ c u, R i c ∧ m = (fun y => if y = x then u else base c y) ∧ nx = Nl c) W hLf hwr hnw hfp hst F N ⟨c₀, base c₀ x, h0, upd_self.symm, rfl⟩ ?_ ?_
  · rintro i v m₁ news₁ h tk own hi hP - hoff ⟨c, u, hR, rfl, rfl⟩ F₁ N₁
    refine wpAny_mono (turn i c v h tk own hi hP hR hoff ?_ N₁) (fun f s₂ hs => ?_) fun _ _ e => e
    · rw [← upd_twice (u := u)]; exact F₁
    · obtain ⟨rfl, c', u', h', tk', news', rfl, hR', F', N', hn, ho⟩ := hs
      exact ⟨h', tk', _, news', Nl c', rfl, F', N', hn, ho, same c', c', u', hR', rfl, rfl⟩
  · rintro m₁ news₁ h tk ⟨c, u, hR, rfl, rfl⟩ F₁ N₁
    exact done c u h tk hR F₁ N₁
theorem st_range {σ : Type} {r : Addr} {a b st : Int} {t₀ u₀ v₀ : Tok} {n : Nat} (base : σ → Str → Option Value) (Nl : σ → List (Addr × Obj)) (R : Nat → σ → Prop) (c₀ : σ)
    (same : ∀ c, (Nl c).map (·.1) = (Nl c₀).map (·.1)) (hh : A.handled = none) (hr : IsRange s.heap r a b st t₀ u₀ v₀) (hsmall : Builtin.Range.small a b st = true) (hn : Builtin.Range.rangeSize a b st = (n : Int))
    (F : Fr h₀ env.locals s.heap (base c₀)) (N : News h₀ env.locals s.heap (Nl c₀)) (h0 : R 0 c₀)
    (turn : ∀ i c t h tk own, i < n → R i c → OwnOff own ((Nl c₀).map (·.1)) → Fr h₀ env.locals h (fun y => if y = x then some (.int (a + i * st) t) else base c y) → News h₀ env.locals h (Nl c ++ own) →
      wpAny (model PP w) A (execs body env) (StEnd h₀ env.locals x base Nl (R (i + 1)) own { s with heap := h, toks := tk }) E { s with heap := h, toks := tk })
    (done : ∀ c u h tk, R n c → Fr h₀ env.locals h (fun y => if y = x then u else base c y) → News h₀ env.locals h (Nl c) → Q .next { s with heap := h, toks := tk }) :
    AtIter w A h₀ env x body Q E (.ref r) s := by
  unfold AtIter
  refine wpAny_pyIter_range hr hsmall ?_
  refine st_loop base Nl R c₀ same (Walks.range hh s.heap.objs.size a st n) ?_ ?_ ?_ ?_ (by show IsRangeIter _ _ _ _ _; rw [hn]; simpa using Heap.get?_push_size _ rfl) (F.push _) (fun p hp => ⟨Heap.get?_push_of_some _ (N p hp).1, (N p hp).2⟩) h0 ?_ ?_
  · intro hm
    exact absurd F.ns.lt ((List.mem_singleton.mp hm) ▸ Nat.lt_irrefl _)
  · intro b hb
    rw [List.mem_singleton.mp hb]
    exact next_is_new F
  · intro p hp hI
    exact absurd (Heap.lt_size (N p hp).1) ((List.mem_singleton.mp hI) ▸ Nat.lt_irrefl _)
  · intro p hp hI
    exact absurd (Heap.lt_size (N p hp).1) ((List.mem_singleton.mp hI) ▸ Nat.lt_irrefl _)
  · rintro i c v h tk own hi ⟨t, rfl⟩ hR hoff F₁ N₁
    exact turn i c t h tk own hi hR hoff F₁ N₁
  · exact done
theorem fr_swap {L : Addr} {h : Heap} {x z : Str} {a b c : Option Value} {rest : Str → Option Value} (hne : (x == z) = false) (F : Fr h₀ L h fun y => if y = x then a else if y = z then b else if y = x then c else rest y) :
    Fr h₀ L h fun y => if y = z then b else if y = x then a else rest y := by
  have hne' : x ≠ z := by simpa using hne
  refine (funext fun y => ?_ : (fun y => if y = x then a else if y = z then b else if y = x then c else rest y) = fun y => if y = z then b else if y = x then a else rest y) ▸ F
  by_cases h1 : y = x
  · subst h1; simp [hne']
  · simp [h1]
/-- a list that stood before the frame -/
theorem st_list {σ : Type} {l : Addr} {vs : Array Value} (base : σ → Str → Option Value) (Nl : σ → List (Addr × Obj)) (R : Nat → σ → Prop) (c₀ : σ)
    (same : ∀ c, (Nl c).map (·.1) = (Nl c₀).map (·.1)) (hh : A.handled = none) (hls : s.heap.IsList l vs) (hl0 : l ≠ env.locals) (hln : ∀ p ∈ Nl c₀, p.1 ≠ l)
    (F : Fr h₀ env.locals s.heap (base c₀)) (N : News h₀ env.locals s.heap (Nl c₀)) (h0 : R 0 c₀)
    (turn : ∀ i c v h tk own, (hi : i < vs.size) → vs[i]? = some v → R i c → OwnOff own ((Nl c₀).map (·.1)) → Fr h₀ env.locals h (fun y => if y = x then some v else base c y) → News h₀ env.locals h (Nl c ++ own) →
      wpAny (model PP w) A (execs body env) (StEnd h₀ env.locals x base Nl (R (i + 1)) own { s with heap := h, toks := tk }) E { s with heap := h, toks := tk })
    (done : ∀ c u h tk, R vs.size c → Fr h₀ env.locals h (fun y => if y = x then u else base c y) → News h₀ env.locals h (Nl c) → Q .next { s with heap := h, toks := tk }) :
    AtIter w A h₀ env x body Q E (.ref l) s := by
  unfold AtIter
  obtain ⟨ol, hol, hrest⟩ := id hls
  have hne : l ≠ s.heap.objs.size := Nat.ne_of_lt (Heap.lt_size hol)
  refine wpAny_pyIter_list hls ?_
  have hneq : s.heap.objs.size ≠ env.locals := (Nat.ne_of_lt F.ns.lt).symm
  refine st_loop base Nl R c₀ same (Walks.list hh s.heap.objs.size l hne vs) ?_ ?_ ?_ ?_ ⟨⟨_, Heap.get?_push_size _ rfl, rfl, rfl⟩, hls.at fun o e => Heap.get?_push_of_some _ e⟩ (F.push _) (fun p hp => ⟨Heap.get?_push_of_some _ (N p hp).1, (N p hp).2⟩) h0 ?_ ?_
  · intro hm
    rcases List.mem_cons.mp hm with e | hm
    · exact absurd e.symm hneq
    · exact absurd (List.mem_singleton.mp hm).symm hl0
  · intro b hb
    rw [List.mem_singleton.mp hb]
    exact next_is_new F
  · intro p hp hI
    exact absurd (Heap.lt_size (N p hp).1) ((List.mem_singleton.mp hI) ▸ Nat.lt_irrefl _)
  · intro p hp hI
    rcases List.mem_cons.mp hI with e | hm
    · exact absurd (Heap.lt_size (N p hp).1) (e ▸ Nat.lt_irrefl _)
    · exact absurd (List.mem_singleton.mp hm) (hln p hp)
  · rintro i c v h tk own hi hv hR hoff F₁ N₁
    exact turn i c v h tk own hi hv hR hoff F₁ N₁
  · exact done
end
end
end Mine

/-! ## LoopsS -/
namespace Mine
section
open PySem PySem.W PyProof.Rows PySem.Calls
/-- everything on the heap that is neither old nor the frame's own dict, nor at a given address -/
def snapOf (h₀ : Heap) (L I : Addr) (h : Heap) : List (Addr × Obj) := ownOf h₀ ((List.range h.objs.size).filter fun b => decide (b ≠ L ∧ b ≠ I)) h
theorem mem_snap {h₀ h : Heap} {L I b : Addr} {o : Obj} (hn : h₀.get? b = none) (ho : h.get? b = some o) (hL : b ≠ L) (hI : b ≠ I) : (b, o) ∈ snapOf h₀ L I h :=
  mem_ownOf (List.mem_filter.mpr ⟨List.mem_range.mpr (Heap.lt_size ho), by simpa using ⟨hL, hI⟩⟩) hn ho
theorem news_snap {h₀ h : Heap} {L I : Addr} : News h₀ L h (snapOf h₀ L I h) := news_ownOf fun hm => by simpa using (List.mem_filter.mp hm).2
theorem off_snap {h₀ h : Heap} {L I : Addr} {p : Addr × Obj} (hp : p ∈ snapOf h₀ L I h) : p.1 ≠ I := by
  have := ownOf_sub p hp
  have := (List.mem_filter.mp this).2
  simp at this
  exact this.2
/-- what a heap keeps of another: all but the frame's dict and the objects of one class -/
def KeptBut (L : Addr) (T : String) (h h' : Heap) : Prop := ∀ b o, (b = L → ∃ items n, o.data = .seq items n) → o.cls ≠ .type T → h.get? b = some o → h'.get? b = some o
def KeptAll (L : Addr) (h h' : Heap) : Prop := ∀ b o, b ≠ L → h.get? b = some o → h'.get? b = some o
theorem ne_of_seq {h₀ h : Heap} {L b : Addr} {m : Str → Option Value} {o : Obj} (F : Fr h₀ L h m) (e : h.get? b = some o) (hd : b = L → ∃ items n, o.data = .seq items n) : b ≠ L := by
  rintro rfl
  obtain ⟨items, n, hs⟩ := hd rfl
  obtain ⟨oL, es, ep, hL, hdat, _⟩ := F.ns
  rw [e] at hL
  cases hL
  rw [hs] at hdat
  cases hdat
theorem KeptAll.but {h₀ : Heap} {L : Addr} {T : String} {h h' : Heap} {m : Str → Option Value} (F : Fr h₀ L h m) (k : KeptAll L h h') : KeptBut L T h h' := fun b o hb _ e => k b o (ne_of_seq F e hb) e
theorem KeptAll.refl {L : Addr} {h : Heap} : KeptAll L h h := fun _ _ _ e => e
theorem KeptAll.trans {L : Addr} {h h' h'' : Heap} (k : KeptAll L h h') (k' : KeptAll L h' h'') : KeptAll L h h'' := fun b o hb e => k' b o hb (k b o hb e)
theorem KeptAll.of {L : Addr} {h h' : Heap} (k : ∀ b o, h.get? b = some o → h'.get? b = some o) : KeptAll L h h' := fun b o _ e => k b o e
/-- all that stands can be laid on the ledger -/
theorem snap_all {h₀ h : Heap} {L : Addr} {m : Str → Option Value} (F : Fr h₀ L h m) : ∃ led, News h₀ L h led ∧ ∀ h' m', Fr h₀ L h' m' → News h₀ L h' led → KeptAll L h h' := by
  refine ⟨snapOf h₀ L h.objs.size h, news_snap, fun h' m' F' N b o hb e => ?_⟩
  cases hn : h₀.get? b with
  | some o₀ =>
    have := F.keep b o₀ hn
    rw [e] at this
    cases this
    exact F'.keep b o hn
  | none => exact (N _ (mem_snap hn e hb (Nat.ne_of_lt (Heap.lt_size e)))).1
def StEndS {σ : Type} (h₀ : Heap) (L : Addr) (x : Str) (base : σ → Str → Option Value) (R : σ → Heap → Prop) (led : List (Addr × Obj)) (s : Shared) (f : Flow) (s₂ : Shared) : Prop :=
  f = .next ∧ ∃ c u h' tk news', s₂ = { s with heap := h', toks := tk } ∧ R c h' ∧ Fr h₀ L h' (fun y => if y = x then u else base c y) ∧ News h₀ L h' news' ∧ ∀ p ∈ led, p ∈ news'
section
variable {w : World} {A : Around} {E : Value → Shared → Prop} {s : Shared} {env : Env} {h₀ : Heap} {x : Str} {body : List Stmt} {Q : Flow → Shared → Prop}
theorem st_loopS {σ : Type} {I : Addr} {fp : List Addr} {n : Nat} {P : Nat → Value → Prop} {St : Nat → Heap → Prop} {T : String} (base : σ → Str → Option Value) (R : Nat → σ → Heap → Prop) (c₀ : σ)
    (hmono : ∀ i c h h', R i c h → KeptBut env.locals T h h' → R i c h')
    (W : Walks PP w A I fp [I] n P St) (hSt : ∀ i h, St i h → ∃ o, h.get? I = some o ∧ o.cls = .type T) (hLf : env.locals ∉ fp) (hI : h₀.get? I = none) (hs : ∀ o, s.heap.get? I = some o → o.cls = .type T) (hst : St 0 s.heap) (F : Fr h₀ env.locals s.heap (base c₀)) (h0 : R 0 c₀ s.heap)
    (turn : ∀ i c v h tk led, i < n → P i v → R i c h → (∀ h' m', Fr h₀ env.locals h' m' → News h₀ env.locals h' led → R i c h') → Fr h₀ env.locals h (fun y => if y = x then some v else base c y) → News h₀ env.locals h led →
      wpAny (model PP w) A (execs body env) (StEndS h₀ env.locals x base (R (i + 1)) led { s with heap := h, toks := tk }) E { s with heap := h, toks := tk })
    (done : ∀ c u h tk, R n c h → Fr h₀ env.locals h (fun y => if y = x then u else base c y) → KeptBut env.locals T s.heap h → Q .next { s with heap := h, toks := tk }) :
    LoopAtV PP w A h₀ env x body Q E (.ref I) s := by
  have old : ∀ {h₁ h₂ : Heap} {m₁ m₂ : Str → Option Value} {b : Addr} {o : Obj}, Fr h₀ env.locals h₁ m₁ → Fr h₀ env.locals h₂ m₂ → h₁.get? b = some o → (∃ o₀, h₀.get? b = some o₀) → h₂.get? b = some o := by
    rintro h₁ h₂ m₁ m₂ b o F₁ F₂ e ⟨o₀, e₀⟩
    have := F₁.keep b o₀ e₀
    rw [e] at this
    cases this
    exact F₂.keep b o e₀
  refine ⟨I, fp, [I], n, P, St, base c₀, snapOf h₀ env.locals I s.heap,
    fun i m nx => ∃ c u hc mc, R i c hc ∧ Fr h₀ env.locals hc mc ∧ m = (fun y => if y = x then u else base c y) ∧ (∀ b o, (b = env.locals → ∃ items n, o.data = .seq items n) → o.cls ≠ .type T → hc.get? b = some o → h₀.get? b = none → (b, o) ∈ nx) ∧ KeptBut env.locals T s.heap hc,
    rfl, W, hLf, fun b hb => by rw [List.mem_singleton.mp hb]; exact hI, fun p hp h => off_snap hp (List.mem_singleton.mp h), hst, F, news_snap, ⟨c₀, _, s.heap, _, h0, F, upd_self.symm, ?_, fun _ _ _ _ e => e⟩, ?_, ?_⟩
  · intro b o hb ho e hn
    exact mem_snap hn e (ne_of_seq F e hb) fun h => ho (hs o (h ▸ e))
  · rintro i v m₁ news₁ s₁ own ⟨h, tk, rfl⟩ hi hP ⟨c, u, hc, mc, hR, Fc, rfl, hcov, hk₀⟩ - - hown hall hst' F₁ N₁
    have keep : ∀ h' m', Fr h₀ env.locals h' m' → News h₀ env.locals h' (own ++ news₁) → KeptBut env.locals T hc h' := by
      intro h' m' F' N' b o hb ho e
      cases hn : h₀.get? b with
      | some o₀ => exact old Fc F' e ⟨o₀, hn⟩
      | none => exact (N' _ (List.mem_append_right _ (hcov b o hb ho e hn))).1
    refine wpAny_mono (turn i c v h tk (own ++ news₁) hi hP (hmono _ _ _ _ hR (keep _ _ F₁ N₁)) (fun h' m' F' N' => hmono _ _ _ _ hR (keep h' m' F' N')) (by rw [← upd_twice (u := u)]; exact F₁) N₁) (fun f s₂ hs => ?_) fun _ _ e => e
    obtain ⟨rfl, c', u', h', tk', news', rfl, hR', F', N', hled⟩ := hs
    have N'' : News h₀ env.locals h' (own ++ news₁) := fun p hp => N' p (hled p hp)
    have hIo : ∃ o, h'.get? I = some o ∧ o.cls = .type T := by
      obtain ⟨o, ho, hc'⟩ := hSt _ _ hst'
      exact ⟨o, (N'' _ (List.mem_append_left _ (hall I (W.sub I (.head _)) hI o ho))).1, hc'⟩
    refine .next ⟨rfl, h', tk', _, snapOf h₀ env.locals I h', rfl, F', fun p hp => (List.mem_append.mp hp).elim (fun q => N'' p (List.mem_append_left _ q)) (fun q => news_snap p q), fun p hp h => off_snap hp (List.mem_singleton.mp h), c', u', h', _, hR', F', rfl, ?_, ?_⟩
    · intro b o hb ho e hn
      refine mem_snap hn e (ne_of_seq F' e hb) ?_
      rintro rfl
      obtain ⟨o', ho', hc'⟩ := hIo
      rw [e] at ho'; cases ho'
      exact ho hc'
    · intro b o hb ho e
      exact keep h' _ F' N'' b o hb ho (hk₀ b o hb ho e)
  · rintro h' tk m' news' F' N' _ ⟨c, u, hc, mc, hR, Fc, rfl, hcov, hk₀⟩
    have keep : KeptBut env.locals T hc h' := by
      intro b o hb ho e
      cases hn : h₀.get? b with
      | some o₀ => exact old Fc F' e ⟨o₀, hn⟩
      | none => exact (N' _ (hcov b o hb ho e hn)).1
    exact done c u h' tk (hmono _ _ _ _ hR keep) F' fun b o hb ho e => keep b o hb ho (hk₀ b o hb ho e)
theorem st_rangeS {σ : Type} {r : Addr} {a b st : Int} {t₀ u₀ v₀ : Tok} {n : Nat} (base : σ → Str → Option Value) (R : Nat → σ → Heap → Prop) (c₀ : σ)
    (hmono : ∀ i c h h', R i c h → KeptBut env.locals "range_iterator" h h' → R i c h')
    (hh : A.handled = none) (hr : IsRange s.heap r a b st t₀ u₀ v₀) (hsmall : Builtin.Range.small a b st = true) (hn : Builtin.Range.rangeSize a b st = (n : Int))
    (F : Fr h₀ env.locals s.heap (base c₀)) (h0 : R 0 c₀ s.heap)
    (turn : ∀ i c t h tk led, i < n → R i c h → (∀ h' m', Fr h₀ env.locals h' m' → News h₀ env.locals h' led → R i c h') → Fr h₀ env.locals h (fun y => if y = x then some (.int (a + i * st) t) else base c y) → News h₀ env.locals h led →
      wpAny (model PP w) A (execs body env) (StEndS h₀ env.locals x base (R (i + 1)) led { s with heap := h, toks := tk }) E { s with heap := h, toks := tk })
    (done : ∀ c u h tk, R n c h → Fr h₀ env.locals h (fun y => if y = x then u else base c y) → KeptBut env.locals "range_iterator" s.heap h → Q .next { s with heap := h, toks := tk }) :
    AtIter w A h₀ env x body Q E (.ref r) s := by
  unfold AtIter
  refine wpAny_pyIter_range hr hsmall ?_
  refine st_loopS base R c₀ hmono (Walks.range hh s.heap.objs.size a st n) ?_ ?_ (next_is_new F) ?_ (by show IsRangeIter _ _ _ _ _; rw [hn]; simpa using Heap.get?_push_size _ rfl) (F.push _) (hmono _ _ _ _ h0 fun b o _ _ e => Heap.get?_push_of_some _ e) ?_ ?_
  · intro i h st
    exact ⟨_, st, rfl⟩
  · intro hm
    exact absurd F.ns.lt ((List.mem_singleton.mp hm) ▸ Nat.lt_irrefl _)
  · intro o e
    rw [Heap.get?_push_size _ rfl] at e
    cases e; rfl
  · rintro i c v h tk led hi ⟨t, rfl⟩ hR hk F₁ N₁
    exact turn i c t h tk led hi hR hk F₁ N₁
  · intro c u h tk hR F' hk
    exact done c u h tk hR F' fun b o hb ho e => hk b o hb ho (Heap.get?_push_of_some _ e)
theorem st_listS {σ : Type} {l : Addr} {vs : Array Value} (base : σ → Str → Option Value) (R : Nat → σ → Heap → Prop) (c₀ : σ)
    (hmono : ∀ i c h h', R i c h → KeptBut env.locals "list_iterator" h h' → R i c h')
    (hh : A.handled = none) (hls : s.heap.IsList l vs) (hl0 : l ≠ env.locals)
    (F : Fr h₀ env.locals s.heap (base c₀)) (h0 : R 0 c₀ s.heap)
    (turn : ∀ i c v h tk led, i < vs.size → vs[i]? = some v → R i c h → (∀ h' m', Fr h₀ env.locals h' m' → News h₀ env.locals h' led → R i c h') → Fr h₀ env.locals h (fun y => if y = x then some v else base c y) → News h₀ env.locals h led →
      wpAny (model PP w) A (execs body env) (StEndS h₀ env.locals x base (R (i + 1)) led { s with heap := h, toks := tk }) E { s with heap := h, toks := tk })
    (done : ∀ c u h tk, R vs.size c h → Fr h₀ env.locals h (fun y => if y = x then u else base c y) → KeptBut env.locals "list_iterator" s.heap h → Q .next { s with heap := h, toks := tk }) :
    AtIter w A h₀ env x body Q E (.ref l) s := by
  unfold AtIter
  obtain ⟨ol, hol, hrest⟩ := id hls
  have hne : l ≠ s.heap.objs.size := Nat.ne_of_lt (Heap.lt_size hol)
  refine wpAny_pyIter_list hls ?_
  have hneq : s.heap.objs.size ≠ env.locals := (Nat.ne_of_lt F.ns.lt).symm
  refine st_loopS base R c₀ hmono (Walks.list hh s.heap.objs.size l hne vs) ?_ ?_ (next_is_new F) ?_ ⟨⟨_, Heap.get?_push_size _ rfl, rfl, rfl⟩, hls.at fun o e => Heap.get?_push_of_some _ e⟩ (F.push _) (hmono _ _ _ _ h0 fun b o _ _ e => Heap.get?_push_of_some _ e) ?_ ?_
  · rintro i h ⟨⟨o1, h1, h2, _⟩, _⟩
    exact ⟨_, h1, h2⟩
  · intro hm
    rcases List.mem_cons.mp hm with e | hm
    · exact absurd e.symm hneq
    · exact absurd (List.mem_singleton.mp hm).symm hl0
  · intro o e
    rw [Heap.get?_push_size _ rfl] at e
    cases e; rfl
  · rintro i c v h tk led hi hv hR hk F₁ N₁
    exact turn i c v h tk led hi hv hR hk F₁ N₁
  · intro c u h tk hR F' hk
    exact done c u h tk hR F' fun b o hb ho e => hk b o hb ho (Heap.get?_push_of_some _ e)
end
/-- the walker stops before a call of a function -/
def CallAt (w : World) (A : Around) (f : Value) (args : List Value) (Q : Value → Shared → Prop) (E : Value → Shared → Prop) (s : Shared) : Prop := wpAny (model PP w) A (call f args) Q E s
theorem call_stop {w : World} {A : Around} {f : Value} {args : List Value} {Q : Value → Shared → Prop} {E : Value → Shared → Prop} {s : Shared} (h : CallAt w A f args Q E s) : wpAny (model PP w) A (call f args) Q E s := h
end
end Mine

/-! ## LoopsC -/
namespace Mine
section
open PySem PySem.W PyProof.Rows PySem.Calls
section
variable {w : World} {A : Around} {E : Value → Shared → Prop} {s : Shared}
/-- enter a def with cells -/
theorem call_fn_cells {name : Str} {params : Arguments} {body : List Stmt} {scope : Scope}
    {pm cd doc : Value} {a : Addr} {oc : Value} {args : List Value} {mg mb : Str → Option Value} {p : Program} {loose : List Str} {Q : Value → Shared → Prop}
    (X : (Hd.hd.heap_39 w.params).In s.heap) (T : TopRead p loose mg mb s.heap)
    (hroom : A.depth < recursionLimit)
    (ho : (Hd.hd.heap_39 w.params).lookup a = some ⟨oc, none, .func (docDef name params body scope pm cd doc), #[]⟩) (hcd : codeIn (Hd.hd.heap_39 w.params) cd name = true)
    (hbind : bindArgs (docDef name params body scope pm cd doc) ⟨args, []⟩ = pure ((params.args.map (·.arg)).zip args))
    (hkind : ∀ n, ∀ x ∈ (params.args.map (·.arg)).zip args, scope.names.lookup x.1 = some .local ∨ (scope.names.lookup x.1 = some .cell ∧ ((cellsFrom n scope.names []).lookup x.1).isSome = true))
    (hnd : ((cellsFrom 0 scope.names []).map (·.1)).Nodup)
    (hco : scope.isCoroutine = false) (hgen : scope.isGenerator = false) (hk : scope.kind = .function)
    (h : ∀ L h₁ tk cells, Fr s.heap L h₁ (bindL (envOfC name scope L a cd).kindOf ((params.args.map (·.arg)).zip args) fun _ => none) → News s.heap L h₁ cells →
      CellsAre (bindC (envOfC name scope L a cd).kindOf ((params.args.map (·.arg)).zip args) fun _ => none) (cellsFrom (L + 1) scope.names []) cells →
      (Hd.hd.heap_39 w.params).In s.heap → TopRead p loose mg mb s.heap →
      wpAny (model PP w) (A.deeper (envOfC name scope L a cd)) (execs body (envOfC name scope L a cd))
        (fun f s' => Q (match f with | .ret v => v | _ => .none) s') (fun _ _ => False)
        { s with heap := h₁, toks := tk }) :
    wpAny (model PP w) A (call (.ref a) args) Q E s :=
  wpAny_call (call_cellsN_ret hroom (X _ _ ho) rfl T.nolimit (codeRec_of X hcd) hbind (hkind _) hnd (fun h₁ tk cells F N Y => h _ h₁ tk cells F N Y X T) hco hgen hk)
end
/-- the same for the clean contexts -/
theorem call_fn_cellsC {w : World} {A : Around} {E : Value → Shared → Prop} {s : Shared} {name : Str} {params : Arguments} {body : List Stmt} {scope : Scope}
    {pm cd doc : Value} {a : Addr} {oc : Value} {args : List Value} {mg mb : Str → Option Value} {p : Program} {loose : List Str} {Q : Value → Shared → Prop}
    (X : (Hd.hd.heap_39 w.params).In s.heap) (T : TopRead p loose mg mb s.heap)
    (hroom : A.depth < recursionLimit)
    (ho : (Hd.hd.heap_39 w.params).lookup a = some ⟨oc, none, .func (docDef name params body scope pm cd doc), #[]⟩) (hcd : codeIn (Hd.hd.heap_39 w.params) cd name = true)
    (hbind : bindArgs (docDef name params body scope pm cd doc) ⟨args, []⟩ = pure ((params.args.map (·.arg)).zip args))
    (hkind : ∀ n, ∀ x ∈ (params.args.map (·.arg)).zip args, scope.names.lookup x.1 = some .local ∨ (scope.names.lookup x.1 = some .cell ∧ ((cellsFrom n scope.names []).lookup x.1).isSome = true))
    (hnd : ((cellsFrom 0 scope.names []).map (·.1)).Nodup)
    (hco : scope.isCoroutine = false) (hgen : scope.isGenerator = false) (hk : scope.kind = .function)
    (h : ∀ L h₁ tk cells, Fr s.heap L h₁ (bindL (envOfC name scope L a cd).kindOf ((params.args.map (·.arg)).zip args) fun _ => none) → News s.heap L h₁ cells →
      CellsAre (bindC (envOfC name scope L a cd).kindOf ((params.args.map (·.arg)).zip args) fun _ => none) (cellsFrom (L + 1) scope.names []) cells →
      (Hd.hd.heap_39 w.params).In s.heap → TopRead p loose mg mb s.heap →
      wpC w (A.deeper (envOfC name scope L a cd)) (execs body (envOfC name scope L a cd))
        (fun f s' => Q (match f with | .ret v => v | _ => .none) s') (fun _ _ => False)
        { s with heap := h₁, toks := tk }) :
    wpC w A (call (.ref a) args) Q E s := by
  refine wpC_call (codeC_def (X _ _ ho) rfl ⟨hgen, hco⟩ rfl (codeRec_of X hcd) hbind hroom ?_)
  refine (wpAny_newFunctionEnv_cells hk (hkind _) fun env' he s' x => ?_)
  subst he
  refine ⟨T.nolimit.keeps x.toInCall.keep, codeC_func ?_⟩
  obtain ⟨h₁, tk, rfl, _⟩ := x.done
  obtain ⟨cells, N, Y⟩ := Cl.news (h₀ := s.heap) (Nat.le_refl _) fun n c hm => ⟨x.cell n c (lookup_of_mem_nodup (cellsFrom_names scope.names 0 (s.heap.objs.size + 1) [] [] rfl ▸ hnd) hm), x.above n c hm⟩
  exact h s.heap.objs.size h₁ tk cells ⟨x.toInCall.ns, x.toInCall.keep, Nat.le_refl _⟩ N Y X T
def KeptC (L : Addr) (T : String) (h h' : Heap) : Prop := ∀ b o, (b = L → ∃ items n, o.data = .seq items n) → (∀ v, o.data ≠ .cell v) → o.cls ≠ .type T → h.get? b = some o → h'.get? b = some o
def StEndC {σ : Type} (h₀ : Heap) (L : Addr) (base : σ → Str → Option Value) (R : σ → Heap → Prop) (led : List (Addr × Obj)) (s : Shared) (f : Flow) (s₂ : Shared) : Prop :=
  f = .next ∧ ∃ c h' tk news', s₂ = { s with heap := h', toks := tk } ∧ R c h' ∧ Fr h₀ L h' (base c) ∧ News h₀ L h' news' ∧ ∀ p ∈ led, p ∈ news'
/-- the walker stops here: a loop over a source -/
def AtRaw (w : World) (A : Around) (env : Env) (target : Expr) (body : List Stmt) (Q : Flow → Shared → Prop) (E : Value → Shared → Prop) (xv : Value) (s₁ : Shared) : Prop :=
  wpAny (model PP w) A (pyIter xv) (fun it s₂ => codeAny (model PP w) A (.forLoop target it body [] env) (fun r s' => match r with | .ok f => Q f s' | .error e => cameBackBy (model PP w) A env E e s') s₂) E s₁
section
variable {w : World} {A : Around} {s : Shared} {env : Env} {h₀ : Heap} {x : Str} {px : Pos} {body : List Stmt} {Q : Flow → Shared → Prop}
theorem for_raw {E : Value → Shared → Prop} {target iter : Expr} {pos : Pos} (hs : ∀ x, foldedSetIterable iter env x = pure x)
    (h : wpAny (model PP w) A (eval iter env) (fun xv s₁ => AtRaw w A env target body Q E xv s₁) E s) :
    wpAny (model PP w) A (exec (.For target iter body [] pos) env) Q E s := wpAny_For h hs
theorem st_walkC {σ : Type} {I ck : Addr} {fp : List Addr} {n : Nat} {P : Nat → Value → Prop} {St : Nat → Heap → Prop} {T : String} (base : σ → Str → Option Value) (fixed : List (Addr × Obj)) (R : Nat → σ → Heap → Prop) (c₀ : σ)
    (hmono : ∀ i c h h', R i c h → KeptC env.locals T h h' → R i c h')
    (W : Walks PP w A I fp [I] n P St) (hSt : ∀ i h, St i h → (∃ o, h.get? I = some o ∧ o.cls = .type T ∧ ∀ v, o.data ≠ .cell v) ∧ ∀ b ∈ fp, ∃ o, h.get? b = some o) (hLf : env.locals ∉ fp) (hI : h₀.get? I = none)
    (hcf : ck ∉ fp) (hck0 : h₀.get? ck = none) (hckL : ck ≠ env.locals) (hst : St 0 s.heap) (hcell : ∃ v, s.heap.IsCell ck v) (F : Fr h₀ env.locals s.heap (base c₀)) (N : News h₀ env.locals s.heap fixed) (hoff : ∀ p ∈ fixed, p.1 ≠ I ∧ p.1 ≠ ck) (h0 : R 0 c₀ s.heap)
    (hx : env.kindOf x = some .cell) (hc : env.cells.lookup x = some ck) (hk : env.scope.kind = .function)
    (turn : ∀ i c v h tk led o, i < n → P i v → R i c h → (∀ h' m', Fr h₀ env.locals h' m' → News h₀ env.locals h' led → R i c h') → o.data = .cell (some v) → Fr h₀ env.locals h (base c) → News h₀ env.locals h ((ck, o) :: (fixed ++ led)) →
      wpAny (model PP w) A (execs body env) (StEndC h₀ env.locals base (R (i + 1)) led { s with heap := h, toks := tk }) (fun _ _ => False) { s with heap := h, toks := tk })
    (done : ∀ c h tk, R n c h → Fr h₀ env.locals h (base c) → News h₀ env.locals h fixed → (∃ v, h.IsCell ck v) → KeptC env.locals T s.heap h → Q .next { s with heap := h, toks := tk }) :
    codeAny (model PP w) A (.forLoop (.Name x px) (.ref I) body [] env) (fun r s' => match r with | .ok f => Q f s' | .error e => cameBackBy (model PP w) A env (fun _ _ => False) e s') s := by
  have lift : ∀ {α : Type} {t : Sem α} {q : α → Shared → Prop} {s' : Shared}, wpAny (model PP w) A t q (fun _ _ => False) s' → wpAny (model PP w) A t q (notedBy (model PP w) A env fun e s' => (match (Except.error e : Result) with | .ok f => Q f s' | .error e => cameBackBy (model PP w) A env (fun _ _ => False) e s')) s' :=
    fun h => wpAny_passesOwn PassesOwn.never h
  have notL : env.locals ≠ I := fun e => hLf (e ▸ W.sub I (.head _))
  have hckI : ck ≠ I := fun e => hcf (e ▸ W.sub I (.head _))
  refine codeAny_forLoop
    (fun k s' => ∃ h' tk i c, s' = { s with heap := h', toks := tk } ∧ St i h' ∧ R i c h' ∧ Fr h₀ env.locals h' (base c) ∧ News h₀ env.locals h' fixed ∧ (∃ v, h'.IsCell ck v) ∧ KeptC env.locals T s.heap h' ∧ i ≤ n ∧ k = n + 1 - i) ?_ (n + 1)
    ⟨s.heap, s.toks, 0, c₀, rfl, hst, h0, F, N, hcell, (fun _ _ _ _ _ e => e), Nat.zero_le _, rfl⟩
  rintro k s' ⟨h, tk, i, c, rfl, hst', hR, F', N', hcell', hk₀, hi, rfl⟩
  have step1 : ∀ h₁ : Heap, (∀ b o, b ∉ [I] → h.get? b = some o → h₁.get? b = some o) → R i c h₁ ∧ Fr h₀ env.locals h₁ (base c) ∧ News h₀ env.locals h₁ fixed ∧ (∃ v, h₁.IsCell ck v) ∧ KeptC env.locals T s.heap h₁ := by
    intro h₁ hk₁
    have kI : ∀ b o, b ≠ I → h.get? b = some o → h₁.get? b = some o := fun b o hb e => hk₁ b o (fun hm => hb (List.mem_singleton.mp hm)) e
    have kc : KeptC env.locals T h h₁ := by
      intro b o hb hcl hT e
      refine kI b o ?_ e
      rintro rfl
      obtain ⟨⟨o', ho', hc', _⟩, _⟩ := hSt _ _ hst'
      rw [e] at ho'; cases ho'
      exact hT hc'
    refine ⟨hmono _ _ _ _ hR kc, ⟨F'.ns.at' fun o e => kI _ o notL e, fun b o e => kI b o (fun q => by rw [q, hI] at e; cases e) (F'.keep b o e), F'.above⟩, fun p hp => ⟨kI _ _ (hoff p hp).1 (N' p hp).1, (N' p hp).2⟩, ?_, fun b o hb hcl hT e => kc b o hb hcl hT (hk₀ b o hb hcl hT e)⟩
    obtain ⟨v, o, ho, hd⟩ := hcell'
    exact ⟨v, o, kI _ _ hckI ho, hd⟩
  by_cases hlt : i < n
  · refine W.item i _ _ _ hlt hst' fun v h₁ tk₁ hP hst₁ hk₁ => ?_
    obtain ⟨hR₁, F₁, N₁, ⟨v₁, hc₁⟩, hk₁'⟩ := step1 h₁ hk₁
    refine wpAny_assign_Name (wpAny_storeName_cell hk hx hc hc₁ fun h₂ hc₂ hs₂ => ?_)
    replace hs₂ : Heap.SameBut ck h₁ h₂ := hs₂
    have kc₂ : KeptC env.locals T h₁ h₂ := by
      intro b o hb hcl hT e
      refine (hs₂.2 b ?_).trans e
      rintro rfl
      obtain ⟨o', ho', hd'⟩ := hc₁
      rw [e] at ho'; cases ho'
      exact hcl _ hd'
    have hR₂ := hmono _ _ _ _ hR₁ kc₂
    have F₂ : Fr h₀ env.locals h₂ (base c) := ⟨F₁.ns.at' fun o e => (hs₂.2 _ (Ne.symm hckL)).trans e, fun b o e => (hs₂.2 b (fun q => by rw [q, hck0] at e; cases e)).trans (F₁.keep b o e), F₁.above⟩
    obtain ⟨oc, hoc, hdc⟩ := hc₂
    obtain ⟨led, Nl, kl⟩ := snap_all F₂
    have N₂ : News h₀ env.locals h₂ ((ck, oc) :: (fixed ++ led)) := by
      intro p hp
      rcases List.mem_cons.mp hp with rfl | hp
      · exact ⟨hoc, hckL, hck0⟩
      · rcases List.mem_append.mp hp with hp | hp
        · exact ⟨(hs₂.2 _ (hoff p hp).2).trans (N₁ p hp).1, (N₁ p hp).2⟩
        · exact Nl p hp
    have hst₂ : St (i + 1) h₂ := W.frame _ _ _ hst₁ fun b hb o e => (hs₂.2 b fun q => hcf (q ▸ hb)).trans e
    refine lift (wpAny_mono (turn i c v h₂ tk₁ led oc hlt hP hR₂ (fun h' m' Fx Nx => hmono _ _ _ _ hR₂ ?_) hdc F₂ N₂) (fun f s₃ h₃ => ?_) fun _ _ e => e)
    · exact fun b o hb _ _ e => kl h' m' Fx Nx b o (ne_of_seq F₂ e hb) e
    · obtain ⟨rfl, c', h₃', tk₃, news', rfl, hR₃, F₃, N₃, hled⟩ := h₃
      have ka : KeptAll env.locals h₂ h₃' := kl h₃' _ F₃ fun p hp => N₃ p (hled p hp)
      have kf : ∀ p ∈ (ck, oc) :: (fixed ++ led), h₃'.get? p.1 = some p.2 := fun p hp => ka _ _ (N₂ p hp).2.1 (N₂ p hp).1
      refine ⟨n + 1 - (i + 1), by omega, h₃', tk₃, i + 1, c', rfl, W.frame _ _ _ hst₂ fun b hb o e => ka b o (fun q => hLf (q ▸ hb)) e, hR₃, F₃, fun p hp => ⟨kf p (.tail _ (List.mem_append_left _ hp)), (N p hp).2⟩, ⟨_, oc, kf _ (.head _), hdc⟩, ?_, hlt, rfl⟩
      intro b o hb hcl hT e
      have e2 := kc₂ b o hb hcl hT (hk₁' b o hb hcl hT e)
      exact ka b o (ne_of_seq F₂ e2 hb) e2
  · have hin : i = n := by omega
    subst hin
    refine W.done _ _ _ hst' fun h₁ tk₁ hk₁ => lift (wpAny_execs_nil ?_)
    obtain ⟨hR₁, F₁, N₁, hc₁, hk₁'⟩ := step1 h₁ hk₁
    exact done c h₁ tk₁ hR₁ F₁ N₁ hc₁ hk₁'
theorem st_rangeC {σ : Type} {ck r : Addr} {a b st : Int} {t₀ u₀ v₀ : Tok} {n : Nat} (base : σ → Str → Option Value) (fixed : List (Addr × Obj)) (R : Nat → σ → Heap → Prop) (c₀ : σ)
    (hmono : ∀ i c h h', R i c h → KeptC env.locals "range_iterator" h h' → R i c h')
    (hh : A.handled = none) (hr : IsRange s.heap r a b st t₀ u₀ v₀) (hsmall : Builtin.Range.small a b st = true) (hn : Builtin.Range.rangeSize a b st = (n : Int))
    (hck0 : h₀.get? ck = none) (hckL : ck ≠ env.locals) (hcell : ∃ v, s.heap.IsCell ck v) (F : Fr h₀ env.locals s.heap (base c₀)) (N : News h₀ env.locals s.heap fixed) (hoff : ∀ p ∈ fixed, p.1 ≠ ck) (h0 : R 0 c₀ s.heap)
    (hx : env.kindOf x = some .cell) (hc : env.cells.lookup x = some ck) (hk : env.scope.kind = .function)
    (turn : ∀ i c t h tk led o, i < n → R i c h → (∀ h' m', Fr h₀ env.locals h' m' → News h₀ env.locals h' led → R i c h') → o.data = .cell (some (.int (a + i * st) t)) → Fr h₀ env.locals h (base c) → News h₀ env.locals h ((ck, o) :: (fixed ++ led)) →
      wpAny (model PP w) A (execs body env) (StEndC h₀ env.locals base (R (i + 1)) led { s with heap := h, toks := tk }) (fun _ _ => False) { s with heap := h, toks := tk })
    (done : ∀ c h tk, R n c h → Fr h₀ env.locals h (base c) → News h₀ env.locals h fixed → (∃ v, h.IsCell ck v) → KeptC env.locals "range_iterator" s.heap h → Q .next { s with heap := h, toks := tk }) :
    AtRaw w A env (.Name x px) body Q (fun _ _ => False) (.ref r) s := by
  unfold AtRaw
  refine wpAny_pyIter_range hr hsmall ?_
  have hlt : ∀ {c : Addr} {o : Obj}, s.heap.get? c = some o → c ≠ s.heap.objs.size := fun e => Nat.ne_of_lt (Heap.lt_size e)
  refine st_walkC base fixed R c₀ hmono (Walks.range hh s.heap.objs.size a st n) ?_ ?_ (next_is_new F) ?_ hck0 hckL (by show IsRangeIter _ _ _ _ _; rw [hn]; simpa using Heap.get?_push_size _ rfl)
    (let ⟨v, o, ho, hd⟩ := hcell; ⟨v, o, Heap.get?_push_of_some _ ho, hd⟩) (F.push _) (fun p hp => ⟨Heap.get?_push_of_some _ (N p hp).1, (N p hp).2⟩) (fun p hp => ⟨hlt (N p hp).1, hoff p hp⟩) (hmono _ _ _ _ h0 fun b o _ _ _ e => Heap.get?_push_of_some _ e) hx hc hk ?_ ?_
  · intro i h st
    refine ⟨⟨_, st, rfl, fun v e => nomatch e⟩, fun b hb => ?_⟩
    rw [List.mem_singleton.mp hb]; exact ⟨_, st⟩
  · intro hm
    exact absurd F.ns.lt ((List.mem_singleton.mp hm) ▸ Nat.lt_irrefl _)
  · intro hm
    obtain ⟨v, o, ho, _⟩ := hcell
    exact hlt ho (List.mem_singleton.mp hm)
  · rintro i c v h tk led o hi ⟨t, rfl⟩ hR hk' hd F₁ N₁
    exact turn i c t h tk led o hi hR hk' hd F₁ N₁
  · intro c h tk hR F' N' hc' hk'
    exact done c h tk hR F' N' hc' fun b o hb hcl ho e => hk' b o hb hcl ho (Heap.get?_push_of_some _ e)
theorem st_listC {σ : Type} {ck l : Addr} {vs : Array Value} (base : σ → Str → Option Value) (fixed : List (Addr × Obj)) (R : Nat → σ → Heap → Prop) (c₀ : σ)
    (hmono : ∀ i c h h', R i c h → KeptC env.locals "list_iterator" h h' → R i c h')
    (hh : A.handled = none) (hls : s.heap.IsList l vs) (hl0 : l ≠ env.locals) (hlc : l ≠ ck)
    (hck0 : h₀.get? ck = none) (hckL : ck ≠ env.locals) (hcell : ∃ v, s.heap.IsCell ck v) (F : Fr h₀ env.locals s.heap (base c₀)) (N : News h₀ env.locals s.heap fixed) (hoff : ∀ p ∈ fixed, p.1 ≠ ck) (h0 : R 0 c₀ s.heap)
    (hx : env.kindOf x = some .cell) (hc : env.cells.lookup x = some ck) (hk : env.scope.kind = .function)
    (turn : ∀ i c v h tk led o, i < vs.size → vs[i]? = some v → R i c h → (∀ h' m', Fr h₀ env.locals h' m' → News h₀ env.locals h' led → R i c h') → o.data = .cell (some v) → Fr h₀ env.locals h (base c) → News h₀ env.locals h ((ck, o) :: (fixed ++ led)) →
      wpAny (model PP w) A (execs body env) (StEndC h₀ env.locals base (R (i + 1)) led { s with heap := h, toks := tk }) (fun _ _ => False) { s with heap := h, toks := tk })
    (done : ∀ c h tk, R vs.size c h → Fr h₀ env.locals h (base c) → News h₀ env.locals h fixed → (∃ v, h.IsCell ck v) → KeptC env.locals "list_iterator" s.heap h → Q .next { s with heap := h, toks := tk }) :
    AtRaw w A env (.Name x px) body Q (fun _ _ => False) (.ref l) s := by
  unfold AtRaw
  obtain ⟨ol, hol, hrest⟩ := id hls
  have hlt : ∀ {c : Addr} {o : Obj}, s.heap.get? c = some o → c ≠ s.heap.objs.size := fun e => Nat.ne_of_lt (Heap.lt_size e)
  have hneq : s.heap.objs.size ≠ env.locals := (Nat.ne_of_lt F.ns.lt).symm
  refine wpAny_pyIter_list hls ?_
  refine st_walkC base fixed R c₀ hmono (Walks.list hh s.heap.objs.size l (hlt hol) vs) ?_ ?_ (next_is_new F) ?_ hck0 hckL ⟨⟨_, Heap.get?_push_size _ rfl, rfl, rfl⟩, hls.at fun o e => Heap.get?_push_of_some _ e⟩
    (let ⟨v, o, ho, hd⟩ := hcell; ⟨v, o, Heap.get?_push_of_some _ ho, hd⟩) (F.push _) (fun p hp => ⟨Heap.get?_push_of_some _ (N p hp).1, (N p hp).2⟩) (fun p hp => ⟨hlt (N p hp).1, hoff p hp⟩) (hmono _ _ _ _ h0 fun b o _ _ _ e => Heap.get?_push_of_some _ e) hx hc hk ?_ ?_
  · rintro i h ⟨⟨o1, h1, h2, h3⟩, ⟨o4, h4, _⟩⟩
    refine ⟨⟨_, h1, h2, fun v e => by rw [h3] at e; cases e⟩, fun b hb => ?_⟩
    rcases List.mem_cons.mp hb with rfl | hb
    · exact ⟨_, h1⟩
    · rw [List.mem_singleton.mp hb]; exact ⟨_, h4⟩
  · intro hm
    rcases List.mem_cons.mp hm with e | hm
    · exact absurd e.symm hneq
    · exact absurd (List.mem_singleton.mp hm).symm hl0
  · intro hm
    obtain ⟨v, o, ho, _⟩ := hcell
    rcases List.mem_cons.mp hm with e | hm
    · exact hlt ho e
    · exact hlc (List.mem_singleton.mp hm).symm
  · rintro i c v h tk led o hi hv hR hk' hd F₁ N₁
    exact turn i c v h tk led o hi hv hR hk' hd F₁ N₁
  · intro c h tk hR F' N' hc' hk'
    exact done c h tk hR F' N' hc' fun b o hb hcl ho e => hk' b o hb hcl ho (Heap.get?_push_of_some _ e)
end
end
end Mine

/-! ## Rg -/
namespace Mine
section
open PySem PySem.W PyProof.Rows PySem.Calls
theorem rsize_one {n : Int} (h : 0 ≤ n) : Builtin.Range.rangeSize 0 n 1 = n := by
  unfold Builtin.Range.rangeSize
  simp only [show (1 : Int) > 0 from by omega, if_true]
  by_cases h : 0 < n
  · rw [if_pos h]; omega
  · rw [if_neg h]; omega
theorem rsmall_one {n : Int} (h : 0 ≤ n) (h2 : n ≤ 1000) : Builtin.Range.small 0 n 1 = true := by
  unfold Builtin.Range.small
  rw [rsize_one h]
  simp only [Builtin.Range.rangeFitsLong]
  simp
  omega
theorem rsize_self {n : Int} (h : 1 ≤ n) : Builtin.Range.rangeSize 0 n n = 1 := by
  unfold Builtin.Range.rangeSize
  rw [if_pos (show n > 0 by omega), if_pos (show 0 < n by omega)]
  rw [show n - 0 - 1 = n - 1 by omega, Int.ediv_eq_zero_of_lt (by omega) (by omega)]
  rfl
theorem rsmall_self {n : Int} (h : 1 ≤ n) (h2 : n ≤ 1000) : Builtin.Range.small 0 n n = true := by
  unfold Builtin.Range.small
  rw [rsize_self h]
  simp only [Builtin.Range.rangeFitsLong]
  rw [if_pos (show n > 0 by omega)]
  simp
  omega
end
end Mine

/-! ## Slc -/
namespace Mine
section
open PySem PySem.W PyProof.Rows PySem.Calls
theorem pick_nat (l : List UInt8) {lo hi : Option Int} {a b : Nat} (e : sliceBounds lo hi none l.length = ((a : Int), (b : Int), 1)) : KBy.picked l.toArray lo hi = ((l.drop a).take (b - a)).toArray := by
  unfold KBy.picked Builtin.Bytes.sliced
  rw [List.size_toArray, e]
  simp only [sliceRange_one, pick_run]
theorem whole_nat (l : List UInt8) {lo hi : Option Int} {a b : Nat} (e : sliceBounds lo hi none l.length = ((a : Int), (b : Int), 1)) (h : a ≠ 0 ∨ b ≠ l.length) : KBy.whole l.toArray lo hi = false := by
  unfold KBy.whole
  rw [List.size_toArray, e]
  simp only [Bool.and_eq_false_iff, beq_eq_false_iff_ne, ne_eq]
  rcases h with h | h
  · exact .inl (.inl (.inl (by omega)))
  · exact .inl (.inr (by omega))
theorem pick_to (l : List UInt8) (k : Nat) (hk : k < l.length) : KBy.picked l.toArray none (some k) = (l.take k).toArray ∧ KBy.whole l.toArray none (some k) = false := by
  have e : sliceBounds none (some (k : Int)) none l.length = (((0 : Nat) : Int), ((k : Nat) : Int), 1) := by
    rw [sliceBounds_plain]
    simp only [Option.elim, clipAt_nat, Nat.min_eq_left (Nat.le_of_lt hk)]
  exact ⟨by rw [pick_nat l e]; simp, whole_nat l e (.inr (by omega))⟩
theorem pick_from (l : List UInt8) (k : Nat) (hk : k < l.length) : KBy.picked l.toArray (some ((k : Int) + 1)) none = (l.drop (k + 1)).toArray ∧ KBy.whole l.toArray (some ((k : Int) + 1)) none = false := by
  have e : sliceBounds (some ((k : Int) + 1)) none none l.length = (((k + 1 : Nat) : Int), ((l.length : Nat) : Int), 1) := by
    rw [sliceBounds_plain, show ((k : Int) + 1) = ((k + 1 : Nat) : Int) by omega]
    simp only [Option.elim, clipAt_nat, Nat.min_eq_left (Nat.succ_le_of_lt hk)]
  refine ⟨?_, whole_nat l e (.inl (by omega))⟩
  rw [pick_nat l e, List.take_of_length_le (by simp)]
theorem pick_one (l : List UInt8) (k : Nat) (hk : k < l.length) (h2 : 2 ≤ l.length) : KBy.picked l.toArray (some (k : Int)) (some ((k : Int) + 1)) = ((l.drop k).take 1).toArray ∧ KBy.whole l.toArray (some (k : Int)) (some ((k : Int) + 1)) = false := by
  have e : sliceBounds (some (k : Int)) (some ((k : Int) + 1)) none l.length = ((k : Int), ((k + 1 : Nat) : Int), 1) := by
    rw [sliceBounds_plain, show ((k : Int) + 1) = ((k + 1 : Nat) : Int) by omega]
    simp only [Option.elim, clipAt_nat, Nat.min_eq_left (Nat.succ_le_of_lt hk), Nat.min_eq_left (Nat.le_of_lt hk)]
  refine ⟨?_, whole_nat l e (by omega)⟩
  rw [pick_nat l e, show k + 1 - k = 1 by omega]
theorem pick_two (l : List UInt8) (hk : 2 ≤ l.length) : KBy.picked l.toArray (some 2) none = (l.drop 2).toArray ∧ KBy.whole l.toArray (some 2) none = false := pick_from l 1 (by omega)
section
variable {prog : Program} {w : World} {A : Around} {E : Value → Shared → Prop} {s : Shared} {value slice : PySem.Expr} {l r : List UInt8} {t : Tok} {lv uv : Value} {lo hi : Option Int} {Q : Value → Shared → Prop}
theorem slice_tail (hl : IsPart lv lo) (hu : IsPart uv hi) (hp : KBy.picked l.toArray lo hi = r.toArray) (hw : KBy.whole l.toArray lo hi = false) (hz : r.length ≤ 1000)
    (h : ∀ t' h' k, (∀ b o, s.heap.get? b = some o → h'.get? b = some o) → Q (.bytes r.toArray t') { s with heap := h', toks := k })
    (hs : subscripted slice false (.bytes l.toArray t) (.ref s.heap.objs.size) = operate [.ref s.heap.objs.size, .bytes l.toArray t] (getItem (.bytes l.toArray t) (.ref s.heap.objs.size)))
    (ht : ∀ r, letTemporaryGo value (.bytes l.toArray t) r = pure ()) :
    wpAny (model prog w) A (subscriptTail value slice (.bytes l.toArray t) (.ref s.heap.objs.size)) Q E { s with heap := s.heap.push { cls := .type "slice", data := .fields #[lv, uv, .none] } } := by
  have hsz : (KBy.picked l.toArray lo hi).size ≤ sizeLine := by rw [hp, List.size_toArray, sizeLine_eq]; omega
  refine tail_of_ItemOn ⟨"bytes", _, FB.slot_bytes_getitem.lookup, typeIs_bytes _ _ _, getItem_meets (typeIs_bytes _ _ _) (by decide) FB.slot_bytes_getitem FB.entry_bytes_getitem (FB.args_bytes_getitem_2 _ _) (KBy.meets_slice l.toArray t _ hl hu hw)
    ⟨Heap.IsSliceOf.new _ _ _ _, hsz, ?_⟩⟩ hs ht
  rw [hp]
  exact h _ _ _ fun b o e => Heap.get?_push_of_some _ e
end
end
end Mine

/-! ## Dk -/
namespace Mine
section
open PySem PySem.W PyProof.Rows PySem.Calls
/-- one part of a key: a word or a number -/
abbrev MK : Type := Str ⊕ Int
def mixIs : MK → Value → Bool
  | .inl x, v => Value.isStrOf x v
  | .inr n, v => Value.isInt n v
theorem mixIs_str {x : Str} {v : Value} (h : mixIs (.inl x) v = true) : ∃ t, v = .str x t := Value.isStrOf_shape h
theorem mixIs_int {n : Int} {v : Value} (h : mixIs (.inr n) v = true) : ∃ t, v = .int n t := Value.isInt_shape h
section
variable {prog : Program} {w : World} {A : Around} {E : Value → Shared → Prop} {s : Shared}
theorem eqBool_str_int {a : Str} {t : Tok} {b : Int} {u : Tok} {Q : Bool → Shared → Prop} (h : Q false s) : wpAny (model prog w) A (eqBool (.str a t) (.int b u)) Q E s := by
  unfold eqBool
  refine wpAny_holding ?_
  rw [if_neg (by intro h; exact nomatch (eq_of_beq h))]
  show wpAny _ _ (richCompare .Eq (.str a t) (.int b u) >>= fun r => truthOfDropped r) _ _ _
  exact wpAny_bind (show wpAny _ _ (compareOp .Eq _ _) _ _ _ from EqMixed.eq_str_int (wpAny_truthy_bool h))
theorem eqBool_int_str {a : Int} {t : Tok} {b : Str} {u : Tok} {Q : Bool → Shared → Prop} (h : Q false s) : wpAny (model prog w) A (eqBool (.int a t) (.str b u)) Q E s := by
  unfold eqBool
  refine wpAny_holding ?_
  rw [if_neg (by intro h; exact nomatch (eq_of_beq h))]
  show wpAny _ _ (richCompare .Eq (.int a t) (.str b u) >>= fun r => truthOfDropped r) _ _ _
  exact wpAny_bind (show wpAny _ _ (compareOp .Eq _ _) _ _ _ from EqMixed.eq_int_str (wpAny_truthy_bool h))
end
def mixKind (prog : Program) (w : World) : KeyKind prog w MK where
  is := mixIs
  hash := fun k => match k with | .inl x => hashStr w x | .inr n => hashInt n
  inj := by
    rintro v (a | a) (b | b) ha hb
    · exact congrArg Sum.inl (Value.isStrOf_inj v a b ha hb)
    · obtain ⟨t, rfl⟩ := mixIs_str ha; obtain ⟨u, h⟩ := mixIs_int hb; cases h
    · obtain ⟨t, rfl⟩ := mixIs_int ha; obtain ⟨u, h⟩ := mixIs_str hb; cases h
    · exact congrArg Sum.inr (Value.isInt_inj v a b ha hb)
  byValue := by
    rintro (a | a) v ha
    · obtain ⟨t, rfl⟩ := mixIs_str ha; rfl
    · obtain ⟨t, rfl⟩ := mixIs_int ha; rfl
  pyHash := by
    rintro A E s (a | a) v Q ha h
    · obtain ⟨t, rfl⟩ := mixIs_str ha; exact wpAny_pyHash_str h
    · obtain ⟨t, rfl⟩ := mixIs_int ha; exact wpAny_pyHash_int h
  eqBool := by
    rintro A E s (a | a) (b | b) u v Q ha hb h
    · obtain ⟨t, rfl⟩ := mixIs_str ha; obtain ⟨t', rfl⟩ := mixIs_str hb
      rw [show decide ((Sum.inl a : MK) = Sum.inl b) = decide (a = b) from decide_eq_decide.mpr ⟨Sum.inl.inj, congrArg _⟩] at h
      exact wpAny_eqBool_str h
    · obtain ⟨t, rfl⟩ := mixIs_str ha; obtain ⟨t', rfl⟩ := mixIs_int hb
      exact eqBool_str_int (by simpa using h)
    · obtain ⟨t, rfl⟩ := mixIs_int ha; obtain ⟨t', rfl⟩ := mixIs_str hb
      exact eqBool_int_str (by simpa using h)
    · obtain ⟨t, rfl⟩ := mixIs_int ha; obtain ⟨t', rfl⟩ := mixIs_int hb
      rw [show decide ((Sum.inr a : MK) = Sum.inr b) = decide (a = b) from decide_eq_decide.mpr ⟨Sum.inr.inj, congrArg _⟩] at h
      exact wpAny_eqBool_int h
  «strs» := by
    rintro (a | a) x t v h
    · obtain ⟨u, hu⟩ := mixIs_str h
      injection hu with hx
      subst hx
      cases v <;> rfl
    · obtain ⟨u, hu⟩ := mixIs_int h; cases hu

abbrev dictO (es : Array DictEntry) (ep : Nat) : Obj := { cls := .type "dict", dict := none, data := .dict es ep, slots := #[] }
abbrev DAt (h : Heap) (d : Addr) (es : Array DictEntry) (ep : Nat) : Prop := h.get? d = some (dictO es ep)
theorem exact_is {o : Obj} {es : Array DictEntry} {ep : Nat} (h : o.ExactDict) (hd : o.data = .dict es ep) : o = dictO es ep := by
  obtain ⟨c, d, dt, sl⟩ := o
  obtain ⟨h1, h2, h3⟩ := h
  cases h1; cases h2; cases h3; cases hd; rfl

section
variable {prog : Program} {w : World} {A : Around} {E : Value → Shared → Prop} {s : Shared}
theorem meets_items (d : Addr) (hd : (d == sysModules) = false) :
    MeetsIn prog w (Builtin.«dict.items» ⟨[.ref d], []⟩) (fun _ R s => (∃ es ep, DAt s.heap d es ep) ∧
      R (.ok (.ret (.ref s.heap.objs.size))) { s with heap := s.heap.push { cls := .type "dict_items", data := .fields #[.ref d] } }) :=
  .of_wp fun A R s ⟨⟨es, ep, hm⟩, h⟩ => by
    have hT : s.TypeIs (.ref d) "dict" := ⟨_, hm, rfl⟩
    unfold Builtin.«dict.items» Builtin.Dict.noArgs
    refine wpAny_bind (wpAny_bind (wpAny_notOrdered_dict hT ?_))
    refine wpAny_pure (s := s) (a := d) ?_
    show wpAny _ _ (Builtin.Dict.showsAll d >>= _) _ _ s
    refine wpAny_bind ?_
    unfold Builtin.Dict.showsAll
    rw [if_neg (by rw [hd]; exact Bool.false_ne_true)]
    exact wpAny_pure (wpAny_bind (wpAny_newObj_type (wpAny_pure ⟨_, rfl, h⟩)))
theorem meets_values (d : Addr) (hd : (d == sysModules) = false) :
    MeetsIn prog w (Builtin.«dict.values» ⟨[.ref d], []⟩) (fun _ R s => (∃ es ep, DAt s.heap d es ep) ∧
      R (.ok (.ret (.ref s.heap.objs.size))) { s with heap := s.heap.push { cls := .type "dict_values", data := .fields #[.ref d] } }) :=
  .of_wp fun A R s ⟨⟨es, ep, hm⟩, h⟩ => by
    have hT : s.TypeIs (.ref d) "dict" := ⟨_, hm, rfl⟩
    refine wpAny_bind ?_
    unfold Builtin.Dict.noArgs
    refine wpAny_bind (wpAny_notOrdered_dict hT ?_)
    refine wpAny_pure (s := s) (a := d) ?_
    show wpAny _ _ (Builtin.Dict.showsAll d >>= _) _ _ s
    refine wpAny_bind ?_
    unfold Builtin.Dict.showsAll
    rw [if_neg (by rw [hd]; exact Bool.false_ne_true)]
    exact wpAny_pure (wpAny_bind (wpAny_newObj_type (wpAny_pure ⟨_, rfl, h⟩)))
theorem iter_items {v d : Addr} {es : Array DictEntry} {ep : Nat} {Q : Value → Shared → Prop} (hv : s.heap.IsItemsView v d) (hm : DAt s.heap d es ep)
    (hQ : Q (.ref s.heap.objs.size) { s with heap := s.heap.push { cls := .type "dict_itemiterator", data := .fields #[.none, .bool false, .ref d, .int 0 0, .int es.size 0, .int ep 0, .none, .none] } }) :
    wpAny (model prog w) A (pyIter (.ref v)) Q E s := by
  obtain ⟨ov, hov, hcv, hdv⟩ := id hv
  refine wpAny_pyIter_slot hv.typeIs F.slot_dict_items_iter (wpAny_call_entry F.slot_dict_items_iter hv.typeIs F.entry_dict_items_iter ?_ (F.args_dict_items_iter_1 _))
  unfold Builtin.«dict_items.__iter__» Builtin.Dict_items.dictOf
  refine wpAny_bind (wpAny_pure (wpAny_bind (wpAny_bind (wpAny_field hov hdv (x := .ref d) rfl (wpAny_pure (s := s) (a := d) (wpAny_bind ?_))))))
  unfold Builtin.Dict_items.newIterator
  refine wpAny_bind (wpAny_dictEntries hm rfl (wpAny_bind (wpAny_dictEpoch hm rfl ?_)))
  simp only [show Builtin.Dict_items.ownsTuple "dict_itemiterator" = true from by decide, if_true]
  refine wpAny_newObj_type (wpAny_pure ⟨_, rfl, "dict_itemiterator", _, ⟨_, Heap.get?_push_size _ rfl, rfl⟩, F.slot_dict_itemiterator_next.lookup, ?_⟩) ?_
  · simpa [rawInt, Builtin.Dict_items.ownedTupleFields] using hQ
  · simp only [sizeOk, Builtin.Dict_items.ownedTupleFields, List.size_toArray, List.length_append, List.length_cons, List.length_nil, sizeLine_eq]; omega
theorem iter_values {v d : Addr} {es : Array DictEntry} {ep : Nat} {Q : Value → Shared → Prop} (hv : s.heap.IsValuesView v d) (hm : DAt s.heap d es ep)
    (hQ : Q (.ref s.heap.objs.size) { s with heap := s.heap.push { cls := .type "dict_valueiterator", data := .fields #[.ref d, .int 0 0, .int es.size 0, .int ep 0] } }) :
    wpAny (model prog w) A (pyIter (.ref v)) Q E s := by
  obtain ⟨ov, hov, hcv, hdv⟩ := id hv
  refine wpAny_pyIter_slot hv.typeIs F.slot_dict_values_iter (wpAny_call_entry F.slot_dict_values_iter hv.typeIs F.entry_dict_values_iter ?_ (F.args_dict_values_iter_1 _))
  unfold Builtin.«dict_values.__iter__» Builtin.Dict_items.dictOf
  refine wpAny_bind (wpAny_pure (wpAny_bind (wpAny_bind (wpAny_field hov hdv (x := .ref d) rfl (wpAny_pure (s := s) (a := d) (wpAny_bind ?_))))))
  unfold Builtin.Dict_items.newIterator
  refine wpAny_bind (wpAny_dictEntries hm rfl (wpAny_bind (wpAny_dictEpoch hm rfl ?_)))
  simp only [show Builtin.Dict_items.ownsTuple "dict_valueiterator" = false from by decide, Bool.false_eq_true, if_false]
  refine wpAny_newObj_type (wpAny_pure ⟨_, rfl, "dict_valueiterator", _, ⟨_, Heap.get?_push_size _ rfl, rfl⟩, F.slot_dict_valueiterator_next.lookup, ?_⟩)
  simpa [rawInt] using hQ
theorem iter_keys {d : Addr} {es : Array DictEntry} {ep : Nat} {Q : Value → Shared → Prop} (hd : (d == sysModules) = false) (hm : DAt s.heap d es ep)
    (hQ : Q (.ref s.heap.objs.size) { s with heap := s.heap.push { cls := .type "dict_keyiterator", data := .fields #[.ref d, .int 0 0, .int es.size 0, .int ep 0] } }) :
    wpAny (model prog w) A (pyIter (.ref d)) Q E s := by
  have hT : s.TypeIs (.ref d) "dict" := ⟨_, hm, rfl⟩
  refine wpAny_pyIter_slot hT F.slot_dict_iter (wpAny_call_entry F.slot_dict_iter hT F.entry_dict_iter ?_ (F.args_dict_iter_1 _))
  unfold Builtin.«dict.__iter__» Builtin.Dict.dictSlotNone
  refine wpAny_bind (wpAny_bind (wpAny_notOrdered_dict hT (wpAny_pure (s := s) (a := Value.ref d) ?_)))
  show wpAny _ _ (Builtin.Dict.showsAll d >>= _) _ _ s
  refine wpAny_bind ?_
  unfold Builtin.Dict.showsAll
  rw [if_neg (by rw [hd]; exact Bool.false_ne_true)]
  refine wpAny_pure (wpAny_bind (wpAny_dictEntries hm rfl (wpAny_bind (wpAny_dictEpoch hm rfl ?_))))
  refine wpAny_bind (wpAny_newObj_type (wpAny_pure ⟨_, rfl, "dict_keyiterator", _, ⟨_, Heap.get?_push_size _ rfl, rfl⟩, F.slot_dict_keyiterator_next.lookup, ?_⟩))
  simpa [rawInt] using hQ
end
end
end Mine

/-! ## Dk2 -/
namespace Mine
section
open PySem PySem.W PyProof.Rows PySem.Calls
section
variable {prog : Program} {w : World} {A : Around} {E : Value → Shared → Prop} {s : Shared}
/-- the end of an iterator's answer: StopIteration made and raised -/
theorem stop_made {it : Addr} {h₁ : Heap} (hh : A.handled = none) (hx : Heap.ExtBut it s.heap h₁) {α : Type} {P : α → Shared → Prop}
    (hE : ∀ h' e, Shared.TypeIs { s with heap := h' } (.ref e) "StopIteration" → Heap.ExtBut it s.heap h' → E (.ref e) { s with heap := h' }) :
    wpAny (model prog w) A (newExc (.type "StopIteration") [] >>= fun e => raiseNew e) P E { s with heap := h₁ } := by
  refine wpAny_bind ?_
  simp only [newExc, newTuple]
  refine wpAny_bind (wpAny_newObj_type ?_ (by size_fits))
  refine wpAny_bind (m := firstArgMember _ _) (wpAny_of_eq (a := Value.none) (by first | rfl | (simp only [firstArgMember]; rfl)) ?_)
  refine wpAny_newObj_type ?_ (by size_fits)
  simp only [raiseNew]
  refine wpAny_bind (wpAny_handled ?_)
  rw [hh]
  refine wpAny_bind (wpAny_pure (wpAny_throw ?_))
  exact hE _ _ ⟨_, Heap.get?_push_size _ rfl, rfl⟩ ((hx.push _).push _)

theorem next_values {it d : Addr} {i ep : Nat} {es : Array DictEntry} {e : DictEntry} {Q : Option Value → Shared → Prop} (hit : s.heap.IsValIter it d i es.size ep)
    (hm : DAt s.heap d es ep) (hx : es[i]? = some e)
    (hQ : ∀ h', h'.IsValIter it d (i + 1) es.size ep → Heap.SameBut it s.heap h' → Q (some e.val) { s with heap := h' }) :
    wpAny (model prog w) A (pyNext (.ref it)) Q E s := by
  obtain ⟨o, ho, hc, hd⟩ := id hit
  unfold pyNext
  refine wpAny_bind (wpAny_attempt (wpAny_callSpecial?_slot (name := Str.ofString "__next__") hit.typeIs F.slot_dict_valueiterator_next
    (wpAny_call_entry F.slot_dict_valueiterator_next hit.typeIs F.entry_dict_valueiterator_next ?_ (F.args_dict_valueiterator_next_1 _))))
  have hown : Builtin.Dict_items.ownsTuple "dict_valueiterator" = false := by decide
  refine wpAny_bind (wpAny_pure (wpAny_bind (wpAny_bind (wpAny_bind (wpAny_typeNameOfWhole_valiter hit.typeIs (wpAny_pure (wpAny_bind (wpAny_fieldsOf ho hd ?_))))))))
  simp only [hown, Bool.false_eq_true, if_false]
  show wpAny _ _ (if (Value.ref d == Value.none) = true then _ else _) _ _ s
  rw [if_neg (show ¬ ((Value.ref d == Value.none) = true) from Bool.false_ne_true)]
  refine wpAny_bind (wpAny_pure (wpAny_bind (wpAny_dictEntries hm rfl ?_)))
  rw [if_neg (by simp)]
  refine wpAny_bind (wpAny_pure (wpAny_bind (wpAny_dictEpoch hm rfl ?_)))
  rw [if_neg (by simp)]
  refine wpAny_pure ?_
  simp only [show ¬ ((i : Int) < 0) from by omega, if_false, Int.toNat_natCast, hx]
  refine wpAny_bind (wpAny_bind (wpAny_typeNameOfWhole_valiter hit.typeIs (wpAny_pure ?_)))
  refine wpAny_bind (wpAny_isOneOf_valiter hit.typeIs ?_)
  show wpAny _ _ (setField (.ref it) 1 (rawInt ((i : Int) + 1)) >>= _) _ _ s
  refine wpAny_bind (wpAny_setField ho hd (by simp) ?_)
  have hn : (s.heap.update it (Obj.mapFields (·.setIfInBounds 1 (rawInt ((i : Int) + 1))))).IsValIter it d (i + 1) es.size ep :=
    ⟨_, Heap.get?_update_self _ ho (Obj.isFreed_of_fields (Obj.data_mapFields hd _)), (Obj.cls_mapFields ..).trans hc, by rw [Obj.data_mapFields hd]; simp [rawInt]⟩
  have hT : Shared.TypeIs { s with heap := s.heap.update it (Obj.mapFields (·.setIfInBounds 1 (rawInt ((i : Int) + 1)))) } (.ref it) "dict_valueiterator" := hn.typeIs (s := { s with heap := _ })
  refine wpAny_bind (wpAny_holding (wpAny_bind (wpAny_isOneOf_valiter hT ?_)))
  refine wpAny_bind (wpAny_isOneOf_valiter hT ?_)
  show wpAny _ _ (pure e.val) _ _ _
  exact wpAny_pure (wpAny_pure ⟨_, rfl, wpAny_pure (hQ _ hn (Heap.SameBut.update ..))⟩)

theorem next_values_end {it d : Addr} {i ep : Nat} {es : Array DictEntry} {Q : Option Value → Shared → Prop} (hh : A.handled = none) (hit : s.heap.IsValIter it d i es.size ep)
    (hm : DAt s.heap d es ep) (hx : es[i]? = none)
    (hQ : ∀ h', Heap.ExtBut it s.heap h' → Q none { s with heap := h' }) : wpAny (model prog w) A (pyNext (.ref it)) Q E s := by
  obtain ⟨o, ho, hc, hd⟩ := id hit
  unfold pyNext
  refine wpAny_bind (wpAny_attempt (wpAny_callSpecial?_slot (name := Str.ofString "__next__") hit.typeIs F.slot_dict_valueiterator_next
    (wpAny_call_entry F.slot_dict_valueiterator_next hit.typeIs F.entry_dict_valueiterator_next ?_ (F.args_dict_valueiterator_next_1 _))))
  have hown : Builtin.Dict_items.ownsTuple "dict_valueiterator" = false := by decide
  refine wpAny_bind (wpAny_pure (wpAny_bind (wpAny_bind (wpAny_bind (wpAny_typeNameOfWhole_valiter hit.typeIs (wpAny_pure (wpAny_bind (wpAny_fieldsOf ho hd ?_))))))))
  simp only [hown, Bool.false_eq_true, if_false]
  show wpAny _ _ (if (Value.ref d == Value.none) = true then _ else _) _ _ s
  rw [if_neg (show ¬ ((Value.ref d == Value.none) = true) from Bool.false_ne_true)]
  refine wpAny_bind (wpAny_pure (wpAny_bind (wpAny_dictEntries hm rfl ?_)))
  rw [if_neg (by simp)]
  refine wpAny_bind (wpAny_pure (wpAny_bind (wpAny_dictEpoch hm rfl ?_)))
  rw [if_neg (by simp)]
  refine wpAny_pure ?_
  simp only [show ¬ ((i : Int) < 0) from by omega, if_false, Int.toNat_natCast, hx]
  refine wpAny_bind (wpAny_bind (wpAny_typeNameOfWhole_valiter hit.typeIs (wpAny_pure ?_)))
  show wpAny _ _ (setField (.ref it) 0 .none >>= _) _ _ s
  refine wpAny_bind (wpAny_setField ho hd (by simp) ?_)
  show wpAny _ _ (newExc (.type "StopIteration") [] >>= fun e => raiseNew e) _ _ _
  refine stop_made (A := A.in1) (s := s) (it := it) hh (Heap.SameBut.update ..).extBut fun h' e hT hx => ?_
  exact wpAny_bind (wpAny_isInstance (b := true) hT isSubtype_stop (wpAny_pure (hQ _ hx)))

theorem next_keys {it d : Addr} {i ep : Nat} {es : Array DictEntry} {e : DictEntry} {Q : Option Value → Shared → Prop} (hit : s.heap.IsKeyIter it d i es.size ep)
    (hm : DAt s.heap d es ep) (hx : es[i]? = some e)
    (hQ : ∀ h', h'.IsKeyIter it d (i + 1) es.size ep → Heap.SameBut it s.heap h' → Q (some e.key) { s with heap := h' }) :
    wpAny (model prog w) A (pyNext (.ref it)) Q E s := by
  obtain ⟨o, ho, hc, hd⟩ := id hit
  unfold pyNext
  refine wpAny_bind (wpAny_attempt (wpAny_callSpecial?_slot (name := Str.ofString "__next__") hit.typeIs F.slot_dict_keyiterator_next
    (wpAny_call_entry F.slot_dict_keyiterator_next hit.typeIs F.entry_dict_keyiterator_next ?_ (F.args_dict_keyiterator_next_1 _))))
  have hown : Builtin.Dict_items.ownsTuple "dict_keyiterator" = false := by decide
  refine wpAny_bind (wpAny_pure (wpAny_bind (wpAny_bind (wpAny_bind (wpAny_typeNameOfWhole_keyiter hit.typeIs (wpAny_pure (wpAny_bind (wpAny_fieldsOf ho hd ?_))))))))
  simp only [hown, Bool.false_eq_true, if_false]
  show wpAny _ _ (if (Value.ref d == Value.none) = true then _ else _) _ _ s
  rw [if_neg (show ¬ ((Value.ref d == Value.none) = true) from Bool.false_ne_true)]
  refine wpAny_bind (wpAny_pure (wpAny_bind (wpAny_dictEntries hm rfl ?_)))
  rw [if_neg (by simp)]
  refine wpAny_bind (wpAny_pure (wpAny_bind (wpAny_dictEpoch hm rfl ?_)))
  rw [if_neg (by simp)]
  refine wpAny_pure ?_
  simp only [show ¬ ((i : Int) < 0) from by omega, if_false, Int.toNat_natCast, hx]
  refine wpAny_bind (wpAny_bind (wpAny_typeNameOfWhole_keyiter hit.typeIs (wpAny_pure ?_)))
  refine wpAny_bind (wpAny_isOneOf_keyiter hit.typeIs ?_)
  show wpAny _ _ (setField (.ref it) 1 (rawInt ((i : Int) + 1)) >>= _) _ _ s
  refine wpAny_bind (wpAny_setField ho hd (by simp) ?_)
  have hn : (s.heap.update it (Obj.mapFields (·.setIfInBounds 1 (rawInt ((i : Int) + 1))))).IsKeyIter it d (i + 1) es.size ep :=
    ⟨_, Heap.get?_update_self _ ho (Obj.isFreed_of_fields (Obj.data_mapFields hd _)), (Obj.cls_mapFields ..).trans hc, by rw [Obj.data_mapFields hd]; simp [rawInt]⟩
  have hT : Shared.TypeIs { s with heap := s.heap.update it (Obj.mapFields (·.setIfInBounds 1 (rawInt ((i : Int) + 1)))) } (.ref it) "dict_keyiterator" := hn.typeIs (s := { s with heap := _ })
  refine wpAny_bind (wpAny_holding (wpAny_bind (wpAny_isOneOf_keyiter hT ?_)))
  show wpAny _ _ (pure e.key) _ _ _
  exact wpAny_pure (wpAny_pure ⟨_, rfl, wpAny_pure (hQ _ hn (Heap.SameBut.update ..))⟩)

theorem next_keys_end {it d : Addr} {i ep : Nat} {es : Array DictEntry} {Q : Option Value → Shared → Prop} (hh : A.handled = none) (hit : s.heap.IsKeyIter it d i es.size ep)
    (hm : DAt s.heap d es ep) (hx : es[i]? = none)
    (hQ : ∀ h', Heap.ExtBut it s.heap h' → Q none { s with heap := h' }) : wpAny (model prog w) A (pyNext (.ref it)) Q E s := by
  obtain ⟨o, ho, hc, hd⟩ := id hit
  unfold pyNext
  refine wpAny_bind (wpAny_attempt (wpAny_callSpecial?_slot (name := Str.ofString "__next__") hit.typeIs F.slot_dict_keyiterator_next
    (wpAny_call_entry F.slot_dict_keyiterator_next hit.typeIs F.entry_dict_keyiterator_next ?_ (F.args_dict_keyiterator_next_1 _))))
  have hown : Builtin.Dict_items.ownsTuple "dict_keyiterator" = false := by decide
  refine wpAny_bind (wpAny_pure (wpAny_bind (wpAny_bind (wpAny_bind (wpAny_typeNameOfWhole_keyiter hit.typeIs (wpAny_pure (wpAny_bind (wpAny_fieldsOf ho hd ?_))))))))
  simp only [hown, Bool.false_eq_true, if_false]
  show wpAny _ _ (if (Value.ref d == Value.none) = true then _ else _) _ _ s
  rw [if_neg (show ¬ ((Value.ref d == Value.none) = true) from Bool.false_ne_true)]
  refine wpAny_bind (wpAny_pure (wpAny_bind (wpAny_dictEntries hm rfl ?_)))
  rw [if_neg (by simp)]
  refine wpAny_bind (wpAny_pure (wpAny_bind (wpAny_dictEpoch hm rfl ?_)))
  rw [if_neg (by simp)]
  refine wpAny_pure ?_
  simp only [show ¬ ((i : Int) < 0) from by omega, if_false, Int.toNat_natCast, hx]
  refine wpAny_bind (wpAny_bind (wpAny_typeNameOfWhole_keyiter hit.typeIs (wpAny_pure ?_)))
  show wpAny _ _ (setField (.ref it) 0 .none >>= _) _ _ s
  refine wpAny_bind (wpAny_setField ho hd (by simp) ?_)
  refine stop_made (A := A.in1) (s := s) (it := it) hh (Heap.SameBut.update ..).extBut fun h' e hT hx => ?_
  exact wpAny_bind (wpAny_isInstance (b := true) hT isSubtype_stop (wpAny_pure (hQ _ hx)))

theorem next_items {it d : Addr} {i ep : Nat} {es : Array DictEntry} {e : DictEntry} {ok ov : Value} {Q : Option Value → Shared → Prop} (hit : IsItemIter s.heap it d i es.size ep ok ov)
    (hm : DAt s.heap d es ep) (hx : es[i]? = some e)
    (hQ : ∀ h', IsItemIterOut h' it d (i + 1) es.size ep e.key e.val s.heap.objs.size →
      h'.get? s.heap.objs.size = some { cls := .type "tuple", data := .seq #[e.key, e.val] } → h'.objs.size = s.heap.objs.size + 1 →
      (∀ b o, b ≠ it → s.heap.get? b = some o → h'.get? b = some o) → Q (some (.ref s.heap.objs.size)) { s with heap := h' }) :
    wpAny (model prog w) A (pyNext (.ref it)) Q E s := by
  obtain ⟨hp, g, dr, tk, os⟩ := s
  have typ : ∀ {h : Heap} {j : Nat} {u v : Value}, IsItemIter h it d j es.size ep u v → Shared.TypeIs ⟨h, g, dr, tk, os⟩ (.ref it) "dict_itemiterator" := fun x => ⟨_, x, rfl⟩
  have lt := Heap.lt_size hit
  unfold pyNext
  refine wpAny_bind (wpAny_attempt (wpAny_callSpecial?_slot (name := Str.ofString "__next__") (typ hit) F.slot_dict_itemiterator_next
    (wpAny_call_entry F.slot_dict_itemiterator_next (typ hit) F.entry_dict_itemiterator_next ?_ (F.args_dict_itemiterator_next_1 _))))
  refine wpAny_bind (wpAny_pure (wpAny_bind (wpAny_bind (wpAny_bind (wpAny_typeNameOfWhole_itemiter (typ hit) (wpAny_pure (wpAny_bind (wpAny_fieldsOf hit rfl ?_))))))))
  simp only [show Builtin.Dict_items.ownsTuple "dict_itemiterator" = true from by decide, if_true]
  show wpAny _ _ (if (Value.ref d == Value.none) = true then _ else _) _ _ _
  rw [if_neg (show ¬ ((Value.ref d == Value.none) = true) from Bool.false_ne_true)]
  refine wpAny_bind (wpAny_pure (wpAny_bind (wpAny_dictEntries hm rfl ?_)))
  rw [if_neg (by simp)]
  refine wpAny_bind (wpAny_pure (wpAny_bind (wpAny_dictEpoch hm rfl ?_)))
  rw [if_neg (by simp)]
  refine wpAny_pure ?_
  simp only [show ¬ ((i : Int) < 0) from by omega, if_false, Int.toNat_natCast, hx]
  refine wpAny_bind (wpAny_bind (wpAny_typeNameOfWhole_itemiter (typ hit) (wpAny_pure ?_)))
  refine wpAny_bind (wpAny_isOneOf_itemiter (typ hit) ?_)
  show wpAny _ _ (setField (.ref it) 3 (rawInt ((i : Int) + 1)) >>= _) _ _ ⟨hp, g, dr, tk, os⟩
  refine wpAny_bind (wpAny_setField_rec hit (by simp) fun h₁ g₁ s₁ => ?_)
  have g₁ : IsItemIter h₁ it d (i + 1) es.size ep ok ov := by
    unfold IsItemIter
    rw [show ((i + 1 : Nat) : Int) = (i : Int) + 1 by omega]
    simpa [rawInt] using g₁
  refine wpAny_bind (wpAny_holding (wpAny_bind (wpAny_isOneOf_itemiter (typ g₁) (wpAny_bind (wpAny_isOneOf_itemiter (typ g₁) ?_)))))
  show wpAny _ _ (Builtin.Dict_items.pairFromOwner (.ref it) 6 e.key e.val) _ _ ⟨h₁, g, dr, tk, os⟩
  unfold Builtin.Dict_items.pairFromOwner
  refine wpAny_bind (wpAny_newTuple ?_)
  have z₁ : h₁.objs.size = hp.objs.size := s₁.1
  have g₂ : IsItemIter (h₁.push { cls := .type "tuple", data := .seq #[e.key, e.val] }) it d (i + 1) es.size ep ok ov := Heap.get?_push_of_some _ g₁
  have t₂ : (h₁.push { cls := .type "tuple", data := .seq #[e.key, e.val] }).get? hp.objs.size = some { cls := .type "tuple", data := .seq #[e.key, e.val] } := z₁ ▸ Heap.get?_push_size _ rfl
  have z₂ : (h₁.push { cls := .type "tuple", data := .seq #[e.key, e.val] }).objs.size = hp.objs.size + 1 := by rw [Heap.size_push, z₁]
  have k₂ : ∀ b o, b ≠ it → hp.get? b = some o → (h₁.push { cls := .type "tuple", data := .seq #[e.key, e.val] }).get? b = some o := fun b o hb x => Heap.get?_push_of_some _ (s₁.extBut b o hb x)
  show wpAny _ _ (Builtin.Dict_items.ownedTupleIsFree (.ref it) >>= _) _ _ ⟨h₁.push { cls := .type "tuple", data := .seq #[e.key, e.val] }, g, dr, tk, os⟩
  rw [show Value.ref ({ heap := h₁, gens := g, drawn := dr, toks := tk, os := os } : Shared).heap.objs.size = .ref hp.objs.size from congrArg Value.ref z₁]
  generalize h₁.push { cls := .type "tuple", data := .seq #[e.key, e.val] } = h₂ at g₂ t₂ z₂ k₂ ⊢
  unfold Builtin.Dict_items.ownedTupleIsFree
  refine wpAny_bind (wpAny_bind (wpAny_field g₂ rfl (x := .none) rfl (wpAny_pure ?_)))
  simp only [if_true]
  refine wpAny_bind (wpAny_field g₂ rfl (x := ok) rfl (wpAny_bind (wpAny_field g₂ rfl (x := ov) rfl ?_)))
  refine wpAny_bind (wpAny_setField_rec g₂ (by simp) fun h₃ g₃ s₃ => ?_)
  refine wpAny_bind (wpAny_setField_rec (s := ⟨h₃, g, dr, tk, os⟩) g₃ (by simp) fun h₄ g₄ s₄ => ?_)
  refine wpAny_bind (wpAny_setField_rec (s := ⟨h₄, g, dr, tk, os⟩) g₄ (by simp) fun h₅ g₅ s₅ => ?_)
  refine wpAny_bind (wpAny_setField_rec (s := ⟨h₅, g, dr, tk, os⟩) g₅ (by simp) fun h₆ g₆ s₆ => ?_)
  have out : ∀ b o, b ≠ it → h₂.get? b = some o → h₆.get? b = some o := fun b o hb x => s₆.extBut b o hb (s₅.extBut b o hb (s₄.extBut b o hb (s₃.extBut b o hb x)))
  refine wpAny_bind (wpAny_letGo (wpAny_pure (wpAny_pure ⟨_, rfl, wpAny_pure (hQ h₆ ?_ ?_ ?_ ?_)⟩)))
  · unfold IsItemIterOut
    rw [show ((i + 1 : Nat) : Int) = (i : Int) + 1 by omega]
    simpa [rawInt] using g₆
  · exact out _ _ (Nat.ne_of_gt lt) t₂
  · show h₆.objs.size = hp.objs.size + 1
    rw [s₆.1, s₅.1, s₄.1, s₃.1, z₂]
  · exact fun b o hb x => out b o hb (k₂ b o hb x)

theorem next_items_end {it d : Addr} {i ep : Nat} {es : Array DictEntry} {ok ov : Value} {Q : Option Value → Shared → Prop} (hh : A.handled = none) (hit : IsItemIter s.heap it d i es.size ep ok ov)
    (hm : DAt s.heap d es ep) (hx : es[i]? = none)
    (hQ : ∀ h', Heap.ExtBut it s.heap h' → Q none { s with heap := h' }) : wpAny (model prog w) A (pyNext (.ref it)) Q E s := by
  have hT : s.TypeIs (.ref it) "dict_itemiterator" := ⟨_, hit, rfl⟩
  unfold pyNext
  refine wpAny_bind (wpAny_attempt (wpAny_callSpecial?_slot (name := Str.ofString "__next__") hT F.slot_dict_itemiterator_next
    (wpAny_call_entry F.slot_dict_itemiterator_next hT F.entry_dict_itemiterator_next ?_ (F.args_dict_itemiterator_next_1 _))))
  refine wpAny_bind (wpAny_pure (wpAny_bind (wpAny_bind (wpAny_bind (wpAny_typeNameOfWhole_itemiter hT (wpAny_pure (wpAny_bind (wpAny_fieldsOf hit rfl ?_))))))))
  simp only [show Builtin.Dict_items.ownsTuple "dict_itemiterator" = true from by decide, if_true]
  show wpAny _ _ (if (Value.ref d == Value.none) = true then _ else _) _ _ _
  rw [if_neg (show ¬ ((Value.ref d == Value.none) = true) from Bool.false_ne_true)]
  refine wpAny_bind (wpAny_pure (wpAny_bind (wpAny_dictEntries hm rfl ?_)))
  rw [if_neg (by simp)]
  refine wpAny_bind (wpAny_pure (wpAny_bind (wpAny_dictEpoch hm rfl ?_)))
  rw [if_neg (by simp)]
  refine wpAny_pure ?_
  simp only [show ¬ ((i : Int) < 0) from by omega, if_false, Int.toNat_natCast, hx]
  refine wpAny_bind (wpAny_bind (wpAny_typeNameOfWhole_itemiter hT (wpAny_pure ?_)))
  show wpAny _ _ (setField (.ref it) 2 .none >>= _) _ _ s
  refine wpAny_bind (wpAny_setField hit rfl (by simp) ?_)
  refine stop_made (A := A.in1) (s := s) (it := it) hh (Heap.SameBut.update ..).extBut fun h' e hT hx => ?_
  exact wpAny_bind (wpAny_isInstance (b := true) hT isSubtype_stop (wpAny_pure (hQ _ hx)))
end

section
variable {prog : Program} {w : World} {A : Around}
theorem Walks.values (hh : A.handled = none) (I d : Addr) (hne : d ≠ I) (es : Array DictEntry) (ep : Nat) :
    Walks prog w A I [I, d] [I] es.size (fun i v => ∃ e, es[i]? = some e ∧ v = e.val) (fun i h => h.IsValIter I d i es.size ep ∧ DAt h d es ep) where
  sub := fun b hb => by simp at hb; simp [hb]
  frame := fun _ _ _ st hk => ⟨let ⟨o, ho, r⟩ := st.1; ⟨o, hk I (by simp) o ho, r⟩, hk d (by simp) _ st.2⟩
  item := fun i s Q E hi st hQ => by
    refine next_values st.1 st.2 (e := es[i]) (by simp [hi]) fun h' hn hs' => ?_
    exact hQ _ h' s.toks ⟨es[i], by simp [hi], rfl⟩ ⟨hn, hs'.extBut d _ hne st.2⟩ fun b o hb e => hs'.extBut b o (fun h => hb (by simp [h])) e
  done := fun s Q E st hQ => next_values_end hh st.1 st.2 (by simp) fun h' he' => hQ h' s.toks fun b o hb e => he' b o (fun h => hb (by simp [h])) e
  self := fun i s Q E st hQ => wpAny_pyIter_valiter st.1 hQ
theorem Walks.keys (hh : A.handled = none) (I d : Addr) (hne : d ≠ I) (es : Array DictEntry) (ep : Nat) :
    Walks prog w A I [I, d] [I] es.size (fun i v => ∃ e, es[i]? = some e ∧ v = e.key) (fun i h => h.IsKeyIter I d i es.size ep ∧ DAt h d es ep) where
  sub := fun b hb => by simp at hb; simp [hb]
  frame := fun _ _ _ st hk => ⟨let ⟨o, ho, r⟩ := st.1; ⟨o, hk I (by simp) o ho, r⟩, hk d (by simp) _ st.2⟩
  item := fun i s Q E hi st hQ => by
    refine next_keys st.1 st.2 (e := es[i]) (by simp [hi]) fun h' hn hs' => ?_
    exact hQ _ h' s.toks ⟨es[i], by simp [hi], rfl⟩ ⟨hn, hs'.extBut d _ hne st.2⟩ fun b o hb e => hs'.extBut b o (fun h => hb (by simp [h])) e
  done := fun s Q E st hQ => next_keys_end hh st.1 st.2 (by simp) fun h' he' => hQ h' s.toks fun b o hb e => he' b o (fun h => hb (by simp [h])) e
  self := fun i s Q E st hQ => wpAny_pyIter_keyiter st.1 hQ
theorem WalksT.items (hh : A.handled = none) (I d : Addr) (hne : d ≠ I) (es : Array DictEntry) (ep : Nat)
    (hs : ∀ (s : Shared) (Q : Value → Shared → Prop) (E : Value → Shared → Prop) (i : Nat) (ok ov : Value), IsItemIter s.heap I d i es.size ep ok ov → Q (.ref I) s → wpAny (model prog w) A (pyIter (.ref I)) Q E s) :
    WalksT prog w A I [I, d] [I] es.size (fun i vs => ∃ e, es[i]? = some e ∧ vs = #[e.key, e.val]) (fun i h => (∃ ok ov, IsItemIter h I d i es.size ep ok ov) ∧ DAt h d es ep)
      (fun i T h => T ≠ I ∧ (∃ ok ov, IsItemIterOut h I d (i + 1) es.size ep ok ov T) ∧ DAt h d es ep) where
  sub := fun b hb => by simp at hb; simp [hb]
  frame := fun _ _ _ st hk => ⟨let ⟨ok, ov, x⟩ := st.1; ⟨ok, ov, hk I (by simp) _ x⟩, hk d (by simp) _ st.2⟩
  item := fun i s Q E hi st hQ => by
    obtain ⟨⟨ok, ov, hit⟩, hm⟩ := st
    have lt := Heap.lt_size hit
    refine next_items hit hm (e := es[i]) (by simp [hi]) fun h' ho ht hz hk => ?_
    exact hQ s.heap.objs.size #[es[i].key, es[i].val] h' s.toks ⟨es[i], by simp [hi], rfl⟩ (Nat.le_refl _) ⟨_, ht, rfl, _, rfl⟩ ⟨Nat.ne_of_gt lt, ⟨_, _, ho⟩, hk d _ hne hm⟩ fun b o hb e => hk b o (fun h => hb (by simp [h])) e
  go := fun elts k pos i T s Q E hm hQ => by
    obtain ⟨hT, ⟨ok, ov, ho⟩, hm⟩ := hm
    refine wpAny_letOwnedTupleGo_items ho fun h' hit hs' => ?_
    exact hQ h' ⟨⟨ok, ov, hit⟩, hs'.extBut d _ hne hm⟩ fun b o hb e => hs'.extBut b o (fun h => hb (by simp [h])) e
  apart := fun i T h hm hmem => hm.1 (List.mem_singleton.mp hmem)
  done := fun s Q E st hQ => by
    obtain ⟨⟨ok, ov, hit⟩, hm⟩ := st
    exact next_items_end hh hit hm (by simp) fun h' he' => hQ h' s.toks fun b o hb e => he' b o (fun h => hb (by simp [h])) e
  self := fun i s Q E st hQ => let ⟨ok, ov, x⟩ := st.1; hs s Q E i ok ov x hQ
end
end
end Mine

/-! ## Pairs -/
namespace Mine
section
open PySem PySem.W PyProof.Rows PySem.Calls
def AtPairs (w : World) (A : Around) (h₀ : Heap) (env : Env) (xi xc : Str) (body : List Stmt) (Q : Flow → Shared → Prop) (E : Value → Shared → Prop) (xv : Value) (s₁ : Shared) : Prop :=
  wpAny (model PP w) A (pyIter xv) (fun it s₂ => PairAt3 PP w A h₀ env xi xc body Q E it s₂) E s₁
def StEnd2 {σ : Type} (h₀ : Heap) (L : Addr) (xi xc : Str) (base : σ → Str → Option Value) (Nl : σ → List (Addr × Obj)) (R : σ → Prop) (own : List (Addr × Obj)) (s : Shared) (f : Flow) (s₂ : Shared) : Prop :=
  f = .next ∧ ∃ c u v h' tk news', s₂ = { s with heap := h', toks := tk } ∧ R c ∧ Fr h₀ L h' (fun y => if y = xc then v else if y = xi then u else base c y) ∧ News h₀ L h' news' ∧ (∀ p ∈ Nl c, p ∈ news') ∧ ∀ p ∈ own, p ∈ news'
section
variable {w : World} {A : Around} {E : Value → Shared → Prop} {s : Shared} {env : Env} {h₀ : Heap} {xi xc : Str} {body : List Stmt} {Q : Flow → Shared → Prop}
theorem for_pairs {pk pv pt pos : Pos} {x1 : Nat} {iter : Expr} {m : Str → Option Value} (_F : Fr h₀ env.locals s.heap m) (hh : A.handled = none)
    (hxi : env.kindOf xi = some .local) (hxc : env.kindOf xc = some .local)
    (hp : (env.scope.kind == .class || (env.scope.kind == .module && env.locals != env.globals)) = false)
    (hE : PassesOwn (model PP w) A env E) (hs : ∀ x, foldedSetIterable iter env x = pure x)
    (h : wpAny (model PP w) A (eval iter env) (fun xv s₁ => AtPairs w A h₀ env xi xc body Q E xv s₁) E s) :
    wpAny (model PP w) A (exec (.For (.Tuple [.Name xi pk, .Name xc pv] x1 pt) iter body [] pos) env) Q E s := For_pair3 h₀ hh hxi hxc hp h hs hE
theorem upd2_twice {xi xc : Str} {v u v' u' : Option Value} {b : Str → Option Value} : (fun y => if y = xc then v else if y = xi then u else (fun z => if z = xc then v' else if z = xi then u' else b z) y) = fun y => if y = xc then v else if y = xi then u else b y := by
  funext y
  by_cases h : y = xc
  · simp [h]
  · by_cases h2 : y = xi
    · simp [h2]
    · simp [h, h2]
theorem upd2_self {xi xc : Str} {b : Str → Option Value} : (fun y => if y = xc then b xc else if y = xi then b xi else b y) = b := by
  funext y
  by_cases h : y = xc
  · simp [h]
  · by_cases h2 : y = xi
    · subst h2; simp [h]
    · simp [h, h2]
theorem call_items {d : Addr} {es : Array DictEntry} {ep : Nat} {Q : Value → Shared → Prop} (hd : (d == sysModules) = false) (hm : DAt s.heap d es ep)
    (h : Q (.ref s.heap.objs.size) { s with heap := s.heap.push { cls := .type "dict_items", data := .fields #[.ref d] } }) :
    wpAny (model PP w) A (call (.builtin "dict.items") [.ref d]) Q E s :=
  call_meetsIn PySem.F.slot_dict_items (⟨_, hm, rfl⟩ : s.TypeIs (.ref d) "dict") PySem.F.entry_dict_items (PySem.F.args_dict_items_1 _) (meets_items d hd) ⟨⟨es, ep, hm⟩, h⟩
theorem call_values {d : Addr} {es : Array DictEntry} {ep : Nat} {Q : Value → Shared → Prop} (hd : (d == sysModules) = false) (hm : DAt s.heap d es ep)
    (h : Q (.ref s.heap.objs.size) { s with heap := s.heap.push { cls := .type "dict_values", data := .fields #[.ref d] } }) :
    wpAny (model PP w) A (call (.builtin "dict.values") [.ref d]) Q E s :=
  call_meetsIn PySem.F.slot_dict_values (⟨_, hm, rfl⟩ : s.TypeIs (.ref d) "dict") PySem.F.entry_dict_values (PySem.F.args_dict_values_1 _) (meets_values d hd) ⟨⟨es, ep, hm⟩, h⟩
/-- a loop over a dict's items: the view `v` of the dict `d` is there -/
theorem st_items {σ : Type} {v d : Addr} {es : Array DictEntry} {ep : Nat} (base : σ → Str → Option Value) (Nl : σ → List (Addr × Obj)) (R : Nat → σ → Prop) (c₀ : σ)
    (same : ∀ c, (Nl c).map (·.1) = (Nl c₀).map (·.1)) (hh : A.handled = none) (hv : s.heap.IsItemsView v d) (hm : DAt s.heap d es ep) (hdL : d ≠ env.locals) (hdN : ∀ p ∈ Nl c₀, p.1 ≠ d)
    (F : Fr h₀ env.locals s.heap (base c₀)) (N : News h₀ env.locals s.heap (Nl c₀)) (h0 : R 0 c₀)
    (turn : ∀ i c e h tk own, (hi : i < es.size) → es[i]? = some e → R i c → OwnOff own ((Nl c₀).map (·.1)) → Fr h₀ env.locals h (fun y => if y = xc then some e.val else if y = xi then some e.key else base c y) → News h₀ env.locals h (Nl c ++ own) →
      wpAny (model PP w) A (execs body env) (StEnd2 h₀ env.locals xi xc base Nl (R (i + 1)) own { s with heap := h, toks := tk }) E { s with heap := h, toks := tk })
    (done : ∀ c u u' h tk, R es.size c → Fr h₀ env.locals h (fun y => if y = xc then u' else if y = xi then u else base c y) → News h₀ env.locals h (Nl c) → Q .next { s with heap := h, toks := tk }) :
    AtPairs w A h₀ env xi xc body Q E (.ref v) s := by
  unfold AtPairs
  refine iter_items hv hm ?_
  have hd0 := Heap.lt_size hm
  have hneq : s.heap.objs.size ≠ env.locals := (Nat.ne_of_lt F.ns.lt).symm
  refine ⟨s.heap.objs.size, _, _, es.size, _, _, _, fun i a b => ∃ e, es[i]? = some e ∧ a = e.key ∧ b = e.val, base c₀, Nl c₀, fun i m nx => ∃ c u u', R i c ∧ m = (fun y => if y = xc then u' else if y = xi then u else base c y) ∧ nx = Nl c, rfl,
    WalksT.items hh s.heap.objs.size d (Nat.ne_of_lt hd0) es ep fun s Q E i ok ov x h => kcp_self x h, ?_, ?_, ?_, ?_, ⟨⟨.none, .none, Heap.get?_push_size _ rfl⟩, Heap.get?_push_of_some _ hm⟩, F.push _, (fun p hp => ⟨Heap.get?_push_of_some _ (N p hp).1, (N p hp).2⟩), ⟨c₀, _, _, h0, upd2_self.symm, rfl⟩, ?_, ?_⟩
  · rintro i vals ⟨e, he, rfl⟩
    exact ⟨_, _, rfl, e, he, rfl, rfl⟩
  · intro hm
    rcases List.mem_cons.mp hm with e | hm
    · exact hneq e.symm
    · exact hdL (List.mem_singleton.mp hm).symm
  · intro b hb
    rw [List.mem_singleton.mp hb]
    exact next_is_new F
  · intro p hp hI
    exact absurd (Heap.lt_size (N p hp).1) ((List.mem_singleton.mp hI) ▸ Nat.lt_irrefl _)
  · rintro i v0 v1 m₁ news₁ s₁ own ⟨h, tk, rfl⟩ hi ⟨e, he, rfl, rfl⟩ ⟨c, u, u', hR, rfl, rfl⟩ hadr hown F₁ N₁
    have hoff : OwnOff own ((Nl c₀).map (·.1)) := by
      intro p hp b hb hpb
      obtain ⟨q, hq, rfl⟩ := List.mem_map.mp hb
      rcases List.mem_cons.mp (hown p hp) with e | hm'
      · exact absurd (Heap.lt_size (N q hq).1) (by rw [← hpb, e]; exact Nat.lt_irrefl _)
      · exact hdN q hq (hpb ▸ List.mem_singleton.mp hm')
    have N₂ : News h₀ env.locals h (Nl c ++ own) := fun p hp => N₁ p ((List.mem_append.mp hp).elim (fun h => List.mem_append.mpr (.inr h)) fun h => List.mem_append.mpr (.inl h))
    have F₂ : Fr h₀ env.locals h (fun y => if y = xc then some e.val else if y = xi then some e.key else base c y) := by
      rw [← upd2_twice (v' := u') (u' := u)]; exact F₁
    refine wpAny_mono (turn i c e h tk own hi he hR hoff F₂ N₂) (fun f s₂ hs => ?_) fun _ _ x => x
    obtain ⟨rfl, c', u1, u2, h', tk', news', rfl, hR', F', N', hn, ho⟩ := hs
    refine ⟨rfl, h', tk', _, Nl c', rfl, F', fun p hp => N' p ((List.mem_append.mp hp).elim (ho p) (hn p)), (same c').trans (same c).symm, c', u1, u2, hR', rfl, rfl⟩
  · rintro h' tk m' news' F' N' hadr ⟨c, u, u', hR, rfl, rfl⟩
    exact done c u u' h' tk hR F' N'
/-- a loop over a dict's values -/
theorem st_values {σ : Type} {x : Str} {v d : Addr} {es : Array DictEntry} {ep : Nat} (base : σ → Str → Option Value) (Nl : σ → List (Addr × Obj)) (R : Nat → σ → Prop) (c₀ : σ)
    (same : ∀ c, (Nl c).map (·.1) = (Nl c₀).map (·.1)) (hh : A.handled = none) (hv : s.heap.IsValuesView v d) (hm : DAt s.heap d es ep) (hdL : d ≠ env.locals) (hdN : ∀ p ∈ Nl c₀, p.1 ≠ d)
    (F : Fr h₀ env.locals s.heap (base c₀)) (N : News h₀ env.locals s.heap (Nl c₀)) (h0 : R 0 c₀)
    (turn : ∀ i c e h tk own, i < es.size → es[i]? = some e → R i c → OwnOff own ((Nl c₀).map (·.1)) → Fr h₀ env.locals h (fun y => if y = x then some e.val else base c y) → News h₀ env.locals h (Nl c ++ own) →
      wpAny (model PP w) A (execs body env) (StEnd h₀ env.locals x base Nl (R (i + 1)) own { s with heap := h, toks := tk }) E { s with heap := h, toks := tk })
    (done : ∀ c u h tk, R es.size c → Fr h₀ env.locals h (fun y => if y = x then u else base c y) → News h₀ env.locals h (Nl c) → Q .next { s with heap := h, toks := tk }) :
    AtIter w A h₀ env x body Q E (.ref v) s := by
  unfold AtIter
  refine iter_values hv hm ?_
  have hd0 := Heap.lt_size hm
  have hneq : s.heap.objs.size ≠ env.locals := (Nat.ne_of_lt F.ns.lt).symm
  refine st_loop base Nl R c₀ same (Walks.values hh s.heap.objs.size d (Nat.ne_of_lt hd0) es ep) ?_ ?_ ?_ ?_ ⟨⟨_, Heap.get?_push_size _ rfl, rfl, rfl⟩, Heap.get?_push_of_some _ hm⟩ (F.push _) (fun p hp => ⟨Heap.get?_push_of_some _ (N p hp).1, (N p hp).2⟩) h0 ?_ ?_
  · intro hm
    rcases List.mem_cons.mp hm with e | hm
    · exact hneq e.symm
    · exact hdL (List.mem_singleton.mp hm).symm
  · intro b hb
    rw [List.mem_singleton.mp hb]
    exact next_is_new F
  · intro p hp hI
    exact absurd (Heap.lt_size (N p hp).1) ((List.mem_singleton.mp hI) ▸ Nat.lt_irrefl _)
  · intro p hp hI
    rcases List.mem_cons.mp hI with e | hm
    · exact absurd (Heap.lt_size (N p hp).1) (e ▸ Nat.lt_irrefl _)
    · exact hdN p hp (List.mem_singleton.mp hm)
  · rintro i c v h tk own hi ⟨e, he, rfl⟩ hR hoff F₁ N₁
    exact turn i c e h tk own hi he hR hoff F₁ N₁
  · exact done
end
end
end Mine

/-! ## Bsw -/
namespace Mine
section
open PySem PySem.W PyProof.Rows PySem.Calls
theorem fill2 : ∀ P h, (Hd.hd.heap_39 P).In h → PySem.Challenge.rw_ie0012_01.row.prog = PySem.Challenge.rw_ie0012_01.row.prog := by
  k_fill
  intros; rfl
local macro_rules | `(tactic| walk_at "subscriptTail") => `(tactic| (k_here; (with_reducible show wpAny _ _ (subscriptTail _ _ (Value.bytes (List.toArray _) _) (Value.int _ _)) _ _ _); (refine' KBy.item_N ?k1 ?k2 ?k3 ?_; (case k1 => omega); (case k2 => omega); (case k3 => omega))))
local macro_rules | `(tactic| walk_at "exec For Name Call cons nil") => `(tactic| (k_here; (refine' for_at (by assumption) (by rfl) (by rfl) PassesOwn.never (by intro _; rfl) ?_)))

/-- the bytes after j turns of the inner loop -/
def swp (l : List UInt8) (j : Nat) : Array UInt8 := ((List.range l.length).map fun k => if l.length - 1 - k < j then l.getD (l.length - 1 - k) 0 else 0).toArray

abbrev bswB (l : List UInt8) (tb tw : Tok) (a : Addr) (j : Option Value) : Str → Option Value := fun y => if y = Str.ofString "j" then j else if y = Str.ofString "swapped_data" then some (.ref a) else
      List.lookup y [(Str.ofString "width", Value.int (↑l.length) tw), (Str.ofString "data", Value.bytes l.toArray tb)]
theorem fr_map {h₀ h : Heap} {L : Addr} {m m' : Str → Option Value} (F : Fr h₀ L h m) (e : ∀ y, m y = m' y) : Fr h₀ L h m' := by
  rw [← funext e]; exact F
theorem bswB_start {l : List UInt8} {tb tw : Tok} {a : Addr} {h₀ h : Heap} {L : Addr} (F : Fr h₀ L h fun y => if y = Str.ofString "swapped_data" then some (.ref a) else List.lookup y [(Str.ofString "width", Value.int (↑l.length) tw), (Str.ofString "data", Value.bytes l.toArray tb)]) : Fr h₀ L h (bswB l tb tw a none) := by
  refine fr_map F fun y => ?_
  simp only [bswB]
  by_cases h : y = Str.ofString "j"
  · subst h; rfl
  · rw [if_neg h]

theorem swp_size (l : List UInt8) (j : Nat) : (swp l j).size = l.length := by simp [swp]
theorem swp_zero (l : List UInt8) : swp l 0 = Array.replicate ((l.toArray.size : Int)).toNat 0 := by
  apply Array.ext
  · simp [swp]
  · intro i h1 h2
    simp [swp]
theorem swp_full (l : List UInt8) : swp l l.length = l.reverse.toArray := by
  apply Array.ext
  · simp [swp]
  · intro i h1 h2
    rw [swp_size] at h1
    have h3 : l.length - 1 - i < l.length := by omega
    simp [swp, h3, List.getElem_reverse]
theorem swp_next (l : List UInt8) (i : Nat) (hi : i < l.length) : (swp l i).setIfInBounds (l.length - 1 - i) (l.getD i 0) = swp l (i + 1) := by
  apply Array.ext
  · simp [swp]
  · intro k h1 h2
    rw [swp_size] at h2
    rw [Array.getElem_setIfInBounds (by simpa using h1)]
    simp only [swp, List.getElem_toArray, List.getElem_map, List.getElem_range]
    by_cases h : l.length - 1 - i = k
    · rw [if_pos h, if_pos (by omega)]
      have : l.length - 1 - k = i := by omega
      rw [this]
    · rw [if_neg h]
      by_cases h3 : l.length - 1 - k < i
      · rw [if_pos h3, if_pos (by omega)]
      · rw [if_neg h3, if_neg (by omega)]
theorem news_put {h₀ h h' : Heap} {L a : Addr} {o o' : Obj} {rest : List (Addr × Obj)} (N : News h₀ L h ((a, o) :: rest)) (hs : Heap.SameBut a h h') (hg : h'.get? a = some o') (off : ∀ p ∈ rest, p.1 ≠ a) : News h₀ L h' ((a, o') :: rest) := by
  intro p hp
  rcases List.mem_cons.mp hp with rfl | hp
  · exact ⟨hg, (N (a, o) (.head _)).2⟩
  · exact ⟨(hs.2 _ (off p hp)).trans (N p (.tail _ hp)).1, (N p (.tail _ hp)).2⟩
theorem fr_put {h₀ h h' : Heap} {L a : Addr} {o : Obj} {rest : List (Addr × Obj)} {m : Str → Option Value} (F : Fr h₀ L h m) (N : News h₀ L h ((a, o) :: rest)) (hs : Heap.SameBut a h h') : Fr h₀ L h' m := by
  have ha := (N (a, o) (.head _)).2
  refine ⟨F.ns.at' fun o e => (hs.2 L (Ne.symm ha.1)).trans e, fun b ob e => ?_, F.above⟩
  refine (hs.2 b ?_).trans (F.keep b ob e)
  rintro rfl
  rw [ha.2] at e; cases e

theorem byteswap_call {w : World} {dp un : Nat} {fr : Option (List Env)} {gd : Option (List Code)} {E : Value → Shared → Prop} {s : Shared} {mg mb : Str → Option Value} {p : Program} {loose : List Str} {Q : Value → Shared → Prop}
    (X : (Hd.hd.heap_39 w.params).In s.heap) (T : TopRead p loose mg mb s.heap) (hroom : dp < 900) (l : List UInt8) (tb tw : Tok) (h1 : 1 ≤ l.length) (h2 : l.length ≤ 100)
    (ret : ∀ t h' tk', (∀ b o, s.heap.get? b = some o → h'.get? b = some o) → Q (.bytes l.reverse.toArray t) { s with heap := h', toks := tk' }) :
    wpC w (AA dp un fr gd) (call (.ref 21) [.bytes l.toArray tb, .int l.length tw]) Q E s := by
  refine call_fnC X T ?_ rfl rfl rfl (locs rfl) rfl rfl rfl (by decide) ?_
  case refine_1 => show dp < 1000; omega
  intro L hh tk F N X T
  refine wpC_execs_cons (wpC_Assign_Name ?_ rfl)
  refine evalC_Call rfl ?_
  k_steps
  refine callWithC_args rfl rfl (by show (1 : Nat) ≤ 10; decide) ?_
  k_steps
  refine wpAny_pure ?_
  refine call_bytearray ?_ ?_ ?_
  · rw [List.size_toArray]; omega
  · rw [List.size_toArray]; omega
  intro h' hk hg
  refine wpC_of_any ?_
  rename Fr _ _ _ _ => F
  have F' := F.keeps hk
  have N' : News s.heap L h' [(hh.objs.size, { cls := .type "bytearray", data := .bytearray (Array.replicate ((l.toArray.size : Int)).toNat 0) })] := by
    intro q hq
    rw [List.mem_singleton.mp hq]
    exact ⟨hg, Nat.ne_of_gt F.ns.lt, next_is_new F⟩
  clear F N hk hg
  k_steps
  refine wpC_of_any ?_
  k_steps
  rename Fr _ _ _ _ => F₁
  rename News _ _ _ _ => N₁
  rename IsRange _ _ _ _ _ _ _ _ => hr
  refine st_range (n := 1) (fun (c : Option Value × Array UInt8) => bswB l tb tw hh.objs.size c.1)
    (fun c => [(hh.objs.size, { cls := .type "bytearray", data := .bytearray c.2 })]) (fun i c => c.2 = swp l (l.length * i)) (none, Array.replicate ((l.toArray.size : Int)).toNat 0) (fun _ => rfl) rfl hr ?_ ?_ (bswB_start F₁) N₁ ?_ ?_ ?_
  case refine_1 =>
    have e : l.toArray.size = l.length := List.size_toArray
    rw [e]; exact rsmall_self (by omega) (by omega)
  case refine_2 =>
    have e : l.toArray.size = l.length := List.size_toArray
    rw [e, rsize_self (by omega)]; rfl
  case refine_3 => exact (swp_zero l).symm
  case refine_4 =>
    clear F₁ N₁ hr
    rintro i ⟨jv, ba⟩ t h tk own hi hR hoff F N
    have hi0 : i = 0 := by omega
    subst hi0
    dsimp only at hR F N
    refine wpAny_execs_cons ?_
    refine for_at F (by rfl) (by rfl) PassesOwn.never (by intro _; rfl) ?_
    k_steps
    rename Fr _ _ _ _ => F₁
    rename News _ _ _ _ => N₁
    rename IsRange _ _ _ _ _ _ _ _ => hr
    refine st_range (n := l.length) (fun (c : Array UInt8) => fun y => if y = Str.ofString "i" then some (Value.int (0 + ((0 : Nat) : Int) * ↑l.length) t) else bswB l tb tw hh.objs.size jv y)
      (fun c => (hh.objs.size, { cls := .type "bytearray", data := .bytearray c }) :: own) (fun i c => c = swp l i) ba (fun _ => rfl) rfl hr ?_ ?_ F₁ N₁ ?_ ?_ ?_
    · exact rsmall_one (by omega) (by omega)
    · exact rsize_one (by omega)
    · rw [hR]; rfl
    ·
      clear F₁ N₁ hr
      rintro i c t' h tk own' hi hR hoff2 F N
      try dsimp only at hR F N
      k_steps
      have hc : c.size = l.length := by rw [hR, swp_size]
      refine ba_setItem (b := c) (N _ (.head _)).1 (by omega) (by omega) (by omega) (by omega) (by have := (l.getD (0 + ((0 : Nat) : Int) * ↑l.length + (0 + (i : Int) * 1)).toNat 0).toNat_lt; omega) ?_
      intro h' hg hs
      have off : ∀ p ∈ own ++ own', p.1 ≠ hh.objs.size := by
        intro p hp
        rcases List.mem_append.mp hp with hp | hp
        · exact hoff.ne (List.mem_cons_self ..) p hp
        · exact hoff2.ne (List.mem_cons_self ..) p hp
      have F2 := fr_put F N hs
      have N2 := news_put N hs hg off
      have e : (c.setIfInBounds (0 + ((0 : Nat) : Int) * ↑l.length + ↑l.length - 1 - (0 + (i : Int) * 1)).toNat (((l.getD (0 + ((0 : Nat) : Int) * ↑l.length + (0 + (i : Int) * 1)).toNat 0).toNat : Int).toNat.toUInt8)) = swp l (i + 1) := by
        rw [hR, ← swp_next l i hi]
        have e1 : (0 + ((0 : Nat) : Int) * ↑l.length + ↑l.length - 1 - (0 + (i : Int) * 1)).toNat = l.length - 1 - i := by omega
        have e2 : (0 + ((0 : Nat) : Int) * ↑l.length + (0 + (i : Int) * 1)).toNat = i := by omega
        rw [e1, e2]
        simp
      rw [e] at N2
      refine wpAny_execs_nil ?_
      exact ⟨rfl, swp l (i + 1), _, h', _, _, rfl, rfl, F2, N2, fun p hp => by
        rcases List.mem_cons.mp hp with rfl | hp
        · exact .head _
        · exact .tail _ (List.mem_append_left _ hp), fun p hp => .tail _ (List.mem_append_right _ hp)⟩
    ·
      rintro c u h tk hR F N
      dsimp only
      refine wpAny_execs_nil ?_
      refine ⟨rfl, (u, c), some (Value.int (0 + ((0 : Nat) : Int) * ↑l.length) t), h, _, _, rfl, by rw [hR]; simp, ?_, N, fun p hp => by rw [List.mem_singleton.mp hp]; exact .head _, fun p hp => .tail _ hp⟩
      refine fr_map F fun y => ?_
      simp only [bswB]
      by_cases h1 : y = Str.ofString "j"
      · subst h1; rfl
      · simp only [if_neg h1]
  case refine_5 =>
    clear F₁ N₁ hr
    rintro ⟨jv, ba⟩ u h tk hR F N
    try dsimp only at hR F N
    rw [Nat.mul_one, swp_full] at hR
    subst hR
    k_steps
    refine bytes_of_ba (N _ (.head _)).1 (by simp; omega) fun t tk => ?_
    exact ret _ _ _ F.keep
end
end Mine

/-! ## Add -/
namespace Mine
section
open PySem PySem.W PyProof.Rows PySem.Calls
theorem fill3 : ∀ P h, (Hd.hd.heap_39 P).In h → PySem.Challenge.rw_ie0012_01.row.prog = PySem.Challenge.rw_ie0012_01.row.prog := by
  k_fill
  intros; rfl
abbrev KK (w : World) : HeapKind PP w (List MK) := tupleKind (mixKind PP w)
def intOf : Value → Int
  | .int n _ => n
  | _ => 0
/-- a dict of numbers under tuple keys, as the keys' readings and the numbers say -/
theorem empty_is {w : World} {o : Obj} (h : Obj.IsDictOf (intKind PP w) o []) : ∃ ep, o = dictO #[] ep := by
  obtain ⟨es, ep, hx, hd, hk, hp, hn⟩ := h
  refine ⟨ep, ?_⟩
  have : es = #[] := by
    have h1 : es.toList.length = 0 := hp.length
    exact Array.eq_empty_of_size_eq_zero (by simpa using h1)
  subst this
  exact exact_is hx hd
section
variable {w : World} {A : Around} {E : Value → Shared → Prop} {s : Shared}
theorem items_method {pos : Pos} {env : Env} {d : Addr} {es : Array DictEntry} {ep : Nat} {pl : Sem Bool} {Q : Value → Shared → Prop} (hd : (d == sysModules) = false) (hm : DAt s.heap d es ep)
    (h : Q (.ref s.heap.objs.size) { s with heap := s.heap.push { cls := .type "dict_items", data := .fields #[.ref d] } }) :
    wpAny (model PP w) A (getMethod (.ref d) (Str.ofString "items") pl) (fun fx s₂ => wpAny (model PP w) A (callWith pos fx.1 fx.2 (backTo pos (starEach [] env)) []) Q E s₂) E s := by
  refine getMethod_builtin (⟨_, hm, rfl⟩ : s.TypeIs (.ref d) "dict") PySem.F.plainAttrs_dict PySem.F.slot_dict_items PySem.F.type_dict_items ?_ ?_
  · intro b e; injection e with e; subst e; exact ⟨_, hm, rfl⟩
  · exact callWith_method0 (call_items hd hm h)
theorem values_method {pos : Pos} {env : Env} {d : Addr} {es : Array DictEntry} {ep : Nat} {pl : Sem Bool} {Q : Value → Shared → Prop} (hd : (d == sysModules) = false) (hm : DAt s.heap d es ep)
    (h : Q (.ref s.heap.objs.size) { s with heap := s.heap.push { cls := .type "dict_values", data := .fields #[.ref d] } }) :
    wpAny (model PP w) A (getMethod (.ref d) (Str.ofString "values") pl) (fun fx s₂ => wpAny (model PP w) A (callWith pos fx.1 fx.2 (backTo pos (starEach [] env)) []) Q E s₂) E s := by
  refine getMethod_builtin (⟨_, hm, rfl⟩ : s.TypeIs (.ref d) "dict") PySem.F.plainAttrs_dict PySem.F.slot_dict_values PySem.F.type_dict_values ?_ ?_
  · intro b e; injection e with e; subst e; exact ⟨_, hm, rfl⟩
  · exact callWith_method0 (call_values hd hm h)
end
/-- what the entries of a dict of ours are -/
structure EOf (w : World) (h : Heap) (es : Array DictEntry) (xs : List (List MK × Addr × Value)) : Prop where
  entries : es.toList = xs.map (entryOfKey (KK w))
  keys : ∀ x ∈ xs, IsTupleKey (mixKind PP w) h x.1 x.2.1
  nodup : (xs.map (·.1)).Nodup
  nums : ∀ x ∈ xs, ∃ n t, x.2.2 = .int n t
abbrev says (xs : List (List MK × Addr × Value)) : List (List MK × Int) := xs.map fun x => (x.1, intOf x.2.2)
theorem key_keep {w : World} {h h' : Heap} {k : List MK} {a : Addr} (x : IsTupleKey (mixKind PP w) h k a) (hk : ∀ b o, h.get? b = some o → h'.get? b = some o) : IsTupleKey (mixKind PP w) h' k a := by
  obtain ⟨o, items, n, ho, r⟩ := x
  exact ⟨o, items, n, hk _ _ ho, r⟩
theorem EOf.keep {w : World} {h h' : Heap} {es : Array DictEntry} {xs : List (List MK × Addr × Value)} (x : EOf w h es xs) (hk : ∀ b o, h.get? b = some o → h'.get? b = some o) : EOf w h' es xs :=
  ⟨x.entries, fun y hy => key_keep (x.keys y hy) hk, x.nodup, x.nums⟩
theorem EOf.dict {w : World} {h : Heap} {d : Addr} {es : Array DictEntry} {ep : Nat} {xs : List (List MK × Addr × Value)} (x : EOf w h es xs) (hm : DAt h d es ep) : h.DictOfH (KK w) d xs :=
  ⟨_, es, ep, hm, ⟨rfl, rfl, rfl⟩, rfl, x.entries, x.keys, x.nodup⟩
theorem EOf.at {w : World} {h : Heap} {es : Array DictEntry} {xs : List (List MK × Addr × Value)} (x : EOf w h es xs) {i : Nat} {e : DictEntry} (he : es[i]? = some e) :
    ∃ k ka n t, xs[i]? = some (k, ka, .int n t) ∧ e.key = .ref ka ∧ e.val = .int n t ∧ IsTupleKey (mixKind PP w) h k ka := by
  have h1 := entry_at (knd := KK w) x.entries i
  rw [he] at h1
  cases hx : xs[i]? with
  | none => rw [hx] at h1; cases h1
  | some y =>
    rw [hx] at h1
    have h2 : e = entryOfKey (KK w) y := Option.some.inj h1
    have hm : y ∈ xs := List.mem_of_getElem? hx
    obtain ⟨n, t, hn⟩ := x.nums y hm
    obtain ⟨k, ka, v⟩ := y
    obtain rfl : v = .int n t := hn
    exact ⟨k, ka, n, t, rfl, by rw [h2]; rfl, by rw [h2]; rfl, x.keys _ hm⟩
theorem EOf.size {w : World} {h : Heap} {es : Array DictEntry} {xs : List (List MK × Addr × Value)} (x : EOf w h es xs) : es.size = xs.length := size_of_entries (knd := KK w) x.entries
theorem dict_back {w : World} {h : Heap} {d : Addr} {xs : List (List MK × Addr × Value)} (x : h.DictOfH (KK w) d xs) : ∃ es ep, DAt h d es ep ∧ es.toList = xs.map (entryOfKey (KK w)) := by
  obtain ⟨o, es, ep, ho, hx, hd, he, _⟩ := x
  exact ⟨es, ep, by show h.get? d = _; rw [ho, exact_is hx hd], he⟩
theorem nodup_stored {xs : List (List MK × Addr × Value)} {k : List MK} {ka : Addr} {v : Value} (hn : (xs.map (·.1)).Nodup) : ((storedH xs k ka v).map (·.1)).Nodup := by
  cases hk : atKey xs k with
  | some p => rw [storedH_old hk, keys_map_putAt]; exact hn
  | none =>
    rw [storedH_new hk, List.map_append, List.nodup_append]
    refine ⟨hn, by simp, ?_⟩
    intro x hx y hy
    obtain rfl : y = k := by simpa using hy
    rintro rfl
    obtain ⟨z, hz, hzk⟩ := List.mem_map.mp hx
    have : (atKey xs x).isSome = true := by
      simp only [atKey, Option.isSome_map, List.find?_isSome]
      exact ⟨z, hz, by simpa using hzk⟩
    rw [hk] at this
    cases this
theorem EOf.stored {w : World} {h : Heap} {es es' : Array DictEntry} {xs : List (List MK × Addr × Value)} {k : List MK} {ka : Addr} {n : Int} {t : Tok} (x : EOf w h es xs) (hkey : IsTupleKey (mixKind PP w) h k ka)
    (he : es'.toList = (storedH xs k ka (.int n t)).map (entryOfKey (KK w))) : EOf w h es' (storedH xs k ka (.int n t)) := by
  have hm : ∀ y ∈ storedH xs k ka (.int n t), (∃ z ∈ xs, y = putAt k (.int n t) z) ∨ y = (k, ka, .int n t) ∨ y ∈ xs := by
    intro y hy
    unfold storedH at hy
    split at hy
    · obtain ⟨z, hz, rfl⟩ := List.mem_map.mp hy
      exact .inl ⟨z, hz, rfl⟩
    · rcases List.mem_append.mp hy with hy | hy
      · exact .inr (.inr hy)
      · exact .inr (.inl (List.mem_singleton.mp hy))
  refine ⟨he, fun y hy => ?_, nodup_stored x.nodup, fun y hy => ?_⟩
  · rcases hm y hy with ⟨z, hz, rfl⟩ | rfl | hy
    · unfold putAt; split <;> exact x.keys z hz
    · exact hkey
    · exact x.keys y hy
  · rcases hm y hy with ⟨z, hz, rfl⟩ | rfl | hy
    · unfold putAt; split
      · exact ⟨n, t, rfl⟩
      · exact x.nums z hz
    · exact ⟨n, t, rfl⟩
    · exact x.nums y hy
section
variable {w : World} {A : Around} {E : Value → Shared → Prop} {s : Shared} {h₀ : Heap} {L d ka : Addr} {m : Str → Option Value} {es : Array DictEntry} {ep : Nat} {xs : List (List MK × Addr × Value)} {k : List MK} {rest : List (Addr × Obj)}
theorem put_tab {n : Int} {t : Tok} {Q : Unit → Shared → Prop} (hu : (KK w).room A.in1) (F : Fr h₀ L s.heap m) (N : News h₀ L s.heap ((d, dictO es ep) :: rest)) (off : ∀ p ∈ rest, p.1 ≠ d)
    (x : EOf w h₀ es xs) (hkey : IsTupleKey (mixKind PP w) h₀ k ka) (hz : xs.length ≤ 1000)
    (h : ∀ h' es' ep' tk, Fr h₀ L h' m → News h₀ L h' ((d, dictO es' ep') :: rest) → EOf w h₀ es' (storedH xs k ka (.int n t)) → Q () { s with heap := h', toks := tk }) :
    wpAny (model PP w) A (setItem (.ref d) (.ref ka) (.int n t)) Q E s := by
  refine wpAny_setItem_heap (knd := KK w) hu (key_keep hkey F.keep) ((x.keep F.keep).dict (N _ (.head _)).1) (fun h' hm hs => ?_) (by rw [sizeLine_eq]; omega)
  obtain ⟨es', ep', hm', he'⟩ := dict_back hm
  exact h h' es' ep' _ (fr_put F N hs) (news_put N hs hm' off) (x.stored hkey he')
theorem in_tab {Q : Value → Shared → Prop} (v : Bool) (hv : (atKey xs k).isSome = v) (hu : (KK w).room A.in1) (hd : (d == sysModules) = false) (hm : DAt s.heap d es ep) (x : EOf w s.heap es xs) (hkey : IsTupleKey (mixKind PP w) s.heap k ka)
    (h : ∀ tk, Q (.bool v) { s with toks := tk }) : wpAny (model PP w) A (compareOp .In (.ref ka) (.ref d)) Q E s := by
  subst hv
  exact wpAny_in_heap (knd := KK w) hu hkey hd (x.dict hm) (h _)
theorem get_tab {p : Addr × Value} {Q : Value → Shared → Prop} (hu : (KK w).room A.in1) (hm : DAt s.heap d es ep) (x : EOf w s.heap es xs) (hkey : IsTupleKey (mixKind PP w) s.heap k ka) (hp : atKey xs k = some p)
    (h : ∀ tk, Q p.2 { s with toks := tk }) : wpAny (model PP w) A (getItem (.ref d) (.ref ka)) Q E s :=
  wpAny_getItem_heap (knd := KK w) hu hkey (x.dict hm) hp (h _)
end
theorem EOf.room {w : World} {dp un : Nat} {fr : Option (List Env)} {gd : Option (List Code)} {env : Env} (hun : un < 900) : (KK w).room ((AA dp un fr gd).deeper env).in1 := by
  show _ < cLine
  simp only [Around.deeper, AA, cLine]
  omega

/-- the counts after one more under the key -/
def addD (D : List (List MK × Int)) (k : List MK) (n : Int) : List (List MK × Int) :=
  if (D.any fun e => decide (e.1 = k)) = true then D.map fun e => if e.1 = k then (e.1, e.2 + n) else e else D ++ [(k, n)]

theorem says_stored_new {xs : List (List MK × Addr × Value)} {k : List MK} {ka : Addr} {n : Int} {t : Tok} {D : List (List MK × Int)} (hs : says xs = D) (hk : atKey xs k = none) :
    says (storedH xs k ka (.int n t)) = addD D k n := by
  subst hs
  have : ¬ ((says xs).any fun e => decide (e.1 = k)) = true := by
    intro h
    obtain ⟨e, he, hek⟩ := List.any_eq_true.mp h
    obtain rfl : e.1 = k := by simpa using hek
    obtain ⟨z, hz, rfl⟩ := List.mem_map.mp he
    have : (atKey xs z.1).isSome = true := by
      simp only [atKey, Option.isSome_map, List.find?_isSome]
      exact ⟨z, hz, by simp⟩
    rw [show atKey xs z.1 = none from hk] at this
    cases this
  rw [storedH_new hk, addD, if_neg this]
  simp [says, intOf]
theorem says_stored_old {xs : List (List MK × Addr × Value)} {k : List MK} {ka : Addr} {n m : Int} {t u : Tok} {D : List (List MK × Int)} {p : Addr × Value} (hs : says xs = D) (hk : atKey xs k = some p) (hp : p.2 = .int m u) (hn : (xs.map (·.1)).Nodup) :
    says (storedH xs k ka (.int (m + n) t)) = addD D k n := by
  subst hs
  have hf : ∃ z ∈ xs, z.1 = k ∧ z.2 = p := by
    simp only [atKey, Option.map_eq_some_iff] at hk
    obtain ⟨z, hz, rfl⟩ := hk
    exact ⟨z, List.mem_of_find?_eq_some hz, by simpa using List.find?_some hz, rfl⟩
  obtain ⟨z, hz, hzk, hzp⟩ := hf
  have : ((says xs).any fun e => decide (e.1 = k)) = true :=
    List.any_eq_true.mpr ⟨(z.1, intOf z.2.2), List.mem_map.mpr ⟨z, hz, rfl⟩, by simpa using hzk⟩
  rw [storedH_old hk, addD, if_pos this]
  simp only [says, List.map_map]
  refine List.map_congr_left fun y hy => ?_
  simp only [Function.comp, putAt]
  by_cases hyk : y.1 = k
  · have hyz : y = z := by
      obtain ⟨i, hi⟩ := List.mem_iff_getElem?.mp hy
      obtain ⟨j, hj⟩ := List.mem_iff_getElem?.mp hz
      have e1 : xs[i]? = some (k, y.2) := by rw [hi, ← hyk]
      have e2 : xs[j]? = some (k, z.2) := by rw [hj, ← hzk]
      have := idxH_unique hn e1 e2
      subst this
      rw [hi] at hj
      exact Option.some.inj hj
    subst hyz
    simp [hyk, hzp, hp, intOf]
  · simp [hyk]
theorem none_of_take {xs : List (List MK × Addr × Value)} (hn : (xs.map (·.1)).Nodup) {i : Nat} {k : List MK} {p : Addr × Value} (hx : xs[i]? = some (k, p)) : atKey (xs.take i) k = none := by
  refine atKey_none_of_get fun j q hj => ?_
  have hji : j < i := by
    have := (List.getElem?_eq_some_iff.mp hj).1
    rw [List.length_take] at this
    omega
  rw [List.getElem?_take_of_lt hji] at hj
  exact Nat.ne_of_lt hji (idxH_unique hn hj hx)

theorem add_callers_call {w : World} {dp un : Nat} {fr : Option (List Env)} {gd : Option (List Code)} {E : Value → Shared → Prop} {s : Shared} {mg mb : Str → Option Value} {p : Program} {loose : List Str} {Q : Value → Shared → Prop}
    (X : (Hd.hd.heap_39 w.params).In s.heap) (T : TopRead p loose mg mb s.heap) (hroom : dp < 900) (hun : un < 900) {a b : Addr} {xa : List (List MK × Addr × Value)} {ea eb : Array DictEntry} {pa pb : Nat} {k : List MK} {kb : Addr} {n : Int} {t : Tok}
    (hxa : xa.length ≤ 900) (ha : EOf w s.heap ea xa) (da : DAt s.heap a ea pa) (la : (a == sysModules) = false) (hb : EOf w s.heap eb [(k, kb, .int n t)]) (db : DAt s.heap b eb pb) (lb : (b == sysModules) = false)
    (ret : ∀ d es ep xs h' tk', (∀ b o, s.heap.get? b = some o → h'.get? b = some o) → s.heap.get? d = none → DAt h' d es ep → EOf w h' es xs → says xs = addD (says xa) k n → (d == sysModules) = false → Q (.ref d) { s with heap := h', toks := tk' }) :
    wpAny (model PP w) (AA dp un fr gd) (call (.ref 28) [.ref a, .ref b]) Q E s := by
  refine call_fn X T ?_ rfl rfl rfl (locs rfl) rfl rfl rfl (by decide) ?_
  case refine_1 => show dp < 1000; omega
  intro L h₁ tk F N X T
  k_steps
  rename Addr => d
  rename Obj.IsDictOf (intKind PP w) _ _ => hi
  obtain ⟨ep₀, rfl⟩ := empty_is hi
  rename Fr _ _ _ _ => F₁
  rename News _ _ _ _ => N₁
  rename (_ == sysModules) = false => ld
  refine for_pairs F₁ rfl rfl rfl rfl PassesOwn.never (by intro _; rfl) ?_
  k_steps
  refine items_method la (F₁.keep _ _ da) ?_
  have oldne : ∀ {c : Addr} {o : Obj}, s.heap.get? c = some o → d ≠ c := fun e q => by have := (N₁ _ (.head _)).2.2; rw [show (d, dictO #[] ep₀).1 = d from rfl, q, e] at this; cases this
  have oldL : ∀ {c : Addr} {o : Obj}, s.heap.get? c = some o → c ≠ L := fun e => Nat.ne_of_lt (Nat.lt_of_lt_of_le (Heap.lt_size e) F₁.above)
  refine st_items (base := fun _ => _) (Nl := fun (c : Array DictEntry × Nat) => [(d, dictO c.1 c.2)]) (R := fun i c => EOf w s.heap c.1 (xa.take i)) (c₀ := (#[], ep₀)) (fun _ => rfl) rfl
    ⟨_, Heap.get?_push_size _ rfl, rfl, rfl⟩ (Heap.get?_push_of_some _ (F₁.keep _ _ da)) (oldL da) ?_ (F₁.push _) (fun p hp => ⟨Heap.get?_push_of_some _ (N₁ p hp).1, (N₁ p hp).2⟩) ?_ ?_ ?_
  · intro p hp; rw [List.mem_singleton.mp hp]; exact oldne da
  · exact ⟨rfl, (fun _ h => nomatch h), List.nodup_nil, (fun _ h => nomatch h)⟩
  · rintro i ⟨es, ep⟩ e h tk own hi he hR hoff F N
    dsimp only at hR F N
    obtain ⟨k', ka, n', t', hx, hek, hev, hkey⟩ := ha.at he
    rw [hek, hev] at F
    k_steps
    refine put_tab (EOf.room hun) F N (hoff.ne (.head _)) hR hkey ?_ ?_
    · have := ha.size; rw [List.length_take]; omega
    intro h' es' ep' tk' F' N' hE
    refine wpAny_execs_nil ⟨rfl, (es', ep'), _, _, h', _, _, rfl, ?_, F', N', fun p hp => List.mem_append_left _ hp, fun p hp => .tail _ hp⟩
    have hn : atKey (xa.take i) k' = none := none_of_take ha.nodup hx
    rw [storedH_new hn] at hE
    rw [List.take_add_one, hx]
    exact hE
  · rintro ⟨es, ep⟩ u u' h tk hR F N
    dsimp only at hR F N
    rw [ha.size, List.take_length] at hR
    k_steps
    refine for_pairs F rfl rfl rfl rfl PassesOwn.never (by intro _; rfl) ?_
    k_steps
    refine items_method lb (F.keep _ _ db) ?_
    refine st_items (base := fun _ => _) (Nl := fun (c : Array DictEntry × Nat) => [(d, dictO c.1 c.2)]) (R := fun i c => ∃ xs, EOf w s.heap c.1 xs ∧ says xs = if i = 0 then says xa else addD (says xa) k n) (c₀ := (es, ep)) (fun _ => rfl) rfl
      ⟨_, Heap.get?_push_size _ rfl, rfl, rfl⟩ (Heap.get?_push_of_some _ (F.keep _ _ db)) (oldL db) ?_ (F.push _) (fun p hp => ⟨Heap.get?_push_of_some _ (N p hp).1, (N p hp).2⟩) ?_ ?_ ?_
    · intro p hp; rw [List.mem_singleton.mp hp]; exact oldne db
    · exact ⟨xa, hR, rfl⟩
    · rintro i ⟨es, ep⟩ e h tk own hi he hR2 hoff F N
      rw [hb.size] at hi
      obtain rfl : i = 0 := by simpa using hi
      obtain ⟨xs, hE, hsay⟩ := hR2
      dsimp only at hE F N
      obtain ⟨k', ka, n', t', hx, hek, hev, hkey⟩ := hb.at he
      obtain ⟨rfl, rfl, hnt⟩ : k = k' ∧ kb = ka ∧ Value.int n t = Value.int n' t' := by simpa using hx
      injection hnt with hn ht
      subst hn; subst ht
      rw [hek, hev] at F
      k_steps
      have off : ∀ p ∈ own, p.1 ≠ d := hoff.ne (.head _)
      have hlen : xs.length = xa.length := by
        have := congrArg List.length hsay
        simpa using this
      cases hk : atKey xs k with
      | some p =>
        refine in_tab true (by rw [hk]; rfl) (EOf.room hun) ld (N _ (.head _)).1 (hE.keep F.keep) (key_keep hkey F.keep) fun tk' => ?_
        k_steps
        obtain ⟨m, t', hm⟩ : ∃ m t', p.2 = .int m t' := by
          simp only [atKey, Option.map_eq_some_iff] at hk
          obtain ⟨z, hz, rfl⟩ := hk
          exact hE.nums z (List.mem_of_find?_eq_some hz)
        refine get_tab (EOf.room hun) (N _ (.head _)).1 (hE.keep F.keep) (key_keep hkey F.keep) hk fun tk'' => ?_
        rw [hm]
        k_steps
        refine put_tab (EOf.room hun) F N off hE hkey (by omega) ?_
        intro h' es' ep' tk' F' N' hE'
        k_steps
        exact ⟨rfl, (es', ep'), _, _, h', _, _, rfl, ⟨_, hE', says_stored_old hsay hk hm hE.nodup⟩, F', N', fun p hp => List.mem_append_left _ hp, fun p hp => .tail _ hp⟩
      | none =>
        refine in_tab false (by rw [hk]; rfl) (EOf.room hun) ld (N _ (.head _)).1 (hE.keep F.keep) (key_keep hkey F.keep) fun tk' => ?_
        k_steps
        refine put_tab (EOf.room hun) F N off hE hkey (by omega) ?_
        intro h' es' ep' tk' F' N' hE'
        k_steps
        exact ⟨rfl, (es', ep'), _, _, h', _, _, rfl, ⟨_, hE', says_stored_new hsay hk⟩, F', N', fun p hp => List.mem_append_left _ hp, fun p hp => .tail _ hp⟩
    · rintro ⟨es, ep⟩ u u' h tk ⟨xs, hE, hsay⟩ F N
      dsimp only at hE F N
      rw [hb.size] at hsay
      k_steps
      exact ret _ es ep xs _ _ F.keep (N _ (.head _)).2.2 (N _ (.head _)).1 (hE.keep F.keep) hsay ld
end
end Mine

/-! ## Cnt -/
namespace Mine
section
open PySem PySem.W PyProof.Rows PySem.Calls
theorem fill4 : ∀ P h, (Hd.hd.heap_39 P).In h → PySem.Challenge.rw_ie0012_01.row.prog = PySem.Challenge.rw_ie0012_01.row.prog := by
  k_fill
  intros; rfl
def sumD (D : List (List MK × Int)) : Int := (D.map (·.2)).sum
theorem sumD_take {xs : List (List MK × Addr × Value)} {i : Nat} {x : List MK × Addr × Value} (hx : xs[i]? = some x) : sumD (says (xs.take (i + 1))) = sumD (says (xs.take i)) + intOf x.2.2 := by
  rw [List.take_add_one, hx]
  simp [sumD, says]
local macro_rules | `(tactic| walk_at "exec For Name Call cons nil") => `(tactic| (k_here; (rename Fr _ _ _ _ => lF'); (refine' for_at lF' (by rfl) (by rfl) PassesOwn.never (by intro _; rfl) ?_)))
theorem count_calls_call {w : World} {dp un : Nat} {fr : Option (List Env)} {gd : Option (List Code)} {E : Value → Shared → Prop} {s : Shared} {mg mb : Str → Option Value} {p : Program} {loose : List Str} {Q : Value → Shared → Prop}
    (X : (Hd.hd.heap_39 w.params).In s.heap) (T : TopRead p loose mg mb s.heap) (hroom : dp < 900) {a : Addr} {xa : List (List MK × Addr × Value)} {ea : Array DictEntry} {pa : Nat}
    (ha : EOf w s.heap ea xa) (da : DAt s.heap a ea pa) (la : (a == sysModules) = false)
    (ret : ∀ t h' tk', (∀ b o, s.heap.get? b = some o → h'.get? b = some o) → Q (.int (sumD (says xa)) t) { s with heap := h', toks := tk' }) :
    wpAny (model PP w) (AA dp un fr gd) (call (.ref 35) [.ref a]) Q E s := by
  refine call_fn X T ?_ rfl rfl rfl (locs rfl) rfl rfl rfl (by decide) ?_
  case refine_1 => show dp < 1000; omega
  intro L h₁ tk F N X T
  k_steps
  rename Fr _ _ _ _ => F₁
  rename News _ _ _ _ => N₁
  refine values_method la (F₁.keep _ _ da) ?_
  have oldL : ∀ {c : Addr} {o : Obj}, s.heap.get? c = some o → c ≠ L := fun e => Nat.ne_of_lt (Nat.lt_of_lt_of_le (Heap.lt_size e) F₁.above)
  refine st_values (base := fun (c : Int × Tok) y => if y = Str.ofString "nc" then some (.int c.1 c.2) else List.lookup y [(Str.ofString "callers", Value.ref a)]) (Nl := fun _ => []) (R := fun i c => c.1 = sumD (says (xa.take i))) (c₀ := (0, _)) (fun _ => rfl) rfl
    ⟨_, Heap.get?_push_size _ rfl, rfl, rfl⟩ (Heap.get?_push_of_some _ (F₁.keep _ _ da)) (oldL da) (fun p hp => nomatch hp) (F₁.push _) News.nil ?_ ?_ ?_
  · rfl
  · rintro i ⟨c, ct⟩ e h tk own hi he hR hoff F N
    dsimp only at hR F N
    obtain ⟨k', ka, n', t', hx, hek, hev, hkey⟩ := ha.at he
    rw [hev] at F
    k_steps
    rename Fr _ _ _ _ => F'
    rename News _ _ _ _ => N'
    exact ⟨rfl, (_, _), _, _, _, _, rfl, by rw [sumD_take hx, hR]; rfl, fr_swap rfl F', N', (fun _ hp => nomatch hp), fun p hp => hp⟩
  · rintro ⟨c, ct⟩ u h tk hR F N
    dsimp only at hR F N
    rw [ha.size, List.take_length] at hR
    subst hR
    k_steps
    exact ret _ _ _ F.keep
end
end Mine

/-! ## A1 -/
namespace Mine
section
open PySem PySem.W PyProof.Rows PySem.Calls
theorem fillO : ∀ P h, (Hd.hd.heap_39 P).In h → PySem.Challenge.rw_ie0012_01.row.prog = PySem.Challenge.rw_ie0012_01.row.prog := by
  k_fill
  intros; rfl
noncomputable def openedGo (l : List UInt8) (p : Int) : Nat → Int → Int → Int
  | 0, _, many => many
  | f + 1, here, many => if here ≠ p ∧ many ≤ (l.length : Int) then openedGo l p f (l.getD here.toNat 0).toNat (many + 1) else many
noncomputable def opened (l : List UInt8) (p : Int) : Int := openedGo l p (l.length + 1) (l.getD p.toNat 0).toNat 1


structure OCtx (l : List UInt8) (p : Int) : Prop where
  len : l.length < 256
  inn : ∀ i : Nat, i < l.length → (l.getD i 0).toNat < l.length
  lo : 0 ≤ p
  hi : p < (l.length : Int)

/-- the loop's state: where the walker stands, how many boxes it has opened -/
def OAt (l : List UInt8) (p : Int) (here many : Int) : Prop :=
  0 ≤ here ∧ here < (l.length : Int) ∧ 1 ≤ many ∧ many ≤ (l.length : Int) + 1 ∧ openedGo l p (l.length + 2 - many.toNat) here many = opened l p

theorem OCtx.start {l : List UInt8} {p : Int} (C : OCtx l p) : OAt l p ((l.getD p.toNat 0).toNat : Nat) 1 := by
  have h1 := C.lo
  have h2 := C.hi
  have h3 := C.inn p.toNat (by omega)
  exact ⟨by omega, by omega, by omega, by omega, rfl⟩

theorem OAt.next {l : List UInt8} {p here many : Int} (C : OCtx l p) (h : OAt l p here many) (h1 : here ≠ p) (h2 : many ≤ (l.length : Int)) :
    OAt l p ((l.getD here.toNat 0).toNat : Nat) (many + 1) := by
  obtain ⟨a, b, c, d, e⟩ := h
  have h3 := C.inn here.toNat (by omega)
  refine ⟨by omega, by omega, by omega, by omega, ?_⟩
  rw [← e]
  have e1 : l.length + 2 - many.toNat = (l.length + 2 - (many + 1).toNat) + 1 := by omega
  rw [e1]
  conv => rhs; unfold openedGo
  rw [if_pos ⟨h1, h2⟩]

theorem OAt.stop {l : List UInt8} {p here many : Int} (h : OAt l p here many) (h1 : ¬ (here ≠ p ∧ many ≤ (l.length : Int))) : many = opened l p := by
  obtain ⟨a, b, c, d, e⟩ := h
  rw [← e]
  have e1 : l.length + 2 - many.toNat = (l.length + 1 - many.toNat) + 1 := by omega
  rw [e1]
  unfold openedGo
  rw [if_neg h1]

abbrev shapeO (base : Str → Option Value) (here : Int) (th : Tok) (many : Int) (tm : Tok) : Str → Option Value :=
  fun y => if y = Str.ofString "here" then some (.int here th) else if y = Str.ofString "many" then some (.int many tm) else base y

def OStep (h₀ : Heap) (L : Addr) (s : Shared) (base : Str → Option Value) (l : List UInt8) (p : Int) (many : Int) (f : Flow) (s₃ : Shared) : Prop :=
  f = .next ∧ ∃ here' th' many' tm' h' tk, s₃ = { s with heap := h', toks := tk } ∧ Fr h₀ L h' (shapeO base here' th' many' tm') ∧ OAt l p here' many' ∧ many' = many + 1

theorem while_o {w : World} {A : Around} {E : Value → Shared → Prop} {Q : Flow → Shared → Prop} {s : Shared} {env : Env} {h₀ : Heap} {L : Addr} {test : Expr} {body : List Stmt} {pos : Pos} {base : Str → Option Value} {l : List UInt8} {p : Int}
    {here₀ : Int} {th₀ : Tok} {many₀ : Int} {tm₀ : Tok} (C : OCtx l p)
    (F : Fr h₀ L s.heap (shapeO base here₀ th₀ many₀ tm₀)) (h0 : OAt l p here₀ many₀)
    (turn : ∀ here th many tm h tk, OAt l p here many → 0 ≤ here → here < (l.length : Int) → 1 ≤ many → many ≤ (l.length : Int) + 1 → Fr h₀ L h (shapeO base here th many tm) → News h₀ L h [] →
      wpAny (model PP w) A (isTrue test env (eval test env)) (fun b s₂ =>
        if b = true then wpAny (model PP w) A (execs body env) (OStep h₀ L s base l p many) E s₂ else Q .next s₂) E { s with heap := h, toks := tk })
    (hE : PassesOwn (model PP w) A env E) :
    wpAny (model PP w) A (exec (.While test body [] pos) env) Q E s := by
  refine While_inv2 (fun n m news => ∃ here th many tm, m = shapeO base here th many tm ∧ OAt l p here many ∧ n = l.length + 2 - many.toNat) F News.nil ⟨here₀, th₀, many₀, tm₀, rfl, h0, rfl⟩ ?_ hE
  rintro n m₁ news₁ h₁ tk₁ F₁ N₁ ⟨here, th, many, tm, rfl, hat, rfl⟩
  refine wpAny_mono (turn here th many tm h₁ tk₁ hat hat.1 hat.2.1 hat.2.2.1 hat.2.2.2.1 F₁ News.nil) (fun b s₂ h₂ => ?_) fun _ _ x => x
  cases b with
  | false => simpa using h₂
  | true =>
    simp only [if_true] at h₂ ⊢
    refine wpAny_mono h₂ (fun f s₃ h₃ => ?_) fun _ _ x => x
    obtain ⟨rfl, here', th', many', tm', h', tk, rfl, F', hat', hm⟩ := h₃
    refine ⟨h', tk, _, [], _, rfl, F', News.nil, ?_, here', th', many', tm', rfl, hat', rfl⟩
    have := hat.2.2.2.1
    have := hat.2.2.1
    omega

local macro_rules | `(tactic| walk_at "subscriptTail") => `(tactic| (k_here; (with_reducible show wpAny _ _ (subscriptTail _ _ (Value.bytes (List.toArray _) _) (Value.int _ _)) _ _ _); (refine' KBy.item_N ?k1 ?k2 ?k3 ?_; (case k1 => omega); (case k2 => omega); (case k3 => omega))))
local macro_rules | `(tactic| walk_at "exec While BoolOp cons nil") => `(tactic| (k_here; (refine' while_o (by assumption) ?F ?h ?_ PassesOwn.never; (case F => assumption); (case h => exact OCtx.start (by assumption))); intro here th many tm h tk hat h1 h2 h3 h4 F' N'))

theorem shapeO_again {base : Str → Option Value} {a b : Int} {ta tb : Tok} {a' b' : Int} {ta' tb' : Tok} {h₀ h : Heap} {L : Addr}
    (F : Fr h₀ L h fun y => if y = Str.ofString "here" then some (.int a' ta') else if y = Str.ofString "many" then some (.int b' tb') else shapeO base a ta b tb y) : Fr h₀ L h (shapeO base a' ta' b' tb') := by
  have e : (fun y => if y = Str.ofString "here" then some (Value.int a' ta') else if y = Str.ofString "many" then some (.int b' tb') else shapeO base a ta b tb y) = shapeO base a' ta' b' tb' := by
    funext y
    simp only [shapeO]
    split
    · rfl
    · split
      · rfl
      · rfl
  rw [e] at F
  exact F
local macro_rules | `(tactic| walk_at "OStep") => `(tactic| (refine ⟨rfl, _, _, _, _, _, _, rfl, shapeO_again (by assumption), OAt.next (by assumption) (by assumption) (by simp_all) (by simp_all), rfl⟩))
theorem opened_end {l : List UInt8} {q here many : Int} {tm : Tok} {s : Shared} {Q : Value → Shared → Prop} {h' : Heap} {tk : Nat} {L : Addr} {m : Str → Option Value}
    (ret : ∀ t h' tk', (∀ b o, s.heap.get? b = some o → h'.get? b = some o) → Q (.int (opened l q) t) { s with heap := h', toks := tk' })
    (hat : OAt l q here many) (F : Fr s.heap L h' m) (hn : ¬ (here ≠ q ∧ many ≤ (l.length : Int))) : Q (.int many tm) { s with heap := h', toks := tk } := by
  rw [hat.stop hn]
  exact ret _ _ _ F.keep
theorem opened_call {w : World} {dp un : Nat} {fr : Option (List Env)} {gd : Option (List Code)} {E : Value → Shared → Prop} {s : Shared} {mg mb : Str → Option Value} {p : Program} {loose : List Str} {Q : Value → Shared → Prop}
    (X : (Hd.hd.heap_39 w.params).In s.heap) (T : TopRead p loose mg mb s.heap) (hroom : dp < 900) (l : List UInt8) (tb : Tok) (q : Int) (tq : Tok)
    (C : OCtx l q)
    (ret : ∀ t h' tk', (∀ b o, s.heap.get? b = some o → h'.get? b = some o) → Q (.int (opened l q) t) { s with heap := h', toks := tk' }) :
    wpAny (model PP w) (AA dp un fr gd) (call (.ref 42) [.bytes l.toArray tb, .int q tq]) Q E s := by
  have hl := C.len
  have hq := C.lo
  have hq' := C.hi
  refine call_fn X T ?_ rfl rfl rfl (locs rfl) rfl rfl rfl (by decide) ?_
  case refine_1 => show dp < 1000; omega
  intro L h₁ tk F N X T
  k_steps
  all_goals exact opened_end (Q := Q) (s := s) ret (by assumption) (by assumption) (by simp_all)
end
end Mine

/-! ## Disp -/
namespace Mine
section
open PySem PySem.W PyProof.Rows PySem.Calls
def StoreAt (w : World) (A : Around) (d : Addr) (k v : Value) (Q : Value → Shared → Prop) (E : Value → Shared → Prop) (s : Shared) : Prop :=
  wpAny (model PP w) A (storeAll d [(k, v)]) (fun _ s₃ => Q (.ref d) s₃) E s
section
variable {w : World} {A : Around} {E : Value → Shared → Prop} {s : Shared} {env : Env} {h₀ : Heap} {L : Addr} {m : Str → Option Value} {news : List (Addr × Obj)} {Q : Value → Shared → Prop}
theorem dict_one {ke ve : Expr} {pos : Pos} (F : Fr h₀ L s.heap m) (N : News h₀ L s.heap news)
    (h : ∀ d h', (∀ p ∈ news, p.1 ≠ d) → d ≠ L → h₀.objs.size < d → s.heap.get? d = none → Fr h₀ L h' m → News h₀ L h' ((d, dictO #[] 0) :: news) →
      wpAny (model PP w) A (eval ke env) (fun kv s₁ => wpAny (model PP w) A (eval ve env) (fun vv s₂ => StoreAt w A d kv vv Q E s₂) E s₁) E { s with heap := h' }) :
    wpAny (model PP w) A (eval (.Dict [some ke] [ve] pos) env) Q E s := by
  refine wpAny_Dict_any rfl rfl (by simp) (by simp) ?_
  have hlt : h₀.objs.size < s.heap.objs.size := Nat.lt_of_le_of_lt F.above F.ns.lt
  refine wpAny_mono (evalPairs_cons (wpAny_mono (h s.heap.objs.size _ (fun p hp e => absurd (Heap.lt_size (N p hp).1) (e ▸ Nat.lt_irrefl _)) (Nat.ne_of_gt F.ns.lt) hlt (by cases e : s.heap.get? s.heap.objs.size with | none => rfl | some o => exact absurd (Heap.lt_size e) (Nat.lt_irrefl _)) (F.push _) (News.push F N _))
    (fun kv s₁ h₁ => ?_) fun _ _ e => e)) (fun _ _ x => x) fun _ _ e => e
  refine wpAny_bind (wpAny_mono h₁ (fun vv s₂ h₂ => wpAny_bind (wpAny_standAt (wpAny_pure (evalPairs_nil h₂)))) fun _ _ e => e)
theorem store_one {d ka : Addr} {ep : Nat} {k : List MK} {n : Int} {t : Tok} {rest : List (Addr × Obj)} (hu : (KK w).room A) (F : Fr h₀ L s.heap m) (N : News h₀ L s.heap news) (hd : (d, dictO #[] ep) ∈ news) (hrest : ∀ p ∈ rest, p ∈ news) (off : ∀ p ∈ rest, p.1 ≠ d)
    (hkey : IsTupleKey (mixKind PP w) s.heap k ka)
    (h : ∀ h' es ep tk, Fr h₀ L h' m → News h₀ L h' ((d, dictO es ep) :: rest) → EOf w h' es [(k, ka, .int n t)] → Q (.ref d) { s with heap := h', toks := tk }) :
    StoreAt w A d (.ref ka) (.int n t) Q E s := by
  have N2 : News h₀ L s.heap ((d, dictO #[] ep) :: rest) := fun p hp => by
    rcases List.mem_cons.mp hp with rfl | hp
    · exact N _ hd
    · exact N p (hrest p hp)
  have hm : s.heap.DictOfH (KK w) d [] := ⟨_, #[], ep, (N _ hd).1, ⟨rfl, rfl, rfl⟩, rfl, rfl, (fun _ h => nomatch h), List.nodup_nil⟩
  unfold StoreAt
  unfold storeAll
  rw [List.forIn_cons]
  refine wpAny_bind (wpAny_bind ?_)
  refine wpAny_dictSet_heap (knd := KK w) hu hkey hm (fun h' hm' hs => ?_) (by simp)
  obtain ⟨o', es', ep', ho', hx', hd', he', hk', hn'⟩ := hm'
  have ho2 : DAt h' d es' ep' := by show h'.get? d = _; rw [ho', exact_is hx' hd']
  refine wpAny_pure ?_
  dsimp only
  rw [List.forIn_nil]
  exact wpAny_pure (h h' es' ep' _ (fr_put F N2 hs) (news_put N2 hs ho2 off) ⟨he', hk', hn', fun x hx => ⟨n, t, by rw [List.mem_singleton.mp hx]⟩⟩)
end
end
end Mine

/-! ## Ring -/
namespace Mine
section
open PySem PySem.W PyProof.Rows PySem.Calls
theorem fill5 : ∀ P h, (Hd.hd.heap_39 P).In h → PySem.Challenge.rw_ie0012_01.row.prog = PySem.Challenge.rw_ie0012_01.row.prog := by
  k_fill
  intros; rfl
def ringK (n : Int) : List MK := [.inl (Str.ofString "ring"), .inr n, .inl (Str.ofString "persons")]
noncomputable def ringsD (l : List UInt8) : Nat → List (List MK × Int)
  | 0 => []
  | q + 1 => addD (ringsD l q) (ringK (opened l q)) 1
local macro_rules | `(tactic| walk_at "call ref") => `(tactic| (k_here; (refine' call_stop ?_)))
/-- a dict of ours on a heap -/
def Tab (w : World) (h : Heap) (d : Addr) (D : List (List MK × Int)) : Prop :=
  (d == sysModules) = false ∧ ∃ es ep xs, DAt h d es ep ∧ EOf w h es xs ∧ says xs = D
theorem Tab.kept {w : World} {h h' : Heap} {d L : Addr} {D : List (List MK × Int)} {T : String} (x : Tab w h d D) (hd : d ≠ L) (hT1 : (T == "dict") = false) (hT2 : (T == "tuple") = false) (k : KeptBut L T h h') : Tab w h' d D := by
  obtain ⟨lo, es, ep, xs, hm, hE, hs⟩ := x
  have h1 : T ≠ "dict" := by simpa using hT1
  have h2 : T ≠ "tuple" := by simpa using hT2
  refine ⟨lo, es, ep, xs, k d _ (fun e => absurd e hd) (by intro e; injection e with e; exact h1 e.symm) hm, ⟨hE.entries, fun y hy => ?_, hE.nodup, hE.nums⟩, hs⟩
  obtain ⟨o, items, n, ho, hc, hdat, hi⟩ := hE.keys y hy
  exact ⟨o, items, n, k _ _ (fun _ => ⟨items, n, hdat⟩) (by rw [hc]; intro e; injection e with e; exact h2 e.symm) ho, hc, hdat, hi⟩
theorem Tab.keep {w : World} {h h' : Heap} {d : Addr} {D : List (List MK × Int)} (x : Tab w h d D) (k : ∀ b o, h.get? b = some o → h'.get? b = some o) : Tab w h' d D := by
  obtain ⟨lo, es, ep, xs, hm, hE, hs⟩ := x
  exact ⟨lo, es, ep, xs, k _ _ hm, hE.keep k, hs⟩
theorem is_str (x : Str) (t : Tok) : mixIs (.inl x) (.str x t) = true := by simp [mixIs, Value.isStrOf]
theorem is_int (n : Int) (t : Tok) : mixIs (.inr n) (.int n t) = true := by simp [mixIs, Value.isInt]
theorem rest_sub {a b : Addr × Obj} {led : List (Addr × Obj)} : ∀ p ∈ a :: led, p ∈ a :: b :: led := fun p hp => by
  rcases List.mem_cons.mp hp with rfl | hp
  · exact .head _
  · exact .tail _ (.tail _ hp)
theorem EOf.room0 {w : World} {dp un : Nat} {fr : Option (List Env)} {gd : Option (List Code)} {env : Env} (hun : un < 900) : (KK w).room ((AA dp un fr gd).deeper env) := by
  show _ < cLine
  simp only [Around.deeper, AA, cLine]
  omega
theorem un_ok {dp un : Nat} {fr : Option (List Env)} {gd : Option (List Code)} {env : Env} (hun : un < 800) : ((AA dp un fr gd).deeper env).units < 900 := by
  simp only [Around.deeper, AA]
  omega
theorem not_mod {w : World} {h : Heap} {d : Addr} (X : (Hd.hd.heap_39 w.params).In h) (hd : h.objs.size < d) : (d == sysModules) = false := by
  have h59 : ∃ o, (Hd.hd.heap_39 w.params).lookup 59 = some o := ⟨_, rfl⟩
  obtain ⟨o, ho⟩ := h59
  have : (59 : Nat) < h.objs.size := Heap.lt_size (X _ _ ho)
  have hd' : h.objs.size < (d : Nat) := hd
  exact beq_eq_false_iff_ne.mpr (Nat.ne_of_gt (Nat.lt_trans (Nat.lt_trans (by decide : (1 : Nat) < 59) this) hd'))
theorem key3 {w : World} {h : Heap} {a : Addr} {x y : Str} {n : Int} {t u v : Tok} {k : Nat} (e : h.get? a = some { cls := .type "tuple", data := .seq #[.str x t, .int n u, .str y v] k }) : IsTupleKey (mixKind PP w) h [.inl x, .inr n, .inl y] a :=
  ⟨_, _, _, e, rfl, rfl, .cons (is_str x t) (.cons (is_int n u) (.cons (is_str y v) .nil))⟩
theorem Tab.keptAll {w : World} {h₀ h h' : Heap} {d L : Addr} {D : List (List MK × Int)} {m : Str → Option Value} (x : Tab w h d D) (F : Fr h₀ L h m) (hd : d ≠ L) (k : KeptAll L h h') : Tab w h' d D :=
  x.kept (T := "range_iterator") hd rfl rfl (k.but F)
theorem new_ne {h₀ h : Heap} {L d : Addr} {m : Str → Option Value} (F : Fr h₀ L h m) (e : h.get? d = none) : d ≠ L := by
  rintro rfl
  obtain ⟨o, _, _, ho, _⟩ := F.ns
  rw [e] at ho; cases ho
theorem addD_length (D : List (List MK × Int)) (k : List MK) (n : Int) : (addD D k n).length ≤ D.length + 1 := by
  unfold addD; split <;> simp
theorem ringsD_length (l : List UInt8) : ∀ q, (ringsD l q).length ≤ q
  | 0 => Nat.le_refl _
  | q + 1 => Nat.le_trans (addD_length _ _ _) (Nat.succ_le_succ (ringsD_length l q))
theorem rings_call {w : World} {dp un : Nat} {fr : Option (List Env)} {gd : Option (List Code)} {E : Value → Shared → Prop} {s : Shared} {mg mb : Str → Option Value} {p : Program} {loose : List Str} {Q : Value → Shared → Prop}
    (X : (Hd.hd.heap_39 w.params).In s.heap) (T : TopRead p loose mg mb s.heap) (hroom : dp < 800) (hun : un < 800) (l : List UInt8) (tb : Tok) (h100 : l.length ≤ 100) (hin : ∀ i : Nat, i < l.length → (l.getD i 0).toNat < l.length)
    (ret : ∀ d h' tk', (∀ b o, s.heap.get? b = some o → h'.get? b = some o) → s.heap.get? d = none → Tab w h' d (ringsD l l.length) → Q (.ref d) { s with heap := h', toks := tk' }) :
    wpAny (model PP w) (AA dp un fr gd) (call (.ref 49) [.bytes l.toArray tb]) Q E s := by
  refine call_fn X T ?_ rfl rfl rfl (locs rfl) rfl rfl rfl (by decide) ?_
  case refine_1 => show dp < 1000; omega
  intro L h₁ tk F N X T
  iterate 5 walk1
  rename Addr => d
  rename Obj.IsDictOf (intKind PP w) _ _ => hi
  rename Fr _ _ _ _ => F₁
  rename News _ _ _ _ => N₁
  refine for_at F₁ (by rfl) (by rfl) PassesOwn.never (by intro _; rfl) ?_
  k_steps
  rename (_ == sysModules) = false => ld
  rename IsRange _ _ _ _ _ _ _ _ => hr
  obtain ⟨ep₀, rfl⟩ := empty_is hi
  rename Fr _ _ _ _ => F₂
  rename News _ _ _ _ => N₂
  refine st_rangeS (n := l.length) (base := fun (c : Addr) y => if y = Str.ofString "table" then some (.ref c) else List.lookup y [(Str.ofString "boxes", Value.bytes l.toArray tb)])
    (R := fun i c h => c ≠ L ∧ s.heap.get? c = none ∧ Tab w h c (ringsD l i)) (c₀ := d) ?_ rfl hr ?_ ?_ F₂ ?_ ?_ ?_
  · rintro i c h h' ⟨h1, h2, h3⟩ hk
    exact ⟨h1, h2, h3.kept h1 rfl rfl hk⟩
  · have e : l.toArray.size = l.length := List.size_toArray
    first | (rw [e]; exact rsmall_one (by omega) (by omega)) | exact rsmall_one (by omega) (by omega)
  · have e : l.toArray.size = l.length := List.size_toArray
    first | (rw [e]; exact rsize_one (by omega)) | exact rsize_one (by omega)
  · exact ⟨(N₂ _ (.head _)).2.1, (N₂ _ (.head _)).2.2, ld, #[], ep₀, [], (N₂ _ (.head _)).1, ⟨rfl, (fun _ h => nomatch h), List.nodup_nil, (fun _ h => nomatch h)⟩, rfl⟩
  · rintro i a t h tk led hi ⟨_, _, _⟩ hR F N
    k_steps
    refine dict_one F N fun d' h' off hdL hdlt hdn F' N' => ?_
    k_steps
    unfold CallAt
    rw [show (0 + (i : Int) * 1) = (i : Int) by omega]
    refine opened_call (X.keeps F'.keep) (T.keeps F'.keep) (by show dp + 1 < 900; omega) l tb _ t ⟨by omega, hin, by omega, by omega⟩ ?_
    intro t1 h1 tk1 keep1
    have F1 := F'.keeps keep1
    have N1 := News.keepsAll N' keep1
    clear F' N' keep1
    have hd1 : d' < h1.objs.size := Heap.lt_size (N1 _ (.head _)).1
    k_steps
    rename Fr _ _ _ _ => F2
    rename News _ _ _ _ => N2
    refine store_one (k := ringK (opened l i)) (rest := (_, _) :: led) (EOf.room0 (by omega)) F2 N2 (.tail _ (.head _)) (rest_sub) (fun p hp => ?_) (key3 (N2 _ (.head _)).1) ?_
    · rcases List.mem_cons.mp hp with rfl | hp
      · exact Nat.ne_of_gt hd1
      · exact off p hp
    intro h3 es3 ep3 tk3 F3 N3 hE3
    k_steps
    obtain ⟨h1, h2, la, ea, pa, xa, hma, hEa, hsa⟩ := hR _ _ F3 fun p hp => N3 p (.tail _ (.tail _ hp))
    have hxa : xa.length ≤ 900 := by
      have h5 := ringsD_length l i
      rw [← hsa] at h5
      simp at h5
      omega
    unfold CallAt
    refine add_callers_call (X.keeps F3.keep) (T.keeps F3.keep) (by show dp + 1 < 900; omega) (by simp only [Around.deeper, AA]; omega) hxa hEa hma la hE3 (N3 _ (.head _)).1 (not_mod X hdlt) ?_
    intro d4 es4 ep4 xs4 h4 tk4 keep4 hnew4 hm4 hE4 hs4 l4
    have F4 := F3.keeps keep4
    have hd4 : d4 ≠ L := new_ne F3 hnew4
    have hs4' : s.heap.get? d4 = none := Fr.noneBack F3 hnew4
    obtain ⟨sn, Ns, ks⟩ := snap_all F4
    have N4 : News s.heap L h4 (sn ++ led) := Ns.append fun p hp => News.keepsAll N3 keep4 p (.tail _ (.tail _ hp))
    clear F3 N3
    k_steps
    rename Fr _ _ _ _ => F5
    rename News _ _ _ _ => N5
    have tab : Tab w _ d4 (ringsD l (i + 1)) := Tab.keptAll ⟨l4, es4, ep4, xs4, hm4, hE4, by rw [hs4, hsa]; rfl⟩ F4 hd4 (ks _ _ F5 fun p hp => N5 p (List.mem_append_left _ hp))
    exact ⟨rfl, d4, _, _, _, _, rfl, ⟨hd4, hs4', tab⟩, fr_swap rfl F5, N5, fun p hp => List.mem_append_right _ hp⟩
  · rintro a u h tk ⟨h1, h2, h3⟩ F hk
    k_steps
    exact ret a _ _ F.keep h2 h3
end
end Mine

/-! ## Ord -/
namespace Mine
section
open PySem PySem.W PyProof.Rows PySem.Calls
theorem fill6 : ∀ P h, (Hd.hd.heap_39 P).In h → PySem.Challenge.rw_ie0012_01.row.prog = PySem.Challenge.rw_ie0012_01.row.prog := by
  k_fill
  intros; rfl
local macro_rules | `(tactic| walk_at "call ref") => `(tactic| (k_here; (refine' call_stop ?_)))
local macro_rules | `(tactic| walk_at "exec For Name Call cons nil") => `(tactic| (k_here; (refine' for_raw (by intro _; rfl) ?_)))
noncomputable def ordersL : Nat → List UInt8 → List (List UInt8)
  | 0, l => [l]
  | f + 1, l => if l.length < 2 then [l] else (List.range l.length).flatMap fun k => (ordersL f (l.take k ++ l.drop (k + 1))).map fun r => (l.drop k).take 1 ++ r
def BytesAre (vs : List Value) (bs : List (List UInt8)) : Prop := Paired (fun v b => ∃ t, v = Value.bytes b.toArray t) vs bs
theorem BytesAre.append {vs ws : List Value} {bs cs : List (List UInt8)} (h : BytesAre vs bs) (h' : BytesAre ws cs) : BytesAre (vs ++ ws) (bs ++ cs) := by
  induction h with
  | nil => exact h'
  | cons h1 _ ih => exact .cons h1 ih
theorem BytesAre.at {vs : List Value} {bs : List (List UInt8)} (h : BytesAre vs bs) : ∀ {i : Nat} {v : Value}, vs[i]? = some v → ∃ b t, bs[i]? = some b ∧ v = .bytes b.toArray t := by
  induction h with
  | nil => intro i v hv; simp at hv
  | @cons a b l₁ l₂ h1 _ ih =>
    intro i v hv
    cases i with
    | zero => obtain ⟨t, ht⟩ := h1; simp at hv; subst hv; exact ⟨b, t, rfl, ht⟩
    | succ j => exact ih (by simpa using hv)
theorem BytesAre.length {vs : List Value} {bs : List (List UInt8)} (h : BytesAre vs bs) : vs.length = bs.length := by
  induction h with
  | nil => rfl
  | cons _ _ ih => simp [ih]
theorem BytesAre.mapped {g : List UInt8 → List UInt8} {vs ys : List Value} {bs : List (List UInt8)} (h : BytesAre vs bs) (hF : Paired (fun v y => ∃ r t t', v = Value.bytes r.toArray t ∧ y = Value.bytes (g r).toArray t') vs ys) : BytesAre ys (bs.map g) := by
  induction h generalizing ys with
  | nil => cases hF; exact .nil
  | cons h1 _ ih =>
    cases hF with
    | cons h2 r2 =>
      obtain ⟨t, rfl⟩ := h1
      obtain ⟨r, t1, t2, e1, rfl⟩ := h2
      injection e1 with e1
      have : r = _ := (congrArg Array.toList e1).symm
      subst this
      exact .cons ⟨t2, rfl⟩ (ih r2)
theorem sum_le_mul {M : Nat} : ∀ (xs : List Nat), (∀ x ∈ xs, x ≤ M) → xs.sum ≤ xs.length * M
  | [], _ => Nat.zero_le _
  | x :: r, h => by
    have h1 := h x (.head _)
    have h2 := sum_le_mul r fun y hy => h y (.tail _ hy)
    simp only [List.sum_cons, List.length_cons, Nat.add_mul, Nat.one_mul]
    omega
noncomputable abbrev partL (f : Nat) (l : List UInt8) (i : Nat) : List (List UInt8) := (List.range i).flatMap fun k => (ordersL f (l.take k ++ l.drop (k + 1))).map fun r => (l.drop k).take 1 ++ r
theorem pow_pos4 (f : Nat) : 1 ≤ 4 ^ f := Nat.pos_of_ne_zero (by simp)
mutual
theorem ordersL_len : ∀ (f : Nat) (l : List UInt8), l.length ≤ 4 → (ordersL f l).length ≤ 4 ^ f
  | 0, l, _ => by simp [ordersL]
  | f + 1, l, h => by
    unfold ordersL
    split
    · simp; exact pow_pos4 _
    · have := partL_len f l l.length h (Nat.le_refl _)
      refine Nat.le_trans this ?_
      rw [Nat.pow_succ, Nat.mul_comm]
      exact Nat.mul_le_mul_left _ h
theorem partL_len : ∀ (f : Nat) (l : List UInt8) (i : Nat), l.length ≤ 4 → i ≤ l.length → (partL f l i).length ≤ i * 4 ^ f := by
  intro f l i hl hi
  rw [List.length_flatMap]
  refine Nat.le_trans (sum_le_mul (M := 4 ^ f) _ fun x hx => ?_) (by simp)
  obtain ⟨k, hk, rfl⟩ := List.mem_map.mp hx
  have hk' := List.mem_range.mp hk
  rw [List.length_map]
  exact ordersL_len f _ (by simp; omega)
end
theorem partL_next (f : Nat) (l : List UInt8) (i : Nat) : partL f l (i + 1) = partL f l i ++ (ordersL f (l.take i ++ l.drop (i + 1))).map fun r => (l.drop i).take 1 ++ r := by
  simp [partL, List.range_succ]
theorem ordersL_elem : ∀ (f : Nat) (l r : List UInt8), r ∈ ordersL f l → r.length ≤ l.length
  | 0, l, r, h => by
    rw [show ordersL 0 l = [l] from rfl, List.mem_singleton] at h
    rw [h]; exact Nat.le_refl _
  | f + 1, l, r, h => by
    unfold ordersL at h
    split at h
    · rw [List.mem_singleton] at h; rw [h]; exact Nat.le_refl _
    · obtain ⟨k, hk, hr⟩ := List.mem_flatMap.mp h
      obtain ⟨q, hq, rfl⟩ := List.mem_map.mp hr
      have hk' := List.mem_range.mp hk
      have := ordersL_elem f _ q hq
      simp at this ⊢
      omega
theorem fr_twice {h₀ h : Heap} {L : Addr} {x : Str} {v u : Option Value} {b : Str → Option Value} (F : Fr h₀ L h fun y => if y = x then v else if y = x then u else b y) : Fr h₀ L h fun y => if y = x then v else b y := by
  have e : (fun y => if y = x then v else if y = x then u else b y) = fun y => if y = x then v else b y := upd_twice
  rw [e] at F
  exact F
theorem add_bytesL {w : World} {A : Around} {E : Value → Shared → Prop} {s : Shared} {a b : List UInt8} {t u : Tok} {Q : Value → Shared → Prop} (hz : a.length + b.length ≤ 1000) (h : ∀ t' k, Q (.bytes (a ++ b).toArray t') { s with toks := k }) :
    wpAny (model PP w) A (binaryOp .Add (.bytes a.toArray t) (.bytes b.toArray u)) Q E s := by
  refine KBy.add_bytes (by rw [List.size_toArray, List.size_toArray]; omega) fun t' k => ?_
  rw [List.append_toArray]
  exact h t' k
def CompAt (w : World) (A : Around) (e : Expr) (env : Env) (Q : Value → Shared → Prop) (E : Value → Shared → Prop) (s : Shared) : Prop := wpAny (model PP w) A (eval e env) Q E s
theorem comp_stop {w : World} {A : Around} {e : Expr} {env : Env} {Q : Value → Shared → Prop} {E : Value → Shared → Prop} {s : Shared} (h : CompAt w A e env Q E s) : wpAny (model PP w) A (eval e env) Q E s := h
local macro_rules | `(tactic| walk_at "eval ListComp") => `(tactic| (k_here; (refine' comp_stop ?_)))
local macro_rules | `(tactic| walk_at "subscriptTail") => `(tactic| (k_here; (with_reducible show wpAny _ _ (subscriptTail _ (Expr.Slice _ _ none _) (Value.bytes (List.toArray _) _) (Value.ref _)) _ _ _); (rename Fr _ _ _ _ => F'); (rename News _ _ _ _ => N'); (first
  | refine' slice_tail (s := ⟨_, _, _, _, _⟩) (by constructor) (by constructor) (pick_to _ _ (by assumption)).1 (pick_to _ _ (by assumption)).2 (by simp; omega) ?_ (by with_unfolding_all rfl) (by intro _; with_unfolding_all rfl)
  | refine' slice_tail (s := ⟨_, _, _, _, _⟩) (by constructor) (by constructor) (pick_from _ _ (by assumption)).1 (pick_from _ _ (by assumption)).2 (by simp; omega) ?_ (by with_unfolding_all rfl) (by intro _; with_unfolding_all rfl)); intro t' h' k' keep'; (have F2' := F'.keeps keep'); (have N2' := News.keepsAll N' keep'); clear F' N' keep'))
local macro_rules | `(tactic| walk_at "binaryOp Add bytes bytes") => `(tactic| (k_here; (with_reducible show wpAny _ _ (binaryOp Operator.Add (Value.bytes (List.toArray _) _) (Value.bytes (List.toArray _) _)) _ _ _); (refine' add_bytesL (by simp; omega) ?_); intro _ _))
theorem orders_call : ∀ (f : Nat) {w : World} {dp un : Nat} {fr : Option (List Env)} {gd : Option (List Code)} {E : Value → Shared → Prop} {s : Shared} {mg mb : Str → Option Value} {p : Program} {loose : List Str} {Q : Value → Shared → Prop}
    (_X : (Hd.hd.heap_39 w.params).In s.heap) (_T : TopRead p loose mg mb s.heap) (_hroom : dp + 10 * f < 800) (_hun : un + 10 * f < 800) (l : List UInt8) (tb : Tok) (_hl : l.length ≤ f + 1) (_hl4 : l.length ≤ 4) (_hf : f ≤ 3)
    (_ret : ∀ a vs h' tk', (∀ b o, s.heap.get? b = some o → h'.get? b = some o) → s.heap.get? a = none → h'.IsList a vs → BytesAre vs.toList (ordersL f l) → Q (.ref a) { s with heap := h', toks := tk' }),
    wpAny (model PP w) (AA dp un fr gd) (call (.ref 54) [.bytes l.toArray tb]) Q E s := by
  intro f
  induction f with
  | zero =>
    intro w dp un fr gd E s mg mb p loose Q X T hroom hun l tb hl hl4 hf ret
    refine call_fn_cells X T ?_ rfl rfl rfl (fun n => kinds_of ⟨.inr ⟨rfl, rfl⟩, trivial⟩) (by decide) rfl rfl rfl ?_
    case refine_1 => show dp < 1000; omega
    intro L h₁ tk cells F N Y X T
    obtain ⟨o₁, o₂, rfl, hd₁, hd₂⟩ := CellsAre.two Y
    replace F : Fr s.heap L h₁ (fun _ => none) := F
    replace hd₁ : o₁.data = .cell none := hd₁
    replace hd₂ : o₂.data = .cell (some (.bytes l.toArray tb)) := hd₂
    clear Y
    k_steps
    · rename Fr _ _ _ _ => F1
      rename News _ _ _ _ => N1
      exact ret _ _ _ _ F1.keep (N1 _ (.head _)).2.2 ⟨_, (N1 _ (.head _)).1, rfl, _, rfl⟩ (.cons ⟨tb, rfl⟩ .nil)
  | succ f ih =>
    intro w dp un fr gd E s mg mb p loose Q X T hroom hun l tb hl hl4 hf ret
    refine call_fn_cells X T ?_ rfl rfl rfl (fun n => kinds_of ⟨.inr ⟨rfl, rfl⟩, trivial⟩) (by decide) rfl rfl rfl ?_
    case refine_1 => show dp < 1000; omega
    intro L h₁ tk cells F N Y X T
    obtain ⟨o₁, o₂, rfl, hd₁, hd₂⟩ := CellsAre.two Y
    replace F : Fr s.heap L h₁ (fun _ => none) := F
    replace hd₁ : o₁.data = .cell none := hd₁
    replace hd₂ : o₂.data = .cell (some (.bytes l.toArray tb)) := hd₂
    clear Y
    k_steps
    · rename Fr _ _ _ _ => F1
      rename News _ _ _ _ => N1
      have hsz : l.toArray.size = l.length := List.size_toArray
      refine ret _ _ _ _ F1.keep (N1 _ (.head _)).2.2 ⟨_, (N1 _ (.head _)).1, rfl, _, rfl⟩ ?_
      rw [show ordersL (f + 1) l = [l] by rw [ordersL, if_pos (by omega)]]
      exact .cons ⟨tb, rfl⟩ .nil
    · rename Fr _ _ _ _ => F₁
      rename News _ _ _ _ => N₁
      rename IsRange _ _ _ _ _ _ _ _ => hr
      have hsz : l.toArray.size = l.length := List.size_toArray
      refine st_rangeC (n := l.length) (ck := L + 1 + 1) (base := fun (c : Addr) => fun y => if y = Str.ofString "found" then some (.ref c) else none) (fixed := [(L + 1, o₂)])
        (R := fun i c h => c ≠ L ∧ s.heap.get? c = none ∧ ∃ vs, h.IsList c vs ∧ BytesAre vs.toList (partL f l i)) (c₀ := _) ?_ rfl hr ?_ ?_ ?_ ?_ ?_ F₁ ?_ ?_ ?_ rfl rfl rfl ?_ ?_
      · rintro i c h h' ⟨h1, h2, vs, hv, hb⟩ hk
        obtain ⟨o, ho, hc, n, hdat⟩ := hv
        exact ⟨h1, h2, vs, ⟨o, hk _ _ (fun e => absurd e h1) (fun v e => by rw [hdat] at e; cases e) (by rw [hc]; intro e; injection e with e; exact absurd e (by decide)) ho, hc, n, hdat⟩, hb⟩
      · have e : l.toArray.size = l.length := List.size_toArray
        first | (rw [e]; exact rsmall_one (by omega) (by omega)) | exact rsmall_one (by omega) (by omega)
      · have e : l.toArray.size = l.length := List.size_toArray
        first | (rw [e]; exact rsize_one (by omega)) | exact rsize_one (by omega)
      · exact (N₁ _ (.tail _ (.head _))).2.2
      · exact (N₁ _ (.tail _ (.head _))).2.1
      · exact ⟨none, o₁, (N₁ _ (.tail _ (.head _))).1, hd₁⟩
      · intro p hp; exact N₁ p (.tail _ (.tail _ hp))
      · intro p hp; rw [List.mem_singleton.mp hp]; exact Nat.ne_of_lt (Nat.lt_succ_self _)
      · exact ⟨(N₁ _ (.head _)).2.1, (N₁ _ (.head _)).2.2, #[], ⟨_, (N₁ _ (.head _)).1, rfl, _, rfl⟩, .nil⟩
      · rintro i c t h tk led o hi ⟨_, _, _⟩ hR hd F N
        try dsimp only at F N
        rw [show (0 + (i : Int) * 1) = (i : Int) by omega] at hd
        k_steps
        unfold CompAt
        refine wpAny_ListComp_free (fun _ => true) (fun v y => ∃ r t t', v = Value.bytes r.toArray t ∧ y = Value.bytes ((l.drop i).take 1 ++ r).toArray t') rfl (by decide) rfl (by decide) rfl ?_ (by intro _; rfl)
        k_steps
        rename Fr _ _ _ _ => F2
        rename News _ _ _ _ => N2
        unfold CallAt
        refine ih (X.keeps F2.keep) (T.keeps F2.keep) (by show dp + 1 + 10 * f < 800; omega) (by simp only [Around.deeper, AA]; omega) (l.take i ++ l.drop (i + 1)) _ (by simp; omega) (by simp; omega) (by omega) ?_
        intro a vs h3 tk3 keep3 hnew3 hls hbs
        have F3 := F2.keeps keep3
        have N3 := News.keepsAll N2 keep3
        clear F2 N2 keep3
        obtain ⟨oa, hoa, _⟩ := id hls
        have hI : ∀ {b : Addr} {o : Obj}, h3.get? b = some o → b ≠ h3.objs.size := fun e => Nat.ne_of_lt (Heap.lt_size e)
        have L1 : h3.get? (L + 1) = some o₂ := (N3 _ (.tail _ (.head _))).1
        have L2 : h3.get? (L + 1 + 1) = some o := (N3 _ (.head _)).1
        have hlen4 : (l.take i ++ l.drop (i + 1)).length ≤ 4 := by simp; omega
        have h64 : 4 ^ f ≤ 64 := Nat.le_trans (Nat.pow_le_pow_right (by decide) (show f ≤ 3 by omega)) (by decide)
        have hvs : vs.size ≤ 64 := by
          have h5 := hbs.length
          rw [Array.length_toList] at h5
          rw [h5]
          exact Nat.le_trans (ordersL_len f _ hlen4) h64
        refine wpAny_pyIter_list hls ?_
        refine ⟨h3.objs.size, [h3.objs.size, a], [h3.objs.size], vs.size, fun j v => vs[j]? = some v, _, rfl, Walks.list rfl h3.objs.size a (hI hoa) vs, by rw [sizeLine_eq]; omega, ⟨⟨_, Heap.get?_push_size _ rfl, rfl, rfl⟩, hls.at fun o e => Heap.get?_push_of_some _ e⟩, ?_, ⟨?_, ?_⟩, ?_⟩
        · intro b hb
          show b < (h3.push _).objs.size
          rw [Heap.size_push]
          rcases List.mem_cons.mp hb with rfl | hb
          · exact Nat.lt_succ_self _
          · rw [List.mem_singleton.mp hb]; exact Nat.lt_succ_of_lt (Heap.lt_size hoa)
        · intro C j v s₃ m₃ E' hC hP hn hm hold ht
          rw [List.forIn_nil]
          exact wpAny_pure ⟨rfl, _, _, rfl, fun _ _ e => e⟩
        · intro C j v s₃ m₃ E' hC hP hp hn hm hold ht
          obtain ⟨r, tr, hr, rfl⟩ := hbs.at (by rw [Array.getElem?_toList]; exact hP)
          have e1 : s₃.heap.get? (L + 1) = some o₂ := hold _ _ (fun q => hI L1 (List.mem_singleton.mp q)) (Heap.get?_push_of_some _ L1)
          have e2 : s₃.heap.get? (L + 1 + 1) = some o := hold _ _ (fun q => hI L2 (List.mem_singleton.mp q)) (Heap.get?_push_of_some _ L2)
          have hr4 := ordersL_elem f _ r (List.mem_of_getElem? hr)
          refine wpAny_BinOp (Subscript_ (wpAny_Name (wpAny_loadName_cell rfl rfl rfl ⟨o₂, e1, hd₂⟩ (wpAny_Slice (evalPart_some_step (wpAny_Name (wpAny_loadName_cell rfl rfl rfl ⟨o, e2, hd⟩ (evalPart_some_step (wpAny_BinOp (wpAny_Name (wpAny_loadName_cell rfl rfl rfl ⟨o, e2, hd⟩ (wpAny_Constant_int ?_)))))))))))) 
          walk1
          refine evalPart_none_step ?_
          refine slice_tail (s := ⟨_, _, _, _, _⟩) (.int _ _) (.int _ _) (pick_one l i hi (by omega)).1 (pick_one l i hi (by omega)).2 (by simp; omega) ?_ (by with_unfolding_all rfl) (by intro _; with_unfolding_all rfl)
          intro t' h' k' keep'
          refine wpAny_Name (wpAny_loadName_local rfl rfl (hn.keeps keep') hm ?_)
          refine add_bytesL (by simp; omega) fun t'' k'' => ?_
          exact ⟨⟨r, tr, t'', rfl, rfl⟩, _, _, rfl, keep'⟩
        · intro D h4 tk4 ys vs' hDn hlD hpl hlen hP hFp hk4
          obtain rfl := list_of_places hlen hP
          rw [List.filter_eq_self.mpr fun _ _ => rfl] at hFp
          have hb4 := hbs.mapped hFp
          have keep4 : ∀ b o, h3.get? b = some o → h4.get? b = some o := fun b o e => hk4 b o (fun q => hI e (List.mem_singleton.mp q)) (Heap.get?_push_of_some _ e)
          have F4 := F3.keeps keep4
          have N4 := News.keepsAll N3 keep4
          clear F3 N3
          obtain ⟨c1, c2, vs0, hv0, hb0⟩ := hR h4 _ F4 fun p hp => N4 p (.tail _ (.tail _ hp))
          refine add_lists (vs := vs0.toList) (ws := ys.toList) F4 N4 hv0 hlD ?_ ?_
          · intro h5 F5 N5
            clear F4 N4
            k_steps
            rename Fr _ _ _ _ => F6
            rename News _ _ _ _ => N6
            refine ⟨rfl, _, _, _, _, rfl, ⟨(N6 _ (.head _)).2.1, (N6 _ (.head _)).2.2, _, ⟨_, (N6 _ (.head _)).1, rfl, _, rfl⟩, ?_⟩, fr_twice F6, N6, fun p hp => .tail _ (.tail _ (.tail _ hp))⟩
            rw [List.toList_toArray, partL_next]
            exact hb0.append hb4
          · rw [hb0.length, hb4.length, List.length_map, sizeLine_eq]
            have h6 := partL_len f l i hl4 (by omega)
            have h7 := ordersL_len f _ hlen4
            have : i * 4 ^ f ≤ 4 * 64 := Nat.mul_le_mul (by omega) h64
            omega
      · rintro c h tk ⟨h1, h2, vs, hv, hb⟩ F N hcell hk
        try dsimp only at F
        k_steps
        refine ret c vs _ _ F.keep h2 hv ?_
        rw [show ordersL (f + 1) l = partL f l l.length by rw [ordersL, if_neg (by omega)]]
        exact hb
end
end Mine

/-! ## LawP -/
namespace Mine
section
open PySem PySem.W PyProof.Rows PySem.Calls
theorem fill8 : ∀ P h, (Hd.hd.heap_39 P).In h → PySem.Challenge.rw_ie0012_01.row.prog = PySem.Challenge.rw_ie0012_01.row.prog := by
  k_fill
  intros; rfl
def lawParts : Arguments × List Stmt × Scope := (PP.theDef (Str.ofString "law")).getD default
def lawBody : List Stmt := lawParts.2.1
def lawEnv (L : Addr) : Env := envOfC (Str.ofString "law") lawParts.2.2 L 59 (Value.ref 58)
theorem lit_start {w : World} {L : Addr} {k : Nat} {Q : Flow → Shared → Prop} {E : Value → Shared → Prop} {s : Shared}
    (h : ∀ S B, S = lawParts.2.2 → B = lawBody.drop k → wpC w (callerA.deeper (envOfC (Str.ofString "law") S L 59 (Value.ref 58))) (execs B (envOfC (Str.ofString "law") S L 59 (Value.ref 58))) Q E s) : wpC w (callerA.deeper (lawEnv L)) (execs (lawBody.drop k) (lawEnv L)) Q E s := h _ _ rfl rfl
theorem lit_startA {w : World} {L : Addr} {k : Nat} {Q : Flow → Shared → Prop} {E : Value → Shared → Prop} {s : Shared}
    (h : ∀ S B, S = lawParts.2.2 → B = lawBody.drop k → wpAny (model PP w) (callerA.deeper (envOfC (Str.ofString "law") S L 59 (Value.ref 58))) (execs B (envOfC (Str.ofString "law") S L 59 (Value.ref 58))) Q E s) : wpAny (model PP w) (callerA.deeper (lawEnv L)) (execs (lawBody.drop k) (lawEnv L)) Q E s := h _ _ rfl rfl
/-- what stands between two statements of the law's body -/
structure LS (h₀ : Heap) (L : Addr) (h : Heap) (l : List UInt8) (d : List Int) (dd : Addr) : Prop where
  boxes : ∃ t, h.IsCell (L + 1) (some (.bytes l.toArray t))
  many : ∃ t, h.IsCell (L + 1 + 1) (some (.int l.length t))
  order : ∃ v, h.IsCell (L + 1 + 1 + 1) v
  drawn : ∃ vD nD, h.get? dd = some (listOf vD.toArray nD) ∧ IntsAre vD d
  fresh : h₀.get? dd = none
  ne : dd ≠ L
theorem KeptAll.cell {L c : Addr} {h h' : Heap} {v : Option Value} (k : KeptAll L h h') (hc : c ≠ L) (x : h.IsCell c v) : h'.IsCell c v := let ⟨o, ho, hd⟩ := x; ⟨o, k c o hc ho, hd⟩
theorem LS.kept {h₀ : Heap} {L : Addr} {h h' : Heap} {l : List UInt8} {d : List Int} {dd : Addr} (x : LS h₀ L h l d dd) (k : KeptAll L h h') : LS h₀ L h' l d dd := by
  have l1 : L < L + 1 := Nat.lt_succ_self _
  have l2 : L < L + 1 + 1 := Nat.lt_trans l1 (Nat.lt_succ_self _)
  have e1 : L + 1 ≠ L := Nat.ne_of_gt l1
  have e2 : L + 1 + 1 ≠ L := Nat.ne_of_gt l2
  have e3 : L + 1 + 1 + 1 ≠ L := Nat.ne_of_gt (Nat.lt_trans l2 (Nat.lt_succ_self _))
  exact ⟨let ⟨t, h⟩ := x.boxes; ⟨t, k.cell e1 h⟩, let ⟨t, h⟩ := x.many; ⟨t, k.cell e2 h⟩, let ⟨v, h⟩ := x.order; ⟨v, k.cell e3 h⟩, let ⟨vD, nD, h, hi⟩ := x.drawn; ⟨vD, nD, k _ _ x.ne h, hi⟩, x.fresh, x.ne⟩
/-- the ledger that the walker reads: the cells, the drawn list, and all the rest -/
theorem LS.open {h₀ : Heap} {L : Addr} {h : Heap} {l : List UInt8} {d : List Int} {dd : Addr} {m : Str → Option Value} (x : LS h₀ L h l d dd) (F : Fr h₀ L h m) :
    ∃ ob om oo vD nD t t' vo led, ob.data = .cell (some (.bytes l.toArray t)) ∧ om.data = .cell (some (.int l.length t')) ∧ oo.data = .cell vo ∧ IntsAre vD d ∧
      News h₀ L h ([(L + 1, ob), (L + 1 + 1, om), (L + 1 + 1 + 1, oo), (dd, listOf vD.toArray nD)] ++ led) ∧ ∀ h' m', Fr h₀ L h' m' → News h₀ L h' led → KeptAll L h h' := by
  obtain ⟨t, ob, hb, db⟩ := x.boxes
  obtain ⟨t', om, hm, dm⟩ := x.many
  obtain ⟨vo, oo, ho, do'⟩ := x.order
  obtain ⟨vD, nD, hd, hi⟩ := x.drawn
  obtain ⟨led, Nl, kl⟩ := snap_all F
  have none_of : ∀ c : Addr, L < c → h₀.get? c = none := fun c hc => by
    cases e : h₀.get? c with
    | none => rfl
    | some o => exact absurd (Nat.lt_of_lt_of_le (Heap.lt_size e) F.above) (Nat.not_lt.mpr (Nat.le_of_lt hc))
  have l1 : L < L + 1 := Nat.lt_succ_self _
  have l2 : L < L + 1 + 1 := Nat.lt_trans l1 (Nat.lt_succ_self _)
  have l3 : L < L + 1 + 1 + 1 := Nat.lt_trans l2 (Nat.lt_succ_self _)
  refine ⟨ob, om, oo, vD, nD, t, t', vo, led, db, dm, do', hi, fun p hp => ?_, kl⟩
  rcases List.mem_append.mp hp with hp | hp
  · simp at hp
    rcases hp with rfl | rfl | rfl | rfl
    · exact ⟨hb, Nat.ne_of_gt l1, none_of _ l1⟩
    · exact ⟨hm, Nat.ne_of_gt l2, none_of _ l2⟩
    · exact ⟨ho, Nat.ne_of_gt l3, none_of _ l3⟩
    · exact ⟨hd, x.ne, x.fresh⟩
  · exact Nl p hp
theorem fr_pin {h₀ h : Heap} {L : Addr} {m : Str → Option Value} {x : Str} {v : Value} (F : Fr h₀ L h m) (hm : m x = some v) : Fr h₀ L h (fun y => if y = x then some v else m y) :=
  fr_map F fun y => by
    by_cases e : y = x
    · subst e; simp [hm]
    · simp [e]
local macro_rules | `(tactic| walk_at "call ref") => `(tactic| (k_here; (refine' call_stop ?_)))
/-- table = _law_rings(boxes) -/
theorem law_p3 {w : World} {s : Shared} {mg mb : Str → Option Value} {p : Program} {loose : List Str} {Q : Flow → Shared → Prop} {L dd : Addr} {h : Heap} {tk : Nat} {m : Str → Option Value} {l : List UInt8} {d : List Int}
    (X : (Hd.hd.heap_39 w.params).In s.heap) (T : TopRead p loose mg mb s.heap) (F : Fr s.heap L h fun y => if y = Str.ofString "drawn" then some (.ref dd) else m y) (S₀ : LS s.heap L h l d dd)
    (h6 : l.length ≤ 6) (hin : ∀ i : Nat, i < l.length → (l.getD i 0).toNat < l.length)
    (next : ∀ td h tk (m : Str → Option Value), Fr s.heap L h (fun y => if y = Str.ofString "table" then some (.ref td) else if y = Str.ofString "drawn" then some (.ref dd) else m y) → LS s.heap L h l d dd → td ≠ L → s.heap.get? td = none → Tab w h td (ringsD l l.length) →
      wpC w (callerA.deeper (lawEnv L)) (execs (lawBody.drop 4) (lawEnv L)) Q (fun _ _ => False) { s with heap := h, toks := tk }) :
    wpC w (callerA.deeper (lawEnv L)) (execs (lawBody.drop 3) (lawEnv L)) Q (fun _ _ => False) { s with heap := h, toks := tk } := by
  obtain ⟨ob, om, oo, vD, nD, t, t', vo, led, db, dm, do', hi, N, kl⟩ := S₀.open F
  refine lit_start fun S B hS hB => ?_
  conv at hS => rhs; whnf
  conv at hB => rhs; whnf
  subst hS hB
  refine wpC_execs_cons (wpC_of_any ?_)
  k_steps
  unfold CallAt
  refine rings_call (X.keeps F.keep) (T.keeps F.keep) (by decide) (by decide) l t (by omega) hin ?_
  intro td h1 tk1 k1 hn1 tab
  have F1 := F.keeps k1
  have ht := new_ne F hn1
  have ht0 := Fr.noneBack F hn1
  have S1 := S₀.kept (KeptAll.of k1)
  obtain ⟨sn, Ns, ks⟩ := snap_all F1
  have tabk : ∀ h', KeptAll L h1 h' → Tab w h' td (ringsD l l.length) := fun h' k => tab.keptAll F1 ht k
  clear F N
  k_steps
  rename Fr _ _ _ _ => F2
  rename News _ _ _ _ => N2
  have ka := ks _ _ F2 N2
  exact next td _ _ _ F2 (S1.kept ka) ht ht0 (tabk _ ka)
end
end Mine

/-! ## CompN -/
namespace Mine
section
open PySem PySem.W PyProof.Rows PySem.Calls
section
variable {w : World} {A : Around} {E : Value → Shared → Prop} {R : Result → Shared → Prop} {s : Shared} {env : Env}
/-- `[.. for x, y in d.items() if c]` where the test says no at every item -/
theorem comp_none {elt iter c : Expr} {x y : Str} {px py pt pos : Pos} {k : Nat} {scope : Scope} {cl : List (Str × Addr)} {Q : Value → Shared → Prop}
    (hh : A.handled = none) (hclos : closureFor scope env = pure cl) (hcell : ∀ z ∈ scope.names, z.2 ≠ .cell) (hkind : scope.kind = .function)
    (hnames : ∀ z ∈ scope.names, z.2 = .local → scope.names.lookup z.1 = some .local) (hx : scope.names.lookup x = some .local) (hy : scope.names.lookup y = some .local)
    (hs : ∀ x, foldedSetIterable iter env x = pure x)
    (h : wpAny (model PP w) A (eval iter env) (fun xv s₁ => ∃ v d es ep, xv = .ref v ∧ s₁.heap.IsItemsView v d ∧ DAt s₁.heap d es ep ∧
      (∀ C (i : Nat) (e : DictEntry) s₃ (m₃ : Str → Option Value) E', es[i]? = some e → s₃.heap.Ns C m₃ → m₃ y = some e.val → m₃ x = some e.key → (∀ b o, s₁.heap.get? b = some o → s₃.heap.get? b = some o) →
        wpAny (model PP w) A (isTrue c (compEnvC scope cl C env) (eval c (compEnvC scope cl C env))) (fun ok s₄ => ok = false ∧ Keeps s₃ s₄) E' s₃) ∧
      (∀ D h' tk, s₁.heap.get? D = none → (∀ b o, s₁.heap.get? b = some o → h'.get? b = some o) → h'.get? D = some { cls := .type "list", data := .seq #[] } → Q (.ref D) { s₁ with heap := h', toks := tk })) E s)
    (hxy : (y == x) = false) :
    wpAny (model PP w) A (eval (.ListComp elt [⟨.Tuple [.Name x px, .Name y py] k pt, iter, [c], 0⟩] scope pos) env) Q E s := by
  rw [eval_ListComp]
  refine wpAny_comprehension_free (use := none) rfl hs hclos hkind hnames (wpAny_mono h (fun xv s₁ h₁ => ?_) fun _ _ e => e)
  obtain ⟨v, d, es, ep, rfl, hv, hm, htest, hQ⟩ := h₁
  refine iter_items hv hm ?_
  refine wpAny_newObj_type (wpAny_newFunctionEnv hcell (by intro y hy; simp at hy) (fun h₁ hns₁ hsb₁ => ?_) hkind)
  dsimp only at hns₁ hsb₁ ⊢
  have hit0 : IsItemIter (s₁.heap.push { cls := .type "dict_itemiterator", data := .fields #[.none, .bool false, .ref d, .int 0 0, .int es.size 0, .int ep 0, .none, .none] }) s₁.heap.objs.size d 0 es.size ep .none .none := Heap.get?_push_size _ rfl
  have hz2 : (s₁.heap.push { cls := .type "dict_itemiterator", data := .fields #[.none, .bool false, .ref d, .int 0 0, .int es.size 0, .int ep 0, .none, .none] }).objs.size = s₁.heap.objs.size + 1 := Heap.size_push ..
  have hk2 : ∀ b o, s₁.heap.get? b = some o → (s₁.heap.push { cls := .type "dict_itemiterator", data := .fields #[.none, .bool false, .ref d, .int 0 0, .int es.size 0, .int ep 0, .none, .none] }).get? b = some o := fun b o e => Heap.get?_push_of_some _ e
  generalize s₁.heap.push { cls := .type "dict_itemiterator", data := .fields #[.none, .bool false, .ref d, .int 0 0, .int es.size 0, .int ep 0, .none, .none] } = h2 at hit0 hz2 hk2 hns₁ hsb₁ ⊢
  have hz3 : (h2.push { cls := .type "list", dict := none, data := .seq ([] : List Value).toArray }).objs.size = s₁.heap.objs.size + 2 := by rw [Heap.size_push, hz2]
  have hD3 : (h2.push { cls := .type "list", dict := none, data := .seq ([] : List Value).toArray }).get? (s₁.heap.objs.size + 1) = some { cls := .type "list", data := .seq #[] } := hz2 ▸ Heap.get?_push_size _ rfl
  have hk3 : ∀ b o, h2.get? b = some o → (h2.push { cls := .type "list", dict := none, data := .seq ([] : List Value).toArray }).get? b = some o := fun b o e => Heap.get?_push_of_some _ e
  rw [hz2]
  generalize h2.push { cls := .type "list", dict := none, data := .seq ([] : List Value).toArray } = h3 at hz3 hD3 hk3 hns₁ hsb₁ ⊢
  rw [hz3] at hns₁ hsb₁ ⊢
  have hk4 : ∀ b o, h3.get? b = some o → h₁.get? b = some o := fun b o e => hsb₁.extBut b o (Nat.ne_of_lt (hz3 ▸ Heap.lt_size e)) (Heap.get?_push_of_some _ e)
  have dltI : ∀ {b : Addr} {o : Obj}, s₁.heap.get? b = some o → b ≠ s₁.heap.objs.size := fun e => Nat.ne_of_lt (Heap.lt_size e)
  have hDI : s₁.heap.objs.size + 1 ≠ s₁.heap.objs.size := Nat.succ_ne_self _
  have hCI : s₁.heap.objs.size + 2 ≠ s₁.heap.objs.size := Nat.ne_of_gt (Nat.lt_trans (Nat.lt_succ_self _) (Nat.lt_succ_self _))
  have hDC : s₁.heap.objs.size + 1 ≠ s₁.heap.objs.size + 2 := Nat.ne_of_lt (Nat.lt_succ_self _)
  have hCx : (compEnvC scope cl (s₁.heap.objs.size + 2) env).kindOf x = some .local := lookup_relabel_local hx
  have hCy : (compEnvC scope cl (s₁.heap.objs.size + 2) env).kindOf y = some .local := lookup_relabel_local hy
  have hp : ((compEnvC scope cl (s₁.heap.objs.size + 2) env).scope.kind == .class || ((compEnvC scope cl (s₁.heap.objs.size + 2) env).scope.kind == .module && (compEnvC scope cl (s₁.heap.objs.size + 2) env).locals != (compEnvC scope cl (s₁.heap.objs.size + 2) env).globals)) = false := by
    simp [compEnvC, relabel, hkind]
  have hne : y ≠ x := by simpa using hxy
  have loop : ∀ s₄ : Shared, (∃ tk, s₄ = { s₁ with heap := h₁, toks := tk }) →
      codeAny (model PP w) A (.compLoop (.ListComp elt [⟨.Tuple [.Name x px, .Name y py] k pt, iter, [c], 0⟩] scope pos) 0 (.ref s₁.heap.objs.size) (.ref (s₁.heap.objs.size + 1)) (compEnvC scope cl (s₁.heap.objs.size + 2) env))
        (compPost (model PP w) A E none Q (.ref (s₁.heap.objs.size + 1)) (s₁.heap.objs.size + 2)) s₄ := by
    rintro s₄ ⟨tk₄, rfl⟩
    refine kct_loop (fun k s' => ∃ h' tk i m ok ov, s' = { s₁ with heap := h', toks := tk } ∧ IsItemIter h' s₁.heap.objs.size d i es.size ep ok ov ∧ DAt h' d es ep ∧ h'.Ns (s₁.heap.objs.size + 2) m ∧ h'.get? (s₁.heap.objs.size + 1) = some { cls := .type "list", data := .seq #[] } ∧
      (∀ b o, s₁.heap.get? b = some o → h'.get? b = some o) ∧ i ≤ es.size ∧ k = es.size + 1 - i) ?_ (es.size + 1)
      ⟨h₁, tk₄, 0, _, .none, .none, rfl, hk4 _ _ (hk3 _ _ hit0), hk4 _ _ (hk3 _ _ (hk2 _ _ hm)), hns₁, hk4 _ _ hD3, fun b o e => hk4 _ _ (hk3 _ _ (hk2 _ _ e)), Nat.zero_le _, rfl⟩
    rintro n' s' ⟨h', tk, i, m, ok, ov, rfl, hit, hm', hns, hD, hk, hi, rfl⟩
    by_cases hlt : i < es.size
    · refine next_items hit hm' (e := es[i]) (by simp [hlt]) fun a₁ hout ht hz ha₁ => ?_
      have lt := Heap.lt_size hit
      refine wpAny_letOwnedTupleGo_items hout fun a₂ hit₂ hs₂ => ?_
      replace hs₂ : Heap.SameBut s₁.heap.objs.size a₁ a₂ := hs₂
      have ht₂ : a₂.IsTuple h'.objs.size #[es[i].key, es[i].val] := ⟨_, hs₂.extBut _ _ (Nat.ne_of_gt lt) ht, rfl, _, rfl⟩
      refine wpAny_assign_Tuple hh ht₂ rfl rfl fun a₃ hx₃ => ?_
      replace hx₃ : Heap.ExtBut a₂.objs.size a₂ a₃ := hx₃
      have k₂ : ∀ b o, b ≠ s₁.heap.objs.size → h'.get? b = some o → a₂.get? b = some o := fun b o hb e => hs₂.extBut b o hb (ha₁ b o hb e)
      have k₃ : ∀ b o, a₂.get? b = some o → a₃.get? b = some o := fun b o e => hx₃ b o (Nat.ne_of_lt (Heap.lt_size e)) e
      show wpAny _ A (do holding [es[i].val] (assign (.Name x px) (compEnvC scope cl (s₁.heap.objs.size + 2) env) es[i].key); do holding [] (assign (.Name y py) (compEnvC scope cl (s₁.heap.objs.size + 2) env) es[i].val); pure ()) _ _ _
      have n₃ : a₃.Ns (s₁.heap.objs.size + 2) m := hns.at' fun o e => k₃ _ _ (k₂ _ _ hCI e)
      refine wpAny_bind (wpAny_holding (wpAny_assign_Name (wpAny_storeName_local hCx n₃ (fun a₄ n₄ hs₄ => ?_) hp)))
      replace hs₄ : Heap.SameBut (s₁.heap.objs.size + 2) a₃ a₄ := hs₄
      refine wpAny_bind (wpAny_holding (wpAny_assign_Name (wpAny_storeName_local hCy n₄ (fun a₅ n₅ hs₅ => wpAny_pure ?_) hp)))
      replace hs₅ : Heap.SameBut (s₁.heap.objs.size + 2) a₄ a₅ := hs₅
      have k₅ : ∀ b o, b ≠ s₁.heap.objs.size + 2 → a₂.get? b = some o → a₅.get? b = some o := fun b o hb e => hs₅.extBut b o hb (hs₄.extBut b o hb (k₃ b o e))
      have oldC : ∀ {b : Addr} {o : Obj}, s₁.heap.get? b = some o → b ≠ s₁.heap.objs.size + 2 := fun e => Nat.ne_of_lt (Nat.lt_trans (Heap.lt_size e) (Nat.lt_trans (Nat.lt_succ_self _) (Nat.lt_succ_self _)))
      have kold : ∀ b o, s₁.heap.get? b = some o → a₅.get? b = some o := fun b o e => k₅ b o (oldC e) (k₂ b o (dltI e) (hk b o e))
      refine wpAny_mono (htest (s₁.heap.objs.size + 2) i es[i] _ _ _ (by simp [hlt]) n₅ (by simp) (by simp [Ne.symm hne]) kold) (fun ok s₆ h₆ => ?_) fun _ _ e => e
      obtain ⟨rfl, h6, tk6, rfl, k6⟩ := h₆
      rw [if_neg Bool.false_ne_true]
      refine ⟨es.size + 1 - (i + 1), by omega, h6, tk6, i + 1, _, _, _, rfl, k6 _ _ (k₅ _ _ (Ne.symm hCI) hit₂), k6 _ _ (kold _ _ hm), n₅.keeps k6, k6 _ _ (k₅ _ _ hDC (k₂ _ _ hDI hD)), fun b o e => k6 _ _ (kold b o e), hlt, rfl⟩
    · have hin : i = es.size := by omega
      subst hin
      refine next_items_end hh hit hm' (by simp) fun a₁ ha₁ => ?_
      replace ha₁ : Heap.ExtBut s₁.heap.objs.size h' a₁ := ha₁
      refine ⟨m, hns.at' fun o e => ha₁ _ _ hCI e, fun h'' hs'' => ?_⟩
      replace hs'' : Heap.SameBut (s₁.heap.objs.size + 2) a₁ h'' := hs''
      refine hQ _ h'' tk ?_ (fun b o e => hs''.extBut b o (Nat.ne_of_lt (Nat.lt_trans (Heap.lt_size e) (Nat.lt_trans (Nat.lt_succ_self _) (Nat.lt_succ_self _)))) (ha₁ b o (dltI e) (hk b o e))) (hs''.extBut _ _ hDC (ha₁ _ _ hDI hD))
      cases e : s₁.heap.get? (s₁.heap.objs.size + 1) with
      | none => rfl
      | some o => exact absurd (Heap.lt_size e) (Nat.not_lt.mpr (Nat.le_succ _))
  exact codeAny_compStart_list (loop _ ⟨_, rfl⟩) (kcp_self (hk4 _ _ (hk3 _ _ hit0)) (loop _ ⟨_, rfl⟩))
end
end
end Mine

/-! ## LawQ -/
namespace Mine
section
open PySem PySem.W PyProof.Rows PySem.Calls
theorem fill9 : ∀ P h, (Hd.hd.heap_39 P).In h → PySem.Challenge.rw_ie0012_01.row.prog = PySem.Challenge.rw_ie0012_01.row.prog := by
  k_fill
  intros; rfl
local macro_rules | `(tactic| walk_at "call ref") => `(tactic| (k_here; (refine' call_stop ?_)))
local macro_rules | `(tactic| walk_at "eval ListComp") => `(tactic| (k_here; (refine' comp_stop ?_)))
theorem news_add {h₀ h : Heap} {L a : Addr} {o : Obj} {news : List (Addr × Obj)} (ho : h.get? a = some o) (hL : a ≠ L) (hn : h₀.get? a = none) (N : News h₀ L h news) : News h₀ L h ((a, o) :: news) := fun p hp => by
  rcases List.mem_cons.mp hp with rfl | hp
  · exact ⟨ho, hL, hn⟩
  · exact N p hp
theorem key_items {w : World} {h : Heap} {ka : Addr} {x y : Str} {n : Int} (hk : IsTupleKey (mixKind PP w) h [.inl x, .inr n, .inl y] ka) : ∃ t1 t2 t3, IsTup h ka #[.str x t1, .int n t2, .str y t3] := by
  obtain ⟨o, items, k, ho, hc, hd, hi⟩ := hk
  have hi' : ∃ t1 t2 t3, items.toList = [.str x t1, .int n t2, .str y t3] := by
    revert hi
    generalize items.toList = L
    intro hi
    cases hi with
    | cons h1 r =>
      cases r with
      | cons h2 r =>
        cases r with
        | cons h3 r =>
          cases r
          obtain ⟨t1, rfl⟩ := mixIs_str h1
          obtain ⟨t2, rfl⟩ := mixIs_int h2
          obtain ⟨t3, rfl⟩ := mixIs_str h3
          exact ⟨t1, t2, t3, rfl⟩
  obtain ⟨t1, t2, t3, e⟩ := hi'
  have : items = #[.str x t1, .int n t2, .str y t3] := by
    apply Array.toList_inj.mp
    exact e
  subst this
  exact ⟨t1, t2, t3, o, ho, hc, k, hd⟩
/-- if count_calls(table) != many or [..] != []: return False -/
theorem law_p4 {w : World} {s : Shared} {mg mb : Str → Option Value} {p : Program} {loose : List Str} {Q : Flow → Shared → Prop} {L dd td : Addr} {h : Heap} {tk : Nat} {m : Str → Option Value} {l : List UInt8} {d : List Int}
    (X : (Hd.hd.heap_39 w.params).In s.heap) (T : TopRead p loose mg mb s.heap) (F : Fr s.heap L h (fun y => if y = Str.ofString "table" then some (.ref td) else if y = Str.ofString "drawn" then some (.ref dd) else m y)) (S₀ : LS s.heap L h l d dd) (ht : td ≠ L) (ht0 : s.heap.get? td = none) (tab : Tab w h td (ringsD l l.length))
    (c1 : sumD (ringsD l l.length) = l.length) (c2 : ∀ e ∈ ringsD l l.length, ∃ x n y, e.1 = [.inl x, .inr n, .inl y] ∧ n ≠ 0 ∧ Int.fmod e.2 n = 0)
    (next : ∀ h tk (m : Str → Option Value), Fr s.heap L h (fun y => if y = Str.ofString "table" then some (.ref td) else if y = Str.ofString "drawn" then some (.ref dd) else m y) → LS s.heap L h l d dd → Tab w h td (ringsD l l.length) →
      wpC w (callerA.deeper (lawEnv L)) (execs (lawBody.drop 5) (lawEnv L)) Q (fun _ _ => False) { s with heap := h, toks := tk }) :
    wpC w (callerA.deeper (lawEnv L)) (execs (lawBody.drop 4) (lawEnv L)) Q (fun _ _ => False) { s with heap := h, toks := tk } := by
  obtain ⟨ob, om, oo, vD, nD, t, t', vo, led, db, dm, do', hi, N, kl⟩ := S₀.open F
  have tabk : ∀ h', KeptAll L h h' → Tab w h' td (ringsD l l.length) := fun h' k => tab.keptAll F ht k
  refine lit_start fun S B hS hB => ?_
  conv at hS => rhs; whnf
  conv at hB => rhs; whnf
  subst hS hB
  refine wpC_execs_cons (wpC_of_any ?_)
  k_steps
  obtain ⟨lo, es, ep, xs, hm, hE, hsay⟩ := tab
  unfold CallAt
  refine count_calls_call (X.keeps F.keep) (T.keeps F.keep) (by decide) hE hm lo ?_
  intro t1 h1 tk1 k1
  rw [hsay, c1]
  have F1 := F.keeps k1
  have N1 := News.keepsAll N k1
  clear F N
  k_steps
  · exfalso
    first | omega | (simp_all; done) | trace_state
  · unfold CompAt
    refine comp_none rfl rfl (by decide) rfl (by decide) rfl rfl (by intro _; rfl) ?_ rfl
    k_steps
    rename Fr _ _ _ _ => F2
    rename News _ _ _ _ => N2
    refine items_method lo (k1 _ _ hm) ?_
    refine ⟨_, td, es, ep, rfl, ⟨_, Heap.get?_push_size _ rfl, rfl, rfl⟩, Heap.get?_push_of_some _ (k1 _ _ hm), ?_, ?_⟩
    · intro C i e s₃ m₃ E' hei hns hy hx hk
      obtain ⟨k, ka, n, tn, hxi, hek, hev, hkey⟩ := hE.at hei
      rw [hek] at hx
      rw [hev] at hy
      have hmem : (k, n) ∈ ringsD l l.length := by
        rw [← hsay]
        exact List.mem_map.mpr ⟨_, List.mem_of_getElem? hxi, rfl⟩
      obtain ⟨x, q, y, hkq, hq0, hfm⟩ := c2 _ hmem
      dsimp only at hkq hfm
      subst hkq
      obtain ⟨t1, t2, t3, htup⟩ := key_items (key_keep hkey fun b o e => hk b o (Heap.get?_push_of_some _ (k1 b o e)))
      refine wpAny_isTrue_Compare1 (wpAny_BinOp (wpAny_Name (wpAny_loadName_local rfl rfl hns hy (Subscript_ (wpAny_Name (wpAny_loadName_local rfl rfl hns hx (wpAny_Constant_int ?_)))))))
      refine item_tuple (j := 1) (x := .int q t2) htup (by decide) (by decide) rfl rfl ?_
      k_steps
      · rw [hfm]; rfl
      · exact ⟨_, _, rfl, fun _ _ e => e⟩
    · intro D h' tk' hDn hkk hDl
      have F3 := F2.keeps fun b o e => hkk b o (Heap.get?_push_of_some _ e)
      have N3 : News s.heap L h' ((D, { cls := .type "list", data := .seq #[] }) :: _) := news_add hDl (new_ne (F2.push _) hDn) (Fr.noneBack (F2.push _) hDn) (News.keepsAll N2 fun b o e => hkk b o (Heap.get?_push_of_some _ e))
      clear F2 N2
      k_steps
      rename Fr _ _ _ _ => F4
      rename News _ _ _ _ => N4
      have ka := kl _ _ F4 fun p hp => N4 p (by simp [hp])
      exact next _ _ _ F4 (S₀.kept ka) (tabk _ ka)
end
end Mine

/-! ## LawR -/
namespace Mine
section
open PySem PySem.W PyProof.Rows PySem.Calls
theorem fill10 : ∀ P h, (Hd.hd.heap_39 P).In h → PySem.Challenge.rw_ie0012_01.row.prog = PySem.Challenge.rw_ie0012_01.row.prog := by
  k_fill
  intros; rfl
local macro_rules | `(tactic| walk_at "call ref") => `(tactic| (k_here; (refine' call_stop ?_)))
local macro_rules | `(tactic| walk_at "eval ListComp") => `(tactic| (k_here; (refine' comp_stop ?_)))
noncomputable def isFound (l : List UInt8) (v : Value) : Bool := match v with
  | .int q _ => decide (opened l q ≤ Int.fdiv l.length 2)
  | _ => false
noncomputable def fcnt (l : List UInt8) : Nat := ((List.range l.length).filter fun (q : Nat) => decide (opened l q ≤ Int.fdiv l.length 2)).length
theorem ne_size {h : Heap} {b : Addr} {o : Obj} (e : h.get? b = some o) : b ≠ h.objs.size := Nat.ne_of_lt (Heap.lt_size e)
theorem filter_len (l : List UInt8) (vs : List Value) (hv : vs.length = l.length) (hp : ∀ (j : Nat) v, vs[j]? = some v → ∃ t, v = Value.int (j : Int) t) : (vs.filter (isFound l)).length = fcnt l := by
  have e : vs.map (isFound l) = (List.range l.length).map fun (q : Nat) => decide (opened l q ≤ Int.fdiv l.length 2) := by
    apply List.ext_getElem?
    intro j
    rw [List.getElem?_map, List.getElem?_map]
    by_cases hj : j < l.length
    · have : vs[j]? = some vs[j] := by simp
      obtain ⟨t, ht⟩ := hp j _ this
      rw [this, ht, List.getElem?_range hj]
      rfl
    · rw [List.getElem?_eq_none (by omega), List.getElem?_eq_none (by simp; omega)]
      rfl
  have h1 := congrArg (List.countP id) e
  rw [List.countP_map, List.countP_map] at h1
  rw [fcnt, ← List.countP_eq_length_filter, ← List.countP_eq_length_filter]
  exact h1
/-- found = [person for person in range(many) if _law_opened(boxes, person) <= many // 2] -/
theorem law_p5 {w : World} {s : Shared} {mg mb : Str → Option Value} {p : Program} {loose : List Str} {Q : Flow → Shared → Prop} {L dd td : Addr} {h : Heap} {tk : Nat} {m : Str → Option Value} {l : List UInt8} {d : List Int}
    (X : (Hd.hd.heap_39 w.params).In s.heap) (T : TopRead p loose mg mb s.heap) (F : Fr s.heap L h (fun y => if y = Str.ofString "table" then some (.ref td) else if y = Str.ofString "drawn" then some (.ref dd) else m y)) (S₀ : LS s.heap L h l d dd) (ht : td ≠ L) (ht0 : s.heap.get? td = none) (tab : Tab w h td (ringsD l l.length))
    (h1 : 1 ≤ l.length) (h6 : l.length ≤ 6) (hin : ∀ i : Nat, i < l.length → (l.getD i 0).toNat < l.length)
    (next : ∀ fd vs h tk (m : Str → Option Value), Fr s.heap L h (fun y => if y = Str.ofString "found" then some (.ref fd) else if y = Str.ofString "table" then some (.ref td) else if y = Str.ofString "drawn" then some (.ref dd) else m y) → LS s.heap L h l d dd → Tab w h td (ringsD l l.length) →
      (∃ nf, h.get? fd = some (listOf vs nf)) → vs.size = fcnt l → fd ≠ L → s.heap.get? fd = none →
      wpC w (callerA.deeper (lawEnv L)) (execs (lawBody.drop 6) (lawEnv L)) Q (fun _ _ => False) { s with heap := h, toks := tk }) :
    wpC w (callerA.deeper (lawEnv L)) (execs (lawBody.drop 5) (lawEnv L)) Q (fun _ _ => False) { s with heap := h, toks := tk } := by
  obtain ⟨ob, om, oo, vD, nD, t, t', vo, led, db, dm, do', hi, N, kl⟩ := S₀.open F
  have tabk : ∀ h', KeptAll L h h' → Tab w h' td (ringsD l l.length) := fun h' k => tab.keptAll F ht k
  refine lit_start fun S B hS hB => ?_
  conv at hS => rhs; whnf
  conv at hB => rhs; whnf
  subst hS hB
  refine wpC_execs_cons (wpC_of_any ?_)
  refine wpAny_Assign_ListComp_free (isFound l) (fun v y => y = v) rfl rfl (by decide) rfl (by decide) rfl rfl rfl ?_ (by intro _; rfl)
  k_steps
  rename Fr _ _ _ _ => F2
  rename News _ _ _ _ => N2
  rename IsRange _ _ _ _ _ _ _ _ => hr
  refine wpAny_pyIter_range hr (rsmall_one (by omega) (by omega)) ?_
  refine ⟨_, _, _, l.length, _, _, _, rfl, (Walks.range rfl _ 0 1 l.length).bound, by rw [sizeLine_eq]; omega, by show IsRangeIter _ _ _ _ _; rw [rsize_one (by omega)]; simpa using Heap.get?_push_size _ rfl, ?_, ?_, (F2.push _).ns, ⟨?_, ?_⟩, ?_⟩
  · intro b hb
    rw [List.mem_singleton.mp hb]
    rw [Heap.size_push]
    exact Nat.lt_succ_self _
  · intro hm
    exact absurd F2.ns.lt ((List.mem_singleton.mp hm) ▸ Nat.lt_irrefl _)
  · intro C j v s₃ m₃ E' hC hP hn hm hold htk
    obtain ⟨hj, t1, rfl⟩ := hP
    have F3 : Fr s.heap L s₃.heap _ := F2.keeps fun b o e => hold b o (fun q => ne_size e (List.mem_singleton.mp q)) (Heap.get?_push_of_some _ e)
    have N3 := News.keepsAll N2 fun b o e => hold b o (fun q => ne_size e (List.mem_singleton.mp q)) (Heap.get?_push_of_some _ e)
    clear F2 N2
    refine wpAny_tests_one ?_
    k_steps
    rename Fr _ _ _ _ => F3
    rename News _ _ _ _ => N3
    unfold CallAt
    rw [show (0 + (j : Int) * 1) = (j : Int) by omega]
    refine opened_call (X.keeps F3.keep) (T.keeps F3.keep) (by decide) l t j t1 ⟨by omega, hin, by omega, by omega⟩ ?_
    intro t2 h3 tk3 k3
    have F4 := F3.keeps k3
    have N4 := News.keepsAll N3 k3
    clear F3 N3
    k_steps
    · show _ = decide (opened l (0 + (j : Int) * 1) ≤ _)
      rw [show (0 + (j : Int) * 1) = (j : Int) by omega]
    · exact ⟨_, _, rfl, k3⟩
  · intro C j v s₃ m₃ E' hC hP hp hn hm hold htk
    refine wpAny_Name (wpAny_loadName_local rfl rfl hn hm ?_)
    exact ⟨rfl, _, _, rfl, fun _ _ e => e⟩
  · intro D h' tk' ys vs hDn hlD hpl hlen hP hFp hns hk
    have kold : ∀ b o, b ≠ L → _ → h'.get? b = some o := fun b o hb e => hk b o hb (fun q => ne_size e (List.mem_singleton.mp q)) (Heap.get?_push_of_some _ e)
    have F' : Fr s.heap L h' _ := ⟨hns, fun b o e => kold b o (Nat.ne_of_lt (Nat.lt_of_lt_of_le (Heap.lt_size e) F2.above)) (F2.keep b o e), F2.above⟩
    have k2 : KeptAll L h _ := kl _ _ F2 fun p hp => N2 p (List.mem_append_right _ hp)
    have ka : KeptAll L h h' := fun b o hb e => kold b o hb (k2 b o hb e)
    refine next D ys h' tk' _ F' (S₀.kept ka) (tabk _ ka) hpl ?_ (new_ne (F2.push _) hDn) (Fr.noneBack (F2.push _) hDn)
    rw [← Array.length_toList, ← Paired.length hFp]
    refine filter_len l vs hlen fun j v hv => ?_
    obtain ⟨_, t, ht⟩ := hP j v hv
    exact ⟨t, by rw [ht]; congr 1; omega⟩
end
end Mine

/-! ## LawS -/
namespace Mine
section
open PySem PySem.W PyProof.Rows PySem.Calls
theorem fill11 : ∀ P h, (Hd.hd.heap_39 P).In h → PySem.Challenge.rw_ie0012_01.row.prog = PySem.Challenge.rw_ie0012_01.row.prog := by
  k_fill
  intros; rfl
local macro_rules | `(tactic| walk_at "call ref") => `(tactic| (k_here; (refine' call_stop ?_)))
local macro_rules | `(tactic| walk_at "call builtin:len") => `(tactic| (k_here; (refine' call_stop ?_)))
local macro_rules | `(tactic| walk_at "call builtin:max") => `(tactic| (k_here; (refine' call_stop ?_)))
local macro_rules | `(tactic| walk_at "eval ListComp") => `(tactic| (k_here; (refine' comp_stop ?_)))
def keySize : List MK → Int
  | [.inl _, .inr n, .inl _] => n
  | _ => 0
def sizesD (D : List (List MK × Int)) : List Int := D.map fun e => keySize e.1
theorem ints_of_paired {F : Value → Value → Prop} : ∀ {xs : List (List MK × Addr × Value)} {ys : List Value}, Paired F (xs.map fun x => Value.ref x.2.1) ys → (∀ x ∈ xs, ∀ y, F (.ref x.2.1) y → ∃ t, y = .int (keySize x.1) t) → IntsAre ys (xs.map fun x => keySize x.1)
  | [], ys, h, _ => by cases h; exact .nil
  | x :: r, ys, h, hF => by
    cases h with
    | cons h1 h2 =>
      obtain ⟨t, rfl⟩ := hF x (.head _) _ h1
      exact .cons _ _ (ints_of_paired h2 fun y hy => hF y (.tail _ hy))
theorem fr_two {h₀ h : Heap} {L td dd : Addr} {m : Str → Option Value} (F : Fr h₀ L h m) (h1 : m (Str.ofString "table") = some (.ref td) := by rfl) (h2 : m (Str.ofString "drawn") = some (.ref dd) := by rfl) :
    Fr h₀ L h (fun y => if y = Str.ofString "table" then some (.ref td) else if y = Str.ofString "drawn" then some (.ref dd) else m y) := fr_pin (fr_pin F h2) (by show (if _ then _ else _) = _; rw [if_neg (by decide)]; exact h1)
/-- longest = max([word[1] for word in table]), and the two tests behind it -/
theorem law_p6 {w : World} {s : Shared} {mg mb : Str → Option Value} {p : Program} {loose : List Str} {Q : Flow → Shared → Prop} {L dd td fd : Addr} {h : Heap} {tk : Nat} {m : Str → Option Value} {l : List UInt8} {d : List Int} {vs : Array Value}
    (X : (Hd.hd.heap_39 w.params).In s.heap) (T : TopRead p loose mg mb s.heap)
    (F : Fr s.heap L h (fun y => if y = Str.ofString "found" then some (.ref fd) else if y = Str.ofString "table" then some (.ref td) else if y = Str.ofString "drawn" then some (.ref dd) else m y)) (S₀ : LS s.heap L h l d dd) (ht : td ≠ L) (ht0 : s.heap.get? td = none) (tab : Tab w h td (ringsD l l.length))
    (hfd : ∃ nf, h.get? fd = some (listOf vs nf)) (hvs : vs.size = fcnt l) (hfL : fd ≠ L) (hf0 : s.heap.get? fd = none)
    (h1 : 1 ≤ l.length) (h6 : l.length ≤ 6) (c2 : ∀ e ∈ ringsD l l.length, ∃ x n y, e.1 = [.inl x, .inr n, .inl y] ∧ n ≠ 0 ∧ Int.fmod e.2 n = 0)
    (c3 : ∀ M, M ∈ sizesD (ringsD l l.length) → (∀ a ∈ sizesD (ringsD l l.length), a ≤ M) → (((fcnt l : Int) = l.length ↔ M ≤ Int.fdiv l.length 2) ∧ (M > Int.fdiv l.length 2 → (fcnt l : Int) = l.length - M))) (c5 : 0 < (ringsD l l.length).length)
    (next : ∀ h tk (m : Str → Option Value), Fr s.heap L h (fun y => if y = Str.ofString "table" then some (.ref td) else if y = Str.ofString "drawn" then some (.ref dd) else m y) → LS s.heap L h l d dd → Tab w h td (ringsD l l.length) →
      wpC w (callerA.deeper (lawEnv L)) (execs (lawBody.drop 9) (lawEnv L)) Q (fun _ _ => False) { s with heap := h, toks := tk }) :
    wpC w (callerA.deeper (lawEnv L)) (execs (lawBody.drop 6) (lawEnv L)) Q (fun _ _ => False) { s with heap := h, toks := tk } := by
  obtain ⟨ob, om, oo, vD, nD, t, t', vo, led, db, dm, do', hi, N, kl⟩ := S₀.open F
  have tabk : ∀ h', KeptAll L h h' → Tab w h' td (ringsD l l.length) := fun h' k => tab.keptAll F ht k
  obtain ⟨nf, hfd⟩ := hfd
  have N1 := news_add hfd hfL hf0 N
  clear N
  obtain ⟨lo, es, ep, xs, hm, hE, hsay⟩ := tab
  refine lit_start fun S B hS hB => ?_
  conv at hS => rhs; whnf
  conv at hB => rhs; whnf
  subst hS hB
  refine wpC_execs_cons (wpC_of_any ?_)
  k_steps
  unfold CompAt
  refine wpAny_ListComp_free (fun _ => true) (fun v y => ∀ x ∈ xs, v = .ref x.2.1 → ∃ t, y = Value.int (keySize x.1) t) rfl (by decide) rfl (by decide) rfl ?_ (by intro _; rfl)
  k_steps
  refine iter_keys lo hm ?_
  refine ⟨_, _, _, es.size, _, _, rfl, Walks.keys rfl _ td (ne_size hm) es ep, ?_, ⟨⟨_, Heap.get?_push_size _ rfl, rfl, rfl⟩, Heap.get?_push_of_some _ hm⟩, ?_, ⟨?_, ?_⟩, ?_⟩
  · have h5 := ringsD_length l l.length
    have h4 := hE.size
    have h3 := congrArg List.length hsay
    simp at h3
    rw [sizeLine_eq]; omega
  · intro b hb
    rw [Heap.size_push]
    rcases List.mem_cons.mp hb with rfl | hb
    · exact Nat.lt_succ_self _
    · rw [List.mem_singleton.mp hb]; exact Nat.lt_succ_of_lt (Heap.lt_size hm)
  · intro C j v s₃ m₃ E' hC hP hn hm hold htk
    rw [List.forIn_nil]
    exact wpAny_pure ⟨rfl, _, _, rfl, fun _ _ e => e⟩
  · intro C j v s₃ m₃ E' hC hP hp hn hmv hold htk
    obtain ⟨e, hei, rfl⟩ := hP
    obtain ⟨k, ka, n, tn, hxi, hek, hev, hkey⟩ := hE.at hei
    rw [hek] at hmv
    have hmem : (k, n) ∈ ringsD l l.length := by
      rw [← hsay]
      exact List.mem_map.mpr ⟨_, List.mem_of_getElem? hxi, rfl⟩
    obtain ⟨x, q, y, hkq, hq0, hfm⟩ := c2 _ hmem
    dsimp only at hkq hfm
    subst hkq
    have kk : ∀ b o, h.get? b = some o → s₃.heap.get? b = some o := fun b o e => hold b o (fun q => ne_size e (List.mem_singleton.mp q)) (Heap.get?_push_of_some _ e)
    obtain ⟨t1, t2, t3, htup⟩ := key_items (key_keep hkey kk)
    refine Subscript_ (wpAny_Name (wpAny_loadName_local rfl rfl hn hmv (wpAny_Constant_int ?_)))
    refine item_tuple (j := 1) (x := .int q t2) htup (by decide) (by decide) rfl rfl ?_
    refine ⟨fun z hz hzk => ⟨t2, ?_⟩, _, _, rfl, fun _ _ e => e⟩
    rw [hek] at hzk
    injection hzk with hzk
    have hk2 := hE.keys z hz
    rw [← hzk] at hk2
    rw [← hkey.inj hk2]
    rfl
  · intro D h' tk' ys vs' hDn hlD hpl hlen hP hFp hk
    have kold : ∀ b o, h.get? b = some o → h'.get? b = some o := fun b o e => hk b o (fun q => ne_size e (List.mem_singleton.mp q)) (Heap.get?_push_of_some _ e)
    have hvx : vs' = xs.map fun x => Value.ref x.2.1 := by
      apply List.ext_getElem?
      intro j
      rw [List.getElem?_map]
      have h4 := hE.size
      by_cases hj : j < xs.length
      · obtain ⟨v, hv⟩ : ∃ v, vs'[j]? = some v := ⟨vs'[j]'(by omega), by simp⟩
        obtain ⟨e, hei, he⟩ := hP j v hv
        obtain ⟨k, ka, n, tn, hxi, hek, hev, hkey⟩ := hE.at hei
        rw [hv, he, hek, hxi]; rfl
      · rw [List.getElem?_eq_none (by omega), List.getElem?_eq_none (by omega)]; rfl
    subst hvx
    rw [List.filter_eq_self.mpr fun _ _ => rfl] at hFp
    have hints := ints_of_paired hFp fun x hx y hy => hy x hx rfl
    have hsz : (xs.map fun x => keySize x.1) = sizesD (ringsD l l.length) := by rw [← hsay]; simp [sizesD, says]
    rw [hsz] at hints
    have F3 := F.keeps kold
    have N3 := News.keepsAll N1 kold
    have lenpos : 0 < (sizesD (ringsD l l.length)).length := by simpa [sizesD] using c5
    have fit : (vs.size : Int) < 2 ^ 63 := by
      rw [hvs]
      have : fcnt l ≤ l.length := Nat.le_trans (List.length_filter_le _ _) (by simp)
      omega
    clear F N1
    k_steps
    unfold CallAt
    refine kso_max F3 N3 (by rw [Array.toArray_toList]; exact hlD) hints lenpos rfl ?_
    intro h4 M t4 tk4 F4 N4 hM hmax
    obtain ⟨c3a, c4⟩ := c3 M hM hmax
    rw [← hvs] at c3a c4
    clear F3 N3
    k_steps
    refine wpC_execs_cons (wpC_of_any ?_)
    k_steps
    rename Fr _ _ _ _ => F5
    rename News _ _ _ _ => N5
    unfold CallAt
    refine len_list ⟨_, (N5 _ (.head _)).1, rfl, _, rfl⟩ fit ?_
    k_steps
    · exfalso
      rename (_ : Bool) = _ => hb
      have e : ((vs.size : Int) == (l.length : Int)) = decide (M ≤ Int.fdiv l.length 2) := by
        rw [Bool.eq_iff_iff]
        simp [c3a]
      rw [e] at hb
      simp at hb
    refine wpC_execs_cons (wpC_of_any ?_)
    k_steps
    · unfold CallAt
      refine len_list ⟨_, (N5 _ (.head _)).1, rfl, _, rfl⟩ fit ?_
      have c4' := c4 (by omega)
      k_steps
      all_goals first | (exfalso; omega) | exact next _ _ _ (fr_two F5) (S₀.kept (kl _ _ F5 fun p hp => N5 p (by simp [hp]))) (tabk _ (kl _ _ F5 fun p hp => N5 p (by simp [hp])))
    · exact next _ _ _ (fr_two F5) (S₀.kept (kl _ _ F5 fun p hp => N5 p (by simp [hp]))) (tabk _ (kl _ _ F5 fun p hp => N5 p (by simp [hp])))
end
end Mine

/-! ## BaR -/
namespace Mine
section
open PySem PySem.W PyProof.Rows PySem.Calls
theorem br_no_bytes : typeLookup (.type "range") "__bytes__" = pure none := by rw [typeLookup_type, builtinLookup_eq_fast]; kernel_rfl
theorem br_no_index : typeLookup (.type "range") "__index__" = pure none := by rw [typeLookup_type, builtinLookup_eq_fast]; kernel_rfl
theorem br_no_buffer : typeLookup (.type "range") "__buffer__" = pure none := by rw [typeLookup_type, builtinLookup_eq_fast]; kernel_rfl
theorem br_split : splitId "range.__len__" = some ("range", "__len__") := by decide +kernel
section
variable {w : World} {A : Around} {E : Value → Shared → Prop} {s : Shared}
theorem rk_at {n i : Nat} (h : i < n) : (rangeKs 0 n)[i]? = some (i : Int) := by simp [rangeKs, h]
theorem br_loop {R : Result → Shared → Prop} {I S : Addr} {n : Nat} (hh : A.handled = none) (hz : n ≤ 200) (hIS : I ≠ S) :
    ∀ (k i : Nat) (s : Shared), n - i = k → i ≤ n → IsRangeIter s.heap I (i : Int) ((n : Int) - (i : Int)) 1 → s.heap.get? S = some { cls := .type "bytearray", data := .bytearray (byteArr ((rangeKs 0 n).take i)) } →
      (∀ h' t k', (∀ b o, b ≠ I → b ≠ S → s.heap.get? b = some o → h'.get? b = some o) → R (.ok (.ret (.bytes (byteArr (rangeKs 0 n)) t))) { s with heap := h', toks := k' }) →
      codeAny (model PP w) A (.builtin "bytes.__new__.loop" ⟨[.type "bytes", .ref I, .ref S], []⟩) R s := by
  intro k
  induction k with
  | zero =>
    intro i s hk hle hit hS hR
    obtain rfl : i = n := by omega
    refine codeAny_builtin PySem.F.bm_entry_loop ?_
    rw [Around.under_plainId PySem.F.bm_plain_loop _]
    show wpAny _ A.in1 (pyNext (.ref I) >>= _) _ _ s
    refine wpAny_bind (wpAny_pyNext_range_end hh hit (by omega) fun h' he => ?_)
    have hS' := he S _ (Ne.symm hIS) hS
    refine wpAny_bind ?_
    unfold Builtin.Bytes.payload Builtin.Bytes.payload?
    refine wpAny_bind (wpAny_bind (wpAny_load hS' (wpAny_pure (wpAny_pure ?_))))
    rw [List.take_of_length_le (Nat.le_of_eq (rangeKs_length _ _))]
    refine wpAny_bind (wpAny_mkBytes ?_ (by rw [byteArr_size, rangeKs_length, sizeLine_eq]; omega))
    show wpAny _ _ (if (Value.type "bytes" == Value.type "bytes") = true then _ else _) _ _ _
    refine bm_if_true (by decide) ?_
    first
      | exact wpAny_pure (hR h' _ _ fun b o hb _ e => he b o hb e)
      | exact wpAny_bind (wpAny_pure (wpAny_pure (hR h' _ _ fun b o hb _ e => he b o hb e)))
  | succ k ih =>
    intro i s hk hle hit hS hR
    have hlt : i < n := by omega
    refine codeAny_builtin PySem.F.bm_entry_loop ?_
    rw [Around.under_plainId PySem.F.bm_plain_loop _]
    show wpAny _ A.in1 (pyNext (.ref I) >>= _) _ _ s
    refine wpAny_bind (wpAny_pyNext_range_item hit (by omega) fun h' hit' hs => ?_)
    have hS' := (hs.2 S (Ne.symm hIS)).trans hS
    refine wpAny_bind (wpAny_holding (wpAny_of_eq (rfl : asIndex (.int (i : Int) _) = pure (i : Int)) ?_))
    refine wpAny_bind (wpAny_letGo ?_)
    refine bm_if_false (by simp only [Bool.or_eq_false_iff, decide_eq_false_iff_not]; omega) ?_
    refine wpAny_bind ?_
    show wpAny _ _ (updateBytearray S (·.push (i : Int).toNat.toUInt8)) _ _ _
    unfold updateBytearray
    refine wpAny_bind (wpAny_load hS' ?_)
    show wpAny _ _ (update S (Obj.mapBytearray (·.push (i : Int).toNat.toUInt8)) >>= fun _ => lookBehind S) _ _ _
    refine wpAny_bind (wpAny_update hS' ?_)
    have hS₂ : (h'.update S (Obj.mapBytearray (·.push (i : Int).toNat.toUInt8))).get? S = some { cls := .type "bytearray", data := .bytearray (byteArr ((rangeKs 0 n).take (i + 1))) } := by
      rw [byteArr_take (rk_at hlt)]
      exact Heap.get?_update_self (Obj.mapBytearray (·.push (i : Int).toNat.toUInt8)) hS' rfl
    refine wpAny_lookBehind hS₂ ?_ ?_
    · show (if (byteArr ((rangeKs 0 n).take (i + 1))).size > sizeLine then some "bytearray:memory" else none) = none
      rw [if_neg]
      rw [byteArr_size, List.length_take, rangeKs_length, sizeLine_eq]
      omega
    · refine wpAny_pure ⟨plainId_quiet PySem.F.bm_plain_loop _, ih (i + 1) _ (by omega) hlt ?_ hS₂ fun h3 t' k' hk3 => ?_⟩
      · have e1 : ((i + 1 : Nat) : Int) = (i : Int) + 1 := by omega
        have e2 : (n : Int) - ((i + 1 : Nat) : Int) = (n : Int) - (i : Int) - 1 := by omega
        rw [e2, e1]
        exact (Heap.get?_update_other _ _ (Ne.symm hIS)).trans hit'
      · exact hR h3 t' k' fun b o hbI hbS e => hk3 b o hbI hbS ((Heap.get?_update_other _ _ (Ne.symm hbS)).trans (hs.extBut b o hbI e))
theorem br_new {r : Addr} {n : Nat} {tt uu vv : Tok} {Q : Value → Shared → Prop} (hh : A.handled = none) (hr : IsRange s.heap r 0 n 1 tt uu vv) (hsmall : Builtin.Range.small 0 n 1 = true) (hn : Builtin.Range.rangeSize 0 n 1 = (n : Int)) (hz : n ≤ 200)
    (hQ : ∀ h' t k, (∀ b o, s.heap.get? b = some o → h'.get? b = some o) → Q (.bytes (byteArr (rangeKs 0 n)) t) { s with heap := h', toks := k }) :
    codeAny (model PP w) A (.call (.builtin "bytes.__new__") ⟨[.type "bytes", .ref r], []⟩) (wants Q E) s := by
  refine codeAny_of_tree ?_
  show wpAny _ A.in1 (do checkBuiltinCall "bytes.__new__" ⟨[.type "bytes", .ref r], []⟩; again (.builtin "bytes.__new__" ⟨[.type "bytes", .ref r], []⟩)) _ _ s
  refine wpAny_bind (wpAny_of_eq (PySem.F.bm_newCall _) (wpAny_pure ⟨plainId_quiet PySem.F.bm_plain _, codeAny_builtin PySem.F.bm_entry ?_⟩))
  rw [Around.under_plainId PySem.F.bm_plain _]
  have hT : s.TypeIs (.ref r) "range" := ⟨_, hr, rfl⟩
  unfold Builtin.«bytes.__new__»
  refine wpAny_bind (wpAny_of_eq (a := true) rfl ?_)
  refine bm_if_false rfl ?_
  refine wpAny_bind (wpAny_of_eq PySem.F.bm_sub ?_)
  refine bm_if_false rfl ?_
  refine wpAny_bind (wpAny_of_eq (PySem.F.bm_bind _) ?_)
  refine wpAny_bind (wpAny_of_eq (a := ()) rfl ?_)
  refine wpAny_bind (wpAny_of_eq (a := ()) rfl ?_)
  refine bm_if_false rfl ?_
  refine wpAny_bind (wpAny_specialOf hT br_no_bytes ?_)
  refine wpAny_bind (wpAny_bind ?_)
  show wpAny _ _ (load r >>= _) _ _ _
  refine wpAny_bind (wpAny_load hr (wpAny_pure (wpAny_pure ?_)))
  refine bm_if_false rfl ?_
  refine wpAny_bind (wpAny_specialOf hT br_no_index ?_)
  refine bm_if_true rfl ?_
  first
    | show wpAny _ _ (Builtin.Bytes.buffer? "bytes.__new__" (.ref r) true >>= _) _ _ _
    | (refine wpAny_bind ?_; show wpAny _ _ (Builtin.Bytes.buffer? "bytes.__new__" (.ref r) true >>= _) _ _ _)
  refine wpAny_bind ?_
  unfold Builtin.Bytes.buffer?
  refine wpAny_bind (wpAny_specialOf hT br_no_buffer (wpAny_bind (wpAny_specialOf hT br_no_buffer (wpAny_pure ?_))))
  refine wpAny_bind (wpAny_tryCatch (wpAny_pyIter_range hr hsmall ?_))
  rw [hn]
  have hr₁ : IsRange (s.heap.push { cls := .type "range_iterator", data := .fields #[rawInt 0, rawInt (n : Int), rawInt 1] }) r 0 n 1 tt uu vv := Heap.get?_push_of_some _ hr
  have hT₁ : ({ s with heap := s.heap.push { cls := .type "range_iterator", data := .fields #[rawInt 0, rawInt (n : Int), rawInt 1] } } : Shared).TypeIs (.ref r) "range" := ⟨_, hr₁, rfl⟩
  refine wpAny_bind (wpAny_holding ?_)
  unfold Builtin.Bytes.lengthHint
  refine wpAny_bind (wpAny_specialOf hT₁ PySem.F.slot_range_len.lookup ?_)
  dsimp only
  rw [br_split]
  dsimp only
  refine wpAny_bind (wpAny_isInstance hT₁ F.isi_self_range ?_)
  refine bm_if_false rfl ?_
  refine bm_if_false (by decide +kernel) ?_
  refine bm_if_true rfl ?_
  refine wpAny_bind (wpAny_rule ?_)
  refine wpAny_bind (wpAny_attempt (PySem.call_len_range hr₁ hn (by omega) ?_))
  dsimp only
  refine wpAny_bind (wpAny_of_eq (a := some (n : Int)) rfl ?_)
  dsimp only
  refine bm_if_false (by simp [Builtin.Bytes.tooLong, sizeLine_eq]; omega) ?_
  refine wpAny_pure ?_
  refine wpAny_bind ?_
  unfold Builtin.Bytes.newBytearray
  refine wpAny_newObj_type ?_ (Nat.zero_le _)
  have hsz : (s.heap.push { cls := .type "range_iterator", data := .fields #[rawInt 0, rawInt (n : Int), rawInt 1] }).objs.size = s.heap.objs.size + 1 := Heap.size_push _ _
  have main := br_loop (w := w) (A := A) (R := wants Q E) (I := s.heap.objs.size) (S := (s.heap.push { cls := .type "range_iterator", data := .fields #[rawInt 0, rawInt (n : Int), rawInt 1] }).objs.size) hh hz (by rw [hsz]; exact Nat.ne_of_lt (Nat.lt_succ_self _))
    n 0 { s with heap := (s.heap.push { cls := .type "range_iterator", data := .fields #[rawInt 0, rawInt (n : Int), rawInt 1] }).push { cls := .type "bytearray", data := .bytearray #[] }, toks := s.toks + 1 + 1 } rfl (Nat.zero_le _)
    (by show IsRangeIter _ _ _ _ _; simpa using Heap.get?_push_of_some _ (Heap.get?_push_size _ rfl)) (Heap.get?_push_size _ rfl)
    fun h' t k hk => hQ h' t k fun b o e => hk b o (Nat.ne_of_lt (Heap.lt_size e)) (by rw [hsz]; exact Nat.ne_of_lt (Nat.lt_succ_of_lt (Heap.lt_size e))) (Heap.get?_push_of_some _ (Heap.get?_push_of_some _ e))
  first
    | exact wpAny_pure ⟨plainId_quiet PySem.F.bm_plain_loop _, main⟩
    | exact wpAny_pure (wpAny_pure ⟨plainId_quiet PySem.F.bm_plain_loop _, main⟩)
theorem call_bytes_range {r : Addr} {n : Nat} {tt uu vv : Tok} {Q : Value → Shared → Prop} (hh : A.handled = none) (hr : IsRange s.heap r 0 n 1 tt uu vv) (hsmall : Builtin.Range.small 0 n 1 = true) (hn : Builtin.Range.rangeSize 0 n 1 = (n : Int)) (hz : n ≤ 200)
    (hQ : ∀ h' t k, (∀ b o, s.heap.get? b = some o → h'.get? b = some o) → Q (.bytes (byteArr (rangeKs 0 n)) t) { s with heap := h', toks := k }) : wpAny (model PP w) A (call (.type "bytes") [.ref r]) Q E s := by
  refine callType_codes (Q₁ := fun obj s₁ => s₁.TypeIs obj "bytes" ∧ Q obj s₁) PySem.F.bm_called (PySem.F.bm_typeCall _) PySem.F.entry_object_init
    (br_new hh hr hsmall hn hz fun h' t k hk => ⟨PySem.W.typeIs_bytes _ _ _, hQ h' t k hk⟩) fun obj s₁ h₁ => ?_
  exact ⟨h₁.1, PySem.F.args_object_init_2 obj _, object_init_meets PySem.F.bm_called.init.lookup PySem.F.bm_called.made (by decide) PP w A.in1 _ s₁ ⟨h₁.1, rfl, h₁.2⟩⟩
end
end
end Mine

/-! ## LawT -/
namespace Mine
section
open PySem PySem.W PyProof.Rows PySem.Calls
theorem fill12 : ∀ P h, (Hd.hd.heap_39 P).In h → PySem.Challenge.rw_ie0012_01.row.prog = PySem.Challenge.rw_ie0012_01.row.prog := by
  k_fill
  intros; rfl
local macro_rules | `(tactic| walk_at "call ref") => `(tactic| (k_here; (refine' call_stop ?_)))
local macro_rules | `(tactic| walk_at "call builtin:len") => `(tactic| (k_here; (refine' call_stop ?_)))
local macro_rules | `(tactic| walk_at "eval ListComp") => `(tactic| (k_here; (refine' comp_stop ?_)))
def four : List UInt8 := [0, 1, 2, 3]
noncomputable def findsOf (b : List UInt8) : Nat := ((List.range 4).filter fun (q : Nat) => decide (opened b q ≤ 2)).length
def findK (n : Int) : List MK := [.inl (Str.ofString "find"), .inr n, .inl (Str.ofString "order")]
noncomputable def goodN : List (List UInt8) → Int
  | [] => 0
  | b :: r => goodN r + (if findsOf b = 4 then 1 else 0)
noncomputable def wholeD : List (List UInt8) → List (List MK × Int)
  | [] => []
  | b :: r => addD (wholeD r) (findK (findsOf b)) 1
theorem bytes_four : byteArr (rangeKs 0 4) = four.toArray := by decide +kernel
theorem Tab.keptC {w : World} {h h' : Heap} {d L : Addr} {D : List (List MK × Int)} {T : String} (x : Tab w h d D) (hd : d ≠ L) (hT1 : (T == "dict") = false) (hT2 : (T == "tuple") = false) (k : KeptC L T h h') : Tab w h' d D := by
  obtain ⟨lo, es, ep, xs, hm, hE, hs⟩ := x
  have h1 : T ≠ "dict" := by simpa using hT1
  have h2 : T ≠ "tuple" := by simpa using hT2
  refine ⟨lo, es, ep, xs, k d _ (fun e => absurd e hd) (fun v e => nomatch e) (by intro e; injection e with e; exact h1 e.symm) hm, ⟨hE.entries, fun y hy => ?_, hE.nodup, hE.nums⟩, hs⟩
  obtain ⟨o, items, n, ho, hc, hdat, hi⟩ := hE.keys y hy
  exact ⟨o, items, n, k _ _ (fun _ => ⟨items, n, hdat⟩) (fun v e => by rw [hdat] at e; cases e) (by rw [hc]; intro e; injection e with e; exact h2 e.symm) ho, hc, hdat, hi⟩
theorem fr_front {h₀ h : Heap} {L : Addr} {m : Str → Option Value} {x : Str} (F : Fr h₀ L h m) : Fr h₀ L h (fun y => if y = x then m x else m y) := by
  rw [upd_self]; exact F
theorem wholeD_length : ∀ bs : List (List UInt8), (wholeD bs).length ≤ bs.length
  | [] => Nat.le_refl _
  | b :: r => Nat.le_trans (addD_length _ _ _) (Nat.succ_le_succ (wholeD_length r))
noncomputable def isF (b : List UInt8) (v : Value) : Bool := match v with
  | .int q _ => decide (opened b q ≤ 2)
  | _ => false
theorem filter_len4 (b : List UInt8) (vs : List Value) (hv : vs.length = 4) (hp : ∀ (j : Nat) v, vs[j]? = some v → ∃ t, v = Value.int (j : Int) t) : (vs.filter (isF b)).length = findsOf b := by
  have e : vs.map (isF b) = (List.range 4).map fun (q : Nat) => decide (opened b q ≤ 2) := by
    apply List.ext_getElem?
    intro j
    rw [List.getElem?_map, List.getElem?_map]
    by_cases hj : j < 4
    · have : vs[j]? = some (vs[j]'(by omega)) := by simp
      obtain ⟨t, ht⟩ := hp j _ this
      rw [this, ht, List.getElem?_range hj]
      rfl
    · rw [List.getElem?_eq_none (by omega), List.getElem?_eq_none (by simp; omega)]
      rfl
  have h1 := congrArg (List.countP id) e
  rw [List.countP_map, List.countP_map] at h1
  rw [findsOf, ← List.countP_eq_length_filter, ← List.countP_eq_length_filter]
  exact h1
theorem orders_four : ∀ b ∈ ordersL 3 four, b.length = 4 ∧ ∀ i : Nat, i < 4 → (b.getD i 0).toNat < 4 := by decide +kernel
theorem fr_three {h₀ h : Heap} {L : Addr} {w g f f0 g0 w0 : Option Value} {r : Str → Option Value}
    (F : Fr h₀ L h fun y => if y = Str.ofString "whole" then w else if y = Str.ofString "good" then g else if y = Str.ofString "finds" then f else if y = Str.ofString "finds" then f0 else if y = Str.ofString "good" then g0 else if y = Str.ofString "whole" then w0 else r y) :
    Fr h₀ L h fun y => if y = Str.ofString "finds" then f else if y = Str.ofString "good" then g else if y = Str.ofString "whole" then w else r y := fr_map F fun y => by
  by_cases h1 : y = Str.ofString "whole"
  · subst h1; rfl
  · by_cases h2 : y = Str.ofString "good"
    · subst h2; rfl
    · by_cases h3 : y = Str.ofString "finds"
      · subst h3; rfl
      · simp only [if_neg h1, if_neg h2, if_neg h3]
theorem fr_four {h₀ h : Heap} {L td dd wd : Addr} {gv : Value} {m : Str → Option Value} (F : Fr h₀ L h m) (h1 : m (Str.ofString "good") = some gv) (h2 : m (Str.ofString "whole") = some (.ref wd)) (h3 : m (Str.ofString "table") = some (.ref td)) (h4 : m (Str.ofString "drawn") = some (.ref dd)) :
    Fr h₀ L h (fun y => if y = Str.ofString "good" then some gv else if y = Str.ofString "whole" then some (.ref wd) else if y = Str.ofString "table" then some (.ref td) else if y = Str.ofString "drawn" then some (.ref dd) else m y) := fr_map F fun y => by
  by_cases e1 : y = Str.ofString "good"
  · rw [if_pos e1, e1, h1]
  · by_cases e2 : y = Str.ofString "whole"
    · rw [if_neg e1, if_pos e2, e2, h2]
    · by_cases e3 : y = Str.ofString "table"
      · rw [if_neg e1, if_neg e2, if_pos e3, e3, h3]
      · by_cases e4 : y = Str.ofString "drawn"
        · rw [if_neg e1, if_neg e2, if_neg e3, if_pos e4, e4, h4]
        · rw [if_neg e1, if_neg e2, if_neg e3, if_neg e4]
/-- the 24 orders -/
theorem law_p9 {w : World} {s : Shared} {mg mb : Str → Option Value} {p : Program} {loose : List Str} {Q : Flow → Shared → Prop} {L dd td : Addr} {h : Heap} {tk : Nat} {m : Str → Option Value} {l : List UInt8} {d : List Int}
    (X : (Hd.hd.heap_39 w.params).In s.heap) (T : TopRead p loose mg mb s.heap)
    (F : Fr s.heap L h (fun y => if y = Str.ofString "table" then some (.ref td) else if y = Str.ofString "drawn" then some (.ref dd) else m y)) (S₀ : LS s.heap L h l d dd) (ht : td ≠ L) (ht0 : s.heap.get? td = none) (tab : Tab w h td (ringsD l l.length))
    (next : ∀ wd gt h tk (m : Str → Option Value), Fr s.heap L h (fun y => if y = Str.ofString "good" then some (.int (goodN (ordersL 3 four).reverse) gt) else if y = Str.ofString "whole" then some (.ref wd) else if y = Str.ofString "table" then some (.ref td) else if y = Str.ofString "drawn" then some (.ref dd) else m y) → LS s.heap L h l d dd → Tab w h td (ringsD l l.length) →
      wd ≠ L → s.heap.get? wd = none → Tab w h wd (wholeD (ordersL 3 four).reverse) →
      wpC w (callerA.deeper (lawEnv L)) (execs (lawBody.drop 11) (lawEnv L)) Q (fun _ _ => False) { s with heap := h, toks := tk }) :
    wpC w (callerA.deeper (lawEnv L)) (execs (lawBody.drop 9) (lawEnv L)) Q (fun _ _ => False) { s with heap := h, toks := tk } := by
  obtain ⟨ob, om, oo, vD, nD, t, t', vo, led, db, dm, do', hi, N, kl⟩ := S₀.open F
  have tabk : ∀ h', KeptAll L h h' → Tab w h' td (ringsD l l.length) := fun h' k => tab.keptAll F ht k
  refine lit_start fun S B hS hB => ?_
  conv at hS => rhs; whnf
  conv at hB => rhs; whnf
  subst hS hB
  refine wpC_execs_cons (wpC_of_any ?_)
  k_steps
  rename_i wd _ ow _ lod _ _ hid _ _ _ _ _ _ _ _ _
  refine wpC_execs_cons (wpC_of_any ?_)
  refine for_raw (by intro _; rfl) ?_
  k_steps
  rename IsRange _ _ _ _ _ _ _ _ => hr
  rename Fr _ _ _ _ => F2
  rename News _ _ _ _ => N2
  refine call_bytes_range (n := 4) rfl hr rfl rfl (by decide) ?_
  rw [bytes_four]
  intro h5 t5 k5 keep5
  have F3 := F2.keeps keep5
  have N3 := News.keepsAll N2 keep5
  clear F2 N2
  k_steps
  rename Fr _ _ _ _ => F3
  rename News _ _ _ _ => N3
  unfold CallAt
  refine orders_call 3 (X.keeps F3.keep) (T.keeps F3.keep) (by decide) (by decide) four t5 (by decide) (by decide) (by decide) ?_
  intro a vs h6 tk6 keep6 hna hls hbs
  have F4 := F3.keeps keep6
  have N4 := News.keepsAll N3 keep6
  have ha := new_ne F3 hna
  obtain ⟨ep₀, rfl⟩ := empty_is hid
  have ka : KeptAll L h h6 := kl _ _ F4 fun p hp => N4 p (by simp [hp])
  have S6 := S₀.kept ka
  have tab6 := tabk _ ka
  have hbl := hbs.length
  rw [Array.length_toList] at hbl
  have F5 := fr_front (x := Str.ofString "finds") F4
  refine st_listC (ck := L + 1 + 1 + 1) (h₀ := s.heap) (base := fun (c : Option Value × (Int × Tok) × Addr) y => if y = Str.ofString "finds" then c.1 else if y = Str.ofString "good" then some (.int c.2.1.1 c.2.1.2) else if y = Str.ofString "whole" then some (.ref c.2.2) else if y = Str.ofString "table" then some (.ref td) else if y = Str.ofString "drawn" then some (.ref dd) else m y)
    (fixed := [(L + 1, ob), (L + 1 + 1, om)])
    (R := fun i c h => c.2.2 ≠ L ∧ s.heap.get? c.2.2 = none ∧ Tab w h c.2.2 (wholeD ((ordersL 3 four).take i).reverse) ∧ c.2.1.1 = goodN ((ordersL 3 four).take i).reverse ∧ Tab w h td (ringsD l l.length) ∧ h.get? dd = some (listOf vD.toArray nD))
    (c₀ := (m (Str.ofString "finds"), (0, tk), wd)) ?_ rfl hls ha ?_ ?_ ?_ ?_ F5 ?_ ?_ ?_ rfl rfl rfl ?_ ?_
  · rintro i c h h' ⟨g1, g2, g3, g4, g5, g6⟩ hk
    exact ⟨g1, g2, g3.keptC g1 rfl rfl hk, g4, g5.keptC ht rfl rfl hk, hk _ _ (fun e => absurd e S₀.ne) (fun v e => nomatch e) (by intro e; injection e with e; exact absurd e (by decide)) g6⟩
  · intro e
    obtain ⟨v, o, ho, hd⟩ := S6.order
    obtain ⟨o', ho', hc, n, hdat⟩ := hls
    rw [e, ho] at ho'; cases ho'
    rw [hd] at hdat; cases hdat
  · exact (N4 (L + 1 + 1 + 1, oo) (by simp)).2.2
  · exact (N4 (L + 1 + 1 + 1, oo) (by simp)).2.1
  · exact S6.order
  · intro p hp
    refine N4 p ?_
    simp at hp ⊢
    rcases hp with h | h <;> simp [h]
  · intro p hp
    simp at hp
    rcases hp with h | h <;> rw [h]
    · exact Nat.ne_of_lt (Nat.lt_trans (Nat.lt_succ_self _) (Nat.lt_succ_self _))
    · exact Nat.ne_of_lt (Nat.lt_succ_self _)
  · exact ⟨(N4 (wd, dictO #[] ep₀) (by simp)).2.1, (N4 (wd, dictO #[] ep₀) (by simp)).2.2, ⟨lod, #[], ep₀, [], (N4 (wd, dictO #[] ep₀) (by simp)).1, ⟨rfl, (fun _ h => nomatch h), List.nodup_nil, (fun _ h => nomatch h)⟩, rfl⟩, rfl, tab6, (N4 (dd, listOf vD.toArray nD) (by simp)).1⟩
  · rintro i ⟨fo, ⟨gd, gt⟩, wa⟩ v h tk led o hi hv ⟨g1, g2, g3, g4, g5, g6⟩ hR hd F N
    dsimp only at g1 g2 g3 g4 F N
    obtain ⟨b, tb, hb, rfl⟩ := hbs.at (by rw [Array.getElem?_toList]; exact hv)
    clear F4 N4 F5
    obtain ⟨hb4, hbin⟩ := orders_four b (List.mem_of_getElem? hb)
    k_steps
    unfold CompAt
    refine wpAny_ListComp_free (isF b) (fun v y => y = v) rfl (by decide) rfl (by decide) rfl ?_ (by intro _; rfl)
    k_steps
    rename Fr _ _ _ _ => F2
    rename News _ _ _ _ => N2
    rename IsRange _ _ _ _ _ _ _ _ => hr
    refine wpAny_pyIter_range hr rfl ?_
    refine ⟨_, _, _, 4, _, _, rfl, (Walks.range rfl _ 0 1 4).bound, by rw [sizeLine_eq]; omega, by exact Heap.get?_push_size _ rfl, ?_, ⟨?_, ?_⟩, ?_⟩
    · intro b hb
      rw [List.mem_singleton.mp hb, Heap.size_push]
      exact Nat.lt_succ_self _
    · intro C j v s₃ m₃ E' hC hP hn hm hold htk
      obtain ⟨hj, t1, rfl⟩ := hP
      have F3 : Fr s.heap L s₃.heap _ := F2.keeps fun b o e => hold b o (fun q => ne_size e (List.mem_singleton.mp q)) (Heap.get?_push_of_some _ e)
      have N3 := News.keepsAll N2 fun b o e => hold b o (fun q => ne_size e (List.mem_singleton.mp q)) (Heap.get?_push_of_some _ e)
      clear F2 N2
      refine wpAny_tests_one ?_
      k_steps
      rename Fr _ _ _ _ => F3
      rename News _ _ _ _ => N3
      unfold CallAt
      rw [show (0 + (j : Int) * 1) = (j : Int) by omega]
      refine opened_call (X.keeps F3.keep) (T.keeps F3.keep) (by decide) b tb j t1 ⟨by omega, by rw [hb4]; exact hbin, by omega, by omega⟩ ?_
      intro t2 h3 tk3 k3
      have F4 := F3.keeps k3
      have N4 := News.keepsAll N3 k3
      clear F3 N3
      k_steps
      · show _ = decide (opened b (0 + (j : Int) * 1) ≤ _)
        rw [show (0 + (j : Int) * 1) = (j : Int) by omega]
      · exact ⟨_, _, rfl, k3⟩
    · intro C j v s₃ m₃ E' hC hP hp hn hm hold htk
      refine wpAny_Name (wpAny_loadName_local rfl rfl hn hm ?_)
      exact ⟨rfl, _, _, rfl, fun _ _ e => e⟩
    · intro D h' tk' ys vs hDn hlD hpl hlen hP hFp hk
      have hys : ys.size = findsOf b := by
        rw [← Array.length_toList, ← Paired.length hFp]
        refine filter_len4 b vs hlen fun j v hv => ?_
        obtain ⟨_, t, ht⟩ := hP j v hv
        exact ⟨t, by rw [ht]; congr 1; omega⟩
      have kold : ∀ b o, Heap.get? _ b = some o → h'.get? b = some o := fun b o e => hk b o (fun q => ne_size e (List.mem_singleton.mp q)) (Heap.get?_push_of_some _ e)
      have F3 := F2.keeps kold
      have N3 := News.keepsAll N2 kold
      clear F2 N2
      have fit : (ys.size : Int) < 2 ^ 63 := by
        rw [hys]
        have : findsOf b ≤ 4 := Nat.le_trans (List.length_filter_le _ _) (by simp)
        omega
      k_steps
      unfold CallAt
      refine len_list hlD fit ?_
      rw [hys]
      have hRk := hR
      k_steps
      rename Fr _ _ _ _ => F4
      rename News _ _ _ _ => N4
      refine dict_one F4 N4 fun d' h' off hdL hdlt hdn F' N' => ?_
      have hd1 : d' < h'.objs.size := Heap.lt_size (N' _ (.head _)).1
      k_steps
      rename Fr _ _ _ _ => F5
      rename News _ _ _ _ => N5
      refine store_one (k := findK (findsOf b)) (rest := (_, _) :: _) (by show _ < cLine; simp only [Around.deeper, callerA, cLine]; omega) F5 N5 (.tail _ (.head _)) rest_sub (fun p hp => ?_) (key3 (N5 _ (.head _)).1) ?_
      · rcases List.mem_cons.mp hp with rfl | hp
        · exact Nat.ne_of_gt hd1
        · exact off p hp
      intro h6 es6 ep6 tk6 F6 N6 hE6
      k_steps
      rename Fr _ _ _ _ => F6
      rename News _ _ _ _ => N6
      obtain ⟨q1, q2, ⟨la, ea, pa, xa, hma, hEa, hsa⟩, q4, q5, q6⟩ := hRk _ _ F6 fun p hp => N6 p (by simp [hp])
      have hxa : xa.length ≤ 900 := by
        have h5 := wholeD_length ((ordersL 3 four).take i).reverse
        rw [← hsa, List.length_map, List.length_reverse] at h5
        exact Nat.le_trans h5 (Nat.le_trans (List.length_take_le' i _) (by decide))
      unfold CallAt
      refine add_callers_call (X.keeps F6.keep) (T.keeps F6.keep) (by decide) (by decide) hxa hEa hma la hE6 (N6 _ (.head _)).1 (not_mod X hdlt) ?_
      intro d4 es4 ep4 xs4 h4 tk4 keep4 hnew4 hm4 hE4 hs4 l4
      have F7 := F6.keeps keep4
      have hd4 := new_ne F6 hnew4
      have hd40 := Fr.noneBack F6 hnew4
      have q5' := q5.keep keep4
      have q6' := keep4 _ _ q6
      obtain ⟨sn, Ns, ks⟩ := snap_all F7
      have N7 : News s.heap L h4 (sn ++ led) := Ns.append fun p hp => News.keepsAll N6 keep4 p (by simp [hp])
      have tabw : ∀ h', KeptAll L h4 h' → Tab w h' d4 (wholeD ((ordersL 3 four).take (i + 1)).reverse) := fun h' k => Tab.keptAll ⟨l4, es4, ep4, xs4, hm4, hE4, by
        rw [hs4, hsa, List.take_add_one, hb, List.reverse_append]; rfl⟩ F7 hd4 k
      have tabt : ∀ h', KeptAll L h4 h' → Tab w h' td (ringsD l l.length) := fun h' k => q5'.keptAll F7 ht k
      clear F6 N6
      k_steps
      rename Fr _ _ _ _ => F8
      rename News _ _ _ _ => N8
      have kf := ks _ _ F8 fun p hp => N8 p (List.mem_append_left _ hp)
      refine ⟨rfl, (_, (_, _), d4), _, _, _, rfl, ⟨hd4, hd40, tabw _ kf, ?_, tabt _ kf, kf _ _ S₀.ne q6'⟩, fr_three F8, N8, fun p hp => List.mem_append_right _ hp⟩
      have e1 : gd = goodN ((ordersL 3 four).take i).reverse := g4
      rw [List.take_add_one, hb, List.reverse_append]
      show gd + _ = goodN (b :: ((ordersL 3 four).take i).reverse)
      rw [goodN, ← e1]
      congr 1
      by_cases hf : findsOf b = 4
      · simp [hf]
      · have : ¬ ((findsOf b : Int) = 4) := by omega
        simp [hf, this]
  · rintro ⟨fo, ⟨gd, gt⟩, wa⟩ h tk ⟨g1, g2, g3, g4, g5, g6⟩ F N hcell hk
    dsimp only at g1 g2 g3 g4 F N
    have hall : (ordersL 3 four).take vs.size = ordersL 3 four := List.take_of_length_le (Nat.le_of_eq hbl.symm)
    rw [hall] at g3 g4
    subst g4
    refine next wa gt h tk _ (fr_four F rfl rfl rfl rfl) ⟨⟨t, ob, (N _ (.head _)).1, db⟩, ⟨t', om, (N _ (.tail _ (.head _))).1, dm⟩, hcell, ⟨vD, nD, g6, hi⟩, S₀.fresh, S₀.ne⟩ g5 g1 g2 g3
end
end Mine

/-! ## DEq -/
namespace Mine
section
open PySem PySem.W PyProof.Rows PySem.Calls
/-- two dicts' contents are alike -/
def eqD (Da Db : List (List MK × Int)) : Prop := Da.length = Db.length ∧ ∀ e ∈ Da, e ∈ Db
section
variable {w : World} {A : Around} {E : Value → Shared → Prop} {s : Shared} {a b : Addr} {ea eb : Array DictEntry} {pa pb : Nat} {xa xb : List (List MK × Addr × Value)}
theorem same_pairs {nm : String} {Q : Bool → Shared → Prop} (la : (a == sysModules) = false) (lb : (b == sysModules) = false) (hu : (KK w).room A)
    (ha : EOf w s.heap ea xa) (da : DAt s.heap a ea pa) (hb : EOf w s.heap eb xb) (db : DAt s.heap b eb pb) (he : eqD (says xa) (says xb)) (h : Q true s) :
    wpAny (model PP w) A (Builtin.Dict.samePairs nm a b) Q E s := by
  have hsz : ea.size = eb.size := by
    rw [ha.size, hb.size]
    simpa [says] using he.1
  unfold Builtin.Dict.samePairs Builtin.Dict.showsAll
  rw [if_neg (show ¬ (a == sysModules) = true by rw [la]; exact Bool.false_ne_true), if_neg (show ¬ (b == sysModules) = true by rw [lb]; exact Bool.false_ne_true)]
  refine wpAny_bind (wpAny_pure (wpAny_bind (wpAny_pure (wpAny_bind (wpAny_dictEntries da rfl ?_)))))
  dsimp only
  refine wpAny_bind (wpAny_dictEntries db rfl ?_)
  rw [if_neg (by rw [hsz]; simp)]
  refine wpAny_bind (wpAny_dictEpoch da rfl (wpAny_bind ?_))
  rw [Std.Legacy.Range.forIn_eq_forIn_range']
  simp only [Std.Legacy.Range.size, Nat.sub_zero, Nat.add_sub_cancel, Nat.div_one]
  refine wpAny_forIn_list _ (fun rest q s' => s' = s ∧ q = (none, ()) ∧ ∀ x ∈ rest, x < ea.size) _ ?_ ?_ _ _ ⟨rfl, rfl, fun x hx => by simpa using (List.mem_range'_1.mp hx).2⟩
  · rintro x rest q s' ⟨rfl, rfl, hr⟩
    have hlt := hr x (.head _)
    refine wpAny_bind (wpAny_dictEntries da rfl ?_)
    rw [Array.getElem?_eq_getElem hlt]
    obtain ⟨k, ka, n, t, hx, hek, hev, hkey⟩ := ha.at (i := x) (e := ea[x]) (by simp [hlt])
    have hhash : ea[x].hash = (KK w).hash k := by
      have h1 := entry_at (knd := KK w) ha.entries x
      rw [hx, Array.getElem?_eq_getElem hlt] at h1
      rw [Option.some.inj h1]; rfl
    have hmem : (k, n) ∈ says xb := he.2 _ (List.mem_map.mpr ⟨(k, ka, .int n t), List.mem_of_getElem? hx, rfl⟩)
    obtain ⟨z, hz, hzk⟩ := List.mem_map.mp hmem
    obtain ⟨n', t', hzn⟩ := hb.nums z hz
    have hzk1 : z.1 = k := congrArg Prod.fst hzk
    have hzn1 : n' = n := by have := congrArg Prod.snd hzk; rw [hzn] at this; exact this
    obtain ⟨j, hj⟩ := List.mem_iff_getElem?.mp hz
    have hjk : xb[j]? = some (k, z.2) := by rw [hj, ← hzk1]
    show wpAny _ _ (holding [ea[x].key, ea[x].val] _ >>= _) _ _ _
    rw [hhash, hek, hev]
    refine wpAny_bind (wpAny_holding (wpAny_bind (wpAny_dictFind_heap (knd := KK w) hu hkey db rfl hb.entries hb.keys hb.nodup (fun hn => absurd hjk (hn j _)) fun j' p hj' => ?_)))
    have hjj := idxH_unique hb.nodup hjk hj'
    subst hjj
    have hlt' : j < eb.size := by rw [hb.size]; exact (List.getElem?_eq_some_iff.mp hj).1
    refine wpAny_bind (wpAny_dictEntries db rfl ?_)
    have hval : eb[j]? = some (entryOfKey (KK w) z) := by
      have h1 := entry_at (knd := KK w) hb.entries j
      rw [hj] at h1; exact h1
    rw [hval]
    show wpAny _ _ (holding [z.2.2] (eqBool (.int n t) z.2.2)) _ _ _
    rw [hzn]
    refine wpAny_holding (wpAny_eqBool_int ?_)
    subst hzn1
    rw [if_neg (by simp)]
    refine wpAny_bind (wpAny_dictEpoch da rfl ?_)
    rw [if_neg (by simp)]
    exact wpAny_pure ⟨rfl, rfl, fun y hy => hr y (.tail _ hy)⟩
  · rintro q s' ⟨rfl, rfl, _⟩
    exact wpAny_pure h
theorem ne_dict {Q : Value → Shared → Prop} (la : (a == sysModules) = false) (lb : (b == sysModules) = false) (hu : A.units < cLine) (hu1 : (KK w).room A.in1)
    (ha : EOf w s.heap ea xa) (da : DAt s.heap a ea pa) (hb : EOf w s.heap eb xb) (db : DAt s.heap b eb pb) (he : eqD (says xa) (says xb)) (h : Q (.bool false) s) :
    wpAny (model PP w) A (compareOp .NotEq (.ref a) (.ref b)) Q E s := by
  have ta : s.TypeIs (.ref a) "dict" := ⟨_, da, rfl⟩
  have tb : s.TypeIs (.ref b) "dict" := ⟨_, db, rfl⟩
  refine wpAny_richCompare_same_room (op := .NotEq) ta tb PySem.F.slot_dict_ne (wpAny_call_entry PySem.F.slot_dict_ne ta PySem.F.entry_dict_ne ?_ (PySem.F.args_dict_ne_2 _ _)) hu
  show wpAny _ _ (Builtin.Dict.dictSlotArgs "__ne__" ⟨[.ref a, .ref b], []⟩ >>= _) _ _ s
  refine wpAny_bind ?_
  unfold Builtin.Dict.dictSlotArgs
  refine wpAny_bind (wpAny_notOrdered_dict ta (wpAny_pure (s := s) (a := (Value.ref a, Value.ref b)) ?_))
  refine wpAny_bind (wpAny_isInstance (T := "dict") tb PySem.F.sub_dict_dict ?_)
  simp only [Bool.not_true, Bool.false_eq_true, if_false]
  refine wpAny_bind (wpAny_pure (wpAny_bind (wpAny_pure ?_)))
  refine wpAny_bind (same_pairs la lb hu1 ha da hb db he ?_)
  exact wpAny_pure ⟨_, rfl, (fun x => nomatch x), h⟩
end
/-- a display's pairs go into the dict one by one -/
def StoreAll (w : World) (A : Around) (d : Addr) (vs : List (Value × Value)) (Q : Value → Shared → Prop) (E : Value → Shared → Prop) (s : Shared) : Prop :=
  wpAny (model PP w) A (storeAll d vs) (fun _ s₃ => Q (.ref d) s₃) E s
section
variable {w : World} {A : Around} {E : Value → Shared → Prop} {s : Shared} {env : Env} {h₀ : Heap} {L : Addr} {m : Str → Option Value} {news : List (Addr × Obj)} {Q : Value → Shared → Prop}
theorem dict_three {k1 v1 k2 v2 k3 v3 : Expr} {pos : Pos} (F : Fr h₀ L s.heap m) (N : News h₀ L s.heap news)
    (h : ∀ d h', (∀ p ∈ news, p.1 ≠ d) → d ≠ L → h₀.objs.size < d → s.heap.get? d = none → Fr h₀ L h' m → News h₀ L h' ((d, dictO #[] 0) :: news) →
      wpAny (model PP w) A (eval k1 env) (fun a1 s₁ => wpAny (model PP w) A (eval v1 env) (fun b1 s₁ => wpAny (model PP w) A (eval k2 env) (fun a2 s₁ => wpAny (model PP w) A (eval v2 env) (fun b2 s₁ => wpAny (model PP w) A (eval k3 env) (fun a3 s₁ => wpAny (model PP w) A (eval v3 env)
        (fun b3 s₂ => StoreAll w A d [(a1, b1), (a2, b2), (a3, b3)] Q E s₂) E s₁) E s₁) E s₁) E s₁) E s₁) E { s with heap := h' }) :
    wpAny (model PP w) A (eval (.Dict [some k1, some k2, some k3] [v1, v2, v3] pos) env) Q E s := by
  refine wpAny_Dict_any rfl rfl (by simp) (by simp) ?_
  have hlt : h₀.objs.size < s.heap.objs.size := Nat.lt_of_le_of_lt F.above F.ns.lt
  have h' := h s.heap.objs.size _ (fun p hp e => absurd (Heap.lt_size (N p hp).1) (e ▸ Nat.lt_irrefl _)) (Nat.ne_of_gt F.ns.lt) hlt (by cases e : s.heap.get? s.heap.objs.size with | none => rfl | some o => exact absurd (Heap.lt_size e) (Nat.lt_irrefl _)) (F.push _) (News.push F N _)
  refine evalPairs_cons (wpAny_mono h' (fun a1 s1 h1 => wpAny_bind (wpAny_mono h1 (fun b1 s1 h1 => wpAny_bind (wpAny_standAt (wpAny_pure ?_))) fun _ _ e => e)) fun _ _ e => e)
  refine evalPairs_cons (wpAny_mono h1 (fun a2 s1 h1 => wpAny_bind (wpAny_mono h1 (fun b2 s1 h1 => wpAny_bind (wpAny_standAt (wpAny_pure ?_))) fun _ _ e => e)) fun _ _ e => e)
  refine evalPairs_cons (wpAny_mono h1 (fun a3 s1 h1 => wpAny_bind (wpAny_mono h1 (fun b3 s1 h1 => wpAny_bind (wpAny_standAt (wpAny_pure ?_))) fun _ _ e => e)) fun _ _ e => e)
  exact evalPairs_nil h1
theorem store_step {d ka : Addr} {es : Array DictEntry} {ep : Nat} {xs : List (List MK × Addr × Value)} {k : List MK} {n : Int} {t : Tok} {rest : List (Addr × Obj)} {vs : List (Value × Value)} (hu : (KK w).room A) (F : Fr h₀ L s.heap m) (N : News h₀ L s.heap ((d, dictO es ep) :: rest)) (off : ∀ p ∈ rest, p.1 ≠ d)
    (x : EOf w s.heap es xs) (hkey : IsTupleKey (mixKind PP w) s.heap k ka) (hz : xs.length ≤ 1000)
    (h : ∀ h' es' ep' tk, Fr h₀ L h' m → News h₀ L h' ((d, dictO es' ep') :: rest) → EOf w h' es' (storedH xs k ka (.int n t)) → StoreAll w A d vs Q E { s with heap := h', toks := tk }) :
    StoreAll w A d ((.ref ka, .int n t) :: vs) Q E s := by
  unfold StoreAll storeAll
  rw [List.forIn_cons]
  refine wpAny_bind (wpAny_bind ?_)
  refine wpAny_dictSet_heap (knd := KK w) hu hkey (x.dict (N _ (.head _)).1) (fun h' hm' hs => ?_) (by rw [sizeLine_eq]; omega)
  obtain ⟨o', es', ep', ho', hx', hd', he', hk', hn'⟩ := hm'
  have ho2 : DAt h' d es' ep' := by show h'.get? d = _; rw [ho', exact_is hx' hd']
  refine wpAny_pure ?_
  have hE : EOf w h' es' (storedH xs k ka (.int n t)) := ⟨he', hk', hn', fun y hy => by
    unfold storedH at hy
    split at hy
    · obtain ⟨z, hz, rfl⟩ := List.mem_map.mp hy
      unfold putAt; split
      · exact ⟨n, t, rfl⟩
      · exact x.nums z hz
    · rcases List.mem_append.mp hy with hy | hy
      · exact x.nums y hy
      · rw [List.mem_singleton.mp hy]; exact ⟨n, t, rfl⟩⟩
  exact h h' es' ep' _ (fr_put F N hs) (news_put N hs ho2 off) hE
theorem store_done {d : Addr} (h : Q (.ref d) s) : StoreAll w A d [] Q E s := by
  unfold StoreAll storeAll
  rw [List.forIn_nil]
  exact wpAny_pure h
end
end
end Mine

/-! ## LawU -/
namespace Mine
section
open PySem PySem.W PyProof.Rows PySem.Calls
theorem fill13 : ∀ P h, (Hd.hd.heap_39 P).In h → PySem.Challenge.rw_ie0012_01.row.prog = PySem.Challenge.rw_ie0012_01.row.prog := by
  k_fill
  intros; rfl
local macro_rules | `(tactic| walk_at "call ref") => `(tactic| (k_here; (refine' call_stop ?_)))
local macro_rules | `(tactic| walk_at "eval Dict") => `(tactic| (k_here; (refine' comp_stop ?_)))
theorem good_ten : goodN (ordersL 3 four).reverse = 10 := by decide +kernel
def wholeE : List (List MK × Int) := [(findK 4, 10), (findK 1, 8), (findK 0, 6)]
def eqDb (Da Db : List (List MK × Int)) : Bool := Da.length == Db.length && Da.all fun e => Db.any fun f => decide (e.1 = f.1) && decide (e.2 = f.2)
theorem eqD_of {Da Db : List (List MK × Int)} (h : eqDb Da Db = true) : eqD Da Db := by
  unfold eqDb at h
  rw [Bool.and_eq_true, beq_iff_eq, List.all_eq_true] at h
  refine ⟨h.1, fun e he => ?_⟩
  obtain ⟨f, hf, h1⟩ := List.any_eq_true.mp (h.2 e he)
  rw [Bool.and_eq_true, decide_eq_true_eq, decide_eq_true_eq] at h1
  obtain ⟨e1, e2⟩ := e
  obtain ⟨f1, f2⟩ := f
  obtain ⟨h2, h3⟩ := h1
  dsimp only at h2 h3
  subst h2 h3
  exact hf
theorem whole_is : eqDb (wholeD (ordersL 3 four).reverse) wholeE = true := by decide +kernel
theorem whole_sum : sumD (wholeD (ordersL 3 four).reverse) = 24 := by decide +kernel
theorem news_rot {h₀ h : Heap} {L : Addr} {a b c d : Addr × Obj} {r : List (Addr × Obj)} (N : News h₀ L h (c :: b :: a :: d :: r)) : News h₀ L h (d :: c :: b :: a :: r) := fun p hp => N p (by
  simp only [List.mem_cons] at hp ⊢
  rcases hp with h | h | h | h | h <;> simp [h])
theorem off_rot {h₀ h : Heap} {L D1 D2 D3 d : Addr} {a b c e : Obj} {r : List (Addr × Obj)} (l1 : d < D1) (l2 : d < D2) (l3 : d < D3) (off : ∀ p ∈ r, p.1 ≠ d) (_N : News h₀ L h ((D3, c) :: (D2, b) :: (D1, a) :: (d, e) :: r)) : ∀ p ∈ (D3, c) :: (D2, b) :: (D1, a) :: r, p.1 ≠ d := fun p hp => by
  simp only [List.mem_cons] at hp
  rcases hp with h | h | h | h
  · rw [h]; exact Nat.ne_of_gt l3
  · rw [h]; exact Nat.ne_of_gt l2
  · rw [h]; exact Nat.ne_of_gt l1
  · exact off p h
theorem storedH_le (xs : List (List MK × Addr × Value)) {k : List MK} {a : Addr} {v : Value} : (storedH xs k a v).length ≤ xs.length + 1 := by
  unfold storedH
  split
  · rw [List.length_map]; exact Nat.le_succ _
  · rw [List.length_append]; exact Nat.le_refl _
theorem storedH_len2 {k1 k2 : List MK} {a b : Addr} {v u : Value} : (storedH (storedH [] k1 a v) k2 b u).length ≤ 2 :=
  Nat.le_trans (storedH_le _) (Nat.succ_le_succ (storedH_le _))
theorem says_three (a b c : Addr) (t1 t2 t3 : Tok) : says (storedH (storedH (storedH [] (findK 4) a (.int 10 t1)) (findK 1) b (.int 8 t2)) (findK 0) c (.int 6 t3)) = wholeE := by
  rfl
/-- the 24 orders' answers -/
theorem law_p11 {w : World} {s : Shared} {mg mb : Str → Option Value} {p : Program} {loose : List Str} {Q : Flow → Shared → Prop} {L dd td wd : Addr} {gt : Tok} {h : Heap} {tk : Nat} {m : Str → Option Value} {l : List UInt8} {d : List Int}
    (X : (Hd.hd.heap_39 w.params).In s.heap) (T : TopRead p loose mg mb s.heap)
    (F : Fr s.heap L h (fun y => if y = Str.ofString "good" then some (.int (goodN (ordersL 3 four).reverse) gt) else if y = Str.ofString "whole" then some (.ref wd) else if y = Str.ofString "table" then some (.ref td) else if y = Str.ofString "drawn" then some (.ref dd) else m y)) (S₀ : LS s.heap L h l d dd) (ht : td ≠ L) (ht0 : s.heap.get? td = none) (tab : Tab w h td (ringsD l l.length))
    (hw : wd ≠ L) (hw0 : s.heap.get? wd = none) (tabw0 : Tab w h wd (wholeD (ordersL 3 four).reverse))
    (next : ∀ h tk (m : Str → Option Value), Fr s.heap L h (fun y => if y = Str.ofString "table" then some (.ref td) else if y = Str.ofString "drawn" then some (.ref dd) else m y) → LS s.heap L h l d dd → Tab w h td (ringsD l l.length) →
      wpC w (callerA.deeper (lawEnv L)) (execs (lawBody.drop 12) (lawEnv L)) Q (fun _ _ => False) { s with heap := h, toks := tk }) :
    wpC w (callerA.deeper (lawEnv L)) (execs (lawBody.drop 11) (lawEnv L)) Q (fun _ _ => False) { s with heap := h, toks := tk } := by
  obtain ⟨ob, om, oo, vD, nD, t, t', vo, led, db, dm, do', hi, N, kl⟩ := S₀.open F
  have tabk : ∀ h', KeptAll L h h' → Tab w h' td (ringsD l l.length) := fun h' k => tab.keptAll F ht k
  have tabw : ∀ h', KeptAll L h h' → Tab w h' wd (wholeD (ordersL 3 four).reverse) := fun h' k => tabw0.keptAll F hw k
  rw [good_ten] at F
  have hE := eqD_of whole_is
  have hS := whole_sum
  have hL : (wholeD (ordersL 3 four).reverse).length ≤ 900 := by rw [hE.1]; decide
  clear tabw0
  revert tabw hE hS hL
  generalize wholeD (ordersL 3 four).reverse = WD
  intro tabw hE hS hL
  refine lit_start fun S B hS hB => ?_
  conv at hS => rhs; whnf
  conv at hB => rhs; whnf
  subst hS hB
  refine wpC_execs_cons (wpC_of_any ?_)
  k_steps
  rename Fr _ _ _ _ => F
  unfold CompAt
  refine dict_three F N fun d' h' off hdL hdlt hdn F' N' => ?_
  clear F
  k_steps
  rename_i D1 _ lt1 D2 _ lt2 D3 _ F2 N2 lt3
  have N3 := news_rot N2
  have hoff := off_rot lt1.1 lt2.2.1 lt3.2.2.1 off N2
  clear N2
  refine store_step (xs := []) (k := findK 4) (by show _ < cLine; simp only [Around.deeper, callerA, cLine]; omega) F2 N3 hoff ⟨rfl, (fun _ h => nomatch h), List.nodup_nil, (fun _ h => nomatch h)⟩ (key3 (N3 _ (.tail _ (.tail _ (.tail _ (.head _))))).1) (by simp) ?_
  intro h4 es4 ep4 tk4 F4 N4 E4
  clear F2 N3
  refine store_step (k := findK 1) (by show _ < cLine; simp only [Around.deeper, callerA, cLine]; omega) F4 N4 hoff E4 (key3 (N4 _ (.tail _ (.tail _ (.head _)))).1) (by exact Nat.le_trans (storedH_le _) (by decide)) ?_
  intro h5 es5 ep5 tk5 F5 N5 E5
  clear F4 N4 E4
  refine store_step (k := findK 0) (by show _ < cLine; simp only [Around.deeper, callerA, cLine]; omega) F5 N5 hoff E5 (key3 (N5 _ (.tail _ (.head _))).1) (by exact Nat.le_trans (storedH_len2 ..) (by decide)) ?_
  intro h6 es6 ep6 tk6 F6 N6 E6
  clear F5 N5 E5
  refine store_done ?_
  have ka : KeptAll L h h6 := kl _ _ F6 fun p hp => N6 p (by simp [hp])
  obtain ⟨lw, ew, pw, xw, hw1, hw2, hw3⟩ := tabw _ ka
  refine ne_dict lw (not_mod X hdlt) (by simp only [Around.deeper, callerA, cLine]; omega) (by show _ < cLine; simp only [Around.in1, Around.deeper, callerA, cLine]; omega) hw2 hw1 E6 (N6 _ (.head _)).1 ?_ ?_
  · rw [hw3, says_three]; exact hE
  k_steps
  rename Fr _ _ _ _ => F7
  rename News _ _ _ _ => N7
  unfold CallAt
  refine count_calls_call (X.keeps F7.keep) (T.keeps F7.keep) (by decide) hw2 hw1 lw ?_
  intro t1 h8 tk8 k8
  rw [hw3, hS]
  have F8 := F7.keeps k8
  have N8 := News.keepsAll N7 k8
  clear F7 N7
  k_steps
  rename Fr _ _ _ _ => F9
  rename News _ _ _ _ => N9
  have ka := kl _ _ F9 fun p hp => N9 p (by simp [hp])
  exact next _ _ _ (fr_two F9) (S₀.kept ka) (tabk _ ka)
end
end Mine

/-! ## CompC -/
namespace Mine
section
open PySem PySem.W PyProof.Rows PySem.Calls
section
variable {w : World} {A : Around} {E : Value → Shared → Prop} {s : Shared} {env : Env}
theorem comp_hoist {e : Expr} {scope : Scope} {pos : Pos} {newAcc first : Sem Value} :
    comprehension e scope env pos newAcc false first none = (first >>= fun x => comprehension e scope env pos newAcc false (pure x) none) := rfl
/-- the iterable from a clean stack, the rest by the library's rules -/
theorem wpC_comp_first {elt target iter : Expr} {ifs : List Expr} {scope : Scope} {pos : Pos} {Q : Value → Shared → Prop}
    (h : wpC w A (eval iter env) (fun xv s₁ => wpAny (model PP w) A (comprehension (.ListComp elt [⟨target, iter, ifs, 0⟩] scope pos) scope env (firstIterPos [⟨target, iter, ifs, 0⟩] pos) (newList []) false (pure xv) none) Q E s₁) E s) :
    wpC w A (eval (.ListComp elt [⟨target, iter, ifs, 0⟩] scope pos) env) Q E s := by
  rw [eval_ListComp]
  show wpC w A (comprehension _ _ _ _ _ false (eval iter env) none) Q E s
  rw [comp_hoist]
  exact wpC_bind (wpC_mono h (fun _ _ => wpC_of_any) fun _ _ e => e)
/-- one argument, itself from a clean stack -/
theorem argsC_one {f : Value} {t : Sem Value} {Q : Args → Shared → Prop} (h : wpC w A t (fun v s₁ => Q ⟨[v], []⟩ s₁) E s) : wpC w A (evalArgs f true [(false, t)] []) Q E s := by
  unfold evalArgs
  show wpC w A (spliced [(false, t)] >>= _) Q E s
  refine wpC_bind ?_
  show wpC w A (t >>= _) _ E s
  refine wpC_bind (wpC_mono h (fun v s₁ q => wpC_bind (wpC_pure ?_)) fun _ _ e => e)
  refine wpC_bind (wpC_holding (wpC_pure (wpC_pure ?_)))
  refine wpC_bind (wpC_pure (wpC_holding ?_))
  exact wpC_bind (wpC_pure (wpC_bind (wpC_pure (wpC_pure q))))
theorem wpC_If {test : Expr} {body orelse : List Stmt} {pos : Pos} {Q : Flow → Shared → Prop}
    (h : wpC w A (isTrue test env (eval test env)) (fun b s₂ => if b then wpC w A (execs body env) Q E s₂ else wpC w A (execs orelse env) Q E s₂) E s) :
    wpC w A (exec (.If test body orelse pos) env) Q E s := by
  rw [exec_If]
  refine wpC_bind (wpC_standAt (wpC_bind (wpC_mono h (fun b s₂ h₂ => ?_) fun _ _ x => x)))
  cases b <;> exact h₂
theorem wpC_isTrue_Or {x : Expr} {rest : List Expr} {pos : Pos} {whole : Sem Value} {Q : Bool → Shared → Prop}
    (h : wpC w A (isTrue x env (eval x env)) (fun b s₁ => if b then Q true s₁ else wpC w A (allTrue .Or rest env) Q E s₁) E s) :
    wpC w A (isTrue (.BoolOp .Or (x :: rest) pos) env whole) Q E s := by
  rw [show isTrue (.BoolOp .Or (x :: rest) pos) env whole = allTrue .Or (x :: rest) env from by first | rfl | rw [arm_isTrue_BoolOp]]
  show wpC w A (do match BoolOp.Or, ← isTrue x env (eval x env) with | .And, false => pure false | .Or, true => pure true | _, _ => allTrue .Or rest env) Q E s
  refine wpC_bind (wpC_mono h (fun b s₁ h₁ => ?_) fun _ _ x => x)
  cases b
  · exact h₁
  · exact wpC_pure h₁
theorem wpC_isTrue_Compare1 {l r : Expr} {op : CmpOp} {pos : Pos} {whole : Sem Value} {Q : Bool → Shared → Prop}
    (h : wpC w A (eval l env) (fun a s₁ => wpAny (model PP w) A (eval r env) (fun b s₂ => wpAny (model PP w) A (compareOp op a b)
      (fun c s₃ => wpAny (model PP w) A (truthy c) Q E s₃) E s₂) E s₁) E s)
    (hm : behindInMarks op r = false) : wpC w A (isTrue (.Compare l [op] [r] pos) env whole) Q E s := by
  rw [isTrue_Compare1]
  simp only [markedBehindIn_of_false hm]
  refine wpC_bind (wpC_mono h (fun a s₁ h₁ => ?_) fun _ _ x => x)
  refine wpC_bind (wpC_holding (wpC_of_any (wpAny_mono h₁ (fun b s₂ h₂ => ?_) fun _ _ x => x)))
  refine wpC_bind (wpC_standAt (wpC_bind (wpC_of_any ?_)))
  refine fun Γ p hΓ => ?_
  rw [Sem.wp_operate]
  exact Sem.wp_mono _ Γ _ (fun c p₃ s₃ h₃ => wpC_holding (wpC_of_any h₃)) (fun _ _ _ h' => h') _ _ (h₂ Γ p hΓ)
end
end
end Mine

/-! ## LawV -/
namespace Mine
section
open PySem PySem.W PyProof.Rows PySem.Calls
theorem fill14 : ∀ P h, (Hd.hd.heap_39 P).In h → PySem.Challenge.rw_ie0012_01.row.prog = PySem.Challenge.rw_ie0012_01.row.prog := by
  k_fill
  intros; rfl
local macro_rules | `(tactic| walk_at "call ref") => `(tactic| (k_here; (refine' call_stop ?_)))
local macro_rules | `(tactic| walk_at "eval Dict") => `(tactic| (k_here; (refine' comp_stop ?_)))
local macro_rules | `(tactic| walk_at "eval ListComp") => `(tactic| (k_here; (refine' comp_stop ?_)))
/-- the turned octets, as numbers -/
def turnI (l : List UInt8) : List Int := l.reverse.map fun b => (l.length : Int) - 1 - b.toNat
def turnL (l : List UInt8) : List UInt8 := (turnI l).map fun n => n.toNat.toUInt8
theorem turn_range {l : List UInt8} (h6 : l.length ≤ 6) (h : ∀ b ∈ l, b.toNat < l.length) : ∀ n ∈ turnI l, 0 ≤ n ∧ n < 256 := by
  intro n hn
  obtain ⟨b, hb, rfl⟩ := List.mem_map.mp hn
  have h1 := h b (List.mem_reverse.mp hb)
  omega
theorem turn_ints' {k : Int} : ∀ (bs : List UInt8) (vs ys : List Value), vs.length = bs.length → (∀ (j : Nat) v, vs[j]? = some v → ∃ (c : UInt8) (u : Tok), bs[j]? = some c ∧ v = Value.int (c.toNat : Int) u) →
    Paired (fun v y => ∃ (n : Int) (t u : Tok), v = Value.int n t ∧ y = Value.int (k - 1 - n) u) vs ys → IntsAre ys (bs.map fun b => k - 1 - b.toNat)
  | [], vs, ys, hl, _, hF => by
    obtain rfl := List.length_eq_zero_iff.mp hl
    cases hF
    exact .nil
  | b :: bs, [], ys, hl, _, _ => by cases hl
  | b :: bs, v :: vs, ys, hl, hP, hF => by
    cases hF with
    | cons h1 h2 =>
      obtain ⟨c, u, hc, hv⟩ := hP 0 v rfl
      obtain ⟨n, t, u', hn, hy⟩ := h1
      obtain rfl := Option.some.inj hc
      rw [hv] at hn
      injection hn with hn
      subst hn hy
      exact .cons _ _ (turn_ints' bs vs _ (Nat.succ.inj hl) (fun j v h => hP (j + 1) v h) h2)
theorem turn_ints {l : List UInt8} {vs : List Value} {ys : Array Value} (hlen : vs.length = l.reverse.toArray.size) (hP : ∀ (j : Nat) v, vs[j]? = some v → ∃ (c : UInt8) (u : Tok), l.reverse.toArray[j]? = some c ∧ v = Value.int (c.toNat : Int) u)
    (hF : Paired (fun v y => ∃ (n : Int) (t u : Tok), v = Value.int n t ∧ y = Value.int ((l.length : Int) - 1 - n) u) (vs.filter fun _ => true) ys.toList) : IntsAre ys.toList (turnI l) := by
  rw [List.filter_eq_self.mpr fun _ _ => rfl] at hF
  exact turn_ints' _ _ _ hlen (fun j v h => by
    obtain ⟨c, u, hc, hv⟩ := hP j v h
    exact ⟨c, u, by simpa using hc, hv⟩) hF
/-- turned = bytes([many - 1 - octet for octet in _byteswap(boxes, many)]) -/
theorem law_p12 {w : World} {s : Shared} {mg mb : Str → Option Value} {p : Program} {loose : List Str} {Q : Flow → Shared → Prop} {L dd td : Addr} {h : Heap} {tk : Nat} {m : Str → Option Value} {l : List UInt8} {d : List Int}
    (X : (Hd.hd.heap_39 w.params).In s.heap) (T : TopRead p loose mg mb s.heap)
    (F : Fr s.heap L h (fun y => if y = Str.ofString "table" then some (.ref td) else if y = Str.ofString "drawn" then some (.ref dd) else m y)) (S₀ : LS s.heap L h l d dd) (ht : td ≠ L) (ht0 : s.heap.get? td = none) (tab : Tab w h td (ringsD l l.length))
    (h1 : 1 ≤ l.length) (h6 : l.length ≤ 6) (hin : ∀ b ∈ l, b.toNat < l.length)
    (next : ∀ t h tk (m : Str → Option Value), Fr s.heap L h (fun y => if y = Str.ofString "turned" then some (.bytes (turnL l).toArray t) else if y = Str.ofString "table" then some (.ref td) else if y = Str.ofString "drawn" then some (.ref dd) else m y) → LS s.heap L h l d dd → Tab w h td (ringsD l l.length) →
      wpC w (callerA.deeper (lawEnv L)) (execs (lawBody.drop 13) (lawEnv L)) Q (fun _ _ => False) { s with heap := h, toks := tk }) :
    wpC w (callerA.deeper (lawEnv L)) (execs (lawBody.drop 12) (lawEnv L)) Q (fun _ _ => False) { s with heap := h, toks := tk } := by
  obtain ⟨ob, om, oo, vD, nD, t, t', vo, led, db, dm, do', hi, N, kl⟩ := S₀.open F
  have tabk : ∀ h', KeptAll L h h' → Tab w h' td (ringsD l l.length) := fun h' k => tab.keptAll F ht k
  refine lit_start fun S B hS hB => ?_
  conv at hS => rhs; whnf
  conv at hB => rhs; whnf
  subst hS hB
  refine wpC_execs_cons (wpC_Assign_Name ?_ rfl)
  refine evalC_Call rfl ?_
  k_steps
  refine callWithC rfl (by show (1 : Nat) ≤ 10; decide) (argsC_one (wpC_comp_first ?_))
  refine evalC_Call rfl ?_
  k_steps
  have h21 : ∃ o, (Hd.hd.heap_39 w.params).lookup 21 = some o ∧ ∃ fd, o.data = .func fd := ⟨_, rfl, _, rfl⟩
  obtain ⟨oc, hoc, fd, hfd⟩ := h21
  refine callWithC_args rfl rfl (by show (2 : Nat) ≤ 10; decide) ?_
  k_steps
  refine keeper_def hfd ?_ ?_
  · rename Fr _ _ _ _ => F
    exact X.keeps F.keep _ _ hoc
  rename Fr _ _ _ _ => F
  refine byteswap_call (X.keeps F.keep) (T.keeps F.keep) (by decide) l _ _ h1 (by omega) ?_
  intro t2 h2 tk2 k2
  have F2 := F.keeps k2
  have N2 := News.keepsAll N k2
  clear F N
  refine wpAny_comprehension_free (use := none) rfl (by intro _; rfl) rfl rfl (by decide) (wpAny_pure ?_)
  refine KBw.pyIter_bytes ?_
  refine comp_block_walkC (RR := fun acc C => compPost (model PP w) _ _ none _ acc C) (KBw.walks rfl _ _ _) (by rw [sizeLine_eq, List.size_toArray, List.length_reverse]; omega) (fun _ => true) (fun v y => ∃ n t u, v = .int n t ∧ y = .int ((l.length : Int) - 1 - n) u)
    (by decide) rfl rfl ⟨_, Heap.get?_push_size _ rfl, rfl, rfl⟩ ?_ ⟨?_, ?_⟩ ?_
  · intro b hb
    rw [List.mem_singleton.mp hb, Heap.size_push]
    exact Nat.lt_succ_self _
  · intro C j v s₃ m₃ E' hC hP hn hm hold htk
    rw [List.forIn_nil]
    exact wpAny_pure ⟨rfl, _, _, rfl, fun _ _ e => e⟩
  · intro C j v s₃ m₃ E' hC hP hp hn hm hold htk
    obtain ⟨c, u, hc, rfl⟩ := hP
    have F3 : Fr s.heap L s₃.heap _ := F2.keeps fun b o e => hold b o (fun q => ne_size e (List.mem_singleton.mp q)) (Heap.get?_push_of_some _ e)
    have N3 := News.keepsAll N2 fun b o e => hold b o (fun q => ne_size e (List.mem_singleton.mp q)) (Heap.get?_push_of_some _ e)
    clear F2 N2
    k_steps
    exact ⟨_, _, rfl, fun _ _ e => e⟩
  · intro D C h₃ tk' m' ys vs hDn hCn hDC hns hlD₃ hpl hlen hP hFp hk₃
    refine ⟨m', hns, fun h' same => wpAny_pure ?_⟩
    have hlD : h'.IsList D ys := hlD₃.extBut same.extBut hDC
    have kold : ∀ b o, Heap.get? _ b = some o → h'.get? b = some o := fun b o e => same.extBut b o (fun q => by subst q; exact absurd ((Heap.get?_push_of_some _ e).symm.trans hCn) (by intro z; cases z)) (hk₃ b o (fun q => ne_size e (List.mem_singleton.mp q)) (Heap.get?_push_of_some _ e))
    have F3 := F2.keeps kold
    have N3 := News.keepsAll N2 kold
    clear F2 N2
    have hI : IntsAre ys.toList (turnI l) := turn_ints hlen hP hFp
    refine wpC_of_any ?_
    refine bytes_K F3 N3 (by rw [Array.toArray_toList]; exact hlD) hI (turn_range h6 hin) (by rw [hI.length]; simp [turnI, sizeLine_eq]; omega) rfl ?_
    intro h4 t4 tk4 F4 N4 _
    clear F3 N3
    refine wpC_of_any ?_
    k_steps
    rename Fr _ _ _ _ => F5
    rename News _ _ _ _ => N5
    have ka := kl _ _ F5 fun p hp => N5 p (by simp [hp])
    exact next _ _ _ _ F5 (S₀.kept ka) (tabk _ ka)
end
end Mine

/-! ## LawW -/
namespace Mine
section
open PySem PySem.W PyProof.Rows PySem.Calls
theorem fill15 : ∀ P h, (Hd.hd.heap_39 P).In h → PySem.Challenge.rw_ie0012_01.row.prog = PySem.Challenge.rw_ie0012_01.row.prog := by
  k_fill
  intros; rfl
local macro_rules | `(tactic| walk_at "call ref") => `(tactic| (k_here; (refine' call_stop ?_)))
theorem turnL_length (l : List UInt8) : (turnL l).length = l.length := by simp [turnL, turnI]
theorem turnL_in {l : List UInt8} (h6 : l.length ≤ 6) (hin : ∀ b ∈ l, b.toNat < l.length) : ∀ i : Nat, i < (turnL l).length → ((turnL l).getD i 0).toNat < (turnL l).length := by
  intro i hi
  have e : (turnL l).getD i 0 = (turnL l)[i] := by simp [hi]
  have hm : (turnL l)[i] ∈ turnL l := List.getElem_mem hi
  rw [e, turnL_length]
  obtain ⟨n, hn, he⟩ := List.mem_map.mp hm
  obtain ⟨b, hb, rfl⟩ := List.mem_map.mp hn
  have h1 := hin b (List.mem_reverse.mp hb)
  rw [← he]
  have h2 : ((l.length : Int) - 1 - b.toNat).toNat = l.length - 1 - b.toNat := by omega
  rw [h2, Nat.toUInt8_eq, UInt8.toNat_ofNat']
  omega
def SubAt (w : World) (A : Around) (v e : Expr) (a b : Value) (Q : Value → Shared → Prop) (E : Value → Shared → Prop) (s : Shared) : Prop := wpAny (model PP w) A (subscriptTail v e a b) Q E s
theorem sub_stop {w : World} {A : Around} {v e : Expr} {a b : Value} {Q : Value → Shared → Prop} {E : Value → Shared → Prop} {s : Shared} (h : SubAt w A v e a b Q E s) : wpAny (model PP w) A (subscriptTail v e a b) Q E s := h
local macro_rules | `(tactic| walk_at "subscriptTail Name Slice ref ref") => `(tactic| (k_here; (refine' sub_stop ?_)))
local macro_rules | `(tactic| walk_at "call type:bytes") => `(tactic| (k_here; (refine' call_stop ?_)))
/-- if _byteswap(boxes, many) != bytes(drawn[::-1]) or _law_rings(turned) != table: return False -/
theorem law_p13 {w : World} {s : Shared} {mg mb : Str → Option Value} {p : Program} {loose : List Str} {Q : Flow → Shared → Prop} {L dd td : Addr} {h : Heap} {tk : Nat} {tt : Tok} {m : Str → Option Value} {l : List UInt8} {d : List Int}
    (X : (Hd.hd.heap_39 w.params).In s.heap) (T : TopRead p loose mg mb s.heap)
    (F : Fr s.heap L h (fun y => if y = Str.ofString "turned" then some (.bytes (turnL l).toArray tt) else if y = Str.ofString "table" then some (.ref td) else if y = Str.ofString "drawn" then some (.ref dd) else m y)) (S₀ : LS s.heap L h l d dd) (ht : td ≠ L) (ht0 : s.heap.get? td = none) (tab : Tab w h td (ringsD l l.length))
    (h1 : 1 ≤ l.length) (h6 : l.length ≤ 6) (hin : ∀ b ∈ l, b.toNat < l.length) (hd : l = d.map fun n => n.toNat.toUInt8) (hdr : ∀ n ∈ d, 0 ≤ n ∧ n < 256)
    (c6 : eqD (ringsD (turnL l) (turnL l).length) (ringsD l l.length))
    (next : ∀ h tk (m : Str → Option Value), Fr s.heap L h (fun y => if y = Str.ofString "table" then some (.ref td) else if y = Str.ofString "drawn" then some (.ref dd) else m y) → LS s.heap L h l d dd → Tab w h td (ringsD l l.length) →
      wpC w (callerA.deeper (lawEnv L)) (execs (lawBody.drop 14) (lawEnv L)) Q (fun _ _ => False) { s with heap := h, toks := tk }) :
    wpC w (callerA.deeper (lawEnv L)) (execs (lawBody.drop 13) (lawEnv L)) Q (fun _ _ => False) { s with heap := h, toks := tk } := by
  obtain ⟨ob, om, oo, vD, nD, t, t', vo, led, db, dm, do', hi, N, kl⟩ := S₀.open F
  have tabk : ∀ h', KeptAll L h h' → Tab w h' td (ringsD l l.length) := fun h' k => tab.keptAll F ht k
  refine lit_start fun S B hS hB => ?_
  conv at hS => rhs; whnf
  conv at hB => rhs; whnf
  subst hS hB
  refine wpC_execs_cons (wpC_If (wpC_isTrue_Or (wpC_isTrue_Compare1 ?_ rfl)))
  refine evalC_Call rfl ?_
  k_steps
  have h21 : ∃ o, (Hd.hd.heap_39 w.params).lookup 21 = some o ∧ ∃ fd, o.data = .func fd := ⟨_, rfl, _, rfl⟩
  obtain ⟨oc, hoc, fd, hfd⟩ := h21
  refine callWithC_args rfl rfl (by show (2 : Nat) ≤ 10; decide) ?_
  k_steps
  refine keeper_def hfd ?_ ?_
  · rename Fr _ _ _ _ => F
    exact X.keeps F.keep _ _ hoc
  rename Fr _ _ _ _ => F
  refine byteswap_call (X.keeps F.keep) (T.keeps F.keep) (by decide) l _ _ h1 (by omega) ?_
  intro t2 h2 tk2 k2
  have F2 := F.keeps k2
  have N2 := News.keepsAll N k2
  clear F N
  k_steps
  rename Fr _ _ _ _ => F2
  rename News _ _ _ _ => N2
  have hdl : d.length = l.length := by rw [hd, List.length_map]
  have hvl : vD.length = d.length := hi.length
  unfold SubAt
  refine krv_ints F2 N2 ⟨_, (N2 (dd, listOf vD.toArray nD) (by simp)).1, rfl, _, rfl⟩ (IsPart.int _ _) hi ?_ rfl (fun _ => rfl) (by rw [List.size_toArray, sizeLine_eq]; omega)
  intro D ws h3 F3 N3 l3 hws _
  clear F2 N2
  k_steps
  rename Fr _ _ _ _ => F3
  rename News _ _ _ _ => N3
  unfold CallAt
  refine bytes_K F3 N3 ⟨_, (N3 _ (.head _)).1, rfl, _, rfl⟩ hws (fun n hn => hdr n (List.mem_reverse.mp hn)) (by rw [sizeLine_eq, hws.length, List.length_reverse]; omega) rfl ?_
  intro h4 t4 tk4 F4 N4 _
  clear F3 N3
  rw [show d.reverse.map (fun n => n.toNat.toUInt8) = l.reverse from by rw [List.map_reverse, ← hd]]
  k_steps
  · rename_i hh
    exact absurd hh (by simp)
  refine wpC_of_any (wpAny_allTrue_Or_cons ?_)
  k_steps
  rename Fr _ _ _ _ => F4
  rename News _ _ _ _ => N4
  have hT : (turnL l).length = l.length := turnL_length l
  unfold CallAt
  refine rings_call (X.keeps F4.keep) (T.keeps F4.keep) (by decide) (by decide) (turnL l) tt (by omega) (turnL_in h6 hin) ?_
  intro d5 h5 tk5 k5 hd5 tab5
  have F5 := F4.keeps k5
  have N5 := News.keepsAll N4 k5
  have hL5 := new_ne F4 hd5
  have ka := kl _ _ F5 fun p hp => N5 p (by simp [hp])
  clear F4 N4
  k_steps
  obtain ⟨la, ea, pa, xa, ha1, ha2, ha3⟩ := tab5
  obtain ⟨lb, eb, pb, xb, hb1, hb2, hb3⟩ := tabk _ ka
  refine ne_dict la lb (by simp only [Around.deeper, callerA, cLine]; omega) (by show _ < cLine; simp only [Around.in1, Around.deeper, callerA, cLine]; omega) ha2 ha1 hb2 hb1 (by rw [ha3, hb3]; exact c6) ?_
  refine wpAny_truthy_bool ?_
  rw [if_neg Bool.false_ne_true]
  refine wpAny_allTrue_Or_nil ?_
  rw [if_neg Bool.false_ne_true]
  refine wpC_of_any (wpAny_execs_nil ?_)
  exact next _ _ _ (fr_two F5) (S₀.kept ka) (tabk _ ka)
end
end Mine

/-! ## LawX -/
namespace Mine
section
open PySem PySem.W PyProof.Rows PySem.Calls
theorem fill16 : ∀ P h, (Hd.hd.heap_39 P).In h → PySem.Challenge.rw_ie0012_01.row.prog = PySem.Challenge.rw_ie0012_01.row.prog := by
  k_fill
  intros; rfl
/-- the first two octets changed about -/
def chg (l : List UInt8) : List UInt8 := [l.getD 1 0, l.getD 0 0] ++ l.drop 2
/-- the walk along the ring of person 0 -/
noncomputable def hereK (l : List UInt8) : Nat → Nat
  | 0 => (l.getD 0 0).toNat
  | k + 1 => (l.getD (hereK l k) 0).toNat
noncomputable def ringTo (l : List UInt8) (k : Nat) : List Int := 0 :: (List.range k).map fun j => (hereK l j : Int)
theorem hereK_lt {l : List UInt8} (h1 : 1 ≤ l.length) (hin : ∀ i : Nat, i < l.length → (l.getD i 0).toNat < l.length) : ∀ k, hereK l k < l.length
  | 0 => hin 0 h1
  | k + 1 => hin _ (hereK_lt h1 hin k)
theorem news_ring {h₀ h : Heap} {L : Addr} {a b c d e : Addr × Obj} (N : News h₀ L h [a, b, c, d, e]) : News h₀ L h [b, d, e] := fun p hp => N p (by
  simp only [List.mem_cons, List.not_mem_nil, or_false] at hp ⊢
  rcases hp with h | h | h <;> simp [h])
theorem news_ring2 {h₀ h : Heap} {L : Addr} {a b c d e f : Addr × Obj} (N : News h₀ L h [a, b, c, d, e, f]) : News h₀ L h [b, e, f] := fun p hp => N p (by
  simp only [List.mem_cons, List.not_mem_nil, or_false] at hp ⊢
  rcases hp with h | h | h <;> simp [h])
theorem ringTo_next (l : List UInt8) (k : Nat) : ringTo l (k + 1) = ringTo l k ++ [(hereK l k : Int)] := by
  simp [ringTo, List.range_succ]
theorem fr_again {h₀ h : Heap} {L : Addr} {a b c d : Option Value} {r : Str → Option Value}
    (F : Fr h₀ L h fun y => if y = Str.ofString "here" then a else if y = Str.ofString "ring" then b else if y = Str.ofString "here" then c else if y = Str.ofString "ring" then d else r y) :
    Fr h₀ L h fun y => if y = Str.ofString "here" then a else if y = Str.ofString "ring" then b else r y := fr_map F fun y => by
  by_cases h1 : y = Str.ofString "here"
  · simp only [if_pos h1]
  · by_cases h2 : y = Str.ofString "ring"
    · simp only [if_neg h1, if_pos h2]
    · simp only [if_neg h1, if_neg h2]
theorem byte_range (b : UInt8) : 0 ≤ (b.toNat : Int) ∧ (b.toNat : Int) < 256 := by
  have := b.toNat_lt
  omega
theorem chg_front (l : List UInt8) : List.map (fun n : Int => n.toNat.toUInt8) [((l.getD (1 : Int).toNat 0).toNat : Int), ((l.getD (0 : Int).toNat 0).toNat : Int)] = [l.getD 1 0, l.getD 0 0] := by
  simp
def StmtAt (w : World) (A : Around) (e : Stmt) (env : Env) (Q : Flow → Shared → Prop) (E : Value → Shared → Prop) (s : Shared) : Prop := wpAny (model PP w) A (exec e env) Q E s
theorem stmt_stop {w : World} {A : Around} {e : Stmt} {env : Env} {Q : Flow → Shared → Prop} {E : Value → Shared → Prop} {s : Shared} (h : StmtAt w A e env Q E s) : wpAny (model PP w) A (exec e env) Q E s := h
local macro_rules | `(tactic| walk_at "call ref") => `(tactic| (k_here; (refine' call_stop ?_)))
local macro_rules | `(tactic| walk_at "call type:bytes") => `(tactic| (k_here; (refine' call_stop ?_)))
local macro_rules | `(tactic| walk_at "subscriptTail") => `(tactic| (k_here; (with_reducible show wpAny _ _ (subscriptTail _ _ (Value.bytes (List.toArray _) _) (Value.int _ _)) _ _ _); (refine' KBy.item_N ?k1 ?k2 ?k3 ?_; (case k1 => omega); (case k2 => omega); (case k3 => omega))))
local macro_rules | `(tactic| walk_at "subscriptTail") => `(tactic| (k_here; (with_reducible show wpAny _ _ (subscriptTail _ (Expr.Slice _ _ none _) (Value.bytes (List.toArray _) _) (Value.ref _)) _ _ _); (refine' sub_stop ?_)))
local macro_rules | `(tactic| walk_at "binaryOp Add bytes bytes") => `(tactic| (k_here; (with_reducible show wpAny _ _ (binaryOp Operator.Add (Value.bytes (List.toArray _) _) (Value.bytes (List.toArray _) _)) _ _ _); (refine' add_bytesL (by simp; omega) ?_); intro _ _))
local macro_rules | `(tactic| walk_at "exec While Compare cons nil") => `(tactic| (k_here; (refine' stmt_stop ?_)))
/-- the block of the changed arrangement -/
theorem law_p14 {w : World} {s : Shared} {mg mb : Str → Option Value} {p : Program} {loose : List Str} {Q : Flow → Shared → Prop} {L dd : Addr} {h : Heap} {tk : Nat} {m : Str → Option Value} {l : List UInt8} {d : List Int}
    (X : (Hd.hd.heap_39 w.params).In s.heap) (T : TopRead p loose mg mb s.heap)
    (F : Fr s.heap L h m) (S₀ : LS s.heap L h l d dd)
    (h1 : 1 ≤ l.length) (h6 : l.length ≤ 6) (hin : ∀ i : Nat, i < l.length → (l.getD i 0).toNat < l.length)
    {K : Nat} (hK6 : K ≤ 6) (hK : hereK l K = 0) (hKm : ∀ j, j < K → hereK l j ≠ 0) (hcin' : 2 ≤ l.length → ∀ i : Nat, i < (chg l).length → ((chg l).getD i 0).toNat < (chg l).length)
    (c7 : 2 ≤ l.length → ((ringTo l K).any fun x => x == 1) = true → opened (chg l) 0 + opened (chg l) 1 = opened l 0) (c8 : 2 ≤ l.length → ((ringTo l K).any fun x => x == 1) = false → opened (chg l) 0 = opened l 0 + opened l 1)
    (next : ∀ h tk (m : Str → Option Value), Fr s.heap L h m →
      wpC w (callerA.deeper (lawEnv L)) (execs (lawBody.drop 15) (lawEnv L)) Q (fun _ _ => False) { s with heap := h, toks := tk }) :
    wpC w (callerA.deeper (lawEnv L)) (execs (lawBody.drop 14) (lawEnv L)) Q (fun _ _ => False) { s with heap := h, toks := tk } := by
  obtain ⟨ob, om, oo, vD, nD, t, t', vo, led, db, dm, do', hi, N, kl⟩ := S₀.open F
  replace N : News s.heap L h [(L + 1, ob), (L + 1 + 1, om)] := fun p hp => N p (by simp at hp ⊢; rcases hp with h | h <;> simp [h])
  clear kl
  refine lit_start fun S B hS hB => ?_
  conv at hS => rhs; whnf
  conv at hB => rhs; whnf
  subst hS hB
  refine wpC_execs_cons (wpC_of_any ?_)
  k_steps
  rotate_left
  · rename Fr _ _ _ _ => F2
    exact next _ _ _ F2
  rename Fr _ _ _ _ => F2
  rename News _ _ _ _ => N2
  have l2 : 2 ≤ l.length := by omega
  unfold CallAt
  refine bytes_K F2 N2 ⟨_, (N2 _ (.head _)).1, rfl, _, rfl⟩ (.cons _ _ (.cons _ _ .nil)) (fun n hn => ?_) (by rw [sizeLine_eq]; show 2 ≤ 16777216; decide) rfl ?_
  · simp only [List.mem_cons, List.not_mem_nil, or_false] at hn
    rcases hn with rfl | rfl <;> exact byte_range _
  intro h4 t4 tk4 F4 N4 _
  clear F2 N2
  rw [chg_front]
  k_steps
  rename Fr _ _ _ _ => F4
  rename News _ _ _ _ => N4
  unfold SubAt
  refine slice_tail (s := ⟨_, _, _, _, _⟩) (.int _ _) .none (pick_two l l2).1 (pick_two l l2).2 (by simp; omega) ?_ (by with_unfolding_all rfl) (by intro _; with_unfolding_all rfl)
  intro t5 h5 k5 keep5
  have F5 := F4.keeps keep5
  have N5 := News.keepsAll N4 keep5
  clear F4 N4
  k_steps
  rename Fr _ _ _ _ => F6
  rename News _ _ _ _ => N6
  have N7 := news_ring N6
  clear N6
  have hcin := hcin' l2
  have hcl : (chg l).length = l.length := by simp [chg]; omega
  unfold StmtAt
  refine While_inv2 (fun n m' news => ∃ k th tc r vs nr, k ≤ K ∧ n = K - k ∧ m' = (fun y => if y = Str.ofString "here" then some (.int (hereK l k : Int) th) else if y = Str.ofString "ring" then some (.ref r) else if y = Str.ofString "changed" then some (.bytes (chg l).toArray tc) else m y) ∧
    news = [(r, listOf (List.toArray vs) nr), (L + 1, ob), (L + 1 + 1, om)] ∧ IntsAre vs (ringTo l k)) F6 N7 ⟨0, _, _, _, _, 0, Nat.zero_le _, rfl, rfl, rfl, .cons _ _ .nil⟩ ?_ PassesOwn.never
  clear F6 N7
  rintro n m₁ news₁ h₁ tk₁ F₁ N₁ ⟨k, th, tc, r, vs, nr, hk, rfl, rfl, rfl, hvs⟩
  have hkl := hereK_lt (by omega) hin k
  k_steps
  · rename Fr _ _ _ _ => F2
    rename News _ _ _ _ => N2
    have hvl : vs.length ≤ 7 := by rw [hvs.length]; simp [ringTo]; omega
    refine add_lists (vs := vs) (ws := [_]) F2 N2 ⟨_, (N2 _ (.tail _ (.head _))).1, rfl, _, rfl⟩ ⟨_, (N2 _ (.head _)).1, rfl, _, rfl⟩ ?_ (by rw [sizeLine_eq]; show vs.length + 1 ≤ 16777216; omega)
    intro h5 F5 N5
    clear F2 N2
    rename ((hereK l k : Int) ≠ 0) => hne
    have hkK : k ≠ K := by
      rintro rfl
      exact hne (by rw [hK]; rfl)
    k_steps
    rename Fr _ _ _ _ => F6
    rename News _ _ _ _ => N6
    refine ⟨_, _, _, _, _, rfl, fr_again F6, news_ring2 N6, (by omega : K - (k + 1) < K - k), k + 1, _, _, _, _, _, by omega, rfl, rfl, rfl, ?_⟩
    rw [ringTo_next]
    exact hvs.append (.cons _ _ .nil)
  rename_i hz _
  have hkK : k = K := by
    apply Classical.byContradiction
    intro hn
    have := hKm k (by omega)
    omega
  subst hkK
  have hO : ∀ q : Int, 0 ≤ q → q < 2 → OCtx l q := fun q h0 h2 => ⟨by omega, hin, h0, by omega⟩
  have hC : ∀ q : Int, 0 ≤ q → q < 2 → OCtx (chg l) q := fun q h0 h2 => ⟨by omega, hcin, h0, by omega⟩
  unfold CallAt
  refine opened_call (X.keeps F₁.keep) (T.keeps F₁.keep) (by decide) l _ 0 _ (hO 0 (by omega) (by omega)) ?_
  intro t7 h7 tk7 k7
  have F2 := F₁.keeps k7
  have N2 := News.keepsAll N₁ k7
  clear F₁ N₁
  k_steps
  rename Fr _ _ _ _ => F2
  rename News _ _ _ _ => N2
  unfold CallAt
  refine opened_call (X.keeps F2.keep) (T.keeps F2.keep) (by decide) (chg l) _ 0 _ (hC 0 (by omega) (by omega)) ?_
  intro t8 h8 tk8 k8
  have F3 := F2.keeps k8
  have N3 := News.keepsAll N2 k8
  clear F2 N2
  k_steps
  rename Fr _ _ _ _ => F3
  rename News _ _ _ _ => N3
  unfold CallAt
  refine opened_call (X.keeps F3.keep) (T.keeps F3.keep) (by decide) (chg l) _ 1 _ (hC 1 (by omega) (by omega)) ?_
  intro t9 h9 tk9 k9
  have F4 := F3.keeps k9
  have N4 := News.keepsAll N3 k9
  clear F3 N3
  k_steps
  · rename (opened (chg l) 0 + opened (chg l) 1 ≠ opened l 0) => hne
    rename ((ringTo l k).any _ = true) => hT
    exact absurd (c7 l2 hT) hne
  · rename Fr _ _ _ _ => F5
    exact next _ _ _ F5
  rename ((ringTo l k).any _ = false) => hF
  rename Fr _ _ _ _ => F4
  rename News _ _ _ _ => N4
  unfold CallAt
  refine opened_call (X.keeps F4.keep) (T.keeps F4.keep) (by decide) (chg l) _ 0 _ (hC 0 (by omega) (by omega)) ?_
  intro t10 h10 tk10 k10
  have F5 := F4.keeps k10
  have N5 := News.keepsAll N4 k10
  clear F4 N4
  k_steps
  rename Fr _ _ _ _ => F5
  rename News _ _ _ _ => N5
  unfold CallAt
  refine opened_call (X.keeps F5.keep) (T.keeps F5.keep) (by decide) l _ 1 _ (hO 1 (by omega) (by omega)) ?_
  intro t11 h11 tk11 k11
  have F6 := F5.keeps k11
  have N6 := News.keepsAll N5 k11
  clear F5 N5
  k_steps
  · rename (opened (chg l) 0 ≠ opened l 0 + opened l 1) => hne
    exact absurd (c8 l2 hF) hne
  · rename Fr _ _ _ _ => F7
    exact next _ _ _ F7
end
end Mine

/-! ## Plain -/
namespace Mine
section
open PySem PySem.W PyProof.Rows PySem.Calls
/-- what the law asks of an arrangement -/
structure Good (l : List UInt8) : Prop where
  hin : ∀ b ∈ l, b.toNat < l.length
  c1 : sumD (ringsD l l.length) = l.length
  c2 : ∀ e ∈ ringsD l l.length, ∃ x n y, e.1 = [.inl x, .inr n, .inl y] ∧ n ≠ 0 ∧ Int.fmod e.2 n = 0
  c3 : ∀ M, M ∈ sizesD (ringsD l l.length) → (∀ a ∈ sizesD (ringsD l l.length), a ≤ M) → (((fcnt l : Int) = l.length ↔ M ≤ Int.fdiv l.length 2) ∧ (M > Int.fdiv l.length 2 → (fcnt l : Int) = l.length - M))
  c5 : 0 < (ringsD l l.length).length
  c6 : eqD (ringsD (turnL l) (turnL l).length) (ringsD l l.length)
  ring : ∃ K, K ≤ 6 ∧ hereK l K = 0 ∧ (∀ j, j < K → hereK l j ≠ 0) ∧ (2 ≤ l.length → ∀ i : Nat, i < (chg l).length → ((chg l).getD i 0).toNat < (chg l).length) ∧
    (2 ≤ l.length → ((ringTo l K).any fun x => x == 1) = true → opened (chg l) 0 + opened (chg l) 1 = opened l 0) ∧ (2 ≤ l.length → ((ringTo l K).any fun x => x == 1) = false → opened (chg l) 0 = opened l 0 + opened l 1)
def keyB (e : List MK × Int) : Bool := match e.1 with
  | [.inl _, .inr n, .inl _] => decide (n ≠ 0) && decide (Int.fmod e.2 n = 0)
  | _ => false
theorem of_keyB {e : List MK × Int} (h : keyB e = true) : ∃ x n y, e.1 = [.inl x, .inr n, .inl y] ∧ n ≠ 0 ∧ Int.fmod e.2 n = 0 := by
  unfold keyB at h
  split at h
  · rename_i x n y he
    rw [Bool.and_eq_true, decide_eq_true_eq, decide_eq_true_eq] at h
    exact ⟨_, _, _, he, h.1, h.2⟩
  · cases h
noncomputable def ringB (l : List UInt8) (K : Nat) : Bool :=
  decide (hereK l K = 0) && ((List.range K).all fun j => decide (hereK l j ≠ 0)) && (decide (¬ 2 ≤ l.length) || (((chg l).all fun b => decide (b.toNat < (chg l).length)) &&
    (if ((ringTo l K).any fun x => x == 1) = true then decide (opened (chg l) 0 + opened (chg l) 1 = opened l 0) else decide (opened (chg l) 0 = opened l 0 + opened l 1))))
noncomputable def goodB (l : List UInt8) : Bool :=
  (l.all fun b => decide (b.toNat < l.length)) &&
  (decide (sumD (ringsD l l.length) = l.length) &&
  (((ringsD l l.length).all keyB) &&
  (((sizesD (ringsD l l.length)).all fun M => decide (¬ ∀ a ∈ sizesD (ringsD l l.length), a ≤ M) || (decide ((fcnt l : Int) = l.length ↔ M ≤ Int.fdiv l.length 2) && decide (M > Int.fdiv l.length 2 → (fcnt l : Int) = l.length - M))) &&
  (decide (0 < (ringsD l l.length).length) &&
  (eqDb (ringsD (turnL l) (turnL l).length) (ringsD l l.length) &&
  ((List.range 7).any fun K => ringB l K))))))
theorem good_of {l : List UInt8} (h : goodB l = true) : Good l := by
  unfold goodB at h
  simp only [Bool.and_eq_true] at h
  obtain ⟨g1, g2, g3, g4, g5, g6, g7⟩ := h
  refine ⟨fun b hb => by simpa using List.all_eq_true.mp g1 b hb, by simpa using g2, fun e he => of_keyB (List.all_eq_true.mp g3 e he), fun M hM hmax => ?_, by simpa using g5, eqD_of g6, ?_⟩
  · have := List.all_eq_true.mp g4 M hM
    rw [Bool.or_eq_true, Bool.and_eq_true, decide_eq_true_eq, decide_eq_true_eq, decide_eq_true_eq] at this
    rcases this with h | h
    · exact absurd hmax h
    · exact h
  · obtain ⟨K, hK, hB⟩ := List.any_eq_true.mp g7
    have hK7 := List.mem_range.mp hK
    unfold ringB at hB
    rw [Bool.and_eq_true, Bool.and_eq_true, Bool.or_eq_true, Bool.and_eq_true, decide_eq_true_eq, decide_eq_true_eq] at hB
    obtain ⟨⟨b1, b2⟩, b3⟩ := hB
    have key : 2 ≤ l.length → ((chg l).all fun b => decide (b.toNat < (chg l).length)) = true ∧ (if ((ringTo l K).any fun x => x == 1) = true then decide (opened (chg l) 0 + opened (chg l) 1 = opened l 0) else decide (opened (chg l) 0 = opened l 0 + opened l 1)) = true := fun h2 => by
      rcases b3 with h | h
      · exact absurd h2 h
      · exact h
    refine ⟨K, by omega, b1, fun j hj => by simpa using List.all_eq_true.mp b2 j (List.mem_range.mpr hj), fun h2 i hi => ?_, fun h2 hT => ?_, fun h2 hF => ?_⟩
    · have e : (chg l).getD i 0 = (chg l)[i] := by simp [hi]
      rw [e]
      simpa using List.all_eq_true.mp (key h2).1 _ (List.getElem_mem hi)
    · have := (key h2).2
      rw [if_pos hT] at this
      simpa using this
    · have := (key h2).2
      rw [if_neg (by rw [hF]; exact Bool.false_ne_true)] at this
      simpa using this
/-- every order of a list -/
noncomputable def permsF : Nat → List Int → List (List Int)
  | 0, _ => [[]]
  | k + 1, r => r.flatMap fun x => (permsF k (r.erase x)).map (x :: ·)
theorem perms_all : ∀ (k : Nat) (r d : List Int), d.Perm r → r.length = k → d ∈ permsF k r
  | 0, r, d, h, hl => by
    obtain rfl := List.length_eq_zero_iff.mp hl
    rw [List.perm_nil.mp h]
    exact .head _
  | k + 1, r, [], h, hl => by
    have := h.length_eq
    rw [hl] at this; cases this
  | k + 1, r, x :: d, h, hl => by
    obtain ⟨hx, hp⟩ := List.cons_perm_iff_perm_erase.mp h
    refine List.mem_flatMap.mpr ⟨x, hx, List.mem_map.mpr ⟨d, perms_all k _ d hp ?_, rfl⟩⟩
    rw [List.length_erase_of_mem hx, hl]; rfl
def octs (d : List Int) : List UInt8 := d.map fun n => n.toNat.toUInt8
theorem good_1 : ((permsF 1 [0]).all fun d => goodB (octs d)) = true := by decide +kernel
theorem good_2 : ((permsF 2 [0, 1]).all fun d => goodB (octs d)) = true := by decide +kernel
theorem good_3 : ((permsF 3 [0, 1, 2]).all fun d => goodB (octs d)) = true := by decide +kernel
theorem good_4 : ((permsF 4 [0, 1, 2, 3]).all fun d => goodB (octs d)) = true := by decide +kernel
theorem good_5 : ((permsF 5 [0, 1, 2, 3, 4]).all fun d => goodB (octs d)) = true := by decide +kernel
theorem good_60 : ((permsF 5 [1, 2, 3, 4, 5]).all fun d => goodB (octs (0 :: d))) = true := by decide +kernel
theorem good_61 : ((permsF 5 [0, 2, 3, 4, 5]).all fun d => goodB (octs (1 :: d))) = true := by decide +kernel
theorem good_62 : ((permsF 5 [0, 1, 3, 4, 5]).all fun d => goodB (octs (2 :: d))) = true := by decide +kernel
theorem good_63 : ((permsF 5 [0, 1, 2, 4, 5]).all fun d => goodB (octs (3 :: d))) = true := by decide +kernel
theorem good_64 : ((permsF 5 [0, 1, 2, 3, 5]).all fun d => goodB (octs (4 :: d))) = true := by decide +kernel
theorem good_65 : ((permsF 5 [0, 1, 2, 3, 4]).all fun d => goodB (octs (5 :: d))) = true := by decide +kernel
theorem good_6 : ∀ d ∈ permsF 6 [0, 1, 2, 3, 4, 5], goodB (octs d) = true := by
  intro d hd
  obtain ⟨x, hx, hd⟩ := List.mem_flatMap.mp hd
  obtain ⟨d', hd', rfl⟩ := List.mem_map.mp hd
  simp only [List.mem_cons, List.not_mem_nil, or_false] at hx
  rcases hx with rfl | rfl | rfl | rfl | rfl | rfl
  · exact List.all_eq_true.mp good_60 d' hd'
  · exact List.all_eq_true.mp good_61 d' hd'
  · exact List.all_eq_true.mp good_62 d' hd'
  · exact List.all_eq_true.mp good_63 d' hd'
  · exact List.all_eq_true.mp good_64 d' hd'
  · exact List.all_eq_true.mp good_65 d' hd'
/-- every arrangement that the law can draw is good -/
theorem good_all {n : Nat} (h1 : 1 ≤ n) (h6 : n ≤ 6) {d : List Int} (hp : d.Perm (rangeKs 0 n)) : Good (octs d) := by
  have hd := perms_all n _ d hp (by rw [rangeKs_length])
  refine good_of ?_
  match n, h1, h6, hd with
  | 1, _, _, hd => exact List.all_eq_true.mp good_1 d hd
  | 2, _, _, hd => exact List.all_eq_true.mp good_2 d hd
  | 3, _, _, hd => exact List.all_eq_true.mp good_3 d hd
  | 4, _, _, hd => exact List.all_eq_true.mp good_4 d hd
  | 5, _, _, hd => exact List.all_eq_true.mp good_5 d hd
  | 6, _, _, hd => exact good_6 d hd
end
end Mine

/-! ## LawEnd -/
namespace Mine
section
open PySem PySem.W PyProof.Rows PySem.Calls
theorem fill17 : ∀ P h, (Hd.hd.heap_39 P).In h → PySem.Challenge.rw_ie0012_01.row.prog = PySem.Challenge.rw_ie0012_01.row.prog := by
  k_fill
  intros; rfl
/-- from the drawn arrangement to the law's answer -/
theorem law_rest {w : World} {s : Shared} {mg mb : Str → Option Value} {p : Program} {loose : List Str} {Q : Flow → Shared → Prop} {L dd : Addr} {h : Heap} {tk : Nat} {m : Str → Option Value} {l : List UInt8} {d : List Int}
    (X : (Hd.hd.heap_39 w.params).In s.heap) (T : TopRead p loose mg mb s.heap)
    (F : Fr s.heap L h (fun y => if y = Str.ofString "drawn" then some (.ref dd) else m y)) (S₀ : LS s.heap L h l d dd) (G : Good l)
    (h1 : 1 ≤ l.length) (h6 : l.length ≤ 6) (hd : l = d.map fun n => n.toNat.toUInt8) (hdr : ∀ n ∈ d, 0 ≤ n ∧ n < 256)
    (ret : ∀ h tk, (∀ b o, s.heap.get? b = some o → h.get? b = some o) → Q (.ret (.bool true)) { s with heap := h, toks := tk }) :
    wpC w (callerA.deeper (lawEnv L)) (execs (lawBody.drop 3) (lawEnv L)) Q (fun _ _ => False) { s with heap := h, toks := tk } := by
  have hin : ∀ i : Nat, i < l.length → (l.getD i 0).toNat < l.length := fun i hi => by
    have e : l.getD i 0 = l[i] := by simp [hi]
    rw [e]
    exact G.hin _ (List.getElem_mem hi)
  refine law_p3 X T F S₀ h6 hin ?_
  intro td h tk m F S₀ ht ht0 tab
  refine law_p4 X T F S₀ ht ht0 tab G.c1 G.c2 ?_
  intro h tk m F S₀ tab
  refine law_p5 X T F S₀ ht ht0 tab h1 h6 hin ?_
  intro fd vs h tk m F S₀ tab hfd hvs hfL hf0
  refine law_p6 X T F S₀ ht ht0 tab hfd hvs hfL hf0 h1 h6 G.c2 G.c3 G.c5 ?_
  intro h tk m F S₀ tab
  refine law_p9 X T F S₀ ht ht0 tab ?_
  intro wd gt h tk m F S₀ tab hw hw0 tabw
  refine law_p11 X T F S₀ ht ht0 tab hw hw0 tabw ?_
  intro h tk m F S₀ tab
  refine law_p12 X T F S₀ ht ht0 tab h1 h6 G.hin ?_
  intro tt h tk m F S₀ tab
  refine law_p13 X T F S₀ ht ht0 tab h1 h6 G.hin hd hdr G.c6 ?_
  intro h tk m F S₀ tab
  obtain ⟨K, hK6, hK, hKm, hcin, c7, c8⟩ := G.ring
  refine law_p14 X T F S₀ h1 h6 hin hK6 hK hKm hcin c7 c8 ?_
  intro h tk m F
  refine lit_start fun S B hS hB => ?_
  conv at hS => rhs; whnf
  conv at hB => rhs; whnf
  subst hS hB
  refine wpC_of_any ?_
  k_steps
  rename Fr _ _ _ _ => F
  exact ret _ _ F.keep
end
end Mine

/-! ## LawA -/
namespace Mine
section
open PySem PySem.W PyProof.Rows PySem.Calls
theorem fill7 : ∀ P h, (Hd.hd.heap_39 P).In h → PySem.Challenge.rw_ie0012_01.row.prog = PySem.Challenge.rw_ie0012_01.row.prog := by
  k_fill
  intros; rfl
theorem cut_of : ∀ (l : List Value) (k : Nat) (y : Value), l[k]? = some y → kl_cut l k = some (l.take k, y, l.drop (k + 1))
  | [], k, y, h => by simp at h
  | x :: r, 0, y, h => by simp at h; subst h; rfl
  | x :: r, k + 1, y, h => by
    have := cut_of r k y (by simpa using h)
    simp [kl_cut, this]
theorem ints_at {vs : List Value} {ns : List Int} (h : IntsAre vs ns) {k : Nat} (hk : k < ns.length) : ∃ t, vs[k]? = some (.int (ns.getD k 0) t) := by
  refine h.get k _ ?_
  rw [List.getD_eq_getElem?_getD]
  simp [hk]
local macro_rules | `(tactic| walk_at "call ref") => `(tactic| (k_here; (refine' call_stop ?_)))
local macro_rules | `(tactic| walk_at "call builtin:list.pop") => `(tactic| (k_here; (refine' call_stop ?_)))
local macro_rules | `(tactic| walk_at "exec For Name Subscript") => `(tactic| (k_here; (rename Fr _ _ _ _ => lF'); (refine' for_at lF' (by rfl) (by rfl) PassesOwn.never (by intro _; rfl) ?_)))
theorem law_a {w : World} {E : Value → Shared → Prop} {s : Shared} {mg mb : Str → Option Value} {p : Program} {loose : List Str} {Q : Value → Shared → Prop}
    (X : (Hd.hd.heap_39 w.params).In s.heap) (T : TopRead p loose mg mb s.heap) {sc : Addr} {vs : List Value} {ns : List Int} (hl : s.heap.IsList sc vs.toArray) (hi : IntsAre vs ns) (h63 : ns.length ≤ 63)
    (ret : ∀ h' tk', (∀ b o, s.heap.get? b = some o → h'.get? b = some o) → Q (.bool true) { s with heap := h', toks := tk' }) :
    wpC w callerA (call (.ref 59) [.ref sc]) Q E s := by
  refine call_fn_cellsC X T ?_ rfl rfl rfl (kindsX rfl) (by decide) rfl rfl rfl ?_
  case refine_1 => show 301 < 1000; omega
  intro L h₁ tk cells F N Y X T
  obtain ⟨o₁, o₂, o₃, rfl, hd₁, hd₂, hd₃⟩ := CellsAre.three Y
  replace hd₁ : o₁.data = .cell none := hd₁
  replace hd₂ : o₂.data = .cell none := hd₂
  replace hd₃ : o₃.data = .cell none := hd₃
  replace F : Fr s.heap L h₁ (fun y => if y = Str.ofString "script" then some (.ref sc) else none) := F
  clear Y
  refine wpC_execs_cons (wpC_of_any ?_)
  k_steps
  rename_i dl vl cl _ _ hIl _ dd _ _ dt _ _ _ _ _ F₁ N₁
  obtain ⟨n, hn, hn1, hn6, hnl⟩ : ∃ n : Nat, ((if (if (ns.length : Int) < 6 then (ns.length : Int) else 6) > 1 then (if (ns.length : Int) < 6 then (ns.length : Int) else 6) else 1) - 0).toNat = n ∧ 1 ≤ n ∧ n ≤ 6 ∧ n ≤ ns.length + 1 := by
    refine ⟨_, rfl, ?_, ?_, ?_⟩ <;> (split <;> split at * <;> omega)
  rw [hn] at hIl
  refine wpC_execs_cons (wpC_of_any ?_)
  refine for_at F₁ (by rfl) (by rfl) PassesOwn.never (by intro _; rfl) ?_
  k_steps
  rename_i _ _ _ _ _ _ _ _ da wn _ F₂ N₂ hIn hCn _ _
  refine st_list (base := fun _ y => if y = Str.ofString "left" then some (.ref dl) else if y = Str.ofString "drawn" then some (.ref dd) else if y = Str.ofString "script" then some (.ref sc) else none)
    (Nl := fun (c : (List Value × Nat) × (List Value × Nat)) => [(dd, listOf c.2.1.toArray c.2.2), (dl, listOf c.1.1.toArray c.1.2), (L + 1 + 1 + 1, o₁), (L + 1 + 1, o₂), (L + 1, o₃)])
    (R := fun i c => ∃ r d : List Int, IntsAre c.1.1 r ∧ IntsAre c.2.1 d ∧ d.length = i ∧ (d ++ r).Perm (rangeKs 0 n)) (c₀ := ((vl, cl), ([], 0))) (fun _ => rfl) rfl ⟨_, (N₂ _ (.head _)).1, rfl, _, rfl⟩ (N₂ _ (.head _)).2.1 ?_ F₂ ?_ ?_ ?_ ?_
  · have e1 : @LT.lt Nat instLTNat dd da := by omega
    have e2 : @LT.lt Nat instLTNat dl da := by omega
    have e3 : @LT.lt Nat instLTNat (L + 1 + 1 + 1) da := by omega
    intro p hp
    simp at hp
    rcases hp with h | h | h | h | h <;> rw [h]
    · exact Nat.ne_of_lt e1
    · exact Nat.ne_of_lt e2
    · exact Nat.ne_of_lt e3
    · exact Nat.ne_of_lt (Nat.lt_trans (Nat.lt_succ_self _) e3)
    · exact Nat.ne_of_lt (Nat.lt_trans (Nat.lt_succ_self _) (Nat.lt_trans (Nat.lt_succ_self _) e3))
  · exact fun p hp => N₂ p (.tail _ (.tail _ (.tail _ (.tail _ hp))))
  · exact ⟨_, [], hIl, .nil, rfl, by simp⟩
  · rintro i ⟨⟨vL, nL⟩, ⟨vD, nD⟩⟩ v h tk own hi hv ⟨r, d, hL, hD, hdi, hp⟩ hoff F N
    dsimp only at hL hD F N
    have hlen := hp.length_eq
    rw [rangeKs_length, List.length_append] at hlen
    have hwn : wn.length = n := by
      have h1 := hIn.length
      rw [h1, hCn, rangeKs_length]
      simp
      omega
    rw [List.size_toArray, hwn] at hi
    have hr0 : 0 < r.length := by omega
    have hr6 : r.length ≤ 6 := by omega
    obtain ⟨t, hvt⟩ := ints_at hIn (k := i) (by rw [← hIn.length]; omega)
    rw [List.getElem?_toArray, hvt] at hv
    obtain rfl := Option.some.inj hv
    have hy0 := fmod_lo ((List.take (((rangeKs 0 n).length : Nat) : Int).toNat (ns ++ [0])).getD i 0) (n := (r.length : Int)) (by omega)
    have hy1 := fmod_hi ((List.take (((rangeKs 0 n).length : Nat) : Int).toNat (ns ++ [0])).getD i 0) (n := (r.length : Int)) (by omega)
    k_steps
    generalize Int.fmod ((List.take (((rangeKs 0 n).length : Nat) : Int).toNat (ns ++ [0])).getD i 0) (r.length : Int) = idx at hy0 hy1 ⊢
    obtain ⟨ty, hy⟩ := ints_at hL (k := idx.toNat) (by omega)
    have hvl : vL.length = r.length := hL.length
    have d1 : @LT.lt Nat instLTNat dl dd := by omega
    have d2 : @LT.lt Nat instLTNat (L + 1 + 1 + 1) dl := by omega
    have dne : dd ≠ dl ∧ L + 1 + 1 + 1 ≠ dl ∧ L + 1 + 1 ≠ dl ∧ L + 1 ≠ dl := ⟨Nat.ne_of_gt d1, Nat.ne_of_lt d2, Nat.ne_of_lt (Nat.lt_trans (Nat.lt_succ_self _) d2), Nat.ne_of_lt (Nat.lt_trans (Nat.lt_succ_self _) (Nat.lt_trans (Nat.lt_succ_self _) d2))⟩
    have offl : ∀ p ∈ own, p.1 ≠ dl := hoff.ne (by simp)
    have offd : ∀ p ∈ own, p.1 ≠ dd := hoff.ne (by simp)
    unfold CallAt
    have U : Upd dl (listOf vL.toArray nL) (listOf (vL.take idx.toNat ++ vL.drop (idx.toNat + 1)).toArray (nL + 1)) ((dd, listOf vD.toArray nD) :: (dl, listOf vL.toArray nL) :: (L + 1 + 1 + 1, o₁) :: (L + 1 + 1, o₂) :: (L + 1, o₃) :: own)
        ((dd, listOf vD.toArray nD) :: (dl, listOf (vL.take idx.toNat ++ vL.drop (idx.toNat + 1)).toArray (nL + 1)) :: (L + 1 + 1 + 1, o₁) :: (L + 1 + 1, o₂) :: (L + 1, o₃) :: own) :=
      .tail dne.1 (.head fun p hp => by
        rcases List.mem_cons.mp hp with rfl | hp
        · exact dne.2.1
        · rcases List.mem_cons.mp hp with rfl | hp
          · exact dne.2.2.1
          · rcases List.mem_cons.mp hp with rfl | hp
            · exact dne.2.2.2
            · exact offl p hp)
    refine kl_popAt (k := idx.toNat) F N ?_ ?_ (cut_of vL idx.toNat _ hy) U ?_ ?_
    · simp only [Builtin.List.listFitsIndex, Bool.and_eq_true, decide_eq_true_eq]; omega
    · have hneg : ¬ idx < 0 := by omega
      rw [List.size_toArray, hvl]
      simp [seqIndex?, hneg, hy0, hy1]
    · rw [sizeLine_eq]; simp; omega
    intro h' F' N'
    clear F N
    k_steps
    rename Fr _ _ _ _ => F3
    rename News _ _ _ _ => N3
    rw [List.push_toArray] at N3
    have hrk : r = r.take idx.toNat ++ r.getD idx.toNat 0 :: r.drop (idx.toNat + 1) := by
      have hk : idx.toNat < r.length := by omega
      have h1 : r.getD idx.toNat 0 = r[idx.toNat] := by simp [hk]
      rw [h1, ← List.drop_eq_getElem_cons hk, List.take_append_drop]
    refine ⟨rfl, ((vL.take idx.toNat ++ vL.drop (idx.toNat + 1), nL + 1), (vD ++ [.int (r.getD idx.toNat 0) ty], nD + 1)), _, _, _, _, rfl, ⟨r.take idx.toNat ++ r.drop (idx.toNat + 1), d ++ [r.getD idx.toNat 0], (hL.take _).append (hL.drop _), hD.append (.cons _ _ .nil), by simp [hdi], ?_⟩, F3, N3, ?_, ?_⟩
    · refine List.Perm.trans ?_ hp
      rw [List.append_assoc]
      refine List.Perm.append_left d ?_
      conv => rhs; rw [hrk]
      exact (List.perm_middle (a := r.getD idx.toNat 0) (l₁ := r.take idx.toNat) (l₂ := r.drop (idx.toNat + 1))).symm
    · intro p hp
      simp at hp ⊢
      rcases hp with h | h | h | h | h <;> simp [h]
    · intro p hp
      exact .tail _ (.tail _ (.tail _ (.tail _ (.tail _ hp))))
  · rintro ⟨⟨vL, nL⟩, ⟨vD, nD⟩⟩ u h tk ⟨r, d, hL, hD, hdi, hp⟩ F N
    dsimp only at hL hD F N
    have hlen := hp.length_eq
    rw [rangeKs_length, List.length_append] at hlen
    have hwn : wn.length = n := by
      have h1 := hIn.length
      rw [h1, hCn, rangeKs_length]
      simp
      omega
    rw [List.size_toArray, hwn] at hdi
    have hr0 : r = [] := List.length_eq_zero_iff.mp (by omega)
    subst hr0
    rw [List.append_nil] at hp
    have hdr : ∀ x ∈ d, 0 ≤ x ∧ x < 256 := fun x hx => by
      have := mem_rangeKs (hp.mem_iff.mp hx)
      omega
    have hd6 : d.length ≤ 6 := by omega
    refine wpC_execs_cons (wpC_of_any ?_)
    k_steps
    rename Fr _ _ _ _ => F9
    rename News _ _ _ _ => N9
    refine law_rest (s := s) (l := octs d) (d := d) (dd := dd) X T (fr_pin F9 (x := Str.ofString "drawn") (v := .ref dd) rfl) ?_ (good_all hn1 hn6 hp) ?_ ?_ rfl hdr ?_
    · rename (Obj.data _ = Data.cell (some (Value.bytes _ _))) => hb
      rename (Obj.data _ = Data.cell (some (Value.int _ _))) => hm
      have hlen : (octs d).length = d.length := by rw [octs, List.length_map]
      exact ⟨⟨_, _, (N9 _ (.tail _ (.tail _ (.tail _ (.tail _ (.tail _ (.head _))))))).1, hb⟩, by rw [hlen]; exact ⟨_, _, (N9 _ (.tail _ (.tail _ (.tail _ (.tail _ (.head _)))))).1, hm⟩, ⟨_, _, (N9 _ (.tail _ (.tail _ (.tail _ (.head _))))).1, hd₁⟩,
        ⟨vD, nD, (N9 _ (.tail _ (.head _))).1, hD⟩, (N9 _ (.tail _ (.head _))).2.2, (N9 _ (.tail _ (.head _))).2.1⟩
    · rw [octs, List.length_map]; omega
    · rw [octs, List.length_map]; omega
    · intro h tk hk
      exact ret h tk hk
end
end Mine

/-! ## LawMain -/
namespace Mine
section
open PySem PySem.W PyProof.Rows PySem.Calls
theorem law_call {w : World} {E : Value → Shared → Prop} {s : Shared} {mg mb : Str → Option Value} {p : Program} {loose : List Str} {Q : Value → Shared → Prop}
    (X : (Hd.hd.heap_39 w.params).In s.heap) (T : TopRead p loose mg mb s.heap) {sc : Addr} {vs : List Value} {ns : List Int} (hl : s.heap.IsList sc vs.toArray) (hi : IntsAre vs ns) (h63 : ns.length ≤ 63)
    (ret : ∀ h' tk', (∀ b o, s.heap.get? b = some o → h'.get? b = some o) → Q (.bool true) { s with heap := h', toks := tk' }) :
    wpC w callerA (call (.ref 59) [.ref sc]) Q E s := by
  exact law_a X T hl hi h63 ret
end
end Mine

/-! ## Root -/
namespace Mine
section
open PySem PySem.W PyProof.Rows PySem.Calls
theorem end_true {cl : Str → Option Addr} {mean : ExcName → Option Value} {x : WData} {s₁ : Shared} {h' : Heap} {tk : Nat} (hk : ∀ b o, s₁.heap.get? b = some o → h'.get? b = some o) (hg : s₁.gens = #[]) :
    GoodWG PySem.Challenge.rw_ie0012_01.row.claim cl mean [x] s₁ (.ok (.ret (.bool true))) { s₁ with heap := h', toks := tk } :=
  GoodW.toG ⟨.inl ⟨.bool true, .bool true, [], rfl, fun _ => rfl, .bool true, postW_of (by wrow_shape) (by wtm_val) (by w_fin), unshared_nil⟩, hk, rfl, hg⟩
/-- the places of the written heap -/
def spots : List Addr := [2, 3, 6, 15, 17, 18, 20, 21, 22, 24, 25, 27, 28, 29, 31, 32, 34, 35, 36, 38, 39, 41, 42, 43, 45, 46, 48, 49, 50, 53, 54, 55, 58, 59]
noncomputable def hookL : Hook := kHook Hd.hd.heap_39 spots fun _ => by kernel_rfl
/-- the text's top leaves the written heap behind, in every world -/
theorem left_ok : LeftO PP Hd.hd.view_39 [] (fun s => xlAt Hd.hd.view_39 [] s && recOk [] s) hookL.obs hookL.val 880 := fun w => by kernel_rfl
theorem root : PySem.Challenge.rw_ie0012_01.Holds := by
  refine holds_law (by decide +kernel) fun said => ⟨said, ?hw, holdsOpen_skip ?H⟩
  case hw => w_witness2
  refine open_anyG (run := runC) (tree := treeC _) left_ok hookL.of hookL.keeps (XP := XL Hd.hd.view_39 []) (fun s e => xl_of s (Bool.and_eq_true_iff.mp e).1) XL.keeps
    (fun s e => recFacts_of (Bool.and_eq_true_iff.mp e).2) rfl (by decide +kernel) ⟨rfl, rfl, rfl, rfl, rfl, by decide +kernel⟩ ?hw (fun vs w s mg f Q E hg hf h => skip_ht hg hf h) ?pin ?call
  case hw => w_witness2
  case pin =>
    intro w s hg G n hn
    have hn : PySem.Challenge.rw_ie0012_01.row.pinned = true ∧ n = PySem.Challenge.rw_ie0012_01.row.name := by simpa using hn
    rw [hn.2]
    exact pinned_of_view hg G rfl rfl rfl
  intro w s₀ s₁ mg mb G Y args vals as hpre hlay L low
  have KX : (Hd.hd.heap_39 w.params).In s₁.heap := Y
  refine Ground.open G ?_
  intro T _ _ _ _
  have TR := topRead_of T
  refine ⟨.ref 59, mg_of KX TR.g (n := Str.ofString "law") (v := .ref 59) rfl, ?_⟩
  have hg : s₁.gens = #[] := L.gens
  have hrd := L.reads
  have hwl := L.well
  have hlo := L.low low
  wrow_args hpre hlay hrd hwl hlo
  rename IntsAre _ _ => hI
  rename Heap.IsList _ _ _ => hL
  intro Γ p hΓ
  unfold runC
  rw [Sem.wp_stack]
  by_cases hc : cleanSt ((Γ.code, p) :: Γ.below) = true
  · rw [if_pos hc]
    have hc2 : tameC Γ.code = true ∧ cleanSt Γ.below = true := by
      have : (tameC Γ.code && cleanSt Γ.below) = true := hc
      simpa using this
    refine law_call KX TR hL hI (by omega) (fun h' tk' hk => ?_) Γ p hΓ hc2
    exact end_true hk hg
  · rw [if_neg hc]
    exact end_true (s₁ := s₁) (h' := s₁.heap) (tk := s₁.toks) (fun _ _ e => e) hg
end
end Mine

theorem PySem.Challenge.cw_ie0012_01_holds : PySem.Challenge.rw_ie0012_01.Holds := by
  exact Mine.root
