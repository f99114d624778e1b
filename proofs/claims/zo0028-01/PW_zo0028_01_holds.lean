import PyProof.Rows.All
import PyProof.ListStr
import KE.BytesMake
import KE.KNest
import Wide.FinOn
import OpenK.AllK
import Wide.All
import Lean
import PySem.Challenge.RW_zo0028_01
set_option Elab.async false
set_option compiler.extract_closed false
set_option linter.all false
section
set_option maxRecDepth 100000
open PySem PySem.W PyProof.Rows PySem.Calls PySem.Spec
namespace Mine
/-- the goal behind a variable -/
theorem cutG {G : Prop} (h : ∀ P : Prop, (G → P) → P) : G := h G id

/-- no reader of octets that holds its source -/
noncomputable def noDec : Code → Bool
  | .builtin id _ => !Builtin.Bytes.decodersThatHold.contains id
  | _ => true
noncomputable def CleanB (l : List (Code × Pos)) : Prop := ∀ x ∈ l, noDec x.1 = true

/-- as wpAny, where no such reader stands on the stack -/
noncomputable def wpC {α : Type} (M : Model) (A : Around) (t : Sem α) (Q : α → Shared → Prop) (E : Value → Shared → Prop) (s : Shared) : Prop :=
  ∀ Γ p, Γ.In A → noDec Γ.code = true → CleanB Γ.below → Sem.wp M Γ t (fun a _ s' => Q a s') (fun e _ s' => E e s') p s
noncomputable def codeC (M : Model) (A : Around) (c : Code) (R : Result → Shared → Prop) (s : Shared) : Prop :=
  ∀ Γ p, Γ.code = c → Γ.Below A → CleanB Γ.below → wpCode M Γ R p s

section
variable {α β : Type} {M : Model} {A : Around} {E : Value → Shared → Prop} {s : Shared}
theorem wpC_of {t : Sem α} {Q : α → Shared → Prop} (h : wpAny M A t Q E s) : wpC M A t Q E s := fun Γ p hΓ _ _ => h Γ p hΓ
theorem codeC_of {c : Code} {R : Result → Shared → Prop} (h : codeAny M A c R s) : codeC M A c R s := fun Γ p hc hΓ _ => h Γ p hc hΓ
theorem wpC_pure {a : α} {Q : α → Shared → Prop} (h : Q a s) : wpC M A (pure a) Q E s := fun _ _ _ _ _ => h
theorem wpC_mono {t : Sem α} {Q Q' : α → Shared → Prop} {E' : Value → Shared → Prop} (h : wpC M A t Q E s)
    (hQ : ∀ a s, Q a s → Q' a s) (hE : ∀ e s, E e s → E' e s) : wpC M A t Q' E' s :=
  fun Γ p hΓ h1 h2 => Sem.wp_mono M Γ t (fun a _ s => hQ a s) (fun e _ s => hE e s) p s (h Γ p hΓ h1 h2)
theorem wpC_bind {m : Sem α} {f : α → Sem β} {Q : β → Shared → Prop} (h : wpC M A m (fun a s' => wpC M A (f a) Q E s') E s) : wpC M A (m >>= f) Q E s :=
  fun Γ p hΓ h1 h2 => by
    rw [Sem.wp_bind']
    exact Sem.wp_mono M Γ m (fun a p' s' h' => h' Γ p' hΓ h1 h2) (fun _ _ _ h' => h') p s (h Γ p hΓ h1 h2)
/-- the first part by the library's walk -/
theorem wpC_bindA {m : Sem α} {f : α → Sem β} {Q : β → Shared → Prop} (h : wpAny M A m (fun a s' => wpC M A (f a) Q E s') E s) : wpC M A (m >>= f) Q E s := wpC_bind (wpC_of h)
theorem wpC_holding {vs : List Value} {m : Sem α} {Q : α → Shared → Prop} (h : wpC M A m Q E s) : wpC M A (holding vs m) Q E s :=
  fun Γ p hΓ h1 h2 => by rw [Sem.wp_holding]; exact h Γ p hΓ h1 h2
theorem wpC_attempt {m : Sem α} {Q : Except Value α → Shared → Prop} (h : wpC M A m (fun a => Q (.ok a)) (fun e => Q (.error e)) s) :
    wpC M A m.attempt Q E s := fun Γ p hΓ h1 h2 => by rw [Sem.wp_attempt]; exact h Γ p hΓ h1 h2
theorem wpC_onRaise {m : Sem α} {k : Value → Sem Unit} {Q : α → Shared → Prop}
    (h : wpC M A m Q (fun e s' => wpC M A (k e) (fun _ s'' => E e s'') E s') s) : wpC M A (m.onRaise k) Q E s := fun Γ p hΓ h1 h2 => by
  rw [Sem.wp_onRaise]
  exact Sem.wp_mono M Γ m (fun _ _ _ h' => h') (fun e p' s' h' => h' Γ p' hΓ h1 h2) p s (h Γ p hΓ h1 h2)
theorem wpC_standAt {pos : Pos} {Q : Unit → Shared → Prop} (h : Q () s) : wpC M A (standAt pos) Q E s := fun _ _ _ _ _ => h
theorem wpC_rule {tag : String} {Q : Unit → Shared → Prop} (h : Q () s) : wpC M A (rule tag) Q E s := fun _ _ _ _ _ => h

theorem codeC_mono {c : Code} {R R' : Result → Shared → Prop} (h : codeC M A c R s) (hR : ∀ r s, R r s → R' r s) : codeC M A c R' s :=
  fun Γ p hc hΓ h2 => wpCode_mono hR (h Γ p hc hΓ h2)
theorem cleanB_cons {c : Code} {p : Pos} {l : List (Code × Pos)} (h1 : noDec c = true) (h2 : CleanB l) : CleanB ((c, p) :: l) := by
  intro x hx
  rcases List.mem_cons.mp hx with rfl | hx
  · exact h1
  · exact h2 x hx
theorem wpC_run {c : Code} {h : Option Value} {Q : Flow → Shared → Prop}
    (hc : codeC M (A.mark h) c (fun r s' => match r with | .ok f => Q f s' | .error e => E e s') s) (hnb : h ≠ some byPass := by intro x; cases x) :
    wpC M A (run c h) Q E s :=
  fun Γ p hΓ h1 h2 => by rw [Sem.wp_run]; exact hc _ p rfl (hΓ.enter c h p hnb) (cleanB_cons h1 h2)
theorem wpC_runValue {c : Code} {Q : Value → Shared → Prop}
    (hc : codeC M A c (fun r s' => match r with | .ok (.ret v) => Q v s' | .ok _ => False | .error e => E e s') s) :
    wpC M A (runValue c) Q E s := fun Γ p hΓ h1 h2 => by rw [Sem.wp_runValue]; exact hc _ p rfl (hΓ.enter c none p (by intro x; cases x)) (cleanB_cons h1 h2)
theorem wpC_call {f : Value} {pos : List Value} {kw : List (Str × Value)} {Q : Value → Shared → Prop}
    (hc : codeC M A (.call f ⟨pos, kw⟩) (fun r s' => match r with | .ok (.ret v) => Q v s' | .ok _ => False | .error e => E e s') s) :
    wpC M A (call f pos kw) Q E s := wpC_runValue hc

theorem codeC_of_tree {c : Code} {R : Result → Shared → Prop} (hn : noDec c = true)
    (h : wpC M (A.under c) (M.den c) (fun fin s' => match fin with | .done f => R (.ok f) s' | .again c' => c'.quiet = true ∧ codeC M A c' R s')
      (fun e s' => R (.error e) s') s) : codeC M A c R s := fun Γ p hc hΓ h2 => by
  rw [wpCode_iff_wp, hc]
  refine Sem.wp_mono M Γ _ (fun fin p' s' h' => ?_) (fun _ _ _ h' => h') p s (h Γ p (hc ▸ hΓ.in) (hc ▸ hn) h2)
  cases fin with
  | done f => exact h'
  | again c' => exact ⟨h'.1, h'.2 (Γ.goto c') p' rfl (hΓ.goto c') h2⟩

theorem codeC_loop {c : Code} {R : Result → Shared → Prop} (hq : c.quiet = true) (hn : noDec c = true) (I : Nat → Shared → Prop)
    (turn : ∀ n s, I n s → wpC M (A.under c) (M.den c)
      (fun fin s' => match fin with | .done f => R (.ok f) s' | .again c' => c' = c ∧ ∃ m, m < n ∧ I m s') (fun e s' => R (.error e) s') s)
    (n : Nat) (h : I n s) : codeC M A c R s := by
  induction n using Nat.strongRecOn generalizing s with
  | ind n ih =>
    refine codeC_of_tree hn (wpC_mono (turn n s h) (fun fin s' hf => ?_) fun _ _ h' => h')
    cases fin with
    | done f => exact hf
    | again c' => obtain ⟨rfl, m, hm, hI⟩ := hf; exact ⟨hq, ih m hm hI⟩
end

section
variable {prog : Program} {w : World} {A : Around} {R : Result → Shared → Prop} {E : Value → Shared → Prop} {s : Shared}
theorem codeC_func {body : List Stmt} {env : Env}
    (h : wpC (model prog w) (A.deeper env) (execs body env) (fun f s' => R (.ok (.ret (match f with | .ret v => v | _ => .none))) s')
      (fun e s' => wpAny (model prog w) (A.deeper env) (leaving env e) (fun _ s'' => R (.error e) s'') (fun e' s'' => R (.error e') s'') s') s) :
    codeC (model prog w) A (.func body env) R s := by
  refine codeC_of_tree rfl ?_
  show wpC _ (A.deeper env) (do point; match ← (execs body env).onRaise (leaving env) with | .ret v => ret v | _ => ret .none) _ _ s
  refine wpC_bindA (wpAny_point (wpC_bind (wpC_onRaise (wpC_mono h (fun f s' h' => ?_) fun _ _ h' => wpC_of h'))))
  cases f <;> exact wpC_pure h'

theorem codeC_call_function {a : Addr} {args : Args} {o : Obj} {fd : FuncData} {body : List Stmt} (hroom : A.depth < recursionLimit)
    (ho : s.heap.get? a = some o)
    (hd' : o.data = .func fd) (hco : fd.scope.isCoroutine = false) (hgen : fd.scope.isGenerator = false) (hbody : fd.body = .stmts body) (hcd : s.heap.CodeRec fd.code fd.qualname)
    (h : wpAny (model prog w) A.in1 (bindArgs fd args) (fun binds s₁ =>
      wpAny (model prog w) A.in1 (newFunctionEnv fd.scope fd.globals fd.closure binds (fd.qualname ++ ".<locals>.") (some a) fd.code none fd.builtins)
        (fun env s₂ => s₂.heap.NoLimit ∧ codeC (model prog w) A (.func body env) R s₂) (fun e s' => R (.error e) s') s₁) (fun e s' => R (.error e) s') s) :
    codeC (model prog w) A (.call (.ref a) args) R s := by
  refine codeC_of_tree rfl (wpC_of ?_)
  show wpAny _ A.in1 (callAny (.ref a) args) _ _ s
  simp only [callAny]
  refine wpAny_bind (wpAny_load ho ?_)
  obtain ⟨c, oc, vs, tq, hc, hoc, hdc, hq⟩ := hcd
  simp only [hd', callFunction, hco, hgen, hbody, hc]
  rw [hc] at h
  refine wpAny_bind (m := field (.ref c) 1) (wpAny_field hoc hdc hq (wpAny_bind (wpAny_pure ?_)))
  exact wpAny_bind (wpAny_mono h (fun binds s₁ h₁ => wpAny_bind (wpAny_mono h₁ (fun env s₂ h₂ => wpAny_bind (wpAny_enterFrame h₂.1 hroom
    (wpAny_pure (And.intro rfl h₂.2)))) fun _ _ h' => h')) fun _ _ h' => h')

theorem codeC_builtin {id : String} {args : Args} {b : Builtin} (hn : noDec (.builtin id args) = true) (hb : entryFor table id = some b)
    (h : wpC (model prog w) (A.under (.builtin id args)) (b args)
      (fun fin s' => match fin with | .done f => R (.ok f) s' | .again c' => c'.quiet = true ∧ codeC (model prog w) A c' R s') (fun e s' => R (.error e) s') s) :
    codeC (model prog w) A (.builtin id args) R s := by
  refine codeC_of_tree hn ?_
  show wpC _ _ (match entryFor table id with | some b => b args | none => unsupported ((withoutEnding? id "#data").getD id)) _ _ s
  rw [hb]; exact h

theorem isGuard_builtin (id : String) (args : Args) : (Code.builtin id args).isGuard = guardIds.contains id := rfl
/-- nobody holds the bytearray -/
theorem wpC_exported {a : Addr} {Q : Bool → Shared → Prop} (hg : A.guards = some []) (h : Q false s) :
    wpC (model prog w) A (Builtin.Bytes.exported (.ref a)) Q E s := by
  intro Γ p hΓ h1 h2
  have hgd := hΓ.2.2.2.1 [] hg
  have hcl : CleanB ((Γ.code, p) :: Γ.below) := cleanB_cons h1 h2
  have hgs : ∀ x ∈ ((Γ.code, p) :: Γ.below), x.1.isGuard = false := by
    intro x hx
    have hnil : guardsOf ((Γ.code, p) :: Γ.below) = [] := by rw [guardsOf_cons]; exact hgd
    cases hb : x.1.isGuard with
    | false => rfl
    | true =>
      have hm : x.1 ∈ guardsOf ((Γ.code, p) :: Γ.below) := by
        unfold guardsOf
        exact List.mem_filter.mpr ⟨List.mem_map_of_mem hx, hb⟩
      rw [hnil] at hm; cases hm
  unfold Builtin.Bytes.exported
  show Sem.wp _ Γ (stack >>= fun st => pure (st.any _)) _ _ p s
  rw [Sem.wp_bind']
  show Sem.wp _ Γ (Sem.stack Sem.pure) _ _ p s
  rw [Sem.wp_stack, Sem.wp_pure]
  rw [Sem.wp_pure']
  refine cast ?_ h
  congr 1
  symm
  rw [List.any_eq_false]
  intro x hx
  have e1 := hgs x hx
  have e2 := hcl x hx
  obtain ⟨c, q⟩ := x
  dsimp only at e1 e2 ⊢
  cases c with
  | builtin id args =>
    by_cases n1 : id = "bytearray.__contains__"
    · subst n1; rw [isGuard_builtin] at e1; exact absurd e1 (by decide +kernel)
    by_cases n2 : id = "bytearray.__mod__"
    · subst n2; rw [isGuard_builtin] at e1; exact absurd e1 (by decide +kernel)
    by_cases n3 : id = "bytearray.__rmod__"
    · subst n3; rw [isGuard_builtin] at e1; exact absurd e1 (by decide +kernel)
    by_cases n4 : id = "_struct.pack_into.held"
    · subst n4; rw [isGuard_builtin] at e1; exact absurd e1 (by decide +kernel)
    by_cases n5 : id = "bytearray.find.held"
    · subst n5; rw [isGuard_builtin] at e1; exact absurd e1 (by decide +kernel)
    obtain ⟨pos, kw⟩ := args
    simp only [noDec, Bool.not_eq_true'] at e2
    delta Builtin.Bytes.exported.match_1 Builtin.Bytes.exported._sparseCasesOn_1
    dsimp only
    rw [dif_neg n1, dif_neg n2, dif_neg n3, dif_neg n4, dif_neg n5]
    cases pos with
    | nil => exact Bool.false_ne_true
    | cons v r => exact fun hx => absurd (Bool.and_eq_true_iff.mp hx).2 (by rw [e2]; exact Bool.false_ne_true)
  | _ => exact Bool.false_ne_true
end
end Mine
end

section
set_option maxRecDepth 100000
open PySem PySem.W PyProof.Rows PySem.Calls PySem.Spec
namespace Mine
namespace BF
theorem lookup_new : typeLookup (.type "bytearray") "__new__" = pure (some (.builtin "bytearray.__new__")) := by rw [typeLookup_type, builtinLookup_eq_fast]; kernel_rfl
theorem mro : mroOf (.type "bytearray") = pure [.type "bytearray", .type "object"] := by rw [mroOf_type]; kernel_rfl
theorem slot_init : Slot "bytearray" "__init__" "bytearray.__init__" :=
  .of (owner := "bytearray") (n := "__init__") (by rw [typeLookup_type, builtinLookup_eq_fast]; kernel_rfl) (by decide +kernel) (by decide +kernel) (by decide +kernel)
    (by first | exact .inl (by decide +kernel) | exact .inr (by decide +kernel)) (by rw [isSubtype_type]; kernel_rfl)
theorem sub : isSubtype (.type "bytearray") (.type "bytearray") = pure true := by rw [isSubtype_type]; kernel_rfl
theorem entry_new : entryFor table "bytearray.__new__" = some Builtin.«list.__new__» :=
  entryFor_alias (id' := "list.__new__") (by kernel_rfl) rfl (by decide +kernel) (by kernel_rfl)
theorem entry_init : entryFor table "bytearray.__init__" = some Builtin.«bytearray.__init__» := by first | exact entryFor_of_fast (by kernel_rfl) | exact entryFor_of_tree (by kernel_rfl)
theorem newCall (a : Value) : checkBuiltinCall "bytearray.__new__" ⟨[.type "bytearray", a], []⟩ = pure () := by kernel_rfl
theorem typeCall (a : Value) : checkTypeCall "bytearray" ⟨[a], []⟩ = pure () := by kernel_rfl
theorem plain_new : plainId "bytearray.__new__" = true := by decide +kernel
theorem plain_init : plainId "bytearray.__init__" = true := by decide +kernel
set_option maxRecDepth 1000000 in
set_option maxHeartbeats 4000000 in
theorem owner : (("bytearray.__new__" : String).splitOn ".__new__").headD "" = "bytearray" := by simp +decide [String.splitOn, String.splitOnAux]
theorem made : Bind.madeBy (.type "bytearray") = pure (some "bytearray.__new__") := madeBy_type mro lookup_new (by decide +kernel)
theorem noBytes : typeLookup (.type "bytearray") "__bytes__" = pure none := by rw [typeLookup_type, builtinLookup_eq_fast]; kernel_rfl
theorem noIndex : typeLookup (.type "bytearray") "__index__" = pure none := by rw [typeLookup_type, builtinLookup_eq_fast]; kernel_rfl
theorem release : typeLookup (.type "bytearray") "__release_buffer__" = pure (some (.builtin "bytearray.__release_buffer__")) := by rw [typeLookup_type, builtinLookup_eq_fast]; kernel_rfl
theorem buffer : typeLookup (.type "bytearray") "__buffer__" = pure (some (.builtin "bytearray.__buffer__")) := by rw [typeLookup_type, builtinLookup_eq_fast]; kernel_rfl
theorem bind (v : Value) : Builtin.Bytes.bindOptional "bytearray.__init__" "bytearray" ["source", "encoding", "errors"] [v] [] = pure [some v, none, none] := by kernel_rfl
theorem intIndex : typeLookup (.type "int") "__index__" = pure (some (.builtin "int.__index__")) := by rw [typeLookup_type, builtinLookup_eq_fast]; kernel_rfl
theorem dict : typeHasDict (.type "bytearray") = false := by decide +kernel
end BF
noncomputable abbrev baObj (b : Array UInt8) : Obj := { cls := .type "bytearray", data := .bytearray b }
section
variable {prog : Program} {w : World} {A : Around} {E : Value → Shared → Prop} {s : Shared}
theorem ba_newcall {a : Value} {Q : Value → Shared → Prop} (h : Q (.ref s.heap.objs.size) { s with heap := s.heap.push (baObj #[]) }) :
    wpAny (model prog w) A (call (.builtin "bytearray.__new__") [.type "bytearray", a]) Q E s := by
  refine wpAny_call (codeAny_call_builtin_own (plainId_quiet BF.plain_new _) BF.entry_new (wpAny_of_eq (BF.newCall a) ?_))
  refine wpOwn_bind (wpOwn_stack fun p below _ _ _ => ?_)
  have hsub := BF.sub
  have hown := BF.owner
  refine wpOwn_of_wpAny ?_
  obtain ⟨hp, g, d, tk, os⟩ := s
  rw [Around.under_plainId BF.plain_new _]
  simp only [hown]
  wp_walk
  exact h

theorem codeC_call_builtin {id : String} {args : Args} {R : Result → Shared → Prop} (hq : (Code.builtin id args).quiet = true)
    (h : wpAny (model prog w) A.in1 (checkBuiltinCall id args) (fun _ s₁ => codeC (model prog w) A (.builtin id args) R s₁) (fun e s' => R (.error e) s') s) :
    codeC (model prog w) A (.call (.builtin id) args) R s := by
  refine codeC_of_tree rfl (wpC_of ?_)
  show wpAny _ A.in1 (do checkBuiltinCall id args; again (.builtin id args)) _ _ s
  exact wpAny_bind (wpAny_mono h (fun _ s₁ h₁ => wpAny_pure (And.intro hq h₁)) fun _ _ h' => h')

theorem noDec_plain {id : String} {args : Args} (h : Builtin.Bytes.decodersThatHold.contains id = false) : noDec (.builtin id args) = true := by
  simp only [noDec, h, Bool.not_false]
theorem wpC_if_false {α : Type} {M : Model} {c : Bool} {a b : Sem α} {Q : α → Shared → Prop} (hc : c = false) (h : wpC M A b Q E s) : wpC M A (if c = true then a else b) Q E s := by
  subst hc
  exact h
theorem wpC_if_true {α : Type} {M : Model} {c : Bool} {a b : Sem α} {Q : α → Shared → Prop} (hc : c = true) (h : wpC M A a Q E s) : wpC M A (if c = true then a else b) Q E s := by
  subst hc
  exact h

end
end Mine
end

section
set_option maxRecDepth 100000
open PySem PySem.W PyProof.Rows PySem.Calls PySem.Spec
namespace Mine
section
variable {prog : Program} {w : World} {A : Around} {E : Value → Shared → Prop} {s : Shared}
theorem wpAny_ifN {α : Type} {M : Model} {c : Prop} [Decidable c] {x y : Sem α} {Q : α → Shared → Prop} (hc : ¬ c) (h : wpAny M A y Q E s) : wpAny M A (if c then x else y) Q E s := by rw [if_neg hc]; exact h
theorem wpAny_ifP {α : Type} {M : Model} {c : Prop} [Decidable c] {x y : Sem α} {Q : α → Shared → Prop} (hc : c) (h : wpAny M A x Q E s) : wpAny M A (if c then x else y) Q E s := by rw [if_pos hc]; exact h
theorem ba_write {a : Addr} {b : Array UInt8} {f : Array UInt8 → Array UInt8} {Q : Unit → Shared → Prop} (ho : s.heap.get? a = some (baObj b)) (hz : (f b).size ≤ sizeLine)
    (h : (s.heap.update a (Obj.mapBytearray f)).get? a = some (baObj (f b)) → Q () { s with heap := s.heap.update a (Obj.mapBytearray f) }) : wpAny (model prog w) A (Builtin.Bytes.write (.ref a) f) Q E s := by
  show wpAny _ _ (updateBytearray a f) _ _ _
  unfold updateBytearray
  refine wpAny_bind (wpAny_load ho ?_)
  show wpAny _ _ (update a (Obj.mapBytearray f) >>= fun _ => lookBehind a) _ _ _
  refine wpAny_bind (wpAny_update ho ?_)
  have h2 : (s.heap.update a (Obj.mapBytearray f)).get? a = some (baObj (f b)) := Heap.get?_update_self (Obj.mapBytearray f) ho rfl
  refine wpAny_lookBehind h2 ?_ (h h2)
  show (if (f b).size > sizeLine then some "bytearray:memory" else none) = none
  rw [if_neg (Nat.not_lt.mpr hz)]

theorem ba_init {a : Addr} {n : Int} {t : Tok} {R : Result → Shared → Prop} (hg : A.guards = some []) (h0 : 0 ≤ n) (hn : n ≤ 1000) (ho : s.heap.get? a = some (baObj #[]))
    (h : ∀ h', Heap.SameBut a s.heap h' → h'.get? a = some (baObj (Array.replicate n.toNat 0)) → R (.ok (.ret .none)) { s with heap := h' }) :
    codeC (model prog w) A (.builtin "bytearray.__init__" ⟨[.ref a, .int n t], []⟩) R s := by
  have hT : s.TypeIs (.ref a) "bytearray" := ⟨_, ho, rfl⟩
  refine codeC_builtin (noDec_plain (by decide +kernel)) BF.entry_init ?_
  rw [Around.under_plainId BF.plain_init _]
  unfold Builtin.«bytearray.__init__»
  refine wpC_bindA (m := Builtin.Bytes.ownRelease (.ref a)) ?_
  unfold Builtin.Bytes.ownRelease Builtin.Bytes.slotIsOwn
  refine wpAny_bind (wpAny_bind (wpAny_specialOf hT BF.release ?_))
  refine bm_if_false (by decide +kernel) ?_
  rw [show (("bytearray.__release_buffer__" : String).dropRight (("__release_buffer__" : String).length + 1)) = "bytearray" from by decide +kernel]
  refine wpAny_isInstance hT BF.sub ?_
  refine wpAny_pure ?_
  refine wpC_if_false rfl ?_
  refine wpC_bindA (wpAny_of_eq (BF.bind _) ?_)
  refine wpC_bindA (wpAny_of_eq (a := ()) rfl ?_)
  refine wpC_bindA (wpAny_of_eq (a := ()) rfl ?_)
  refine wpC_bind (m := Builtin.Bytes.exported (.ref a) <||> _) ?_
  refine wpC_bind (m := Builtin.Bytes.exported (.ref a)) (wpC_exported hg ?_)
  refine wpC_of ?_
  show wpAny _ _ ((do return (← Builtin.Bytes.exportsOf (.ref a)) > 0) : Sem Bool) _ _ _
  unfold Builtin.Bytes.exportsOf
  refine wpAny_bind (wpAny_bind (wpAny_load ho (wpAny_pure (wpAny_pure ?_))))
  refine wpC_if_false (by decide) ?_
  refine wpC_of ?_
  refine wpAny_bind (ba_write ho (by decide) fun h1 => ?_)
  refine wpAny_bind (wpAny_of_eq (a := none) rfl ?_)
  refine bm_if_false rfl ?_
  refine wpAny_bind (wpAny_of_eq (a := ()) rfl ?_)
  refine wpAny_bind (wpAny_specialOf (T := "int") rfl BF.intIndex ?_)
  refine bm_if_true rfl ?_
  refine wpAny_bind (wpAny_of_eq (a := .ok n) rfl ?_)
  refine bm_if_false (by simp only [Builtin.Bytes.fitsIndex, Bool.not_eq_false', Bool.and_eq_true, decide_eq_true_eq]; omega) ?_
  refine wpAny_ifN (by omega) ?_
  refine bm_if_false (by rw [beq_eq_false_iff_ne]; omega) ?_
  refine bm_if_false (by unfold Builtin.Bytes.tooLong; rw [decide_eq_false_iff_not, sizeLine_eq]; omega) ?_
  refine wpAny_bind (wpAny_rule ?_)
  have sb : Heap.SameBut a s.heap (s.heap.update a (Obj.mapBytearray fun _ => #[])) := Heap.SameBut.update ..
  by_cases hp : n > 0
  · refine wpAny_ifP hp ?_
    refine wpAny_bind (ba_write h1 (by rw [Array.size_replicate, sizeLine_eq]; omega) fun h2 => ?_)
    exact wpAny_pure (h _ (sb.trans (Heap.SameBut.update ..)) h2)
  · refine wpAny_ifN hp ?_
    have e : n.toNat = 0 := by omega
    rw [e] at h
    exact wpAny_pure (h _ sb h1)

theorem ba_call {n : Int} {t : Tok} {Q : Value → Shared → Prop} (hg : A.guards = some []) (h0 : 0 ≤ n) (hn : n ≤ 1000)
    (h : ∀ h', (∀ b o, s.heap.get? b = some o → h'.get? b = some o) → s.heap.get? s.heap.objs.size = none → h'.get? s.heap.objs.size = some (baObj (Array.replicate n.toNat 0)) → Q (.ref s.heap.objs.size) { s with heap := h' }) :
    wpC (model prog w) A (call (.type "bytearray") [.int n t]) Q E s := by
  refine wpC_call (codeC_of_tree rfl (wpC_of ?_))
  show wpAny _ _ (callAny (.type "bytearray") _) _ _ _
  refine wpAny_pure ⟨Code.quiet_builtin _ (by decide +kernel), codeC_builtin (noDec_plain (by decide +kernel)) F.entry_type_call ?_⟩
  rw [Around.under_plain (weight_type_call_type "bytearray" [.int n t] []) (units_type_call_type "bytearray" [.int n t] [])]
  unfold Builtin.«type.__call__»
  refine wpC_if_false (by decide +kernel) ?_
  refine wpC_if_false (by decide +kernel) ?_
  refine wpC_bindA (wpAny_of_eq (BF.typeCall _) ?_)
  refine wpC_bindA (wpAny_of_eq BF.mro ?_)
  refine wpC_if_false rfl ?_
  refine wpC_bindA (wpAny_of_eq BF.made ?_)
  refine wpC_bindA (wpAny_pure ?_)
  refine wpC_bindA (wpAny_holding (ba_newcall ?_))
  have hob : (s.heap.push (baObj #[])).get? s.heap.objs.size = some (baObj #[]) := Heap.get?_push_size _ rfl
  have hT : ({ s with heap := s.heap.push (baObj #[]) } : Shared).TypeIs (.ref s.heap.objs.size) "bytearray" := ⟨_, hob, rfl⟩
  refine wpC_bindA (wpAny_isInstance hT BF.sub ?_)
  refine wpC_if_false rfl ?_
  refine wpC_bind (wpC_holding ?_)
  unfold callSpecial?
  refine wpC_bindA (wpAny_specialOf hT BF.slot_init.lookup ?_)
  refine wpC_holding ?_
  refine wpC_bindA (wpAny_of_eq (BF.slot_init.bind _) ?_)
  refine wpC_bind (wpC_call (codeC_call_builtin (plainId_quiet BF.plain_init _) (BF.slot_init.check _ _ _ _ _ _ _ _ hT rfl ?_)))
  have hnone : s.heap.get? s.heap.objs.size = none := by
    cases e : s.heap.get? s.heap.objs.size with
    | none => rfl
    | some o => exact absurd (Heap.lt_size e) (Nat.lt_irrefl _)
  refine ba_init (s := { s with heap := s.heap.push (baObj #[]) }) hg h0 hn hob fun h' hs' ho' => ?_
  refine wpC_pure ?_
  refine wpC_if_false (by decide) ?_
  refine wpC_pure (h h' (fun b o e => ?_) hnone ho')
  exact hs'.extBut b o (Nat.ne_of_lt (Heap.lt_size e)) (Heap.get?_push_of_some _ e)
end
end Mine
end

section
set_option maxRecDepth 100000
open PySem PySem.W PyProof.Rows PySem.Calls PySem.Spec
namespace Mine
namespace BF
theorem slot_setitem : Slot "bytearray" "__setitem__" "bytearray.__setitem__" :=
  .of (owner := "bytearray") (n := "__setitem__") (by rw [typeLookup_type, builtinLookup_eq_fast]; kernel_rfl) (by decide +kernel) (by decide +kernel) (by decide +kernel)
    (by first | exact .inl (by decide +kernel) | exact .inr (by decide +kernel)) (by rw [isSubtype_type]; kernel_rfl)
theorem entry_setitem : entryFor table "bytearray.__setitem__" = some Builtin.«bytearray.__setitem__» := by first | exact entryFor_of_fast (by kernel_rfl) | exact entryFor_of_tree (by kernel_rfl)
end BF
section
variable {prog : Program} {w : World} {A : Around} {E : Value → Shared → Prop} {s : Shared}
theorem ba_setitem {a : Addr} {b : Array UInt8} {k x : Int} {t u : Tok} {Q : Unit → Shared → Prop} (ho : s.heap.get? a = some (baObj b)) (hk0 : 0 ≤ k) (hk : k < b.size) (hx0 : 0 ≤ x) (hx : x < 256) (hb : b.size ≤ 1000)
    (h : (s.heap.update a (Obj.mapBytearray (·.setIfInBounds k.toNat x.toNat.toUInt8))).get? a = some (baObj (b.setIfInBounds k.toNat x.toNat.toUInt8)) → Q () { s with heap := s.heap.update a (Obj.mapBytearray (·.setIfInBounds k.toNat x.toNat.toUInt8)) }) :
    wpAny (model prog w) A (setItem (.ref a) (.int k t) (.int x u)) Q E s := by
  have hT : s.TypeIs (.ref a) "bytearray" := ⟨_, ho, rfl⟩
  unfold setItem
  try with_reducible refine wpAny_holding ?_
  refine wpAny_bind (wpAny_sequenceKey hT (by decide) ?_)
  refine wpAny_bind (wpAny_callSpecial?_slot (name := Str.ofString "__setitem__") hT BF.slot_setitem
    (wpAny_call_entry BF.slot_setitem hT BF.entry_setitem ?_ (by rfl)))
  unfold Builtin.«bytearray.__setitem__»
  refine bm_if_false rfl ?_
  show wpAny _ _ (Builtin.Bytes.subscript? (.int k t) >>= _) _ _ _
  refine wpAny_bind ?_
  unfold Builtin.Bytes.subscript?
  refine wpAny_bind (wpAny_specialOf (T := "int") rfl BF.intIndex ?_)
  refine bm_if_false rfl ?_
  refine wpAny_bind (wpAny_of_eq (a := k) rfl ?_)
  refine bm_if_false (by simp only [Builtin.Bytes.fitsIndex, Bool.not_eq_false', Bool.and_eq_true, decide_eq_true_eq]; omega) ?_
  refine wpAny_pure ?_
  refine wpAny_bind ?_
  unfold Builtin.Bytes.byteValue
  refine wpAny_bind (wpAny_of_eq (a := x) rfl ?_)
  refine bm_if_false (by simp only [Bool.or_eq_false_iff, decide_eq_false_iff_not]; omega) ?_
  refine wpAny_pure ?_
  refine wpAny_bind ?_
  unfold Builtin.Bytes.payload Builtin.Bytes.payload?
  refine wpAny_bind (wpAny_bind (wpAny_load ho (wpAny_pure (wpAny_pure ?_))))
  rw [StrLaws.seqIndex_nonneg hk0 hk]
  refine wpAny_bind (ba_write ho (by rw [Array.size_setIfInBounds, sizeLine_eq]; omega) fun h2 => ?_)
  exact wpAny_pure ⟨.none, rfl, wpAny_pure (h h2)⟩

/-- bytes of a bytearray -/
theorem ba_bytes {a : Addr} {b : Array UInt8} {Q : Value → Shared → Prop} (ho : s.heap.get? a = some (baObj b)) (hb : b.size ≤ 1000)
    (h : ∀ t k, Q (.bytes b t) { s with toks := k }) :
    wpAny (model prog w) A (call (.type "bytes") [.ref a]) Q E s := by
  have hT : s.TypeIs (.ref a) "bytearray" := ⟨_, ho, rfl⟩
  refine callType_codes (Q₁ := fun obj s₁ => s₁.TypeIs obj "bytes" ∧ Q obj s₁) F.bm_called (F.bm_typeCall _) F.entry_object_init ?_ fun obj s₁ h₁ => ?_
  · refine codeAny_of_tree ?_
    show wpAny _ A.in1.in1 (do checkBuiltinCall "bytes.__new__" ⟨[.type "bytes", .ref a], []⟩; again (.builtin "bytes.__new__" ⟨[.type "bytes", .ref a], []⟩)) _ _ s
    refine wpAny_bind (wpAny_of_eq (F.bm_newCall _) (wpAny_pure ⟨plainId_quiet F.bm_plain _, codeAny_builtin F.bm_entry ?_⟩))
    rw [Around.under_plainId F.bm_plain _]
    unfold Builtin.«bytes.__new__»
    refine wpAny_bind (wpAny_of_eq (a := true) rfl ?_)
    refine bm_if_false rfl ?_
    refine wpAny_bind (wpAny_of_eq F.bm_sub ?_)
    refine bm_if_false rfl ?_
    refine wpAny_bind (wpAny_of_eq (F.bm_bind _) ?_)
    refine wpAny_bind (wpAny_of_eq (a := ()) rfl ?_)
    refine wpAny_bind (wpAny_of_eq (a := ()) rfl ?_)
    refine bm_if_false rfl ?_
    refine wpAny_bind (wpAny_specialOf hT BF.noBytes ?_)
    refine wpAny_bind (wpAny_bind ?_)
    show wpAny _ _ (load a >>= _) _ _ _
    refine wpAny_bind (wpAny_load ho ?_)
    refine wpAny_pure (wpAny_pure ?_)
    refine bm_if_false rfl ?_
    refine wpAny_bind (wpAny_specialOf hT BF.noIndex ?_)
    refine bm_if_true rfl ?_
    first
      | show wpAny _ _ (Builtin.Bytes.buffer? "bytes.__new__" (.ref a) true >>= _) _ _ _
      | (refine wpAny_bind ?_; show wpAny _ _ (Builtin.Bytes.buffer? "bytes.__new__" (.ref a) true >>= _) _ _ _)
    refine wpAny_bind ?_
    unfold Builtin.Bytes.buffer?
    refine wpAny_bind (wpAny_specialOf hT BF.buffer ?_)
    have hrel : ∀ {Q' : Bool → Shared → Prop}, Q' false s → wpAny (model prog w) A.in1.in1 (Builtin.Bytes.ownRelease (.ref a)) Q' (fun e s' => match (Except.error e : Result) with | .ok (.ret v) => v = v | .ok _ => False | .error e => E e s') s := by
      intro Q' hq
      unfold Builtin.Bytes.ownRelease Builtin.Bytes.slotIsOwn
      refine wpAny_bind (wpAny_bind (wpAny_specialOf hT BF.release ?_))
      refine bm_if_false (by decide +kernel) ?_
      rw [show (("bytearray.__release_buffer__" : String).dropRight (("__release_buffer__" : String).length + 1)) = "bytearray" from by decide +kernel]
      exact wpAny_isInstance hT BF.sub (wpAny_pure hq)
    refine wpAny_bind ?_
    unfold Builtin.Bytes.slotIsOwn
    refine wpAny_bind (wpAny_specialOf hT BF.buffer ?_)
    refine bm_if_false (by decide +kernel) ?_
    rw [show (("bytearray.__buffer__" : String).dropRight (("__buffer__" : String).length + 1)) = "bytearray" from by decide +kernel]
    refine wpAny_isInstance hT BF.sub ?_
    refine bm_if_false rfl ?_
    refine wpAny_bind (wpAny_specialOf hT BF.buffer ?_)
    refine wpAny_bind (wpAny_mono (hrel (Q' := fun r s' => r = false ∧ s' = s) ⟨rfl, rfl⟩) (fun r s' hr => ?_) fun _ _ e => e)
    obtain ⟨rfl, rfl⟩ := hr
    refine bm_if_false rfl ?_
    refine wpAny_bind ?_
    unfold Builtin.Bytes.payload Builtin.Bytes.payload?
    refine wpAny_bind (wpAny_bind (wpAny_load ho (wpAny_pure (wpAny_pure (wpAny_pure ?_)))))
    refine wpAny_bind (wpAny_rule ?_)
    refine wpAny_bind (wpAny_mkBytes ?_ (by rw [sizeLine_eq]; omega))
    show wpAny _ _ (if (Value.type "bytes" == Value.type "bytes") = true then _ else _) _ _ _
    refine bm_if_true (by decide) ?_
    first
      | exact wpAny_pure ⟨PySem.W.typeIs_bytes _ _ _, h _ _⟩
      | exact wpAny_bind (wpAny_pure (wpAny_pure ⟨PySem.W.typeIs_bytes _ _ _, h _ _⟩))
  · exact ⟨h₁.1, F.args_object_init_2 obj _, object_init_meets F.bm_called.init.lookup F.bm_called.made (by decide) prog w A.in1 _ s₁ ⟨h₁.1, rfl, h₁.2⟩⟩
end
end Mine
end

section
set_option maxRecDepth 100000
open PySem PySem.W PyProof.Rows PySem.Calls PySem.Spec
namespace Mine

/-- the law's own call stands on a clean stack -/
theorem wp_of_clean {M : Model} {t : Sem PySem.Fin} {R : Result → Shared → Prop} {s : Shared}
    (h : wpC M callerA t (fun fin s' => ∃ f, fin = .done f ∧ R (.ok f) s') (fun e s' => R (.error e) s') s) (p : Pos) :
    Sem.wp M ⟨.builtin "claim.caller" {}, none, none, [], none⟩ t (Sem.finPost M ⟨.builtin "claim.caller" {}, none, none, [], none⟩ R) (fun e _ s' => R (.error e) s') p s := by
  refine Sem.wp_mono M _ t (fun fin p' s' h' => ?_) (fun _ _ _ h' => h') p s (h _ p caller_in (by decide +kernel) (fun _ hx => nomatch hx))
  refine cutG fun PC hPC => ?_
  obtain ⟨f, rfl, hf⟩ := h'
  refine hPC ?_
  clear hPC PC
  exact hf

theorem callFromC {c : ClaimW} {tree : List Value → Sem PySem.Fin} {w : World} {s : Shared} {free : Addr → Prop} {gens : Prop} {kept : Heap → Prop} (hz : s.asleep) (hgens : s.gens = #[])
    (hspec : ∀ args, c.pre args = true → WData.layableAll args = true → ∀ ord : List DictEntry → List DictEntry, (∀ l, (ord l).Perm l) →
      ∃ vs s₁, layAllW c.records (classAt s.heap) w.params ord args s = some (vs, s₁) ∧
        wpC (model c.prog w) callerA (tree vs) (fun fin s' => ∃ f, fin = .done f ∧ (c.Ends s args vs s₁ (.ok f) s' ∧ s'.os = s.os ∧ AllBare s'.gens ∧ kept s'.heap))
          (fun e s' => c.Ends s args vs s₁ (.error e) s' ∧ s'.os = s.os ∧ AllBare s'.gens ∧ kept s'.heap) s₁) :
    c.CallFrom (fun vs => ⟨tree vs, .builtin "claim.caller" {}, default, []⟩) w free gens kept s := by
  intro args hpre hlay ord hord
  refine cutG fun PC hPC => ?_
  obtain ⟨vs, s₁, hlaid, hcode⟩ := hspec args hpre hlay ord hord
  refine hPC ?_
  clear hPC PC
  have hal := layAllW_rest _ _ _ hlaid
  have hfull := wp_halts_full (M := model c.prog w) (R := fun r s' => c.Ends s args vs s₁ r s' ∧ s'.os = s.os ∧ kept s'.heap) (s := s₁) (t := tree vs)
    (Shared.asleep_of_life hal.2.2.2 hz)
    (wp_of_clean (R := fun r s' => (c.Ends s args vs s₁ r s' ∧ s'.os = s.os ∧ kept s'.heap) ∧ leftWithCleanup s'.gens = false)
      (wpC_mono hcode (fun fin s' ⟨f, e, h1, h2, h3, h4⟩ => ⟨f, e, ⟨h1, h2, h4⟩, leftWithCleanup_false_of_bare h3⟩)
        (fun e s' ⟨h1, h2, h3, h4⟩ => ⟨⟨h1, h2, h4⟩, leftWithCleanup_false_of_bare h3⟩)) default)
  refine cutG fun PC hPC => ?_
  obtain ⟨k, r, s'', s', hsched, hrun, hfo, hcase, hos, hkp⟩ := hfull
  refine hPC ?_
  clear hPC PC
  refine cutG fun PC hPC => ?_
  obtain ⟨eh, _, _, eo, _⟩ := Shared.forget_eq hfo
  refine hPC ?_
  clear hPC PC
  have hcase := hcase.congr eh
  have hkp : kept s'.heap := by first | exact eh ▸ hkp | (rw [eh] at hkp; exact hkp) | (rw [← eh] at hkp; exact hkp)
  rw [← eo] at hos
  have hlife : s'.heap.life = s.heap.life := (runN_life _ _ _ hrun).trans hal.2.2.2
  refine ⟨vs, s₁, hlaid, k, _, s', hsched, ?_, (fun _ i x hx => by rw [hgens] at hx; simp at hx), hkp, by rw [hlife], Shared.rest_eq hos⟩
  rcases hcase with ⟨v, rfl, d1, d2, d3, d4, d5⟩ | ⟨e, ob, cls, rfl, d1, d2, d3, d4, d5⟩
  · exact .inl ⟨v, rfl, d1, d2, d3, fun b o y _ => d4 b o y, d5⟩
  · exact .inr ⟨e, ob, cls, rfl, d1, d2, d3, d4, fun b o y _ => d5 b o y⟩

/-- what is left behind the head: the law's call, on a clean stack -/
noncomputable abbrev WalkC (q : Program) (loose : List Str) (XP : (Str → Option Value) → Heap → Prop) (YP : World → Heap → Prop) (r : RowW) (d : DefRec) (kwd : List (Str × PySem.Expr)) : Prop :=
  ∀ (w : World) (s₀ s₁ : Shared) (mg mb : Str → Option Value), Ground q loose r.records XP w s₀ mg mb s₁.heap → YP w s₁.heap → ∀ (a : Addr) (o : Obj) (pm cd doc dV kV : Value), s₁.heap.get? a = some o →
    o.data = .func { docDef d.name d.params d.body d.scope pm cd doc with defaults := dV, kwdefaults := kV } → s₁.heap.CodeRec cd d.name → Dflts mg s₁.heap d.params kwd dV kV → mg d.name = some (.ref a) → s₁.gens = #[] →
    ∀ (args : List WData) (vals : List Value) (as : List Addr), r.claim.pre args = true → WData.layableAll args = true → ReadsAllW r.records (classAt s₀.heap) s₁.heap vals args as → WellAll w.params s₁.heap vals args → (∀ a ∈ as, (a == sysModules) = false) →
      wpC (model r.prog w) callerA (PySem.call (.ref a) vals) (fun v s' => GoodWG r.claim (classAt s₀.heap) (ExcName.means s₀.heap) args s₁ (.ok (.ret v)) s')
        (fun e s' => GoodWG r.claim (classAt s₀.heap) (ExcName.means s₀.heap) args s₁ (.error e) s') s₁

/-- the head's lemma for a call on a clean stack; the head's line finds it by its name -/
theorem PySem.W.holds_open {r : OpenRow} {q : Program} {loose : List Str} {Xt : Shared → Bool} {XP : (Str → Option Value) → Heap → Prop} {α : Type} {Yf : Shared → α} {Ya : World → α} {YP : World → Heap → Prop} {d : DefRec} {kwd : List (Str × PySem.Expr)} {N : Nat}
    (left : LeftO r.prog q loose Xt Yf Ya N) (hY : ∀ w s, Yf s = Ya w → YP w s.heap) (hYk : ∀ w h h', YP w h → (∀ b o, h.get? b = some o → h'.get? b = some o) → YP w h')
    (hX : ∀ s, Xt s = true → XP (s.heap.nsMap mainGlobals) s.heap) (hXk : ∀ mg h h', XP mg h → (∀ b o, h.get? b = some o → h'.get? b = some o) → XP mg h')
    (hdef : defOf q r.name = some (d, kwd)) (hp : r.prog.theDef r.name = some (d.params, d.body, d.scope)) (hk : kwWritten? d.params.kwonlyargs d.params.kw_defaults = some kwd) (hRf : ∀ s, Xt s = true → RecFacts r.records s.heap) (hwr : (!r.writes || r.records.isEmpty) = true)
    (k1 : r.wellSaid = true) (ok : (chainsOk q && opensWell r.prog && (frees r.toRowW && r.within.isEmpty)) = true) (hb : r.prog.bare) (hw : r.toRowW.promised)
    (call : WalkC q loose XP YP r.toRowW d kwd) : r.Holds := by
  obtain ⟨ok, k5⟩ := Bool.and_eq_true_iff.mp ok
  obtain ⟨hch, o1⟩ := Bool.and_eq_true_iff.mp ok
  obtain ⟨k5, k6⟩ := Bool.and_eq_true_iff.mp k5
  refine cutG fun PC hPC => ?_
  obtain ⟨hsame, hu, ha, hap, hm⟩ := frees_parts k5
  refine hPC ?_
  clear hPC PC
  refine ⟨k1, hw, ⟨hb, o1, by show r.makers.map _ = []; rw [hm]; rfl⟩, hw.witness, fun w => ⟨(left.behind hX hch w).1, fun s' hs' => ?_⟩⟩
  refine cutG fun PC hPC => ?_
  obtain ⟨s₀, hf, hg0, s, hT, hz, hgens, hg, G00, y⟩ := (left.behind (XP := fun mg h => XP mg h ∧ RecFacts r.records h) (fun s hs => ⟨hX s hs, hRf s hs⟩) hch w).2 s' hs'
  refine hPC ?_
  clear hPC PC
  have G0 : Ground q loose [] XP w s (s.heap.nsMap mainGlobals) (s.heap.nsMap builtinsNs) s.heap := ⟨G00.T, G00.B, G00.D, G00.TE, G00.TD, G00.W, G00.X.1, G00.cls, G00.has, G00.apart, G00.once, G00.K⟩
  have RF := G00.X.2
  have pin : ∀ n ∈ (if r.pinned then [r.name] else []), isTheDefsW r.prog s.heap n := fun n hn => by
    obtain rfl : n = r.name := by split at hn <;> simp_all
    exact pinned_of_view hg G0 hdef hp hk
  refine ⟨s₀, hf, hg0, s, hT, pin, RF.1, RF.2.1, ?_⟩
  have hgens : s.gens = #[] := Array.eq_empty_of_size_eq_zero (beq_iff_eq.mp hgens)
  have G : Ground q loose r.records XP w s _ _ s.heap := RF.ground G0
  refine callFromC (c := r.toRowW.claim) (tree := fun vs => do match ← nsGet mainNs r.name with
      | some f => do ret (← PySem.call f vs)
      | none => unsupported "claim.caller:no-such-global") hz hgens fun args hpre hlay ord hord => ?_
  refine cutG fun PC hPC => ?_
  obtain ⟨⟨vs, s₁⟩, hlaid⟩ := Option.isSome_iff_exists.mp (layAllW_isSome (P := w.params) (ord := ord) G.has args r.args s (pre_splitW hpre).1)
  refine hPC ?_
  clear hPC PC
  have keeps := layAllW_keeps _ _ _ hlaid
  have hal := layAllW_rest _ _ _ hlaid
  refine cutG fun PC hPC => ?_
  obtain ⟨as, hrd, hin, hold⟩ := reads_layAllW hord _ _ _ hlaid hlay s₁.heap (fun _ _ e => e)
  refine hPC ?_
  clear hPC PC
  have L : Laid r.records w s s₁ args vs as := ⟨⟨ord, hord, hlaid⟩, hrd, hin, hold, keeps, hal.1.trans hgens, hal.2.2.1⟩
  have G₁ := G.keeps hXk keeps
  refine cutG fun PC hPC => ?_
  obtain ⟨a, o, pm, cd, doc, dV, kV, h1, h2, h3, h4, h5⟩ := G₁.fn hdef
  refine hPC ?_
  clear hPC PC
  have h := call w s s₁ _ _ G₁ (hYk _ _ _ (hY w s y) keeps) a o pm cd doc dV kV h2 h3 h4 h5 (defOf_name hdef ▸ h1) L.gens args vs as hpre hlay L.reads L.well (L.low G.low)
  have hi := ident_freeW hu ha hap
  have hwi : r.toRowW.claim.within = [] := List.isEmpty_iff.mp k6
  refine ⟨vs, s₁, hlaid, wpC_bindA (wpAny_nsGet G₁.T.g ?_)⟩
  rw [h1]
  refine wpC_bind (wpC_mono h (fun v s' g => wpC_pure ⟨_, rfl, ?_⟩) fun e s' g => ?_)
  · have z := g.laid (c := r.toRowW.claim) hsame hwi hi L
    exact ⟨z.1, z.2.1, z.2.2, fun q => ⟨namesKept_of hT hg r.keeps keeps g.2.1.old, noTable hwr q⟩⟩
  · have z := g.laid (c := r.toRowW.claim) hsame hwi hi L
    exact ⟨z.1, z.2.1, z.2.2, fun q => ⟨namesKept_of hT hg r.keeps keeps g.2.1.old, noTable hwr q⟩⟩
end Mine
end

section
open PySem PySem.W PyProof.Rows
namespace Mine
noncomputable def Got (_ : Prop) (P : Prop) : Prop := P
namespace Pre
theorem PySem.W.holds_open {r : OpenRow} {q : Program} {loose : List Str} {Xt : Shared → Bool} {XP : (Str → Option Value) → Heap → Prop} {α : Type} {Yf : Shared → α} {Ya : World → α} {YP : World → Heap → Prop} {d : DefRec} {kwd : List (Str × PySem.Expr)} {N : Nat} {W : Prop}
    (_ : ∀ _ : World, true = true) (_ : ∀ w s, Yf s = Ya w → YP w s.heap) (_ : ∀ w h h', YP w h → (∀ b o, h.get? b = some o → h'.get? b = some o) → YP w h')
    (_ : ∀ s, Xt s = true → XP (s.heap.nsMap mainGlobals) s.heap) (_ : ∀ mg h h', XP mg h → (∀ b o, h.get? b = some o → h'.get? b = some o) → XP mg h')
    (_ : defOf q r.name = some (d, kwd)) (_ : r.prog.theDef r.name = some (d.params, d.body, d.scope)) (_ : kwWritten? d.params.kwonlyargs d.params.kw_defaults = some kwd) (_ : ∀ s, Xt s = true → RecFacts r.records s.heap) (_ : true = true)
    (h : Got W r.Holds) (_ : True) (_ : W = WalkC q loose XP YP r.toRowW d kwd ∧ N = N ∧ N = N ∧ N = N ∧ N = N ∧ True) (_ : N = N) (_ : N = N) : r.Holds := h
set_option maxRecDepth 100000 in
set_option maxHeartbeats 8000000 in
noncomputable def hc : Prop := by
  refine' (?f : ∀ W : Prop, (Got W PySem.Challenge.rw_zo0028_01.row.Holds → PySem.Challenge.rw_zo0028_01.row.Holds) → Prop) _ ?h
  case h =>
    intro hx
    w_on
    k_head
    (case hw => rfl)
    rfl
  case f => exact fun W _ => W
end Pre
namespace Two
theorem PySem.W.holds_open {r : OpenRow} {q : Program} {loose : List Str} {Xt : Shared → Bool} {XP : (Str → Option Value) → Heap → Prop} {α : Type} {Yf : Shared → α} {Ya : World → α} {YP : World → Heap → Prop} {d : DefRec} {kwd : List (Str × PySem.Expr)} {N : Nat} {W : Prop}
    (left : LeftO r.prog q loose Xt Yf Ya N) (hY : ∀ w s, Yf s = Ya w → YP w s.heap) (hYk : ∀ w h h', YP w h → (∀ b o, h.get? b = some o → h'.get? b = some o) → YP w h')
    (hX : ∀ s, Xt s = true → XP (s.heap.nsMap mainGlobals) s.heap) (hXk : ∀ mg h h', XP mg h → (∀ b o, h.get? b = some o → h'.get? b = some o) → XP mg h')
    (hdef : defOf q r.name = some (d, kwd)) (hp : r.prog.theDef r.name = some (d.params, d.body, d.scope)) (hk : kwWritten? d.params.kwonlyargs d.params.kw_defaults = some kwd) (hRf : ∀ s, Xt s = true → RecFacts r.records s.heap) (hwr : (!r.writes || r.records.isEmpty) = true)
    (k1 : r.wellSaid = true ∧ W) (ok : (chainsOk q && opensWell r.prog && (frees r.toRowW && r.within.isEmpty)) = true) (hb : r.prog.bare) (hw : r.toRowW.promised)
    (call : W → WalkC q loose XP YP r.toRowW d kwd) : r.Holds :=
  Mine.PySem.W.holds_open left hY hYk hX hXk hdef hp hk hRf hwr k1.1 ok hb hw (call k1.2)
theorem hcT.tw10362259703633288035 : True := trivial
theorem hcT.tw10401625282588258491 : True := trivial
theorem hcT.tw10478406751826494217 : True := trivial
theorem hcT.tw10553341632385582487 : True := trivial
theorem hcT.tw10586467144268906367 : True := trivial
theorem hcT.tw10637976288928513206 : True := trivial
theorem hcT.tw10664493757198440868 : True := trivial
theorem hcT.tw10716806264352933964 : True := trivial
theorem hcT.tw10801785671918624884 : True := trivial
theorem hcT.tw10943445721452333884 : True := trivial
theorem hcT.tw11013426613997820966 : True := trivial
theorem hcT.tw11046452470989751415 : True := trivial
theorem hcT.tw11063249813491983356 : True := trivial
theorem hcT.tw11156146057556878999 : True := trivial
theorem hcT.tw11169085602192118945 : True := trivial
theorem hcT.tw11304033011763392045 : True := trivial
theorem hcT.tw1134653134936803974 : True := trivial
theorem hcT.tw11480398876705390881 : True := trivial
theorem hcT.tw11533594895598850395 : True := trivial
theorem hcT.tw11773512952978685463 : True := trivial
theorem hcT.tw12216309394493490900 : True := trivial
theorem hcT.tw1221771001574779605 : True := trivial
theorem hcT.tw12556691450451745537 : True := trivial
theorem hcT.tw13260846774469724339 : True := trivial
theorem hcT.tw13553122382982340483 : True := trivial
theorem hcT.tw13743386373089293877 : True := trivial
theorem hcT.tw13947063837059108933 : True := trivial
theorem hcT.tw13953770199533531746 : True := trivial
theorem hcT.tw14546616171655950792 : True := trivial
theorem hcT.tw14551318065901892934 : True := trivial
theorem hcT.tw14642826809062756386 : True := trivial
theorem hcT.tw14656913739164644743 : True := trivial
theorem hcT.tw15105409791043147540 : True := trivial
theorem hcT.tw15152201305821786764 : True := trivial
theorem hcT.tw16354220689791393923 : True := trivial
theorem hcT.tw16576234870836978518 : True := trivial
theorem hcT.tw1665504338254266267 : True := trivial
theorem hcT.tw16666698586165050954 : True := trivial
theorem hcT.tw1672303264140120398 : True := trivial
theorem hcT.tw16743594337328551045 : True := trivial
theorem hcT.tw16768249453261519463 : True := trivial
theorem hcT.tw17070219397106161520 : True := trivial
theorem hcT.tw17100429318909593927 : True := trivial
theorem hcT.tw17224848971087137545 : True := trivial
theorem hcT.tw17382160788661157606 : True := trivial
theorem hcT.tw17437603721197269133 : True := trivial
theorem hcT.tw1767371645662591859 : True := trivial
theorem hcT.tw17733224008728467370 : True := trivial
theorem hcT.tw17778448825971305264 : True := trivial
theorem hcT.tw17813176294434373602 : True := trivial
theorem hcT.tw18123033522982279274 : True := trivial
theorem hcT.tw18366130302776128652 : True := trivial
theorem hcT.tw18416993982482485818 : True := trivial
theorem hcT.tw18426503007075579760 : True := trivial
theorem hcT.tw1968134715360715628 : True := trivial
theorem hcT.tw2256210780870109534 : True := trivial
theorem hcT.tw2285710031063098830 : True := trivial
theorem hcT.tw2293395652608499860 : True := trivial
theorem hcT.tw2487741990491627914 : True := trivial
theorem hcT.tw3438511709347739366 : True := trivial
theorem hcT.tw3763719630478121806 : True := trivial
theorem hcT.tw379837719212620659 : True := trivial
theorem hcT.tw3935426118778188532 : True := trivial
theorem hcT.tw4012333059588278437 : True := trivial
theorem hcT.tw4043020256846506315 : True := trivial
theorem hcT.tw4067609599308872489 : True := trivial
theorem hcT.tw4118289092596064720 : True := trivial
theorem hcT.tw4129200283201049948 : True := trivial
theorem hcT.tw4260014010453699578 : True := trivial
theorem hcT.tw4317212250784118804 : True := trivial
theorem hcT.tw4338749578149453720 : True := trivial
theorem hcT.tw4660894474757195301 : True := trivial
theorem hcT.tw4777490725064650755 : True := trivial
theorem hcT.tw496228329975209889 : True := trivial
theorem hcT.tw5179741066973277731 : True := trivial
theorem hcT.tw5191135709191263360 : True := trivial
theorem hcT.tw5240465993152545787 : True := trivial
theorem hcT.tw5309022553298796733 : True := trivial
theorem hcT.tw5466295944091115812 : True := trivial
theorem hcT.tw5491420417996726287 : True := trivial
theorem hcT.tw5535588258485205661 : True := trivial
theorem hcT.tw5577244592568036587 : True := trivial
theorem hcT.tw5732330617841271018 : True := trivial
theorem hcT.tw6063330432904074123 : True := trivial
theorem hcT.tw6074110187582046192 : True := trivial
theorem hcT.tw6123564969697490165 : True := trivial
theorem hcT.tw6167054816000308402 : True := trivial
theorem hcT.tw6242906853918776088 : True := trivial
theorem hcT.tw6319458066037479939 : True := trivial
theorem hcT.tw6459031061249507146 : True := trivial
theorem hcT.tw6574404679503317000 : True := trivial
theorem hcT.tw6607252599874727722 : True := trivial
theorem hcT.tw6692572385667273291 : True := trivial
theorem hcT.tw7046669950720064039 : True := trivial
theorem hcT.tw7107650986930829432 : True := trivial
theorem hcT.tw7222177346063225005 : True := trivial
theorem hcT.tw7322103867912485629 : True := trivial
theorem hcT.tw7333212294107988816 : True := trivial
theorem hcT.tw7457557560566432917 : True := trivial
theorem hcT.tw7608623419670583656 : True := trivial
theorem hcT.tw8015792506847791661 : True := trivial
theorem hcT.tw8161282242572815916 : True := trivial
theorem hcT.tw8177559620000434530 : True := trivial
theorem hcT.tw8223547375680129895 : True := trivial
theorem hcT.tw833436228047405500 : True := trivial
theorem hcT.tw8351537688602400445 : True := trivial
theorem hcT.tw8535524238297349039 : True := trivial
theorem hcT.tw8691313383464869364 : True := trivial
theorem hcT.tw898216375389092134 : True := trivial
theorem hcT.tw9050696599874891471 : True := trivial
theorem hcT.tw9081332137722219496 : True := trivial
theorem hcT.tw9170635252589781081 : True := trivial
theorem hcT.tw9202382136403117561 : True := trivial
theorem hcT.tw9251042436763378408 : True := trivial
theorem hcT.tw9505771306175093921 : True := trivial
theorem hcT.tw9608763849317565131 : True := trivial
theorem hcT.tw9621766156301457729 : True := trivial
theorem hcT.tw9822463900301528015 : True := trivial
theorem hcT.tw9872398515597255127 : True := trivial
set_option Elab.async true in
set_option maxRecDepth 100000 in
set_option maxHeartbeats 8000000 in
theorem hcT : Pre.hc → PySem.Challenge.rw_zo0028_01.Holds := by
  intro h
  w_on
  o_law
  rename_i said
  have both : PySem.Challenge.rw_zo0028_01.row.wellSaid = true ∧ Pre.hc := ⟨said, h⟩
  k_head
  (case hw => w_witness2)
  exact id
theorem waited : True := trivial
end Two
end Mine
end

local macro_rules | `(tactic| omega) => `(tactic| lia)
local macro_rules | `(tactic| k_room) => `(tactic| ((try simp only [PyProof.Rows.depth_under_make, PySem.W.depth_under_kw, PySem.W.depth_in1, PyProof.Rows.depth_deeper, PyProof.Rows.depth_caller] at *); (try dsimp only at *); (simp only [PySem.recursionLimit] at *); omega))
section
set_option maxRecDepth 100000
open PySem PySem.W PyProof.Rows PySem.Calls PySem.Spec
namespace Mine

/-- all old objects stand -/
noncomputable abbrev Sub (h h' : Heap) : Prop := ∀ b o, h.get? b = some o → h'.get? b = some o

/-- the surroundings of a call, handled none -/
noncomputable abbrev AR (dp un : Nat) (fr : Option (List Env)) (gd : Option (List Code)) : Around := { handled := none, depth := dp, frames := fr, guards := gd, units := un }

/-- a contract: wherever K and Top stand, the call ends, what stood stands, the result is told by Out -/
noncomputable def Pur (prog : Program) (w : World) (K : Frag) (f : Addr) (vs : List Value) (pre : Heap → Prop) (dn un : Nat) (Out : Heap → Value → Heap → Prop) : Prop :=
  ∀ (p : Program) (loose : List Str) (mean : ExcName → Option Value) (mg mb : Str → Option Value)
    (dp u : Nat) (fr : Option (List Env)) (gd : Option (List Code)) (s : Shared) (Q E : Value → Shared → Prop),
    K.In s.heap → Top p loose mean mg mb s.heap → dp + dn < recursionLimit → u + un < cLine → pre s.heap →
    (∀ r h' tk', Sub s.heap h' → Out s.heap r h' → Q r { s with heap := h', toks := tk' }) →
    wpAny (model prog w) (AR dp u fr gd) (call (.ref f) vs) Q E s

section
variable {prog : Program} {w : World} {A : Around} {s : Shared} {p : Program} {loose : List Str} {mean : ExcName → Option Value} {mg mb : Str → Option Value} {K : Frag}
  {R : Result → Shared → Prop} {name qual : Str} {params : Arguments} {body : List Stmt} {scope : Scope} {dV kV doc pm cdv ct oc : Value} {an od : Option Addr} {osl : Array (Option Value)} {f : Addr} {args : Args} {binds : List (Str × Value)}

/-- into a def without cells of its own; the ground is the whole heap -/
theorem enterP (X : K.In s.heap) (T : Top p loose mean mg mb s.heap)
    (ho : K.lookup f = some ⟨oc, od, .func (fnOf name qual params body scope dV kV doc pm an cdv ct), osl⟩) (hcd : codeIn K cdv qual = true) (hroom : A.depth < recursionLimit)
    (hbind : BindsTo s (fnOf name qual params body scope dV kV doc pm an cdv ct) args binds) (hloc : ∀ y ∈ binds, scope.names.lookup y.1 = some .local)
    (h : ∀ g L' h₁, g = s.heap → Fr g L' h₁ (fun y => binds.reverse.lookup y) → News g L' h₁ [] → K.In g → Top p loose mean mg mb g →
      wpAny (model prog w) (A.deeper (envOf qual scope L' f cdv)) (execs body (envOf qual scope L' f cdv))
        (fun fl s' => R (.ok (.ret (match fl with | .ret v => v | _ => .none))) s')
        (fun e s' => wpAny (model prog w) (A.deeper (envOf qual scope L' f cdv)) (leaving (envOf qual scope L' f cdv) e) (fun _ s'' => R (.error e) s'') (fun e' s'' => R (.error e') s'') s')
        { s with heap := h₁, toks := s.toks + binds.length })
    (hco : scope.isCoroutine = false) (hgen : scope.isGenerator = false) (hk : scope.kind = .function)
    (hcell : ∀ x ∈ scope.names, x.2 ≠ .cell) : codeAny (model prog w) A (.call (.ref f) args) R s :=
  codeAny_call_def (fd := fnOf name qual params body scope dV kV doc pm an cdv ct) (body := body) (binds := binds) hroom (X _ _ ho) rfl T.nolimit (codeRec_of X hcd) rfl hbind hcell hloc
    (fun h₁ hns hk₁ => h s.heap s.heap.objs.size h₁ rfl ⟨hns, fun b o e => hk₁ b o e, Nat.le_refl _⟩ (fun _ hp => nomatch hp) X T) hco hgen hk

/-- into a def with cells of its own -/
theorem enterC (X : K.In s.heap) (T : Top p loose mean mg mb s.heap)
    (ho : K.lookup f = some ⟨oc, od, .func (fnOf name qual params body scope dV kV doc pm an cdv ct), osl⟩) (hcd : codeIn K cdv qual = true) (hroom : A.depth < recursionLimit)
    (hbind : BindsTo s (fnOf name qual params body scope dV kV doc pm an cdv ct) args binds) (hkind : (binds.all fun y => scope.names.lookup y.1 == some .local || scope.names.lookup y.1 == some .cell) = true)
    (hnd : ((cellsFrom 0 scope.names []).map (·.1)).Nodup)
    (h : ∀ g L' h₁ tk cells, g = s.heap → Fr g L' h₁ (bindL (envOfC qual scope L' f cdv).kindOf binds fun _ => none) → News g L' h₁ cells →
      CellsAre (bindC (envOfC qual scope L' f cdv).kindOf binds fun _ => none) (cellsFrom (L' + 1) scope.names []) cells → K.In g → Top p loose mean mg mb g →
      wpAny (model prog w) (A.deeper (envOfC qual scope L' f cdv)) (execs body (envOfC qual scope L' f cdv))
        (fun fl s' => R (.ok (.ret (match fl with | .ret v => v | _ => .none))) s')
        (fun e s' => wpAny (model prog w) (A.deeper (envOfC qual scope L' f cdv)) (leaving (envOfC qual scope L' f cdv) e) (fun _ s'' => R (.error e) s'') (fun e' s'' => R (.error e') s'') s')
        { s with heap := h₁, toks := tk })
    (hco : scope.isCoroutine = false) (hgen : scope.isGenerator = false) (hk : scope.kind = .function) : codeAny (model prog w) A (.call (.ref f) args) R s := by
  refine codeAny_call_function hroom (X _ _ ho) rfl hco hgen rfl (codeRec_of X hcd) (hbind _ _ _ _ ?_)
  refine wpAny_newFunctionEnv_cells hk (kindsX hkind _) fun env' he s' x => ?_
  subst he
  refine ⟨T.nolimit.keeps x.toInCall.keep, codeAny_func ?_⟩
  obtain ⟨h₁, tk, rfl, _⟩ := x.done
  have hk₁ := x.toInCall.keep
  obtain ⟨cells, NC, Y⟩ := Cl.news (h₀ := s.heap) (Nat.le_refl _) fun n c hm => ⟨x.cell n c (lookup_of_mem_nodup (cellsFrom_names scope.names 0 (s.heap.objs.size + 1) [] [] rfl ▸ hnd) hm), x.above n c hm⟩
  exact h s.heap s.heap.objs.size h₁ tk cells rfl ⟨x.toInCall.ns, fun b o e => hk₁ b o e, Nat.le_refl _⟩ NC Y X T
end
end Mine
namespace Mine
section
variable {prog : Program} {w : World} {K : Frag} {f : Addr} {vs : List Value} {pre : Heap → Prop} {dn un : Nat} {Out : Heap → Value → Heap → Prop}
  {p : Program} {loose : List Str} {mean : ExcName → Option Value} {mg mb : Str → Option Value}
  {dp u : Nat} {fr : Option (List Env)} {gd : Option (List Code)} {s : Shared} {Q E : Value → Shared → Prop} {g : Heap} {L : Addr} {m : Str → Option Value} {news : List (Addr × Obj)}

/-- the call by its contract, from a frame with a ledger -/
theorem use_pur (C : Pur prog w K f vs pre dn un Out) (F : Fr g L s.heap m) (N : News g L s.heap news) (X : K.In g) (T : Top p loose mean mg mb g)
    (hd : dp + dn < recursionLimit) (hu : u + un < cLine) (hp : pre s.heap)
    (ret : ∀ r h' tk', Fr g L h' m → News g L h' news → Sub s.heap h' → Out s.heap r h' → Q r { s with heap := h', toks := tk' }) :
    wpAny (model prog w) (AR dp u fr gd) (call (.ref f) vs) Q E s :=
  C p loose mean mg mb dp u fr gd s Q E (X.keeps F.keep) (T.keeps F.keep) hd hu hp
    fun r h' tk' hs ho => ret r h' tk' (Fr.keeps F hs) (News.grown N hs) hs ho

noncomputable abbrev OutI (v : Int) : Heap → Value → Heap → Prop := fun _ r _ => ∃ t, r = .int v t
noncomputable abbrev OutS (v : Str) : Heap → Value → Heap → Prop := fun _ r _ => ∃ t, r = .str v t
noncomputable abbrev NoPre : Heap → Prop := fun _ => True
theorem outI {a b : Int} {t : Tok} {h h' : Heap} (e : a = b) : OutI b h (.int a t) h' := ⟨t, e ▸ rfl⟩
theorem outS {a b : Str} {t : Tok} {h h' : Heap} (e : a = b) : OutS b h (.str a t) h' := ⟨t, e ▸ rfl⟩

theorem use_int {v : Int} (C : Pur prog w K f vs pre dn un (OutI v)) (F : Fr g L s.heap m) (N : News g L s.heap news) (X : K.In g) (T : Top p loose mean mg mb g)
    (hd : dp + dn < recursionLimit) (hu : u + un < cLine) (hp : pre s.heap)
    (ret : ∀ h' tk' t', Fr g L h' m → News g L h' news → Sub s.heap h' → Q (.int v t') { s with heap := h', toks := tk' }) :
    wpAny (model prog w) (AR dp u fr gd) (call (.ref f) vs) Q E s :=
  use_pur C F N X T hd hu hp fun _ h' tk' F' N' hs ⟨t', e⟩ => e ▸ ret h' tk' t' F' N' hs
theorem use_str {v : Str} (C : Pur prog w K f vs pre dn un (OutS v)) (F : Fr g L s.heap m) (N : News g L s.heap news) (X : K.In g) (T : Top p loose mean mg mb g)
    (hd : dp + dn < recursionLimit) (hu : u + un < cLine) (hp : pre s.heap)
    (ret : ∀ h' tk' t', Fr g L h' m → News g L h' news → Sub s.heap h' → Q (.str v t') { s with heap := h', toks := tk' }) :
    wpAny (model prog w) (AR dp u fr gd) (call (.ref f) vs) Q E s :=
  use_pur C F N X T hd hu hp fun _ h' tk' F' N' hs ⟨t', e⟩ => e ▸ ret h' tk' t' F' N' hs
end

/-- in how many ways the part's letters stand in the text in this order -/
noncomputable def ways : List Nat → List Nat → Int
  | _, [] => 1
  | [], _ :: _ => 0
  | c :: t, p :: ps => (if c = p then ways t ps else 0) + ways t (p :: ps)
end Mine
end

section
set_option maxRecDepth 100000
open PySem PySem.W PyProof.Rows PySem.Calls PySem.Spec
namespace Mine

noncomputable def mkS (l : List Nat) : Str := ⟨l.toArray⟩
theorem mkS_len (l : List Nat) : (mkS l).length = l.length := rfl
theorem mkS_cps (l : List Nat) : (mkS l).cps.toList = l := rfl
theorem mk_of (x : Str) : x = mkS x.cps.toList := rfl
theorem mkS_inj {a b : List Nat} (h : mkS a = mkS b) : a = b := by
  have := congrArg (fun x : Str => x.cps.toList) h
  exact this
theorem mkS_append (a b : List Nat) : mkS a ++ mkS b = mkS (a ++ b) := by
  apply Str.ext'
  show (a.toArray ++ b.toArray) = (a ++ b).toArray
  simp

/-- every c by r -/
noncomputable def repl (c : Nat) (r : List Nat) (l : List Nat) : List Nat := l.flatMap fun a => if a = c then r else [a]
theorem repl_free (c : Nat) (r : List Nat) : ∀ l : List Nat, c ∉ l → repl c r l = l
  | [], _ => rfl
  | a :: t, h => by
    have h1 : ¬ a = c := fun e => h (e ▸ List.mem_cons_self ..)
    have h2 : c ∉ t := fun m => h (List.mem_cons_of_mem _ m)
    have ih := repl_free c r t h2
    unfold repl at ih ⊢
    rw [List.flatMap_cons, if_neg h1, ih]; rfl
theorem repl_append (c : Nat) (r a b : List Nat) : repl c r (a ++ b) = repl c r a ++ repl c r b := List.flatMap_append ..
theorem repl_one (c : Nat) (r : List Nat) : repl c r [c] = r := by simp [repl]
theorem repl_length (c : Nat) (r : List Nat) (n : Nat) (hr : r.length ≤ n) (hn : 1 ≤ n) : ∀ l : List Nat, (repl c r l).length ≤ n * l.length
  | [] => by simp [repl]
  | a :: t => by
    have ih := repl_length c r n hr hn t
    unfold repl at ih ⊢
    rw [List.flatMap_cons, List.length_append, List.length_cons, Nat.mul_succ]
    have : (if a = c then r else [a]).length ≤ n := by split <;> first | exact hr | exact hn
    omega
theorem repl_join (c : Nat) (r : List Nat) : ∀ parts : List Str, (∀ p ∈ parts, c ∉ p.cps.toList) → repl c r (Str.join ⟨#[c]⟩ parts).cps.toList = (Str.join (mkS r) parts).cps.toList
  | [], _ => rfl
  | [p], h => repl_free c r _ (h p (List.mem_singleton.mpr rfl))
  | p :: q :: t, h => by
    have ih := repl_join c r (q :: t) fun a ha => h a (List.mem_cons_of_mem _ ha)
    show repl c r (p ++ ⟨#[c]⟩ ++ Str.join ⟨#[c]⟩ (q :: t)).cps.toList = (p ++ mkS r ++ Str.join (mkS r) (q :: t)).cps.toList
    simp only [Str.cps_append, Array.toList_append]
    rw [repl_append, repl_append, ih, repl_free c r _ (h p (List.mem_cons_self ..))]
    show p.cps.toList ++ repl c r [c] ++ _ = _
    rw [repl_one]; rfl
theorem replace_mk (c : Nat) (r l : List Nat) : Txt.replace (mkS l) (mkS [c]) (mkS r) = mkS (repl c r l) := by
  have h := repl_join c r _ (StrLaws.split_free (mkS l) c)
  rw [StrLaws.join_split] at h
  rw [mk_of (Txt.replace _ _ _)]
  show mkS (Txt.replace (mkS l) ⟨#[c]⟩ (mkS r)).cps.toList = _
  rw [StrLaws.replace_one, ← h]; rfl
theorem found_mk (c : Nat) (l : List Nat) : (Builtin.Str.occurrences (mkS l) (mkS [c]) 0 (mkS l).length 1).isEmpty = !decide (c ∈ l) := by
  have h := StrLaws.found_one (mkS l) c
  rw [mkS_cps] at h
  rw [← h]
  show _ = !!(Builtin.Str.occurrences (mkS l) ⟨#[c]⟩ 0 (mkS l).length 1).isEmpty
  rw [Bool.not_not]; rfl
end Mine
namespace Mine
theorem slice_eq (x : Str) (l u : Option Int) : Txt.slice x l u = StrLaws.sliceText x l u := by
  unfold Txt.slice StrLaws.sliceText
  simp
theorem slice_mk (l : List Nat) (k : Int) (h0 : 0 ≤ k) (h1 : k ≤ l.length) : Txt.slice (mkS l) (some k) none = mkS (l.drop k.toNat) := by
  rw [slice_eq, StrLaws.sliceText_from (x := mkS l) (i := k) ⟨h0, h1⟩]
  show mkS _ = mkS _
  congr 1
  rw [mkS_cps]
  exact List.take_of_length_le (by rw [List.length_drop]; omega)
theorem slice_mk2 (l : List Nat) (i j : Int) (h0 : 0 ≤ i) (h1 : i ≤ j) (h2 : j ≤ l.length) : Txt.slice (mkS l) (some i) (some j) = mkS ((l.drop i.toNat).take (j - i).toNat) := by
  rw [slice_eq, StrLaws.sliceText_plain (x := mkS l) ⟨h0, h1, h2⟩]; rfl
theorem item_mk (l : List Nat) (k : Int) (c : Nat) (h0 : 0 ≤ k) (hc : l[k.toNat]? = some c) : Txt.item (mkS l) k = mkS [c] := by
  unfold Txt.item Txt.charAt
  have h := StrLaws.at_nonneg (x := mkS l) (i := k) (n := c) h0 (by show l.toArray[k.toNat]? = _; simpa using hc)
  rw [h]; rfl
theorem mkS_beq (a b : List Nat) : (mkS a == mkS b) = decide (a = b) := by
  rw [Bool.eq_iff_iff, beq_iff_eq, decide_eq_true_eq]
  exact ⟨mkS_inj, fun h => h ▸ rfl⟩
end Mine
namespace Mine
/-! the ways -/
theorem ways_nil_part (l : List Nat) : ways l [] = 1 := by cases l <;> rfl
/-- the comprehension's sum: over the places of the first letter -/
theorem ways_places (p : Nat) (ps : List Nat) : ∀ l : List Nat,
    ((List.range l.length).filterMap fun k => if l[k]? = some p then some (ways (l.drop (k + 1)) ps) else none).sum = ways l (p :: ps)
  | [] => rfl
  | c :: t => by
    have ih := ways_places p ps t
    rw [List.length_cons, List.range_succ_eq_map, List.filterMap_cons]
    have e : (List.map Nat.succ (List.range t.length)).filterMap (fun k => if (c :: t)[k]? = some p then some (ways ((c :: t).drop (k + 1)) ps) else none)
        = (List.range t.length).filterMap fun k => if t[k]? = some p then some (ways (t.drop (k + 1)) ps) else none := by
      rw [List.filterMap_map]; rfl
    rw [e]
    show _ = (if c = p then ways t ps else 0) + ways t (p :: ps)
    by_cases h : c = p
    · subst h
      simp [ih]
    · have h' : ¬ (c :: t)[0]? = some p := by simpa using h
      rw [if_neg h']
      simp [h, ih]
theorem foldl_filterMap {α β : Type} (c : α → Prop) [DecidablePred c] (f : α → β) (l : List α) : ∀ acc : List β,
    l.foldl (fun a k => if c k then a ++ [f k] else a) acc = acc ++ l.filterMap fun k => if c k then some (f k) else none := by
  induction l with
  | nil => intro acc; simp
  | cons k r ih =>
    intro acc
    rw [List.foldl_cons, ih, List.filterMap_cons]
    by_cases h : c k
    · simp [h]
    · simp [h]
end Mine
namespace Mine
theorem foldl_congr_mem {α β : Type} {f g : β → α → β} : ∀ (l : List α), (∀ k ∈ l, ∀ a, f a k = g a k) → ∀ a, l.foldl f a = l.foldl g a
  | [], _, _ => rfl
  | k :: r, h, a => by
    rw [List.foldl_cons, List.foldl_cons, h k (List.mem_cons_self ..) a]
    exact foldl_congr_mem r (fun k' hk' => h k' (List.mem_cons_of_mem _ hk')) _
theorem slice_len_lt (x : Str) (h : 1 ≤ x.length) : (Txt.slice x (some 1) none).length = x.length - 1 := by
  rw [mk_of x] at h ⊢
  rw [slice_mk _ 1 (by omega) (by rw [mkS_len] at h; omega), mkS_len, mkS_len, List.length_drop]
  rfl
theorem ways_fold (x y : Str) (hy : 1 ≤ y.length) :
    (List.foldl (fun l' k' => if (1 ≤ (Txt.item x k').length ∧ (Txt.item x k').length ≤ 1) ∧ 1 ≤ y.length ∧ (1 ≤ (Txt.item y 0).length ∧ (Txt.item y 0).length ≤ 1) ∧
              (Txt.slice x (some (k' + 1)) none).length ≤ x.length ∧ (Txt.slice y (some 1) none).length ≤ y.length ∧ Txt.item x k' = Txt.item y 0 then
            l' ++ [ways (Txt.slice x (some (k' + 1)) none).cps.toList (Txt.slice y (some 1) none).cps.toList]
          else if (1 ≤ (Txt.item x k').length ∧ (Txt.item x k').length ≤ 1) ∧ 1 ≤ y.length ∧ (1 ≤ (Txt.item y 0).length ∧ (Txt.item y 0).length ≤ 1) ∧ ¬Txt.item x k' = Txt.item y 0 then l' else l')
        [] (rangeKs 0 ((x.length : Int) - 0).toNat)).sum = ways x.cps.toList y.cps.toList := by
  obtain ⟨⟨l⟩⟩ := x
  obtain ⟨⟨r⟩⟩ := y
  show (List.foldl _ [] (rangeKs 0 (((mkS l).length : Int) - 0).toNat)).sum = ways l r
  change 1 ≤ r.length at hy
  cases r with
  | nil => exact absurd hy (by decide)
  | cons p ps =>
    have en : (((mkS l).length : Int) - 0).toNat = l.length := by rw [mkS_len]; omega
    rw [en, rangeKs, List.foldl_map]
    have e0 : Txt.item (mkS (p :: ps)) 0 = mkS [p] := item_mk _ 0 p (by decide) rfl
    have e1 : Txt.slice (mkS (p :: ps)) (some 1) none = mkS ps := slice_mk _ 1 (by decide) (by simp only [List.length_cons]; omega)
    rw [foldl_congr_mem (g := fun a k => if l[k]? = some p then a ++ [ways (l.drop (k + 1)) ps] else a)]
    · rw [foldl_filterMap (fun k => l[k]? = some p) (fun k => ways (l.drop (k + 1)) ps), List.nil_append, ways_places]
    · intro k hk a
      have hk' := List.mem_range.mp hk
      have ek : (0 : Int) + (k : Int) = (k : Int) := Int.zero_add _
      have ei : Txt.item (mkS l) (k : Int) = mkS [l[k]] := item_mk _ _ _ (by omega) (by simp [hk'])
      have es : Txt.slice (mkS l) (some ((k : Int) + 1)) none = mkS (l.drop (k + 1)) := slice_mk _ _ (by omega) (by omega)
      show (if _ ∧ 1 ≤ (mkS (p :: ps)).length ∧ _ ∧ _ ∧ _ ∧ _ then _ else _) = _
      simp only [ek]
      have hg : l[k]? = some l[k] := by simp [hk']
      change (if (1 ≤ (Txt.item (mkS l) (k : Int)).length ∧ (Txt.item (mkS l) (k : Int)).length ≤ 1) ∧ 1 ≤ (mkS (p :: ps)).length ∧ (1 ≤ (Txt.item (mkS (p :: ps)) 0).length ∧ (Txt.item (mkS (p :: ps)) 0).length ≤ 1) ∧
              (Txt.slice (mkS l) (some ((k : Int) + 1)) none).length ≤ (mkS l).length ∧ (Txt.slice (mkS (p :: ps)) (some 1) none).length ≤ (mkS (p :: ps)).length ∧ Txt.item (mkS l) (k : Int) = Txt.item (mkS (p :: ps)) 0 then
            a ++ [ways (Txt.slice (mkS l) (some ((k : Int) + 1)) none).cps.toList (Txt.slice (mkS (p :: ps)) (some 1) none).cps.toList]
          else if (1 ≤ (Txt.item (mkS l) (k : Int)).length ∧ (Txt.item (mkS l) (k : Int)).length ≤ 1) ∧ 1 ≤ (mkS (p :: ps)).length ∧ (1 ≤ (Txt.item (mkS (p :: ps)) 0).length ∧ (Txt.item (mkS (p :: ps)) 0).length ≤ 1) ∧ ¬Txt.item (mkS l) (k : Int) = Txt.item (mkS (p :: ps)) 0 then a else a) = _
      rw [ei, e0, es, e1, hg]
      simp only [mkS_cps, mkS_len, List.length_cons, List.length_nil, List.length_drop]
      by_cases hc : l[k] = p
      · rw [if_pos ⟨by omega, by omega, by omega, by omega, by omega, by rw [hc]⟩, if_pos (by rw [hc])]
      · rw [if_neg fun h => hc (List.cons.inj (mkS_inj h.2.2.2.2.2)).1, if_neg (fun h => hc (Option.some.inj h))]
        exact ite_self _
end Mine
end

section
set_option maxRecDepth 100000
open PySem PySem.W PyProof.Rows PySem.Calls PySem.Spec
namespace Mine
section
variable {M : Model} {A : Around} {E : Value → Shared → Prop} {s : Shared} {g : Heap} {L : Addr} {m : Str → Option Value} {news : List (Addr × Obj)}

/-- where a statement leaves one name turned, whatever way it went -/
noncomputable def Turned (g : Heap) (L : Addr) (m : Str → Option Value) (news : List (Addr × Obj)) (s : Shared) (tn : Str) (X : Str) (f : Flow) (s' : Shared) : Prop :=
  f = .next ∧ ∃ h' tk' t', s' = { s with heap := h', toks := tk' } ∧ Fr g L h' (fun y => if y = tn then some (.str X t') else m y) ∧ News g L h' news

theorem join_text {st : Stmt} {env : Env} {Q : Flow → Shared → Prop} (tn : Str) (X : Str) (_F : Fr g L s.heap m) (_N : News g L s.heap news) (h0 : 0 < s.toks)
    (body : wpAny M A (exec st env) (Turned g L m news s tn X) E s)
    (next : ∀ h' tk' t', 0 < tk' → Fr g L h' (fun y => if y = tn then some (.str X t') else m y) → News g L h' news → Q .next { s with heap := h', toks := tk' }) :
    wpAny M A (exec st env) Q E s :=
  wpAny_mono (wpAny_toks_of (n := 1) h0 body) (fun f s' ⟨hn, hf, h', tk', t', hs, F', N'⟩ => by subst hf hs; exact next h' tk' t' hn F' N') fun _ _ e => e.2

theorem turned_same {h' : Heap} {tk' : Nat} {tn X : Str} {t : Tok} (F : Fr g L h' m) (N : News g L h' news) (hm : m tn = some (.str X t)) :
    Turned g L m news s tn X .next { s with heap := h', toks := tk' } := by
  refine ⟨rfl, h', tk', t, rfl, ?_, N⟩
  have e : (fun y => if y = tn then some (Value.str X t) else m y) = m := by
    funext y
    by_cases h : y = tn
    · rw [if_pos h, h, hm]
    · rw [if_neg h]
  rw [e]; exact F
theorem turned_set {h' : Heap} {tk' : Nat} {tn X : Str} {t : Tok} (F : Fr g L h' (fun y => if y = tn then some (.str X t) else m y)) (N : News g L h' news) :
    Turned g L m news s tn X .next { s with heap := h', toks := tk' } := ⟨rfl, h', tk', t, rfl, F, N⟩
theorem gen_toks {α : Type} {T : Sem α} {Q : α → Shared → Prop} {h gs dr X os} (hX : 0 < X) (k : ∀ tk : Nat, 0 < tk → wpAny M A T Q E ⟨h, gs, dr, tk, os⟩) : wpAny M A T Q E ⟨h, gs, dr, X, os⟩ := k X hX
end
section
variable {prog : Program} {w : World} {A : Around} {E : Value → Shared → Prop} {s : Shared}
theorem rep_rule {l r : List Nat} {c : Nat} {y z : Str} {t u v : Tok} {Q : Value → Shared → Prop} (hy : y = mkS [c]) (hz : z = mkS r) (hu : u ≠ 0) (hv : v ≠ 0) (huv : u ≠ v) (hyz : (mkS [c] == mkS r) = false) (hx : l.length ≤ 1048576) (hr : r.length ≤ 14)
    (hq : ∀ t' k, Q (.str (mkS (repl c r l)) t') { s with toks := k }) : wpAny (model prog w) A (call (.builtin "str.replace") [.str (mkS l) t, .str y u, .str z v]) Q E s := by
  subst hy hz
  exact SC.replaceW hu hv huv hyz hx hr fun t' k => replace_mk c r l ▸ hq t' k
theorem none_found {l : List Nat} {c : Nat} {y : Str} (r : List Nat) (hy : y = mkS [c]) (h : (Builtin.Str.occurrences (mkS l) y 0 (mkS l).length 1).isEmpty = true) : repl c r l = l := by
  subst hy
  rw [found_mk, Bool.not_eq_true', decide_eq_false_iff_not] at h
  exact repl_free c r l h
end
end Mine
end

section
set_option maxRecDepth 100000
open PySem PySem.W PyProof.Rows PySem.Calls PySem.Spec
namespace Mine

/-- the three hands -/
noncomputable def wrC (l : List Nat) : List Nat := repl 13 [38, 35, 120, 68, 59] (repl 62 [38, 103, 116, 59] (repl 60 [38, 108, 116, 59] (repl 38 [38, 97, 109, 112, 59] l)))
noncomputable def wrH (l : List Nat) : List Nat := repl 34 [38, 113, 117, 111, 116, 59] (repl 62 [38, 103, 116, 59] (repl 38 [38, 97, 109, 112, 59] l))
noncomputable def wrN (l : List Nat) : List Nat := repl 13 [38, 35, 120, 68, 59] (repl 10 [38, 35, 120, 65, 59] (repl 9 [38, 35, 120, 57, 59] (repl 34 [38, 113, 117, 111, 116, 59] (repl 60 [38, 108, 116, 59] (repl 38 [38, 97, 109, 112, 59] l)))))
noncomputable def wr (hand : Int) (l : List Nat) : List Nat := if hand = 0 then wrC l else if hand = 1 then wrH l else wrN l
section
local macro_rules | `(tactic| walk_at "execs cons") => `(tactic| (k_here; (try dsimp only); (with_reducible show wpAny _ _ _ _ _ (Shared.mk _ _ _ (_ + 1) _)); refine gen_toks (by omega) ?_; intro tk htk))
-- steps up to an If
local macro_rules | `(tactic| ktn_open) => `(tactic| repeat' ((fail_if_success (with_reducible show wpAny _ _ (exec (Stmt.If _ _ _ _) _) _ _ _)); first | (k_unfold; (try dsimp only)) | (k_end; wrow_close) | walk1 | (dsimp only; walk1) | (leave1; walk_say "STEP leave1"; try dsimp only) | fail "no step"))

set_option maxHeartbeats 8000000 in
theorem con_cdata (w : World) (l : List Nat) (t : Tok) (hl : l.length ≤ 300) : Pur PySem.Challenge.rw_zo0028_01.row.prog w (Pre.hc.heap_1 w.params) 35 [.str (mkS l) t] NoPre 10 100 (OutS (mkS (wrC l))) := by
  w_top off
  k_fill
  unfold Pur
  intro p loose mean mg mb dp u fr gd s Q E X T hd hu hp ret
  refine wpAny_call ?_
  k_dflt (first | (refine' enterP ?k3 ?k5 ?k6 ?k7 ?k8 ?k9 ?kB ?_ ?c2 ?c3 ?c4 ?c5; (case k3 => k_asm); (case k5 => k_asm); (case k6 => k_is); (case k7 => k_is); (case k8 => k_room); (case k9 => exact BindsTo.of_eq rfl); (case c5 => decide); (case kB => exact locs rfl); (case c2 => exact rfl); (case c3 => exact rfl); (case c4 => exact rfl); k_whole; intro g' L' h' hg' F' N' X' T'; subst hg'; (try dsimp only [List.filterMap, List.map, List.zip, List.append_nil, List.lookup]); (try k_fold)) | (refine' enterC ?k3 ?k5 ?k6 ?k7 ?k8 ?k9 ?kB ?kD ?_ ?c2 ?c3 ?c4; (case k3 => k_asm); (case k5 => k_asm); (case k6 => k_is); (case k7 => k_is); (case k8 => k_room); (case k9 => exact BindsTo.of_eq rfl); (case kB => exact rfl); (case kD => decide +kernel); (case c2 => exact rfl); (case c3 => exact rfl); (case c4 => exact rfl); k_whole; intro g' L' h' tk' cells' hg' F' N' Y' X' T'; subst hg'; k_cells Y'; (try dsimp only); (try k_fold)))
  refine gen_toks (Nat.succ_pos s.toks) ?_
  intro tkz htkz
  ktn_open
  have hl0 : (repl 38 [38, 97, 109, 112, 59] l).length ≤ 1500 := Nat.le_trans (repl_length _ _ 5 (by decide) (by decide) _) (by have := hl; omega)
  (rename Fr _ _ _ _ => lF)
  (rename News _ _ _ _ => lN)
  (rename 0 < _ => l0)
  refine join_text (Str.ofString "text") (mkS (repl 38 [38, 97, 109, 112, 59] l)) lF lN l0 ?_ ?_
  · walk1
    ktn_open
    · rename_i h9
      refine turned_same (t := t) (by assumption) (by assumption) ?_
      rw [none_found (c := 38) [38, 97, 109, 112, 59] (by decide) h9]; rfl
    · refine rep_rule (c := 38) (r := [38, 97, 109, 112, 59]) (by decide) (by decide) (Nat.ne_of_gt (by assumption)) (Nat.succ_ne_zero _) (Nat.ne_of_lt (Nat.lt_succ_self _)) (by decide) (by have := hl; omega) (by decide) ?_
      intro t9 k9
      ktn_open
      exact turned_set (by assumption) (by assumption)
  clear lF lN l0
  intro h0 tk0 t0 htk0 F0 N0
  ktn_open
  have hl1 : (repl 60 [38, 108, 116, 59] (repl 38 [38, 97, 109, 112, 59] l)).length ≤ 6000 := Nat.le_trans (repl_length _ _ 4 (by decide) (by decide) _) (by have := hl0; omega)
  (rename Fr _ _ _ _ => lF)
  (rename News _ _ _ _ => lN)
  (rename 0 < _ => l0)
  refine join_text (Str.ofString "text") (mkS (repl 60 [38, 108, 116, 59] (repl 38 [38, 97, 109, 112, 59] l))) lF lN l0 ?_ ?_
  · walk1
    ktn_open
    · rename_i h9
      refine turned_same (t := t0) (by assumption) (by assumption) ?_
      rw [none_found (c := 60) [38, 108, 116, 59] (by decide) h9]; rfl
    · refine rep_rule (c := 60) (r := [38, 108, 116, 59]) (by decide) (by decide) (Nat.ne_of_gt (by assumption)) (Nat.succ_ne_zero _) (Nat.ne_of_lt (Nat.lt_succ_self _)) (by decide) (by have := hl0; omega) (by decide) ?_
      intro t9 k9
      ktn_open
      exact turned_set (by assumption) (by assumption)
  clear lF lN l0
  intro h1 tk1 t1 htk1 F1 N1
  ktn_open
  have hl2 : (repl 62 [38, 103, 116, 59] (repl 60 [38, 108, 116, 59] (repl 38 [38, 97, 109, 112, 59] l))).length ≤ 24000 := Nat.le_trans (repl_length _ _ 4 (by decide) (by decide) _) (by have := hl1; omega)
  (rename Fr _ _ _ _ => lF)
  (rename News _ _ _ _ => lN)
  (rename 0 < _ => l0)
  refine join_text (Str.ofString "text") (mkS (repl 62 [38, 103, 116, 59] (repl 60 [38, 108, 116, 59] (repl 38 [38, 97, 109, 112, 59] l)))) lF lN l0 ?_ ?_
  · walk1
    ktn_open
    · rename_i h9
      refine turned_same (t := t1) (by assumption) (by assumption) ?_
      rw [none_found (c := 62) [38, 103, 116, 59] (by decide) h9]; rfl
    · refine rep_rule (c := 62) (r := [38, 103, 116, 59]) (by decide) (by decide) (Nat.ne_of_gt (by assumption)) (Nat.succ_ne_zero _) (Nat.ne_of_lt (Nat.lt_succ_self _)) (by decide) (by have := hl1; omega) (by decide) ?_
      intro t9 k9
      ktn_open
      exact turned_set (by assumption) (by assumption)
  clear lF lN l0
  intro h2 tk2 t2 htk2 F2 N2
  ktn_open
  have hl3 : (repl 13 [38, 35, 120, 68, 59] (repl 62 [38, 103, 116, 59] (repl 60 [38, 108, 116, 59] (repl 38 [38, 97, 109, 112, 59] l)))).length ≤ 120000 := Nat.le_trans (repl_length _ _ 5 (by decide) (by decide) _) (by have := hl2; omega)
  (rename Fr _ _ _ _ => lF)
  (rename News _ _ _ _ => lN)
  (rename 0 < _ => l0)
  refine join_text (Str.ofString "text") (mkS (repl 13 [38, 35, 120, 68, 59] (repl 62 [38, 103, 116, 59] (repl 60 [38, 108, 116, 59] (repl 38 [38, 97, 109, 112, 59] l))))) lF lN l0 ?_ ?_
  · walk1
    ktn_open
    · rename_i h9
      refine turned_same (t := t2) (by assumption) (by assumption) ?_
      rw [none_found (c := 13) [38, 35, 120, 68, 59] (by decide) h9]; rfl
    · refine rep_rule (c := 13) (r := [38, 35, 120, 68, 59]) (by decide) (by decide) (Nat.ne_of_gt (by assumption)) (Nat.succ_ne_zero _) (Nat.ne_of_lt (Nat.lt_succ_self _)) (by decide) (by have := hl2; omega) (by decide) ?_
      intro t9 k9
      ktn_open
      exact turned_set (by assumption) (by assumption)
  clear lF lN l0
  intro h3 tk3 t3 htk3 F3 N3
  ktn_open
  dsimp only
  k_unfold
  dsimp only
  exact ret _ _ _ (by assumption : Fr _ _ _ _).keep ⟨_, rfl⟩

set_option maxHeartbeats 8000000 in
theorem con_html (w : World) (l : List Nat) (t : Tok) (hl : l.length ≤ 300) : Pur PySem.Challenge.rw_zo0028_01.row.prog w (Pre.hc.heap_1 w.params) 28 [.str (mkS l) t] NoPre 10 100 (OutS (mkS (wrH l))) := by
  w_top off
  k_fill
  unfold Pur
  intro p loose mean mg mb dp u fr gd s Q E X T hd hu hp ret
  refine wpAny_call ?_
  k_dflt (first | (refine' enterP ?k3 ?k5 ?k6 ?k7 ?k8 ?k9 ?kB ?_ ?c2 ?c3 ?c4 ?c5; (case k3 => k_asm); (case k5 => k_asm); (case k6 => k_is); (case k7 => k_is); (case k8 => k_room); (case k9 => exact BindsTo.of_eq rfl); (case c5 => decide); (case kB => exact locs rfl); (case c2 => exact rfl); (case c3 => exact rfl); (case c4 => exact rfl); k_whole; intro g' L' h' hg' F' N' X' T'; subst hg'; (try dsimp only [List.filterMap, List.map, List.zip, List.append_nil, List.lookup]); (try k_fold)) | (refine' enterC ?k3 ?k5 ?k6 ?k7 ?k8 ?k9 ?kB ?kD ?_ ?c2 ?c3 ?c4; (case k3 => k_asm); (case k5 => k_asm); (case k6 => k_is); (case k7 => k_is); (case k8 => k_room); (case k9 => exact BindsTo.of_eq rfl); (case kB => exact rfl); (case kD => decide +kernel); (case c2 => exact rfl); (case c3 => exact rfl); (case c4 => exact rfl); k_whole; intro g' L' h' tk' cells' hg' F' N' Y' X' T'; subst hg'; k_cells Y'; (try dsimp only); (try k_fold)))
  refine gen_toks (Nat.succ_pos s.toks) ?_
  intro tkz htkz
  ktn_open
  have hl0 : (repl 38 [38, 97, 109, 112, 59] l).length ≤ 1500 := Nat.le_trans (repl_length _ _ 5 (by decide) (by decide) _) (by have := hl; omega)
  (rename Fr _ _ _ _ => lF)
  (rename News _ _ _ _ => lN)
  (rename 0 < _ => l0)
  refine join_text (Str.ofString "text") (mkS (repl 38 [38, 97, 109, 112, 59] l)) lF lN l0 ?_ ?_
  · walk1
    ktn_open
    · rename_i h9
      refine turned_same (t := t) (by assumption) (by assumption) ?_
      rw [none_found (c := 38) [38, 97, 109, 112, 59] (by decide) h9]; rfl
    · refine rep_rule (c := 38) (r := [38, 97, 109, 112, 59]) (by decide) (by decide) (Nat.ne_of_gt (by assumption)) (Nat.succ_ne_zero _) (Nat.ne_of_lt (Nat.lt_succ_self _)) (by decide) (by have := hl; omega) (by decide) ?_
      intro t9 k9
      ktn_open
      exact turned_set (by assumption) (by assumption)
  clear lF lN l0
  intro h0 tk0 t0 htk0 F0 N0
  ktn_open
  have hl1 : (repl 62 [38, 103, 116, 59] (repl 38 [38, 97, 109, 112, 59] l)).length ≤ 6000 := Nat.le_trans (repl_length _ _ 4 (by decide) (by decide) _) (by have := hl0; omega)
  (rename Fr _ _ _ _ => lF)
  (rename News _ _ _ _ => lN)
  (rename 0 < _ => l0)
  refine join_text (Str.ofString "text") (mkS (repl 62 [38, 103, 116, 59] (repl 38 [38, 97, 109, 112, 59] l))) lF lN l0 ?_ ?_
  · walk1
    ktn_open
    · rename_i h9
      refine turned_same (t := t0) (by assumption) (by assumption) ?_
      rw [none_found (c := 62) [38, 103, 116, 59] (by decide) h9]; rfl
    · refine rep_rule (c := 62) (r := [38, 103, 116, 59]) (by decide) (by decide) (Nat.ne_of_gt (by assumption)) (Nat.succ_ne_zero _) (Nat.ne_of_lt (Nat.lt_succ_self _)) (by decide) (by have := hl0; omega) (by decide) ?_
      intro t9 k9
      ktn_open
      exact turned_set (by assumption) (by assumption)
  clear lF lN l0
  intro h1 tk1 t1 htk1 F1 N1
  ktn_open
  have hl2 : (repl 34 [38, 113, 117, 111, 116, 59] (repl 62 [38, 103, 116, 59] (repl 38 [38, 97, 109, 112, 59] l))).length ≤ 36000 := Nat.le_trans (repl_length _ _ 6 (by decide) (by decide) _) (by have := hl1; omega)
  (rename Fr _ _ _ _ => lF)
  (rename News _ _ _ _ => lN)
  (rename 0 < _ => l0)
  refine join_text (Str.ofString "text") (mkS (repl 34 [38, 113, 117, 111, 116, 59] (repl 62 [38, 103, 116, 59] (repl 38 [38, 97, 109, 112, 59] l)))) lF lN l0 ?_ ?_
  · walk1
    ktn_open
    · rename_i h9
      refine turned_same (t := t1) (by assumption) (by assumption) ?_
      rw [none_found (c := 34) [38, 113, 117, 111, 116, 59] (by decide) h9]; rfl
    · refine rep_rule (c := 34) (r := [38, 113, 117, 111, 116, 59]) (by decide) (by decide) (Nat.ne_of_gt (by assumption)) (Nat.succ_ne_zero _) (Nat.ne_of_lt (Nat.lt_succ_self _)) (by decide) (by have := hl1; omega) (by decide) ?_
      intro t9 k9
      ktn_open
      exact turned_set (by assumption) (by assumption)
  clear lF lN l0
  intro h2 tk2 t2 htk2 F2 N2
  ktn_open
  dsimp only
  k_unfold
  dsimp only
  exact ret _ _ _ (by assumption : Fr _ _ _ _).keep ⟨_, rfl⟩

set_option maxHeartbeats 8000000 in
theorem con_c14n (w : World) (l : List Nat) (t : Tok) (hl : l.length ≤ 300) : Pur PySem.Challenge.rw_zo0028_01.row.prog w (Pre.hc.heap_1 w.params) 42 [.str (mkS l) t] NoPre 10 100 (OutS (mkS (wrN l))) := by
  w_top off
  k_fill
  unfold Pur
  intro p loose mean mg mb dp u fr gd s Q E X T hd hu hp ret
  refine wpAny_call ?_
  k_dflt (first | (refine' enterP ?k3 ?k5 ?k6 ?k7 ?k8 ?k9 ?kB ?_ ?c2 ?c3 ?c4 ?c5; (case k3 => k_asm); (case k5 => k_asm); (case k6 => k_is); (case k7 => k_is); (case k8 => k_room); (case k9 => exact BindsTo.of_eq rfl); (case c5 => decide); (case kB => exact locs rfl); (case c2 => exact rfl); (case c3 => exact rfl); (case c4 => exact rfl); k_whole; intro g' L' h' hg' F' N' X' T'; subst hg'; (try dsimp only [List.filterMap, List.map, List.zip, List.append_nil, List.lookup]); (try k_fold)) | (refine' enterC ?k3 ?k5 ?k6 ?k7 ?k8 ?k9 ?kB ?kD ?_ ?c2 ?c3 ?c4; (case k3 => k_asm); (case k5 => k_asm); (case k6 => k_is); (case k7 => k_is); (case k8 => k_room); (case k9 => exact BindsTo.of_eq rfl); (case kB => exact rfl); (case kD => decide +kernel); (case c2 => exact rfl); (case c3 => exact rfl); (case c4 => exact rfl); k_whole; intro g' L' h' tk' cells' hg' F' N' Y' X' T'; subst hg'; k_cells Y'; (try dsimp only); (try k_fold)))
  refine gen_toks (Nat.succ_pos s.toks) ?_
  intro tkz htkz
  ktn_open
  have hl0 : (repl 38 [38, 97, 109, 112, 59] l).length ≤ 1500 := Nat.le_trans (repl_length _ _ 5 (by decide) (by decide) _) (by have := hl; omega)
  (rename Fr _ _ _ _ => lF)
  (rename News _ _ _ _ => lN)
  (rename 0 < _ => l0)
  refine join_text (Str.ofString "text") (mkS (repl 38 [38, 97, 109, 112, 59] l)) lF lN l0 ?_ ?_
  · walk1
    ktn_open
    · rename_i h9
      refine turned_same (t := t) (by assumption) (by assumption) ?_
      rw [none_found (c := 38) [38, 97, 109, 112, 59] (by decide) h9]; rfl
    · refine rep_rule (c := 38) (r := [38, 97, 109, 112, 59]) (by decide) (by decide) (Nat.ne_of_gt (by assumption)) (Nat.succ_ne_zero _) (Nat.ne_of_lt (Nat.lt_succ_self _)) (by decide) (by have := hl; omega) (by decide) ?_
      intro t9 k9
      ktn_open
      exact turned_set (by assumption) (by assumption)
  clear lF lN l0
  intro h0 tk0 t0 htk0 F0 N0
  ktn_open
  have hl1 : (repl 60 [38, 108, 116, 59] (repl 38 [38, 97, 109, 112, 59] l)).length ≤ 6000 := Nat.le_trans (repl_length _ _ 4 (by decide) (by decide) _) (by have := hl0; omega)
  (rename Fr _ _ _ _ => lF)
  (rename News _ _ _ _ => lN)
  (rename 0 < _ => l0)
  refine join_text (Str.ofString "text") (mkS (repl 60 [38, 108, 116, 59] (repl 38 [38, 97, 109, 112, 59] l))) lF lN l0 ?_ ?_
  · walk1
    ktn_open
    · rename_i h9
      refine turned_same (t := t0) (by assumption) (by assumption) ?_
      rw [none_found (c := 60) [38, 108, 116, 59] (by decide) h9]; rfl
    · refine rep_rule (c := 60) (r := [38, 108, 116, 59]) (by decide) (by decide) (Nat.ne_of_gt (by assumption)) (Nat.succ_ne_zero _) (Nat.ne_of_lt (Nat.lt_succ_self _)) (by decide) (by have := hl0; omega) (by decide) ?_
      intro t9 k9
      ktn_open
      exact turned_set (by assumption) (by assumption)
  clear lF lN l0
  intro h1 tk1 t1 htk1 F1 N1
  ktn_open
  have hl2 : (repl 34 [38, 113, 117, 111, 116, 59] (repl 60 [38, 108, 116, 59] (repl 38 [38, 97, 109, 112, 59] l))).length ≤ 36000 := Nat.le_trans (repl_length _ _ 6 (by decide) (by decide) _) (by have := hl1; omega)
  (rename Fr _ _ _ _ => lF)
  (rename News _ _ _ _ => lN)
  (rename 0 < _ => l0)
  refine join_text (Str.ofString "text") (mkS (repl 34 [38, 113, 117, 111, 116, 59] (repl 60 [38, 108, 116, 59] (repl 38 [38, 97, 109, 112, 59] l)))) lF lN l0 ?_ ?_
  · walk1
    ktn_open
    · rename_i h9
      refine turned_same (t := t1) (by assumption) (by assumption) ?_
      rw [none_found (c := 34) [38, 113, 117, 111, 116, 59] (by decide) h9]; rfl
    · refine rep_rule (c := 34) (r := [38, 113, 117, 111, 116, 59]) (by decide) (by decide) (Nat.ne_of_gt (by assumption)) (Nat.succ_ne_zero _) (Nat.ne_of_lt (Nat.lt_succ_self _)) (by decide) (by have := hl1; omega) (by decide) ?_
      intro t9 k9
      ktn_open
      exact turned_set (by assumption) (by assumption)
  clear lF lN l0
  intro h2 tk2 t2 htk2 F2 N2
  ktn_open
  have hl3 : (repl 9 [38, 35, 120, 57, 59] (repl 34 [38, 113, 117, 111, 116, 59] (repl 60 [38, 108, 116, 59] (repl 38 [38, 97, 109, 112, 59] l)))).length ≤ 180000 := Nat.le_trans (repl_length _ _ 5 (by decide) (by decide) _) (by have := hl2; omega)
  (rename Fr _ _ _ _ => lF)
  (rename News _ _ _ _ => lN)
  (rename 0 < _ => l0)
  refine join_text (Str.ofString "text") (mkS (repl 9 [38, 35, 120, 57, 59] (repl 34 [38, 113, 117, 111, 116, 59] (repl 60 [38, 108, 116, 59] (repl 38 [38, 97, 109, 112, 59] l))))) lF lN l0 ?_ ?_
  · walk1
    ktn_open
    · rename_i h9
      refine turned_same (t := t2) (by assumption) (by assumption) ?_
      rw [none_found (c := 9) [38, 35, 120, 57, 59] (by decide) h9]; rfl
    · refine rep_rule (c := 9) (r := [38, 35, 120, 57, 59]) (by decide) (by decide) (Nat.ne_of_gt (by assumption)) (Nat.succ_ne_zero _) (Nat.ne_of_lt (Nat.lt_succ_self _)) (by decide) (by have := hl2; omega) (by decide) ?_
      intro t9 k9
      ktn_open
      exact turned_set (by assumption) (by assumption)
  clear lF lN l0
  intro h3 tk3 t3 htk3 F3 N3
  ktn_open
  have hl4 : (repl 10 [38, 35, 120, 65, 59] (repl 9 [38, 35, 120, 57, 59] (repl 34 [38, 113, 117, 111, 116, 59] (repl 60 [38, 108, 116, 59] (repl 38 [38, 97, 109, 112, 59] l))))).length ≤ 900000 := Nat.le_trans (repl_length _ _ 5 (by decide) (by decide) _) (by have := hl3; omega)
  (rename Fr _ _ _ _ => lF)
  (rename News _ _ _ _ => lN)
  (rename 0 < _ => l0)
  refine join_text (Str.ofString "text") (mkS (repl 10 [38, 35, 120, 65, 59] (repl 9 [38, 35, 120, 57, 59] (repl 34 [38, 113, 117, 111, 116, 59] (repl 60 [38, 108, 116, 59] (repl 38 [38, 97, 109, 112, 59] l)))))) lF lN l0 ?_ ?_
  · walk1
    ktn_open
    · rename_i h9
      refine turned_same (t := t3) (by assumption) (by assumption) ?_
      rw [none_found (c := 10) [38, 35, 120, 65, 59] (by decide) h9]; rfl
    · refine rep_rule (c := 10) (r := [38, 35, 120, 65, 59]) (by decide) (by decide) (Nat.ne_of_gt (by assumption)) (Nat.succ_ne_zero _) (Nat.ne_of_lt (Nat.lt_succ_self _)) (by decide) (by have := hl3; omega) (by decide) ?_
      intro t9 k9
      ktn_open
      exact turned_set (by assumption) (by assumption)
  clear lF lN l0
  intro h4 tk4 t4 htk4 F4 N4
  ktn_open
  have hl5 : (repl 13 [38, 35, 120, 68, 59] (repl 10 [38, 35, 120, 65, 59] (repl 9 [38, 35, 120, 57, 59] (repl 34 [38, 113, 117, 111, 116, 59] (repl 60 [38, 108, 116, 59] (repl 38 [38, 97, 109, 112, 59] l)))))).length ≤ 4500000 := Nat.le_trans (repl_length _ _ 5 (by decide) (by decide) _) (by have := hl4; omega)
  (rename Fr _ _ _ _ => lF)
  (rename News _ _ _ _ => lN)
  (rename 0 < _ => l0)
  refine join_text (Str.ofString "text") (mkS (repl 13 [38, 35, 120, 68, 59] (repl 10 [38, 35, 120, 65, 59] (repl 9 [38, 35, 120, 57, 59] (repl 34 [38, 113, 117, 111, 116, 59] (repl 60 [38, 108, 116, 59] (repl 38 [38, 97, 109, 112, 59] l))))))) lF lN l0 ?_ ?_
  · walk1
    ktn_open
    · rename_i h9
      refine turned_same (t := t4) (by assumption) (by assumption) ?_
      rw [none_found (c := 13) [38, 35, 120, 68, 59] (by decide) h9]; rfl
    · refine rep_rule (c := 13) (r := [38, 35, 120, 68, 59]) (by decide) (by decide) (Nat.ne_of_gt (by assumption)) (Nat.succ_ne_zero _) (Nat.ne_of_lt (Nat.lt_succ_self _)) (by decide) (by have := hl4; omega) (by decide) ?_
      intro t9 k9
      ktn_open
      exact turned_set (by assumption) (by assumption)
  clear lF lN l0
  intro h5 tk5 t5 htk5 F5 N5
  ktn_open
  dsimp only
  k_unfold
  dsimp only
  exact ret _ _ _ (by assumption : Fr _ _ _ _).keep ⟨_, rfl⟩
end
section
local macro_rules | `(tactic| walk_at "call ref") => `(tactic| (k_here; (with_reducible show wpAny _ _ (call (Value.ref 35) [_]) _ _ _); (refine' use_str (con_cdata _ _ _ ?h1) ?k1 ?k2 ?k3 ?k4 ?k5 ?k6 ?k7 ?_); (case k1 => k_asm); (case k2 => k_asm); (case k3 => k_asm); (case k4 => k_asm); (case k5 => k_room); (case k6 => k_room); (case k7 => exact trivial); (case h1 => assumption); k_whole; intro h' tk' t' F' N' hs'))
local macro_rules | `(tactic| walk_at "call ref") => `(tactic| (k_here; (with_reducible show wpAny _ _ (call (Value.ref 28) [_]) _ _ _); (refine' use_str (con_html _ _ _ ?h1) ?k1 ?k2 ?k3 ?k4 ?k5 ?k6 ?k7 ?_); (case k1 => k_asm); (case k2 => k_asm); (case k3 => k_asm); (case k4 => k_asm); (case k5 => k_room); (case k6 => k_room); (case k7 => exact trivial); (case h1 => assumption); k_whole; intro h' tk' t' F' N' hs'))
local macro_rules | `(tactic| walk_at "call ref") => `(tactic| (k_here; (with_reducible show wpAny _ _ (call (Value.ref 42) [_]) _ _ _); (refine' use_str (con_c14n _ _ _ ?h1) ?k1 ?k2 ?k3 ?k4 ?k5 ?k6 ?k7 ?_); (case k1 => k_asm); (case k2 => k_asm); (case k3 => k_asm); (case k4 => k_asm); (case k5 => k_room); (case k6 => k_room); (case k7 => exact trivial); (case h1 => assumption); k_whole; intro h' tk' t' F' N' hs'))

set_option maxHeartbeats 8000000 in
theorem con_write (w : World) (hand : Int) (th : Tok) (l : List Nat) (t : Tok) (hl : l.length ≤ 300) : Pur PySem.Challenge.rw_zo0028_01.row.prog w (Pre.hc.heap_1 w.params) 105 [.int hand th, .str (mkS l) t] NoPre 20 200 (OutS (mkS (wr hand l))) := by
  w_top off
  k_fill
  unfold Pur
  intro p loose mean mg mb dp u fr gd s Q E X T hd hu hp ret
  refine wpAny_call ?_
  k_dflt (first | (refine' enterP ?k3 ?k5 ?k6 ?k7 ?k8 ?k9 ?kB ?_ ?c2 ?c3 ?c4 ?c5; (case k3 => k_asm); (case k5 => k_asm); (case k6 => k_is); (case k7 => k_is); (case k8 => k_room); (case k9 => exact BindsTo.of_eq rfl); (case c5 => decide); (case kB => exact locs rfl); (case c2 => exact rfl); (case c3 => exact rfl); (case c4 => exact rfl); k_whole; intro g' L' h' hg' F' N' X' T'; subst hg'; (try dsimp only [List.filterMap, List.map, List.zip, List.append_nil, List.lookup]); (try k_fold)) | (refine' enterC ?k3 ?k5 ?k6 ?k7 ?k8 ?k9 ?kB ?kD ?_ ?c2 ?c3 ?c4; (case k3 => k_asm); (case k5 => k_asm); (case k6 => k_is); (case k7 => k_is); (case k8 => k_room); (case k9 => exact BindsTo.of_eq rfl); (case kB => exact rfl); (case kD => decide +kernel); (case c2 => exact rfl); (case c3 => exact rfl); (case c4 => exact rfl); k_whole; intro g' L' h' tk' cells' hg' F' N' Y' X' T'; subst hg'; k_cells Y'; (try dsimp only); (try k_fold)))
  k_steps
  all_goals ((rename Fr _ _ _ _ => fF); refine ret _ _ _ fF.keep (outS ?_); unfold wr)
  · rw [if_pos (by assumption)]
  · rw [if_neg (by assumption), if_pos (by assumption)]
  · rw [if_neg (by assumption), if_neg (by assumption)]
end

end Mine
end

section
set_option maxRecDepth 100000
open PySem PySem.W PyProof.Rows PySem.Calls PySem.Spec
namespace Mine
section
noncomputable def WaysIH (w : World) (n : Nat) : Prop := ∀ x y : Str, ∀ t t' : Tok, y.length < n → y.length ≤ 1000 → x.length ≤ 1000 →
  Pur PySem.Challenge.rw_zo0028_01.row.prog w (Pre.hc.heap_1 w.params) 110 [.str x t, .str y t'] NoPre (10 * y.length + 5) (20 * y.length + 20) (OutI (ways x.cps.toList y.cps.toList))
set_option maxHeartbeats 8000000 in
theorem ways_step (w : World) (n : Nat) (IH : WaysIH w n) (x y : Str) (t t' : Tok) (hy : y.length = n) (hy3 : y.length ≤ 1000) (hx : x.length ≤ 1000) : Pur PySem.Challenge.rw_zo0028_01.row.prog w (Pre.hc.heap_1 w.params) 110 [.str x t, .str y t'] NoPre (10 * y.length + 5) (20 * y.length + 20) (OutI (ways x.cps.toList y.cps.toList)) := by
  w_top off
  k_fill
  unfold Pur
  intro p loose mean mg mb dp u fr gd s Q E X T hd hu hp ret
  refine wpAny_call ?_
  k_dflt (first | (refine' enterP ?k3 ?k5 ?k6 ?k7 ?k8 ?k9 ?kB ?_ ?c2 ?c3 ?c4 ?c5; (case k3 => k_asm); (case k5 => k_asm); (case k6 => k_is); (case k7 => k_is); (case k8 => k_room); (case k9 => exact BindsTo.of_eq rfl); (case c5 => decide); (case kB => exact locs rfl); (case c2 => exact rfl); (case c3 => exact rfl); (case c4 => exact rfl); k_whole; intro g' L' h' hg' F' N' X' T'; subst hg'; (try dsimp only [List.filterMap, List.map, List.zip, List.append_nil, List.lookup]); (try k_fold)) | (refine' enterC ?k3 ?k5 ?k6 ?k7 ?k8 ?k9 ?kB ?kD ?_ ?c2 ?c3 ?c4; (case k3 => k_asm); (case k5 => k_asm); (case k6 => k_is); (case k7 => k_is); (case k8 => k_room); (case k9 => exact BindsTo.of_eq rfl); (case kB => exact rfl); (case kD => decide +kernel); (case c2 => exact rfl); (case c3 => exact rfl); (case c4 => exact rfl); k_whole; intro g' L' h' tk' cells' hg' F' N' Y' X' T'; subst hg'; k_cells Y'; (try dsimp only); (try k_fold)))
  (repeat' (first | (k_unfold; (try dsimp only)) | (k_end; wrow_close) | (k_here; (with_reducible show wpAny _ _ (call (Value.ref 110) [_, _]) _ _ _); (rename WaysIH _ _ => ih'); (rename 1 ≤ Str.length _ => hy'); (refine' use_int (ih' _ _ _ _ ?h1 ?h3 ?h2) ?k1 ?k2 ?k3 ?k4 ?k5 ?k6 ?k7 ?_); (case k1 => k_asm); (case k2 => k_asm); (case k3 => k_asm); (case k4 => k_asm); (case h1 => (have := slice_len_lt _ hy'; omega)); (case h3 => (have := slice_len_lt _ hy'; omega)); (case h2 => exact Nat.le_trans (Txt.slice_le _ _ _) (by assumption)); (case k5 => (have := slice_len_lt _ hy'; k_room)); (case k6 => (have := slice_len_lt _ hy'; k_room)); (case k7 => exact trivial); k_whole; intro _ _ _ _ _ _) | walk1 | (dsimp only; (first | (k_here; (with_reducible show wpAny _ _ (call (Value.ref 110) [_, _]) _ _ _); (rename WaysIH _ _ => ih'); (rename 1 ≤ Str.length _ => hy'); (refine' use_int (ih' _ _ _ _ ?h1 ?h3 ?h2) ?k1 ?k2 ?k3 ?k4 ?k5 ?k6 ?k7 ?_); (case k1 => k_asm); (case k2 => k_asm); (case k3 => k_asm); (case k4 => k_asm); (case h1 => (have := slice_len_lt _ hy'; omega)); (case h3 => (have := slice_len_lt _ hy'; omega)); (case h2 => exact Nat.le_trans (Txt.slice_le _ _ _) (by assumption)); (case k5 => (have := slice_len_lt _ hy'; k_room)); (case k6 => (have := slice_len_lt _ hy'; k_room)); (case k7 => exact trivial); k_whole; intro _ _ _ _ _ _) | walk1)) | (leave1; walk_say "STEP leave1"; try dsimp only) | fail "no step"))
  next =>
    dsimp only
    (rename Fr _ _ _ _ => fF)
    refine ret _ _ _ fF.keep (outI ?_)
    (rename (_ == _) = true => h9)
    have e : y = Str.ofString "" := eq_of_beq h9
    rw [e]
    exact (ways_nil_part _).symm
  next =>
    (rename Fr _ _ _ _ => fF)
    refine ret _ _ _ fF.keep (outI ?_)
    (rename (_ == _) = false => h9)
    refine ways_fold x y ?_
    rcases Nat.eq_zero_or_pos y.length with h0 | h0
    · have e : y = Str.ofString "" := by
        obtain ⟨⟨r⟩⟩ := y
        have : r = [] := List.eq_nil_of_length_eq_zero h0
        subst this; rfl
      rw [e] at h9
      exact absurd h9 (by decide)
    · exact h0
end
theorem con_ways_all (w : World) : ∀ n, WaysIH w n := by
  intro n
  induction n with
  | zero => intro x y t t' h; exact absurd h (Nat.not_lt_zero _)
  | succ n ih =>
    intro x y t t' h h1 h2
    by_cases hn : y.length < n
    · exact ih x y t t' hn h1 h2
    · exact ways_step w n ih x y t t' (by omega) h1 h2
/-- _law_ways -/
theorem con_ways (w : World) (l r : List Nat) (t t' : Tok) (hr : r.length ≤ 3) (hl : l.length ≤ 1000) :
    Pur PySem.Challenge.rw_zo0028_01.row.prog w (Pre.hc.heap_1 w.params) 110 [.str (mkS l) t, .str (mkS r) t'] NoPre 35 80 (OutI (ways l r)) := by
  intro p loose mean mg mb dp u fr gd s Q E X T hd hu hp ret
  have e : (mkS r).length = r.length := rfl
  exact con_ways_all w 4 (mkS l) (mkS r) t t' (by omega) (by omega) (by show l.length ≤ 1000; exact hl) p loose mean mg mb dp u fr gd s Q E X T (by omega) (by omega) hp ret

end Mine
end

section
set_option maxRecDepth 100000
open PySem PySem.W PyProof.Rows PySem.Calls PySem.Spec
namespace Mine
section
variable {α : Type} {M : Model} {A : Around} {E : Value → Shared → Prop} {s : Shared} {env : Env}
theorem wpC_keep {vs : List Value} {m : Sem α} {Q : α → Shared → Prop} (h : wpC M A m Q E s) : wpC M A (m.keep vs) Q E s :=
  fun Γ p hΓ h1 h2 => by rw [Sem.wp_keep]; exact h Γ p hΓ h1 h2
theorem wpC_operate {vs : List Value} {m : Sem Value} {Q : Value → Shared → Prop} (h : wpC M A m Q E s) : wpC M A (operate vs m) Q E s :=
  fun Γ p hΓ h1 h2 => by rw [Sem.wp_operate]; exact h Γ p hΓ h1 h2
theorem wpC_execs_cons {st rest} {Q : Flow → Shared → Prop}
    (h : wpC M A (exec st env) (fun f s' => match f with | .next => wpC M A (execs rest env) Q E s' | f => Q f s') E s) : wpC M A (execs (st :: rest) env) Q E s := by
  show wpC M A (exec st env >>= _) Q E s
  refine wpC_bind (wpC_mono h (fun f s' h' => ?_) fun _ _ h' => h')
  cases f <;> first | exact h' | exact wpC_pure h'
theorem wp_execs_block {rest : List Stmt} {Q : Flow → Shared → Prop} {Γ : PySem.Ctx} (hΓ : Γ.In A) (h1 : noDec Γ.code = true) (h2 : CleanB Γ.below) : ∀ (pre : List Stmt) (p : Pos) (s : Shared),
    Sem.wp M Γ (execs pre env) (fun f _ s' => match f with | .next => wpC M A (execs rest env) Q E s' | f => Q f s') (fun e _ s' => E e s') p s →
    Sem.wp M Γ (execs (pre ++ rest) env) (fun f _ s' => Q f s') (fun e _ s' => E e s') p s
  | [], p, s, h => h Γ p hΓ h1 h2
  | st :: pre, p, s, h => by
    show Sem.wp M Γ (exec st env >>= _) _ _ p s
    change Sem.wp M Γ (exec st env >>= _) _ _ p s at h
    rw [Sem.wp_bind'] at h ⊢
    refine Sem.wp_mono M Γ _ (fun f p' s' h' => ?_) (fun _ _ _ h' => h') _ _ h
    cases f with
    | next => exact wp_execs_block hΓ h1 h2 pre p' s' h'
    | _ => exact h'
/-- the statements ahead by the library's walk -/
theorem wpC_execs_block {Q : Flow → Shared → Prop} (pre : List Stmt) {rest : List Stmt}
    (h : wpAny M A (execs pre env) (fun f s' => match f with | .next => wpC M A (execs rest env) Q E s' | f => Q f s') E s) : wpC M A (execs (pre ++ rest) env) Q E s :=
  fun Γ p hΓ h1 h2 => wp_execs_block hΓ h1 h2 pre p s (h Γ p hΓ)

theorem wpC_Assign_Name {x pos' value pos} {Q : Flow → Shared → Prop}
    (h : wpC M A (eval value env) (fun v s₁ => wpAny M A (storeName env x v) (fun _ => Q .next) E s₁) E s)
    (hs : swapsWith value (some (.Name x pos')) pos.line env = pure false := by rfl) :
    wpC M A (exec (.Assign [.Name x pos'] value pos) env) Q E s := fun Γ p hΓ h1 h2 => by
  simp only [exec_Assign_Name env x pos' value pos hs, Sem.wp_bind', Sem.wp_cmd_standAt, Sem.wp_bindName, Sem.wp_pure']
  exact Sem.wp_mono M Γ _ (fun v _ s₁ h₁ => h₁ Γ _ hΓ) (fun _ _ _ h' => h') _ _ (h Γ _ hΓ h1 h2)

theorem wpC_Call {fp : Pos} {x : Str} {args : List PySem.Expr} {pos : Pos} {Q : Value → Shared → Prop}
    (h : wpAny M A (eval (.Name x fp) env) (fun fv s₁ => wpC M A (callWith pos fv [] (backTo pos (starEach args env)) []) Q E s₁) E s) :
    wpC M A (eval (.Call (.Name x fp) args [] pos) env) Q E s := by
  show wpC M A (eval (.Name x fp) env >>= fun fv => callWith pos fv [] (backTo pos (starEach args env)) (backToKw pos (keywordEach [] env))) Q E s
  exact wpC_bindA h

theorem wpC_spliced_nil {Q : List Value → Shared → Prop} (h : Q [] s) : wpC M A (spliced []) Q E s := wpC_pure h
theorem wpC_spliced_cons {x : Sem Value} {rest : List (Bool × Sem Value)} {Q : List Value → Shared → Prop}
    (h : wpC M A x (fun v s₁ => wpC M A (spliced rest) (fun vs s₂ => Q (v :: vs) s₂) E s₁) E s) : wpC M A (spliced ((false, x) :: rest)) Q E s := by
  rw [spliced]
  refine wpC_bind (wpC_mono h (fun v s₁ h₁ => ?_) fun _ _ x => x)
  simp only [Bool.false_eq_true, if_false]
  exact wpC_bind (wpC_pure (wpC_bind (wpC_holding (wpC_mono h₁ (fun vs s₂ h₂ => wpC_pure h₂) fun _ _ x => x))))
theorem wpC_evalArgs {f : Value} {x : Sem Value} {rest : List (Bool × Sem Value)} {Q : Args → Shared → Prop}
    (h : wpC M A (spliced ((false, x) :: rest)) (fun vs s' => Q ⟨vs, []⟩ s') E s) : wpC M A (evalArgs f true ((false, x) :: rest) []) Q E s := by
  unfold evalArgs
  show wpC M A (spliced ((false, x) :: rest) >>= _) Q E s
  refine wpC_bind (wpC_mono h (fun vs s' h' => ?_) fun _ _ x => x)
  refine wpC_holding ?_
  exact wpC_bind (wpC_pure (wpC_bind (wpC_pure (wpC_pure h'))))

theorem wpC_callWith {f : Value} {first : List Value} {pos : Pos} {x : Sem Value} {rest : List (Bool × Sem Value)} {Q : Value → Shared → Prop} {P : Heap → Prop} (hplain : rest.any (·.1) = false)
    (hk : ∀ h, P h → ∃ k, (k = Keeper.frame ∨ k = Keeper.machine ∨ k = Keeper.boundFrame) ∧ Looks M h (keeperOf f) k)
    (h : wpC M A (spliced ((false, x) :: rest)) (fun vs s₁ => P s₁.heap ∧ wpC M A (call f (first ++ vs)) Q E s₁) E s) : wpC M A (callWith pos f first ((false, x) :: rest) []) Q E s := by
  unfold callWith
  refine wpC_bind (wpC_holding (wpC_evalArgs (wpC_mono h (fun vs s₁ h₁ => wpC_bind (wpC_standAt ?_)) fun _ _ x => x)))
  obtain ⟨k, hk', L⟩ := hk _ h₁.1
  have hp : (((false, x) :: rest).any (fun y => y.1) || ([] : List (Option Str × Sem Value)).any (fun y => y.1.isNone)) = false := by
    rw [List.any_cons, hplain]; rfl
  simp only [hp]
  refine wpC_bindA (L.here ?_)
  have tail : ∀ {t : Sem Value}, wpC M A t Q E s₁ → wpC M A (t >>= fun r => holding [r] point >>= fun _ => pure r) Q E s₁ :=
    fun ht => wpC_bind (wpC_mono ht (fun r s₂ hr => wpC_bindA (wpAny_holding (wpAny_point (wpC_pure hr)))) fun _ _ x => x)
  have marked (mk : Value) : wpC M A (callMarked mk f (first ++ vs) []) Q E s₁ := by unfold callMarked; exact wpC_keep h₁.2
  rcases hk' with rfl | rfl | rfl <;> dsimp only <;> first | exact tail h₁.2 | (split <;> first | exact tail h₁.2 | exact tail (marked _))
theorem keeps_type {T : String} (h : Heap) (_ : True) : ∃ k, (k = Keeper.frame ∨ k = Keeper.machine ∨ k = Keeper.boundFrame) ∧ Looks M h (keeperOf (.type T)) k := by
  refine ⟨.machine, .inr (.inl rfl), Looks.of_pure ?_⟩
  rfl
theorem wpC_callWith1 {f : Value} {pos : Pos} {e : PySem.Expr} {Q : Value → Shared → Prop} {P : Heap → Prop}
    (hk : ∀ h, P h → ∃ k, (k = Keeper.frame ∨ k = Keeper.machine ∨ k = Keeper.boundFrame) ∧ Looks M h (keeperOf f) k)
    (h : wpC M A (eval e env) (fun v s₁ => P s₁.heap ∧ wpC M A (call f [v]) Q E s₁) E s) (he : starEach [e] env = [(false, eval e env)] := by rfl) :
    wpC M A (callWith pos f [] (backTo pos (starEach [e] env)) []) Q E s := by
  rw [he]
  exact wpC_callWith rfl hk (wpC_spliced_cons (wpC_mono h (fun v s₁ h₁ => wpC_spliced_nil h₁) fun _ _ x => x))
theorem wpC_callWith2 {f : Value} {pos : Pos} {e e' : PySem.Expr} {Q : Value → Shared → Prop} {P : Heap → Prop}
    (hk : ∀ h, P h → ∃ k, (k = Keeper.frame ∨ k = Keeper.machine ∨ k = Keeper.boundFrame) ∧ Looks M h (keeperOf f) k)
    (h : wpC M A (eval e env) (fun v s₁ => wpC M A (eval e' env) (fun v' s₂ => P s₂.heap ∧ wpC M A (call f [v, v']) Q E s₂) E s₁) E s) (he : starEach [e, e'] env = [(false, eval e env), (false, eval e' env)] := by rfl) :
    wpC M A (callWith pos f [] (backTo pos (starEach [e, e'] env)) []) Q E s := by
  rw [he]
  exact wpC_callWith rfl hk (wpC_spliced_cons (wpC_mono h (fun v s₁ h₁ => wpC_spliced_cons (wpC_mono h₁ (fun v' s₂ h₂ => wpC_spliced_nil h₂) fun _ _ x => x)) fun _ _ x => x))
theorem wpC_BinOp {l r : PySem.Expr} {op : Operator} {pos : Pos} {Q : Value → Shared → Prop}
    (h : wpC M A (eval l env) (fun a s₁ => wpC M A (eval r env) (fun b s₂ => wpC M A (binaryOp op a b) Q E s₂) E s₁) E s) :
    wpC M A (eval (.BinOp l op r pos) env) Q E s := by
  show wpC M A (do let a ← eval l env; let b ← holding [a] (eval r env); standAt pos; operate [a, b] (binaryOp op a b)) Q E s
  exact wpC_bind (wpC_mono h (fun a s₁ h₁ => wpC_bind (wpC_holding (wpC_mono h₁ (fun b s₂ h₂ => wpC_bind (wpC_standAt (wpC_operate h₂))) fun _ _ e => e))) fun _ _ e => e)
end

/-- a contract on a clean stack -/
noncomputable def PurC (prog : Program) (w : World) (K : Frag) (f : Addr) (vs : List Value) (pre : Heap → Prop) (dn un : Nat) (Out : Heap → Value → Heap → Prop) : Prop :=
  ∀ (p : Program) (loose : List Str) (mean : ExcName → Option Value) (mg mb : Str → Option Value)
    (dp u : Nat) (fr : Option (List Env)) (s : Shared) (Q E : Value → Shared → Prop),
    K.In s.heap → Top p loose mean mg mb s.heap → dp + dn < recursionLimit → u + un < cLine → pre s.heap →
    (∀ r h' tk', Sub s.heap h' → Out s.heap r h' → Q r { s with heap := h', toks := tk' }) →
    wpC (model prog w) (AR dp u fr (some [])) (call (.ref f) vs) Q E s
section
variable {prog : Program} {w : World} {A : Around} {s : Shared} {p : Program} {loose : List Str} {mean : ExcName → Option Value} {mg mb : Str → Option Value} {K : Frag}
  {R : Result → Shared → Prop} {name qual : Str} {params : Arguments} {body : List Stmt} {scope : Scope} {dV kV doc pm cdv ct oc : Value} {an od : Option Addr} {osl : Array (Option Value)} {f : Addr} {args : Args} {binds : List (Str × Value)}
theorem enterPC (X : K.In s.heap) (T : Top p loose mean mg mb s.heap)
    (ho : K.lookup f = some ⟨oc, od, .func (fnOf name qual params body scope dV kV doc pm an cdv ct), osl⟩) (hcd : codeIn K cdv qual = true) (hroom : A.depth < recursionLimit)
    (hbind : BindsTo s (fnOf name qual params body scope dV kV doc pm an cdv ct) args binds) (hloc : ∀ y ∈ binds, scope.names.lookup y.1 = some .local)
    (h : ∀ g L' h₁, g = s.heap → Fr g L' h₁ (fun y => binds.reverse.lookup y) → News g L' h₁ [] → K.In g → Top p loose mean mg mb g →
      wpC (model prog w) (A.deeper (envOf qual scope L' f cdv)) (execs body (envOf qual scope L' f cdv))
        (fun fl s' => R (.ok (.ret (match fl with | .ret v => v | _ => .none))) s')
        (fun e s' => wpAny (model prog w) (A.deeper (envOf qual scope L' f cdv)) (leaving (envOf qual scope L' f cdv) e) (fun _ s'' => R (.error e) s'') (fun e' s'' => R (.error e') s'') s')
        { s with heap := h₁, toks := s.toks + binds.length })
    (hco : scope.isCoroutine = false) (hgen : scope.isGenerator = false) (hk : scope.kind = .function)
    (hcell : ∀ x ∈ scope.names, x.2 ≠ .cell) : codeC (model prog w) A (.call (.ref f) args) R s := by
  refine codeC_call_function (fd := fnOf name qual params body scope dV kV doc pm an cdv ct) (body := body) hroom (X _ _ ho) rfl hco hgen rfl (codeRec_of X hcd) (hbind _ _ _ _ ?_)
  refine wpAny_newFunctionEnv hcell hloc (fun h₀ hns₀ hsb₀ => ⟨T.nolimit.fresh _ hsb₀, codeC_func (h s.heap s.heap.objs.size h₀ rfl ⟨hns₀, fun b o e => ?_, Nat.le_refl _⟩ (fun _ hp => nomatch hp) X T)⟩) hk
  exact hsb₀.extBut b o (Nat.ne_of_lt (Heap.lt_size e)) (Heap.get?_push_of_some _ e)

theorem enterCC (X : K.In s.heap) (T : Top p loose mean mg mb s.heap)
    (ho : K.lookup f = some ⟨oc, od, .func (fnOf name qual params body scope dV kV doc pm an cdv ct), osl⟩) (hcd : codeIn K cdv qual = true) (hroom : A.depth < recursionLimit)
    (hbind : BindsTo s (fnOf name qual params body scope dV kV doc pm an cdv ct) args binds) (hkind : (binds.all fun y => scope.names.lookup y.1 == some .local || scope.names.lookup y.1 == some .cell) = true)
    (hnd : ((cellsFrom 0 scope.names []).map (·.1)).Nodup)
    (h : ∀ g L' h₁ tk cells, g = s.heap → Fr g L' h₁ (bindL (envOfC qual scope L' f cdv).kindOf binds fun _ => none) → News g L' h₁ cells →
      CellsAre (bindC (envOfC qual scope L' f cdv).kindOf binds fun _ => none) (cellsFrom (L' + 1) scope.names []) cells → K.In g → Top p loose mean mg mb g →
      wpC (model prog w) (A.deeper (envOfC qual scope L' f cdv)) (execs body (envOfC qual scope L' f cdv))
        (fun fl s' => R (.ok (.ret (match fl with | .ret v => v | _ => .none))) s')
        (fun e s' => wpAny (model prog w) (A.deeper (envOfC qual scope L' f cdv)) (leaving (envOfC qual scope L' f cdv) e) (fun _ s'' => R (.error e) s'') (fun e' s'' => R (.error e') s'') s')
        { s with heap := h₁, toks := tk })
    (hco : scope.isCoroutine = false) (hgen : scope.isGenerator = false) (hk : scope.kind = .function) : codeC (model prog w) A (.call (.ref f) args) R s := by
  refine codeC_call_function (fd := fnOf name qual params body scope dV kV doc pm an cdv ct) (body := body) hroom (X _ _ ho) rfl hco hgen rfl (codeRec_of X hcd) (hbind _ _ _ _ ?_)
  refine wpAny_newFunctionEnv_cells hk (kindsX hkind _) fun env' he s' x => ?_
  subst he
  refine ⟨T.nolimit.keeps x.toInCall.keep, codeC_func ?_⟩
  obtain ⟨h₁, tk, rfl, _⟩ := x.done
  have hk₁ := x.toInCall.keep
  obtain ⟨cells, NC, Y⟩ := Cl.news (h₀ := s.heap) (Nat.le_refl _) fun n c hm => ⟨x.cell n c (lookup_of_mem_nodup (cellsFrom_names scope.names 0 (s.heap.objs.size + 1) [] [] rfl ▸ hnd) hm), x.above n c hm⟩
  exact h s.heap s.heap.objs.size h₁ tk cells rfl ⟨x.toInCall.ns, fun b o e => hk₁ b o e, Nat.le_refl _⟩ NC Y X T
end
end Mine
end

section
set_option maxRecDepth 100000
open PySem PySem.W PyProof.Rows PySem.Calls PySem.Spec
namespace Mine
/-- a mark where the walk stops -/
noncomputable def Stop (P : Prop) : Prop := P
theorem Stop.intro {P : Prop} (h : P) : Stop P := h
theorem Stop.elim {P : Prop} (h : Stop P) : P := h
/-- what a frame's names hold -/
noncomputable def Knows (m : Str → Option Value) : List (Str × Value) → Prop
  | [] => True
  | p :: r => m p.1 = some p.2 ∧ Knows m r
noncomputable def knowF (m : Str → Option Value) : List (Str × Value) → Str → Option Value
  | [], y => m y
  | p :: r, y => if y = p.1 then some p.2 else knowF m r y
theorem knowF_eq {m : Str → Option Value} : ∀ {l : List (Str × Value)}, Knows m l → knowF m l = m
  | [], _ => rfl
  | p :: r, h => by
    funext y
    show (if y = p.1 then some p.2 else knowF m r y) = m y
    rw [knowF_eq h.2]
    by_cases e : y = p.1
    · rw [if_pos e, e, h.1]
    · rw [if_neg e]
theorem news_add {g h h' : Heap} {L a : Addr} {o : Obj} {m : Str → Option Value} {news : List (Addr × Obj)} (F : Fr g L h m) (N : News g L h' news) (hf : h.get? a = none) (ho : h'.get? a = some o) : News g L h' ((a, o) :: news) := fun p hp => by
  rcases List.mem_cons.mp hp with rfl | hp
  · refine ⟨ho, ?_, ?_⟩
    · rintro e
      obtain ⟨oL, _, _, hL, _⟩ := F.ns
      rw [show L = a from e.symm, hf] at hL
      exact nomatch hL
    · show g.get? a = none
      cases e : g.get? a with
      | none => rfl
      | some x => have := F.keep _ _ e; rw [hf] at this; exact nomatch this
  · exact N p hp
theorem news_ne {g h : Heap} {L a : Addr} {news : List (Addr × Obj)} (N : News g L h news) (hf : h.get? a = none) {p : Addr × Obj} (hp : p ∈ news) : @Ne Nat a p.1 := fun e => by
  have := (N p hp).1
  have e' : p.1 = a := e.symm
  rw [e', hf] at this
  exact nomatch this
/-- what a loop keeps: names and ledger -/
structure Kept (m : Str → Option Value) (news : List (Addr × Obj)) (kn : List (Str × Value)) (P : List (Addr × Obj) → Prop) : Prop where
  kn : Knows m kn
  p : P news
theorem u8_lt (c : UInt8) : (c.toNat : Int) < 256 := by have := UInt8.toNat_lt c; omega
theorem knows_fr {g h : Heap} {L : Addr} {m : Str → Option Value} {l : List (Str × Value)} (F : Fr g L h m) (k : Knows m l) : Fr g L h (fun y => knowF m l y) := by
  show Fr g L h (knowF m l)
  rw [knowF_eq k]; exact F
section
variable {prog : Program} {w : World} {A : Around} {E : Value → Shared → Prop} {s : Shared} {env : Env} {h₀ : Heap} {target : PySem.Expr} {body : List Stmt} {Q : Flow → Shared → Prop}
theorem allObj_map {k k' : List (Addr × Obj) → Prop} : ∀ {ws : List (Addr × String)}, AllObj ws k → (∀ its, k its → k' its) → AllObj ws k'
  | [], h, f => f _ h
  | _ :: _, h, f => fun o ho => allObj_map (h o ho) fun its hk => f _ hk
theorem unrEndW_mono {L : Addr} {s₁ s₂ : Shared} {its : List (Addr × Obj)} {r r' : (Str → Option Value) → List (Addr × Obj) → Prop} (h : UnrEndW h₀ L s₁ its r s₂) (f : ∀ m n, r m n → r' m n) : UnrEndW h₀ L s₁ its r' s₂ :=
  let ⟨h', tk, m', news', e, F, N, ho, hr⟩ := h
  ⟨h', tk, m', news', e, F, N, ho, f _ _ hr⟩
theorem unrPostW_mono {L : Addr} {s₁ s₂ : Shared} {its : List (Addr × Obj)} {r r' : (Str → Option Value) → List (Addr × Obj) → Prop} {fl : Flow} (h : UnrPostW h₀ L s₁ its r Q fl s₂) (f : ∀ m n, r m n → r' m n) : UnrPostW h₀ L s₁ its r' Q fl s₂ := by
  cases fl with
  | ret v => exact h
  | brk => exact h
  | next => exact unrEndW_mono h f
  | cont => exact unrEndW_mono h f

/-- a loop by an invariant of one's own: on names and ledger, by the number of turns done -/
theorem rest_ind {xs : List Itm} {ws : List (Addr × String)} {keep : List (Addr × Obj)} {m : Str → Option Value} {news : List (Addr × Obj)}
    (J : Nat → (Str → Option Value) → List (Addr × Obj) → Prop)
    (turn : ∀ i a m news v h tk, xs[i]? = some a → J i m news → SubL keep news → a.Is v h → Fr h₀ env.locals h m → AllObj ws fun its => News h₀ env.locals h (its ++ news) →
      wpAny (model prog w) A (assign target env v) (fun _ s₂ => wpAny (model prog w) A (execs body env) (UnrPostW h₀ env.locals { s with heap := h, toks := tk } its (fun m' n' => SubL keep n' ∧ J (i + 1) m' n') Q) E s₂) E { s with heap := h, toks := tk })
    (done : ∀ m news h tk, J xs.length m news → Fr h₀ env.locals h m → News h₀ env.locals h news → Q .next { s with heap := h, toks := tk })
    (h0 : J 0 m news) (hk : SubL keep news) : ItemsRest prog w A E h₀ env target body Q s ws keep xs m news := by
  have key : ∀ n i m news, xs.length - i = n → i ≤ xs.length → J i m news → SubL keep news → ItemsRest prog w A E h₀ env target body Q s ws keep (xs.drop i) m news := by
    intro n
    induction n with
    | zero =>
      intro i m news hn hi hJ _
      have e : i = xs.length := by omega
      subst e
      rw [List.drop_length]
      exact fun h tk F N => done m news h tk hJ F N
    | succ n ih =>
      intro i m news hn hi hJ hk
      have hlt : i < xs.length := by omega
      rw [List.drop_eq_getElem_cons hlt]
      intro v h tk hv F
      refine allObj_map (turn i xs[i] m news v h tk (List.getElem?_eq_getElem hlt) hJ hk hv F) fun its q N => ?_
      refine wpAny_mono (q N) (fun _ s₂ h₂ => wpAny_mono h₂ (fun fl s₃ p => unrPostW_mono p fun m' n' hh => ⟨hh.1, ih (i + 1) m' n' (by omega) hlt hh.2 hh.1⟩) fun _ _ e => e) fun _ _ e => e
  have := key xs.length 0 m news (by omega) (Nat.zero_le _) h0 hk
  rwa [List.drop_zero] at this

theorem letGo_rangeiter {I : Addr} {a l c : Int} {v : Value} {Q' : Unit → Shared → Prop} {s' : Shared} (hit : IsRangeIter s'.heap I a l c) (h : Q' () s') :
    wpAny (model prog w) A (letOwnedTupleGo target (.ref I) v) Q' E s' := by
  obtain ⟨o, ho, hc, hd⟩ : ∃ o, s'.heap.get? I = some o ∧ o.cls = .type "range_iterator" ∧ ∃ vs, o.data = .fields vs := ⟨_, hit, rfl, _, rfl⟩
  obtain ⟨vs, hd⟩ := hd
  unfold letOwnedTupleGo
  cases target <;> first
    | exact wpAny_pure h
    | (cases v <;> first
        | exact wpAny_pure h
        | (refine wpAny_bind (wpAny_load ho ?_)
           rw [hc, hd]
           exact wpAny_pure h))

noncomputable def rangeItems (a c : Int) (n : Nat) : List Itm := (List.range n).map fun (i : Nat) => .tok fun t => .int (a + i * c) t
theorem rangeItems_length (a c : Int) (n : Nat) : (rangeItems a c n).length = n := by simp [rangeItems]
theorem rangeItems_get {a c : Int} {n i : Nat} {x : Itm} (h : (rangeItems a c n)[i]? = some x) : i < n ∧ x = .tok fun t => .int (a + i * c) t := by
  rw [rangeItems, List.getElem?_map] at h
  by_cases hi : i < n
  · rw [List.getElem?_range hi] at h
    exact ⟨hi, (Option.some.inj h).symm⟩
  · rw [List.getElem?_eq_none (by simpa using hi)] at h
    exact nomatch h

theorem iter_rangeTurns {r : Addr} {a₀ b₀ c : Int} {t₀ u₀ v₀ : Tok} {n : Nat} {m₀ : Str → Option Value} {news : List (Addr × Obj)}
    (hh : A.handled = none) (hr : IsRange s.heap r a₀ b₀ c t₀ u₀ v₀) (hsmall : Builtin.Range.small a₀ b₀ c = true) (hn : Builtin.Range.rangeSize a₀ b₀ c = (n : Int)) (F : Fr h₀ env.locals s.heap m₀) (N : News h₀ env.locals s.heap news)
    (rest₀ : ∀ I : Addr, (∀ p ∈ news, p.1 < I) → ItemsRest prog w A E h₀ env target body Q s [(I, "range_iterator")] [] (rangeItems a₀ c n) m₀ news) :
    wpAny (model prog w) A (pyIter (.ref r)) (fun it s₂ => TurnsAt prog w A h₀ env target body Q E it s₂) E s := by
  refine wpAny_pyIter_range hr hsmall ?_
  have W : Walks prog w A s.heap.objs.size [s.heap.objs.size] [s.heap.objs.size] n (fun i v => i < n ∧ ∃ t, v = .int (a₀ + i * c) t)
      (fun i h => IsRangeIter h s.heap.objs.size (a₀ + (i : Nat) * c) ((n : Int) - (i : Nat)) c) := (Walks.range hh _ a₀ c n).bound
  have hnew := next_is_new F
  refine ktu_core (tk0 := s.toks) (keep := []) (KTurns.ofWalks W fun i v s Q E st q => letGo_rangeiter st q) (by rw [rangeItems_length]) ?_ ?_ ?_ ?_ ?_ ?_ ?_ ?_ (F.push _) (fun p hp => ⟨Heap.get?_push_of_some _ (N p hp).1, (N p hp).2⟩) trivial (rest₀ _ fun p hp => Heap.lt_size (N p hp).1)
  · rintro i v h ⟨hi, t, rfl⟩
    refine ⟨.tok fun t => .int (a₀ + i * c) t, ?_, t, rfl⟩
    rw [rangeItems, List.getElem?_map, List.getElem?_range hi]; rfl
  · rintro i h he
    have e1 : ∃ o : Obj, h.get? s.heap.objs.size = some o ∧ o.cls = .type "range_iterator" := ⟨_, he, rfl⟩
    obtain ⟨oi, g, c⟩ := e1
    exact ⟨[(s.heap.objs.size, oi)], ⟨⟨rfl, c⟩, trivial⟩, fun p hp => by rw [List.mem_singleton.mp hp]; exact g⟩
  · intro b hb
    have hb' : b = s.heap.objs.size := by simpa using hb
    rw [hb']
    exact ⟨List.mem_cons_self .., hnew⟩
  · intro b hb
    simpa using hb
  · intro b hb
    have hb' : b = s.heap.objs.size := by simpa using hb
    exact .inl (by simp [hb'])
  · intro hI
    exact absurd F.ns.lt ((List.mem_singleton.mp hI) ▸ Nat.lt_irrefl _)
  · intro p hp hI
    exact absurd (Heap.lt_size (N p hp).1) ((List.mem_singleton.mp hI) ▸ Nat.lt_irrefl _)
  · show IsRangeIter _ _ _ _ _
    rw [hn]; simpa using Heap.get?_push_size _ rfl
/-- a list that stands in the ground -/
theorem gl_iter {ax : Addr} {vs : List Value} {m₀ : Str → Option Value} {news : List (Addr × Obj)}
    (hh : A.handled = none) (F : Fr h₀ env.locals s.heap m₀) (N : News h₀ env.locals s.heap news) (hl₀ : h₀.IsList ax vs.toArray)
    (rest₀ : ∀ I : Addr, (∀ p ∈ news, p.1 < I) → ItemsRest prog w A E h₀ env target body Q s [(I, "list_iterator")] [] (vs.map .val) m₀ news) :
    wpAny (model prog w) A (pyIter (.ref ax)) (fun it s₂ => TurnsAt prog w A h₀ env target body Q E it s₂) E s := by
  obtain ⟨lo, hg, hc, n, hd⟩ := hl₀
  have hax : s.heap.get? ax = some lo := F.keep _ _ hg
  have hl : s.heap.IsList ax vs.toArray := ⟨lo, hax, hc, n, hd⟩
  have hlt : ax < s.heap.objs.size := Heap.lt_size hax
  have hne : ax ≠ s.heap.objs.size := Nat.ne_of_lt hlt
  refine wpAny_pyIter_list hl ?_
  refine ktg_core (tk0 := s.toks) (keep := []) (KTurns.ofWalks (Walks.list hh s.heap.objs.size ax hne vs.toArray) fun i v s Q E st q => letGo_listiter st.1 q) (by simp) (fun i v h hp => ⟨.val v, ?_, rfl⟩) (fun i h st => ?_) (fun b hb => ?_) (fun b hb => by simpa using hb) (fun b hb => ?_) ?_ (fun p hp hI => ?_) ?_ (F.push _) (fun p hp => ⟨Heap.get?_push_of_some _ (N p hp).1, (N p hp).2⟩) trivial (rest₀ _ fun p hp => Heap.lt_size (N p hp).1)
  · have hp' : vs.toArray[i]? = some v := hp
    simpa using hp'
  · obtain ⟨it, hit, hic, _⟩ := st.1
    exact ⟨[(s.heap.objs.size, it)], ⟨⟨rfl, hic⟩, trivial⟩, fun p hp => by rw [List.mem_singleton.mp hp]; exact hit⟩
  · have hb' : b = s.heap.objs.size := by simpa using hb
    rw [hb']
    exact ⟨List.mem_cons_self .., next_is_new F⟩
  · have hb' : b = s.heap.objs.size ∨ b = ax := by simpa using hb
    rcases hb' with e | e
    · exact .inl (by simp [e])
    · exact .inr (.inr ⟨lo, by rw [e]; exact hg⟩)
  · intro hI
    rcases List.mem_cons.mp hI with e | hI
    · exact absurd F.ns.lt (e ▸ Nat.lt_irrefl _)
    · exact absurd (Heap.lt_size hg) (Nat.not_lt.mpr ((List.mem_singleton.mp hI) ▸ F.above))
  · exact absurd (Heap.lt_size (N p hp).1) ((List.mem_singleton.mp hI) ▸ Nat.lt_irrefl _)
  · exact ⟨⟨_, Heap.get?_push_size _ rfl, rfl, rfl⟩, hl.at fun o e => Heap.get?_push_of_some _ e⟩
theorem ba_callF {g : Heap} {L : Addr} {m : Str → Option Value} {news : List (Addr × Obj)} {n : Int} {t : Tok} {Q : Value → Shared → Prop} (F : Fr g L s.heap m) (N : News g L s.heap news) (hg : A.guards = some []) (h0 : 0 ≤ n) (hn : n ≤ 1000)
    (h : ∀ D h', (∀ p ∈ news, p.1 < D) → Fr g L h' m → News g L h' ((D, baObj (Array.replicate n.toNat 0)) :: news) → Q (.ref D) { s with heap := h' }) :
    wpC (model prog w) A (call (.type "bytearray") [.int n t]) Q E s :=
  ba_call hg h0 hn fun h' hk hno hob => h _ h' (fun p hp => Heap.lt_size (N p hp).1) (F.keeps hk) fun p hp => by
    rcases List.mem_cons.mp hp with rfl | hp
    · exact ⟨hob, Nat.ne_of_gt F.ns.lt, ktu_new F (Nat.le_refl _)⟩
    · exact ⟨hk _ _ (N p hp).1, (N p hp).2⟩
theorem ba_setF {g : Heap} {L a : Addr} {m : Str → Option Value} {b : Array UInt8} {news news' : List (Addr × Obj)} {k x : Int} {t u : Tok} {Q : Unit → Shared → Prop} (F : Fr g L s.heap m) (N : News g L s.heap news) (U : Upd a (baObj b) (baObj (b.setIfInBounds k.toNat x.toNat.toUInt8)) news news') (hk0 : 0 ≤ k) (hk : k < b.size) (hx0 : 0 ≤ x) (hx : x < 256) (hb : b.size ≤ 1000)
    (h : ∀ h', Fr g L h' m → News g L h' news' → Q () { s with heap := h' }) :
    wpAny (model prog w) A (setItem (.ref a) (.int k t) (.int x u)) Q E s := by
  obtain ⟨pre, post, rfl, rfl, c, d⟩ := U.split
  have z := N (a, baObj b) (List.mem_append.mpr (.inr (.head _)))
  refine ba_setitem z.1 hk0 hk hx0 hx hb fun e => h _ (F.change (Heap.SameBut.update ..) z.2.1 z.2.2) ?_
  intro p hp
  have hs : Heap.SameBut a s.heap (s.heap.update a (Obj.mapBytearray (·.setIfInBounds k.toNat x.toNat.toUInt8))) := Heap.SameBut.update ..
  rcases List.mem_append.mp hp with hp | hp
  · have q := N p (List.mem_append_left _ hp)
    exact ⟨(hs.2 p.1 (c p hp)).trans q.1, q.2⟩
  · rcases List.mem_cons.mp hp with rfl | hp
    · exact ⟨e, z.2⟩
    · have q := N p (List.mem_append_right _ (.tail _ hp))
      exact ⟨(hs.2 p.1 (d p hp)).trans q.1, q.2⟩
theorem ba_bytesF {g : Heap} {L a : Addr} {m : Str → Option Value} {b : Array UInt8} {news : List (Addr × Obj)} {Q : Value → Shared → Prop} (F : Fr g L s.heap m) (N : News g L s.heap news) (hm : (a, baObj b) ∈ news) (hb : b.size ≤ 1000)
    (h : ∀ t k, Q (.bytes b t) { s with toks := k }) :
    wpAny (model prog w) A (call (.type "bytes") [.ref a]) Q E s := ba_bytes (N _ hm).1 hb h
end
end Mine
end

section
set_option maxRecDepth 100000
open PySem PySem.W PyProof.Rows PySem.Calls PySem.Spec
namespace Mine
noncomputable def bsw (b : Nat) (l : List UInt8) : List UInt8 := (List.range l.length).map fun k => l.getD (k / b * b + (b - 1 - k % b)) 0
noncomputable abbrev OutB (v : Array UInt8) : Heap → Value → Heap → Prop := fun _ r _ => ∃ t, r = .bytes v t
theorem bsw_step {l : List UInt8} {b i j : Nat} {x : Array UInt8} (hb : 1 ≤ b) (hj : j < b) (hl : i * b + b ≤ l.length) (h1 : x.size = l.length)
    (h2 : ∀ k, (k < i * b ∨ (k < i * b + b ∧ i * b + b ≤ k + j)) → x.getD k 0 = l.getD (k / b * b + (b - 1 - k % b)) 0) (k : Nat) (hk : k < i * b ∨ (k < i * b + b ∧ i * b + b ≤ k + (j + 1))) :
    (x.setIfInBounds (0 + (i : Int) * b + b - 1 - (0 + (j : Int) * 1)).toNat ((l.getD (0 + (i : Int) * b + (0 + (j : Int) * 1)).toNat 0).toNat : Int).toNat.toUInt8).getD k 0 = l.getD (k / b * b + (b - 1 - k % b)) 0 := by
  have e1 : (0 + (i : Int) * b + b - 1 - (0 + (j : Int) * 1)).toNat = i * b + (b - 1 - j) := by
    have : (0 + (i : Int) * b + b - 1 - (0 + (j : Int) * 1)) = ((i * b + (b - 1 - j) : Nat) : Int) := by
      rw [Int.natCast_add, Int.natCast_mul]; omega
    rw [this]; rfl
  have e2 : (0 + (i : Int) * b + (0 + (j : Int) * 1)).toNat = i * b + j := by
    have : (0 + (i : Int) * b + (0 + (j : Int) * 1)) = ((i * b + j : Nat) : Int) := by
      rw [Int.natCast_add, Int.natCast_mul]; omega
    rw [this]; rfl
  have e3 : ∀ c : UInt8, (c.toNat : Int).toNat.toUInt8 = c := fun c => by simp
  rw [e1, e2, e3]
  by_cases hkk : k = i * b + (b - 1 - j)
  · subst hkk
    have hlt : i * b + (b - 1 - j) < x.size := by rw [h1]; omega
    have q1 : (i * b + (b - 1 - j)) / b = i := by
      rw [Nat.mul_comm, Nat.mul_add_div hb, Nat.div_eq_of_lt (by omega), Nat.add_zero]
    have q2 : (i * b + (b - 1 - j)) % b = b - 1 - j := by
      rw [Nat.mul_comm, Nat.mul_add_mod, Nat.mod_eq_of_lt (by omega)]
    rw [q1, q2]
    have e4 : b - 1 - (b - 1 - j) = j := by omega
    rw [e4]
    simp [Array.getD, hlt]
  · have h3 := h2 k (by omega)
    rw [← h3]
    have hk' : k < x.size := by rw [h1]; omega
    have hk2 : k < (x.setIfInBounds (i * b + (b - 1 - j)) (l.getD (i * b + j) 0)).size := by rw [Array.size_setIfInBounds]; exact hk'
    rw [Array.getD_eq_getD_getElem?, Array.getD_eq_getD_getElem?, Array.getElem?_setIfInBounds, if_neg (Ne.symm hkk)]
theorem bsw_done {l : List UInt8} {b n : Nat} {x : Array UInt8} (hsz : l.length = n * b) (h1 : x.size = l.length) (h2 : ∀ k, k < n * b → x.getD k 0 = l.getD (k / b * b + (b - 1 - k % b)) 0) : x = (bsw b l).toArray := by
  apply Array.ext
  · simp [bsw, h1]
  · intro k hk hk'
    have := h2 k (by omega)
    simp only [Array.getD, hk, dite_true] at this
    simp only [bsw, List.getElem_toArray, List.getElem_map, List.getElem_range]
    exact this
theorem bsw_rs {l : List UInt8} {b n : Nat} (hb : 1 ≤ b) (hsz : l.length = n * b) : Builtin.Range.rangeSize 0 (l.toArray.size : Int) b = (n : Int) := by
  have hl : l.toArray.size = n * b := hsz
  rw [hl]
  unfold Builtin.Range.rangeSize
  rw [if_pos (by omega)]
  by_cases hn : n = 0
  · subst hn; simp
  · have hpos : 0 < n * b := Nat.mul_pos (by omega) hb
    rw [if_pos (by exact_mod_cast hpos)]
    have e : ((n * b : Nat) : Int) - 0 - 1 = (((n - 1) * b + (b - 1) : Nat) : Int) := by
      have : (n - 1) * b + b = n * b := by rw [← Nat.succ_mul]; congr 1; omega
      omega
    rw [e, ← Int.natCast_ediv, Nat.mul_comm, Nat.mul_add_div hb, Nat.div_eq_of_lt (by omega)]
    omega
theorem bsw_small {l : List UInt8} {b n : Nat} (hb : 1 ≤ b) (hbb : b ≤ 300) (ha : l.length ≤ 300) (hsz : l.length = n * b) : Builtin.Range.small 0 (l.toArray.size : Int) b = true := by
  have hn : n ≤ 300 := by
    have : n * 1 ≤ n * b := Nat.mul_le_mul_left n hb
    omega
  have hl : l.toArray.size = l.length := rfl
  unfold Builtin.Range.small
  rw [bsw_rs hb hsz]
  simp only [Builtin.Range.rangeFitsLong, Bool.and_eq_true, Bool.or_eq_true, decide_eq_true_eq, beq_iff_eq]
  rw [if_pos (by omega)]
  simp only [Bool.and_eq_true, decide_eq_true_eq]
  omega
theorem range_one (b : Nat) : Builtin.Range.rangeSize 0 (b : Int) 1 = (b : Int) := by
  unfold Builtin.Range.rangeSize
  rw [if_pos (by omega)]
  by_cases hb : b = 0
  · subst hb; rfl
  · rw [if_pos (by omega)]; omega
set_option maxHeartbeats 8000000 in
theorem con_bsw (w : World) (l : List UInt8) (ta tb : Tok) (b n : Nat) (hb : 1 ≤ b) (hsz : l.length = n * b) (ha : l.length ≤ 300) (hbb : b ≤ 300) : PurC PySem.Challenge.rw_zo0028_01.row.prog w (Pre.hc.heap_1 w.params) 98 [.bytes l.toArray ta, .int b tb] NoPre 20 200 (OutB (bsw b l).toArray) := by
  w_top off
  k_fill
  unfold PurC
  intro p loose mean mg mb dp u fr s Q E X T hd hu hp ret
  have hla : l.toArray.size = l.length := rfl
  refine wpC_call ?_
  k_dflt ((refine' enterPC ?k3 ?k5 ?k6 ?k7 ?k8 ?k9 ?kB ?_ ?c2 ?c3 ?c4 ?c5; (case k3 => k_asm); (case k5 => k_asm); (case k6 => k_is); (case k7 => k_is); (case k8 => k_room); (case k9 => exact BindsTo.of_eq rfl); (case c5 => decide); (case kB => exact locs rfl); (case c2 => exact rfl); (case c3 => exact rfl); (case c4 => exact rfl); k_whole; intro g' L' h' hg' F' N' X' T'; subst hg';  (try dsimp only [List.filterMap, List.map, List.zip, List.append_nil, List.lookup]); (try k_fold)))
  with_unfolding_all refine wpC_execs_cons ?_
  with_unfolding_all refine wpC_Assign_Name ?_ (by rfl)
  with_unfolding_all refine wpC_Call ?_
  k_steps
  with_unfolding_all refine wpC_callWith1 (P := fun _ => True) keeps_type (wpC_of ?_) (by rfl)
  k_steps
  next => exact trivial
  (rename Fr _ _ _ _ => fF)
  (rename News _ _ _ _ => nN)
  with_unfolding_all refine ba_callF fF nN rfl (by omega) (by omega) ?_
  clear fF nN
  intro D hB lD F' N'
  k_steps
  dsimp only
  refine wpC_of ?_
  (repeat' (first | (k_unfold; (try dsimp only)) | (k_end; wrow_close) | ((with_reducible show wpAny _ _ (exec _ _) _ _ _); k_fold; (first | ((with_reducible show wpAny _ _ (exec (Stmt.For (PySem.Expr.Name _ _) (PySem.Expr.Call _ _ _ _) _ _ _) _) _ _ _); k_here; (rename Fr _ _ _ _ => lF'); (with_unfolding_all refine' For_turns lF' ?_); k_whole) | walk1)) | ((with_reducible show wpAny _ _ (exec (Stmt.For (PySem.Expr.Name _ _) (PySem.Expr.Call _ _ _ _) _ _ _) _) _ _ _); k_here; (rename Fr _ _ _ _ => lF'); (with_unfolding_all refine' For_turns lF' ?_); k_whole) | walk1 | (dsimp only; (first | ((with_reducible show wpAny _ _ (exec (Stmt.For (PySem.Expr.Name _ _) (PySem.Expr.Call _ _ _ _) _ _ _) _) _ _ _); k_here; (rename Fr _ _ _ _ => lF'); (with_unfolding_all refine' For_turns lF' ?_); k_whole) | walk1)) | (leave1; walk_say "STEP leave1"; try dsimp only) | fail "no step"))
  (rename IsRange _ _ _ _ _ _ _ _ => hR)
  (rename Fr _ _ _ _ => fF)
  (rename News _ _ _ _ => nN)
  with_unfolding_all refine iter_rangeTurns (n := n) rfl hR ?hs1 ?hs2 fF nN ?_
  case hs1 => exact bsw_small hb hbb ha hsz
  case hs2 => exact bsw_rs hb hsz
  clear fF nN
  intro I hI
  k_lt hI
  refine rest_ind (fun i m' news' => Kept m' news' [(Str.ofString "swapped_data", Value.ref D), (Str.ofString "data", Value.bytes l.toArray ta), (Str.ofString "width", Value.int b tb)] fun nw => ∃ (x : Array UInt8), nw = [(D, baObj x)] ∧ x.size = l.length ∧ ∀ k, k < i * b → x.getD k 0 = l.getD (k / b * b + (b - 1 - k % b)) 0) ?_ ?_ ⟨⟨rfl, rfl, rfl, trivial⟩, _, rfl, by simp, fun k hk => by simp at hk⟩ trivial
  · intro i c m' news' v h₂ tk₂ hc hJ _ hv hF
    obtain ⟨hin, rfl⟩ := rangeItems_get hc
    refine cutG fun PC hPC => ?_
    obtain ⟨hkn, x, rfl, hx1, hx2⟩ := hJ
    refine hPC ?_
    clear hPC PC
    obtain ⟨t₂, rfl⟩ := hv
    replace hF := knows_fr hF hkn; dsimp only [knowF] at hF
    ktu_objs
    (repeat' (first | (k_unfold; (try dsimp only)) | (k_end; wrow_close) | ((with_reducible show wpAny _ _ (exec _ _) _ _ _); k_fold; (first | ((with_reducible show wpAny _ _ (exec (Stmt.For (PySem.Expr.Name _ _) (PySem.Expr.Call _ _ _ _) _ _ _) _) _ _ _); k_here; (rename Fr _ _ _ _ => lF'); (with_unfolding_all refine' For_turns lF' ?_); k_whole) | walk1)) | ((with_reducible show wpAny _ _ (exec (Stmt.For (PySem.Expr.Name _ _) (PySem.Expr.Call _ _ _ _) _ _ _) _) _ _ _); k_here; (rename Fr _ _ _ _ => lF'); (with_unfolding_all refine' For_turns lF' ?_); k_whole) | walk1 | (dsimp only; (first | ((with_reducible show wpAny _ _ (exec (Stmt.For (PySem.Expr.Name _ _) (PySem.Expr.Call _ _ _ _) _ _ _) _) _ _ _); k_here; (rename Fr _ _ _ _ => lF'); (with_unfolding_all refine' For_turns lF' ?_); k_whole) | walk1)) | (leave1; walk_say "STEP leave1"; try dsimp only) | fail "no step"))
    have hib : i * b + b ≤ n * b := by rw [← Nat.succ_mul]; exact Nat.mul_le_mul_right b hin
    have hib' : (i : Int) * b + b ≤ (n : Int) * b := by exact_mod_cast hib
    have hsz' : (l.length : Int) = (n : Int) * b := by exact_mod_cast hsz
    have h0' : 0 ≤ (i : Int) * b := by exact_mod_cast Nat.zero_le _
    (rename IsRange _ _ _ _ _ _ _ _ => rR)
    (rename Fr _ _ _ _ => fF)
    (rename News _ _ _ _ => nN)
    with_unfolding_all refine iter_rangeTurns (n := b) rfl rR ?hs3 ?hs4 fF nN ?_
    case hs3 => exact small_one (a := 0) (b := (b : Int)) (by omega) (by omega) (by omega) (by omega)
    case hs4 => exact range_one b
    clear fF nN
    intro I₂ hI₂
    k_lt hI₂
    (rename Obj => oo)
    refine rest_ind (fun j m' news' => Kept m' news' [(Str.ofString "i", Value.int (0 + i * b) t₂), (Str.ofString "swapped_data", Value.ref D), (Str.ofString "data", Value.bytes l.toArray ta), (Str.ofString "width", Value.int b tb)] fun nw => ∃ (x : Array UInt8), nw = [(I, oo), (D, baObj x)] ∧ x.size = l.length ∧ ∀ k, (k < i * b ∨ (k < i * b + b ∧ i * b + b ≤ k + j)) → x.getD k 0 = l.getD (k / b * b + (b - 1 - k % b)) 0) ?_ ?_ ⟨⟨rfl, rfl, rfl, rfl, trivial⟩, _, rfl, hx1, fun k hk => hx2 k (by omega)⟩ trivial
    · intro j c m' news' v h₃ tk₃ hc hJ _ hv hF
      obtain ⟨hjn, rfl⟩ := rangeItems_get hc
      refine cutG fun PC hPC => ?_
      obtain ⟨hkn, x', rfl, hy1, hy2⟩ := hJ
      refine hPC ?_
      clear hPC PC
      obtain ⟨t₃, rfl⟩ := hv
      replace hF := knows_fr hF hkn; dsimp only [knowF] at hF
      ktu_objs
      (repeat' (first | (k_unfold; (try dsimp only)) | (k_end; wrow_close) | ((with_reducible show wpAny _ _ (exec _ _) _ _ _); k_fold; (first | (k_here; (with_reducible show wpAny _ _ (setItem (Value.ref _) (Value.int _ _) (Value.int _ _)) _ _ _); k_dflt (refine' ba_setF ?k1 ?k2 ?k3 ?k4 ?k5 ?k6 ?k7 ?k8 ?_; (case k1 => k_asm); (case k2 => k_asm); (case k3 => k_upd); (case k4 => omega); (case k5 => omega); (case k6 => exact Int.natCast_nonneg _); (case k7 => exact u8_lt _); (case k8 => omega); k_whole); (intro _ _ _)) | ((with_reducible show wpAny _ _ (exec (Stmt.For (PySem.Expr.Name _ _) (PySem.Expr.Call _ _ _ _) _ _ _) _) _ _ _); k_here; (rename Fr _ _ _ _ => lF'); (with_unfolding_all refine' For_turns lF' ?_); k_whole) | walk1)) | (k_here; (with_reducible show wpAny _ _ (setItem (Value.ref _) (Value.int _ _) (Value.int _ _)) _ _ _); k_dflt (refine' ba_setF ?k1 ?k2 ?k3 ?k4 ?k5 ?k6 ?k7 ?k8 ?_; (case k1 => k_asm); (case k2 => k_asm); (case k3 => k_upd); (case k4 => omega); (case k5 => omega); (case k6 => exact Int.natCast_nonneg _); (case k7 => exact u8_lt _); (case k8 => omega); k_whole); (intro _ _ _)) | ((with_reducible show wpAny _ _ (exec (Stmt.For (PySem.Expr.Name _ _) (PySem.Expr.Call _ _ _ _) _ _ _) _) _ _ _); k_here; (rename Fr _ _ _ _ => lF'); (with_unfolding_all refine' For_turns lF' ?_); k_whole) | walk1 | (dsimp only; (first | (k_here; (with_reducible show wpAny _ _ (setItem (Value.ref _) (Value.int _ _) (Value.int _ _)) _ _ _); k_dflt (refine' ba_setF ?k1 ?k2 ?k3 ?k4 ?k5 ?k6 ?k7 ?k8 ?_; (case k1 => k_asm); (case k2 => k_asm); (case k3 => k_upd); (case k4 => omega); (case k5 => omega); (case k6 => exact Int.natCast_nonneg _); (case k7 => exact u8_lt _); (case k8 => omega); k_whole); (intro _ _ _)) | ((with_reducible show wpAny _ _ (exec (Stmt.For (PySem.Expr.Name _ _) (PySem.Expr.Call _ _ _ _) _ _ _) _) _ _ _); k_here; (rename Fr _ _ _ _ => lF'); (with_unfolding_all refine' For_turns lF' ?_); k_whole) | walk1)) | (leave1; walk_say "STEP leave1"; try dsimp only) | fail "no step"))
      refine ⟨⟨rfl, rfl, rfl, rfl, trivial⟩, _, rfl, by rw [Array.size_setIfInBounds]; exact hy1, fun k hk => ?_⟩
      exact bsw_step hb hjn (by omega) hy1 hy2 k hk
    · intro m' news' h₃ tk₃ hJ hF hN
      refine cutG fun PC hPC => ?_
      obtain ⟨hkn, x', rfl, hy1, hy2⟩ := hJ
      refine hPC ?_
      clear hPC PC
      replace hF := knows_fr hF hkn; dsimp only [knowF] at hF
      (repeat' (first | (k_unfold; (try dsimp only)) | (k_end; wrow_close) | (k_here; (with_reducible show wpAny _ _ (setItem (Value.ref _) (Value.int _ _) (Value.int _ _)) _ _ _); k_dflt (refine' ba_setF ?k1 ?k2 ?k3 ?k4 ?k5 ?k6 ?k7 ?k8 ?_; (case k1 => k_asm); (case k2 => k_asm); (case k3 => k_upd); (case k4 => omega); (case k5 => omega); (case k6 => exact Int.natCast_nonneg _); (case k7 => exact u8_lt _); (case k8 => omega); k_whole); (intro _ _ _)) | ((with_reducible show wpAny _ _ (exec (Stmt.For (PySem.Expr.Name _ _) (PySem.Expr.Call _ _ _ _) _ _ _) _) _ _ _); k_here; (rename Fr _ _ _ _ => lF'); (with_unfolding_all refine' For_turns lF' ?_); k_whole) | walk1 | (dsimp only; (first | (k_here; (with_reducible show wpAny _ _ (setItem (Value.ref _) (Value.int _ _) (Value.int _ _)) _ _ _); k_dflt (refine' ba_setF ?k1 ?k2 ?k3 ?k4 ?k5 ?k6 ?k7 ?k8 ?_; (case k1 => k_asm); (case k2 => k_asm); (case k3 => k_upd); (case k4 => omega); (case k5 => omega); (case k6 => exact Int.natCast_nonneg _); (case k7 => exact u8_lt _); (case k8 => omega); k_whole); (intro _ _ _)) | ((with_reducible show wpAny _ _ (exec (Stmt.For (PySem.Expr.Name _ _) (PySem.Expr.Call _ _ _ _) _ _ _) _) _ _ _); k_here; (rename Fr _ _ _ _ => lF'); (with_unfolding_all refine' For_turns lF' ?_); k_whole) | walk1)) | (leave1; walk_say "STEP leave1"; try dsimp only) | fail "no step"))
      rw [rangeItems_length] at hy2
      refine ⟨⟨rfl, rfl, rfl, trivial⟩, _, rfl, hy1, fun k hk => hy2 k ?_⟩
      rw [Nat.succ_mul] at hk
      omega
  · intro m' news' h₃ tk₃ hJ hF hN
    rw [rangeItems_length] at hJ
    refine cutG fun PC hPC => ?_
    obtain ⟨hkn, x', rfl, hy1, hy2⟩ := hJ
    refine hPC ?_
    clear hPC PC
    replace hF := knows_fr hF hkn; dsimp only [knowF] at hF
    (repeat' (first | (k_unfold; (try dsimp only)) | (k_end; wrow_close) | (k_here; (with_reducible show wpAny _ _ (call (Value.type _) [Value.ref _]) _ _ _); (refine' ba_bytesF ?k1 ?k2 ?k3 ?k4 ?_; (case k1 => k_asm); (case k2 => k_asm); (case k3 => k_mem); (case k4 => omega); k_whole); (intro _ _)) | (k_here; (with_reducible show wpAny _ _ (setItem (Value.ref _) (Value.int _ _) (Value.int _ _)) _ _ _); k_dflt (refine' ba_setF ?k1 ?k2 ?k3 ?k4 ?k5 ?k6 ?k7 ?k8 ?_; (case k1 => k_asm); (case k2 => k_asm); (case k3 => k_upd); (case k4 => omega); (case k5 => omega); (case k6 => exact Int.natCast_nonneg _); (case k7 => exact u8_lt _); (case k8 => omega); k_whole); (intro _ _ _)) | ((with_reducible show wpAny _ _ (exec (Stmt.For (PySem.Expr.Name _ _) (PySem.Expr.Call _ _ _ _) _ _ _) _) _ _ _); k_here; (rename Fr _ _ _ _ => lF'); (with_unfolding_all refine' For_turns lF' ?_); k_whole) | walk1 | (dsimp only; (first | (k_here; (with_reducible show wpAny _ _ (call (Value.type _) [Value.ref _]) _ _ _); (refine' ba_bytesF ?k1 ?k2 ?k3 ?k4 ?_; (case k1 => k_asm); (case k2 => k_asm); (case k3 => k_mem); (case k4 => omega); k_whole); (intro _ _)) | (k_here; (with_reducible show wpAny _ _ (setItem (Value.ref _) (Value.int _ _) (Value.int _ _)) _ _ _); k_dflt (refine' ba_setF ?k1 ?k2 ?k3 ?k4 ?k5 ?k6 ?k7 ?k8 ?_; (case k1 => k_asm); (case k2 => k_asm); (case k3 => k_upd); (case k4 => omega); (case k5 => omega); (case k6 => exact Int.natCast_nonneg _); (case k7 => exact u8_lt _); (case k8 => omega); k_whole); (intro _ _ _)) | ((with_reducible show wpAny _ _ (exec (Stmt.For (PySem.Expr.Name _ _) (PySem.Expr.Call _ _ _ _) _ _ _) _) _ _ _); k_here; (rename Fr _ _ _ _ => lF'); (with_unfolding_all refine' For_turns lF' ?_); k_whole) | walk1)) | (leave1; walk_say "STEP leave1"; try dsimp only) | fail "no step"))
    (rename Fr _ _ _ _ => fF)
    exact ret _ _ _ fF.keep ⟨_, congrArg (Value.bytes · _) (bsw_done hsz hy1 hy2)⟩

end Mine
end

section
set_option maxRecDepth 100000
open PySem PySem.W PyProof.Rows PySem.Calls PySem.Spec
namespace Mine
/-- a dict of ints, told by its pairs -/
inductive IsI : List (Int × Value) → List (Int × Int) → Prop
  | nil : IsI [] []
  | cons {kvs ns} (k x : Int) (t : Tok) : IsI kvs ns → IsI ((k, .int x t) :: kvs) ((k, x) :: ns)
noncomputable def lookI : List (Int × Int) → Int → Option Int
  | [], _ => none
  | p :: r, k => if p.1 = k then some p.2 else lookI r k
noncomputable def putI : List (Int × Int) → Int → Int → List (Int × Int)
  | [], k, x => [(k, x)]
  | p :: r, k, x => if p.1 = k then (k, x) :: r else p :: putI r k x
theorem IsI.length {kvs ns} (h : IsI kvs ns) : kvs.length = ns.length := by induction h <;> simp_all
theorem IsI.get {kvs ns} (h : IsI kvs ns) : ∀ {i : Nat} {k : Int} {v : Value}, kvs[i]? = some (k, v) → ∃ (x : Int) (t : Tok), v = Value.int x t ∧ ns[i]? = some (k, x) := by
  induction h with
  | nil => intro i k v h; simp at h
  | cons k x t _ ih =>
    intro i k' v h
    cases i with
    | zero => simp at h; obtain ⟨rfl, rfl⟩ := h; exact ⟨x, t, rfl, rfl⟩
    | succ i => simp at h; obtain ⟨x', t', e, e'⟩ := ih h; exact ⟨x', t', e, by simpa using e'⟩
theorem IsI.keys {kvs ns} (h : IsI kvs ns) : kvs.map (·.1) = ns.map (·.1) := by induction h <;> simp_all
theorem IsI.value {kvs ns} (h : IsI kvs ns) (k : Int) : (∃ (x : Int) (t : Tok), valueAt kvs k = some (Value.int x t) ∧ lookI ns k = some x) ∨ (valueAt kvs k = none ∧ lookI ns k = none) := by
  induction h with
  | nil => exact .inr ⟨rfl, rfl⟩
  | @cons kvs ns k' x t _ ih =>
    by_cases e : k' = k
    · exact .inl ⟨x, t, by simp [valueAt, e], by simp [lookI, e]⟩
    · rcases ih with ⟨x', t', e1, e2⟩ | ⟨e1, e2⟩
      · exact .inl ⟨x', t', by rw [← e1]; simp [valueAt, e], by simp [lookI, e, e2]⟩
      · exact .inr ⟨by rw [← e1]; simp [valueAt, e], by simp [lookI, e, e2]⟩
theorem putI_put {ns : List (Int × Int)} {k x : Int} (hn : (ns.map (·.1)).Nodup) : putI ns k x = if ns.any (fun p => p.1 = k) then ns.map (fun p => if p.1 = k then (p.1, x) else p) else ns ++ [(k, x)] := by
  induction ns with
  | nil => simp [putI]
  | cons p r ih =>
    simp only [List.map_cons, List.nodup_cons] at hn
    by_cases e : p.1 = k
    · have hne : ∀ q ∈ r, ¬ q.1 = k := fun q hq e' => hn.1 (List.mem_map.mpr ⟨q, hq, e'.trans e.symm⟩)
      have hr : r.map (fun p => if p.1 = k then (p.1, x) else p) = r := by
        conv => rhs; rw [← List.map_id r]
        exact List.map_congr_left fun q hq => by simp [hne q hq]
      simp only [putI, e, if_true, List.any_cons, decide_true, Bool.true_or, List.map_cons, hr]
    · rw [putI, if_neg e, ih hn.2]
      simp only [List.any_cons, e, decide_false, Bool.false_or, List.map_cons, if_false]
      split <;> simp
theorem isI_map {kvs ns} (h : IsI kvs ns) (k x : Int) (t : Tok) : IsI (kvs.map fun kv => if kv.1 = k then (kv.1, Value.int x t) else kv) (ns.map fun p => if p.1 = k then (p.1, x) else p) := by
  induction h with
  | nil => exact .nil
  | @cons kvs ns k' x' t' _ ih =>
    show IsI ((if k' = k then (k', Value.int x t) else (k', Value.int x' t')) :: kvs.map _) ((if k' = k then (k', x) else (k', x')) :: ns.map _)
    by_cases e : k' = k
    · rw [if_pos e, if_pos e]; exact .cons _ _ _ ih
    · rw [if_neg e, if_neg e]; exact .cons _ _ _ ih
theorem isI_app {kvs ns} (h : IsI kvs ns) (k x : Int) (t : Tok) : IsI (kvs ++ [(k, Value.int x t)]) (ns ++ [(k, x)]) := by
  induction h with
  | nil => exact .cons _ _ _ .nil
  | cons k' x' t' _ ih => exact .cons _ _ _ ih
theorem IsI.put {kvs ns} (h : IsI kvs ns) (hn : (kvs.map (·.1)).Nodup) (k x : Int) (t : Tok) : IsI (stored kvs k (Value.int x t)) (putI ns k x) := by
  rw [putI_put (by rw [← h.keys]; exact hn)]
  have ha : kvs.any (fun kv => decide (kv.1 = k)) = ns.any (fun p => decide (p.1 = k)) := by
    clear hn
    induction h with
    | nil => rfl
    | cons k' x' t' _ ih => simp only [List.any_cons, ih]
  unfold stored
  rw [ha]
  split
  · exact isI_map h k x t
  · exact isI_app h k x t
section
variable {prog : Program} {w : World} {A : Around} {E : Value → Shared → Prop} {s : Shared} {env : Env} {h₀ : Heap} {target : PySem.Expr} {body : List Stmt} {Q : Flow → Shared → Prop} {kvs : List (Int × Value)}
noncomputable def dictItems (kvs : List (Int × Value)) : List Itm := kvs.map fun p => .pair (fun t => .int p.1 t) p.2
theorem dictItems_length : (dictItems kvs).length = kvs.length := List.length_map _
theorem dictItems_get {i : Nat} {x : Itm} (h : (dictItems kvs)[i]? = some x) : ∃ k v, kvs[i]? = some (k, v) ∧ x = .pair (fun t => .int k t) v := by
  rw [dictItems, List.getElem?_map] at h
  cases e : kvs[i]? with
  | none => rw [e] at h; exact nomatch h
  | some p => rw [e] at h; exact ⟨p.1, p.2, rfl, (Option.some.inj h).symm⟩
/-- a dict that stands in the ground, by its items -/
theorem gd_items {elts : List PySem.Expr} {kk : Nat} {pos : Pos} {d vw : Addr} {od : Obj} {m₀ : Str → Option Value} {news : List (Addr × Obj)}
    (hh : A.handled = none) (F : Fr h₀ env.locals s.heap m₀) (N : News h₀ env.locals s.heap news) (hvw : ∃ ov, s.heap.get? vw = some ov ∧ ov.cls = .type "dict_items" ∧ ov.data = .fields #[.ref d]) (hm : h₀.get? d = some od) (hd : od.IsDictOf (intKind prog w) kvs)
    (rest₀ : ∀ I : Addr, (∀ p ∈ news, p.1 < I) → ItemsRest prog w A E h₀ env (.Tuple elts kk pos) body Q s [(I, "dict_itemiterator")] [] (dictItems kvs) m₀ news) :
    wpAny (model prog w) A (pyIter (.ref vw)) (fun it s₂ => TurnsAt prog w A h₀ env (.Tuple elts kk pos) body Q E it s₂) E s := by
  have hdo : s.heap.DictOf (intKind prog w) d kvs := Heap.dictOf_iff.mpr ⟨od, F.keep _ _ hm, hd⟩
  obtain ⟨ep, hat⟩ := hdo.dictAt
  have hne : d ≠ s.heap.objs.size := Nat.ne_of_lt hat.lt_size
  refine wpAny_pyIter_items hvw hat ?_
  refine ktg_core (tk0 := s.toks) (keep := []) (kti_itemsTurns (knd := intKind prog w) hh s.heap.objs.size d hne kvs ep) (by rw [dictItems_length]) ?_ ?_ ?_ ?_ ?_ ?_ ?_ ?_ (F.push _) (fun p hp => ⟨Heap.get?_push_of_some _ (N p hp).1, (N p hp).2⟩) trivial (rest₀ _ fun p hp => Heap.lt_size (N p hp).1)
  · rintro i v h ⟨T', key, k, x, rfl, hx, hk, hT⟩
    obtain ⟨t, rfl⟩ := Value.isInt_shape hk
    exact ⟨.pair (fun t => .int k t) x, by rw [dictItems, List.getElem?_map, hx]; rfl, T', t, rfl, hT⟩
  · rintro i h ⟨⟨ok, ov, he⟩, _⟩
    have e1 : ∃ o : Obj, h.get? s.heap.objs.size = some o ∧ o.cls = .type "dict_itemiterator" := ⟨_, he, rfl⟩
    obtain ⟨oi, g, c⟩ := e1
    exact ⟨[(s.heap.objs.size, oi)], ⟨⟨rfl, c⟩, trivial⟩, fun p hp => by rw [List.mem_singleton.mp hp]; exact g⟩
  · intro b hb
    have hb' : b = s.heap.objs.size := by simpa using hb
    rw [hb']
    exact ⟨List.mem_cons_self .., next_is_new F⟩
  · intro b hb
    simpa using hb
  · intro b hb
    have hb' : b = s.heap.objs.size ∨ b = d := by simpa using hb
    rcases hb' with e | e
    · exact .inl (by simp [e])
    · exact .inr (.inr ⟨od, by rw [e]; exact hm⟩)
  · intro hI
    have hb' : env.locals = s.heap.objs.size ∨ env.locals = d := by simpa using hI
    rcases hb' with e | e
    · exact absurd F.ns.lt (e ▸ Nat.lt_irrefl _)
    · exact absurd (Heap.lt_size hm) (Nat.not_lt.mpr (e ▸ F.above))
  · intro p hp hI
    exact absurd (Heap.lt_size (N p hp).1) ((List.mem_singleton.mp hI) ▸ Nat.lt_irrefl _)
  · exact ⟨⟨.none, .none, Heap.get?_push_size _ rfl⟩, hat.push _⟩
end
section
variable {prog : Program} {w : World} {A : Around} {E : Value → Shared → Prop} {s : Shared} {h₀ : Heap} {L d : Addr} {m : Str → Option Value} {news : List (Addr × Obj)} {od : Obj} {kvs : List (Int × Value)}
theorem gd_method {pl : Sem Bool} {Q : Value × List Value → Shared → Prop} (F : Fr h₀ L s.heap m) (hm : h₀.get? d = some od) (hd : od.IsDictOf (intKind prog w) kvs) (h : Q (.builtin "dict.items", [.ref d]) s) :
    wpAny (model prog w) A (getMethod (.ref d) (Str.ofString "items") pl) Q E s :=
  have hD : s.heap.DictOf (intKind prog w) d kvs := Heap.dictOf_iff.mpr ⟨od, F.keep _ _ hm, hd⟩
  getMethod_builtin hD.typeIs PySem.F.plainAttrs_dict PySem.F.slot_dict_items PySem.F.type_dict_items hD.mapOf.noDict h
theorem gd_call {R : Value → Shared → Prop} (F : Fr h₀ L s.heap m) (N : News h₀ L s.heap news) (hm : h₀.get? d = some od) (hd : od.IsDictOf (intKind prog w) kvs) (lo : (d == sysModules) = false)
    (h : ∀ h', (∃ ov, h'.get? s.heap.objs.size = some ov ∧ ov.cls = .type "dict_items" ∧ ov.data = .fields #[.ref d]) → Fr h₀ L h' m → News h₀ L h' news → R (.ref s.heap.objs.size) { s with heap := h' }) : wpAny (model prog w) A (call (.builtin "dict.items") [.ref d]) R E s :=
  have hD : s.heap.DictOf (intKind prog w) d kvs := Heap.dictOf_iff.mpr ⟨od, F.keep _ _ hm, hd⟩
  call_meetsIn PySem.F.slot_dict_items hD.typeIs PySem.F.entry_dict_items (PySem.F.args_dict_items_1 _) (meets_dict_items (intKind prog w) d lo) ⟨⟨kvs, hD⟩, h _ ⟨_, Heap.get?_push_size _ rfl, rfl, rfl⟩ (F.push _) fun p hp => ⟨Heap.get?_push_of_some _ (N p hp).1, (N p hp).2⟩⟩
end
end Mine
end

section
set_option maxRecDepth 100000
open PySem PySem.W PyProof.Rows PySem.Calls PySem.Spec
namespace Mine
noncomputable def DictI (prog : Program) (w : World) (h : Heap) (a : Addr) (ns : List (Int × Int)) : Prop := ∃ o kvs, h.get? a = some o ∧ o.IsDictOf (intKind prog w) kvs ∧ IsI kvs ns
noncomputable def addI (nt ns : List (Int × Int)) : List (Int × Int) :=
  ns.foldl (fun acc p => putI acc p.1 (match lookI acc p.1 with | some y => y + p.2 | none => p.2)) (nt.foldl (fun acc p => putI acc p.1 p.2) [])
theorem putI_length (ns : List (Int × Int)) (k x : Int) : (putI ns k x).length ≤ ns.length + 1 := by
  induction ns with
  | nil => simp [putI]
  | cons p r ih => unfold putI; split <;> simp <;> omega
theorem dictOf_nodup {prog : Program} {w : World} {o : Obj} {kvs : List (Int × Value)} (h : o.IsDictOf (intKind prog w) kvs) : (kvs.map (·.1)).Nodup := let ⟨_, _, _, _, _, _, hn⟩ := h; hn
/-- the new table in its ledger -/
noncomputable def Tab (prog : Program) (w : World) (D : Addr) (acc : List (Int × Int)) (n : Nat) (nw : List (Addr × Obj)) : Prop :=
  ∃ o kvs, nw = [(D, o)] ∧ o.IsDictOf (intKind prog w) kvs ∧ IsI kvs acc ∧ acc.length ≤ n
theorem tab_put {prog : Program} {w : World} {D : Addr} {acc : List (Int × Int)} {n : Nat} {o : Obj} {kvs : List (Int × Value)} {k x : Int} {t : Tok} (h0 : (kvs.map (·.1)).Nodup) (hd : o.IsDictOf (intKind prog w) (stored kvs k (.int x t))) (hi : IsI kvs acc) (hl : acc.length ≤ n) :
    Tab prog w D (putI acc k x) (n + 1) [(D, o)] := ⟨o, _, rfl, hd, hi.put h0 k x t, Nat.le_trans (putI_length acc k x) (by omega)⟩
theorem take_fold {α β : Type} (f : β → α → β) (z : β) (l : List α) (i : Nat) (a : α) (h : l[i]? = some a) : (l.take (i + 1)).foldl f z = f ((l.take i).foldl f z) a := by
  rw [List.take_add_one, h]; simp
theorem kda_get {prog : Program} {w : World} {A : Around} {E : Value → Shared → Prop} {s : Shared} {h₀ : Heap} {L d : Addr} {news : List (Addr × Obj)} {o : Obj} {kvs : List (Int × Value)} {k : Int} {t : Tok} {v : Value} {Q : Value → Shared → Prop} (N : News h₀ L s.heap news) (hp : (d, o) ∈ news) (hd : o.IsDictOf (intKind prog w) kvs) (hl : valueAt kvs k = some v) (h : Q v { s with toks := s.toks + 1 }) :
    wpAny (model prog w) A (getItem (.ref d) (.int k t)) Q E s := wpAny_getItem_of (intKind_is _ _ _ _) (kda_dict N hp hd).mapOf hl h
set_option maxHeartbeats 8000000 in
theorem con_addc (w : World) (T S : Addr) (nt ns : List (Int × Int)) (hnt : nt.length ≤ 50) (hns : ns.length ≤ 50) : Pur PySem.Challenge.rw_zo0028_01.row.prog w (Pre.hc.heap_1 w.params) 91 [.ref T, .ref S] (fun h => DictI PySem.Challenge.rw_zo0028_01.row.prog w h T nt ∧ DictI PySem.Challenge.rw_zo0028_01.row.prog w h S ns ∧ (T == sysModules) = false ∧ (S == sysModules) = false) 20 200 (fun h r h' => ∃ a o kvs, r = .ref a ∧ h.get? a = none ∧ h'.get? a = some o ∧ o.IsDictOf (intKind PySem.Challenge.rw_zo0028_01.row.prog w) kvs ∧ IsI kvs (addI nt ns) ∧ (a == sysModules) = false) := by
  w_top off
  k_fill
  unfold Pur
  intro p loose mean mg mb dp u fr gd s Q E X hTop hd hu hp ret
  refine cutG fun PC hPC => ?_
  obtain ⟨⟨oT, kT, hT1, hT2, hT3⟩, ⟨oS, kS, hS1, hS2, hS3⟩, hTm, hSm⟩ := hp
  refine hPC ?_
  clear hPC PC
  refine wpAny_call ?_
  k_dflt (first | (refine' enterP ?k3 ?k5 ?k6 ?k7 ?k8 ?k9 ?kB ?_ ?c2 ?c3 ?c4 ?c5; (case k3 => k_asm); (case k5 => k_asm); (case k6 => k_is); (case k7 => k_is); (case k8 => k_room); (case k9 => exact BindsTo.of_eq rfl); (case c5 => decide); (case kB => exact locs rfl); (case c2 => exact rfl); (case c3 => exact rfl); (case c4 => exact rfl); k_whole; intro g' L' h' hg' F' N' X' T'; subst hg'; (try dsimp only [List.filterMap, List.map, List.zip, List.append_nil, List.lookup]); (try k_fold)) | (refine' enterC ?k3 ?k5 ?k6 ?k7 ?k8 ?k9 ?kB ?kD ?_ ?c2 ?c3 ?c4; (case k3 => k_asm); (case k5 => k_asm); (case k6 => k_is); (case k7 => k_is); (case k8 => k_room); (case k9 => exact BindsTo.of_eq rfl); (case kB => exact rfl); (case kD => decide +kernel); (case c2 => exact rfl); (case c3 => exact rfl); (case c4 => exact rfl); k_whole; intro g' L' h' tk' cells' hg' F' N' Y' X' T'; subst hg'; k_cells Y'; (try dsimp only); (try k_fold)))
  (repeat' (first | (k_unfold; (try dsimp only)) | (k_end; wrow_close) | ((with_reducible show wpAny _ _ (call (Value.builtin "dict.items") _ _) _ _ _); k_here; (refine' gd_call ?k1 ?k2 ?k3 ?k4 ?k5 ?_; (case k1 => k_asm); (case k2 => k_asm); (case k3 => assumption); (case k4 => assumption); (case k5 => assumption); k_whole); intro _ _ _ _) | (k_here; (with_reducible show wpAny _ _ (getMethod (Value.ref _) (Str.ofString "items") _) _ _ _); (refine' gd_method ?k1 ?k2 ?k3 ?_; (case k1 => k_asm); (case k2 => assumption); (case k3 => assumption); k_whole)) | ((with_reducible show wpAny _ _ (exec (Stmt.For (PySem.Expr.Tuple _ _ _) (PySem.Expr.Call _ _ _ _) _ _ _) _) _ _ _); k_here; (rename Fr _ _ _ _ => lF'); (with_unfolding_all refine' For_turns lF' ?_); k_whole) | walk1 | (dsimp only; (first | ((with_reducible show wpAny _ _ (call (Value.builtin "dict.items") _ _) _ _ _); k_here; (refine' gd_call ?k1 ?k2 ?k3 ?k4 ?k5 ?_; (case k1 => k_asm); (case k2 => k_asm); (case k3 => assumption); (case k4 => assumption); (case k5 => assumption); k_whole); intro _ _ _ _) | (k_here; (with_reducible show wpAny _ _ (getMethod (Value.ref _) (Str.ofString "items") _) _ _ _); (refine' gd_method ?k1 ?k2 ?k3 ?_; (case k1 => k_asm); (case k2 => assumption); (case k3 => assumption); k_whole)) | ((with_reducible show wpAny _ _ (exec (Stmt.For (PySem.Expr.Tuple _ _ _) (PySem.Expr.Call _ _ _ _) _ _ _) _) _ _ _); k_here; (rename Fr _ _ _ _ => lF'); (with_unfolding_all refine' For_turns lF' ?_); k_whole) | walk1)) | (leave1; walk_say "STEP leave1"; try dsimp only) | fail "no step"))
  (rename Fr _ _ _ _ => fF)
  (rename News _ _ _ _ => nN)
  (rename (_ == sysModules) = false => lo)
  (rename ∃ _, _ => hv)
  (rename Addr => D)
  (rename Obj.IsDictOf (intKind _ _) _ [] => hdi)
  with_unfolding_all refine gd_items (kvs := kT) rfl fF nN hv hT1 hT2 ?_
  intro I hI
  k_lt hI
  refine rest_ind (fun i m' news' => Kept m' news' [(Str.ofString "new_callers", Value.ref D), (Str.ofString "target", Value.ref T), (Str.ofString "source", Value.ref S)] (Tab PySem.Challenge.rw_zo0028_01.row.prog w D ((nt.take i).foldl (fun acc p => putI acc p.1 p.2) []) i)) ?_ ?_ ⟨⟨rfl, rfl, rfl, trivial⟩, _, _, rfl, hdi, .nil, Nat.le_refl _⟩ trivial
  · clear fF nN hv hdi
    intro i c m' news' v h₂ tk₂ hc hJ _ hv hF
    refine cutG fun PC hPC => ?_
    obtain ⟨k, v₁, hkv, rfl⟩ := dictItems_get hc
    refine hPC ?_
    clear hPC PC
    refine cutG fun PC hPC => ?_
    obtain ⟨x, t, rfl, hnx⟩ := hT3.get hkv
    refine hPC ?_
    clear hPC PC
    refine cutG fun PC hPC => ?_
    obtain ⟨hkn, o, kvs, rfl, hdk, hik, hlk⟩ := hJ
    refine hPC ?_
    clear hPC PC
    refine cutG fun PC hPC => ?_
    obtain ⟨T₂, t₂, rfl, hT₂⟩ := hv
    refine hPC ?_
    clear hPC PC
    replace hF := knows_fr hF hkn; dsimp only [knowF] at hF
    have hi50 : i < nt.length := (List.getElem?_eq_some_iff.mp hnx).1
    have hlen : kvs.length ≤ 200 := by rw [hik.length]; omega
    have hnd := dictOf_nodup hdk
    clear hkn
    dsimp only at hT₂
    ktu_objs
    (repeat' (first | (k_unfold; (try dsimp only)) | (k_end; wrow_close) | ((with_reducible show wpAny _ _ (call (Value.builtin "dict.items") _ _) _ _ _); k_here; (refine' gd_call ?k1 ?k2 ?k3 ?k4 ?k5 ?_; (case k1 => k_asm); (case k2 => k_asm); (case k3 => assumption); (case k4 => assumption); (case k5 => assumption); k_whole); intro _ _ _ _) | (k_here; (with_reducible show wpAny _ _ (getMethod (Value.ref _) (Str.ofString "items") _) _ _ _); (refine' gd_method ?k1 ?k2 ?k3 ?_; (case k1 => k_asm); (case k2 => assumption); (case k3 => assumption); k_whole)) | ((with_reducible show wpAny _ _ (exec (Stmt.For (PySem.Expr.Tuple _ _ _) (PySem.Expr.Call _ _ _ _) _ _ _) _) _ _ _); k_here; (rename Fr _ _ _ _ => lF'); (with_unfolding_all refine' For_turns lF' ?_); k_whole) | ((with_reducible show wpAny _ _ (setItem (Value.ref _) (Value.int _ _) _) _ _ _); k_here; k_dflt (refine' kda_set (knd := PySem.intKind _ _) ?F ?N ?U ?d (intKind_is _ _ _ _) ?z ?_; (case F => k_asm); (case N => k_asm); (case U => k_updF); (case d => assumption); (case z => ((rename List.length _ ≤ 200 => hlen2); exact kdl_size (Nat.le_trans hlen2 (by decide))))); intro _ _ _ N' _; (try dsimp only at N')) | walk1 | (dsimp only; (first | ((with_reducible show wpAny _ _ (call (Value.builtin "dict.items") _ _) _ _ _); k_here; (refine' gd_call ?k1 ?k2 ?k3 ?k4 ?k5 ?_; (case k1 => k_asm); (case k2 => k_asm); (case k3 => assumption); (case k4 => assumption); (case k5 => assumption); k_whole); intro _ _ _ _) | (k_here; (with_reducible show wpAny _ _ (getMethod (Value.ref _) (Str.ofString "items") _) _ _ _); (refine' gd_method ?k1 ?k2 ?k3 ?_; (case k1 => k_asm); (case k2 => assumption); (case k3 => assumption); k_whole)) | ((with_reducible show wpAny _ _ (exec (Stmt.For (PySem.Expr.Tuple _ _ _) (PySem.Expr.Call _ _ _ _) _ _ _) _) _ _ _); k_here; (rename Fr _ _ _ _ => lF'); (with_unfolding_all refine' For_turns lF' ?_); k_whole) | ((with_reducible show wpAny _ _ (setItem (Value.ref _) (Value.int _ _) _) _ _ _); k_here; k_dflt (refine' kda_set (knd := PySem.intKind _ _) ?F ?N ?U ?d (intKind_is _ _ _ _) ?z ?_; (case F => k_asm); (case N => k_asm); (case U => k_updF); (case d => assumption); (case z => ((rename List.length _ ≤ 200 => hlen2); exact kdl_size (Nat.le_trans hlen2 (by decide))))); intro _ _ _ N' _; (try dsimp only at N')) | walk1)) | (leave1; walk_say "STEP leave1"; try dsimp only) | fail "no step"))
    rw [take_fold _ _ _ _ _ hnx]
    refine ⟨⟨rfl, rfl, rfl, trivial⟩, tab_put hnd (by assumption) hik hlk⟩
  · clear fF nN hv hdi
    intro m' news' h₃ tk₃ hJ hF hN
    rw [dictItems_length, hT3.length, List.take_length] at hJ
    refine cutG fun PC hPC => ?_
    obtain ⟨hkn, o, kvs, rfl, hdk, hik, hlk⟩ := hJ
    refine hPC ?_
    clear hPC PC
    replace hF := knows_fr hF hkn; dsimp only [knowF] at hF
    clear hkn
    (repeat' (first | (k_unfold; (try dsimp only)) | (k_end; wrow_close) | ((with_reducible show wpAny _ _ (exec _ _) _ _ _); k_fold; (first | ((with_reducible show wpAny _ _ (call (Value.builtin "dict.items") _ _) _ _ _); k_here; (refine' gd_call ?k1 ?k2 ?k3 ?k4 ?k5 ?_; (case k1 => k_asm); (case k2 => k_asm); (case k3 => assumption); (case k4 => assumption); (case k5 => assumption); k_whole); intro _ _ _ _) | (k_here; (with_reducible show wpAny _ _ (getMethod (Value.ref _) (Str.ofString "items") _) _ _ _); (refine' gd_method ?k1 ?k2 ?k3 ?_; (case k1 => k_asm); (case k2 => assumption); (case k3 => assumption); k_whole)) | ((with_reducible show wpAny _ _ (exec (Stmt.For (PySem.Expr.Tuple _ _ _) (PySem.Expr.Call _ _ _ _) _ _ _) _) _ _ _); k_here; (rename Fr _ _ _ _ => lF'); (with_unfolding_all refine' For_turns lF' ?_); k_whole) | ((with_reducible show wpAny _ _ (setItem (Value.ref _) (Value.int _ _) _) _ _ _); k_here; k_dflt (refine' kda_set (knd := PySem.intKind _ _) ?F ?N ?U ?d (intKind_is _ _ _ _) ?z ?_; (case F => k_asm); (case N => k_asm); (case U => k_updF); (case d => assumption); (case z => ((rename List.length _ ≤ 200 => hlen2); exact kdl_size (Nat.le_trans hlen2 (by decide))))); intro _ _ _ N' _; (try dsimp only at N')) | walk1)) | ((with_reducible show wpAny _ _ (call (Value.builtin "dict.items") _ _) _ _ _); k_here; (refine' gd_call ?k1 ?k2 ?k3 ?k4 ?k5 ?_; (case k1 => k_asm); (case k2 => k_asm); (case k3 => assumption); (case k4 => assumption); (case k5 => assumption); k_whole); intro _ _ _ _) | (k_here; (with_reducible show wpAny _ _ (getMethod (Value.ref _) (Str.ofString "items") _) _ _ _); (refine' gd_method ?k1 ?k2 ?k3 ?_; (case k1 => k_asm); (case k2 => assumption); (case k3 => assumption); k_whole)) | ((with_reducible show wpAny _ _ (exec (Stmt.For (PySem.Expr.Tuple _ _ _) (PySem.Expr.Call _ _ _ _) _ _ _) _) _ _ _); k_here; (rename Fr _ _ _ _ => lF'); (with_unfolding_all refine' For_turns lF' ?_); k_whole) | ((with_reducible show wpAny _ _ (setItem (Value.ref _) (Value.int _ _) _) _ _ _); k_here; k_dflt (refine' kda_set (knd := PySem.intKind _ _) ?F ?N ?U ?d (intKind_is _ _ _ _) ?z ?_; (case F => k_asm); (case N => k_asm); (case U => k_updF); (case d => assumption); (case z => ((rename List.length _ ≤ 200 => hlen2); exact kdl_size (Nat.le_trans hlen2 (by decide))))); intro _ _ _ N' _; (try dsimp only at N')) | walk1 | (dsimp only; (first | ((with_reducible show wpAny _ _ (call (Value.builtin "dict.items") _ _) _ _ _); k_here; (refine' gd_call ?k1 ?k2 ?k3 ?k4 ?k5 ?_; (case k1 => k_asm); (case k2 => k_asm); (case k3 => assumption); (case k4 => assumption); (case k5 => assumption); k_whole); intro _ _ _ _) | (k_here; (with_reducible show wpAny _ _ (getMethod (Value.ref _) (Str.ofString "items") _) _ _ _); (refine' gd_method ?k1 ?k2 ?k3 ?_; (case k1 => k_asm); (case k2 => assumption); (case k3 => assumption); k_whole)) | ((with_reducible show wpAny _ _ (exec (Stmt.For (PySem.Expr.Tuple _ _ _) (PySem.Expr.Call _ _ _ _) _ _ _) _) _ _ _); k_here; (rename Fr _ _ _ _ => lF'); (with_unfolding_all refine' For_turns lF' ?_); k_whole) | ((with_reducible show wpAny _ _ (setItem (Value.ref _) (Value.int _ _) _) _ _ _); k_here; k_dflt (refine' kda_set (knd := PySem.intKind _ _) ?F ?N ?U ?d (intKind_is _ _ _ _) ?z ?_; (case F => k_asm); (case N => k_asm); (case U => k_updF); (case d => assumption); (case z => ((rename List.length _ ≤ 200 => hlen2); exact kdl_size (Nat.le_trans hlen2 (by decide))))); intro _ _ _ N' _; (try dsimp only at N')) | walk1)) | (leave1; walk_say "STEP leave1"; try dsimp only) | fail "no step"))
    (rename Fr _ _ _ _ => fF)
    (rename News _ _ _ _ => nN)
    (rename ∃ _, _ => hv)
    with_unfolding_all refine gd_items (kvs := kS) rfl fF nN hv hS1 hS2 ?_
    intro I₂ hI₂
    k_lt hI₂
    refine rest_ind (fun i m' news' => Kept m' news' [(Str.ofString "new_callers", Value.ref D), (Str.ofString "target", Value.ref T), (Str.ofString "source", Value.ref S)] (Tab PySem.Challenge.rw_zo0028_01.row.prog w D ((ns.take i).foldl (fun acc p => putI acc p.1 (match lookI acc p.1 with | some y => y + p.2 | none => p.2)) (nt.foldl (fun acc p => putI acc p.1 p.2) [])) (nt.length + i))) ?_ ?_ ⟨⟨rfl, rfl, rfl, trivial⟩, _, _, rfl, hdk, hik, hlk⟩ trivial
    · clear fF nN hv hdk hik hlk
      intro i c m' news' v h₂ tk₂ hc hJ _ hv hF
      refine cutG fun PC hPC => ?_
      obtain ⟨k, v₁, hkv, rfl⟩ := dictItems_get hc
      refine hPC ?_
      clear hPC PC
      refine cutG fun PC hPC => ?_
      obtain ⟨x, t, rfl, hnx⟩ := hS3.get hkv
      refine hPC ?_
      clear hPC PC
      refine cutG fun PC hPC => ?_
      obtain ⟨hkn, o, kvs, rfl, hdk, hik, hlk⟩ := hJ
      refine hPC ?_
      clear hPC PC
      refine cutG fun PC hPC => ?_
      obtain ⟨T₂, t₂, rfl, hT₂⟩ := hv
      refine hPC ?_
      clear hPC PC
      replace hF := knows_fr hF hkn; dsimp only [knowF] at hF
      have hi50 : i < ns.length := (List.getElem?_eq_some_iff.mp hnx).1
      have hlen : kvs.length ≤ 200 := by rw [hik.length]; omega
      have hnd := dictOf_nodup hdk
      clear hkn
      dsimp only at hT₂
      have hval := hik.value k
      ktu_objs
      rcases hval with ⟨y, t₃, hv1, hv2⟩ | ⟨hv1, hv2⟩
      · (repeat' (first | (k_unfold; (try dsimp only)) | (k_end; wrow_close) | ((with_reducible show wpAny _ _ (exec _ _) _ _ _); k_fold; (first | ((with_reducible show wpAny _ _ (call (Value.builtin "dict.items") _ _) _ _ _); k_here; (refine' gd_call ?k1 ?k2 ?k3 ?k4 ?k5 ?_; (case k1 => k_asm); (case k2 => k_asm); (case k3 => assumption); (case k4 => assumption); (case k5 => assumption); k_whole); intro _ _ _ _) | (k_here; (with_reducible show wpAny _ _ (getMethod (Value.ref _) (Str.ofString "items") _) _ _ _); (refine' gd_method ?k1 ?k2 ?k3 ?_; (case k1 => k_asm); (case k2 => assumption); (case k3 => assumption); k_whole)) | ((with_reducible show wpAny _ _ (exec (Stmt.For (PySem.Expr.Tuple _ _ _) (PySem.Expr.Call _ _ _ _) _ _ _) _) _ _ _); k_here; (rename Fr _ _ _ _ => lF'); (with_unfolding_all refine' For_turns lF' ?_); k_whole) | ((with_reducible show wpAny _ _ (compareOp CmpOp.In (Value.int _ _) (Value.ref _)) _ _ _); k_here; k_dflt (first | (refine' kda_in (knd := PySem.intKind _ _) ?N ?m ?d ?l (intKind_is _ _ _ _) true ?b ?_; (case N => k_asm); (case m => k_mem); (case d => assumption); (case l => assumption); (case b => (rename valueAt _ _ = some _ => hvv; rw [hvv]; rfl))) | (refine' kda_in (knd := PySem.intKind _ _) ?N ?m ?d ?l (intKind_is _ _ _ _) false ?b ?_; (case N => k_asm); (case m => k_mem); (case d => assumption); (case l => assumption); (case b => (rename valueAt _ _ = none => hvv; rw [hvv]; rfl))))) | ((with_reducible show wpAny _ _ (getItem (Value.ref _) (Value.int _ _)) _ _ _); k_here; k_dflt (refine' kda_get ?N ?m ?d ?l ?_; (case N => k_asm); (case m => k_mem); (case d => assumption); (case l => assumption))) | ((with_reducible show wpAny _ _ (setItem (Value.ref _) (Value.int _ _) _) _ _ _); k_here; k_dflt (refine' kda_set (knd := PySem.intKind _ _) ?F ?N ?U ?d (intKind_is _ _ _ _) ?z ?_; (case F => k_asm); (case N => k_asm); (case U => k_updF); (case d => assumption); (case z => ((rename List.length _ ≤ 200 => hlen2); exact kdl_size (Nat.le_trans hlen2 (by decide))))); intro _ _ _ N' _; (try dsimp only at N')) | walk1)) | ((with_reducible show wpAny _ _ (call (Value.builtin "dict.items") _ _) _ _ _); k_here; (refine' gd_call ?k1 ?k2 ?k3 ?k4 ?k5 ?_; (case k1 => k_asm); (case k2 => k_asm); (case k3 => assumption); (case k4 => assumption); (case k5 => assumption); k_whole); intro _ _ _ _) | (k_here; (with_reducible show wpAny _ _ (getMethod (Value.ref _) (Str.ofString "items") _) _ _ _); (refine' gd_method ?k1 ?k2 ?k3 ?_; (case k1 => k_asm); (case k2 => assumption); (case k3 => assumption); k_whole)) | ((with_reducible show wpAny _ _ (exec (Stmt.For (PySem.Expr.Tuple _ _ _) (PySem.Expr.Call _ _ _ _) _ _ _) _) _ _ _); k_here; (rename Fr _ _ _ _ => lF'); (with_unfolding_all refine' For_turns lF' ?_); k_whole) | ((with_reducible show wpAny _ _ (compareOp CmpOp.In (Value.int _ _) (Value.ref _)) _ _ _); k_here; k_dflt (first | (refine' kda_in (knd := PySem.intKind _ _) ?N ?m ?d ?l (intKind_is _ _ _ _) true ?b ?_; (case N => k_asm); (case m => k_mem); (case d => assumption); (case l => assumption); (case b => (rename valueAt _ _ = some _ => hvv; rw [hvv]; rfl))) | (refine' kda_in (knd := PySem.intKind _ _) ?N ?m ?d ?l (intKind_is _ _ _ _) false ?b ?_; (case N => k_asm); (case m => k_mem); (case d => assumption); (case l => assumption); (case b => (rename valueAt _ _ = none => hvv; rw [hvv]; rfl))))) | ((with_reducible show wpAny _ _ (getItem (Value.ref _) (Value.int _ _)) _ _ _); k_here; k_dflt (refine' kda_get ?N ?m ?d ?l ?_; (case N => k_asm); (case m => k_mem); (case d => assumption); (case l => assumption))) | ((with_reducible show wpAny _ _ (setItem (Value.ref _) (Value.int _ _) _) _ _ _); k_here; k_dflt (refine' kda_set (knd := PySem.intKind _ _) ?F ?N ?U ?d (intKind_is _ _ _ _) ?z ?_; (case F => k_asm); (case N => k_asm); (case U => k_updF); (case d => assumption); (case z => ((rename List.length _ ≤ 200 => hlen2); exact kdl_size (Nat.le_trans hlen2 (by decide))))); intro _ _ _ N' _; (try dsimp only at N')) | walk1 | (dsimp only; (first | ((with_reducible show wpAny _ _ (call (Value.builtin "dict.items") _ _) _ _ _); k_here; (refine' gd_call ?k1 ?k2 ?k3 ?k4 ?k5 ?_; (case k1 => k_asm); (case k2 => k_asm); (case k3 => assumption); (case k4 => assumption); (case k5 => assumption); k_whole); intro _ _ _ _) | (k_here; (with_reducible show wpAny _ _ (getMethod (Value.ref _) (Str.ofString "items") _) _ _ _); (refine' gd_method ?k1 ?k2 ?k3 ?_; (case k1 => k_asm); (case k2 => assumption); (case k3 => assumption); k_whole)) | ((with_reducible show wpAny _ _ (exec (Stmt.For (PySem.Expr.Tuple _ _ _) (PySem.Expr.Call _ _ _ _) _ _ _) _) _ _ _); k_here; (rename Fr _ _ _ _ => lF'); (with_unfolding_all refine' For_turns lF' ?_); k_whole) | ((with_reducible show wpAny _ _ (compareOp CmpOp.In (Value.int _ _) (Value.ref _)) _ _ _); k_here; k_dflt (first | (refine' kda_in (knd := PySem.intKind _ _) ?N ?m ?d ?l (intKind_is _ _ _ _) true ?b ?_; (case N => k_asm); (case m => k_mem); (case d => assumption); (case l => assumption); (case b => (rename valueAt _ _ = some _ => hvv; rw [hvv]; rfl))) | (refine' kda_in (knd := PySem.intKind _ _) ?N ?m ?d ?l (intKind_is _ _ _ _) false ?b ?_; (case N => k_asm); (case m => k_mem); (case d => assumption); (case l => assumption); (case b => (rename valueAt _ _ = none => hvv; rw [hvv]; rfl))))) | ((with_reducible show wpAny _ _ (getItem (Value.ref _) (Value.int _ _)) _ _ _); k_here; k_dflt (refine' kda_get ?N ?m ?d ?l ?_; (case N => k_asm); (case m => k_mem); (case d => assumption); (case l => assumption))) | ((with_reducible show wpAny _ _ (setItem (Value.ref _) (Value.int _ _) _) _ _ _); k_here; k_dflt (refine' kda_set (knd := PySem.intKind _ _) ?F ?N ?U ?d (intKind_is _ _ _ _) ?z ?_; (case F => k_asm); (case N => k_asm); (case U => k_updF); (case d => assumption); (case z => ((rename List.length _ ≤ 200 => hlen2); exact kdl_size (Nat.le_trans hlen2 (by decide))))); intro _ _ _ N' _; (try dsimp only at N')) | walk1)) | (leave1; walk_say "STEP leave1"; try dsimp only) | fail "no step"))
        rw [take_fold _ _ _ _ _ hnx]
        dsimp only
        rw [hv2]
        exact ⟨⟨rfl, rfl, rfl, trivial⟩, tab_put hnd (by assumption) hik hlk⟩
      · (repeat' (first | (k_unfold; (try dsimp only)) | (k_end; wrow_close) | ((with_reducible show wpAny _ _ (exec _ _) _ _ _); k_fold; (first | ((with_reducible show wpAny _ _ (call (Value.builtin "dict.items") _ _) _ _ _); k_here; (refine' gd_call ?k1 ?k2 ?k3 ?k4 ?k5 ?_; (case k1 => k_asm); (case k2 => k_asm); (case k3 => assumption); (case k4 => assumption); (case k5 => assumption); k_whole); intro _ _ _ _) | (k_here; (with_reducible show wpAny _ _ (getMethod (Value.ref _) (Str.ofString "items") _) _ _ _); (refine' gd_method ?k1 ?k2 ?k3 ?_; (case k1 => k_asm); (case k2 => assumption); (case k3 => assumption); k_whole)) | ((with_reducible show wpAny _ _ (exec (Stmt.For (PySem.Expr.Tuple _ _ _) (PySem.Expr.Call _ _ _ _) _ _ _) _) _ _ _); k_here; (rename Fr _ _ _ _ => lF'); (with_unfolding_all refine' For_turns lF' ?_); k_whole) | ((with_reducible show wpAny _ _ (compareOp CmpOp.In (Value.int _ _) (Value.ref _)) _ _ _); k_here; k_dflt (first | (refine' kda_in (knd := PySem.intKind _ _) ?N ?m ?d ?l (intKind_is _ _ _ _) true ?b ?_; (case N => k_asm); (case m => k_mem); (case d => assumption); (case l => assumption); (case b => (rename valueAt _ _ = some _ => hvv; rw [hvv]; rfl))) | (refine' kda_in (knd := PySem.intKind _ _) ?N ?m ?d ?l (intKind_is _ _ _ _) false ?b ?_; (case N => k_asm); (case m => k_mem); (case d => assumption); (case l => assumption); (case b => (rename valueAt _ _ = none => hvv; rw [hvv]; rfl))))) | ((with_reducible show wpAny _ _ (getItem (Value.ref _) (Value.int _ _)) _ _ _); k_here; k_dflt (refine' kda_get ?N ?m ?d ?l ?_; (case N => k_asm); (case m => k_mem); (case d => assumption); (case l => assumption))) | ((with_reducible show wpAny _ _ (setItem (Value.ref _) (Value.int _ _) _) _ _ _); k_here; k_dflt (refine' kda_set (knd := PySem.intKind _ _) ?F ?N ?U ?d (intKind_is _ _ _ _) ?z ?_; (case F => k_asm); (case N => k_asm); (case U => k_updF); (case d => assumption); (case z => ((rename List.length _ ≤ 200 => hlen2); exact kdl_size (Nat.le_trans hlen2 (by decide))))); intro _ _ _ N' _; (try dsimp only at N')) | walk1)) | ((with_reducible show wpAny _ _ (call (Value.builtin "dict.items") _ _) _ _ _); k_here; (refine' gd_call ?k1 ?k2 ?k3 ?k4 ?k5 ?_; (case k1 => k_asm); (case k2 => k_asm); (case k3 => assumption); (case k4 => assumption); (case k5 => assumption); k_whole); intro _ _ _ _) | (k_here; (with_reducible show wpAny _ _ (getMethod (Value.ref _) (Str.ofString "items") _) _ _ _); (refine' gd_method ?k1 ?k2 ?k3 ?_; (case k1 => k_asm); (case k2 => assumption); (case k3 => assumption); k_whole)) | ((with_reducible show wpAny _ _ (exec (Stmt.For (PySem.Expr.Tuple _ _ _) (PySem.Expr.Call _ _ _ _) _ _ _) _) _ _ _); k_here; (rename Fr _ _ _ _ => lF'); (with_unfolding_all refine' For_turns lF' ?_); k_whole) | ((with_reducible show wpAny _ _ (compareOp CmpOp.In (Value.int _ _) (Value.ref _)) _ _ _); k_here; k_dflt (first | (refine' kda_in (knd := PySem.intKind _ _) ?N ?m ?d ?l (intKind_is _ _ _ _) true ?b ?_; (case N => k_asm); (case m => k_mem); (case d => assumption); (case l => assumption); (case b => (rename valueAt _ _ = some _ => hvv; rw [hvv]; rfl))) | (refine' kda_in (knd := PySem.intKind _ _) ?N ?m ?d ?l (intKind_is _ _ _ _) false ?b ?_; (case N => k_asm); (case m => k_mem); (case d => assumption); (case l => assumption); (case b => (rename valueAt _ _ = none => hvv; rw [hvv]; rfl))))) | ((with_reducible show wpAny _ _ (getItem (Value.ref _) (Value.int _ _)) _ _ _); k_here; k_dflt (refine' kda_get ?N ?m ?d ?l ?_; (case N => k_asm); (case m => k_mem); (case d => assumption); (case l => assumption))) | ((with_reducible show wpAny _ _ (setItem (Value.ref _) (Value.int _ _) _) _ _ _); k_here; k_dflt (refine' kda_set (knd := PySem.intKind _ _) ?F ?N ?U ?d (intKind_is _ _ _ _) ?z ?_; (case F => k_asm); (case N => k_asm); (case U => k_updF); (case d => assumption); (case z => ((rename List.length _ ≤ 200 => hlen2); exact kdl_size (Nat.le_trans hlen2 (by decide))))); intro _ _ _ N' _; (try dsimp only at N')) | walk1 | (dsimp only; (first | ((with_reducible show wpAny _ _ (call (Value.builtin "dict.items") _ _) _ _ _); k_here; (refine' gd_call ?k1 ?k2 ?k3 ?k4 ?k5 ?_; (case k1 => k_asm); (case k2 => k_asm); (case k3 => assumption); (case k4 => assumption); (case k5 => assumption); k_whole); intro _ _ _ _) | (k_here; (with_reducible show wpAny _ _ (getMethod (Value.ref _) (Str.ofString "items") _) _ _ _); (refine' gd_method ?k1 ?k2 ?k3 ?_; (case k1 => k_asm); (case k2 => assumption); (case k3 => assumption); k_whole)) | ((with_reducible show wpAny _ _ (exec (Stmt.For (PySem.Expr.Tuple _ _ _) (PySem.Expr.Call _ _ _ _) _ _ _) _) _ _ _); k_here; (rename Fr _ _ _ _ => lF'); (with_unfolding_all refine' For_turns lF' ?_); k_whole) | ((with_reducible show wpAny _ _ (compareOp CmpOp.In (Value.int _ _) (Value.ref _)) _ _ _); k_here; k_dflt (first | (refine' kda_in (knd := PySem.intKind _ _) ?N ?m ?d ?l (intKind_is _ _ _ _) true ?b ?_; (case N => k_asm); (case m => k_mem); (case d => assumption); (case l => assumption); (case b => (rename valueAt _ _ = some _ => hvv; rw [hvv]; rfl))) | (refine' kda_in (knd := PySem.intKind _ _) ?N ?m ?d ?l (intKind_is _ _ _ _) false ?b ?_; (case N => k_asm); (case m => k_mem); (case d => assumption); (case l => assumption); (case b => (rename valueAt _ _ = none => hvv; rw [hvv]; rfl))))) | ((with_reducible show wpAny _ _ (getItem (Value.ref _) (Value.int _ _)) _ _ _); k_here; k_dflt (refine' kda_get ?N ?m ?d ?l ?_; (case N => k_asm); (case m => k_mem); (case d => assumption); (case l => assumption))) | ((with_reducible show wpAny _ _ (setItem (Value.ref _) (Value.int _ _) _) _ _ _); k_here; k_dflt (refine' kda_set (knd := PySem.intKind _ _) ?F ?N ?U ?d (intKind_is _ _ _ _) ?z ?_; (case F => k_asm); (case N => k_asm); (case U => k_updF); (case d => assumption); (case z => ((rename List.length _ ≤ 200 => hlen2); exact kdl_size (Nat.le_trans hlen2 (by decide))))); intro _ _ _ N' _; (try dsimp only at N')) | walk1)) | (leave1; walk_say "STEP leave1"; try dsimp only) | fail "no step"))
        rw [take_fold _ _ _ _ _ hnx]
        dsimp only
        rw [hv2]
        exact ⟨⟨rfl, rfl, rfl, trivial⟩, tab_put hnd (by assumption) hik hlk⟩
    · clear fF nN hv hdk hik hlk
      intro m' news' h₃ tk₃ hJ hF hN
      rw [dictItems_length, hS3.length, List.take_length] at hJ
      refine cutG fun PC hPC => ?_
      obtain ⟨hkn, o, kvs, rfl, hdk, hik, hlk⟩ := hJ
      refine hPC ?_
      clear hPC PC
      replace hF := knows_fr hF hkn; dsimp only [knowF] at hF
      clear hkn
      (repeat' (first | (k_unfold; (try dsimp only)) | (k_end; wrow_close) | ((with_reducible show wpAny _ _ (call (Value.builtin "dict.items") _ _) _ _ _); k_here; (refine' gd_call ?k1 ?k2 ?k3 ?k4 ?k5 ?_; (case k1 => k_asm); (case k2 => k_asm); (case k3 => assumption); (case k4 => assumption); (case k5 => assumption); k_whole); intro _ _ _ _) | (k_here; (with_reducible show wpAny _ _ (getMethod (Value.ref _) (Str.ofString "items") _) _ _ _); (refine' gd_method ?k1 ?k2 ?k3 ?_; (case k1 => k_asm); (case k2 => assumption); (case k3 => assumption); k_whole)) | ((with_reducible show wpAny _ _ (exec (Stmt.For (PySem.Expr.Tuple _ _ _) (PySem.Expr.Call _ _ _ _) _ _ _) _) _ _ _); k_here; (rename Fr _ _ _ _ => lF'); (with_unfolding_all refine' For_turns lF' ?_); k_whole) | ((with_reducible show wpAny _ _ (compareOp CmpOp.In (Value.int _ _) (Value.ref _)) _ _ _); k_here; k_dflt (first | (refine' kda_in (knd := PySem.intKind _ _) ?N ?m ?d ?l (intKind_is _ _ _ _) true ?b ?_; (case N => k_asm); (case m => k_mem); (case d => assumption); (case l => assumption); (case b => (rename valueAt _ _ = some _ => hvv; rw [hvv]; rfl))) | (refine' kda_in (knd := PySem.intKind _ _) ?N ?m ?d ?l (intKind_is _ _ _ _) false ?b ?_; (case N => k_asm); (case m => k_mem); (case d => assumption); (case l => assumption); (case b => (rename valueAt _ _ = none => hvv; rw [hvv]; rfl))))) | ((with_reducible show wpAny _ _ (getItem (Value.ref _) (Value.int _ _)) _ _ _); k_here; k_dflt (refine' kda_get ?N ?m ?d ?l ?_; (case N => k_asm); (case m => k_mem); (case d => assumption); (case l => assumption))) | ((with_reducible show wpAny _ _ (setItem (Value.ref _) (Value.int _ _) _) _ _ _); k_here; k_dflt (refine' kda_set (knd := PySem.intKind _ _) ?F ?N ?U ?d (intKind_is _ _ _ _) ?z ?_; (case F => k_asm); (case N => k_asm); (case U => k_updF); (case d => assumption); (case z => ((rename List.length _ ≤ 200 => hlen2); exact kdl_size (Nat.le_trans hlen2 (by decide))))); intro _ _ _ N' _; (try dsimp only at N')) | walk1 | (dsimp only; (first | ((with_reducible show wpAny _ _ (call (Value.builtin "dict.items") _ _) _ _ _); k_here; (refine' gd_call ?k1 ?k2 ?k3 ?k4 ?k5 ?_; (case k1 => k_asm); (case k2 => k_asm); (case k3 => assumption); (case k4 => assumption); (case k5 => assumption); k_whole); intro _ _ _ _) | (k_here; (with_reducible show wpAny _ _ (getMethod (Value.ref _) (Str.ofString "items") _) _ _ _); (refine' gd_method ?k1 ?k2 ?k3 ?_; (case k1 => k_asm); (case k2 => assumption); (case k3 => assumption); k_whole)) | ((with_reducible show wpAny _ _ (exec (Stmt.For (PySem.Expr.Tuple _ _ _) (PySem.Expr.Call _ _ _ _) _ _ _) _) _ _ _); k_here; (rename Fr _ _ _ _ => lF'); (with_unfolding_all refine' For_turns lF' ?_); k_whole) | ((with_reducible show wpAny _ _ (compareOp CmpOp.In (Value.int _ _) (Value.ref _)) _ _ _); k_here; k_dflt (first | (refine' kda_in (knd := PySem.intKind _ _) ?N ?m ?d ?l (intKind_is _ _ _ _) true ?b ?_; (case N => k_asm); (case m => k_mem); (case d => assumption); (case l => assumption); (case b => (rename valueAt _ _ = some _ => hvv; rw [hvv]; rfl))) | (refine' kda_in (knd := PySem.intKind _ _) ?N ?m ?d ?l (intKind_is _ _ _ _) false ?b ?_; (case N => k_asm); (case m => k_mem); (case d => assumption); (case l => assumption); (case b => (rename valueAt _ _ = none => hvv; rw [hvv]; rfl))))) | ((with_reducible show wpAny _ _ (getItem (Value.ref _) (Value.int _ _)) _ _ _); k_here; k_dflt (refine' kda_get ?N ?m ?d ?l ?_; (case N => k_asm); (case m => k_mem); (case d => assumption); (case l => assumption))) | ((with_reducible show wpAny _ _ (setItem (Value.ref _) (Value.int _ _) _) _ _ _); k_here; k_dflt (refine' kda_set (knd := PySem.intKind _ _) ?F ?N ?U ?d (intKind_is _ _ _ _) ?z ?_; (case F => k_asm); (case N => k_asm); (case U => k_updF); (case d => assumption); (case z => ((rename List.length _ ≤ 200 => hlen2); exact kdl_size (Nat.le_trans hlen2 (by decide))))); intro _ _ _ N' _; (try dsimp only at N')) | walk1)) | (leave1; walk_say "STEP leave1"; try dsimp only) | fail "no step"))
      (rename Fr _ _ _ _ => fF)
      (rename News _ _ _ _ => nN)
      have hDn := nN _ (.head _)
      exact ret _ _ _ fF.keep ⟨_, _, _, rfl, hDn.2.2, hDn.1, hdk, hik, lo⟩

end Mine
end

section
set_option maxRecDepth 100000
open PySem PySem.W PyProof.Rows PySem.Calls PySem.Spec
namespace Mine
open PyProof.Rows.LCg (NsObj ns_obj Off3)
/-- a part of a turn is done: frame and ledger as they were -/
noncomputable def DEnd (h₀ : Heap) (L : Addr) (m : Str → Option Value) (s₁ : Shared) (all : List (Addr × Obj)) (P : Prop) (s₂ : Shared) : Prop :=
  ∃ h' tk, s₂ = { s₁ with heap := h', toks := tk } ∧ Fr h₀ L h' m ∧ News h₀ L h' all ∧ P
theorem DEnd.intro {h₀ : Heap} {L : Addr} {m : Str → Option Value} {s₁ : Shared} {all all' : List (Addr × Obj)} {P : Prop} {h' : Heap} {tk : Nat} (F : Fr h₀ L h' m) (N : News h₀ L h' all') (sub : ∀ p ∈ all, p ∈ all') (hP : P) : DEnd h₀ L m s₁ all P { s₁ with heap := h', toks := tk } :=
  ⟨h', tk, rfl, F, fun p hp => N p (sub p hp), hP⟩
/-- the same but for heap and count -/
noncomputable def SameS (s s' : Shared) : Prop := ∃ h tk, s' = { s with heap := h, toks := tk }
theorem SameS.intro {s : Shared} {h : Heap} {tk : Nat} : SameS s { s with heap := h, toks := tk } := ⟨h, tk, rfl⟩
section
variable {prog : Program} {w : World} {A : Around} {E : Value → Shared → Prop} {s : Shared} {h₀ : Heap} {L : Addr} {m : Str → Option Value} {env : Env}

/-- the surroundings of one turn -/
noncomputable def DTurn (h₀ : Heap) (L : Addr) (m : Str → Option Value) (x : Str) (news : List (Addr × Obj)) (ns : List (Int × Int)) (s : Shared) (go : Int → Int → Addr → (Value → Shared → Prop) → Shared → List (Addr × Obj) → Prop) : Prop :=
  ∀ (i : Nat) k y t I oI C oC D oD m₂ h tk (E' : Value → Shared → Prop), ns[i]? = some (k, y) → NsObj oC m₂ → m₂ x = some (.int k t) → Fr h₀ L h m → News h₀ L h ((I, oI) :: (C, oC) :: (D, oD) :: news) → Off3 I C D news → ((@Ne Nat I C) ∧ (@Ne Nat I D) ∧ (@Ne Nat C D)) →
    go k y C E' { s with heap := h, toks := tk } ((I, oI) :: (C, oC) :: (D, oD) :: news)

theorem dblock {ct kx vx iter : PySem.Expr} {x : Str} {px : Pos} {scope : Scope} {cl : List (Str × Addr)} {pos : Pos} {s₂ : Shared} {I d : Addr} {ep : Nat} {kvs : List (Int × Value)} {ns : List (Int × Int)} {od : Obj} {news : List (Addr × Obj)}
    {pz : Int × Int → Bool} {kf vf : Int × Int → Int} {RR : Value → Addr → Result → Shared → Prop} (hh : A.handled = none) (hdI : d ≠ I)
    (hsz : ns.length ≤ 1000) (hi : IsI kvs ns) (hmd : (d, od) ∈ news)
    (hcell : ∀ y ∈ scope.names, y.2 ≠ .cell) (hkind : scope.kind = .function) (hx : scope.names.lookup x = some .local) (hst : s₂.heap.IsKeyIter I d 0 kvs.length ep) (hat : s₂.heap.DictAt (intKind prog w) d kvs ep)
    (F : Fr h₀ L s₂.heap m) (N : News h₀ L s₂.heap news) (hIL : L ≠ I) (hI₀ : h₀.get? I = none) (off : ∀ p ∈ news, p.1 ≠ I)
    (hct : DTurn h₀ L m x news ns s₂ fun k y C E' s' all => wpAny (model prog w) A (isTrue ct (compEnvC scope cl C env) (eval ct (compEnvC scope cl C env))) (fun ok s₃ => DEnd h₀ L m s' all (ok = pz (k, y)) s₃) E' s')
    (hkx : DTurn h₀ L m x news ns s₂ fun k y C E' s' all => pz (k, y) = true → wpAny (model prog w) A (eval kx (compEnvC scope cl C env)) (fun v s₃ => DEnd h₀ L m s' all (∃ t, v = .int (kf (k, y)) t) s₃) E' s')
    (hvx : DTurn h₀ L m x news ns s₂ fun k y C E' s' all => pz (k, y) = true → wpAny (model prog w) A (eval vx (compEnvC scope cl C env)) (fun v s₃ => DEnd h₀ L m s' all (∃ t, v = .int (vf (k, y)) t) s₃) E' s')
    (hRR : ∀ D C o kvs' h tk m', Fr h₀ L h m → News h₀ L h ((D, o) :: news) → (∀ p ∈ news, p.1 ≠ D) → h.Ns C m' → h₀.get? C = none → h₀.get? D = none → C ≠ L → D ≠ L → C ≠ D → (∀ p ∈ news, p.1 ≠ C) → L < D → o.IsDictOf (intKind prog w) kvs' → IsI kvs' ((ns.filter pz).foldl (fun acc p => putI acc (kf p) (vf p)) []) → RR (.ref D) C (.ok .next) { s₂ with heap := h, toks := tk }) :
    wpAny (model prog w) A newDict (fun acc s₃ => wpAny (model prog w) A (newFunctionEnv scope env.globals cl [] env.qual none .none (some env)) (fun cenv s₄ =>
      codeAny (model prog w) A (.compStart (.DictComp kx vx [⟨.Name x px, iter, [ct], 0⟩] scope pos) 0 (.ref I) acc { cenv with scope := relabel scope env }) (RR acc cenv.locals) s₄) E s₃) E s₂ := by
  have W := Walks.dictKeys (prog := prog) (w := w) (knd := intKind prog w) hh I d hdI kvs ep
  have hlen := hi.length
  refine wpAny_newObj_type (wpAny_newFunctionEnv hcell (by intro y hy; simp at hy) (fun h₁ hns₁ hsb₁ => ?_) hkind)
  dsimp only at hns₁ hsb₁ ⊢
  have hnew : (s₂.heap.push { cls := .type "dict", dict := none, data := .dict #[] }).DictOf (intKind prog w) s₂.heap.objs.size [] := Heap.DictOf.new s₂.heap
  generalize hH2 : s₂.heap.push { cls := .type "dict", dict := none, data := .dict #[] } = H2 at hns₁ hsb₁ hnew ⊢
  have hC : H2.objs.size = s₂.heap.objs.size + 1 := by rw [← hH2, Heap.size_push]
  generalize hD' : s₂.heap.objs.size = D at *
  generalize hC' : H2.objs.size = C at *
  have hDC : D ≠ C := by rw [hC]; exact Nat.ne_of_lt (Nat.lt_succ_self _)
  have below : ∀ b o, s₂.heap.get? b = some o → b ≠ C ∧ b ≠ D := fun b o e => by
    have hb := Heap.lt_size e
    rw [hD'] at hb
    exact ⟨by rw [hC]; exact Nat.ne_of_lt (Nat.lt_succ_of_lt hb), Nat.ne_of_lt hb⟩
  refine cutG fun PC hPC => ?_
  obtain ⟨oI0, heI0, _⟩ := id hst
  refine hPC ?_
  clear hPC PC
  refine cutG fun PC hPC => ?_
  obtain ⟨odd, _, hedd, _⟩ := id hat
  refine hPC ?_
  clear hPC PC
  have bI := below I _ heI0
  have bd := below d _ hedd
  have hDf : D ∉ [I, d] := by simp [Ne.symm bI.2, Ne.symm bd.2]
  have hCf : C ∉ [I, d] := by simp [Ne.symm bI.1, Ne.symm bd.1]
  have old : ∀ b o, s₂.heap.get? b = some o → h₁.get? b = some o := fun b o e => hsb₁.extBut b o (below b o e).1 (Heap.get?_push_of_some _ (hH2 ▸ Heap.get?_push_of_some _ e))
  have hacc : h₁.DictOf (intKind prog w) D [] := hnew.at fun o e => hsb₁.extBut _ _ hDC (Heap.get?_push_of_some _ e)
  have fresh₀ : ∀ a, D ≤ a → h₀.get? a = none := fun a ha => by
    cases e : h₀.get? a with
    | none => rfl
    | some o' => exact absurd (Heap.lt_size (F.keep a o' e)) (Nat.not_lt.mpr (hD' ▸ ha))
  have hD₀ : h₀.get? D = none := fresh₀ _ (Nat.le_refl _)
  have hC₀ : h₀.get? C = none := fresh₀ _ (by rw [hC]; exact Nat.le_succ _)
  refine cutG fun PC hPC => ?_
  obtain ⟨oL, _, _, hoL, _⟩ := id F.ns
  refine hPC ?_
  clear hPC PC
  have bL := below L _ hoL
  have hLD : L < D := hD' ▸ F.ns.lt
  have off₀ : Off3 I C D news := Off3.of fun p hp => ⟨off p hp, below _ _ (N p hp).1⟩
  have hst₁ : h₁.IsKeyIter I d 0 kvs.length ep ∧ h₁.DictAt (intKind prog w) d kvs ep := W.frame 0 _ _ ⟨hst, hat⟩ fun b _ o e => old b o e
  refine cutG fun PC hPC => ?_
  obtain ⟨oD0, heD0, hdD0⟩ := Heap.dictOf_iff.mp hacc
  refine hPC ?_
  clear hPC PC
  have loop : ∀ s₃ : Shared, s₃ = { s₂ with heap := h₁, toks := s₂.toks + ([] : List (Str × Value)).length } →
      codeAny (model prog w) A (.compLoop (.DictComp kx vx [⟨.Name x px, iter, [ct], 0⟩] scope pos) 0 (.ref I) (.ref D) (compEnvC scope cl C env)) (RR (.ref D) C) s₃ := by
    rintro s₃ rfl
    obtain ⟨J, hJ⟩ : ∃ J : Nat → Shared → Prop, J = fun k s' => ∃ h' tk i oD kvs' m', s' = { s₂ with heap := h', toks := tk } ∧ i ≤ ns.length ∧ k = ns.length + 1 - i ∧ (h'.IsKeyIter I d i kvs.length ep ∧ h'.DictAt (intKind prog w) d kvs ep) ∧ Fr h₀ L h' m ∧ h'.Ns C m' ∧ News h₀ L h' ((D, oD) :: news) ∧
        oD.IsDictOf (intKind prog w) kvs' ∧ kvs'.length ≤ i ∧ IsI kvs' (((ns.take i).filter pz).foldl (fun acc p => putI acc (kf p) (vf p)) []) := ⟨_, rfl⟩
    refine codeAny_compLoop_testsD J ?_ (ns.length + 1) ?_
    · intro k s' hk
      rw [hJ] at hk
      refine cutG fun PC hPC => ?_
      obtain ⟨h', tk, i, oD, kvs', m', rfl, hin, rfl, hst', F', hn', N', hdD, hl', hI'⟩ := hk
      refine hPC ?_
      clear hPC PC
      have off3 := off₀.mem
      by_cases hlt : i < ns.length
      · refine W.item i _ _ _ (hlen ▸ hlt) hst' fun v h₂ tk₂ hPv hst₂ hk₂ => ?_
        refine cutG fun PC hPC => ?_
        obtain ⟨k₀, v₀, hkv, hkk⟩ := hPv
        refine hPC ?_
        clear hPC PC
        obtain ⟨t, rfl⟩ := Value.isInt_shape hkk
        refine cutG fun PC hPC => ?_
        obtain ⟨y, t', rfl, hny⟩ := hi.get hkv
        refine hPC ?_
        clear hPC PC
        refine wpAny_assign_Name (wpAny_storeName_local (lookup_relabel_local hx) (hn'.at' fun o e => hk₂ _ o (by simpa using Ne.symm bI.1) e) (fun h₃ hn₃ hs₃ => ?_) (by simp [compEnvC, relabel, hkind]))
        refine wpAny_tests_one ?_
        have keepSt : ∀ {h₄ : Heap} {oI : Obj}, (h₃.IsKeyIter I d (i + 1) kvs.length ep ∧ h₃.DictAt (intKind prog w) d kvs ep) → h₃.get? I = some oI → News h₀ L h₃ news → h₄.get? I = some oI → News h₀ L h₄ news → (h₄.IsKeyIter I d (i + 1) kvs.length ep ∧ h₄.DictAt (intKind prog w) d kvs ep) := fun st e1 n1 e2 n2 =>
          W.frame _ _ _ st fun b hb o e => by
            have hb' : b = I ∨ b = d := by simpa using hb
            rcases hb' with rfl | rfl
            · rw [e1] at e; exact e2.trans e
            · rw [(n1 _ hmd).1] at e; exact (n2 _ hmd).1.trans e
        have hst₃ : h₃.IsKeyIter I d (i + 1) kvs.length ep ∧ h₃.DictAt (intKind prog w) d kvs ep := W.frame _ _ _ hst₂ fun b hb o e => hs₃.extBut b o (fun q => hCf (by have q' : b = C := q; rw [← q']; exact hb)) e
        refine cutG fun PC hPC => ?_
        obtain ⟨oI, heI⟩ : ∃ o, h₃.get? I = some o := by obtain ⟨o, e, _⟩ := hst₃.1; exact ⟨o, e⟩
        refine hPC ?_
        clear hPC PC
        refine cutG fun PC hPC => ?_
        obtain ⟨oC, heC, hoC⟩ := ns_obj hn₃
        refine hPC ?_
        clear hPC PC
        have F₃ : Fr h₀ L h₃ m := (LCg.fr_but F' hk₂ hIL hI₀).change hs₃ (Ne.symm bL.1) hC₀
        have N₂ : News h₀ L h₂ ((D, oD) :: news) := LCg.news_but N' hk₂ fun p hp => by
          rcases List.mem_cons.mp hp with rfl | hp
          · exact Ne.symm bI.2
          · exact (off3 p hp).1
        have N₃ : News h₀ L h₃ ((I, oI) :: (C, oC) :: (D, oD) :: news) := fun p hp => by
          rcases List.mem_cons.mp hp with rfl | hp
          · exact ⟨heI, Ne.symm hIL, hI₀⟩
          · rcases List.mem_cons.mp hp with rfl | hp
            · exact ⟨heC, Ne.symm bL.1, hC₀⟩
            · have z := N₂ p hp
              refine ⟨hs₃.extBut _ _ ?_ z.1, z.2⟩
              rcases List.mem_cons.mp hp with rfl | hp
              · exact hDC
              · exact (off3 p hp).2.1
        have tl : ∀ {h₄ : Heap}, News h₀ L h₄ ((I, oI) :: (C, oC) :: (D, oD) :: news) → News h₀ L h₄ news := fun N₄ p hp => N₄ p (.tail _ (.tail _ (.tail _ hp)))
        have tl' : ∀ {h₄ : Heap}, News h₀ L h₄ ((I, oI) :: (C, oC) :: (D, oD) :: news) → News h₀ L h₄ ((D, oD) :: news) := fun N₄ p hp => N₄ p (.tail _ (.tail _ hp))
        have nes : ((@Ne Nat I C) ∧ (@Ne Nat I D) ∧ (@Ne Nat C D)) := ⟨bI.1, bI.2, Ne.symm hDC⟩
        have htake : ns.take (i + 1) = ns.take i ++ [(k₀, y)] := by rw [List.take_add_one, hny]; rfl
        refine wpAny_mono (hct i k₀ y t I oI C oC D oD _ h₃ _ _ hny hoC (by simp) F₃ N₃ off₀ nes) (fun ok s₄ h₄ => ?_) fun _ _ e => e
        refine cutG fun PC hPC => ?_
        obtain ⟨h₄, tk₄, rfl, F₄, N₄, rfl⟩ := h₄
        refine hPC ?_
        clear hPC PC
        cases hpz : pz (k₀, y) with
        | false =>
          simp only [Bool.false_eq_true, if_false]
          refine ⟨ns.length + 1 - (i + 1), by omega, ?_⟩
          rw [hJ]
          refine ⟨h₄, tk₄, i + 1, oD, kvs', _, rfl, hlt, rfl, keepSt hst₃ heI (tl N₃) (N₄ _ (.head _)).1 (tl N₄), F₄, hoC.ns (N₄ _ (.tail _ (.head _))).1, tl' N₄, hdD, by omega, ?_⟩
          rw [htake, List.filter_append]; simpa [hpz] using hI'
        | true =>
          simp only [if_true]
          refine wpAny_mono (hkx i k₀ y t I oI C oC D oD _ h₄ _ _ hny hoC (by simp) F₄ N₄ off₀ nes hpz) (fun kv s₅ h₅ => ?_) fun _ _ e => e
          refine cutG fun PC hPC => ?_
          obtain ⟨h₅, tk₅, rfl, F₅, N₅, t₅, rfl⟩ := h₅
          refine hPC ?_
          clear hPC PC
          refine wpAny_mono (hvx i k₀ y t I oI C oC D oD _ h₅ _ _ hny hoC (by simp) F₅ N₅ off₀ nes hpz) (fun kv s₆ h₆ => ?_) fun _ _ e => e
          refine cutG fun PC hPC => ?_
          obtain ⟨h₆, tk₆, rfl, F₆, N₆, t₆, rfl⟩ := h₆
          refine hPC ?_
          clear hPC PC
          have zD := (N₆ (D, oD) (.tail _ (.tail _ (.head _)))).1
          have hkv' : kvs'.length ≤ sizeLine := kdl_size (by omega)
          refine wpAny_dictSet_pairs (hsz := hkv') (knd := intKind prog w) (intKind_is _ _ _ _) (Heap.dictOf_iff.mpr ⟨oD, zD, hdD⟩) fun h₇ hl₇ hs₇ => ?_
          refine cutG fun PC hPC => ?_
          obtain ⟨oD', heD', hdD'⟩ := Heap.dictOf_iff.mp hl₇
          refine hPC ?_
          clear hPC PC
          have st₆ := keepSt hst₃ heI (tl N₃) (N₆ _ (.head _)).1 (tl N₆)
          refine ⟨ns.length + 1 - (i + 1), by omega, ?_⟩
          rw [hJ]
          refine ⟨h₇, _, i + 1, oD', _, _, rfl, hlt, rfl, W.frame _ _ _ st₆ fun b hb o e => hs₇.extBut b o (fun q => hDf (by have q' : b = D := q; rw [← q']; exact hb)) e, F₆.change hs₇ (Ne.symm bL.2) hD₀,
            (hoC.ns (N₆ _ (.tail _ (.head _))).1).sameBut hs₇ (Ne.symm hDC), fun p hp => ?_, hdD', Nat.le_trans (stored_length_le _ _ _) (by omega), ?_⟩
          · rcases List.mem_cons.mp hp with rfl | hp
            · exact ⟨heD', Ne.symm bL.2, hD₀⟩
            · exact ⟨hs₇.extBut _ _ (off3 p hp).2.2 (tl N₆ p hp).1, (tl N₆ p hp).2⟩
          · rw [htake, List.filter_append, List.foldl_append]
            have e1 : List.filter pz [(k₀, y)] = [(k₀, y)] := by simp [hpz]
            rw [e1]
            exact hI'.put (dictOf_nodup hdD) _ _ _
      · obtain rfl : i = ns.length := Nat.le_antisymm hin (Nat.not_lt.mp hlt)
        rw [List.take_length] at hI'
        refine W.done _ _ _ (hlen ▸ hst') fun h₂ tk₂ hk₂ => ?_
        exact hRR _ _ oD kvs' h₂ tk₂ _ (LCg.fr_but F' hk₂ hIL hI₀) (LCg.news_but N' hk₂ fun p hp => by
          rcases List.mem_cons.mp hp with rfl | hp
          · exact Ne.symm bI.2
          · exact (off3 p hp).1) (fun p hp => (off3 p hp).2.2) (hn'.at' fun o e => hk₂ _ o (by simpa using Ne.symm bI.1) e) hC₀ hD₀ (Ne.symm bL.1) (Ne.symm bL.2) (Ne.symm hDC) (fun p hp => (off3 p hp).2.1) hLD hdD hI'
    · rw [hJ]
      refine ⟨h₁, _, 0, oD0, [], _, rfl, Nat.zero_le _, rfl, hst₁, F.keeps old, hns₁, fun p hp => ?_, hdD0, Nat.le_refl _, .nil⟩
      rcases List.mem_cons.mp hp with rfl | hp
      · exact ⟨heD0, Ne.symm bL.2, hD₀⟩
      · exact ⟨old _ _ (N p hp).1, (N p hp).2⟩
  exact codeAny_compStart_dict (loop _ rfl) (W.self 0 _ _ _ hst₁ (loop _ rfl))

/-- a dict comprehension over a dict of ints in the ledger, with one test -/
theorem DictComp_I {ct kx vx : PySem.Expr} {y : Str} {py : Pos} {x : Str} {px : Pos} {scope : Scope} {cl : List (Str × Addr)} {pos : Pos} {Q : Value → Shared → Prop} {d : Addr} {kvs : List (Int × Value)} {ns : List (Int × Int)} {od : Obj} {news : List (Addr × Obj)}
    (pz : Int × Int → Bool) (kf vf : Int × Int → Int) (_F₀ : Fr h₀ L s.heap m) (_N₀ : News h₀ L s.heap news) (hh : A.handled = none)
    (hsz : ns.length ≤ 1000) (hi : IsI kvs ns) (hd : od.IsDictOf (intKind prog w) kvs) (hmd : (d, od) ∈ news) (lo : (d == sysModules) = false)
    (hclos : closureFor scope env = pure cl) (hcell : ∀ z ∈ scope.names, z.2 ≠ .cell) (hkind : scope.kind = .function)
    (hnames : ∀ z ∈ scope.names, z.2 = .local → scope.names.lookup z.1 = some .local) (hx : scope.names.lookup x = some .local)
    (hit : wpAny (model prog w) A (eval (.Name y py) env) (fun v s₁ => v = .ref d ∧ Fr h₀ L s₁.heap m ∧ News h₀ L s₁.heap news ∧ SameS s s₁) E s)
    (hct : ∀ s₂, DTurn h₀ L m x news ns s₂ fun k y C E' s' all => wpAny (model prog w) A (isTrue ct (compEnvC scope cl C env) (eval ct (compEnvC scope cl C env))) (fun ok s₃ => DEnd h₀ L m s' all (ok = pz (k, y)) s₃) E' s')
    (hkx : ∀ s₂, DTurn h₀ L m x news ns s₂ fun k y C E' s' all => pz (k, y) = true → wpAny (model prog w) A (eval kx (compEnvC scope cl C env)) (fun v s₃ => DEnd h₀ L m s' all (∃ t, v = .int (kf (k, y)) t) s₃) E' s')
    (hvx : ∀ s₂, DTurn h₀ L m x news ns s₂ fun k y C E' s' all => pz (k, y) = true → wpAny (model prog w) A (eval vx (compEnvC scope cl C env)) (fun v s₃ => DEnd h₀ L m s' all (∃ t, v = .int (vf (k, y)) t) s₃) E' s')
    (done : ∀ D o kvs' h tk, Fr h₀ L h m → News h₀ L h ((D, o) :: news) → (∀ p ∈ news, p.1 ≠ D) → o.IsDictOf (intKind prog w) kvs' → IsI kvs' ((ns.filter pz).foldl (fun acc p => putI acc (kf p) (vf p)) []) → (D == sysModules) = false → Q (.ref D) { s with heap := h, toks := tk })
    (hbig : sysModules < h₀.objs.size)
    (hs : ∀ v, foldedSetIterable (.Name y py) env v = pure v := by intro _; rfl) :
    wpAny (model prog w) A (eval (.DictComp kx vx [⟨.Name x px, .Name y py, [ct], 0⟩] scope pos) env) Q E s := by
  rw [arm_eval_DictComp]
  refine wpAny_comprehension_free (use := none) rfl hs hclos hkind hnames (wpAny_mono hit (fun xv s₁ h₁ => ?_) fun _ _ e => e)
  refine cutG fun PC hPC => ?_
  obtain ⟨rfl, F, N, ⟨h₁, tk₁, rfl⟩⟩ := h₁
  refine hPC ?_
  clear hPC PC
  obtain ⟨ep, hat⟩ := (Heap.dictOf_iff.mpr ⟨od, (N _ hmd).1, hd⟩ : Heap.DictOf (intKind prog w) h₁ d kvs).dictAt
  refine wpAny_pyIter_dict lo hat ?_
  have up : ∀ b o, h₁.get? b = some o → (h₁.push { cls := .type "dict_keyiterator", data := .fields #[.ref d, rawInt 0, rawInt kvs.length, rawInt ep] }).get? b = some o := fun b o e => Heap.get?_push_of_some _ e
  refine dblock (RR := fun acc C => compPost (model prog w) A E none Q acc C) hh (Nat.ne_of_lt hat.lt_size) hsz hi hmd hcell hkind hx ⟨_, Heap.get?_push_size _ rfl, rfl, rfl⟩ (hat.push _) (F.push _) (fun p hp => ⟨Heap.get?_push_of_some _ (N p hp).1, (N p hp).2⟩) (Nat.ne_of_lt F.ns.lt) (next_is_new F) (fun p hp => Nat.ne_of_lt (Heap.lt_size (N p hp).1)) (hct _) (hkx _) (hvx _) ?_
  intro D C o kvs' h tk m' F' N' offD hn hC₀ hD₀ hCL hDL hCD offC hLD hdo hio
  refine ⟨m', hn, fun h'' hs'' => done D o kvs' h'' tk (F'.change hs'' hCL hC₀) (fun p hp => ?_) offD hdo hio ?_⟩
  · refine ⟨hs''.extBut _ _ ?_ (N' p hp).1, (N' p hp).2⟩
    rcases List.mem_cons.mp hp with rfl | hp
    · exact Ne.symm hCD
    · exact offC p hp
  · exact beq_eq_false_iff_ne.mpr (Nat.ne_of_gt (Nat.lt_trans hbig (Nat.lt_of_le_of_lt F'.above hLD)))
end
end Mine
end

section
set_option maxRecDepth 100000
open PySem PySem.W PyProof.Rows PySem.Calls PySem.Spec
namespace Mine
theorem look_put (ns : List (Int × Int)) (k x j : Int) : lookI (putI ns k x) j = if k = j then some x else lookI ns j := by
  induction ns with
  | nil => simp [putI, lookI]
  | cons p r ih =>
    unfold putI
    by_cases h : p.1 = k
    · rw [if_pos h]
      show (if k = j then some x else lookI r j) = if k = j then some x else (if p.1 = j then some p.2 else lookI r j)
      rw [h]
      by_cases e : k = j <;> simp [e]
    · rw [if_neg h]
      show (if p.1 = j then some p.2 else lookI (putI r k x) j) = if k = j then some x else (if p.1 = j then some p.2 else lookI r j)
      rw [ih]
      by_cases e : p.1 = j
      · have : k ≠ j := fun e' => h (e.trans e'.symm)
        simp [e, this]
      · simp [e]
theorem mem_put {ns : List (Int × Int)} {k x : Int} {q : Int × Int} (h : q ∈ putI ns k x) : q ∈ ns ∨ q.1 = k := by
  induction ns with
  | nil => simp [putI] at h; exact .inr (by rw [h])
  | cons p r ih =>
    unfold putI at h
    split at h
    · rcases List.mem_cons.mp h with rfl | h
      · exact .inr rfl
      · exact .inl (.tail _ h)
    · rcases List.mem_cons.mp h with rfl | h
      · exact .inl (.head _)
      · rcases ih h with h | h
        · exact .inl (.tail _ h)
        · exact .inr h
theorem look_none {ns : List (Int × Int)} {j : Int} (h : j ∉ ns.map (·.1)) : lookI ns j = none := by
  induction ns with
  | nil => rfl
  | cons p r ih =>
    simp only [List.map_cons, List.mem_cons, not_or] at h
    show (if p.1 = j then _ else _) = _
    rw [if_neg (Ne.symm h.1), ih h.2]
theorem look_fold : ∀ (ns acc : List (Int × Int)) (j : Int), (ns.map (·.1)).Nodup → lookI (ns.foldl (fun acc p => putI acc p.1 p.2) acc) j = (match lookI ns j with | some x => some x | none => lookI acc j)
  | [], _, _, _ => rfl
  | p :: r, acc, j, hn => by
    simp only [List.map_cons, List.nodup_cons] at hn
    rw [List.foldl_cons, look_fold r _ j hn.2]
    show _ = (match (if p.1 = j then some p.2 else lookI r j) with | some x => some x | none => lookI acc j)
    by_cases e : p.1 = j
    · rw [look_none (e ▸ hn.1), if_pos e]
      dsimp only
      rw [look_put, if_pos e]
    · rw [if_neg e]
      cases lookI r j with
      | some x => rfl
      | none => dsimp only; rw [look_put, if_neg e]
theorem look_add : ∀ (ns acc : List (Int × Int)) (j : Int), (ns.map (·.1)).Nodup → lookI (ns.foldl (fun acc p => putI acc p.1 (match lookI acc p.1 with | some y => y + p.2 | none => p.2)) acc) j = (match lookI ns j with | some x => some ((lookI acc j).getD 0 + x) | none => lookI acc j)
  | [], _, _, _ => rfl
  | p :: r, acc, j, hn => by
    simp only [List.map_cons, List.nodup_cons] at hn
    rw [List.foldl_cons, look_add r _ j hn.2]
    show _ = (match (if p.1 = j then some p.2 else lookI r j) with | some x => some ((lookI acc j).getD 0 + x) | none => lookI acc j)
    by_cases e : p.1 = j
    · rw [look_none (e ▸ hn.1), if_pos e]
      dsimp only
      rw [look_put, if_pos e, e]
      cases lookI acc j <;> simp
    · rw [if_neg e]
      cases lookI r j with
      | some x => dsimp only; rw [look_put, if_neg e]
      | none => dsimp only; rw [look_put, if_neg e]
theorem mem_foldput {α : Type} (kf : α → Int) (vf : List (Int × Int) → α → Int) : ∀ (l : List α) (acc : List (Int × Int)) (q : Int × Int), q ∈ l.foldl (fun acc a => putI acc (kf a) (vf acc a)) acc → q ∈ acc ∨ ∃ a ∈ l, q.1 = kf a
  | [], _, _, h => .inl h
  | a :: r, acc, q, h => by
    rw [List.foldl_cons] at h
    rcases mem_foldput kf vf r _ q h with h | ⟨b, hb, e⟩
    · rcases mem_put h with h | h
      · exact .inl h
      · exact .inr ⟨a, .head _, h⟩
    · exact .inr ⟨b, .tail _ hb, e⟩
theorem look_addI (nt ns : List (Int × Int)) (j : Int) (h1 : (nt.map (·.1)).Nodup) (h2 : (ns.map (·.1)).Nodup) : (lookI (addI nt ns) j).getD 0 = (lookI nt j).getD 0 + (lookI ns j).getD 0 := by
  have e := look_add ns (nt.foldl (fun acc p => putI acc p.1 p.2) []) j h2
  change lookI (addI nt ns) j = _ at e
  rw [e, look_fold _ _ _ h1]
  cases lookI ns j <;> cases lookI nt j <;> simp [lookI]
theorem mem_addI {nt ns : List (Int × Int)} {q : Int × Int} (h : q ∈ addI nt ns) : (∃ p ∈ nt, q.1 = p.1) ∨ ∃ p ∈ ns, q.1 = p.1 := by
  unfold addI at h
  rcases mem_foldput (fun p => p.1) (fun acc p => match lookI acc p.1 with | some y => y + p.2 | none => p.2) ns _ q h with h | h
  · rcases mem_foldput (fun p => p.1) (fun _ p => p.2) nt _ q h with h | h
    · exact nomatch h
    · exact .inl h
  · exact .inr h
theorem nodup_bound : ∀ (n : Nat) (l : List Int), l.Nodup → (∀ x ∈ l, 0 ≤ x ∧ x < n) → l.length ≤ n
  | 0, [], _, _ => Nat.le_refl _
  | 0, a :: _, _, h => by have := h a (.head _); omega
  | n + 1, l, hn, h => by
    by_cases hm : (n : Int) ∈ l
    · have h1 := nodup_bound n (l.erase n) (hn.erase _) fun x hx => by
        have h2 := (List.Nodup.mem_erase_iff hn).mp hx
        have h3 := h x h2.2
        have h4 : x ≠ (n : Int) := h2.1
        omega
      have h5 := List.length_erase_of_mem hm
      omega
    · have h1 := nodup_bound n l hn fun x hx => by
        have h3 := h x hx
        have h4 : x ≠ (n : Int) := fun e => hm (e ▸ hx)
        omega
      omega
/-- one letter's work on the counts -/
noncomputable def vdown (r : List Nat) (v : Nat → Int) (c : Nat) : Nat → Nat → Int
  | 0 => v
  | k + 1 => fun j => if j = k + 1 ∧ r[k]? = some c then vdown r v c k j - vdown r v c k k else vdown r v c k j
noncomputable def vstep (r : List Nat) (v : Nat → Int) (p : Nat × Bool) : Nat → Int :=
  if p.2 then fun j => v j + (match j with | 0 => 0 | k + 1 => if r[k]? = some p.1 then v k else 0) else vdown r v p.1 r.length
noncomputable def cnt (r : List Nat) (ps : List (Nat × Bool)) : Int := ps.foldl (vstep r) (fun j => if j = 0 then 1 else 0) r.length
/-- the table stands for the counts -/
structure Stands (n : Nat) (st : List (Int × Int)) (v : Nat → Int) : Prop where
  look : ∀ j : Nat, (lookI st j).getD 0 = v j
  keys : ∀ p ∈ st, 0 ≤ p.1 ∧ p.1 ≤ n
theorem Stands.length {n : Nat} {st : List (Int × Int)} {v : Nat → Int} (h : Stands n st v) (hn : (st.map (·.1)).Nodup) : st.length ≤ n + 1 := by
  have := nodup_bound (n + 1) (st.map (·.1)) hn fun x hx => by
    obtain ⟨p, hp, rfl⟩ := List.mem_map.mp hx
    have := h.keys p hp
    omega
  simpa using this
theorem stands_init (n : Nat) : Stands n [(0, 1)] (fun j => if j = 0 then 1 else 0) where
  look := fun j => by
    show (if (0 : Int) = j then some 1 else none : Option Int).getD 0 = _
    by_cases h : j = 0
    · subst h; rfl
    · have : ¬ (0 : Int) = j := by omega
      simp [h, this]
  keys := fun p hp => by simp at hp; subst hp; simp
/-- what a written letter adds -/
noncomputable def srcOf (r : List Nat) (c : Nat) (st : List (Int × Int)) : List (Int × Int) := (st.filter fun p => decide (r[p.1.toNat]? = some c)).foldl (fun acc p => putI acc (p.1 + 1) p.2) []
theorem foldl_map_put (l acc : List (Int × Int)) : l.foldl (fun acc p => putI acc (p.1 + 1) p.2) acc = (l.map fun p => (p.1 + 1, p.2)).foldl (fun acc p => putI acc p.1 p.2) acc := by
  rw [List.foldl_map]
theorem look_shift (l : List (Int × Int)) (j : Int) : lookI (l.map fun p => (p.1 + 1, p.2)) j = lookI l (j - 1) := by
  induction l with
  | nil => rfl
  | cons p r ih =>
    show (if p.1 + 1 = j then some p.2 else lookI _ j) = if p.1 = j - 1 then some p.2 else lookI r (j - 1)
    rw [ih]
    by_cases h : p.1 = j - 1
    · rw [if_pos h, if_pos (by omega)]
    · rw [if_neg h, if_neg (by omega)]
theorem look_filter (q : Int → Bool) (l : List (Int × Int)) (j : Int) : lookI (l.filter fun p => q p.1) j = if q j then lookI l j else none := by
  induction l with
  | nil => simp [lookI]
  | cons p r ih =>
    rw [List.filter_cons]
    by_cases h : q p.1 = true
    · rw [if_pos h]
      show (if p.1 = j then some p.2 else lookI _ j) = if q j = true then (if p.1 = j then some p.2 else lookI r j) else none
      rw [ih]
      by_cases e : p.1 = j
      · rw [e] at h; simp [e, h]
      · simp [e]
    · rw [if_neg h, ih]
      show _ = if q j = true then (if p.1 = j then some p.2 else lookI r j) else none
      by_cases e : p.1 = j
      · rw [e] at h; simp [h]
      · simp [e]
theorem src_nodup (r : List Nat) (c : Nat) (st : List (Int × Int)) (hn : (st.map (·.1)).Nodup) : ((((st.filter fun p => decide (r[p.1.toNat]? = some c))).map fun p => (p.1 + 1, p.2)).map (·.1)).Nodup := by
  have h1 : (((st.filter fun p => decide (r[p.1.toNat]? = some c))).map (·.1)).Nodup := hn.sublist (List.filter_sublist.map _)
  rw [List.map_map]
  unfold List.Nodup at h1 ⊢
  rw [List.pairwise_map] at h1 ⊢
  exact h1.imp fun {a b} h => by
    show a.1 + 1 ≠ b.1 + 1
    have h' : a.1 ≠ b.1 := h
    omega
theorem look_src (r : List Nat) (c : Nat) (st : List (Int × Int)) (hn : (st.map (·.1)).Nodup) (j : Int) : lookI (srcOf r c st) j = if r[(j - 1).toNat]? = some c then lookI st (j - 1) else none := by
  unfold srcOf
  rw [foldl_map_put, look_fold _ _ _ (src_nodup r c st hn), look_shift, look_filter (fun k => decide (r[k.toNat]? = some c))]
  by_cases h : r[(j - 1).toNat]? = some c
  · simp only [h, decide_true, if_true]
    cases lookI st (j - 1) <;> rfl
  · simp only [h, decide_false, if_false, Bool.false_eq_true]; rfl
theorem mem_src {r : List Nat} {c : Nat} {st : List (Int × Int)} {q : Int × Int} (h : q ∈ srcOf r c st) : ∃ p ∈ st, q.1 = p.1 + 1 ∧ r[p.1.toNat]? = some c := by
  unfold srcOf at h
  rcases mem_foldput (fun p : Int × Int => p.1 + 1) (fun _ p => p.2) _ _ q h with h | ⟨p, hp, e⟩
  · exact nomatch h
  · have := List.mem_filter.mp hp
    exact ⟨p, this.1, e, by simpa using this.2⟩
theorem foldput_length {α : Type} (kf : α → Int) (vf : List (Int × Int) → α → Int) : ∀ (l : List α) (acc : List (Int × Int)), (l.foldl (fun acc a => putI acc (kf a) (vf acc a)) acc).length ≤ acc.length + l.length
  | [], _ => Nat.le_refl _
  | a :: r, acc => by
    rw [List.foldl_cons]
    have h1 := foldput_length kf vf r (putI acc (kf a) (vf acc a))
    have h2 := putI_length acc (kf a) (vf acc a)
    simp only [List.length_cons]; omega
theorem src_length (r : List Nat) (c : Nat) (st : List (Int × Int)) : (srcOf r c st).length ≤ st.length := by
  have h1 := foldput_length (fun p : Int × Int => p.1 + 1) (fun _ p => p.2) (st.filter fun p => decide (r[p.1.toNat]? = some c)) []
  have h2 := List.length_filter_le (fun p : Int × Int => decide (r[p.1.toNat]? = some c)) st
  unfold srcOf
  simp only [List.length_nil] at h1
  omega
theorem stands_up {r : List Nat} {c : Nat} {st : List (Int × Int)} {v : Nat → Int} (h : Stands r.length st v) (hn : (st.map (·.1)).Nodup) (hs : ((srcOf r c st).map (·.1)).Nodup) : Stands r.length (addI st (srcOf r c st)) (vstep r v (c, true)) where
  look := fun j => by
    rw [look_addI _ _ _ hn hs, look_src r c st hn, h.look]
    show _ = v j + (match j with | 0 => 0 | k + 1 => if r[k]? = some c then v k else 0)
    cases j with
    | zero =>
      have : lookI st (((0 : Nat) : Int) - 1) = none := look_none fun hm => by
        obtain ⟨p, hp, e⟩ := List.mem_map.mp hm
        have := (h.keys p hp).1
        omega
      rw [this]; simp
    | succ k =>
      have e : ((k + 1 : Nat) : Int) - 1 = (k : Int) := by omega
      rw [e]
      have e2 : (k : Int).toNat = k := rfl
      rw [e2]
      show _ = v (k + 1) + (if r[k]? = some c then v k else 0)
      rw [← h.look k]
      by_cases hc : r[k]? = some c <;> simp [hc]
  keys := fun q hq => by
    rcases mem_addI hq with ⟨p, hp, e⟩ | ⟨p, hp, e⟩
    · rw [e]; exact h.keys p hp
    · obtain ⟨p', hp', e', hr⟩ := mem_src hp
      have hk := h.keys p' hp'
      obtain ⟨hlt, _⟩ := List.getElem?_eq_some_iff.mp hr
      rw [e, e']
      omega
theorem stands_down {r : List Nat} {c k : Nat} {x : Int} {st : List (Int × Int)} {v : Nat → Int} (h : Stands r.length st v) (hn : (st.map (·.1)).Nodup) (hr : r[k]? = some c) (hx : lookI st k = some x) :
    Stands r.length (addI st [((k : Int) + 1, -x)]) (fun j => if j = k + 1 ∧ r[k]? = some c then v j - v k else v j) where
  look := fun j => by
    rw [look_addI _ _ _ hn (by simp), h.look]
    have hv : v k = x := by rw [← h.look k, hx]; rfl
    show v j + (if (k : Int) + 1 = j then some (-x) else none : Option Int).getD 0 = _
    by_cases e : j = k + 1
    · have e' : (k : Int) + 1 = j := by omega
      rw [if_pos e', if_pos ⟨e, hr⟩, hv]; simp only [Option.getD_some]; omega
    · have e' : ¬ (k : Int) + 1 = j := by omega
      rw [if_neg e', if_neg (fun h => e h.1)]; simp
  keys := fun q hq => by
    rcases mem_addI hq with ⟨p, hp, e⟩ | ⟨p, hp, e⟩
    · rw [e]; exact h.keys p hp
    · simp at hp
      subst hp
      obtain ⟨hlt, _⟩ := List.getElem?_eq_some_iff.mp hr
      rw [e]
      dsimp only
      omega
theorem stands_same {r : List Nat} {c k : Nat} {st : List (Int × Int)} {v : Nat → Int} (h : Stands r.length st v) (hr : r[k]? ≠ some c ∨ lookI st k = none) :
    Stands r.length st (fun j => if j = k + 1 ∧ r[k]? = some c then v j - v k else v j) where
  look := fun j => by
    by_cases e : j = k + 1 ∧ r[k]? = some c
    · rw [if_pos e]
      rcases hr with hr | hr
      · exact absurd e.2 hr
      · have hv : v k = 0 := by rw [← h.look k, hr]; rfl
        rw [h.look, hv]; omega
    · rw [if_neg e, h.look]
  keys := h.keys
end Mine
end

section
set_option maxRecDepth 100000
open PySem PySem.W PyProof.Rows PySem.Calls PySem.Spec
namespace Mine
theorem slice_past : ∀ r : List Nat, r.length ≤ 3 → Txt.slice (mkS r) (some (r.length : Int)) (some ((r.length : Int) + 1)) = mkS []
  | [], _ => rfl
  | [_], _ => rfl
  | [_, _], _ => rfl
  | [_, _, _], _ => rfl
  | _ :: _ :: _ :: _ :: _, h => by simp at h
theorem count_test (r : List Nat) (c : Nat) (k : Int) (hr : r.length ≤ 3) (h0 : 0 ≤ k) (h1 : k ≤ r.length) : (Txt.slice (mkS r) (some k) (some (k + 1)) == mkS [c]) = decide (r[k.toNat]? = some c) := by
  by_cases hk : k < r.length
  · rw [slice_mk2 r k (k + 1) h0 (by omega) (by omega), mkS_beq]
    have e : (k + 1 - k).toNat = 1 := by omega
    have hlt : k.toNat < r.length := by omega
    rw [e, List.drop_eq_getElem_cons hlt, List.getElem?_eq_getElem hlt]
    simp only [List.take_succ_cons, List.take_zero, List.cons.injEq, and_true, Option.some.injEq]
  · have hk' : k = r.length := by omega
    subst hk'
    rw [slice_past r hr, mkS_beq]
    simp
theorem item_test (r : List Nat) (c j : Nat) (hj : j < r.length) : (Txt.item (mkS r) (j : Int) == mkS [c]) = decide (r[j]? = some c) := by
  rw [item_mk r j r[j] (by omega) (by simp [hj]), mkS_beq]
  simp [hj]
/-- pairs of a letter and a mark, as tuples in the ground -/
noncomputable def PairsAre (h : Heap) (vs : List Value) (ps : List (Nat × Bool)) : Prop :=
  vs.length = ps.length ∧ ∀ (i : Nat) v, vs[i]? = some v → ∃ T c t b, ps[i]? = some (c, b) ∧ v = .ref T ∧ IsTup h T #[.str (mkS [c]) t, .bool b]
/-- the ledger of _law_count -/
noncomputable def CLed (prog : Program) (w : World) (L : Addr) (pt : Value) (f : Addr × Obj → List (Addr × Obj) → List (Addr × Obj)) (Pl : Option Value → Prop) (st : List (Int × Int)) (nw : List (Addr × Obj)) : Prop :=
  ∃ D od kvs oc2 oc3 oc1, nw = f (D, od) [(L + 1 + 1 + 1, oc3), (L + 1 + 1, oc2), (L + 1, oc1)] ∧ oc2.data = .cell (some (.ref D)) ∧ oc1.data = .cell (some pt) ∧ (∃ x, oc3.data = .cell x ∧ Pl x) ∧ od.IsDictOf (intKind prog w) kvs ∧ IsI kvs st ∧ (D == sysModules) = false ∧ (@Ne Nat D (L + 1 + 1 + 1) ∧ @Ne Nat D (L + 1 + 1) ∧ @Ne Nat D (L + 1))
theorem IsI.at {kvs ns} (h : IsI kvs ns) : (kvs.map (·.1)).Nodup → ∀ {i : Nat} {k y : Int}, ns[i]? = some (k, y) → ∃ t, valueAt kvs k = some (Value.int y t) := by
  induction h with
  | nil => intro _ i k y h; simp at h
  | @cons kvs ns k' x t hh ih =>
    intro hn i k y h
    cases i with
    | zero =>
      simp at h
      obtain ⟨rfl, rfl⟩ := h
      exact ⟨t, by simp [valueAt]⟩
    | succ i =>
      have h' : ns[i]? = some (k, y) := by simpa using h
      simp only [List.map_cons, List.nodup_cons] at hn
      obtain ⟨t', e⟩ := ih hn.2 h'
      have hne : k' ≠ k := by
        rintro rfl
        apply hn.1
        rw [hh.keys]
        exact List.mem_map.mpr ⟨(k', y), List.mem_of_getElem? h', rfl⟩
      exact ⟨t', by rw [← e]; simp [valueAt, hne]⟩
theorem news_drop {g h : Heap} {L : Addr} {x y z v : Addr × Obj} {r : List (Addr × Obj)} (N : News g L h (x :: y :: z :: v :: r)) : News g L h (x :: z :: r) := fun p hp => by
  rcases List.mem_cons.mp hp with rfl | hp
  · exact N _ (.head _)
  · rcases List.mem_cons.mp hp with rfl | hp
    · exact N _ (.tail _ (.tail _ (.head _)))
    · exact N p (.tail _ (.tail _ (.tail _ (.tail _ hp))))
theorem isDictOf_cls {prog : Program} {w : World} {o : Obj} {kvs : List (Int × Value)} (h : o.IsDictOf (intKind prog w) kvs) : o.cls = .type "dict" := let ⟨_, _, hc, _⟩ := h; hc.1
theorem news_swap {g h : Heap} {L : Addr} {x y : Addr × Obj} {r : List (Addr × Obj)} (N : News g L h (x :: y :: r)) : News g L h (y :: x :: r) := fun p hp => by
  rcases List.mem_cons.mp hp with rfl | hp
  · exact N _ (.tail _ (.head _))
  · rcases List.mem_cons.mp hp with rfl | hp
    · exact N _ (.head _)
    · exact N p (.tail _ (.tail _ hp))
set_option maxHeartbeats 8000000 in
/-- _law_count -/
theorem con_count (w : World) (l : Addr) (vs : List Value) (ps : List (Nat × Bool)) (r : List Nat) (t : Tok) (hr : r.length ≤ 3) (hx : vs.length ≤ 1000) : Pur PySem.Challenge.rw_zo0028_01.row.prog w (Pre.hc.heap_1 w.params) 115 [.ref l, .str (mkS r) t] (fun h => h.IsList l vs.toArray ∧ PairsAre h vs ps) 40 400 (OutI (cnt r ps)) := by
  w_top off
  k_fill
  unfold Pur
  intro p loose mean mg mb dp u fr gd s Q E X T hd hu hp ret
  refine cutG fun PC hPC => ?_
  obtain ⟨hl, hpl, hps⟩ := hp
  refine hPC ?_
  clear hPC PC
  have hms : (mkS r).length ≤ 1000 := by rw [mkS_len]; omega
  refine wpAny_call ?_
  k_dflt (refine' enterC ?k3 ?k5 ?k6 ?k7 ?k8 ?k9 ?kB ?kD ?_ ?c2 ?c3 ?c4; (case k3 => k_asm); (case k5 => k_asm); (case k6 => k_is); (case k7 => k_is); (case k8 => k_room); (case k9 => exact BindsTo.of_eq rfl); (case kB => exact rfl); (case kD => decide +kernel); (case c2 => exact rfl); (case c3 => exact rfl); (case c4 => exact rfl); k_whole; intro g' L' h' tk' cells' hg' F' N' Y' X' T'; subst hg'; k_cells Y'; (try dsimp only); (try k_fold))
  (repeat' (first | (k_unfold; (try dsimp only)) | (k_end; wrow_close) | ((with_reducible show wpAny _ _ (exec _ _) _ _ _); k_fold; (first | ((with_reducible show wpAny _ _ (eval (PySem.Expr.Dict _ _ _) _) _ _ _); k_here; k_dflt ((refine' kdn_eval (knd := PySem.intKind _ _) ?F ?N ?b ?a ?l ?e ?n ?_; (case F => k_asm); (case N => first | k_asm | exact News.nil); (case b => exact Top.nolimit (by k_asm)); (case a => rfl); (case l => rfl); (case e => exact List.cons_ne_nil _ _); (case n => exact Nat.le_of_ble_eq_true rfl))); intro _ _ _ _ _ l1 _ _; (try k_lt l1)) | (k_here; (with_reducible show wpAny _ _ (pyIter (Value.ref _)) (fun it s₂ => TurnsAt _ _ _ _ _ _ _ _ _ it s₂) _ _); refine Stop.elim ?_) | ((with_reducible show wpAny _ _ (exec (Stmt.For (PySem.Expr.Tuple _ _ _) (PySem.Expr.Name _ _) _ _ _) _) _ _ _); k_here; (rename Fr _ _ _ _ => lF'); (with_unfolding_all refine' For_turns lF' ?_); k_whole) | walk1)) | ((with_reducible show wpAny _ _ (eval (PySem.Expr.Dict _ _ _) _) _ _ _); k_here; k_dflt ((refine' kdn_eval (knd := PySem.intKind _ _) ?F ?N ?b ?a ?l ?e ?n ?_; (case F => k_asm); (case N => first | k_asm | exact News.nil); (case b => exact Top.nolimit (by k_asm)); (case a => rfl); (case l => rfl); (case e => exact List.cons_ne_nil _ _); (case n => exact Nat.le_of_ble_eq_true rfl))); intro _ _ _ _ _ l1 _ _; (try k_lt l1)) | (k_here; (with_reducible show wpAny _ _ (pyIter (Value.ref _)) (fun it s₂ => TurnsAt _ _ _ _ _ _ _ _ _ it s₂) _ _); refine Stop.elim ?_) | ((with_reducible show wpAny _ _ (exec (Stmt.For (PySem.Expr.Tuple _ _ _) (PySem.Expr.Name _ _) _ _ _) _) _ _ _); k_here; (rename Fr _ _ _ _ => lF'); (with_unfolding_all refine' For_turns lF' ?_); k_whole) | walk1 | (dsimp only; (first | ((with_reducible show wpAny _ _ (eval (PySem.Expr.Dict _ _ _) _) _ _ _); k_here; k_dflt ((refine' kdn_eval (knd := PySem.intKind _ _) ?F ?N ?b ?a ?l ?e ?n ?_; (case F => k_asm); (case N => first | k_asm | exact News.nil); (case b => exact Top.nolimit (by k_asm)); (case a => rfl); (case l => rfl); (case e => exact List.cons_ne_nil _ _); (case n => exact Nat.le_of_ble_eq_true rfl))); intro _ _ _ _ _ l1 _ _; (try k_lt l1)) | (k_here; (with_reducible show wpAny _ _ (pyIter (Value.ref _)) (fun it s₂ => TurnsAt _ _ _ _ _ _ _ _ _ it s₂) _ _); refine Stop.elim ?_) | ((with_reducible show wpAny _ _ (exec (Stmt.For (PySem.Expr.Tuple _ _ _) (PySem.Expr.Name _ _) _ _ _) _) _ _ _); k_here; (rename Fr _ _ _ _ => lF'); (with_unfolding_all refine' For_turns lF' ?_); k_whole) | walk1)) | (leave1; walk_say "STEP leave1"; try dsimp only) | fail "no step"))
  (rename Fr _ _ _ _ => fF)
  (rename News _ _ _ _ => nN)
  refine Stop.intro ?_
  with_unfolding_all refine gl_iter (vs := vs) rfl fF nN hl ?_
  intro I hI
  k_lt hI
  refine' rest_ind (fun i m' news' => Kept m' news' [(Str.ofString "letters", Value.ref l)] (fun nw => ∃ st, CLed PySem.Challenge.rw_zo0028_01.row.prog w L' (.str (mkS r) t) (fun p q => p :: q) (fun _ => True) st nw ∧ Stands r.length st ((ps.take i).foldl (vstep r) (fun j => if j = 0 then 1 else 0)))) ?_ ?_ ?h0 trivial
  case h0 =>
    refine' ⟨⟨rfl, trivial⟩, [(0, 1)], ⟨_, _, ?kv, _, _, _, rfl, ?a3, ?a4, ⟨?a6, ?a5, trivial⟩, ?a1, ?a2, ?a7, ?a9⟩, ?a8⟩
    case a1 => assumption
    case a2 => exact IsI.cons 0 1 _ .nil
    case a3 => assumption
    case a4 => assumption
    case a5 => assumption
    case a7 => assumption
    case a9 => refine ⟨?_, ?_, ?_⟩ <;> omega
    case a8 => exact stands_init _
  · intro i c m' news' v h₂ tk₂ hc hJ _ hv hF
    refine cutG fun PC hPC => ?_
    obtain ⟨hkn, st, ⟨D, od, kvs, oc2, oc3, oc1, rfl, hc2, hc1, ⟨x3, hc3, _⟩, hod, hsI, lo, hn1, hn2, hn3⟩, hst⟩ := hJ
    refine hPC ?_
    clear hPC PC
    replace hF := knows_fr hF hkn; dsimp only [knowF] at hF
    obtain ⟨v', hcv, rfl⟩ : ∃ v', vs[i]? = some v' ∧ c = .val v' := by
      rw [List.getElem?_map] at hc
      cases e : vs[i]? with
      | none => rw [e] at hc; exact nomatch hc
      | some v' => rw [e] at hc; exact ⟨v', rfl, (Option.some.inj hc).symm⟩
    have hv' : v = v' := hv
    subst hv'
    refine cutG fun PC hPC => ?_
    obtain ⟨T₁, c, t₁, b, hpi, rfl, hT₁⟩ := hps i v hcv
    refine hPC ?_
    clear hPC PC
    replace hT₁ := hT₁.keeps hF.keep
    have hnd := dictOf_nodup hod
    have hnd' : (st.map (·.1)).Nodup := hsI.keys ▸ hnd
    have hst4 : st.length ≤ 4 := Nat.le_trans (hst.length hnd') (by omega)
    rw [take_fold _ _ _ _ _ hpi]
    refine AllObj.cons (fun oI hcI => ?_)
    dsimp only at hcI
    refine AllObj.nil (fun nN => ?_)
    simp only [List.cons_append, List.nil_append] at nN
    cases b with
    | true =>
      (repeat' (first | (k_unfold; (try dsimp only)) | (k_end; wrow_close) | ((with_reducible show wpAny _ _ (exec _ _) _ _ _); k_fold; (first | ((with_reducible show wpAny _ _ (eval (PySem.Expr.DictComp _ _ _ _ _) _) _ _ _); k_here; refine Stop.elim ?_) | ((with_reducible show wpAny _ _ (eval (PySem.Expr.Dict _ _ _) _) _ _ _); k_here; k_dflt ((refine' kdn_eval (knd := PySem.intKind _ _) ?F ?N ?b ?a ?l ?e ?n ?_; (case F => k_asm); (case N => first | k_asm | exact News.nil); (case b => exact Top.nolimit (by k_asm)); (case a => rfl); (case l => rfl); (case e => exact List.cons_ne_nil _ _); (case n => exact Nat.le_of_ble_eq_true rfl))); intro _ _ _ _ _ l1 _ _; (try k_lt l1)) | (k_here; (with_reducible show wpAny _ _ (pyIter (Value.ref _)) (fun it s₂ => TurnsAt _ _ _ _ _ _ _ _ _ it s₂) _ _); refine Stop.elim ?_) | ((with_reducible show wpAny _ _ (exec (Stmt.For (PySem.Expr.Tuple _ _ _) (PySem.Expr.Name _ _) _ _ _) _) _ _ _); k_here; (rename Fr _ _ _ _ => lF'); (with_unfolding_all refine' For_turns lF' ?_); k_whole) | walk1)) | ((with_reducible show wpAny _ _ (eval (PySem.Expr.DictComp _ _ _ _ _) _) _ _ _); k_here; refine Stop.elim ?_) | ((with_reducible show wpAny _ _ (eval (PySem.Expr.Dict _ _ _) _) _ _ _); k_here; k_dflt ((refine' kdn_eval (knd := PySem.intKind _ _) ?F ?N ?b ?a ?l ?e ?n ?_; (case F => k_asm); (case N => first | k_asm | exact News.nil); (case b => exact Top.nolimit (by k_asm)); (case a => rfl); (case l => rfl); (case e => exact List.cons_ne_nil _ _); (case n => exact Nat.le_of_ble_eq_true rfl))); intro _ _ _ _ _ l1 _ _; (try k_lt l1)) | (k_here; (with_reducible show wpAny _ _ (pyIter (Value.ref _)) (fun it s₂ => TurnsAt _ _ _ _ _ _ _ _ _ it s₂) _ _); refine Stop.elim ?_) | ((with_reducible show wpAny _ _ (exec (Stmt.For (PySem.Expr.Tuple _ _ _) (PySem.Expr.Name _ _) _ _ _) _) _ _ _); k_here; (rename Fr _ _ _ _ => lF'); (with_unfolding_all refine' For_turns lF' ?_); k_whole) | walk1 | (dsimp only; (first | ((with_reducible show wpAny _ _ (eval (PySem.Expr.DictComp _ _ _ _ _) _) _ _ _); k_here; refine Stop.elim ?_) | ((with_reducible show wpAny _ _ (eval (PySem.Expr.Dict _ _ _) _) _ _ _); k_here; k_dflt ((refine' kdn_eval (knd := PySem.intKind _ _) ?F ?N ?b ?a ?l ?e ?n ?_; (case F => k_asm); (case N => first | k_asm | exact News.nil); (case b => exact Top.nolimit (by k_asm)); (case a => rfl); (case l => rfl); (case e => exact List.cons_ne_nil _ _); (case n => exact Nat.le_of_ble_eq_true rfl))); intro _ _ _ _ _ l1 _ _; (try k_lt l1)) | (k_here; (with_reducible show wpAny _ _ (pyIter (Value.ref _)) (fun it s₂ => TurnsAt _ _ _ _ _ _ _ _ _ it s₂) _ _); refine Stop.elim ?_) | ((with_reducible show wpAny _ _ (exec (Stmt.For (PySem.Expr.Tuple _ _ _) (PySem.Expr.Name _ _) _ _ _) _) _ _ _); k_here; (rename Fr _ _ _ _ => lF'); (with_unfolding_all refine' For_turns lF' ?_); k_whole) | walk1)) | (leave1; walk_say "STEP leave1"; try dsimp only) | fail "no step"))
      (rename Fr _ _ _ _ => fF)
      (rename News _ _ _ _ => nN)
      refine Stop.intro ?_
      have hbig := modules_low T'.nolimit
      k_dflt (refine' DictComp_I (fun p => decide (r[p.1.toNat]? = some c)) (fun p => p.1 + 1) (fun p => p.2) fF nN ?p1 ?p2 ?p3 ?p4 ?p5 ?p6 ?q1 ?q2 ?q3 ?q4 ?q5 ?q6 ?q7 ?q8 ?q9 ?q10 ?p7 ?q11)
      case q6 => exact wpAny_Name (wpAny_loadName_cell (c := L' + 1 + 1) rfl rfl rfl ⟨_, (nN _ (.tail _ (.tail _ (.tail _ (.head _))))).1, hc2⟩ ⟨rfl, fF, nN, SameS.intro⟩) (by decide)
      case p1 => rfl
      case p3 => exact hsI
      case p4 => exact hod
      case p2 => omega
      case p5 => k_mem
      case p6 => exact lo
      case p7 => exact hbig
      case q1 => with_unfolding_all rfl
      case q2 => decide
      case q3 => rfl
      case q4 => decide
      case q5 => rfl
      case q11 => intro _; with_unfolding_all rfl
      case q7 =>
        clear fF nN
        intro s₂ i₂ k y t₂ I₂ oI C oC D₂ oD m₂ h₃ tk₃ E₂ hns hC hx F₃ N₃ hoff hne
        have hk := hst.keys _ (List.mem_of_getElem? hns)
        (repeat' (first | (k_unfold; (try dsimp only)) | (k_end; wrow_close) | ((with_reducible show wpAny _ _ (eval (PySem.Expr.DictComp _ _ _ _ _) _) _ _ _); k_here; refine Stop.elim ?_) | ((with_reducible show wpAny _ _ (eval (PySem.Expr.Dict _ _ _) _) _ _ _); k_here; k_dflt ((refine' kdn_eval (knd := PySem.intKind _ _) ?F ?N ?b ?a ?l ?e ?n ?_; (case F => k_asm); (case N => first | k_asm | exact News.nil); (case b => exact Top.nolimit (by k_asm)); (case a => rfl); (case l => rfl); (case e => exact List.cons_ne_nil _ _); (case n => exact Nat.le_of_ble_eq_true rfl))); intro _ _ _ _ _ l1 _ _; (try k_lt l1)) | (k_here; (with_reducible show wpAny _ _ (pyIter (Value.ref _)) (fun it s₂ => TurnsAt _ _ _ _ _ _ _ _ _ it s₂) _ _); refine Stop.elim ?_) | ((with_reducible show wpAny _ _ (exec (Stmt.For (PySem.Expr.Tuple _ _ _) (PySem.Expr.Name _ _) _ _ _) _) _ _ _); k_here; (rename Fr _ _ _ _ => lF'); (with_unfolding_all refine' For_turns lF' ?_); k_whole) | walk1 | (dsimp only; (first | ((with_reducible show wpAny _ _ (eval (PySem.Expr.DictComp _ _ _ _ _) _) _ _ _); k_here; refine Stop.elim ?_) | ((with_reducible show wpAny _ _ (eval (PySem.Expr.Dict _ _ _) _) _ _ _); k_here; k_dflt ((refine' kdn_eval (knd := PySem.intKind _ _) ?F ?N ?b ?a ?l ?e ?n ?_; (case F => k_asm); (case N => first | k_asm | exact News.nil); (case b => exact Top.nolimit (by k_asm)); (case a => rfl); (case l => rfl); (case e => exact List.cons_ne_nil _ _); (case n => exact Nat.le_of_ble_eq_true rfl))); intro _ _ _ _ _ l1 _ _; (try k_lt l1)) | (k_here; (with_reducible show wpAny _ _ (pyIter (Value.ref _)) (fun it s₂ => TurnsAt _ _ _ _ _ _ _ _ _ it s₂) _ _); refine Stop.elim ?_) | ((with_reducible show wpAny _ _ (exec (Stmt.For (PySem.Expr.Tuple _ _ _) (PySem.Expr.Name _ _) _ _ _) _) _ _ _); k_here; (rename Fr _ _ _ _ => lF'); (with_unfolding_all refine' For_turns lF' ?_); k_whole) | walk1)) | (leave1; walk_say "STEP leave1"; try dsimp only) | fail "no step"))
        refine DEnd.intro (by assumption) (by assumption) (fun _ hp => hp) ?_
        exact count_test _ _ _ hr hk.1 hk.2
      case q8 =>
        clear fF nN
        intro s₂ i₂ k y t₂ I₂ oI C oC D₂ oD m₂ h₃ tk₃ E₂ hns hC hx F₃ N₃ hoff hne hpz
        (repeat' (first | (k_unfold; (try dsimp only)) | (k_end; wrow_close) | ((with_reducible show wpAny _ _ (eval (PySem.Expr.DictComp _ _ _ _ _) _) _ _ _); k_here; refine Stop.elim ?_) | ((with_reducible show wpAny _ _ (eval (PySem.Expr.Dict _ _ _) _) _ _ _); k_here; k_dflt ((refine' kdn_eval (knd := PySem.intKind _ _) ?F ?N ?b ?a ?l ?e ?n ?_; (case F => k_asm); (case N => first | k_asm | exact News.nil); (case b => exact Top.nolimit (by k_asm)); (case a => rfl); (case l => rfl); (case e => exact List.cons_ne_nil _ _); (case n => exact Nat.le_of_ble_eq_true rfl))); intro _ _ _ _ _ l1 _ _; (try k_lt l1)) | (k_here; (with_reducible show wpAny _ _ (pyIter (Value.ref _)) (fun it s₂ => TurnsAt _ _ _ _ _ _ _ _ _ it s₂) _ _); refine Stop.elim ?_) | ((with_reducible show wpAny _ _ (exec (Stmt.For (PySem.Expr.Tuple _ _ _) (PySem.Expr.Name _ _) _ _ _) _) _ _ _); k_here; (rename Fr _ _ _ _ => lF'); (with_unfolding_all refine' For_turns lF' ?_); k_whole) | walk1 | (dsimp only; (first | ((with_reducible show wpAny _ _ (eval (PySem.Expr.DictComp _ _ _ _ _) _) _ _ _); k_here; refine Stop.elim ?_) | ((with_reducible show wpAny _ _ (eval (PySem.Expr.Dict _ _ _) _) _ _ _); k_here; k_dflt ((refine' kdn_eval (knd := PySem.intKind _ _) ?F ?N ?b ?a ?l ?e ?n ?_; (case F => k_asm); (case N => first | k_asm | exact News.nil); (case b => exact Top.nolimit (by k_asm)); (case a => rfl); (case l => rfl); (case e => exact List.cons_ne_nil _ _); (case n => exact Nat.le_of_ble_eq_true rfl))); intro _ _ _ _ _ l1 _ _; (try k_lt l1)) | (k_here; (with_reducible show wpAny _ _ (pyIter (Value.ref _)) (fun it s₂ => TurnsAt _ _ _ _ _ _ _ _ _ it s₂) _ _); refine Stop.elim ?_) | ((with_reducible show wpAny _ _ (exec (Stmt.For (PySem.Expr.Tuple _ _ _) (PySem.Expr.Name _ _) _ _ _) _) _ _ _); k_here; (rename Fr _ _ _ _ => lF'); (with_unfolding_all refine' For_turns lF' ?_); k_whole) | walk1)) | (leave1; walk_say "STEP leave1"; try dsimp only) | fail "no step"))
        refine DEnd.intro (by assumption) (by assumption) (fun _ hp => hp) ⟨_, rfl⟩
      case q9 =>
        clear fF nN
        intro s₂ i₂ k y t₂ I₂ oI C oC D₂ oD m₂ h₃ tk₃ E₂ hns hC hx F₃ N₃ hoff hne hpz
        obtain ⟨t₄, hval⟩ := hsI.at (dictOf_nodup hod) hns
        (repeat' (first | (k_unfold; (try dsimp only)) | (k_end; wrow_close) | ((with_reducible show wpAny _ _ (eval (PySem.Expr.DictComp _ _ _ _ _) _) _ _ _); k_here; refine Stop.elim ?_) | ((with_reducible show wpAny _ _ (eval (PySem.Expr.Dict _ _ _) _) _ _ _); k_here; k_dflt ((refine' kdn_eval (knd := PySem.intKind _ _) ?F ?N ?b ?a ?l ?e ?n ?_; (case F => k_asm); (case N => first | k_asm | exact News.nil); (case b => exact Top.nolimit (by k_asm)); (case a => rfl); (case l => rfl); (case e => exact List.cons_ne_nil _ _); (case n => exact Nat.le_of_ble_eq_true rfl))); intro _ _ _ _ _ l1 _ _; (try k_lt l1)) | (k_here; (with_reducible show wpAny _ _ (pyIter (Value.ref _)) (fun it s₂ => TurnsAt _ _ _ _ _ _ _ _ _ it s₂) _ _); refine Stop.elim ?_) | (k_here; (with_reducible show wpAny _ _ (subscriptTail _ _ (Value.ref _) (Value.int _ _)) _ _ _); k_dflt (refine' kda_item (knd := PySem.intKind _ _) ?N ?m ?d (intKind_is _ _ _ _) ?l ?_ ?s ?g; (case N => k_asm); (case m => k_mem); (case d => assumption); (case l => assumption); (case s => with_unfolding_all rfl); (case g => (intro _; with_unfolding_all rfl)))) | ((with_reducible show wpAny _ _ (exec (Stmt.For (PySem.Expr.Tuple _ _ _) (PySem.Expr.Name _ _) _ _ _) _) _ _ _); k_here; (rename Fr _ _ _ _ => lF'); (with_unfolding_all refine' For_turns lF' ?_); k_whole) | walk1 | (dsimp only; (first | ((with_reducible show wpAny _ _ (eval (PySem.Expr.DictComp _ _ _ _ _) _) _ _ _); k_here; refine Stop.elim ?_) | ((with_reducible show wpAny _ _ (eval (PySem.Expr.Dict _ _ _) _) _ _ _); k_here; k_dflt ((refine' kdn_eval (knd := PySem.intKind _ _) ?F ?N ?b ?a ?l ?e ?n ?_; (case F => k_asm); (case N => first | k_asm | exact News.nil); (case b => exact Top.nolimit (by k_asm)); (case a => rfl); (case l => rfl); (case e => exact List.cons_ne_nil _ _); (case n => exact Nat.le_of_ble_eq_true rfl))); intro _ _ _ _ _ l1 _ _; (try k_lt l1)) | (k_here; (with_reducible show wpAny _ _ (pyIter (Value.ref _)) (fun it s₂ => TurnsAt _ _ _ _ _ _ _ _ _ it s₂) _ _); refine Stop.elim ?_) | (k_here; (with_reducible show wpAny _ _ (subscriptTail _ _ (Value.ref _) (Value.int _ _)) _ _ _); k_dflt (refine' kda_item (knd := PySem.intKind _ _) ?N ?m ?d (intKind_is _ _ _ _) ?l ?_ ?s ?g; (case N => k_asm); (case m => k_mem); (case d => assumption); (case l => assumption); (case s => with_unfolding_all rfl); (case g => (intro _; with_unfolding_all rfl)))) | ((with_reducible show wpAny _ _ (exec (Stmt.For (PySem.Expr.Tuple _ _ _) (PySem.Expr.Name _ _) _ _ _) _) _ _ _); k_here; (rename Fr _ _ _ _ => lF'); (with_unfolding_all refine' For_turns lF' ?_); k_whole) | walk1)) | (leave1; walk_say "STEP leave1"; try dsimp only) | fail "no step"))
        exact DEnd.intro (by assumption) (by assumption) (fun _ hp => hp) ⟨_, rfl⟩
      case q10 =>
        clear fF nN
        intro D₂ o₂ kvs₂ h₃ tk₃ F₃ N₃ hoff hdo hio lo₂
        (repeat' (first | (k_unfold; (try dsimp only)) | (k_end; wrow_close) | ((with_reducible show wpAny _ _ (eval (PySem.Expr.DictComp _ _ _ _ _) _) _ _ _); k_here; refine Stop.elim ?_) | ((with_reducible show wpAny _ _ (eval (PySem.Expr.Dict _ _ _) _) _ _ _); k_here; k_dflt ((refine' kdn_eval (knd := PySem.intKind _ _) ?F ?N ?b ?a ?l ?e ?n ?_; (case F => k_asm); (case N => first | k_asm | exact News.nil); (case b => exact Top.nolimit (by k_asm)); (case a => rfl); (case l => rfl); (case e => exact List.cons_ne_nil _ _); (case n => exact Nat.le_of_ble_eq_true rfl))); intro _ _ _ _ _ l1 _ _; (try k_lt l1)) | (k_here; (with_reducible show wpAny _ _ (pyIter (Value.ref _)) (fun it s₂ => TurnsAt _ _ _ _ _ _ _ _ _ it s₂) _ _); refine Stop.elim ?_) | (k_here; (with_reducible show wpAny _ _ (subscriptTail _ _ (Value.ref _) (Value.int _ _)) _ _ _); k_dflt (refine' kda_item (knd := PySem.intKind _ _) ?N ?m ?d (intKind_is _ _ _ _) ?l ?_ ?s ?g; (case N => k_asm); (case m => k_mem); (case d => assumption); (case l => assumption); (case s => with_unfolding_all rfl); (case g => (intro _; with_unfolding_all rfl)))) | ((with_reducible show wpAny _ _ (exec (Stmt.For (PySem.Expr.Tuple _ _ _) (PySem.Expr.Name _ _) _ _ _) _) _ _ _); k_here; (rename Fr _ _ _ _ => lF'); (with_unfolding_all refine' For_turns lF' ?_); k_whole) | walk1 | (dsimp only; (first | ((with_reducible show wpAny _ _ (eval (PySem.Expr.DictComp _ _ _ _ _) _) _ _ _); k_here; refine Stop.elim ?_) | ((with_reducible show wpAny _ _ (eval (PySem.Expr.Dict _ _ _) _) _ _ _); k_here; k_dflt ((refine' kdn_eval (knd := PySem.intKind _ _) ?F ?N ?b ?a ?l ?e ?n ?_; (case F => k_asm); (case N => first | k_asm | exact News.nil); (case b => exact Top.nolimit (by k_asm)); (case a => rfl); (case l => rfl); (case e => exact List.cons_ne_nil _ _); (case n => exact Nat.le_of_ble_eq_true rfl))); intro _ _ _ _ _ l1 _ _; (try k_lt l1)) | (k_here; (with_reducible show wpAny _ _ (pyIter (Value.ref _)) (fun it s₂ => TurnsAt _ _ _ _ _ _ _ _ _ it s₂) _ _); refine Stop.elim ?_) | (k_here; (with_reducible show wpAny _ _ (subscriptTail _ _ (Value.ref _) (Value.int _ _)) _ _ _); k_dflt (refine' kda_item (knd := PySem.intKind _ _) ?N ?m ?d (intKind_is _ _ _ _) ?l ?_ ?s ?g; (case N => k_asm); (case m => k_mem); (case d => assumption); (case l => assumption); (case s => with_unfolding_all rfl); (case g => (intro _; with_unfolding_all rfl)))) | ((with_reducible show wpAny _ _ (exec (Stmt.For (PySem.Expr.Tuple _ _ _) (PySem.Expr.Name _ _) _ _ _) _) _ _ _); k_here; (rename Fr _ _ _ _ => lF'); (with_unfolding_all refine' For_turns lF' ?_); k_whole) | walk1)) | (leave1; walk_say "STEP leave1"; try dsimp only) | fail "no step"))
        (rename News _ _ _ _ => N₄)
        (rename Fr _ _ _ _ => F₄)
        have hlen₂ : (srcOf r c st).length ≤ 50 := Nat.le_trans (src_length r c st) (by omega)
        refine use_pur (con_addc w D D₂ st (srcOf r c st) (by omega) hlen₂) F₄ N₄ X' T' ?r1 ?r2 ⟨⟨od, kvs, (N₄ (D, od) ?r3).1, hod, hsI⟩, ⟨o₂, kvs₂, (N₄ (D₂, o₂) (.head _)).1, hdo, hio⟩, lo, lo₂⟩ ?r4
        case r1 => k_room
        case r2 => k_room
        case r3 => k_mem
        case r4 =>
          intro r₅ h₅ tk₅ F₅ N₅ hs₅ ⟨a, oa, kva, e₅, hf₅, hg₅, hda, hia, loa⟩
          subst e₅
          have N₆ := news_add F₄ N₅ hf₅ hg₅
          have na1 := news_ne N₄ hf₅ (.tail _ (.head _))
          have na2 := news_ne N₄ hf₅ (.tail _ (.tail _ (.tail _ (.head _))))
          have na3 := news_ne N₄ hf₅ (.tail _ (.tail _ (.tail _ (.tail _ (.head _)))))
          have na4 := news_ne N₄ hf₅ (.tail _ (.tail _ (.tail _ (.tail _ (.tail _ (.head _))))))
          dsimp only at na1 na2 na3 na4
          replace N₆ := news_drop N₆
          clear N₅ N₄ F₄
          (repeat' (first | (k_unfold; (try dsimp only)) | (k_end; wrow_close) | ((with_reducible show wpAny _ _ (eval (PySem.Expr.DictComp _ _ _ _ _) _) _ _ _); k_here; refine Stop.elim ?_) | ((with_reducible show wpAny _ _ (eval (PySem.Expr.Dict _ _ _) _) _ _ _); k_here; k_dflt ((refine' kdn_eval (knd := PySem.intKind _ _) ?F ?N ?b ?a ?l ?e ?n ?_; (case F => k_asm); (case N => first | k_asm | exact News.nil); (case b => exact Top.nolimit (by k_asm)); (case a => rfl); (case l => rfl); (case e => exact List.cons_ne_nil _ _); (case n => exact Nat.le_of_ble_eq_true rfl))); intro _ _ _ _ _ l1 _ _; (try k_lt l1)) | (k_here; (with_reducible show wpAny _ _ (pyIter (Value.ref _)) (fun it s₂ => TurnsAt _ _ _ _ _ _ _ _ _ it s₂) _ _); refine Stop.elim ?_) | (k_here; (with_reducible show wpAny _ _ (subscriptTail _ _ (Value.ref _) (Value.int _ _)) _ _ _); k_dflt (refine' kda_item (knd := PySem.intKind _ _) ?N ?m ?d (intKind_is _ _ _ _) ?l ?_ ?s ?g; (case N => k_asm); (case m => k_mem); (case d => assumption); (case l => assumption); (case s => with_unfolding_all rfl); (case g => (intro _; with_unfolding_all rfl)))) | ((with_reducible show wpAny _ _ (exec (Stmt.For (PySem.Expr.Tuple _ _ _) (PySem.Expr.Name _ _) _ _ _) _) _ _ _); k_here; (rename Fr _ _ _ _ => lF'); (with_unfolding_all refine' For_turns lF' ?_); k_whole) | walk1 | (dsimp only; (first | ((with_reducible show wpAny _ _ (eval (PySem.Expr.DictComp _ _ _ _ _) _) _ _ _); k_here; refine Stop.elim ?_) | ((with_reducible show wpAny _ _ (eval (PySem.Expr.Dict _ _ _) _) _ _ _); k_here; k_dflt ((refine' kdn_eval (knd := PySem.intKind _ _) ?F ?N ?b ?a ?l ?e ?n ?_; (case F => k_asm); (case N => first | k_asm | exact News.nil); (case b => exact Top.nolimit (by k_asm)); (case a => rfl); (case l => rfl); (case e => exact List.cons_ne_nil _ _); (case n => exact Nat.le_of_ble_eq_true rfl))); intro _ _ _ _ _ l1 _ _; (try k_lt l1)) | (k_here; (with_reducible show wpAny _ _ (pyIter (Value.ref _)) (fun it s₂ => TurnsAt _ _ _ _ _ _ _ _ _ it s₂) _ _); refine Stop.elim ?_) | (k_here; (with_reducible show wpAny _ _ (subscriptTail _ _ (Value.ref _) (Value.int _ _)) _ _ _); k_dflt (refine' kda_item (knd := PySem.intKind _ _) ?N ?m ?d (intKind_is _ _ _ _) ?l ?_ ?s ?g; (case N => k_asm); (case m => k_mem); (case d => assumption); (case l => assumption); (case s => with_unfolding_all rfl); (case g => (intro _; with_unfolding_all rfl)))) | ((with_reducible show wpAny _ _ (exec (Stmt.For (PySem.Expr.Tuple _ _ _) (PySem.Expr.Name _ _) _ _ _) _) _ _ _); k_here; (rename Fr _ _ _ _ => lF'); (with_unfolding_all refine' For_turns lF' ?_); k_whole) | walk1)) | (leave1; walk_say "STEP leave1"; try dsimp only) | fail "no step"))
          refine' ⟨⟨rfl, trivial⟩, _, ⟨_, _, _, _, _, _, rfl, ?b1, hc1, ⟨_, ?b2, trivial⟩, hda, hia, loa, na2, na3, na4⟩, stands_up hst hnd' (hio.keys ▸ dictOf_nodup hdo)⟩
          case b1 => assumption
          case b2 => assumption
    | false =>
      (repeat' (first | (k_unfold; (try dsimp only)) | (k_end; wrow_close) | ((with_reducible show wpAny _ _ (exec _ _) _ _ _); k_fold; (first | ((with_reducible show wpAny _ _ (eval (PySem.Expr.DictComp _ _ _ _ _) _) _ _ _); k_here; refine Stop.elim ?_) | ((with_reducible show wpAny _ _ (eval (PySem.Expr.Dict _ _ _) _) _ _ _); k_here; k_dflt ((refine' kdn_eval (knd := PySem.intKind _ _) ?F ?N ?b ?a ?l ?e ?n ?_; (case F => k_asm); (case N => first | k_asm | exact News.nil); (case b => exact Top.nolimit (by k_asm)); (case a => rfl); (case l => rfl); (case e => exact List.cons_ne_nil _ _); (case n => exact Nat.le_of_ble_eq_true rfl))); intro _ _ _ _ _ l1 _ _; (try k_lt l1)) | (k_here; (with_reducible show wpAny _ _ (pyIter (Value.ref _)) (fun it s₂ => TurnsAt _ _ _ _ _ _ _ _ _ it s₂) _ _); refine Stop.elim ?_) | ((with_reducible show wpAny _ _ (exec (Stmt.For (PySem.Expr.Name _ _) (PySem.Expr.Call _ _ _ _) _ _ _) _) _ _ _); k_here; (rename Fr _ _ _ _ => lF'); (with_unfolding_all refine' For_turns lF' ?_); k_whole) | (k_here; (with_reducible show wpAny _ _ (subscriptTail _ _ (Value.ref _) (Value.int _ _)) _ _ _); k_dflt (refine' kda_item (knd := PySem.intKind _ _) ?N ?m ?d (intKind_is _ _ _ _) ?l ?_ ?s ?g; (case N => k_asm); (case m => k_mem); (case d => assumption); (case l => assumption); (case s => with_unfolding_all rfl); (case g => (intro _; with_unfolding_all rfl)))) | ((with_reducible show wpAny _ _ (exec (Stmt.For (PySem.Expr.Tuple _ _ _) (PySem.Expr.Name _ _) _ _ _) _) _ _ _); k_here; (rename Fr _ _ _ _ => lF'); (with_unfolding_all refine' For_turns lF' ?_); k_whole) | walk1)) | ((with_reducible show wpAny _ _ (eval (PySem.Expr.DictComp _ _ _ _ _) _) _ _ _); k_here; refine Stop.elim ?_) | ((with_reducible show wpAny _ _ (eval (PySem.Expr.Dict _ _ _) _) _ _ _); k_here; k_dflt ((refine' kdn_eval (knd := PySem.intKind _ _) ?F ?N ?b ?a ?l ?e ?n ?_; (case F => k_asm); (case N => first | k_asm | exact News.nil); (case b => exact Top.nolimit (by k_asm)); (case a => rfl); (case l => rfl); (case e => exact List.cons_ne_nil _ _); (case n => exact Nat.le_of_ble_eq_true rfl))); intro _ _ _ _ _ l1 _ _; (try k_lt l1)) | (k_here; (with_reducible show wpAny _ _ (pyIter (Value.ref _)) (fun it s₂ => TurnsAt _ _ _ _ _ _ _ _ _ it s₂) _ _); refine Stop.elim ?_) | ((with_reducible show wpAny _ _ (exec (Stmt.For (PySem.Expr.Name _ _) (PySem.Expr.Call _ _ _ _) _ _ _) _) _ _ _); k_here; (rename Fr _ _ _ _ => lF'); (with_unfolding_all refine' For_turns lF' ?_); k_whole) | (k_here; (with_reducible show wpAny _ _ (subscriptTail _ _ (Value.ref _) (Value.int _ _)) _ _ _); k_dflt (refine' kda_item (knd := PySem.intKind _ _) ?N ?m ?d (intKind_is _ _ _ _) ?l ?_ ?s ?g; (case N => k_asm); (case m => k_mem); (case d => assumption); (case l => assumption); (case s => with_unfolding_all rfl); (case g => (intro _; with_unfolding_all rfl)))) | ((with_reducible show wpAny _ _ (exec (Stmt.For (PySem.Expr.Tuple _ _ _) (PySem.Expr.Name _ _) _ _ _) _) _ _ _); k_here; (rename Fr _ _ _ _ => lF'); (with_unfolding_all refine' For_turns lF' ?_); k_whole) | walk1 | (dsimp only; (first | ((with_reducible show wpAny _ _ (eval (PySem.Expr.DictComp _ _ _ _ _) _) _ _ _); k_here; refine Stop.elim ?_) | ((with_reducible show wpAny _ _ (eval (PySem.Expr.Dict _ _ _) _) _ _ _); k_here; k_dflt ((refine' kdn_eval (knd := PySem.intKind _ _) ?F ?N ?b ?a ?l ?e ?n ?_; (case F => k_asm); (case N => first | k_asm | exact News.nil); (case b => exact Top.nolimit (by k_asm)); (case a => rfl); (case l => rfl); (case e => exact List.cons_ne_nil _ _); (case n => exact Nat.le_of_ble_eq_true rfl))); intro _ _ _ _ _ l1 _ _; (try k_lt l1)) | (k_here; (with_reducible show wpAny _ _ (pyIter (Value.ref _)) (fun it s₂ => TurnsAt _ _ _ _ _ _ _ _ _ it s₂) _ _); refine Stop.elim ?_) | ((with_reducible show wpAny _ _ (exec (Stmt.For (PySem.Expr.Name _ _) (PySem.Expr.Call _ _ _ _) _ _ _) _) _ _ _); k_here; (rename Fr _ _ _ _ => lF'); (with_unfolding_all refine' For_turns lF' ?_); k_whole) | (k_here; (with_reducible show wpAny _ _ (subscriptTail _ _ (Value.ref _) (Value.int _ _)) _ _ _); k_dflt (refine' kda_item (knd := PySem.intKind _ _) ?N ?m ?d (intKind_is _ _ _ _) ?l ?_ ?s ?g; (case N => k_asm); (case m => k_mem); (case d => assumption); (case l => assumption); (case s => with_unfolding_all rfl); (case g => (intro _; with_unfolding_all rfl)))) | ((with_reducible show wpAny _ _ (exec (Stmt.For (PySem.Expr.Tuple _ _ _) (PySem.Expr.Name _ _) _ _ _) _) _ _ _); k_here; (rename Fr _ _ _ _ => lF'); (with_unfolding_all refine' For_turns lF' ?_); k_whole) | walk1)) | (leave1; walk_say "STEP leave1"; try dsimp only) | fail "no step"))
      (rename IsRange _ _ _ _ _ _ _ _ => hR)
      (rename Fr _ _ _ _ => fF)
      (rename News _ _ _ _ => nN)
      have nN2 := news_swap nN
      refine Stop.intro ?_
      with_unfolding_all refine iter_rangeTurns (n := r.length) rfl hR ?hs1 ?hs2 fF nN2 ?_
      case hs1 => exact small_one (a := 0) (b := (r.length : Int)) (by omega) (by omega) (by omega) (by omega)
      case hs2 => exact range_one r.length
      clear fF nN
      intro I₂ hI₂
      k_lt hI₂
      refine rest_ind (fun j m' news' => Kept m' news' [(Str.ofString "letters", Value.ref l)] (fun nw => ∃ st', CLed PySem.Challenge.rw_zo0028_01.row.prog w L' (.str (mkS r) t) (fun p q => p :: (I, oI) :: q) (fun x => x = some (.str (mkS [c]) t₁)) st' nw ∧ Stands r.length st' (vdown r ((ps.take i).foldl (vstep r) (fun j => if j = 0 then 1 else 0)) c j))) ?_ ?_ ?h1 trivial
      case h1 =>
        refine' ⟨⟨rfl, trivial⟩, st, ⟨_, _, _, _, _, _, rfl, hc2, hc1, ⟨_, ?_, rfl⟩, hod, hsI, lo, hn1, hn2, hn3⟩, hst⟩
        assumption
      · intro j c' m' news' v' h₄ tk₄ hc' hJ' _ hv' hF'
        obtain ⟨hjn, rfl⟩ := rangeItems_get hc'
        refine cutG fun PC hPC => ?_
        obtain ⟨hkn', st', ⟨D', od', kvs', oc2', oc3', oc1', rfl, e2, e1, ⟨x3', e3, rfl⟩, hod', hsI', lo', hm1, hm2, hm3⟩, hst'⟩ := hJ'
        refine hPC ?_
        clear hPC PC
        obtain ⟨t₄, e4⟩ := hv'
        have ej : (0 + (j : Int) * 1) = j := by omega
        have e5 : v' = .int (j : Int) t₄ := by rw [e4]; show Value.int _ _ = _; rw [ej]
        subst e5
        replace hF' := knows_fr hF' hkn'; dsimp only [knowF] at hF'
        have hnd2 := dictOf_nodup hod'
        have hdc := isDictOf_cls hod'
        have hnd2' : (st'.map (·.1)).Nodup := hsI'.keys ▸ hnd2
        have hst4' : st'.length ≤ 4 := Nat.le_trans (hst'.length hnd2') (by omega)
        have hjb : (j : Int) < (mkS r).length := by rw [mkS_len]; omega
        clear hod hsI hc2 hc1 lo hn1 hn2 hn3
        ktu_objs
        rcases hsI'.value j with ⟨y, t₅, hv1, hv2⟩ | ⟨hv1, hv2⟩
        · (repeat' (first | (k_unfold; (try dsimp only)) | (k_end; wrow_close) | ((with_reducible show wpAny _ _ (exec _ _) _ _ _); k_fold; (first | ((with_reducible show wpAny _ _ (compareOp CmpOp.In (Value.int _ _) (Value.ref _)) _ _ _); k_here; k_dflt (first | (refine' kda_in (knd := PySem.intKind _ _) ?N ?m ?d ?l (intKind_is _ _ _ _) true ?b ?_; (case N => k_asm); (case m => k_mem); (case d => assumption); (case l => assumption); (case b => (rename valueAt _ _ = some _ => hvv; rw [hvv]; rfl))) | (refine' kda_in (knd := PySem.intKind _ _) ?N ?m ?d ?l (intKind_is _ _ _ _) false ?b ?_; (case N => k_asm); (case m => k_mem); (case d => assumption); (case l => assumption); (case b => (rename valueAt _ _ = none => hvv; rw [hvv]; rfl))))) | ((with_reducible show wpAny _ _ (eval (PySem.Expr.DictComp _ _ _ _ _) _) _ _ _); k_here; refine Stop.elim ?_) | ((with_reducible show wpAny _ _ (eval (PySem.Expr.Dict _ _ _) _) _ _ _); k_here; k_dflt ((refine' kdn_eval (knd := PySem.intKind _ _) ?F ?N ?b ?a ?l ?e ?n ?_; (case F => k_asm); (case N => first | k_asm | exact News.nil); (case b => exact Top.nolimit (by k_asm)); (case a => rfl); (case l => rfl); (case e => exact List.cons_ne_nil _ _); (case n => exact Nat.le_of_ble_eq_true rfl))); intro _ _ _ _ _ l1 _ _; (try k_lt l1)) | (k_here; (with_reducible show wpAny _ _ (pyIter (Value.ref _)) (fun it s₂ => TurnsAt _ _ _ _ _ _ _ _ _ it s₂) _ _); refine Stop.elim ?_) | ((with_reducible show wpAny _ _ (exec (Stmt.For (PySem.Expr.Name _ _) (PySem.Expr.Call _ _ _ _) _ _ _) _) _ _ _); k_here; (rename Fr _ _ _ _ => lF'); (with_unfolding_all refine' For_turns lF' ?_); k_whole) | (k_here; (with_reducible show wpAny _ _ (subscriptTail _ _ (Value.ref _) (Value.int _ _)) _ _ _); k_dflt (refine' kda_item (knd := PySem.intKind _ _) ?N ?m ?d (intKind_is _ _ _ _) ?l ?_ ?s ?g; (case N => k_asm); (case m => k_mem); (case d => assumption); (case l => assumption); (case s => with_unfolding_all rfl); (case g => (intro _; with_unfolding_all rfl)))) | ((with_reducible show wpAny _ _ (exec (Stmt.For (PySem.Expr.Tuple _ _ _) (PySem.Expr.Name _ _) _ _ _) _) _ _ _); k_here; (rename Fr _ _ _ _ => lF'); (with_unfolding_all refine' For_turns lF' ?_); k_whole) | walk1)) | ((with_reducible show wpAny _ _ (compareOp CmpOp.In (Value.int _ _) (Value.ref _)) _ _ _); k_here; k_dflt (first | (refine' kda_in (knd := PySem.intKind _ _) ?N ?m ?d ?l (intKind_is _ _ _ _) true ?b ?_; (case N => k_asm); (case m => k_mem); (case d => assumption); (case l => assumption); (case b => (rename valueAt _ _ = some _ => hvv; rw [hvv]; rfl))) | (refine' kda_in (knd := PySem.intKind _ _) ?N ?m ?d ?l (intKind_is _ _ _ _) false ?b ?_; (case N => k_asm); (case m => k_mem); (case d => assumption); (case l => assumption); (case b => (rename valueAt _ _ = none => hvv; rw [hvv]; rfl))))) | ((with_reducible show wpAny _ _ (eval (PySem.Expr.DictComp _ _ _ _ _) _) _ _ _); k_here; refine Stop.elim ?_) | ((with_reducible show wpAny _ _ (eval (PySem.Expr.Dict _ _ _) _) _ _ _); k_here; k_dflt ((refine' kdn_eval (knd := PySem.intKind _ _) ?F ?N ?b ?a ?l ?e ?n ?_; (case F => k_asm); (case N => first | k_asm | exact News.nil); (case b => exact Top.nolimit (by k_asm)); (case a => rfl); (case l => rfl); (case e => exact List.cons_ne_nil _ _); (case n => exact Nat.le_of_ble_eq_true rfl))); intro _ _ _ _ _ l1 _ _; (try k_lt l1)) | (k_here; (with_reducible show wpAny _ _ (pyIter (Value.ref _)) (fun it s₂ => TurnsAt _ _ _ _ _ _ _ _ _ it s₂) _ _); refine Stop.elim ?_) | ((with_reducible show wpAny _ _ (exec (Stmt.For (PySem.Expr.Name _ _) (PySem.Expr.Call _ _ _ _) _ _ _) _) _ _ _); k_here; (rename Fr _ _ _ _ => lF'); (with_unfolding_all refine' For_turns lF' ?_); k_whole) | (k_here; (with_reducible show wpAny _ _ (subscriptTail _ _ (Value.ref _) (Value.int _ _)) _ _ _); k_dflt (refine' kda_item (knd := PySem.intKind _ _) ?N ?m ?d (intKind_is _ _ _ _) ?l ?_ ?s ?g; (case N => k_asm); (case m => k_mem); (case d => assumption); (case l => assumption); (case s => with_unfolding_all rfl); (case g => (intro _; with_unfolding_all rfl)))) | ((with_reducible show wpAny _ _ (exec (Stmt.For (PySem.Expr.Tuple _ _ _) (PySem.Expr.Name _ _) _ _ _) _) _ _ _); k_here; (rename Fr _ _ _ _ => lF'); (with_unfolding_all refine' For_turns lF' ?_); k_whole) | walk1 | (dsimp only; (first | ((with_reducible show wpAny _ _ (compareOp CmpOp.In (Value.int _ _) (Value.ref _)) _ _ _); k_here; k_dflt (first | (refine' kda_in (knd := PySem.intKind _ _) ?N ?m ?d ?l (intKind_is _ _ _ _) true ?b ?_; (case N => k_asm); (case m => k_mem); (case d => assumption); (case l => assumption); (case b => (rename valueAt _ _ = some _ => hvv; rw [hvv]; rfl))) | (refine' kda_in (knd := PySem.intKind _ _) ?N ?m ?d ?l (intKind_is _ _ _ _) false ?b ?_; (case N => k_asm); (case m => k_mem); (case d => assumption); (case l => assumption); (case b => (rename valueAt _ _ = none => hvv; rw [hvv]; rfl))))) | ((with_reducible show wpAny _ _ (eval (PySem.Expr.DictComp _ _ _ _ _) _) _ _ _); k_here; refine Stop.elim ?_) | ((with_reducible show wpAny _ _ (eval (PySem.Expr.Dict _ _ _) _) _ _ _); k_here; k_dflt ((refine' kdn_eval (knd := PySem.intKind _ _) ?F ?N ?b ?a ?l ?e ?n ?_; (case F => k_asm); (case N => first | k_asm | exact News.nil); (case b => exact Top.nolimit (by k_asm)); (case a => rfl); (case l => rfl); (case e => exact List.cons_ne_nil _ _); (case n => exact Nat.le_of_ble_eq_true rfl))); intro _ _ _ _ _ l1 _ _; (try k_lt l1)) | (k_here; (with_reducible show wpAny _ _ (pyIter (Value.ref _)) (fun it s₂ => TurnsAt _ _ _ _ _ _ _ _ _ it s₂) _ _); refine Stop.elim ?_) | ((with_reducible show wpAny _ _ (exec (Stmt.For (PySem.Expr.Name _ _) (PySem.Expr.Call _ _ _ _) _ _ _) _) _ _ _); k_here; (rename Fr _ _ _ _ => lF'); (with_unfolding_all refine' For_turns lF' ?_); k_whole) | (k_here; (with_reducible show wpAny _ _ (subscriptTail _ _ (Value.ref _) (Value.int _ _)) _ _ _); k_dflt (refine' kda_item (knd := PySem.intKind _ _) ?N ?m ?d (intKind_is _ _ _ _) ?l ?_ ?s ?g; (case N => k_asm); (case m => k_mem); (case d => assumption); (case l => assumption); (case s => with_unfolding_all rfl); (case g => (intro _; with_unfolding_all rfl)))) | ((with_reducible show wpAny _ _ (exec (Stmt.For (PySem.Expr.Tuple _ _ _) (PySem.Expr.Name _ _) _ _ _) _) _ _ _); k_here; (rename Fr _ _ _ _ => lF'); (with_unfolding_all refine' For_turns lF' ?_); k_whole) | walk1)) | (leave1; walk_say "STEP leave1"; try dsimp only) | fail "no step"))
          next =>
            (rename (_ == _) = true => h9)
            rw [item_test r c j (by rw [mkS_len] at hjb; omega)] at h9
            have hrc : r[j]? = some c := of_decide_eq_true h9
            (rename News _ _ _ _ => N₄)
            (rename Fr _ _ _ _ => F₄)
            refine use_pur (con_addc w D' _ st' [((j : Int) + 1, -y)] (by omega) (by simp)) F₄ N₄ X' T' ?r1 ?r2 ⟨⟨od', kvs', (N₄ (D', od') (.tail _ (.tail _ (.head _)))).1, hod', hsI'⟩, ⟨_, _, (N₄ _ (.head _)).1, by assumption, IsI.cons _ _ _ .nil⟩, lo', by assumption⟩ ?r4
            case r1 => k_room
            case r2 => k_room
            case r4 =>
              intro r₅ h₅ tk₅ F₅ N₅ hs₅ ⟨a, oa, kva, e₅, hf₅, hg₅, hda, hia, loa⟩
              subst e₅
              have N₆ := news_add F₄ N₅ hf₅ hg₅
              have na1 := news_ne N₄ hf₅ (.tail _ (.head _))
              have na5 := news_ne N₄ hf₅ (.tail _ (.tail _ (.tail _ (.head _))))
              have na2 := news_ne N₄ hf₅ (.tail _ (.tail _ (.tail _ (.tail _ (.head _)))))
              have na3 := news_ne N₄ hf₅ (.tail _ (.tail _ (.tail _ (.tail _ (.tail _ (.head _))))))
              have na4 := news_ne N₄ hf₅ (.tail _ (.tail _ (.tail _ (.tail _ (.tail _ (.tail _ (.head _)))))))
              dsimp only at na1 na2 na3 na4 na5
              replace N₆ := news_drop N₆
              clear N₅ N₄ F₄
              (repeat' (first | (k_unfold; (try dsimp only)) | (k_end; wrow_close) | ((with_reducible show wpAny _ _ (compareOp CmpOp.In (Value.int _ _) (Value.ref _)) _ _ _); k_here; k_dflt (first | (refine' kda_in (knd := PySem.intKind _ _) ?N ?m ?d ?l (intKind_is _ _ _ _) true ?b ?_; (case N => k_asm); (case m => k_mem); (case d => assumption); (case l => assumption); (case b => (rename valueAt _ _ = some _ => hvv; rw [hvv]; rfl))) | (refine' kda_in (knd := PySem.intKind _ _) ?N ?m ?d ?l (intKind_is _ _ _ _) false ?b ?_; (case N => k_asm); (case m => k_mem); (case d => assumption); (case l => assumption); (case b => (rename valueAt _ _ = none => hvv; rw [hvv]; rfl))))) | ((with_reducible show wpAny _ _ (eval (PySem.Expr.DictComp _ _ _ _ _) _) _ _ _); k_here; refine Stop.elim ?_) | ((with_reducible show wpAny _ _ (eval (PySem.Expr.Dict _ _ _) _) _ _ _); k_here; k_dflt ((refine' kdn_eval (knd := PySem.intKind _ _) ?F ?N ?b ?a ?l ?e ?n ?_; (case F => k_asm); (case N => first | k_asm | exact News.nil); (case b => exact Top.nolimit (by k_asm)); (case a => rfl); (case l => rfl); (case e => exact List.cons_ne_nil _ _); (case n => exact Nat.le_of_ble_eq_true rfl))); intro _ _ _ _ _ l1 _ _; (try k_lt l1)) | (k_here; (with_reducible show wpAny _ _ (pyIter (Value.ref _)) (fun it s₂ => TurnsAt _ _ _ _ _ _ _ _ _ it s₂) _ _); refine Stop.elim ?_) | ((with_reducible show wpAny _ _ (exec (Stmt.For (PySem.Expr.Name _ _) (PySem.Expr.Call _ _ _ _) _ _ _) _) _ _ _); k_here; (rename Fr _ _ _ _ => lF'); (with_unfolding_all refine' For_turns lF' ?_); k_whole) | (k_here; (with_reducible show wpAny _ _ (subscriptTail _ _ (Value.ref _) (Value.int _ _)) _ _ _); k_dflt (refine' kda_item (knd := PySem.intKind _ _) ?N ?m ?d (intKind_is _ _ _ _) ?l ?_ ?s ?g; (case N => k_asm); (case m => k_mem); (case d => assumption); (case l => assumption); (case s => with_unfolding_all rfl); (case g => (intro _; with_unfolding_all rfl)))) | ((with_reducible show wpAny _ _ (exec (Stmt.For (PySem.Expr.Tuple _ _ _) (PySem.Expr.Name _ _) _ _ _) _) _ _ _); k_here; (rename Fr _ _ _ _ => lF'); (with_unfolding_all refine' For_turns lF' ?_); k_whole) | walk1 | (dsimp only; (first | ((with_reducible show wpAny _ _ (compareOp CmpOp.In (Value.int _ _) (Value.ref _)) _ _ _); k_here; k_dflt (first | (refine' kda_in (knd := PySem.intKind _ _) ?N ?m ?d ?l (intKind_is _ _ _ _) true ?b ?_; (case N => k_asm); (case m => k_mem); (case d => assumption); (case l => assumption); (case b => (rename valueAt _ _ = some _ => hvv; rw [hvv]; rfl))) | (refine' kda_in (knd := PySem.intKind _ _) ?N ?m ?d ?l (intKind_is _ _ _ _) false ?b ?_; (case N => k_asm); (case m => k_mem); (case d => assumption); (case l => assumption); (case b => (rename valueAt _ _ = none => hvv; rw [hvv]; rfl))))) | ((with_reducible show wpAny _ _ (eval (PySem.Expr.DictComp _ _ _ _ _) _) _ _ _); k_here; refine Stop.elim ?_) | ((with_reducible show wpAny _ _ (eval (PySem.Expr.Dict _ _ _) _) _ _ _); k_here; k_dflt ((refine' kdn_eval (knd := PySem.intKind _ _) ?F ?N ?b ?a ?l ?e ?n ?_; (case F => k_asm); (case N => first | k_asm | exact News.nil); (case b => exact Top.nolimit (by k_asm)); (case a => rfl); (case l => rfl); (case e => exact List.cons_ne_nil _ _); (case n => exact Nat.le_of_ble_eq_true rfl))); intro _ _ _ _ _ l1 _ _; (try k_lt l1)) | (k_here; (with_reducible show wpAny _ _ (pyIter (Value.ref _)) (fun it s₂ => TurnsAt _ _ _ _ _ _ _ _ _ it s₂) _ _); refine Stop.elim ?_) | ((with_reducible show wpAny _ _ (exec (Stmt.For (PySem.Expr.Name _ _) (PySem.Expr.Call _ _ _ _) _ _ _) _) _ _ _); k_here; (rename Fr _ _ _ _ => lF'); (with_unfolding_all refine' For_turns lF' ?_); k_whole) | (k_here; (with_reducible show wpAny _ _ (subscriptTail _ _ (Value.ref _) (Value.int _ _)) _ _ _); k_dflt (refine' kda_item (knd := PySem.intKind _ _) ?N ?m ?d (intKind_is _ _ _ _) ?l ?_ ?s ?g; (case N => k_asm); (case m => k_mem); (case d => assumption); (case l => assumption); (case s => with_unfolding_all rfl); (case g => (intro _; with_unfolding_all rfl)))) | ((with_reducible show wpAny _ _ (exec (Stmt.For (PySem.Expr.Tuple _ _ _) (PySem.Expr.Name _ _) _ _ _) _) _ _ _); k_here; (rename Fr _ _ _ _ => lF'); (with_unfolding_all refine' For_turns lF' ?_); k_whole) | walk1)) | (leave1; walk_say "STEP leave1"; try dsimp only) | fail "no step"))
              refine' ⟨⟨rfl, trivial⟩, _, ⟨_, _, _, _, _, _, rfl, ?b1, e1, ⟨_, e3, rfl⟩, hda, hia, loa, na2, na3, na4⟩, stands_down hst' hnd2' hrc hv2⟩
              assumption
          next =>
            (rename (_ == _) = false => h9)
            rw [item_test r c j (by rw [mkS_len] at hjb; omega)] at h9
            exact ⟨⟨rfl, trivial⟩, _, ⟨_, _, _, _, _, _, rfl, e2, e1, ⟨_, e3, rfl⟩, hod', hsI', lo', hm1, hm2, hm3⟩, stands_same hst' (.inl (of_decide_eq_false h9))⟩
        · (repeat' (first | (k_unfold; (try dsimp only)) | (k_end; wrow_close) | ((with_reducible show wpAny _ _ (compareOp CmpOp.In (Value.int _ _) (Value.ref _)) _ _ _); k_here; k_dflt (first | (refine' kda_in (knd := PySem.intKind _ _) ?N ?m ?d ?l (intKind_is _ _ _ _) true ?b ?_; (case N => k_asm); (case m => k_mem); (case d => assumption); (case l => assumption); (case b => (rename valueAt _ _ = some _ => hvv; rw [hvv]; rfl))) | (refine' kda_in (knd := PySem.intKind _ _) ?N ?m ?d ?l (intKind_is _ _ _ _) false ?b ?_; (case N => k_asm); (case m => k_mem); (case d => assumption); (case l => assumption); (case b => (rename valueAt _ _ = none => hvv; rw [hvv]; rfl))))) | ((with_reducible show wpAny _ _ (eval (PySem.Expr.DictComp _ _ _ _ _) _) _ _ _); k_here; refine Stop.elim ?_) | ((with_reducible show wpAny _ _ (eval (PySem.Expr.Dict _ _ _) _) _ _ _); k_here; k_dflt ((refine' kdn_eval (knd := PySem.intKind _ _) ?F ?N ?b ?a ?l ?e ?n ?_; (case F => k_asm); (case N => first | k_asm | exact News.nil); (case b => exact Top.nolimit (by k_asm)); (case a => rfl); (case l => rfl); (case e => exact List.cons_ne_nil _ _); (case n => exact Nat.le_of_ble_eq_true rfl))); intro _ _ _ _ _ l1 _ _; (try k_lt l1)) | (k_here; (with_reducible show wpAny _ _ (pyIter (Value.ref _)) (fun it s₂ => TurnsAt _ _ _ _ _ _ _ _ _ it s₂) _ _); refine Stop.elim ?_) | ((with_reducible show wpAny _ _ (exec (Stmt.For (PySem.Expr.Name _ _) (PySem.Expr.Call _ _ _ _) _ _ _) _) _ _ _); k_here; (rename Fr _ _ _ _ => lF'); (with_unfolding_all refine' For_turns lF' ?_); k_whole) | (k_here; (with_reducible show wpAny _ _ (subscriptTail _ _ (Value.ref _) (Value.int _ _)) _ _ _); k_dflt (refine' kda_item (knd := PySem.intKind _ _) ?N ?m ?d (intKind_is _ _ _ _) ?l ?_ ?s ?g; (case N => k_asm); (case m => k_mem); (case d => assumption); (case l => assumption); (case s => with_unfolding_all rfl); (case g => (intro _; with_unfolding_all rfl)))) | ((with_reducible show wpAny _ _ (exec (Stmt.For (PySem.Expr.Tuple _ _ _) (PySem.Expr.Name _ _) _ _ _) _) _ _ _); k_here; (rename Fr _ _ _ _ => lF'); (with_unfolding_all refine' For_turns lF' ?_); k_whole) | walk1 | (dsimp only; (first | ((with_reducible show wpAny _ _ (compareOp CmpOp.In (Value.int _ _) (Value.ref _)) _ _ _); k_here; k_dflt (first | (refine' kda_in (knd := PySem.intKind _ _) ?N ?m ?d ?l (intKind_is _ _ _ _) true ?b ?_; (case N => k_asm); (case m => k_mem); (case d => assumption); (case l => assumption); (case b => (rename valueAt _ _ = some _ => hvv; rw [hvv]; rfl))) | (refine' kda_in (knd := PySem.intKind _ _) ?N ?m ?d ?l (intKind_is _ _ _ _) false ?b ?_; (case N => k_asm); (case m => k_mem); (case d => assumption); (case l => assumption); (case b => (rename valueAt _ _ = none => hvv; rw [hvv]; rfl))))) | ((with_reducible show wpAny _ _ (eval (PySem.Expr.DictComp _ _ _ _ _) _) _ _ _); k_here; refine Stop.elim ?_) | ((with_reducible show wpAny _ _ (eval (PySem.Expr.Dict _ _ _) _) _ _ _); k_here; k_dflt ((refine' kdn_eval (knd := PySem.intKind _ _) ?F ?N ?b ?a ?l ?e ?n ?_; (case F => k_asm); (case N => first | k_asm | exact News.nil); (case b => exact Top.nolimit (by k_asm)); (case a => rfl); (case l => rfl); (case e => exact List.cons_ne_nil _ _); (case n => exact Nat.le_of_ble_eq_true rfl))); intro _ _ _ _ _ l1 _ _; (try k_lt l1)) | (k_here; (with_reducible show wpAny _ _ (pyIter (Value.ref _)) (fun it s₂ => TurnsAt _ _ _ _ _ _ _ _ _ it s₂) _ _); refine Stop.elim ?_) | ((with_reducible show wpAny _ _ (exec (Stmt.For (PySem.Expr.Name _ _) (PySem.Expr.Call _ _ _ _) _ _ _) _) _ _ _); k_here; (rename Fr _ _ _ _ => lF'); (with_unfolding_all refine' For_turns lF' ?_); k_whole) | (k_here; (with_reducible show wpAny _ _ (subscriptTail _ _ (Value.ref _) (Value.int _ _)) _ _ _); k_dflt (refine' kda_item (knd := PySem.intKind _ _) ?N ?m ?d (intKind_is _ _ _ _) ?l ?_ ?s ?g; (case N => k_asm); (case m => k_mem); (case d => assumption); (case l => assumption); (case s => with_unfolding_all rfl); (case g => (intro _; with_unfolding_all rfl)))) | ((with_reducible show wpAny _ _ (exec (Stmt.For (PySem.Expr.Tuple _ _ _) (PySem.Expr.Name _ _) _ _ _) _) _ _ _); k_here; (rename Fr _ _ _ _ => lF'); (with_unfolding_all refine' For_turns lF' ?_); k_whole) | walk1)) | (leave1; walk_say "STEP leave1"; try dsimp only) | fail "no step"))
          next => exact ⟨⟨rfl, trivial⟩, _, ⟨_, _, _, _, _, _, rfl, e2, e1, ⟨_, e3, rfl⟩, hod', hsI', lo', hm1, hm2, hm3⟩, stands_same hst' (.inr hv2)⟩
          next => exact ⟨⟨rfl, trivial⟩, _, ⟨_, _, _, _, _, _, rfl, e2, e1, ⟨_, e3, rfl⟩, hod', hsI', lo', hm1, hm2, hm3⟩, stands_same hst' (.inr hv2)⟩
      · intro m' news' h₃ tk₃ hJ hF hN
        rw [rangeItems_length] at hJ
        refine cutG fun PC hPC => ?_
        obtain ⟨hkn', st', ⟨D', od', kvs', oc2', oc3', oc1', rfl, e2, e1, ⟨x3', e3, rfl⟩, hod', hsI', lo', hm1, hm2, hm3⟩, hst'⟩ := hJ
        refine hPC ?_
        clear hPC PC
        replace hF := knows_fr hF hkn'; dsimp only [knowF] at hF
        have hdc := isDictOf_cls hod'
        (repeat' (first | (k_unfold; (try dsimp only)) | (k_end; wrow_close) | ((with_reducible show wpAny _ _ (compareOp CmpOp.In (Value.int _ _) (Value.ref _)) _ _ _); k_here; k_dflt (first | (refine' kda_in (knd := PySem.intKind _ _) ?N ?m ?d ?l (intKind_is _ _ _ _) true ?b ?_; (case N => k_asm); (case m => k_mem); (case d => assumption); (case l => assumption); (case b => (rename valueAt _ _ = some _ => hvv; rw [hvv]; rfl))) | (refine' kda_in (knd := PySem.intKind _ _) ?N ?m ?d ?l (intKind_is _ _ _ _) false ?b ?_; (case N => k_asm); (case m => k_mem); (case d => assumption); (case l => assumption); (case b => (rename valueAt _ _ = none => hvv; rw [hvv]; rfl))))) | ((with_reducible show wpAny _ _ (eval (PySem.Expr.DictComp _ _ _ _ _) _) _ _ _); k_here; refine Stop.elim ?_) | ((with_reducible show wpAny _ _ (eval (PySem.Expr.Dict _ _ _) _) _ _ _); k_here; k_dflt ((refine' kdn_eval (knd := PySem.intKind _ _) ?F ?N ?b ?a ?l ?e ?n ?_; (case F => k_asm); (case N => first | k_asm | exact News.nil); (case b => exact Top.nolimit (by k_asm)); (case a => rfl); (case l => rfl); (case e => exact List.cons_ne_nil _ _); (case n => exact Nat.le_of_ble_eq_true rfl))); intro _ _ _ _ _ l1 _ _; (try k_lt l1)) | (k_here; (with_reducible show wpAny _ _ (pyIter (Value.ref _)) (fun it s₂ => TurnsAt _ _ _ _ _ _ _ _ _ it s₂) _ _); refine Stop.elim ?_) | ((with_reducible show wpAny _ _ (exec (Stmt.For (PySem.Expr.Name _ _) (PySem.Expr.Call _ _ _ _) _ _ _) _) _ _ _); k_here; (rename Fr _ _ _ _ => lF'); (with_unfolding_all refine' For_turns lF' ?_); k_whole) | (k_here; (with_reducible show wpAny _ _ (subscriptTail _ _ (Value.ref _) (Value.int _ _)) _ _ _); k_dflt (refine' kda_item (knd := PySem.intKind _ _) ?N ?m ?d (intKind_is _ _ _ _) ?l ?_ ?s ?g; (case N => k_asm); (case m => k_mem); (case d => assumption); (case l => assumption); (case s => with_unfolding_all rfl); (case g => (intro _; with_unfolding_all rfl)))) | ((with_reducible show wpAny _ _ (exec (Stmt.For (PySem.Expr.Tuple _ _ _) (PySem.Expr.Name _ _) _ _ _) _) _ _ _); k_here; (rename Fr _ _ _ _ => lF'); (with_unfolding_all refine' For_turns lF' ?_); k_whole) | walk1 | (dsimp only; (first | ((with_reducible show wpAny _ _ (compareOp CmpOp.In (Value.int _ _) (Value.ref _)) _ _ _); k_here; k_dflt (first | (refine' kda_in (knd := PySem.intKind _ _) ?N ?m ?d ?l (intKind_is _ _ _ _) true ?b ?_; (case N => k_asm); (case m => k_mem); (case d => assumption); (case l => assumption); (case b => (rename valueAt _ _ = some _ => hvv; rw [hvv]; rfl))) | (refine' kda_in (knd := PySem.intKind _ _) ?N ?m ?d ?l (intKind_is _ _ _ _) false ?b ?_; (case N => k_asm); (case m => k_mem); (case d => assumption); (case l => assumption); (case b => (rename valueAt _ _ = none => hvv; rw [hvv]; rfl))))) | ((with_reducible show wpAny _ _ (eval (PySem.Expr.DictComp _ _ _ _ _) _) _ _ _); k_here; refine Stop.elim ?_) | ((with_reducible show wpAny _ _ (eval (PySem.Expr.Dict _ _ _) _) _ _ _); k_here; k_dflt ((refine' kdn_eval (knd := PySem.intKind _ _) ?F ?N ?b ?a ?l ?e ?n ?_; (case F => k_asm); (case N => first | k_asm | exact News.nil); (case b => exact Top.nolimit (by k_asm)); (case a => rfl); (case l => rfl); (case e => exact List.cons_ne_nil _ _); (case n => exact Nat.le_of_ble_eq_true rfl))); intro _ _ _ _ _ l1 _ _; (try k_lt l1)) | (k_here; (with_reducible show wpAny _ _ (pyIter (Value.ref _)) (fun it s₂ => TurnsAt _ _ _ _ _ _ _ _ _ it s₂) _ _); refine Stop.elim ?_) | ((with_reducible show wpAny _ _ (exec (Stmt.For (PySem.Expr.Name _ _) (PySem.Expr.Call _ _ _ _) _ _ _) _) _ _ _); k_here; (rename Fr _ _ _ _ => lF'); (with_unfolding_all refine' For_turns lF' ?_); k_whole) | (k_here; (with_reducible show wpAny _ _ (subscriptTail _ _ (Value.ref _) (Value.int _ _)) _ _ _); k_dflt (refine' kda_item (knd := PySem.intKind _ _) ?N ?m ?d (intKind_is _ _ _ _) ?l ?_ ?s ?g; (case N => k_asm); (case m => k_mem); (case d => assumption); (case l => assumption); (case s => with_unfolding_all rfl); (case g => (intro _; with_unfolding_all rfl)))) | ((with_reducible show wpAny _ _ (exec (Stmt.For (PySem.Expr.Tuple _ _ _) (PySem.Expr.Name _ _) _ _ _) _) _ _ _); k_here; (rename Fr _ _ _ _ => lF'); (with_unfolding_all refine' For_turns lF' ?_); k_whole) | walk1)) | (leave1; walk_say "STEP leave1"; try dsimp only) | fail "no step"))
        refine' ⟨⟨rfl, trivial⟩, _, ⟨_, _, _, _, _, _, rfl, e2, e1, ⟨_, e3, trivial⟩, hod', hsI', lo', hm1, hm2, hm3⟩, hst'⟩
  · intro m' news' h₃ tk₃ hJ hF hN
    rw [List.length_map, hpl, List.take_length] at hJ
    refine cutG fun PC hPC => ?_
    obtain ⟨hkn, st, ⟨D, od, kvs, oc2, oc3, oc1, rfl, hc2, hc1, ⟨x3, hc3, _⟩, hod, hsI, lo, hn1, hn2, hn3⟩, hst⟩ := hJ
    refine hPC ?_
    clear hPC PC
    replace hF := knows_fr hF hkn; dsimp only [knowF] at hF
    have hlk := hst.look r.length
    rcases hsI.value r.length with ⟨y, t₅, hv1, hv2⟩ | ⟨hv1, hv2⟩
    · have hv3 : valueAt kvs ((mkS r).length : Int) = some (Value.int y t₅) := hv1
      rw [hv2] at hlk
      (repeat' (first | (k_unfold; (try dsimp only)) | (k_end; wrow_close) | ((with_reducible show wpAny _ _ (compareOp CmpOp.In (Value.int _ _) (Value.ref _)) _ _ _); k_here; k_dflt (first | (refine' kda_in (knd := PySem.intKind _ _) ?N ?m ?d ?l (intKind_is _ _ _ _) true ?b ?_; (case N => k_asm); (case m => k_mem); (case d => assumption); (case l => assumption); (case b => (rename valueAt _ _ = some _ => hvv; rw [hvv]; rfl))) | (refine' kda_in (knd := PySem.intKind _ _) ?N ?m ?d ?l (intKind_is _ _ _ _) false ?b ?_; (case N => k_asm); (case m => k_mem); (case d => assumption); (case l => assumption); (case b => (rename valueAt _ _ = none => hvv; rw [hvv]; rfl))))) | ((with_reducible show wpAny _ _ (eval (PySem.Expr.DictComp _ _ _ _ _) _) _ _ _); k_here; refine Stop.elim ?_) | ((with_reducible show wpAny _ _ (eval (PySem.Expr.Dict _ _ _) _) _ _ _); k_here; k_dflt ((refine' kdn_eval (knd := PySem.intKind _ _) ?F ?N ?b ?a ?l ?e ?n ?_; (case F => k_asm); (case N => first | k_asm | exact News.nil); (case b => exact Top.nolimit (by k_asm)); (case a => rfl); (case l => rfl); (case e => exact List.cons_ne_nil _ _); (case n => exact Nat.le_of_ble_eq_true rfl))); intro _ _ _ _ _ l1 _ _; (try k_lt l1)) | ((with_reducible show wpAny _ _ (call (Value.builtin "dict.get") _ _) _ _ _); k_here; k_dflt (refine' kdg_get2 (knd := PySem.intKind _ _) ?N ?m ?d ?l (intKind_is _ _ _ _) _ ?v ?_; (case N => k_asm); (case m => k_mem); (case d => assumption); (case l => assumption); (case v => assumption))) | (k_here; (with_reducible show wpAny _ _ (getMethod (Value.ref _) (Str.ofString "get") _) _ _ _); k_dflt (refine' kdg_method (knd := PySem.intKind _ _) ?N ?m ?d ?_; (case N => k_asm); (case m => k_mem); (case d => assumption))) | (k_here; (with_reducible show wpAny _ _ (pyIter (Value.ref _)) (fun it s₂ => TurnsAt _ _ _ _ _ _ _ _ _ it s₂) _ _); refine Stop.elim ?_) | ((with_reducible show wpAny _ _ (exec (Stmt.For (PySem.Expr.Name _ _) (PySem.Expr.Call _ _ _ _) _ _ _) _) _ _ _); k_here; (rename Fr _ _ _ _ => lF'); (with_unfolding_all refine' For_turns lF' ?_); k_whole) | (k_here; (with_reducible show wpAny _ _ (subscriptTail _ _ (Value.ref _) (Value.int _ _)) _ _ _); k_dflt (refine' kda_item (knd := PySem.intKind _ _) ?N ?m ?d (intKind_is _ _ _ _) ?l ?_ ?s ?g; (case N => k_asm); (case m => k_mem); (case d => assumption); (case l => assumption); (case s => with_unfolding_all rfl); (case g => (intro _; with_unfolding_all rfl)))) | ((with_reducible show wpAny _ _ (exec (Stmt.For (PySem.Expr.Tuple _ _ _) (PySem.Expr.Name _ _) _ _ _) _) _ _ _); k_here; (rename Fr _ _ _ _ => lF'); (with_unfolding_all refine' For_turns lF' ?_); k_whole) | walk1 | (dsimp only; (first | ((with_reducible show wpAny _ _ (compareOp CmpOp.In (Value.int _ _) (Value.ref _)) _ _ _); k_here; k_dflt (first | (refine' kda_in (knd := PySem.intKind _ _) ?N ?m ?d ?l (intKind_is _ _ _ _) true ?b ?_; (case N => k_asm); (case m => k_mem); (case d => assumption); (case l => assumption); (case b => (rename valueAt _ _ = some _ => hvv; rw [hvv]; rfl))) | (refine' kda_in (knd := PySem.intKind _ _) ?N ?m ?d ?l (intKind_is _ _ _ _) false ?b ?_; (case N => k_asm); (case m => k_mem); (case d => assumption); (case l => assumption); (case b => (rename valueAt _ _ = none => hvv; rw [hvv]; rfl))))) | ((with_reducible show wpAny _ _ (eval (PySem.Expr.DictComp _ _ _ _ _) _) _ _ _); k_here; refine Stop.elim ?_) | ((with_reducible show wpAny _ _ (eval (PySem.Expr.Dict _ _ _) _) _ _ _); k_here; k_dflt ((refine' kdn_eval (knd := PySem.intKind _ _) ?F ?N ?b ?a ?l ?e ?n ?_; (case F => k_asm); (case N => first | k_asm | exact News.nil); (case b => exact Top.nolimit (by k_asm)); (case a => rfl); (case l => rfl); (case e => exact List.cons_ne_nil _ _); (case n => exact Nat.le_of_ble_eq_true rfl))); intro _ _ _ _ _ l1 _ _; (try k_lt l1)) | ((with_reducible show wpAny _ _ (call (Value.builtin "dict.get") _ _) _ _ _); k_here; k_dflt (refine' kdg_get2 (knd := PySem.intKind _ _) ?N ?m ?d ?l (intKind_is _ _ _ _) _ ?v ?_; (case N => k_asm); (case m => k_mem); (case d => assumption); (case l => assumption); (case v => assumption))) | (k_here; (with_reducible show wpAny _ _ (getMethod (Value.ref _) (Str.ofString "get") _) _ _ _); k_dflt (refine' kdg_method (knd := PySem.intKind _ _) ?N ?m ?d ?_; (case N => k_asm); (case m => k_mem); (case d => assumption))) | (k_here; (with_reducible show wpAny _ _ (pyIter (Value.ref _)) (fun it s₂ => TurnsAt _ _ _ _ _ _ _ _ _ it s₂) _ _); refine Stop.elim ?_) | ((with_reducible show wpAny _ _ (exec (Stmt.For (PySem.Expr.Name _ _) (PySem.Expr.Call _ _ _ _) _ _ _) _) _ _ _); k_here; (rename Fr _ _ _ _ => lF'); (with_unfolding_all refine' For_turns lF' ?_); k_whole) | (k_here; (with_reducible show wpAny _ _ (subscriptTail _ _ (Value.ref _) (Value.int _ _)) _ _ _); k_dflt (refine' kda_item (knd := PySem.intKind _ _) ?N ?m ?d (intKind_is _ _ _ _) ?l ?_ ?s ?g; (case N => k_asm); (case m => k_mem); (case d => assumption); (case l => assumption); (case s => with_unfolding_all rfl); (case g => (intro _; with_unfolding_all rfl)))) | ((with_reducible show wpAny _ _ (exec (Stmt.For (PySem.Expr.Tuple _ _ _) (PySem.Expr.Name _ _) _ _ _) _) _ _ _); k_here; (rename Fr _ _ _ _ => lF'); (with_unfolding_all refine' For_turns lF' ?_); k_whole) | walk1)) | (leave1; walk_say "STEP leave1"; try dsimp only) | fail "no step"))
      (rename Fr _ _ _ _ => fF)
      exact ret _ _ _ fF.keep ⟨_, by rw [cnt, ← hlk]; rfl⟩
    · have hv3 : valueAt kvs ((mkS r).length : Int) = none := hv1
      rw [hv2] at hlk
      (repeat' (first | (k_unfold; (try dsimp only)) | (k_end; wrow_close) | ((with_reducible show wpAny _ _ (compareOp CmpOp.In (Value.int _ _) (Value.ref _)) _ _ _); k_here; k_dflt (first | (refine' kda_in (knd := PySem.intKind _ _) ?N ?m ?d ?l (intKind_is _ _ _ _) true ?b ?_; (case N => k_asm); (case m => k_mem); (case d => assumption); (case l => assumption); (case b => (rename valueAt _ _ = some _ => hvv; rw [hvv]; rfl))) | (refine' kda_in (knd := PySem.intKind _ _) ?N ?m ?d ?l (intKind_is _ _ _ _) false ?b ?_; (case N => k_asm); (case m => k_mem); (case d => assumption); (case l => assumption); (case b => (rename valueAt _ _ = none => hvv; rw [hvv]; rfl))))) | ((with_reducible show wpAny _ _ (eval (PySem.Expr.DictComp _ _ _ _ _) _) _ _ _); k_here; refine Stop.elim ?_) | ((with_reducible show wpAny _ _ (eval (PySem.Expr.Dict _ _ _) _) _ _ _); k_here; k_dflt ((refine' kdn_eval (knd := PySem.intKind _ _) ?F ?N ?b ?a ?l ?e ?n ?_; (case F => k_asm); (case N => first | k_asm | exact News.nil); (case b => exact Top.nolimit (by k_asm)); (case a => rfl); (case l => rfl); (case e => exact List.cons_ne_nil _ _); (case n => exact Nat.le_of_ble_eq_true rfl))); intro _ _ _ _ _ l1 _ _; (try k_lt l1)) | ((with_reducible show wpAny _ _ (call (Value.builtin "dict.get") _ _) _ _ _); k_here; k_dflt (refine' kdg_get2 (knd := PySem.intKind _ _) ?N ?m ?d ?l (intKind_is _ _ _ _) _ ?v ?_; (case N => k_asm); (case m => k_mem); (case d => assumption); (case l => assumption); (case v => assumption))) | (k_here; (with_reducible show wpAny _ _ (getMethod (Value.ref _) (Str.ofString "get") _) _ _ _); k_dflt (refine' kdg_method (knd := PySem.intKind _ _) ?N ?m ?d ?_; (case N => k_asm); (case m => k_mem); (case d => assumption))) | (k_here; (with_reducible show wpAny _ _ (pyIter (Value.ref _)) (fun it s₂ => TurnsAt _ _ _ _ _ _ _ _ _ it s₂) _ _); refine Stop.elim ?_) | ((with_reducible show wpAny _ _ (exec (Stmt.For (PySem.Expr.Name _ _) (PySem.Expr.Call _ _ _ _) _ _ _) _) _ _ _); k_here; (rename Fr _ _ _ _ => lF'); (with_unfolding_all refine' For_turns lF' ?_); k_whole) | (k_here; (with_reducible show wpAny _ _ (subscriptTail _ _ (Value.ref _) (Value.int _ _)) _ _ _); k_dflt (refine' kda_item (knd := PySem.intKind _ _) ?N ?m ?d (intKind_is _ _ _ _) ?l ?_ ?s ?g; (case N => k_asm); (case m => k_mem); (case d => assumption); (case l => assumption); (case s => with_unfolding_all rfl); (case g => (intro _; with_unfolding_all rfl)))) | ((with_reducible show wpAny _ _ (exec (Stmt.For (PySem.Expr.Tuple _ _ _) (PySem.Expr.Name _ _) _ _ _) _) _ _ _); k_here; (rename Fr _ _ _ _ => lF'); (with_unfolding_all refine' For_turns lF' ?_); k_whole) | walk1 | (dsimp only; (first | ((with_reducible show wpAny _ _ (compareOp CmpOp.In (Value.int _ _) (Value.ref _)) _ _ _); k_here; k_dflt (first | (refine' kda_in (knd := PySem.intKind _ _) ?N ?m ?d ?l (intKind_is _ _ _ _) true ?b ?_; (case N => k_asm); (case m => k_mem); (case d => assumption); (case l => assumption); (case b => (rename valueAt _ _ = some _ => hvv; rw [hvv]; rfl))) | (refine' kda_in (knd := PySem.intKind _ _) ?N ?m ?d ?l (intKind_is _ _ _ _) false ?b ?_; (case N => k_asm); (case m => k_mem); (case d => assumption); (case l => assumption); (case b => (rename valueAt _ _ = none => hvv; rw [hvv]; rfl))))) | ((with_reducible show wpAny _ _ (eval (PySem.Expr.DictComp _ _ _ _ _) _) _ _ _); k_here; refine Stop.elim ?_) | ((with_reducible show wpAny _ _ (eval (PySem.Expr.Dict _ _ _) _) _ _ _); k_here; k_dflt ((refine' kdn_eval (knd := PySem.intKind _ _) ?F ?N ?b ?a ?l ?e ?n ?_; (case F => k_asm); (case N => first | k_asm | exact News.nil); (case b => exact Top.nolimit (by k_asm)); (case a => rfl); (case l => rfl); (case e => exact List.cons_ne_nil _ _); (case n => exact Nat.le_of_ble_eq_true rfl))); intro _ _ _ _ _ l1 _ _; (try k_lt l1)) | ((with_reducible show wpAny _ _ (call (Value.builtin "dict.get") _ _) _ _ _); k_here; k_dflt (refine' kdg_get2 (knd := PySem.intKind _ _) ?N ?m ?d ?l (intKind_is _ _ _ _) _ ?v ?_; (case N => k_asm); (case m => k_mem); (case d => assumption); (case l => assumption); (case v => assumption))) | (k_here; (with_reducible show wpAny _ _ (getMethod (Value.ref _) (Str.ofString "get") _) _ _ _); k_dflt (refine' kdg_method (knd := PySem.intKind _ _) ?N ?m ?d ?_; (case N => k_asm); (case m => k_mem); (case d => assumption))) | (k_here; (with_reducible show wpAny _ _ (pyIter (Value.ref _)) (fun it s₂ => TurnsAt _ _ _ _ _ _ _ _ _ it s₂) _ _); refine Stop.elim ?_) | ((with_reducible show wpAny _ _ (exec (Stmt.For (PySem.Expr.Name _ _) (PySem.Expr.Call _ _ _ _) _ _ _) _) _ _ _); k_here; (rename Fr _ _ _ _ => lF'); (with_unfolding_all refine' For_turns lF' ?_); k_whole) | (k_here; (with_reducible show wpAny _ _ (subscriptTail _ _ (Value.ref _) (Value.int _ _)) _ _ _); k_dflt (refine' kda_item (knd := PySem.intKind _ _) ?N ?m ?d (intKind_is _ _ _ _) ?l ?_ ?s ?g; (case N => k_asm); (case m => k_mem); (case d => assumption); (case l => assumption); (case s => with_unfolding_all rfl); (case g => (intro _; with_unfolding_all rfl)))) | ((with_reducible show wpAny _ _ (exec (Stmt.For (PySem.Expr.Tuple _ _ _) (PySem.Expr.Name _ _) _ _ _) _) _ _ _); k_here; (rename Fr _ _ _ _ => lF'); (with_unfolding_all refine' For_turns lF' ?_); k_whole) | walk1)) | (leave1; walk_say "STEP leave1"; try dsimp only) | fail "no step"))
      (rename Fr _ _ _ _ => fF)
      exact ret _ _ _ fF.keep ⟨_, by rw [cnt, ← hlk]; rfl⟩

end Mine
end

section
set_option maxRecDepth 100000
open PySem PySem.W PyProof.Rows PySem.Calls PySem.Spec
namespace Mine
/-- one turn of differences -/
noncomputable def dif1 (ns : List Int) : List Int := (List.range ns.length).map fun k => ns.getD k 0 - (if 0 < k then ns.getD (k - 1) 0 else 0)
noncomputable def difs : Nat → List Int → List Int
  | 0, ns => ns
  | k + 1, ns => dif1 (difs k ns)
theorem dif1_eq (ms : List Int) : List.map (fun k' => if 0 < k' then ms.getD k'.toNat 0 - ms.getD (k' - 1).toNat 0 else ms.getD k'.toNat 0 - 0) (rangeKs 0 ((ms.length : Int) - 0).toNat) = dif1 ms := by
  unfold rangeKs dif1
  have e : ((ms.length : Int) - 0).toNat = ms.length := by omega
  rw [e, List.map_map]
  apply List.map_congr_left
  intro k _
  have e1 : (0 + (k : Int)).toNat = k := by omega
  have e2 : (0 + (k : Int) - 1).toNat = k - 1 := by omega
  show (if 0 < 0 + (k : Int) then _ else _) = _
  rw [e1, e2]
  by_cases h : 0 < k
  · rw [if_pos (by omega), if_pos h]
  · rw [if_neg (by omega), if_neg h]
theorem dif1_length (ns : List Int) : (dif1 ns).length = ns.length := by simp [dif1]
theorem difs_length (ns : List Int) : ∀ k, (difs k ns).length = ns.length
  | 0 => rfl
  | k + 1 => by rw [difs, dif1_length, difs_length ns k]
set_option maxHeartbeats 8000000 in
theorem con_diff (w : World) (l : Addr) (xs : List Value) (ns : List Int) (hI : IntsAre xs ns) (hn : ns.length ≤ 10) : Pur PySem.Challenge.rw_zo0028_01.row.prog w (Pre.hc.heap_1 w.params) 125 [.ref l] (fun h => h.IsList l xs.toArray) 40 400 (fun h r h' => ∃ D ys, r = .ref D ∧ h.get? D = none ∧ h'.IsList D ys.toArray ∧ IntsAre ys (difs ns.length ns)) := by
  w_top off
  k_fill
  unfold Pur
  intro p loose mean mg mb dp u fr gd s Q E X T hd hu hp ret
  refine wpAny_call ?_
  k_dflt (refine' enterC ?k3 ?k5 ?k6 ?k7 ?k8 ?k9 ?kB ?kD ?_ ?c2 ?c3 ?c4; (case k3 => k_asm); (case k5 => k_asm); (case k6 => k_is); (case k7 => k_is); (case k8 => k_room); (case k9 => exact BindsTo.of_eq rfl); (case kB => exact rfl); (case kD => decide +kernel); (case c2 => exact rfl); (case c3 => exact rfl); (case c4 => exact rfl); k_whole; intro g' L' h' tk' cells' hg' F' N' Y' X' T'; subst hg'; k_cells Y'; (try dsimp only); (try k_fold))
  (repeat' (first | (k_unfold; (try dsimp only)) | (k_end; wrow_close) | ((with_reducible show wpAny _ _ (exec _ _) _ _ _); k_fold; (first | (k_here; (with_reducible show wpAny _ _ (pyIter (Value.ref _)) (fun it s₂ => TurnsAt _ _ _ _ _ _ _ _ _ it s₂) _ _); refine Stop.elim ?_) | ((with_reducible show wpAny _ _ (exec (Stmt.For (PySem.Expr.Name _ _) (PySem.Expr.Call _ _ _ _) _ _ _) _) _ _ _); k_here; (rename Fr _ _ _ _ => lF'); (with_unfolding_all refine' For_turns lF' ?_); k_whole) | walk1)) | (k_here; (with_reducible show wpAny _ _ (pyIter (Value.ref _)) (fun it s₂ => TurnsAt _ _ _ _ _ _ _ _ _ it s₂) _ _); refine Stop.elim ?_) | ((with_reducible show wpAny _ _ (exec (Stmt.For (PySem.Expr.Name _ _) (PySem.Expr.Call _ _ _ _) _ _ _) _) _ _ _); k_here; (rename Fr _ _ _ _ => lF'); (with_unfolding_all refine' For_turns lF' ?_); k_whole) | walk1 | (dsimp only; (first | (k_here; (with_reducible show wpAny _ _ (pyIter (Value.ref _)) (fun it s₂ => TurnsAt _ _ _ _ _ _ _ _ _ it s₂) _ _); refine Stop.elim ?_) | ((with_reducible show wpAny _ _ (exec (Stmt.For (PySem.Expr.Name _ _) (PySem.Expr.Call _ _ _ _) _ _ _) _) _ _ _); k_here; (rename Fr _ _ _ _ => lF'); (with_unfolding_all refine' For_turns lF' ?_); k_whole) | walk1)) | (leave1; walk_say "STEP leave1"; try dsimp only) | fail "no step"))
  (rename IsRange _ _ _ _ _ _ _ _ => hR)
  (rename Fr _ _ _ _ => fF)
  (rename News _ _ _ _ => nN)
  have hxl : xs.length = ns.length := hI.length
  refine Stop.intro ?_
  with_unfolding_all refine iter_rangeTurns (n := ns.length) rfl hR ?hs1 ?hs2 fF nN ?_
  case hs1 => exact small_one (a := 0) (b := (ns.length : Int)) (by omega) (by omega) (by omega) (by omega)
  case hs2 => exact range_one ns.length
  clear fF nN
  intro I hI₂
  k_lt hI₂
  refine rest_ind (fun i m' news' => Kept m' news' [(Str.ofString "counts", Value.ref l)] (fun nw => ∃ D ys c oc, nw = [(D, W.listOf ys.toArray c), (L' + 1, oc)] ∧ oc.data = .cell (some (.ref D)) ∧ IntsAre ys (difs i ns) ∧ @Ne Nat D (L' + 1))) ?_ ?_ ?h0 trivial
  case h0 =>
    refine' ⟨⟨rfl, trivial⟩, _, _, _, _, rfl, ?b1, hI, ?b2⟩
    case b1 => assumption
    case b2 => omega
  · intro i c' m' news' v h₂ tk₂ hc hJ _ hv hF
    obtain ⟨hin, rfl⟩ := rangeItems_get hc
    refine cutG fun PC hPC => ?_
    obtain ⟨hkn, D, ys, c, oc, rfl, hoc, hys, hne⟩ := hJ
    refine hPC ?_
    clear hPC PC
    obtain ⟨t₂, rfl⟩ := hv
    replace hF := knows_fr hF hkn; dsimp only [knowF] at hF
    have hnl := difs_length ns i
    have hyl : ys.length ≤ 10 := by rw [hys.length, hnl]; exact hn
    generalize hms : difs i ns = ms at hys hnl
    ktu_objs
    clear hI
    (repeat' (first | (k_unfold; (try dsimp only)) | (k_end; wrow_close) | ((with_reducible show wpAny _ _ (exec _ _) _ _ _); k_fold; (first | ((with_reducible show UnrEndW _ _ _ _ _ _); refine Stop.elim ?_) | walk1)) | ((with_reducible show UnrEndW _ _ _ _ _ _); refine Stop.elim ?_) | walk1 | (dsimp only; (first | ((with_reducible show UnrEndW _ _ _ _ _ _); refine Stop.elim ?_) | walk1)) | (leave1; walk_say "STEP leave1"; try dsimp only) | fail "no step"))
    (rename IntsAre _ _ => hNew)
    (rename List Value => ys2)
    (rename Fr _ _ _ _ => fF)
    (rename News _ _ _ _ => nN)
    rw [dif1_eq, ← hms] at hNew
    refine Stop.intro ?_
    refine' UnrEndW.intro fF nN _ ?hI ?sub ?off ?r
    case r =>
      refine' ⟨trivial, ⟨⟨rfl, trivial⟩, _, ys2, ys2.length, _, rfl, ?b1, hNew, ?b2⟩⟩
      case b1 => assumption
      case b2 => omega
    case hI => k_subL
    case sub => k_subL
    case off => ktu_offL
  · intro m' news' h₂ tk₂ hJ hF hN
    rw [rangeItems_length] at hJ
    refine cutG fun PC hPC => ?_
    obtain ⟨hkn, D, ys, c, oc, rfl, hoc, hys, hne⟩ := hJ
    refine hPC ?_
    clear hPC PC
    replace hF := knows_fr hF hkn; dsimp only [knowF] at hF
    clear hI
    k_steps
    dsimp only
    (rename Fr _ _ _ _ => fF)
    (rename News _ _ _ _ => nN)
    have hD := nN _ (.head _)
    exact ret _ _ _ fF.keep ⟨D, ys, rfl, hD.2.2, ⟨_, hD.1, rfl, _, rfl⟩, hys⟩

end Mine
end

section
set_option maxRecDepth 100000
open PySem PySem.W PyProof.Rows PySem.Calls PySem.Spec
namespace Mine
/-- the state of a code table of a def with one def in it -/
noncomputable def TabSt (h : Heap) (P : Addr) (l c : Int) (qual : Str) : Prop := ∃ ps, h.get? P = some (tabObj ps) ∧ (ps = #[] ∨ ∃ c', ps = #[rawInt l, rawInt c, .ref c'] ∧ h.CodeRec (.ref c') qual)
noncomputable abbrev TabS (h : Heap) (q : Addr × Int × Int × Str) : Prop := TabSt h q.1 q.2.1 q.2.2.1 q.2.2.2
/-- all but one object stand -/
noncomputable def SubBut (D : Addr) (h h' : Heap) : Prop := ∀ b o, b ≠ D → h.get? b = some o → h'.get? b = some o
noncomputable abbrev fullOf (q : Int × Int × Str) (c' : Addr) : Array Value := #[rawInt q.1, rawInt q.2.1, .ref c']
noncomputable def TabFull (h : Heap) (P : Addr) (q : Int × Int × Str) : Prop := ∃ c', h.get? P = some (tabObj (fullOf q c')) ∧ h.CodeRec (.ref c') q.2.2
/-- the table is full now, and was not touched if it was so -/
structure TabNow (h h' : Heap) (P : Addr) (q : Int × Int × Str) : Prop where
  full : TabFull h' P q
  same : ∀ c', h.get? P = some (tabObj (fullOf q c')) → h'.get? P = some (tabObj (fullOf q c'))
structure Ghost (K : Frag) (p : Program) (loose : List Str) (mean : ExcName → Option Value) (mg mb : Str → Option Value) (q1 q2 : Int × Int × Str) (g h : Heap) : Prop where
  X : K.In g
  T : Top p loose mean mg mb g
  keep : ∀ b o, g.get? b = some o → h.get? b = some o
  n58 : g.get? 58 = none
  n65 : g.get? 65 = none
  c62 : CodeHd g 62 58
  c69 : CodeHd g 69 65
  t58 : TabSt h 58 q1.1 q1.2.1 q1.2.2
  t65 : TabSt h 65 q2.1 q2.2.1 q2.2.2

/-- a contract where one table may grow -/
noncomputable def PurT (P : Addr) (q q1 q2 : Int × Int × Str) (prog : Program) (w : World) (K : Frag) (f : Addr) (vs : List Value) (pre : Heap → Prop) (dn un : Nat) (Out : Heap → Value → Heap → Prop) : Prop :=
  ∀ (p : Program) (loose : List Str) (mean : ExcName → Option Value) (mg mb : Str → Option Value)
    (dp u : Nat) (fr : Option (List Env)) (gd : Option (List Code)) (g : Heap) (s : Shared) (Q E : Value → Shared → Prop),
    Ghost K p loose mean mg mb q1 q2 g s.heap → dp + dn < recursionLimit → u + un < cLine → pre s.heap →
    (∀ r h' tk', SubBut P s.heap h' → TabNow s.heap h' P q → Out s.heap r h' → Q r { s with heap := h', toks := tk' }) →
    wpAny (model prog w) (AR dp u fr gd) (call (.ref f) vs) Q E s
/-- a contract where both tables are full -/
noncomputable def PurF (q1 q2 : Int × Int × Str) (prog : Program) (w : World) (K : Frag) (f : Addr) (vs : List Value) (pre : Heap → Prop) (dn un : Nat) (Out : Heap → Value → Heap → Prop) : Prop :=
  ∀ (p : Program) (loose : List Str) (mean : ExcName → Option Value) (mg mb : Str → Option Value)
    (dp u : Nat) (fr : Option (List Env)) (gd : Option (List Code)) (g : Heap) (s : Shared) (Q E : Value → Shared → Prop),
    Ghost K p loose mean mg mb q1 q2 g s.heap → TabFull s.heap 58 q1 → TabFull s.heap 65 q2 → dp + dn < recursionLimit → u + un < cLine → pre s.heap →
    (∀ r h' tk', Sub s.heap h' → Out s.heap r h' → Q r { s with heap := h', toks := tk' }) →
    wpAny (model prog w) (AR dp u fr gd) (call (.ref f) vs) Q E s
theorem TabFull.keeps {h h' : Heap} {P : Addr} {q : Int × Int × Str} (x : TabFull h P q) (k : ∀ b o, h.get? b = some o → h'.get? b = some o) : TabFull h' P q :=
  let ⟨c', e, hc⟩ := x
  ⟨c', k _ _ e, hc.keeps k⟩
theorem TabFull.st {h : Heap} {P : Addr} {q : Int × Int × Str} (x : TabFull h P q) : TabSt h P q.1 q.2.1 q.2.2 :=
  let ⟨c', e, hc⟩ := x
  ⟨_, e, .inr ⟨c', rfl, hc⟩⟩
theorem PurT.full {P : Addr} {q q1 q2 : Int × Int × Str} {prog : Program} {w : World} {K : Frag} {f : Addr} {vs : List Value} {pre : Heap → Prop} {dn un : Nat} {Out : Heap → Value → Heap → Prop} (C : PurT P q q1 q2 prog w K f vs pre dn un Out) (hP : (P = 58 ∧ q = q1) ∨ (P = 65 ∧ q = q2)) : PurF q1 q2 prog w K f vs pre dn un Out := by
  intro p loose mean mg mb dp u fr gd g s Q E G h58 h65 hd hu hp ret
  refine C p loose mean mg mb dp u fr gd g s Q E G hd hu hp fun r h' tk' hs ht ho => ret r h' tk' (fun b o e => ?_) ho
  by_cases hb : b = P
  · subst hb
    have hf : TabFull s.heap b q := by rcases hP with ⟨rfl, rfl⟩ | ⟨rfl, rfl⟩ <;> assumption
    obtain ⟨c', e', _⟩ := hf
    rw [← e, e']
    exact ht.same c' e'
  · exact hs b o hb e
theorem Ghost.grow {K : Frag} {p : Program} {loose : List Str} {mean : ExcName → Option Value} {mg mb : Str → Option Value} {q1 q2 : Int × Int × Str} {g h h' : Heap} (G : Ghost K p loose mean mg mb q1 q2 g h) (f58 : TabFull h 58 q1) (f65 : TabFull h 65 q2) (k : ∀ b o, h.get? b = some o → h'.get? b = some o) : Ghost K p loose mean mg mb q1 q2 g h' :=
  ⟨G.X, G.T, fun b o e => k _ _ (G.keep b o e), G.n58, G.n65, G.c62, G.c69, (f58.keeps k).st, (f65.keeps k).st⟩
theorem tab_same {h h' : Heap} {P : Addr} {q : Int × Int × Str} {ps ps' : Array Value} (e : h.get? P = some (tabObj ps)) (e' : h'.get? P = some (tabObj ps')) (hs : ps = #[] ∨ ps' = ps) : ∀ c', h.get? P = some (tabObj (fullOf q c')) → h'.get? P = some (tabObj (fullOf q c')) := fun c' x => by
  rw [e] at x
  have x2 : ps = fullOf q c' := by
    have := Option.some.inj x
    injection this with _ _ hd
    injection hd with hd
  rcases hs with h | h
  · rw [x2] at h; simp at h
  · rw [e', h, x2]

theorem codeRec_ne {h : Heap} {c P : Addr} {ps : Array Value} {qual : Str} (hc : h.CodeRec (.ref c) qual) (hP : h.get? P = some (tabObj ps)) (hps : ∀ x t, ps[1]? ≠ some (.str x t)) : c ≠ P := by
  rintro rfl
  obtain ⟨c₂, oc, vs, t, e2, hoc, hd, hv⟩ := hc
  cases e2
  rw [hP] at hoc
  cases hoc
  cases hd
  exact hps _ _ hv
theorem tab_one {ps : Array Value} {l c : Int} {P : Addr → Prop} (h : ps = #[] ∨ ∃ c', ps = #[rawInt l, rawInt c, .ref c'] ∧ P c') : ∀ x t, ps[1]? ≠ some (.str x t) := by
  intro x t
  rcases h with rfl | ⟨c', rfl, _⟩
  · simp
  · simp [rawInt]
theorem codeRec_keep {h h' : Heap} {v : Value} {qual : Str} (hc : h.CodeRec v qual) (k : ∀ b o, v = .ref b → h.get? b = some o → h'.get? b = some o) : h'.CodeRec v qual :=
  let ⟨c, oc, vs, t, e, ho, r⟩ := hc
  ⟨c, oc, vs, t, e, k c oc e ho, r⟩

section
variable {prog : Program} {w : World} {A : Around} {s : Shared} {p : Program} {loose : List Str} {mean : ExcName → Option Value} {mg mb : Str → Option Value} {K : Frag} {q1 q2 : Int × Int × Str} {g : Heap}
  {R : Result → Shared → Prop} {name qual : Str} {params : Arguments} {body : List Stmt} {scope : Scope} {dV kV doc pm cdv ct oc : Value} {an od : Option Addr} {osl : Array (Option Value)} {f : Addr} {args : Args} {binds : List (Str × Value)}
/-- what the frame of a def with tables stands on -/
structure TEntry (K : Frag) (p : Program) (loose : List Str) (mean : ExcName → Option Value) (mg mb : Str → Option Value) (q1 q2 : Int × Int × Str) (h g' : Heap) (L' : Addr) (ps58 ps65 : Array Value) : Prop where
  X : K.In g'
  T : Top p loose mean mg mb g'
  c62 : CodeHd g' 62 58
  c69 : CodeHd g' 69 65
  keep : ∀ b o, b ≠ 58 → b ≠ 65 → h.get? b = some o → g'.get? b = some o
  l58 : @LT.lt Nat _ 58 L'
  l65 : @LT.lt Nat _ 65 L'
  e58 : h.get? 58 = some (tabObj ps58)
  e65 : h.get? 65 = some (tabObj ps65)
  s58 : ps58 = #[] ∨ ∃ c', ps58 = #[rawInt q1.1, rawInt q1.2.1, .ref c'] ∧ g'.CodeRec (.ref c') q1.2.2
  s65 : ps65 = #[] ∨ ∃ c', ps65 = #[rawInt q2.1, rawInt q2.2.1, .ref c'] ∧ g'.CodeRec (.ref c') q2.2.2

theorem TEntry.list {h g' : Heap} {L' : Addr} {ps58 ps65 : Array Value} (E : TEntry K p loose mean mg mb q1 q2 h g' L' ps58 ps65) {l : Addr} {its : Array Value} (h58 : TabSt h 58 q1.1 q1.2.1 q1.2.2) (h65 : TabSt h 65 q2.1 q2.2.1 q2.2.2) (x : h.IsList l its) : g'.IsList l its := by
  obtain ⟨o, e, hc, r⟩ := x
  refine ⟨o, E.keep _ _ ?_ ?_ e, hc, r⟩
  · rintro rfl
    obtain ⟨ps, hp, _⟩ := h58
    rw [e] at hp; cases hp; cases hc
  · rintro rfl
    obtain ⟨ps, hp, _⟩ := h65
    rw [e] at hp; cases hp; cases hc
noncomputable abbrev p58 : Int × Int × Str := (76, 4, Str.ofString "_int2digits.<locals>.inner")
noncomputable abbrev p65 : Int × Int × Str := (91, 4, Str.ofString "_digits2int.<locals>.inner")
theorem enterT (G : Ghost K p loose mean mg mb q1 q2 g s.heap)
    (ho : K.lookup f = some ⟨oc, od, .func (fnOf name qual params body scope dV kV doc pm an cdv ct), osl⟩) (hcd : codeIn K cdv qual = true) (hroom : A.depth < recursionLimit)
    (hbind : BindsTo s (fnOf name qual params body scope dV kV doc pm an cdv ct) args binds) (hkind : (binds.all fun y => scope.names.lookup y.1 == some .local || scope.names.lookup y.1 == some .cell) = true)
    (hnd : ((cellsFrom 0 scope.names []).map (·.1)).Nodup)
    (h : ∀ g' L' h₁ tk cells ps58 ps65, TEntry K p loose mean mg mb q1 q2 s.heap g' L' ps58 ps65 → Fr g' L' h₁ (bindL (envOfC qual scope L' f cdv).kindOf binds fun _ => none) → News g' L' h₁ (cells ++ [(58, tabObj ps58), (65, tabObj ps65)]) →
      CellsAre (bindC (envOfC qual scope L' f cdv).kindOf binds fun _ => none) (cellsFrom (L' + 1) scope.names []) cells →
      wpAny (model prog w) (A.deeper (envOfC qual scope L' f cdv)) (execs body (envOfC qual scope L' f cdv))
        (fun fl s' => R (.ok (.ret (match fl with | .ret v => v | _ => .none))) s')
        (fun e s' => wpAny (model prog w) (A.deeper (envOfC qual scope L' f cdv)) (leaving (envOfC qual scope L' f cdv) e) (fun _ s'' => R (.error e) s'') (fun e' s'' => R (.error e') s'') s')
        { s with heap := h₁, toks := tk })
    (hco : scope.isCoroutine = false) (hgen : scope.isGenerator = false) (hk : scope.kind = .function) : codeAny (model prog w) A (.call (.ref f) args) R s := by
  refine enterC (K := K) (fun a o e => G.keep _ _ (G.X a o e)) (G.T.keeps G.keep) ho hcd hroom hbind hkind hnd (fun g₀ L' h₁ tk cells hg F N Y _ _ => ?_) hco hgen hk
  subst hg
  obtain ⟨ps58, h58, s58⟩ := G.t58
  obtain ⟨ps65, h65, s65⟩ := G.t65
  let g' := hideAll s.heap [58, 65]
  have kp : ∀ b o, b ≠ 58 → b ≠ 65 → s.heap.get? b = some o → g'.get? b = some o := fun b o n1 n2 e => hideAll_get _ e (by simp [n1, n2])
  have gk : ∀ b o, g.get? b = some o → g'.get? b = some o := fun b o e => kp b o (by rintro rfl; rw [G.n58] at e; cases e) (by rintro rfl; rw [G.n65] at e; cases e) (G.keep b o e)
  have up : ∀ b o, g'.get? b = some o → s.heap.get? b = some o := fun b o e => of_hideAll _ e
  have l58 : 58 < L' := Nat.lt_of_lt_of_le (Heap.lt_size h58) F.above
  have l65 : 65 < L' := Nat.lt_of_lt_of_le (Heap.lt_size h65) F.above
  have st : ∀ {ps : Array Value} {l c : Int} {q : Str}, (ps = #[] ∨ ∃ c', ps = #[rawInt l, rawInt c, .ref c'] ∧ s.heap.CodeRec (.ref c') q) → (ps = #[] ∨ ∃ c', ps = #[rawInt l, rawInt c, .ref c'] ∧ g'.CodeRec (.ref c') q) := fun h => by
    rcases h with h | ⟨c', e, hc⟩
    · exact .inl h
    · refine .inr ⟨c', e, codeRec_keep hc fun b o eb hb => ?_⟩
      cases eb
      exact kp _ _ (codeRec_ne hc h58 (tab_one s58)) (codeRec_ne hc h65 (tab_one s65)) hb
  refine h g' L' h₁ tk cells ps58 ps65 ⟨fun a o e => gk _ _ (G.X a o e), G.T.keeps gk, G.c62.keeps gk, G.c69.keeps gk, kp, l58, l65, h58, h65, st s58, st s65⟩ ⟨F.ns, fun b o e => F.keep b o (up b o e), Nat.le_trans (Nat.le_of_eq (hideAll_size _ _)) F.above⟩ (fun q hq => ?_) Y
  rcases List.mem_append.mp hq with hq | hq
  · refine ⟨(N q hq).1, (N q hq).2.1, ?_⟩
    cases e : g'.get? q.1 with
    | none => rfl
    | some o => have := up _ _ e; rw [(N q hq).2.2] at this; cases this
  · rcases List.mem_cons.mp hq with rfl | hq
    · exact ⟨F.keep _ _ h58, Nat.ne_of_lt l58, hideAll_none _ (by simp)⟩
    · rw [List.mem_singleton.mp hq]
      exact ⟨F.keep _ _ h65, Nat.ne_of_lt l65, hideAll_none _ (by simp)⟩
end
end Mine
end

section
set_option maxRecDepth 100000
open PySem PySem.W PyProof.Rows PySem.Calls PySem.Spec
namespace Mine
/-- a row of digits, the lowest first -/
noncomputable def hor (b : Int) : List Int → Int
  | [] => 0
  | d :: r => d + b * hor b r
theorem hor_append (b : Int) : ∀ xs ys : List Int, hor b (xs ++ ys) = hor b xs + b ^ xs.length * hor b ys
  | [], ys => by simp [hor]
  | d :: r, ys => by
    rw [List.cons_append]
    show d + b * hor b (r ++ ys) = d + b * hor b r + b ^ (r.length + 1) * hor b ys
    rw [hor_append b r ys, Int.mul_add, Int.pow_succ, ← Int.mul_assoc, Int.mul_comm b (b ^ r.length), Int.add_assoc]
theorem hor_bits (n : Nat) (hn : n ≤ 300) : ∀ xs : List Int, (∀ d ∈ xs, Builtin.Int.intBits d ≤ 300) → Builtin.Int.intBits (hor (2 ^ n) xs) ≤ 303 * xs.length + 301
  | [], _ => by show Builtin.Int.intBits 0 ≤ _; exact Nat.le_trans (intBits_le_iff.mpr (show (0 : Int).natAbs < 2 ^ 1 by decide)) (by simp)
  | d :: r, h => by
    have ih := hor_bits n hn r fun e he => h e (.tail _ he)
    have h1 := h d (.head _)
    have h2 : Builtin.Int.intBits ((2 : Int) ^ n) ≤ n + 1 := intBits_le_iff.mpr (by rw [Int.natAbs_pow]; show 2 ^ n < 2 ^ (n + 1); rw [Nat.pow_succ]; have := Nat.two_pow_pos n; omega)
    have h3 := intBits_mul_le h2 ih
    have h4 := intBits_add_le h1 h3
    rw [List.length_cons]
    show Builtin.Int.intBits (d + 2 ^ n * hor (2 ^ n) r) ≤ _
    omega
/-- the def within a def of the program's -/
noncomputable def inOf : Option Obj → Option (Arguments × List Stmt × Scope)
  | some ⟨_, _, .func fd, _⟩ => match fd.body with
    | .stmts l => l.findSome? fun
      | .FunctionDef _ ps b _ _ _ sc _ _ _ => some (ps, b, sc)
      | _ => none
    | _ => none
  | _ => none
theorem inOf_use {o : Option Obj} {oc : Value} {od : Option Addr} {fd : FuncData} {sl : Array (Option Value)} {params : Arguments} {body : List Stmt} {scope : Scope} {P : Prop} (hin : inOf o = some (params, body, scope)) (ho : o = some ⟨oc, od, .func fd, sl⟩)
    (h : inOf (some ⟨oc, od, .func fd, sl⟩) = some (params, body, scope) → P) : P := h (ho ▸ hin)

section
variable {prog : Program} {w : World} {A : Around} {s : Shared} {p : Program} {loose : List Str} {mean : ExcName → Option Value} {mg mb : Str → Option Value} {g : Heap} {nw : List (Addr × Obj)}
  {R : Result → Shared → Prop} {name qual : Str} {params : Arguments} {body : List Stmt} {scope : Scope} {cl : List (Str × Addr)} {doc pm ctv : Value} {c' : Addr} {f : Addr} {args : Args} {binds : List (Str × Value)}
/-- into a def that was made in the call; the ground is any part of the heap -/
theorem enterG (hgk : ∀ b o, g.get? b = some o → s.heap.get? b = some o) (hgs : g.objs.size ≤ s.heap.objs.size) (hnw : ∀ q ∈ nw, s.heap.get? q.1 = some q.2 ∧ g.get? q.1 = none) (T : Top p loose mean mg mb g)
    (ho : g.get? f = some (fnMade name qual params body scope cl doc pm c' ctv)) (hcd : s.heap.CodeRec (.ref c') qual) (hroom : A.depth < recursionLimit)
    (hbind : BindsTo s (fnX name qual params body scope cl .none .none doc pm none (.ref c') ctv) args binds) (hloc : ∀ y ∈ binds, scope.names.lookup y.1 = some .local)
    (h : ∀ L' h₁, (∀ q ∈ nw, q.1 < L') → Fr g L' h₁ (fun y => binds.reverse.lookup y) → News g L' h₁ nw →
      wpAny (model prog w) (A.deeper (envX qual scope L' f (.ref c') cl)) (execs body (envX qual scope L' f (.ref c') cl))
        (fun fl s' => R (.ok (.ret (match fl with | .ret v => v | _ => .none))) s')
        (fun e s' => wpAny (model prog w) (A.deeper (envX qual scope L' f (.ref c') cl)) (leaving (envX qual scope L' f (.ref c') cl) e) (fun _ s'' => R (.error e) s'') (fun e' s'' => R (.error e') s'') s')
        { s with heap := h₁, toks := s.toks + binds.length })
    (hco : scope.isCoroutine = false) (hgen : scope.isGenerator = false) (hk : scope.kind = .function)
    (hcell : ∀ x ∈ scope.names, x.2 ≠ .cell) : codeAny (model prog w) A (.call (.ref f) args) R s :=
  codeAny_call_def (fd := fnX name qual params body scope cl .none .none doc pm none (.ref c') ctv) (body := body) (binds := binds) hroom (hgk _ _ ho) rfl (T.nolimit.keeps hgk) hcd rfl hbind hcell hloc
    (fun h₁ hns hk₁ => h s.heap.objs.size h₁ (fun q hq => Heap.lt_size (hnw q hq).1) ⟨hns, fun b o e => hk₁ b o (hgk b o e), hgs⟩ fun q hq => ⟨hk₁ _ _ (hnw q hq).1, Nat.ne_of_lt (Heap.lt_size (hnw q hq).1), (hnw q hq).2⟩) hco hgen hk
end
section
variable {M : Model} {A : Around} {E : Value → Shared → Prop} {s : Shared} {h₀ : Heap} {L a : Addr} {m : Str → Option Value} {cn : Str} {cs : Scope} {ccd : Value} {cl : List (Str × Addr)}
  {x : Str} {pos : Pos} {v : Value} {Q : Value → Shared → Prop} {c : Addr} {o : Obj}
/-- a free name whose cell stands in the ground -/
theorem nameX_G (F : Fr h₀ L s.heap m) (hc : cl.lookup x = some c) (hg : h₀.get? c = some o) (hd : o.data = .cell (some v)) (h : Q v s)
    (hk : cs.kind = .function := by rfl) (hx : (envX cn cs L a ccd cl).kindOf x = some .free := by rfl) (hb : (x == ("__debug__" : Str)) = false := by decide) (hn : (x == ("__classdict__" : Str)) = false := by decide) :
    wpAny M A (eval (.Name x pos) (envX cn cs L a ccd cl)) Q E s := wpAny_Name (wpAny_loadName_free hk hx hc ⟨o, F.keep _ _ hg, hd⟩ h hn) hb
end
theorem fnAt_of {g h : Heap} {f : Addr} {name qual : Str} {params : Arguments} {body : List Stmt} {scope : Scope} {cl : List (Str × Addr)} {doc pm ctv : Value} {c' : Addr} {L : Addr} {m : Str → Option Value} (F : Fr g L h m) (ho : g.get? f = some (fnMade name qual params body scope cl doc pm c' ctv)) : FnAt f h := ⟨_, _, _, _, F.keep _ _ ho⟩

end Mine
end

section
set_option maxRecDepth 100000
open PySem PySem.W PyProof.Rows PySem.Calls PySem.Spec
namespace Mine
/-- the inner def of _digits2int stands in the heap -/
noncomputable def InD (K : Frag) (h : Heap) (f l : Addr) (n : Int) (t : Tok) : Prop := ∃ name qual params body scope doc pm c' ctv cn ci cd on oi od, inOf (K.lookup 70) = some (params, body, scope) ∧
  h.get? f = some (fnMade name qual params body scope [(Str.ofString "n", cn), (Str.ofString "inner", ci), (Str.ofString "digits", cd)] doc pm c' ctv) ∧ h.CodeRec (.ref c') qual ∧
  h.get? cn = some on ∧ on.data = .cell (some (.int n t)) ∧ h.get? ci = some oi ∧ oi.data = .cell (some (.ref f)) ∧ h.get? cd = some od ∧ od.data = .cell (some (.ref l))
theorem InD.keeps {K : Frag} {h h' : Heap} {f l : Addr} {n : Int} {t : Tok} (x : InD K h f l n t) (k : ∀ b o, h.get? b = some o → h'.get? b = some o) : InD K h' f l n t := by
  obtain ⟨name, qual, params, body, scope, doc, pm, c', ctv, cn, ci, cd, on, oi, od, h1, h2, h3, h4, h5, h6, h7, h8, h9⟩ := x
  exact ⟨name, qual, params, body, scope, doc, pm, c', ctv, cn, ci, cd, on, oi, od, h1, k _ _ h2, h3.keeps k, k _ _ h4, h5, k _ _ h6, h7, k _ _ h8, h9⟩
noncomputable def IHD (w : World) (l : Addr) (xs : List Value) (ns : List Int) (n : Int) (t : Tok) (k : Nat) : Prop := ∀ (f : Addr) (L R : Int) (tL tR : Tok), 0 ≤ L → L < R → R ≤ ns.length → (R - L).toNat ≤ 2 ^ k →
  Pur PySem.Challenge.rw_zo0028_01.row.prog w (Pre.hc.heap_1 w.params) f [.int L tL, .int R tR] (fun h => InD (Pre.hc.heap_1 w.params) h f l n t ∧ h.IsList l xs.toArray) (10 * k + 5) (100 * k + 50) (OutI (hor (2 ^ n.toNat) ((ns.drop L.toNat).take (R - L).toNat)))
local macro_rules | `(tactic| walk_at "eval Name") => `(tactic| (k_here; k_dflt (refine' nameX_G ?F ?c ?m ?d ?_ ?a ?b; (case a => rfl); (case b => rfl); (case F => k_asm); (case c => rfl); (case m => assumption); (case d => assumption); k_whole)))
local macro_rules | `(tactic| walk_at "callWith ref") => `(tactic| (k_here; k_dflt (refine' callWith_F ?k1 ?_; (case k1 => exact fnAt_of (by k_asm) (by assumption)); k_whole)))
local macro_rules | `(tactic| walk_at "FnAt") => `(tactic| (k_dflt (exact fnAt_of (by k_asm) (by assumption))))
theorem hor_one {b : Int} (ns : List Int) (L R : Int) (hL : 0 ≤ L) (h : L + 1 = R) (hR : R ≤ ns.length) : hor b ((ns.drop L.toNat).take (R - L).toNat) = ns.getD L.toNat 0 := by
  have e : (R - L).toNat = 1 := by omega
  have hlt : L.toNat < ns.length := by omega
  rw [e, List.drop_eq_getElem_cons hlt, List.take_succ_cons, List.take_zero]
  show ns[L.toNat] + b * 0 = _
  simp [hlt, List.getD]
theorem isList_keeps {h h' : Heap} {l : Addr} {its : Array Value} (x : h.IsList l its) (k : ∀ b o, h.get? b = some o → h'.get? b = some o) : h'.IsList l its :=
  let ⟨o, e, r⟩ := x
  ⟨o, k _ _ e, r⟩
theorem hor_part (n : Nat) (hn : n ≤ 300) (ns : List Int) (hl : ns.length ≤ 50) (hb : ∀ d ∈ ns, Builtin.Int.intBits d ≤ 300) (i j : Nat) : Builtin.Int.intBits (hor (2 ^ n) ((ns.drop i).take j)) ≤ 20000 := by
  refine Nat.le_trans (hor_bits n hn _ fun d hd => hb d (List.mem_of_mem_drop (List.mem_of_mem_take hd))) ?_
  have : ((ns.drop i).take j).length ≤ 50 := by simp only [List.length_take, List.length_drop]; omega
  omega
theorem hor_split (n : Int) (hn : 0 ≤ n) (ns : List Int) (L M R : Int) (hL : 0 ≤ L) (h1 : L ≤ M) (h2 : M ≤ R) (h3 : R ≤ ns.length) :
    hor (2 ^ n.toNat) ((ns.drop M.toNat).take (R - M).toNat) * 2 ^ ((M - L) * n).toNat + hor (2 ^ n.toNat) ((ns.drop L.toNat).take (M - L).toNat) = hor (2 ^ n.toNat) ((ns.drop L.toNat).take (R - L).toNat) := by
  have e : (ns.drop L.toNat).take (R - L).toNat = (ns.drop L.toNat).take (M - L).toNat ++ (ns.drop M.toNat).take (R - M).toNat := by
    have e1 : (R - L).toNat = (M - L).toNat + (R - M).toNat := by omega
    have e2 : M.toNat = L.toNat + (M - L).toNat := by omega
    rw [e1, List.take_add, List.drop_drop, e2]
  have e3 : ((ns.drop L.toNat).take (M - L).toNat).length = (M - L).toNat := by simp only [List.length_take, List.length_drop]; omega
  rw [e, hor_append, e3, Int.add_comm]
  congr 1
  rw [Int.mul_comm, ← Int.pow_mul]
  congr 2
  rw [Int.toNat_mul (by omega) hn, Nat.mul_comm]
local macro_rules | `(tactic| walk_at "binaryOp LShift int int") => `(tactic| (k_here; (with_reducible refine lshift_int ?kbn ?kbs ?_); (case kbn => assumption); (case kbs => assumption)))
local macro_rules | `(tactic| walk_at "call ref") => `(tactic| (k_here; refine Stop.elim ?_))
set_option maxHeartbeats 8000000 in
theorem ind_step (w : World) (l : Addr) (xs : List Value) (ns : List Int) (n : Int) (t : Tok) (hI : IntsAre xs ns) (hl : ns.length ≤ 50) (hb : ∀ d ∈ ns, Builtin.Int.intBits d ≤ 300) (hn : 1 ≤ n) (hn2 : n ≤ 300) (k : Nat) (IH : ∀ j, j < k → IHD w l xs ns n t j) : IHD w l xs ns n t k := by
  w_top off
  unfold IHD
  k_fill
  unfold Pur
  intro f L R tL tR hL hLR hR hk p loose mean mg mb dp u fr gd s Q E X T hd hu hp ret
  obtain ⟨hin, hls⟩ := hp
  have hin₀ := hin
  obtain ⟨name, qual, params, body, scope, doc, pm, c', ctv, cn, ci, cd, on, oi, od, h1, h2, h3, h4, h5, h6, h7, h8, h9⟩ := hin
  refine' inOf_use h1 ?kk ?_
  case kk => k_is
  rotate_left 4
  intro h1'
  change some (_, _, _) = some (params, body, scope) at h1'
  injection h1' with h1'
  injection h1' with e1 h1'
  injection h1' with e2 e3
  subst e1 e2 e3
  clear h1
  refine wpAny_call ?_
  k_dflt (refine' enterG (g := s.heap) (nw := []) (fun _ _ e => e) (Nat.le_refl _) (fun _ hp => nomatch hp) T h2 h3 ?k8 ?k9 ?kB ?_ ?c2 ?c3 ?c4 ?c5; (case k8 => k_room); (case k9 => exact BindsTo.of_eq rfl); (case c5 => decide); (case kB => exact locs rfl); (case c2 => exact rfl); (case c3 => exact rfl); (case c4 => exact rfl); k_whole; intro L' h' _ F' N'; (try dsimp only [List.filterMap, List.map, List.zip, List.append_nil, List.lookup]); (try k_fold))
  k_steps
  next =>
    dsimp only
    (rename Fr _ _ _ _ => fF)
    (rename L + 1 = R => hone)
    exact ret _ _ _ fF.keep ⟨_, by rw [hor_one ns L R hL hone (by omega)]⟩
  next =>
    refine Stop.intro ?_
    (rename Fr _ _ _ _ => fF)
    (rename News _ _ _ _ => nN)
    (rename ¬ L + 1 = R => hone)
    have hM : (L + R).fdiv (2 ^ Int.toNat 1) = (L + R) / 2 := Int.fdiv_eq_ediv_of_nonneg _ (by decide)
    generalize (L + R).fdiv (2 ^ Int.toNat 1) = M at hM fF ⊢
    have hk1 : 1 ≤ k := by
      rcases Nat.eq_zero_or_pos k with e | e
      · rw [e] at hk; have : (2 : Nat) ^ 0 = 1 := rfl; omega
      · exact e
    have hk2 : 2 ^ k = 2 * 2 ^ (k - 1) := by rw [Nat.mul_comm, ← Nat.pow_succ]; congr 1; omega
    have hs0 : 0 ≤ (M - L) * n := Int.mul_nonneg (by omega) (by omega)
    have hs1 : (M - L) * n ≤ 50 * 300 := Int.mul_le_mul (by omega) (by omega) (by omega) (by omega)
    refine use_int (IH (k - 1) (by omega) f M R _ _ (by omega) (by omega) hR (by omega)) fF nN X T (by k_room) (by k_room) ⟨hin₀.keeps fF.keep, isList_keeps hls fF.keep⟩ ?_
    clear fF nN
    intro h₁ tk₁ t₁ F₁ N₁ _
    have hbit := hor_part n.toNat (by omega) ns hl hb M.toNat (R - M).toNat
    have hsz : (Builtin.Int.intBits (hor (2 ^ n.toNat) ((ns.drop M.toNat).take (R - M).toNat)) : Int) + (M - L) * n ≤ 2 ^ 27 := by
      have : (2 : Int) ^ 27 = 134217728 := by decide
      omega
    k_steps
    refine Stop.intro ?_
    (rename Fr _ _ _ _ => fF)
    (rename News _ _ _ _ => nN)
    refine use_int (IH (k - 1) (by omega) f L M _ _ (by omega) (by omega) (by omega) (by omega)) fF nN X T (by k_room) (by k_room) ⟨hin₀.keeps fF.keep, isList_keeps hls fF.keep⟩ ?_
    clear fF nN
    intro h₂ tk₂ t₂ F₂ N₂ _
    k_steps
    (rename Fr _ _ _ _ => fF)
    exact ret _ _ _ fF.keep ⟨_, by rw [hor_split n (by omega) ns L M R hL (by omega) (by omega) hR]⟩
theorem con_ind (w : World) (l : Addr) (xs : List Value) (ns : List Int) (n : Int) (t : Tok) (hI : IntsAre xs ns) (hl : ns.length ≤ 50) (hb : ∀ d ∈ ns, Builtin.Int.intBits d ≤ 300) (hn : 1 ≤ n) (hn2 : n ≤ 300) (k : Nat) : IHD w l xs ns n t k := by
  induction k using Nat.strongRecOn with
  | ind k ih => exact ind_step w l xs ns n t hI hl hb hn hn2 k ih

end Mine
end

section
set_option maxRecDepth 100000
open PySem PySem.W PyProof.Rows PySem.Calls PySem.Spec
namespace Mine
theorem inOf_mk {o : Option Obj} {oc : Value} {od : Option Addr} {fd : FuncData} {sl : Array (Option Value)} {r : Option (Arguments × List Stmt × Scope)} (ho : o = some ⟨oc, od, .func fd, sl⟩) (h : inOf (some ⟨oc, od, .func fd, sl⟩) = r) : inOf o = r := ho ▸ h
/-- out of a def with tables -/
theorem sub65_of {K : Frag} {p : Program} {loose : List Str} {mean : ExcName → Option Value} {mg mb : Str → Option Value} {q1 q2 : Int × Int × Str} {h g' h' : Heap} {L' : Addr} {ps58 ps65 : Array Value} {m : Str → Option Value} (TE : TEntry K p loose mean mg mb q1 q2 h g' L' ps58 ps65) (F : Fr g' L' h' m) (e : h'.get? 58 = some (tabObj ps58)) : SubBut 65 h h' :=
  fun b o n2 x => by
    by_cases n1 : b = 58
    · subst n1; rw [TE.e58] at x; rw [← Option.some.inj x]; exact e
    · exact F.keep b o (TE.keep b o n1 n2 x)
theorem sub58_of {K : Frag} {p : Program} {loose : List Str} {mean : ExcName → Option Value} {mg mb : Str → Option Value} {q1 q2 : Int × Int × Str} {h g' h' : Heap} {L' : Addr} {ps58 ps65 : Array Value} {m : Str → Option Value} (TE : TEntry K p loose mean mg mb q1 q2 h g' L' ps58 ps65) (F : Fr g' L' h' m) (e : h'.get? 65 = some (tabObj ps65)) : SubBut 58 h h' :=
  fun b o n2 x => by
    by_cases n1 : b = 65
    · subst n1; rw [TE.e65] at x; rw [← Option.some.inj x]; exact e
    · exact F.keep b o (TE.keep b o n2 n1 x)
theorem tabSt_keep {g h : Heap} {P : Addr} {ps : Array Value} {l c : Int} {q : Str} (hP : h.get? P = some (tabObj ps)) (s : ps = #[] ∨ ∃ c', ps = #[rawInt l, rawInt c, .ref c'] ∧ g.CodeRec (.ref c') q) (k : ∀ b o, g.get? b = some o → h.get? b = some o) : TabSt h P l c q :=
  ⟨ps, hP, s.imp id fun ⟨c', e, hc⟩ => ⟨c', e, hc.keeps k⟩⟩
theorem inD_of {K : Frag} {g h : Heap} {L f l cn ci cd : Addr} {n : Int} {t : Tok} {news : List (Addr × Obj)} {name qual : Str} {params : Arguments} {body : List Stmt} {scope : Scope} {doc pm ctv : Value} {c' : Addr} {on oi od : Obj} (N : News g L h news)
    (m1 : (f, fnMade name qual params body scope [(Str.ofString "n", cn), (Str.ofString "inner", ci), (Str.ofString "digits", cd)] doc pm c' ctv) ∈ news) (m2 : (cn, on) ∈ news) (m3 : (ci, oi) ∈ news) (m4 : (cd, od) ∈ news)
    (d2 : on.data = .cell (some (.int n t))) (d3 : oi.data = .cell (some (.ref f))) (d4 : od.data = .cell (some (.ref l))) (hc : h.CodeRec (.ref c') qual) (ho : inOf (K.lookup 70) = some (params, body, scope)) : InD K h f l n t :=
  ⟨_, _, _, _, _, _, _, _, _, _, _, _, _, _, _, ho, (N _ m1).1, hc, (N (_, _) m2).1, d2, (N (_, _) m3).1, d3, (N (_, _) m4).1, d4⟩
theorem hor_all (b : Int) (ns : List Int) : hor b ((ns.drop (0 : Int).toNat).take ((ns.length : Int) - 0).toNat) = hor b ns := by
  have e : ((ns.length : Int) - 0).toNat = ns.length := by omega
  rw [e]
  show hor b ((ns.drop 0).take ns.length) = _
  rw [List.drop_zero, List.take_of_length_le (Nat.le_refl _)]
noncomputable def D2iOut (n : Int) (ns : List Int) : Heap → Value → Heap → Prop := fun _ r _ => ∃ t, r = .int (hor (2 ^ n.toNat) ns) t
set_option maxHeartbeats 8000000 in
theorem con_d2i (w : World) (l : Addr) (xs : List Value) (ns : List Int) (n : Int) (t : Tok) (hI : IntsAre xs ns) (hl : ns.length ≤ 50) (hb : ∀ d ∈ ns, Builtin.Int.intBits d ≤ 300) (hn : 1 ≤ n) (hn2 : n ≤ 300) : PurT 65 p65 p58 p65 PySem.Challenge.rw_zo0028_01.row.prog w (Pre.hc.heap_1 w.params) 70 [.ref l, .int n t] (fun h => h.IsList l xs.toArray) 90 900 (D2iOut n ns) := by
  w_top off
  k_fill
  unfold PurT
  intro p loose mean mg mb dp u fr gd g s Q E G hd hu hp ret
  refine wpAny_call ?_
  k_dflt (refine' enterT ?k3 ?k6 ?k7 ?k8 ?k9 ?kB ?kD ?_ ?c2 ?c3 ?c4; (case k3 => exact G); (case k6 => k_is); (case k7 => k_is); (case k8 => k_room); (case k9 => exact BindsTo.of_eq rfl); (case kB => exact rfl); (case kD => decide +kernel); (case c2 => exact rfl); (case c3 => exact rfl); (case c4 => exact rfl); k_whole; intro g' L' h' tk' cells' ps58 ps65 TE F' N' Y'; (have X' := TE.X); (have T' := TE.T); (have C1' := TE.c62); (have C2' := TE.c69); k_cells Y'; (try dsimp only); (try simp only [List.cons_append, List.nil_append] at N'); (try k_fold))
  have hl2 := TE.list G.t58 G.t65 hp
  have l58 := TE.l58
  have l65 := TE.l65
  have hlen := hI.length
  (rename Fr _ _ _ _ => fF₀)
  generalize hm₀ : (bindL _ _ _) = m₀ at fF₀
  have fin : ∀ v h₂ tk₂, (∃ t', v = Value.int (hor (2 ^ n.toNat) ns) t') → Fr g' L' h₂ m₀ → (∃ ps, News g' L' h₂ [(58, tabObj ps58), (65, tabObj ps)] ∧ (ps65 = #[] ∨ ps = ps65) ∧ ∃ c', ps = #[rawInt p65.1, rawInt p65.2.1, .ref c'] ∧ h₂.CodeRec (.ref c') p65.2.2) → Q v { s with heap := h₂, toks := tk₂ } := by
    rintro v h₂ tk₂ hv F₂ ⟨ps, N₂, hsm, c', rfl, hcr⟩
    exact ret _ _ _ (sub65_of TE F₂ (N₂ _ (.head _)).1) ⟨⟨c', (N₂ _ (.tail _ (.head _))).1, hcr⟩, tab_same TE.e65 (N₂ _ (.tail _ (.head _))).1 hsm⟩ hv
  rcases TE.s65 with rfl | ⟨c', rfl, hcr⟩
  · (repeat' (first | (k_unfold; (try dsimp only)) | (k_end; wrow_close) | ((with_reducible show wpAny _ _ (call (Value.ref _) _ _) _ _ _); k_here; refine Stop.elim ?_) | walk1 | (dsimp only; (first | ((with_reducible show wpAny _ _ (call (Value.ref _) _ _) _ _ _); k_here; refine Stop.elim ?_) | walk1)) | (leave1; walk_say "STEP leave1"; try dsimp only) | fail "no step"))
    next =>
      refine Stop.intro ?_
      (rename Fr _ _ _ _ => fF)
      (rename News _ _ _ _ => nN)
      have hlt : (0 : Int) < ns.length := by
        (rename 0 < _ => h9)
        omega
      have hcn := codeRec_news nN (.tail _ (.head _)) (by assumption) (by assumption)
      have hin := inD_of (K := Pre.hc.heap_1 w.params) nN (.head _) (.tail _ (.tail _ (.tail _ (.head _)))) (.tail _ (.tail _ (.head _))) (.tail _ (.tail _ (.tail _ (.tail _ (.head _))))) (by assumption) (by assumption) (by assumption) hcn
      refine' use_int (con_ind w l xs ns n t hI hl hb hn hn2 6 _ 0 ns.length _ _ (by omega) (by omega) (by omega) ?a1) fF nN X' T' (by k_room) (by k_room) ⟨hin (inOf_mk ?b1 ?b2), isList_keeps hl2 fF.keep⟩ ?_
      rotate_left 6
      case b1 => k_is
      case b2 => rfl
      case a1 => (have : (2 : Nat) ^ 6 = 64 := rfl); omega
      clear fF
      intro h₁ tk₁ t₁ F₁ N₁ sb
      k_steps
      (rename Fr _ _ _ _ => fF)
      (rename News _ _ _ _ => nN)
      rw [hor_all]
      exact fin _ _ _ ⟨_, rfl⟩ fF ⟨_, fun q hq => nN q (.tail _ (.tail _ (.tail _ (.tail _ (.tail _ hq))))), .inl rfl, ⟨_, rfl, hcn.keeps sb⟩⟩
    next =>
      (rename Fr _ _ _ _ => fF)
      (rename News _ _ _ _ => nN)
      (rename ¬ _ < _ => h9)
      have hcn := codeRec_news nN (.tail _ (.head _)) (by assumption) (by assumption)
      have e : ns = [] := List.eq_nil_of_length_eq_zero (by omega)
      exact fin _ _ _ ⟨_, by rw [e]; rfl⟩ fF ⟨_, fun q hq => nN q (.tail _ (.tail _ (.tail _ (.tail _ (.tail _ hq))))), .inl rfl, ⟨_, rfl, hcn⟩⟩
  · k_steps
    next =>
      refine Stop.intro ?_
      (rename Fr _ _ _ _ => fF)
      (rename News _ _ _ _ => nN)
      have hlt : (0 : Int) < ns.length := by
        (rename 0 < _ => h9)
        omega
      have hcn := hcr.keeps fF.keep
      have hin := inD_of (K := Pre.hc.heap_1 w.params) nN (.head _) (.tail _ (.tail _ (.head _))) (.tail _ (.head _)) (.tail _ (.tail _ (.tail _ (.head _)))) (by assumption) (by assumption) (by assumption) hcn
      refine' use_int (con_ind w l xs ns n t hI hl hb hn hn2 6 _ 0 ns.length _ _ (by omega) (by omega) (by omega) ?a1) fF nN X' T' (by k_room) (by k_room) ⟨hin (inOf_mk ?b1 ?b2), isList_keeps hl2 fF.keep⟩ ?_
      rotate_left 6
      case b1 => k_is
      case b2 => rfl
      case a1 => (have : (2 : Nat) ^ 6 = 64 := rfl); omega
      clear fF
      intro h₁ tk₁ t₁ F₁ N₁ sb
      k_steps
      (rename Fr _ _ _ _ => fF)
      (rename News _ _ _ _ => nN)
      rw [hor_all]
      exact fin _ _ _ ⟨_, rfl⟩ fF ⟨_, fun q hq => nN q (.tail _ (.tail _ (.tail _ (.tail _ hq)))), .inr rfl, ⟨_, rfl, hcn.keeps sb⟩⟩
    next =>
      (rename Fr _ _ _ _ => fF)
      (rename News _ _ _ _ => nN)
      (rename ¬ _ < _ => h9)
      have hcn := hcr.keeps fF.keep
      have e : ns = [] := List.eq_nil_of_length_eq_zero (by omega)
      exact fin _ _ _ ⟨_, by rw [e]; rfl⟩ fF ⟨_, fun q hq => nN q (.tail _ (.tail _ (.tail _ (.tail _ hq)))), .inr rfl, ⟨_, rfl, hcn⟩⟩

end Mine
end

section
set_option maxRecDepth 100000
open PySem PySem.W PyProof.Rows PySem.Calls PySem.Spec
namespace Mine
theorem xor_low (x : Int) (hx : 0 ≤ x) (s : Nat) : Builtin.bitXor x (x.fdiv (2 ^ s) * 2 ^ s) = x % 2 ^ s := by
  have hp := kbt_pos s
  rw [Int.fdiv_eq_ediv_of_nonneg _ (Int.le_of_lt hp)]
  obtain ⟨m, rfl⟩ := Int.eq_ofNat_of_zero_le hx
  have e1 : (m : Int) / 2 ^ s * 2 ^ s = ((m / 2 ^ s * 2 ^ s : Nat) : Int) := by rw [Int.natCast_mul, Int.natCast_ediv, kbt_cast]
  have e2 : (m : Int) % 2 ^ s = ((m % 2 ^ s : Nat) : Int) := by rw [Int.natCast_emod, kbt_cast]
  rw [e1, e2]
  rw [bitXor_and, bitAnd_pp hx (Int.natCast_nonneg _)]
  have hq : (m &&& (m / 2 ^ s * 2 ^ s)) = m / 2 ^ s * 2 ^ s := by
    apply Nat.eq_of_testBit_eq
    intro i
    rw [Nat.testBit_and, Nat.testBit_mul_two_pow, Nat.testBit_div_two_pow]
    by_cases h : i < s
    · have : ¬ s ≤ i := by omega
      simp [this]
    · have h2 : s ≤ i := by omega
      have e : i - s + s = i := by omega
      simp [h2, e]
  have h1 := Nat.div_add_mod m (2 ^ s)
  rw [Nat.mul_comm] at h1
  have e3 : (m : Int).toNat = m := rfl
  have e4 : ((m / 2 ^ s * 2 ^ s : Nat) : Int).toNat = m / 2 ^ s * 2 ^ s := rfl
  rw [e3, e4, hq]
  omega
/-- the digits, the lowest first -/
noncomputable def dgs (b : Int) : Nat → Int → List Int
  | 0, _ => []
  | k + 1, x => x % b :: dgs b k (x / b)
theorem dgs_length (b : Int) : ∀ k x, (dgs b k x).length = k
  | 0, _ => rfl
  | k + 1, x => by rw [dgs, List.length_cons, dgs_length b k]
theorem dgs_mod (b : Int) (hb : 0 < b) : ∀ (k : Nat) (x : Int), dgs b k (x % b ^ k) = dgs b k x
  | 0, _ => rfl
  | k + 1, x => by
    rw [dgs, dgs]
    have e1 : x % b ^ (k + 1) % b = x % b := Int.emod_emod_of_dvd x ⟨b ^ k, by rw [Int.pow_succ, Int.mul_comm]⟩
    have e2 : x % b ^ (k + 1) / b = x / b % b ^ k := by
      have hp : 0 < b ^ k := Int.pow_pos hb
      have h1 := Int.mul_ediv_add_emod x (b ^ (k + 1))
      have h2 : x / b / b ^ k = x / b ^ (k + 1) := by rw [Int.ediv_ediv_of_nonneg (Int.le_of_lt hb), Int.pow_succ, Int.mul_comm]
      have h3 : x % b ^ (k + 1) = x - b * (b ^ k * (x / b ^ (k + 1))) := by rw [Int.emod_def, Int.pow_succ, Int.mul_comm (b ^ k) b, Int.mul_assoc]
      rw [h3, Int.sub_mul_ediv_left _ _ (Int.ne_of_gt hb), Int.emod_def, h2]
    rw [e1, e2, dgs_mod b hb k]
theorem dgs_add (b : Int) (hb : 0 < b) : ∀ (i j : Nat) (x : Int), dgs b (i + j) x = dgs b i x ++ dgs b j (x / b ^ i)
  | 0, j, x => by rw [Nat.zero_add, Int.pow_zero, Int.ediv_one]; rfl
  | i + 1, j, x => by
    have e : i + 1 + j = (i + j) + 1 := by omega
    rw [e, dgs, dgs, dgs_add b hb i j, List.cons_append, Int.pow_succ, Int.mul_comm, Int.ediv_ediv_of_nonneg (Int.le_of_lt hb)]
/-- the digits put into a row -/
noncomputable def putd (b : Int) (ns : List Int) (L m : Nat) (x : Int) : List Int := ns.take L ++ (dgs b m x ++ ns.drop (L + m))
theorem putd_length (b : Int) (ns : List Int) (L m : Nat) (x : Int) (h : L + m ≤ ns.length) : (putd b ns L m x).length = ns.length := by
  simp only [putd, List.length_append, List.length_take, List.length_drop, dgs_length]; omega
theorem putd_two (b : Int) (hb : 0 < b) (ns : List Int) (L i j : Nat) (x : Int) (h : L + i + j ≤ ns.length) : putd b (putd b ns L i (x % b ^ i)) (L + i) j (x / b ^ i) = putd b ns L (i + j) x := by
  have e1 : (ns.take L).length = L := by rw [List.length_take]; omega
  have h1 : (putd b ns L i (x % b ^ i)).take (L + i) = ns.take L ++ dgs b i x := by
    unfold putd
    rw [dgs_mod b hb, ← List.append_assoc, List.take_left']
    rw [List.length_append, e1, dgs_length]
  have h2 : (putd b ns L i (x % b ^ i)).drop (L + i + j) = ns.drop (L + (i + j)) := by
    unfold putd
    rw [← List.append_assoc, ← List.drop_drop, List.drop_left', List.drop_drop, Nat.add_assoc]
    rw [List.length_append, e1, dgs_length]
  show (putd b ns L i (x % b ^ i)).take (L + i) ++ (dgs b j (x / b ^ i) ++ (putd b ns L i (x % b ^ i)).drop (L + i + j)) = ns.take L ++ (dgs b (i + j) x ++ ns.drop (L + (i + j)))
  rw [h1, h2, dgs_add b hb, List.append_assoc, List.append_assoc]
theorem putd_one (b : Int) (ns : List Int) (L : Nat) (x : Int) (h : L < ns.length) (h0 : 0 ≤ x) (h1 : x < b) : putd b ns L 1 x = ns.set L x := by
  unfold putd
  rw [List.set_eq_take_append_cons_drop, if_pos h]
  show _ = ns.take L ++ ([x] ++ ns.drop (L + 1))
  rw [show dgs b 1 x = [x % b] from rfl, Int.emod_eq_of_lt h0 h1]
theorem hor_dgs (b : Int) (hb : 0 < b) : ∀ (k : Nat) (x : Int), 0 ≤ x → x < b ^ k → hor b (dgs b k x) = x
  | 0, x, h0, h1 => by rw [Int.pow_zero] at h1; show 0 = x; omega
  | k + 1, x, h0, h1 => by
    have e : hor b (dgs b k (x / b)) = x / b := hor_dgs b hb k _ (Int.ediv_nonneg h0 (Int.le_of_lt hb)) (Int.ediv_lt_of_lt_mul hb (by rw [Int.pow_succ] at h1; exact h1))
    show x % b + b * hor b (dgs b k (x / b)) = x
    rw [e, Int.add_comm]; exact Int.mul_ediv_add_emod x b
theorem dgs_bound (b : Int) (hb : 0 < b) : ∀ (k : Nat) (x : Int), ∀ d ∈ dgs b k x, 0 ≤ d ∧ d < b
  | 0, _, _, h => nomatch h
  | k + 1, x, d, h => by
    rcases List.mem_cons.mp h with rfl | h
    · exact ⟨Int.emod_nonneg _ (Int.ne_of_gt hb), Int.emod_lt_of_pos _ hb⟩
    · exact dgs_bound b hb k _ d h
theorem fr_but {g h h' : Heap} {L D : Addr} {m : Str → Option Value} (F : Fr g L h m) (hD : g.get? D = none) (hL : D ≠ L) (k : SubBut D h h') : Fr g L h' m :=
  ⟨let ⟨o, es, ep, e, r⟩ := F.ns; ⟨o, es, ep, k _ _ (fun q => hL q.symm) e, r⟩, fun b o e => k b o (by rintro rfl; rw [hD] at e; cases e) (F.keep b o e), F.above⟩
/-- the inner def of _int2digits stands in the heap -/
noncomputable def InI (K : Frag) (h : Heap) (f l : Addr) (n : Int) (t : Tok) : Prop := ∃ name qual params body scope doc pm c' ctv cn ci cd on oi od, inOf (K.lookup 63) = some (params, body, scope) ∧
  h.get? f = some (fnMade name qual params body scope [(Str.ofString "n", cn), (Str.ofString "inner", ci), (Str.ofString "a_digits", cd)] doc pm c' ctv) ∧ h.CodeRec (.ref c') qual ∧
  h.get? cn = some on ∧ on.data = .cell (some (.int n t)) ∧ h.get? ci = some oi ∧ oi.data = .cell (some (.ref f)) ∧ h.get? cd = some od ∧ od.data = .cell (some (.ref l))
theorem InI.keeps {K : Frag} {h h' : Heap} {f l : Addr} {n : Int} {t : Tok} (x : InI K h f l n t) (k : ∀ b o, h.get? b = some o → h'.get? b = some o) : InI K h' f l n t := by
  obtain ⟨name, qual, params, body, scope, doc, pm, c', ctv, cn, ci, cd, on, oi, od, h1, h2, h3, h4, h5, h6, h7, h8, h9⟩ := x
  exact ⟨name, qual, params, body, scope, doc, pm, c', ctv, cn, ci, cd, on, oi, od, h1, k _ _ h2, h3.keeps k, k _ _ h4, h5, k _ _ h6, h7, k _ _ h8, h9⟩
section
variable {prog : Program} {w : World} {A : Around} {E : Value → Shared → Prop} {s : Shared}
theorem rs_named {a n M : Int} {t u : Tok} {Q : Value → Shared → Prop} (hn : 0 ≤ n) (hM : a.fdiv (2 ^ n.toNat) = M) (h : Q (.int M s.toks) { s with toks := s.toks + 1 }) : wpAny (model prog w) A (binaryOp .RShift (.int a t) (.int n u)) Q E s := by
  subst hM
  exact rshift_int hn h
theorem xr_named {a b M : Int} {t u : Tok} {Q : Value → Shared → Prop} (hM : Builtin.bitXor a b = M) (h : Q (.int M s.toks) { s with toks := s.toks + 1 }) : wpAny (model prog w) A (binaryOp .BitXor (.int a t) (.int b u)) Q E s := by
  subst hM
  exact xor_int h
end
noncomputable def IHI (w : World) (D : Addr) (n : Int) (t : Tok) (k : Nat) : Prop := ∀ (f : Addr) (x L R : Int) (tx tL tR : Tok) (vs : List Value) (ns : List Int) (c : Nat), IntsAre vs ns → ns.length ≤ 50 → 0 ≤ L → L < R → R ≤ ns.length → (R - L).toNat ≤ 2 ^ k → 0 ≤ x → x < (2 ^ n.toNat) ^ (R - L).toNat →
  ∀ (p : Program) (loose : List Str) (mean : ExcName → Option Value) (mg mb : Str → Option Value)
    (dp u : Nat) (fr : Option (List Env)) (gd : Option (List Code)) (g : Heap) (s : Shared) (Q E : Value → Shared → Prop),
    (Pre.hc.heap_1 w.params).In g → Top p loose mean mg mb g → (∀ b o, g.get? b = some o → s.heap.get? b = some o) → g.objs.size ≤ s.heap.objs.size → g.get? D = none → s.heap.get? D = some (listOf vs.toArray c) → InI (Pre.hc.heap_1 w.params) g f D n t →
    dp + (10 * k + 5) < recursionLimit → u + (100 * k + 50) < cLine →
    (∀ h' tk' vs' c', SubBut D s.heap h' → h'.get? D = some (listOf vs'.toArray c') → IntsAre vs' (putd (2 ^ n.toNat) ns L.toNat (R - L).toNat x) → Q .none { s with heap := h', toks := tk' }) →
    wpAny (model PySem.Challenge.rw_zo0028_01.row.prog w) (AR dp u fr gd) (call (.ref f) [.int x tx, .int L tL, .int R tR]) Q E s
local macro_rules | `(tactic| walk_at "eval Name") => `(tactic| (k_here; k_dflt (refine' nameX_G ?F ?c ?m ?d ?_ ?a ?b; (case a => rfl); (case b => rfl); (case F => k_asm); (case c => rfl); (case m => assumption); (case d => assumption); k_whole)))
local macro_rules | `(tactic| walk_at "callWith ref") => `(tactic| (k_here; k_dflt (refine' callWith_F ?k1 ?_; (case k1 => exact fnAt_of (by k_asm) (by assumption)); k_whole)))
local macro_rules | `(tactic| walk_at "FnAt") => `(tactic| (k_dflt (exact fnAt_of (by k_asm) (by assumption))))
local macro_rules | `(tactic| walk_at "binaryOp LShift int int") => `(tactic| (k_here; (with_reducible refine lshift_int ?kbn ?kbs ?_); (case kbn => assumption); (case kbs => assumption)))
local macro_rules | `(tactic| walk_at "binaryOp RShift int int") => `(tactic| (k_here; (with_reducible refine rs_named (by first | assumption | decide) (by assumption) ?_)))
local macro_rules | `(tactic| walk_at "binaryOp BitXor int int") => `(tactic| (k_here; (with_reducible refine xr_named (by assumption) ?_)))
local macro_rules | `(tactic| walk_at "call ref") => `(tactic| (k_here; refine Stop.elim ?_))
set_option maxHeartbeats 8000000 in
theorem ini_step (w : World) (D : Addr) (n : Int) (t : Tok) (hn : 1 ≤ n) (hn2 : n ≤ 300) (k : Nat) (IH : ∀ j, j < k → IHI w D n t j) : IHI w D n t k := by
  w_top off
  unfold IHI
  k_fill
  intro f x L R tx tL tR vs ns c hI hl hL hLR hR hk hx0 hx1 p loose mean mg mb dp u fr gd g s Q E X T hgk hgs hgD hD hin hd hu ret
  obtain ⟨g₁, hg₁⟩ : ∃ g₁, g₁ = hideAll s.heap [D] := ⟨_, rfl⟩
  have up : ∀ b o, b ≠ D → s.heap.get? b = some o → g₁.get? b = some o := fun b o q e => by rw [hg₁]; exact hideAll_get _ e (by simpa using q)
  have gk : ∀ b o, g.get? b = some o → g₁.get? b = some o := fun b o e => up b o (by rintro rfl; rw [hgD] at e; cases e) (hgk b o e)
  have X₁ : (Pre.hc.heap_1 w.params).In g₁ := fun a o e => gk _ _ (X a o e)
  have T₁ := T.keeps gk
  have hin₁ := hin.keeps gk
  have hgk₁ : ∀ b o, g₁.get? b = some o → s.heap.get? b = some o := fun b o e => by rw [hg₁] at e; exact of_hideAll _ e
  have hgs₁ : g₁.objs.size ≤ s.heap.objs.size := by rw [hg₁]; exact Nat.le_of_eq (hideAll_size _ _)
  have hgD₁ : g₁.get? D = none := by rw [hg₁]; exact hideAll_none _ (by simp)
  clear hg₁ hgk hgs hgD X T hin gk
  have hin := hin₁
  obtain ⟨name, qual, params, body, scope, doc, pm, c', ctv, cn, ci, cd, on, oi, od, h1, h2, h3, h4, h5, h6, h7, h8, h9⟩ := hin
  refine' inOf_use h1 ?kk ?_
  case kk => k_is
  rotate_left 4
  intro h1'
  change some (_, _, _) = some (params, body, scope) at h1'
  injection h1' with h1'
  injection h1' with e1 h1'
  injection h1' with e2 e3
  subst e1 e2 e3
  clear h1
  refine wpAny_call ?_
  k_dflt (refine' enterG (g := g₁) (nw := [(D, listOf vs.toArray c)]) hgk₁ hgs₁ (fun q hq => by rw [List.mem_singleton.mp hq]; exact ⟨hD, hgD₁⟩) T₁ h2 (h3.keeps hgk₁) ?k8 ?k9 ?kB ?_ ?c2 ?c3 ?c4 ?c5; (case k8 => k_room); (case k9 => exact BindsTo.of_eq rfl); (case c5 => decide); (case kB => exact locs rfl); (case c2 => exact rfl); (case c3 => exact rfl); (case c4 => exact rfl); k_whole; intro L' h' lD F' N'; (try dsimp only [List.filterMap, List.map, List.zip, List.append_nil, List.lookup]); (try k_fold))
  k_lt lD
  have hlen := hI.length
  obtain ⟨M, hM⟩ : ∃ M, (L + R).fdiv (2 ^ Int.toNat 1) = M := ⟨_, rfl⟩
  have hM2 : M = (L + R) / 2 := by rw [← hM]; exact Int.fdiv_eq_ediv_of_nonneg _ (by decide)
  obtain ⟨U, hU⟩ : ∃ U, x.fdiv (2 ^ ((M - L) * n).toNat) = U := ⟨_, rfl⟩
  have hW : Builtin.bitXor x (U * 2 ^ ((M - L) * n).toNat) = x % 2 ^ ((M - L) * n).toNat := by rw [← hU]; exact xor_low x hx0 _
  have hs0 : 0 ≤ (M - L) * n := Int.mul_nonneg (by omega) (by omega)
  have hs1 : (M - L) * n ≤ 50 * 300 := Int.mul_le_mul (by omega) (by omega) (by omega) (by omega)
  have hp2 := kbt_pos ((M - L) * n).toNat
  have hU2 : U = x / 2 ^ ((M - L) * n).toNat := by rw [← hU]; exact Int.fdiv_eq_ediv_of_nonneg _ (Int.le_of_lt hp2)
  have hU0 : 0 ≤ U := by rw [hU2]; exact Int.ediv_nonneg hx0 (Int.le_of_lt hp2)
  have hUx : U ≤ x := by rw [hU2]; exact Int.ediv_le_self _ hx0
  have hbits : Builtin.Int.intBits U ≤ n.toNat * (R - L).toNat := by
    refine intBits_le_iff.mpr ?_
    have e : ((2 : Int) ^ n.toNat) ^ (R - L).toNat = ((2 ^ (n.toNat * (R - L).toNat) : Nat) : Int) := by rw [← Int.pow_mul, kbt_cast]
    rw [e] at hx1
    omega
  have hb2 : n.toNat * (R - L).toNat ≤ 300 * 50 := Nat.mul_le_mul (by omega) (by omega)
  have hsz : (Builtin.Int.intBits U : Int) + (M - L) * n ≤ 2 ^ 27 := by
    have : (2 : Int) ^ 27 = 134217728 := by decide
    omega
  have hS : (2 : Int) ^ ((M - L) * n).toNat = (2 ^ n.toNat) ^ (M - L).toNat := by
    rw [← Int.pow_mul, Int.toNat_mul (by omega) (by omega), Nat.mul_comm]
  k_steps
  next =>
    (rename L + 1 = R => hone)
    (rename News _ _ _ _ => nN)
    (rename Fr _ _ _ _ => fF)
    (rename IntsAre (List.set _ _ _) _ => hset)
    have e1 : (R - L).toNat = 1 := by omega
    rw [e1] at ret hx1
    rw [Int.pow_one] at hx1
    exact ret _ _ _ _ (fun b o q e => fF.keep b o (up b o q e)) (nN _ (.head _)).1 (by rw [putd_one _ _ _ _ (by omega) hx0 hx1]; exact hset)
  next =>
    refine Stop.intro ?_
    (rename ¬ L + 1 = R => hone)
    (rename News _ _ _ _ => nN)
    (rename Fr _ _ _ _ => fF)
    have hk1 : 1 ≤ k := by
      rcases Nat.eq_zero_or_pos k with e | e
      · rw [e] at hk; have : (2 : Nat) ^ 0 = 1 := rfl; omega
      · exact e
    have hk2 : 2 ^ k = 2 * 2 ^ (k - 1) := by rw [Nat.mul_comm, ← Nat.pow_succ]; congr 1; omega
    have hsp : (R - L).toNat = (M - L).toNat + (R - M).toNat := by omega
    have hp3 := kbt_pos n.toNat
    have hp4 : (0 : Int) < (2 ^ n.toNat) ^ (M - L).toNat := Int.pow_pos hp3
    have hlo0 := Int.emod_nonneg x (Int.ne_of_gt hp4)
    have hlo1 := Int.emod_lt_of_pos x hp4
    have hup1 : U < (2 ^ n.toNat) ^ (R - M).toNat := by
      rw [hU2, hS]
      refine Int.ediv_lt_of_lt_mul hp4 ?_
      rw [← Int.pow_add, Nat.add_comm, ← hsp]; exact hx1
    rw [hS]
    refine IH (k - 1) (by omega) f _ L M _ _ _ vs ns c hI hl hL (by omega) (by omega) (by omega) hlo0 hlo1 p loose mean mg mb _ _ _ _ g₁ _ _ _ X₁ T₁ fF.keep (Nat.le_trans fF.above (Nat.le_of_lt fF.ns.lt)) hgD₁ (nN _ (.head _)).1 hin₁ (by k_room) (by k_room) ?_
    intro h₂ tk₂ vs₂ c₂ hs₂ hD₂ hI₂
    have F₂ := fr_but fF hgD₁ (Nat.ne_of_lt lD) hs₂
    have N₂ : News g₁ L' h₂ [(D, listOf vs₂.toArray c₂)] := fun q hq => by rw [List.mem_singleton.mp hq]; exact ⟨hD₂, Nat.ne_of_lt lD, hgD₁⟩
    clear fF nN
    k_steps
    refine Stop.intro ?_
    (rename News _ _ _ _ => nN)
    (rename Fr _ _ _ _ => fF)
    have hLM : (putd (2 ^ n.toNat) ns L.toNat (M - L).toNat (x % (2 ^ n.toNat) ^ (M - L).toNat)).length = ns.length := putd_length _ _ _ _ _ (by omega)
    refine IH (k - 1) (by omega) f _ M R _ _ _ vs₂ _ c₂ hI₂ (by omega) (by omega) (by omega) (by omega) (by omega) hU0 hup1 p loose mean mg mb _ _ _ _ g₁ _ _ _ X₁ T₁ fF.keep (Nat.le_trans fF.above (Nat.le_of_lt fF.ns.lt)) hgD₁ (nN _ (.head _)).1 hin₁ (by k_room) (by k_room) ?_
    intro h₃ tk₃ vs₃ c₃ hs₃ hD₃ hI₃
    have F₃ := fr_but fF hgD₁ (Nat.ne_of_lt lD) hs₃
    have N₃ : News g₁ L' h₃ [(D, listOf vs₃.toArray c₃)] := fun q hq => by rw [List.mem_singleton.mp hq]; exact ⟨hD₃, Nat.ne_of_lt lD, hgD₁⟩
    clear fF nN
    k_steps
    (rename News _ _ _ _ => nN)
    (rename Fr _ _ _ _ => fF)
    refine ret _ _ _ _ (fun b o q e => fF.keep b o (up b o q e)) (nN _ (.head _)).1 ?_
    have em : M.toNat = L.toNat + (M - L).toNat := by omega
    rw [em, hU2, hS, putd_two _ hp3 _ _ _ _ _ (by omega), ← hsp] at hI₃
    exact hI₃
theorem con_ini (w : World) (D : Addr) (n : Int) (t : Tok) (hn : 1 ≤ n) (hn2 : n ≤ 300) (k : Nat) : IHI w D n t k := by
  induction k using Nat.strongRecOn with
  | ind k ih => exact ini_step w D n t hn hn2 k ih

end Mine
end

section
set_option maxRecDepth 100000
open PySem PySem.W PyProof.Rows PySem.Calls PySem.Spec
namespace Mine
theorem inI_of {K : Frag} {g h : Heap} {L f l cn ci cd : Addr} {n : Int} {t : Tok} {news : List (Addr × Obj)} {name qual : Str} {params : Arguments} {body : List Stmt} {scope : Scope} {doc pm ctv : Value} {c' : Addr} {on oi od : Obj} (N : News g L h news)
    (m1 : (f, fnMade name qual params body scope [(Str.ofString "n", cn), (Str.ofString "inner", ci), (Str.ofString "a_digits", cd)] doc pm c' ctv) ∈ news) (m2 : (cn, on) ∈ news) (m3 : (ci, oi) ∈ news) (m4 : (cd, od) ∈ news)
    (d2 : on.data = .cell (some (.int n t))) (d3 : oi.data = .cell (some (.ref f))) (d4 : od.data = .cell (some (.ref l))) (hc : h.CodeRec (.ref c') qual) (ho : inOf (K.lookup 63) = some (params, body, scope)) : InI K h f l n t :=
  ⟨_, _, _, _, _, _, _, _, _, _, _, _, _, _, _, ho, (N _ m1).1, hc, (N (_, _) m2).1, d2, (N (_, _) m3).1, d3, (N (_, _) m4).1, d4⟩
theorem hide_data {h : Heap} {D b : Addr} {its : Array Value} {c : Nat} {o : Obj} (hD : h.get? D = some (listOf its c)) (hb : h.get? b = some o) (hd : ∀ x k, o.data ≠ .seq x k) : (hideAll h [D]).get? b = some o :=
  hideAll_get _ hb fun q => by
    have q' : b = D := by simpa using q
    rw [q', hD] at hb
    exact hd its c (by rw [← Option.some.inj hb])
theorem InI.hide {K : Frag} {h : Heap} {f l D : Addr} {n : Int} {t : Tok} {its : Array Value} {c : Nat} (x : InI K h f l n t) (hD : h.get? D = some (listOf its c)) : InI K (hideAll h [D]) f l n t := by
  obtain ⟨name, qual, params, body, scope, doc, pm, c', ctv, cn, ci, cd, on, oi, od, h1, h2, h3, h4, h5, h6, h7, h8, h9⟩ := x
  obtain ⟨cc, oc, vs, tt, e, ho, hd, hv⟩ := h3
  exact ⟨name, qual, params, body, scope, doc, pm, c', ctv, cn, ci, cd, on, oi, od, h1, hide_data hD h2 (fun _ _ e => nomatch e), ⟨cc, oc, vs, tt, e, hide_data hD ho (fun _ _ e => by rw [hd] at e; cases e), hd, hv⟩, hide_data hD h4 (fun _ _ e => by rw [h5] at e; cases e), h5, hide_data hD h6 (fun _ _ e => by rw [h7] at e; cases e), h7, hide_data hD h8 (fun _ _ e => by rw [h9] at e; cases e), h9⟩
theorem news_rest {g h h' : Heap} {L D : Addr} {o o' : Obj} {news rest : List (Addr × Obj)} (N : News g L h news) (hs : SubBut D h h') (hD : h'.get? D = some o') (hm : (D, o) ∈ news) (sub : ∀ p ∈ rest, p ∈ news) (ne : ∀ p ∈ rest, @Ne Nat p.1 D) : News g L h' ((D, o') :: rest) := fun q hq => by
  rcases List.mem_cons.mp hq with rfl | hq
  · exact ⟨hD, (N _ hm).2⟩
  · exact ⟨hs _ _ (ne _ hq) (N _ (sub _ hq)).1, (N _ (sub _ hq)).2⟩
theorem hide_in {K : Frag} {g h : Heap} {L D : Addr} {o : Obj} {news : List (Addr × Obj)} {m : Str → Option Value} (F : Fr g L h m) (N : News g L h news) (hm : (D, o) ∈ news) : ∀ b x, g.get? b = some x → (hideAll h [D]).get? b = some x := fun b x e =>
  hideAll_get _ (F.keep _ _ e) (fun q => by have q' : b = D := by simpa using q
                                            rw [q', (N _ hm).2.2] at e; cases e)
theorem put_zeros (b : Int) (m : Nat) (x : Int) : putd b (List.replicate m [0]).flatten 0 m x = dgs b m x := by
  have e : ((List.replicate m [(0 : Int)]).flatten).length = m := by simp
  unfold putd
  rw [List.take_zero, List.nil_append, Nat.zero_add, List.drop_of_length_le (by omega), List.append_nil]
noncomputable def dgn (n a : Int) : List Int := dgs (2 ^ n.toNat) (((Builtin.Int.intBits a : Int) + n - 1).fdiv n).toNat a
noncomputable def I2dOut (n a : Int) : Heap → Value → Heap → Prop := fun h r h' => ∃ D ys c, r = .ref D ∧ h.get? D = none ∧ h'.get? D = some (listOf ys.toArray c) ∧ IntsAre ys (dgn n a)
theorem fresh_of {K : Frag} {p : Program} {loose : List Str} {mean : ExcName → Option Value} {mg mb : Str → Option Value} {q1 q2 : Int × Int × Str} {h g' h' : Heap} {L' D : Addr} {o : Obj} {ps58 ps65 : Array Value} {news : List (Addr × Obj)} (TE : TEntry K p loose mean mg mb q1 q2 h g' L' ps58 ps65) (N : News g' L' h' news) (hm : (D, o) ∈ news)
    (n1 : @LT.lt Nat _ 58 D) (n2 : @LT.lt Nat _ 65 D) : h.get? D = none := by
  cases e : h.get? D with
  | none => rfl
  | some x =>
    have := TE.keep D x (Nat.ne_of_gt n1) (Nat.ne_of_gt n2) e
    rw [(N _ hm).2.2] at this; cases this
theorem below_pow (a n M : Int) (ha : 0 ≤ a) (hn : 1 ≤ n) (hM : ((Builtin.Int.intBits a : Int) + n - 1).fdiv n = M) (hM0 : 0 ≤ M) : a < (2 ^ n.toNat) ^ M.toNat := by
  have h1 := (intBits_le_iff (x := a)).mp (Nat.le_refl _)
  rw [Int.fdiv_eq_ediv_of_nonneg _ (by omega)] at hM
  have h2 := Int.emod_add_mul_ediv ((Builtin.Int.intBits a : Int) + n - 1) n
  have h3 := Int.emod_lt_of_pos ((Builtin.Int.intBits a : Int) + n - 1) (show 0 < n by omega)
  rw [hM] at h2
  have h4 : Builtin.Int.intBits a ≤ n.toNat * M.toNat := by
    have e : ((n.toNat * M.toNat : Nat) : Int) = n * M := by rw [Int.natCast_mul, Int.toNat_of_nonneg (by omega), Int.toNat_of_nonneg hM0]
    omega
  have h5 := Nat.pow_le_pow_right (show 0 < 2 by decide) h4
  rw [← Int.pow_mul, ← kbt_cast]
  omega
section
variable {prog : Program} {w : World} {A : Around} {E : Value → Shared → Prop} {s : Shared}
theorem fd_named {a n M : Int} {t u : Tok} {Q : Value → Shared → Prop} (hn : n ≠ 0) (hs : n.natAbs < 1073741824) (hM : a.fdiv n = M) (h : Q (.int M s.toks) { s with toks := s.toks + 1 }) : wpAny (model prog w) A (binaryOp .FloorDiv (.int a t) (.int n u)) Q E s := by
  subst hM
  exact floordiv_int hn h (.inl (PyProof.noPylong_small hs))
end
set_option maxHeartbeats 8000000 in
theorem con_i2d (w : World) (a n : Int) (ta t : Tok) (ha : 0 ≤ a) (hn : 1 ≤ n) (hn2 : n ≤ 300) (hab : (Builtin.Int.intBits a : Int) ≤ 50 * n) : PurT 58 p58 p58 p65 PySem.Challenge.rw_zo0028_01.row.prog w (Pre.hc.heap_1 w.params) 63 [.int a ta, .int n t] (fun h => True) 90 900 (I2dOut n a) := by
  w_top off
  k_fill
  unfold PurT
  intro p loose mean mg mb dp u fr gd g s Q E G hd hu hp ret
  refine wpAny_call ?_
  k_dflt (refine' enterT ?k3 ?k6 ?k7 ?k8 ?k9 ?kB ?kD ?_ ?c2 ?c3 ?c4; (case k3 => exact G); (case k6 => k_is); (case k7 => k_is); (case k8 => k_room); (case k9 => exact BindsTo.of_eq rfl); (case kB => exact rfl); (case kD => decide +kernel); (case c2 => exact rfl); (case c3 => exact rfl); (case c4 => exact rfl); k_whole; intro g' L' h' tk' cells' ps58 ps65 TE F' N' Y'; (have X' := TE.X); (have T' := TE.T); (have C1' := TE.c62); (have C2' := TE.c69); k_cells Y'; (try dsimp only); (try simp only [List.cons_append, List.nil_append] at N'); (try k_fold))
  obtain ⟨M, hM⟩ : ∃ M, ((Builtin.Int.intBits a : Int) + n - 1).fdiv n = M := ⟨_, rfl⟩
  have hM0 : 0 ≤ M := by rw [← hM, Int.fdiv_eq_ediv_of_nonneg _ (by omega)]; exact Int.ediv_nonneg (by omega) (by omega)
  have hM1 : M ≤ 50 := by
    rw [← hM, Int.fdiv_eq_ediv_of_nonneg _ (by omega)]
    have := Int.ediv_lt_of_lt_mul (a := (Builtin.Int.intBits a : Int) + n - 1) (b := 51) (c := n) (by omega) (by omega)
    omega
  have l58 := TE.l58
  have l65 := TE.l65
  have fin : ∀ D ys c h₂ tk₂ rest m, Fr g' L' h₂ m → News g' L' h₂ ((D, listOf ys.toArray c) :: rest) → IntsAre ys (dgs (2 ^ n.toNat) M.toNat a) → @LT.lt Nat _ 58 D → @LT.lt Nat _ 65 D → (65, tabObj ps65) ∈ rest → (∃ ps, (58, tabObj ps) ∈ rest ∧ (ps58 = #[] ∨ ps = ps58) ∧ ∃ c', ps = #[rawInt p58.1, rawInt p58.2.1, .ref c'] ∧ h₂.CodeRec (.ref c') p58.2.2) → Q (.ref D) { s with heap := h₂, toks := tk₂ } := by
    rintro D ys c h₂ tk₂ rest m F₂ N₂ hys l1 l2 hm65 ⟨ps, hm58, hsm, c', rfl, hcr⟩
    refine ret _ _ _ (sub58_of TE F₂ (N₂ _ (.tail _ hm65)).1) ⟨⟨c', (N₂ _ (.tail _ hm58)).1, hcr⟩, tab_same TE.e58 (N₂ _ (.tail _ hm58)).1 hsm⟩ ⟨D, ys, c, rfl, fresh_of TE N₂ (.head _) l1 l2, (N₂ _ (.head _)).1, ?_⟩
    unfold dgn; rw [hM]; exact hys
  rcases TE.s58 with rfl | ⟨c', rfl, hcr⟩
  · (repeat' (first | (k_unfold; (try dsimp only)) | (k_end; wrow_close) | ((with_reducible show wpAny _ _ (binaryOp Operator.FloorDiv (Value.int _ _) (Value.int _ _)) _ _ _); k_here; refine fd_named (by omega) (by omega) (by assumption) ?_) | ((with_reducible show wpAny _ _ (call (Value.ref _) _ _) _ _ _); k_here; refine Stop.elim ?_) | walk1 | (dsimp only; (first | ((with_reducible show wpAny _ _ (binaryOp Operator.FloorDiv (Value.int _ _) (Value.int _ _)) _ _ _); k_here; refine fd_named (by omega) (by omega) (by assumption) ?_) | ((with_reducible show wpAny _ _ (call (Value.ref _) _ _) _ _ _); k_here; refine Stop.elim ?_) | walk1)) | (leave1; walk_say "STEP leave1"; try dsimp only) | fail "no step"))
    next =>
      refine Stop.intro ?_
      (rename Fr _ _ _ _ => fF)
      (rename News _ _ _ _ => nN)
      (rename IntsAre _ _ => hz)
      (rename a ≠ 0 => hnz)
      have hcn := codeRec_news nN (.tail _ (.head _)) (by assumption) (by assumption)
      have hin := inI_of (K := Pre.hc.heap_1 w.params) nN (.head _) (.tail _ (.tail _ (.tail _ (.tail _ (.tail _ (.tail _ (.head _))))))) (.tail _ (.tail _ (.tail _ (.tail _ (.head _))))) (.tail _ (.tail _ (.tail _ (.tail _ (.tail _ (.head _)))))) (by assumption) (by assumption) (by assumption) hcn
      have hgk := hide_in (K := Pre.hc.heap_1 w.params) fF nN (.tail _ (.tail _ (.head _)))
      have hbp := below_pow a n M ha hn hM hM0
      (rename List.length _ = _ => hn1)
      have hzl : ((List.replicate M.toNat [(0 : Int)]).flatten).length = M.toNat := by simp
      have hML : (↑M.toNat : Int) = M := Int.toNat_of_nonneg hM0
      have hMp : 0 < M := by
        rcases Int.lt_or_eq_of_le hM0 with h | h
        · exact h
        · rw [← h] at hbp; have hp0 : ((2 : Int) ^ n.toNat) ^ (0 : Int).toNat = 1 := rfl
          rw [hp0] at hbp; omega
      rw [hzl] at hn1
      rw [← hn1]
      refine' con_ini w _ n t hn hn2 6 _ a 0 M.toNat _ _ _ _ _ _ hz (by omega) (by omega) (by omega) (by omega) ?a1 ha (by rw [Int.sub_zero, hML]; exact hbp) p loose mean mg mb _ _ _ _ (hideAll _ [_]) _ _ _ (fun b o e => hgk _ _ (X' b o e)) (T'.keeps hgk) (fun b o e => of_hideAll _ e) (Nat.le_of_eq (hideAll_size _ _)) (hideAll_none _ (List.mem_singleton.mpr rfl)) (nN _ (.tail _ (.tail _ (.head _)))).1 ((hin (inOf_mk ?b1 ?b2)).hide (nN _ (.tail _ (.tail _ (.head _)))).1) (by k_room) (by k_room) ?_
      rotate_left 6
      case b1 => k_is
      case b2 => rfl
      case a1 => (have : (2 : Nat) ^ 6 = 64 := rfl); omega
      intro h₂ tk₂ vs₂ c₂ hs₂ hD₂ hI₂
      have eD := nN _ (.tail _ (.tail _ (.head _)))
      have F₂ := fr_but fF eD.2.2 eD.2.1 hs₂
      have N₂ := news_rest nN hs₂ hD₂ (.tail _ (.tail _ (.head _))) (fun p hp => (.tail _ (.tail _ (.tail _ hp)))) (by
        intro p hp
        simp only [List.mem_cons, List.not_mem_nil, or_false] at hp
        rcases hp with rfl | rfl | rfl | rfl | rfl | rfl <;> (dsimp only; omega))
      have hcn₂ : h₂.CodeRec _ _ := codeRec_keep hcn (fun b o e hb => hs₂ b o (by
        rintro rfl
        cases e
        omega) hb)
      have i0 : (0 : Int).toNat = 0 := rfl
      rw [Int.sub_zero, hML, i0, put_zeros] at hI₂
      clear fF nN eD
      (repeat' (first | (k_unfold; (try dsimp only)) | (k_end; wrow_close) | ((with_reducible show wpAny _ _ (binaryOp Operator.FloorDiv (Value.int _ _) (Value.int _ _)) _ _ _); k_here; refine fd_named (by omega) (by omega) (by assumption) ?_) | ((with_reducible show wpAny _ _ (call (Value.ref _) _ _) _ _ _); k_here; refine Stop.elim ?_) | walk1 | (dsimp only; (first | ((with_reducible show wpAny _ _ (binaryOp Operator.FloorDiv (Value.int _ _) (Value.int _ _)) _ _ _); k_here; refine fd_named (by omega) (by omega) (by assumption) ?_) | ((with_reducible show wpAny _ _ (call (Value.ref _) _ _) _ _ _); k_here; refine Stop.elim ?_) | walk1)) | (leave1; walk_say "STEP leave1"; try dsimp only) | fail "no step"))
      dsimp only
      (rename Fr _ _ _ _ => fF)
      (rename News _ _ _ _ => nN)
      exact fin _ _ _ _ _ _ _ fF nN hI₂ (by omega) (by omega) (.tail _ (.tail _ (.tail _ (.tail _ (.tail _ (.head _)))))) ⟨_, .tail _ (.tail _ (.tail _ (.tail _ (.head _)))), .inl rfl, ⟨_, rfl, hcn₂.keeps (fun _ _ e => e)⟩⟩
    next =>
      (rename Fr _ _ _ _ => fF)
      (rename News _ _ _ _ => nN)
      (rename IntsAre _ _ => hz)
      (first | (rename ¬ a ≠ 0 => hnz) | (rename ¬¬ a = 0 => hnz) | (rename a = 0 => hnz))
      have hcn := codeRec_news nN (.tail _ (.head _)) (by assumption) (by assumption)
      have ea : a = 0 := by omega
      have eM : M = 0 := by
        rw [← hM, ea, Int.fdiv_eq_ediv_of_nonneg _ (by omega)]
        show ((0 : Nat) + n - 1 : Int) / n = 0
        exact Int.ediv_eq_zero_of_lt (by omega) (by omega)
      dsimp only
      refine fin _ _ _ _ _ _ _ fF (fun q hq => nN q (.tail _ (.tail _ hq))) (by rw [eM]; exact .nil) (by omega) (by omega) (.tail _ (.tail _ (.tail _ (.tail _ (.tail _ (.head _)))))) ⟨_, .tail _ (.tail _ (.tail _ (.tail _ (.head _)))), .inl rfl, ⟨_, rfl, hcn⟩⟩
  · (repeat' (first | (k_unfold; (try dsimp only)) | (k_end; wrow_close) | ((with_reducible show wpAny _ _ (binaryOp Operator.FloorDiv (Value.int _ _) (Value.int _ _)) _ _ _); k_here; refine fd_named (by omega) (by omega) (by assumption) ?_) | ((with_reducible show wpAny _ _ (call (Value.ref _) _ _) _ _ _); k_here; refine Stop.elim ?_) | walk1 | (dsimp only; (first | ((with_reducible show wpAny _ _ (binaryOp Operator.FloorDiv (Value.int _ _) (Value.int _ _)) _ _ _); k_here; refine fd_named (by omega) (by omega) (by assumption) ?_) | ((with_reducible show wpAny _ _ (call (Value.ref _) _ _) _ _ _); k_here; refine Stop.elim ?_) | walk1)) | (leave1; walk_say "STEP leave1"; try dsimp only) | fail "no step"))
    next =>
      refine Stop.intro ?_
      (rename Fr _ _ _ _ => fF)
      (rename News _ _ _ _ => nN)
      (rename IntsAre _ _ => hz)
      (rename a ≠ 0 => hnz)
      have hcn := hcr.keeps fF.keep
      have hin := inI_of (K := Pre.hc.heap_1 w.params) nN (.head _) (.tail _ (.tail _ (.tail _ (.tail _ (.tail _ (.head _)))))) (.tail _ (.tail _ (.tail _ (.head _)))) (.tail _ (.tail _ (.tail _ (.tail _ (.head _))))) (by assumption) (by assumption) (by assumption) hcn
      have hgk := hide_in (K := Pre.hc.heap_1 w.params) fF nN (.tail _ (.head _))
      have hbp := below_pow a n M ha hn hM hM0
      (rename List.length _ = _ => hn1)
      have hzl : ((List.replicate M.toNat [(0 : Int)]).flatten).length = M.toNat := by simp
      have hML : (↑M.toNat : Int) = M := Int.toNat_of_nonneg hM0
      have hMp : 0 < M := by
        rcases Int.lt_or_eq_of_le hM0 with h | h
        · exact h
        · rw [← h] at hbp; have hp0 : ((2 : Int) ^ n.toNat) ^ (0 : Int).toNat = 1 := rfl
          rw [hp0] at hbp; omega
      rw [hzl] at hn1
      rw [← hn1]
      refine' con_ini w _ n t hn hn2 6 _ a 0 M.toNat _ _ _ _ _ _ hz (by omega) (by omega) (by omega) (by omega) ?a1 ha (by rw [Int.sub_zero, hML]; exact hbp) p loose mean mg mb _ _ _ _ (hideAll _ [_]) _ _ _ (fun b o e => hgk _ _ (X' b o e)) (T'.keeps hgk) (fun b o e => of_hideAll _ e) (Nat.le_of_eq (hideAll_size _ _)) (hideAll_none _ (List.mem_singleton.mpr rfl)) (nN _ (.tail _ (.head _))).1 ((hin (inOf_mk ?b1 ?b2)).hide (nN _ (.tail _ (.head _))).1) (by k_room) (by k_room) ?_
      rotate_left 6
      case b1 => k_is
      case b2 => rfl
      case a1 => (have : (2 : Nat) ^ 6 = 64 := rfl); omega
      intro h₂ tk₂ vs₂ c₂ hs₂ hD₂ hI₂
      have eD := nN _ (.tail _ (.head _))
      have F₂ := fr_but fF eD.2.2 eD.2.1 hs₂
      have N₂ := news_rest nN hs₂ hD₂ (.tail _ (.head _)) (fun p hp => (.tail _ (.tail _ hp))) (by
        intro p hp
        simp only [List.mem_cons, List.not_mem_nil, or_false] at hp
        rcases hp with rfl | rfl | rfl | rfl | rfl | rfl <;> (dsimp only; omega))
      have hcn₂ := hcr.keeps F₂.keep
      have i0 : (0 : Int).toNat = 0 := rfl
      rw [Int.sub_zero, hML, i0, put_zeros] at hI₂
      clear fF nN eD
      (repeat' (first | (k_unfold; (try dsimp only)) | (k_end; wrow_close) | ((with_reducible show wpAny _ _ (binaryOp Operator.FloorDiv (Value.int _ _) (Value.int _ _)) _ _ _); k_here; refine fd_named (by omega) (by omega) (by assumption) ?_) | ((with_reducible show wpAny _ _ (call (Value.ref _) _ _) _ _ _); k_here; refine Stop.elim ?_) | walk1 | (dsimp only; (first | ((with_reducible show wpAny _ _ (binaryOp Operator.FloorDiv (Value.int _ _) (Value.int _ _)) _ _ _); k_here; refine fd_named (by omega) (by omega) (by assumption) ?_) | ((with_reducible show wpAny _ _ (call (Value.ref _) _ _) _ _ _); k_here; refine Stop.elim ?_) | walk1)) | (leave1; walk_say "STEP leave1"; try dsimp only) | fail "no step"))
      dsimp only
      (rename Fr _ _ _ _ => fF)
      (rename News _ _ _ _ => nN)
      exact fin _ _ _ _ _ _ _ fF nN hI₂ (by omega) (by omega) (.tail _ (.tail _ (.tail _ (.tail _ (.tail _ (.head _)))))) ⟨_, .tail _ (.tail _ (.tail _ (.tail _ (.head _)))), .inr rfl, ⟨_, rfl, hcn₂.keeps (fun _ _ e => e)⟩⟩
    next =>
      (rename Fr _ _ _ _ => fF)
      (rename News _ _ _ _ => nN)
      (rename IntsAre _ _ => hz)
      (first | (rename ¬ a ≠ 0 => hnz) | (rename ¬¬ a = 0 => hnz) | (rename a = 0 => hnz))
      have hcn := hcr.keeps fF.keep
      have ea : a = 0 := by omega
      have eM : M = 0 := by
        rw [← hM, ea, Int.fdiv_eq_ediv_of_nonneg _ (by omega)]
        show ((0 : Nat) + n - 1 : Int) / n = 0
        exact Int.ediv_eq_zero_of_lt (by omega) (by omega)
      dsimp only
      refine fin _ _ _ _ _ _ _ fF (fun q hq => nN q (.tail _ hq)) (by rw [eM]; exact .nil) (by omega) (by omega) (.tail _ (.tail _ (.tail _ (.tail _ (.tail _ (.head _)))))) ⟨_, .tail _ (.tail _ (.tail _ (.tail _ (.head _)))), .inr rfl, ⟨_, rfl, hcn⟩⟩

end Mine
end

section
set_option maxRecDepth 100000
open PySem PySem.W PyProof.Rows PySem.Calls PySem.Spec
namespace Mine
noncomputable abbrev tup2 (x y : Value) (c : Nat) : Obj := { cls := .type "tuple", data := .seq #[x, y] c }
noncomputable def OutT2 (a b : Int) : Heap → Value → Heap → Prop := fun h r h' => ∃ T, r = .ref T ∧ h.get? T = none ∧ ∃ t u c, h'.get? T = some (tup2 (.int a t) (.int b u) c)
theorem noPy {a b : Int} (hbb : Builtin.Int.intBits b ≤ 3000) : Builtin.divisionGoesByPylong a b = false := by
  refine PyProof.noPylong_of_log2 ?_
  have h := intBits_le_iff.mp hbb
  by_cases h0 : b.natAbs = 0
  · rw [h0]; decide +kernel
  · have := (Nat.log2_lt h0).mpr h
    omega
set_option maxHeartbeats 8000000 in
theorem con_d21 (w : World) (a b n : Int) (ta tb tn : Tok) (ha : Builtin.Int.intBits a ≤ 3000) (hb : 1 ≤ b) (hbb : Builtin.Int.intBits b ≤ 3000) (hn : 1 ≤ n) : Pur PySem.Challenge.rw_zo0028_01.row.prog w (Pre.hc.heap_1 w.params) 49 [.int a ta, .int b tb, .int n tn] (fun h => True) 20 200 (OutT2 (a.fdiv b) (a.fmod b)) := by
  w_top off
  k_fill
  unfold Pur
  intro p loose mean mg mb dp u fr gd s Q E X T hd hu hp ret
  have hpy := noPy (a := a) hbb
  refine wpAny_call ?_
  k_dflt (refine' enterP ?k3 ?k5 ?k6 ?k7 ?k8 ?k9 ?kB ?_ ?c2 ?c3 ?c4 ?c5; (case k3 => k_asm); (case k5 => k_asm); (case k6 => k_is); (case k7 => k_is); (case k8 => k_room); (case k9 => exact BindsTo.of_eq rfl); (case c5 => decide); (case kB => exact locs rfl); (case c2 => exact rfl); (case c3 => exact rfl); (case c4 => exact rfl); k_whole; intro g' L' h' hg' F' N' X' T'; subst hg';  (try dsimp only [List.filterMap, List.map, List.zip, List.append_nil, List.lookup]); (try k_fold))
  (repeat' (first | (k_unfold; (try dsimp only)) | (k_end; wrow_close) | (k_here; (with_reducible show wpAny _ _ (call (Value.builtin _) [Value.int _ _, Value.int _ _]) _ _ _); refine divmod_N (by assumption) (by assumption) (by omega) ?_ (.inl (by assumption)); intro _ _ _) | walk1 | (dsimp only; (first | (k_here; (with_reducible show wpAny _ _ (call (Value.builtin _) [Value.int _ _, Value.int _ _]) _ _ _); refine divmod_N (by assumption) (by assumption) (by omega) ?_ (.inl (by assumption)); intro _ _ _) | walk1)) | (leave1; walk_say "STEP leave1"; try dsimp only) | fail "no step"))
  (rename Fr _ _ _ _ => fF)
  (rename News _ _ _ _ => nN)
  have hT := nN _ (.head _)
  exact ret _ _ _ fF.keep ⟨_, rfl, hT.2.2, _, _, _, hT.1⟩

end Mine
end

section
set_option maxRecDepth 100000
open PySem PySem.W PyProof.Rows PySem.Calls PySem.Spec
namespace Mine
section
variable {prog : Program} {w : World} {A : Around} {E : Value → Shared → Prop} {s : Shared} {env : Env} {h₀ : Heap} {target : PySem.Expr} {body : List Stmt} {Q : Flow → Shared → Prop}
theorem letGo_reviter {I ax : Addr} {k : Int} {v : Value} {Q' : Unit → Shared → Prop} {s' : Shared} (hit : s'.heap.IsRevIter I ax k) (h : Q' () s') :
    wpAny (model prog w) A (letOwnedTupleGo target (.ref I) v) Q' E s' := by
  obtain ⟨o, ho, hc, hd⟩ := hit
  unfold letOwnedTupleGo
  cases target <;> first
    | exact wpAny_pure h
    | (cases v <;> first
        | exact wpAny_pure h
        | (refine wpAny_bind (wpAny_load ho ?_)
           rw [hc, hd]
           exact wpAny_pure h))
/-- a made list from behind -/
theorem rv_iter {I ax : Addr} {lo : Obj} {vs : List Value} {n : Nat} {m₀ : Str → Option Value} {news : List (Addr × Obj)}
    (hh : A.handled = none) (F : Fr h₀ env.locals s.heap m₀) (N : News h₀ env.locals s.heap ((I, revObj ax ((vs.length : Int) - 1)) :: news)) (hoff : ∀ p ∈ news, p.1 ≠ I) (hm : (ax, lo) ∈ news) (hc : lo.cls = .type "list") (hd : lo.data = .seq vs.toArray n)
    (rest₀ : ItemsRest prog w A E h₀ env target body Q s [(I, "list_reverseiterator")] [(ax, lo)] (vs.reverse.map .val) m₀ news) :
    wpAny (model prog w) A (pyIter (.ref I)) (fun it s₂ => TurnsAt prog w A h₀ env target body Q E it s₂) E s := by
  have hIx := N _ (List.mem_cons_self ..)
  have hax := N _ (List.mem_cons_of_mem _ hm)
  have hl : s.heap.IsList ax vs.toArray := ⟨lo, hax.1, hc, n, hd⟩
  have hne : ax ≠ I := hoff _ hm
  have hit : s.heap.IsRevIter I ax ((vs.length : Int) - 1) := ⟨_, hIx.1, rfl, rfl⟩
  refine wpAny_pyIter_revIter hit ?_
  have W := Walks.listRev (prog := prog) (w := w) hh I ax hne vs.toArray
  have hlen : vs.toArray.size = vs.length := by simp
  rw [hlen] at W
  have W := W.bound
  refine ktg_core (tk0 := s.toks) (keep := [(ax, lo)]) (KTurns.ofWalks W fun i v s Q E st q => letGo_reviter st.2.1 q) (by simp) (fun i v h hp => ⟨.val v, ?_, rfl⟩) (fun i h st => ?_) (fun b hb => ?_) (fun b hb => by simpa using hb) (fun b hb => ?_) ?_ (fun p hp hI => ?_) ?_ F (fun p hp => N p (List.mem_cons_of_mem _ hp)) ⟨hm, trivial⟩ rest₀
  · have hp' : vs.toArray[vs.length - 1 - i]? = some v := hp.2
    have hi : i < vs.length := hp.1
    rw [List.getElem?_map, List.getElem?_reverse hi]
    simpa using hp'
  · obtain ⟨it, hit, hic, _⟩ := st.2.1
    exact ⟨[(I, it)], ⟨⟨rfl, hic⟩, trivial⟩, fun p hp => by rw [List.mem_singleton.mp hp]; exact hit⟩
  · have hb' : b = I := by simpa using hb
    rw [hb']
    exact ⟨List.mem_cons_self .., hIx.2.2⟩
  · have hb' : b = I ∨ b = ax := by simpa using hb
    rcases hb' with e | e
    · exact .inl (by simp [e])
    · exact .inr (.inl ⟨lo, by rw [e]; exact List.mem_cons_self ..⟩)
  · intro hI
    rcases List.mem_cons.mp hI with e | hI
    · exact hIx.2.1 e.symm
    · exact hax.2.1 (List.mem_singleton.mp hI).symm
  · exact hoff p hp (List.mem_singleton.mp hI)
  · refine ⟨Nat.zero_le _, ?_, hl⟩
    have e : (vs.length : Int) - 1 - ((0 : Nat) : Int) = (vs.length : Int) - 1 := by omega
    rw [e]
    exact hit
end
section
variable {prog : Program} {w : World} {K : Frag} {f : Addr} {vs : List Value} {pre : Heap → Prop} {dn un : Nat} {Out : Heap → Value → Heap → Prop} {q1 q2 : Int × Int × Str}
  {p : Program} {loose : List Str} {mean : ExcName → Option Value} {mg mb : Str → Option Value}
  {dp u : Nat} {fr : Option (List Env)} {gd : Option (List Code)} {s : Shared} {Q E : Value → Shared → Prop} {g g₀ : Heap} {L : Addr} {m : Str → Option Value} {news : List (Addr × Obj)}
/-- a call where both tables are full, from a frame over the whole heap -/
theorem use_F (C : PurF q1 q2 prog w K f vs pre dn un Out) (F : Fr g L s.heap m) (N : News g L s.heap news) (G : Ghost K p loose mean mg mb q1 q2 g₀ g) (f58 : TabFull g 58 q1) (f65 : TabFull g 65 q2)
    (hd : dp + dn < recursionLimit) (hu : u + un < cLine) (hp : pre s.heap)
    (ret : ∀ r h' tk', Fr g L h' m → News g L h' news → Sub s.heap h' → Out s.heap r h' → Q r { s with heap := h', toks := tk' }) :
    wpAny (model prog w) (AR dp u fr gd) (call (.ref f) vs) Q E s :=
  C p loose mean mg mb dp u fr gd g₀ s Q E (G.grow f58 f65 F.keep) (f58.keeps F.keep) (f65.keeps F.keep) hd hu hp
    fun r h' tk' hs ho => ret r h' tk' (Fr.keeps F hs) (News.grown N hs) hs ho
end
theorem news_subl {g h : Heap} {L : Addr} {news l : List (Addr × Obj)} (N : News g L h news) (sub : ∀ p ∈ l, p ∈ news) : News g L h l := fun p hp => N p (sub p hp)

end Mine
end

section
set_option maxRecDepth 100000
open PySem PySem.W PyProof.Rows PySem.Calls PySem.Spec
namespace Mine
theorem ints_at {vs : List Value} {ns : List Int} (h : IntsAre vs ns) : ∀ {i : Nat} {v : Value}, vs[i]? = some v → ∃ d t, ns[i]? = some d ∧ v = .int d t := by
  induction h with
  | nil => intro i v h; simp at h
  | cons d t _ ih =>
    intro i v h
    cases i with
    | zero => simp at h; exact ⟨d, t, by simp, h.symm⟩
    | succ i => simp at h; obtain ⟨d', t', e1, e2⟩ := ih h; exact ⟨d', t', by simpa using e1, e2⟩
theorem hor_next (b : Int) (l : List Int) (i : Nat) (d : Int) (h : l[i]? = some d) : hor b ((l.take (i + 1)).reverse) = d + b * hor b ((l.take i).reverse) := by
  have e : l.take (i + 1) = l.take i ++ [d] := by
    rw [List.take_add_one, h]; rfl
  rw [e, List.reverse_append]; rfl
theorem bits_of_lt {x : Int} {m : Nat} (h0 : 0 ≤ x) (h : x < 2 ^ m) : Builtin.Int.intBits x ≤ m := intBits_le_iff.mpr (by have := kbt_cast m; omega)
set_option maxHeartbeats 8000000 in
theorem con_dmp (w : World) (a b : Int) (ta tb : Tok) (ha : 0 ≤ a) (hb : 1 ≤ b) (hbb : Builtin.Int.intBits b ≤ 300) (hab : (Builtin.Int.intBits a : Int) ≤ 50 * (Builtin.Int.intBits b : Int)) : PurF p58 p65 PySem.Challenge.rw_zo0028_01.row.prog w (Pre.hc.heap_1 w.params) 77 [.int a ta, .int b tb] (fun h => True) 120 1200 (OutT2 (a / b) (a % b)) := by
  w_top off
  k_fill
  unfold PurF
  intro p loose mean mg mb dp u fr gd g s Q E G f58 f65 hd hu hp ret
  have T₀ := G.T.keeps G.keep
  have X₀ : (Pre.hc.heap_1 w.params).In s.heap := fun b o e => G.keep _ _ (G.X b o e)
  refine wpAny_call ?_
  k_dflt (refine' enterP ?k3 ?k5 ?k6 ?k7 ?k8 ?k9 ?kB ?_ ?c2 ?c3 ?c4 ?c5; (case k3 => k_asm); (case k5 => k_asm); (case k6 => k_is); (case k7 => k_is); (case k8 => k_room); (case k9 => exact BindsTo.of_eq rfl); (case c5 => decide); (case kB => exact locs rfl); (case c2 => exact rfl); (case c3 => exact rfl); (case c4 => exact rfl); k_whole; intro g' L' h' hg' F' N' X' T'; subst hg';  (try dsimp only [List.filterMap, List.map, List.zip, List.append_nil, List.lookup]); (try k_fold))
  have hbl : b < 2 ^ Builtin.Int.intBits b := by
    have h1 := (intBits_le_iff (x := b)).mp (Nat.le_refl _)
    have h2 := kbt_cast (Builtin.Int.intBits b)
    omega
  (repeat' (first | (k_unfold; (try dsimp only)) | (k_end; wrow_close) | ((with_reducible show wpAny _ _ (exec _ _) _ _ _); k_fold; (first | ((with_reducible show wpAny _ _ (call (Value.ref _) _ _) _ _ _); k_here; refine Stop.elim ?_) | walk1)) | ((with_reducible show wpAny _ _ (call (Value.ref _) _ _) _ _ _); k_here; refine Stop.elim ?_) | walk1 | (dsimp only; (first | ((with_reducible show wpAny _ _ (call (Value.ref _) _ _) _ _ _); k_here; refine Stop.elim ?_) | walk1)) | (leave1; walk_say "STEP leave1"; try dsimp only) | fail "no step"))
  refine Stop.intro ?_
  (rename Fr _ _ _ _ => fF)
  (rename News _ _ _ _ => nN)
  generalize Builtin.Int.intBits b = nb at hbl hbb hab fF ⊢
  have hnb1 : 1 ≤ nb := by
    rcases Nat.eq_zero_or_pos nb with h | h
    · rw [h] at hbl; have : (2 : Int) ^ 0 = 1 := rfl; omega
    · exact h
  refine' use_F (PurT.full (con_i2d w a nb ta _ ha (by omega) (by omega) hab) (.inl ⟨rfl, rfl⟩)) fF nN G f58 f65 ?p3 ?p4 ?p5 ?_
  case p3 => k_room
  case p4 => k_room
  case p5 => trivial
  intro r₁ h₁ tk₁ F₁ N₁ _ ⟨D, ys, c, e₁, hfr, hD, hys⟩
  subst e₁
  replace N₁ := news_add fF N₁ hfr hD
  clear fF nN
  (repeat' (first | (k_unfold; (try dsimp only)) | (k_end; wrow_close) | ((with_reducible show wpAny _ _ (exec _ _) _ _ _); k_fold; (first | (k_here; (with_reducible show wpAny _ _ (pyIter (Value.ref _)) (fun it s₂ => TurnsAt _ _ _ _ _ _ _ _ _ it s₂) _ _); refine Stop.elim ?_) | ((with_reducible show wpAny _ _ (exec (Stmt.For (PySem.Expr.Name _ _) (PySem.Expr.Call _ _ _ _) _ _ _) _) _ _ _); k_here; (rename Fr _ _ _ _ => lF'); (with_unfolding_all refine' For_turns lF' ?_); k_whole) | walk1)) | (k_here; (with_reducible show wpAny _ _ (pyIter (Value.ref _)) (fun it s₂ => TurnsAt _ _ _ _ _ _ _ _ _ it s₂) _ _); refine Stop.elim ?_) | ((with_reducible show wpAny _ _ (exec (Stmt.For (PySem.Expr.Name _ _) (PySem.Expr.Call _ _ _ _) _ _ _) _) _ _ _); k_here; (rename Fr _ _ _ _ => lF'); (with_unfolding_all refine' For_turns lF' ?_); k_whole) | walk1 | (dsimp only; (first | (k_here; (with_reducible show wpAny _ _ (pyIter (Value.ref _)) (fun it s₂ => TurnsAt _ _ _ _ _ _ _ _ _ it s₂) _ _); refine Stop.elim ?_) | ((with_reducible show wpAny _ _ (exec (Stmt.For (PySem.Expr.Name _ _) (PySem.Expr.Call _ _ _ _) _ _ _) _) _ _ _); k_here; (rename Fr _ _ _ _ => lF'); (with_unfolding_all refine' For_turns lF' ?_); k_whole) | walk1)) | (leave1; walk_say "STEP leave1"; try dsimp only) | fail "no step"))
  refine Stop.intro ?_
  (rename Fr _ _ _ _ => fF)
  (rename News _ _ _ _ => nN)
  (rename_i l hx hDl hy D₂ hz l2)
  with_unfolding_all refine rv_iter (vs := ys) rfl fF nN ?o1 (.tail _ (.head _)) rfl rfl ?_
  case o1 =>
    intro p hp
    simp only [List.mem_cons, List.not_mem_nil, or_false] at hp
    rcases hp with rfl | rfl <;> (refine @Nat.ne_of_lt _ _ ?_; dsimp only; omega)
  clear fF nN
  have hpw := kbt_pos nb
  have hM0 : 0 ≤ ((Builtin.Int.intBits a : Int) + nb - 1).fdiv nb := by rw [Int.fdiv_eq_ediv_of_nonneg _ (by omega)]; exact Int.ediv_nonneg (by omega) (by omega)
  have hbp : a < (2 ^ nb) ^ (((Builtin.Int.intBits a : Int) + nb - 1).fdiv nb).toNat := below_pow a nb _ ha (by omega) rfl hM0
  have hdl : (dgn nb a).length ≤ 50 := by
    unfold dgn
    rw [dgs_length, Int.fdiv_eq_ediv_of_nonneg _ (by omega)]
    have := Int.ediv_lt_of_lt_mul (a := (Builtin.Int.intBits a : Int) + nb - 1) (b := 51) (c := nb) (by omega) (by omega)
    omega
  refine rest_ind (fun i m' news' => ∃ q r tr qs vs c₂, Kept m' news' [(Str.ofString "b", Value.int b tb), (Str.ofString "n", Value.int nb q), (Str.ofString "r", Value.int r tr), (Str.ofString "q_digits", Value.ref l)] (fun nw => nw = [(l, listOf vs.toArray c₂), (D, listOf ys.toArray c)]) ∧ IntsAre vs qs ∧ qs.length = i ∧ 0 ≤ r ∧ r < b ∧ (∀ d ∈ qs, 0 ≤ d ∧ d < 2 ^ nb) ∧ hor (2 ^ nb) qs.reverse * b + r = hor (2 ^ nb) (((dgn nb a).reverse.take i).reverse)) ?_ ?_ ⟨_, 0, _, [], [], 0, ⟨⟨rfl, rfl, rfl, rfl, trivial⟩, rfl⟩, .nil, rfl, Int.le_refl _, by omega, (fun _ h => nomatch h), by simp [hor]⟩ ⟨.tail _ (.head _), trivial⟩
  · intro i x m' news' v h₂ tk₂ hc hJ hkeep hv hF
    refine cutG fun PC hPC => ?_
    obtain ⟨q, r, tr, qs, vs, c₂, ⟨hkn, rfl⟩, hqs, hql, hr0, hr1, hqd, hval⟩ := hJ
    refine hPC ?_
    clear hPC PC
    replace hF := knows_fr hF hkn; dsimp only [knowF] at hF
    obtain ⟨v', hcv, rfl⟩ : ∃ v', ys.reverse[i]? = some v' ∧ x = .val v' := by
      rw [List.getElem?_map] at hc
      cases e : ys.reverse[i]? with
      | none => rw [e] at hc; exact nomatch hc
      | some v' => rw [e] at hc; exact ⟨v', rfl, (Option.some.inj hc).symm⟩
    have hv' : v = v' := hv
    subst hv'
    refine cutG fun PC hPC => ?_
    obtain ⟨d, td, hdi, rfl⟩ := ints_at (IntsAre.reverse hys) hcv
    refine hPC ?_
    clear hPC PC
    ktu_objs
    have ent : (nb : Int).toNat = nb := rfl
    have hd0 : 0 ≤ d ∧ d < 2 ^ nb := dgs_bound (2 ^ (nb : Int).toNat) (kbt_pos _) _ a d (by have := List.mem_of_getElem? hdi; rw [List.mem_reverse] at this; exact this)
    have hrb : Builtin.Int.intBits r ≤ 300 := by
      exact Nat.le_trans (bits_of_lt hr0 (by omega)) hbb
    have hnb0 : (0 : Int) ≤ nb := by omega
    have hsz : (Builtin.Int.intBits r : Int) + nb ≤ 2 ^ 27 := by
      have : (2 : Int) ^ 27 = 134217728 := by decide
      omega
    have hpn := kbt_pos nb
    have hvl : vs.length ≤ 60 := by rw [hqs.length, hql]; have := (List.getElem?_eq_some_iff.mp hdi).1; rw [List.length_reverse] at this; omega
    have hbig0 : 0 ≤ r * 2 ^ nb + d := Int.add_nonneg (Int.mul_nonneg hr0 (Int.le_of_lt hpn)) hd0.1
    have hbig1 : r * 2 ^ nb + d < b * 2 ^ nb := by
      have h1 : (r + 1) * 2 ^ nb ≤ b * 2 ^ nb := Int.mul_le_mul_of_nonneg_right (by omega) (Int.le_of_lt hpn)
      rw [Int.add_mul, Int.one_mul] at h1
      omega
    have hbits : Builtin.Int.intBits (r * 2 ^ nb + d) ≤ 3000 := by
      refine Nat.le_trans (bits_of_lt (m := nb + nb) hbig0 ?_) (by omega)
      rw [Int.pow_add]
      have h1 : b * 2 ^ nb ≤ 2 ^ nb * 2 ^ nb := Int.mul_le_mul_of_nonneg_right (Int.le_of_lt hbl) (Int.le_of_lt hpn)
      omega
    have hbb2 : Builtin.Int.intBits b ≤ 3000 := by
      exact Nat.le_trans (bits_of_lt (by omega) hbl) (by omega)
    (repeat' (first | (k_unfold; (try dsimp only)) | (k_end; wrow_close) | ((with_reducible show wpAny _ _ (exec _ _) _ _ _); k_fold; (first | ((with_reducible show wpAny _ _ (binaryOp Operator.LShift (Value.int _ _) (Value.int _ _)) _ _ _); k_here; (with_reducible refine lshift_int ?kbn ?kbs ?_); (case kbn => assumption); (case kbs => assumption)) | walk1)) | ((with_reducible show wpAny _ _ (binaryOp Operator.LShift (Value.int _ _) (Value.int _ _)) _ _ _); k_here; (with_reducible refine lshift_int ?kbn ?kbs ?_); (case kbn => assumption); (case kbs => assumption)) | walk1 | (dsimp only; (first | ((with_reducible show wpAny _ _ (binaryOp Operator.LShift (Value.int _ _) (Value.int _ _)) _ _ _); k_here; (with_reducible refine lshift_int ?kbn ?kbs ?_); (case kbn => assumption); (case kbs => assumption)) | walk1)) | (leave1; walk_say "STEP leave1"; try dsimp only) | fail "no step"))
    refine Stop.intro ?_
    (rename Fr _ _ _ _ => fF)
    (rename News _ _ _ _ => nN)
    rw [ent]
    refine' use_pur (con_d21 w (r * 2 ^ nb + d) b nb _ _ _ hbits hb hbb2 (by omega)) fF nN X' T' ?p3 ?p4 ?p5 ?_
    case p3 => k_room
    case p4 => k_room
    case p5 => trivial
    intro r₁ h₁ tk₁ F₁ N₁ _ ⟨T, e₁, hfr, t₅, t₆, nT, hT1⟩
    subst e₁
    have na1 := news_ne nN hfr (.head _)
    have na2 := news_ne nN hfr (.tail _ (.head _))
    have na3 := news_ne nN hfr (.tail _ (.tail _ (.head _)))
    dsimp only at na1 na2 na3
    replace N₁ := news_add fF N₁ hfr hT1
    clear fF nN
    (repeat' (first | (k_unfold; (try dsimp only)) | (k_end; wrow_close) | ((with_reducible show UnrEndW _ _ _ _ _ _); refine Stop.elim ?_) | walk1 | (dsimp only; (first | ((with_reducible show UnrEndW _ _ _ _ _ _); refine Stop.elim ?_) | walk1)) | (leave1; walk_say "STEP leave1"; try dsimp only) | fail "no step"))
    refine Stop.intro ?_
    (rename Fr _ _ _ _ => fF)
    (rename News _ _ _ _ => nN)
    have hpu : ∀ X : Value, vs.toArray.push X = (vs ++ [X]).toArray := fun X => by simp
    rw [hpu] at nN
    refine' UnrEndW.intro fF nN [(l, listOf (vs ++ [_]).toArray _), (D, listOf ys.toArray c)] ?hI ?sub ?off ?r
    case hI => k_subL
    case sub => k_subL
    case off => ktu_offL
    case r =>
      have hfd : (r * 2 ^ nb + d).fdiv b = (r * 2 ^ nb + d) / b := Int.fdiv_eq_ediv_of_nonneg _ (by omega)
      have hfm : (r * 2 ^ nb + d).fmod b = (r * 2 ^ nb + d) % b := Int.fmod_eq_emod_of_nonneg _ (by omega)
      have h1 := Int.emod_nonneg (r * 2 ^ nb + d) (show b ≠ 0 by omega)
      have h2 := Int.emod_lt_of_pos (r * 2 ^ nb + d) (show 0 < b by omega)
      have h3 : 0 ≤ (r * 2 ^ nb + d) / b := Int.ediv_nonneg hbig0 (by omega)
      have h4 : (r * 2 ^ nb + d) / b < 2 ^ nb := Int.ediv_lt_of_lt_mul (by omega) (by rw [Int.mul_comm (2 ^ nb) b]; exact hbig1)
      have h5 := Int.mul_ediv_add_emod (r * 2 ^ nb + d) b
      refine ⟨⟨List.Mem.tail _ (List.Mem.head _), trivial⟩, _, _, _, qs ++ [(r * 2 ^ nb + d) / b], _, _, ⟨⟨rfl, rfl, rfl, rfl, trivial⟩, rfl⟩, hqs.append (by rw [hfd]; exact .cons _ _ .nil), by rw [List.length_append, hql]; rfl, by rw [hfm]; exact h1, by rw [hfm]; exact h2, ?_, ?_⟩
      · intro e he
        rcases List.mem_append.mp he with he | he
        · exact hqd e he
        · have he' := List.mem_singleton.mp he
          rw [he']; exact ⟨h3, h4⟩
      · rw [hor_next _ _ _ _ hdi, ← hval, hfm, List.reverse_append]
        show ((r * 2 ^ nb + d) / b + 2 ^ nb * hor (2 ^ nb) qs.reverse) * b + _ = _
        generalize hor (2 ^ nb) qs.reverse = H
        generalize (r * 2 ^ nb + d) / b = q' at *
        generalize (r * 2 ^ nb + d) % b = r' at *
        have e1 : (q' + 2 ^ nb * H) * b + r' = (b * q' + r') + 2 ^ nb * (H * b) := by
          rw [Int.add_mul, Int.mul_comm q' b, Int.mul_assoc]; omega
        rw [e1, h5, Int.mul_add, Int.mul_comm r (2 ^ nb)]
        omega
  · intro m' news' h₃ tk₃ hJ hF hN
    rw [List.length_map, List.length_reverse, hys.length] at hJ
    refine cutG fun PC hPC => ?_
    obtain ⟨q, r, tr, qs, vs, c₂, ⟨hkn, rfl⟩, hqs, hql, hr0, hr1, hqd, hval⟩ := hJ
    refine hPC ?_
    clear hPC PC
    replace hF := knows_fr hF hkn; dsimp only [knowF] at hF
    have hvl : vs.length ≤ 60 := by rw [hqs.length, hql]; exact Nat.le_trans hdl (by decide)
    (repeat' (first | (k_unfold; (try dsimp only)) | (k_end; wrow_close) | (k_here; (with_reducible show wpAny _ _ (call (Value.builtin _) [Value.ref _]) _ _ _); k_dflt (refine' kl_reverse ?F ?N ?e ?U ?z ?_; (case F => k_asm); (case N => k_asm); (case e => exact rfl); (case U => k_upd); (case z => exact Nat.le_trans (show List.length _ ≤ 60 by assumption) (by decide)); k_whole); intro _ _ _) | walk1 | (dsimp only; (first | (k_here; (with_reducible show wpAny _ _ (call (Value.builtin _) [Value.ref _]) _ _ _); k_dflt (refine' kl_reverse ?F ?N ?e ?U ?z ?_; (case F => k_asm); (case N => k_asm); (case e => exact rfl); (case U => k_upd); (case z => exact Nat.le_trans (show List.length _ ≤ 60 by assumption) (by decide)); k_whole); intro _ _ _) | walk1)) | (leave1; walk_say "STEP leave1"; try dsimp only) | fail "no step"))
    refine Stop.intro ?_
    (rename Fr _ _ _ _ => fF)
    (rename News _ _ _ _ => nN)
    have hql2 : qs.reverse.length ≤ 50 := by
      rw [List.length_reverse, hql]
      exact hdl
    refine' use_F (PurT.full (con_d2i w l vs.reverse qs.reverse nb _ (IntsAre.reverse hqs) hql2 ?p6 (by omega) (by omega)) (.inr ⟨rfl, rfl⟩)) fF nN G f58 f65 ?p3 ?p4 ?p5 ?_
    case p3 => k_room
    case p4 => k_room
    case p5 => exact ⟨_, (nN _ (.head _)).1, rfl, _, rfl⟩
    case p6 =>
      intro e he
      have := hqd e (List.mem_reverse.mp he)
      exact Nat.le_trans (bits_of_lt this.1 this.2) hbb
    intro r₁ h₁ tk₁ F₁ N₁ _ ⟨tq, e₁⟩
    subst e₁
    clear fF nN
    have hfull : hor (2 ^ nb) ((dgn nb a).reverse.take (dgn nb a).length).reverse = a := by
      rw [List.take_of_length_le (by rw [List.length_reverse]; exact Nat.le_refl _), List.reverse_reverse]
      exact hor_dgs _ hpw _ a ha hbp
    rw [hfull] at hval
    have hqr := kbt_unique (a := a) (b := b) (q := hor (2 ^ nb) qs.reverse) (r := r) (by omega) (by rw [Int.mul_comm b, Int.add_comm]; exact hval) hr0 hr1
    k_steps
    dsimp only
    (rename Fr _ _ _ _ => fF)
    (rename News _ _ _ _ => nN)
    have hT := nN _ (.head _)
    exact ret _ _ _ fF.keep ⟨_, rfl, hT.2.2, _, _, _, by rw [hqr.1, hqr.2]; exact hT.1⟩

end Mine
end

section
set_option maxRecDepth 100000
open PySem PySem.W PyProof.Rows PySem.Calls PySem.Spec
namespace Mine
set_option maxHeartbeats 8000000 in
theorem con_dm0 (w : World) (a b : Int) (ta tb : Tok) (ha : 0 ≤ a) (hb : 1 ≤ b) (hbb : Builtin.Int.intBits b ≤ 300) (hab : (Builtin.Int.intBits a : Int) ≤ 50 * (Builtin.Int.intBits b : Int)) : PurF p58 p65 PySem.Challenge.rw_zo0028_01.row.prog w (Pre.hc.heap_1 w.params) 84 [.int a ta, .int b tb] (fun h => True) 140 1300 (OutT2 (a / b) (a % b)) := by
  w_top off
  k_fill
  unfold PurF
  intro p loose mean mg mb dp u fr gd g s Q E G f58 f65 hd hu hp ret
  have T₀ := G.T.keeps G.keep
  have X₀ : (Pre.hc.heap_1 w.params).In s.heap := fun b o e => G.keep _ _ (G.X b o e)
  refine wpAny_call ?_
  k_dflt (refine' enterP ?k3 ?k5 ?k6 ?k7 ?k8 ?k9 ?kB ?_ ?c2 ?c3 ?c4 ?c5; (case k3 => k_asm); (case k5 => k_asm); (case k6 => k_is); (case k7 => k_is); (case k8 => k_room); (case k9 => exact BindsTo.of_eq rfl); (case c5 => decide); (case kB => exact locs rfl); (case c2 => exact rfl); (case c3 => exact rfl); (case c4 => exact rfl); k_whole; intro g' L' h' hg' F' N' X' T'; subst hg';  (try dsimp only [List.filterMap, List.map, List.zip, List.append_nil, List.lookup]); (try k_fold))
  (repeat' (first | (k_unfold; (try dsimp only)) | (k_end; wrow_close) | ((with_reducible show wpAny _ _ (call (Value.ref _) _ _) _ _ _); k_here; refine Stop.elim ?_) | walk1 | (dsimp only; (first | ((with_reducible show wpAny _ _ (call (Value.ref _) _ _) _ _ _); k_here; refine Stop.elim ?_) | walk1)) | (leave1; walk_say "STEP leave1"; try dsimp only) | fail "no step"))
  all_goals try (exfalso; omega)
  refine Stop.intro ?_
  (rename Fr _ _ _ _ => fF)
  (rename News _ _ _ _ => nN)
  refine' use_F (con_dmp w a b ta tb ha hb hbb hab) fF nN G f58 f65 ?p3 ?p4 ?p5 ?_
  case p3 => k_room
  case p4 => k_room
  case p5 => trivial
  intro r₁ h₁ tk₁ F₁ N₁ sb ⟨T, e₁, hfr, t₅, t₆, nT, hT1⟩
  subst e₁
  replace N₁ := news_add fF N₁ hfr hT1
  clear fF nN
  (repeat' (first | (k_unfold; (try dsimp only)) | (k_end; wrow_close) | ((with_reducible show wpAny _ _ (call (Value.ref _) _ _) _ _ _); k_here; refine Stop.elim ?_) | walk1 | (dsimp only; (first | ((with_reducible show wpAny _ _ (call (Value.ref _) _ _) _ _ _); k_here; refine Stop.elim ?_) | walk1)) | (leave1; walk_say "STEP leave1"; try dsimp only) | fail "no step"))
  dsimp only
  (rename Fr _ _ _ _ => fF)
  (rename News _ _ _ _ => nN)
  have hT := nN _ (.head _)
  exact ret _ _ _ fF.keep ⟨_, rfl, hT.2.2, _, _, _, hT.1⟩
theorem below_div (a b : Int) (hb : 0 < b) : -((-a - 1) / b) - 1 = a / b ∧ b - (-a - 1) % b - 1 = a % b := by
  have h := kbt_below a hb
  refine ⟨h.1.symm, ?_⟩
  rw [h.2]; omega
theorem bits_not (a : Int) (ha : a < 0) : Builtin.Int.intBits (-a - 1) ≤ Builtin.Int.intBits a := by
  refine intBits_le_iff.mpr ?_
  have := (intBits_le_iff (x := a)).mp (Nat.le_refl _)
  omega
set_option maxHeartbeats 8000000 in
theorem con_dm (w : World) (a b : Int) (ta tb : Tok) (hb : 1 ≤ b) (hbb : Builtin.Int.intBits b ≤ 300) (hab : (Builtin.Int.intBits a : Int) ≤ 50 * (Builtin.Int.intBits b : Int)) : PurF p58 p65 PySem.Challenge.rw_zo0028_01.row.prog w (Pre.hc.heap_1 w.params) 84 [.int a ta, .int b tb] (fun h => True) 160 1500 (OutT2 (a / b) (a % b)) := by
  w_top off
  by_cases ha : 0 ≤ a
  · intro p loose mean mg mb dp u fr gd g s Q E G f58 f65 hd hu hp ret
    exact con_dm0 w a b ta tb ha hb hbb hab p loose mean mg mb dp u fr gd g s Q E G f58 f65 (by omega) (by omega) hp ret
  k_fill
  unfold PurF
  intro p loose mean mg mb dp u fr gd g s Q E G f58 f65 hd hu hp ret
  have T₀ := G.T.keeps G.keep
  have X₀ : (Pre.hc.heap_1 w.params).In s.heap := fun b o e => G.keep _ _ (G.X b o e)
  refine wpAny_call ?_
  k_dflt (refine' enterP ?k3 ?k5 ?k6 ?k7 ?k8 ?k9 ?kB ?_ ?c2 ?c3 ?c4 ?c5; (case k3 => k_asm); (case k5 => k_asm); (case k6 => k_is); (case k7 => k_is); (case k8 => k_room); (case k9 => exact BindsTo.of_eq rfl); (case c5 => decide); (case kB => exact locs rfl); (case c2 => exact rfl); (case c3 => exact rfl); (case c4 => exact rfl); k_whole; intro g' L' h' hg' F' N' X' T'; subst hg';  (try dsimp only [List.filterMap, List.map, List.zip, List.append_nil, List.lookup]); (try k_fold))
  have hnb := bits_not a (by omega)
  (repeat' (first | (k_unfold; (try dsimp only)) | (k_end; wrow_close) | ((with_reducible show wpAny _ _ (exec _ _) _ _ _); k_fold; walk1) | walk1 | (dsimp only; walk1) | (leave1; walk_say "STEP leave1"; try dsimp only) | fail "no step"))
  all_goals try (exfalso; omega)
  refine Stop.intro ?_
  (rename Fr _ _ _ _ => fF)
  (rename News _ _ _ _ => nN)
  have enot : Builtin.bitNot a = -a - 1 := rfl
  rw [enot]
  refine' use_F (con_dm0 w (-a - 1) b _ tb (by omega) hb hbb (by omega)) fF nN G f58 f65 ?p3 ?p4 ?p5 ?_
  case p3 => k_room
  case p4 => k_room
  case p5 => trivial
  intro r₁ h₁ tk₁ F₁ N₁ sb ⟨T, e₁, hfr, t₅, t₆, nT, hT1⟩
  subst e₁
  replace N₁ := news_add fF N₁ hfr hT1
  clear fF nN
  (repeat' (first | (k_unfold; (try dsimp only)) | (k_end; wrow_close) | ((with_reducible show wpAny _ _ (exec _ _) _ _ _); k_fold; walk1) | walk1 | (dsimp only; walk1) | (leave1; walk_say "STEP leave1"; try dsimp only) | fail "no step"))
  have hbd := below_div a b (by omega)
  have e1 : Builtin.bitNot ((-a - 1) / b) = a / b := hbd.1
  have e2 : b + Builtin.bitNot ((-a - 1) % b) = a % b := by
    have e3 : Builtin.bitNot ((-a - 1) % b) = -((-a - 1) % b) - 1 := rfl
    rw [e3]; omega
  dsimp only
  (rename Fr _ _ _ _ => fF)
  (rename News _ _ _ _ => nN)
  have hT := nN _ (.head _)
  exact ret _ _ _ fF.keep ⟨_, rfl, hT.2.2, _, _, _, by rw [← e1, ← e2]; exact hT.1⟩

end Mine
end

section
set_option maxRecDepth 100000
open PySem PySem.W PyProof.Rows PySem.Calls PySem.Spec
namespace Mine
section
open LCg
variable {prog : Program} {w : World} {A : Around} {s : Shared} {h₀ : Heap} {L : Addr} {m : Str → Option Value} {env : Env} {elt : PySem.Expr} {x : Str} {scope : Scope} {cl : List (Str × Addr)} {S : List (Addr × Obj) → Prop} {P : Nat → Value → Prop} {Fin : List Value → List (Addr × Obj) → Prop}
theorem compEnd_mono {m : Str → Option Value} {s₁ s₂ : Shared} {I C D : Addr} {oI oC oD : Obj} {r r' : Value → List (Addr × Obj) → Prop} {y : Value} (h : CompEnd h₀ L m s₁ I oI C oC D oD S r y s₂) (f : ∀ n, r y n → r' y n) : CompEnd h₀ L m s₁ I oI C oC D oD S r' y s₂ :=
  let ⟨h', tk, news', e, F, N, o, q, hr⟩ := h
  ⟨h', tk, news', e, F, N, o, q, f _ hr⟩
/-- a list comprehension by an invariant of one's own -/
theorem comp_ind {n : Nat} {news : List (Addr × Obj)} (J : Nat → List Value → List (Addr × Obj) → Prop)
    (turn : ∀ i v I oI C oC D ys news m₂ h tk (E' : Value → Shared → Prop), i < n → J i ys news → P i v → NsObj oC m₂ → m₂ x = some v → Fr h₀ L h m → News h₀ L h ((I, oI) :: (C, oC) :: (D, lst ys) :: news) → Off3 I C D news → ((@Ne Nat I C) ∧ (@Ne Nat I D) ∧ (@Ne Nat C D)) →
      wpAny (model prog w) A (eval elt (compEnvC scope cl C env)) (CompEnd h₀ L m { s with heap := h, toks := tk } I oI C oC D (lst ys) S (fun y news' => J (i + 1) (ys ++ [y]) news')) E' { s with heap := h, toks := tk })
    (done : ∀ ys news, J n ys news → Fin ys news) (h0 : J 0 [] news) : CompRest prog w A h₀ L m env elt x scope cl s S P Fin n 0 [] news := by
  have key : ∀ k i ys news, i + k = n → J i ys news → CompRest prog w A h₀ L m env elt x scope cl s S P Fin k i ys news := by
    intro k
    induction k with
    | zero => intro i ys news hi hJ; rw [Nat.add_zero] at hi; subst hi; exact done ys news hJ
    | succ k ih =>
      intro i ys news hi hJ
      intro v I oI C oC D m₂ h tk E' hP hC hx F N off ne
      exact wpAny_mono (turn i v I oI C oC D ys news m₂ h tk E' (by omega) hJ hP hC hx F N off ne) (fun y s₂ hc => compEnd_mono hc fun nw hj => ih (i + 1) _ nw (by omega) hj) fun _ _ e => e
  exact key n 0 [] news (by omega) h0
end

end Mine
end

section
set_option maxRecDepth 100000
open PySem PySem.W PyProof.Rows PySem.Calls PySem.Spec
namespace Mine
section
variable {prog : Program} {w : World} {A : Around} {E : Value → Shared → Prop} {s : Shared}
theorem mul_named {a b M : Int} {t u : Tok} {Q : Value → Shared → Prop} (ha : Builtin.Int.intBits a ≤ 10000) (hb : Builtin.Int.intBits b ≤ 10000) (hM : a * b = M) (h : Q (.int M s.toks) { s with toks := s.toks + 1 }) : wpAny (model prog w) A (binaryOp .Mult (.int a t) (.int b u)) Q E s := by
  subst hM
  exact mul_int h (IntMulOk.of_le ha hb (by decide))
theorem pow_named {a n M : Int} {t u : Tok} {Q : Value → Shared → Prop} (hn : 0 ≤ n) (hsz : (Builtin.Int.intBits a : Int) * n ≤ 2 ^ 27) (hM : a ^ n.toNat = M) (h : Q (.int M s.toks) { s with toks := s.toks + 1 }) : wpAny (model prog w) A (binaryOp .Pow (.int a t) (.int n u)) Q E s := by
  subst hM
  exact pow_int hn hsz h
end
theorem pow_room {a n : Int} {m k : Nat} (ha : Builtin.Int.intBits a ≤ m) (hn0 : 0 ≤ n) (hn : n ≤ k) (h : (m : Int) * k ≤ 2 ^ 27) : (Builtin.Int.intBits a : Int) * n ≤ 2 ^ 27 :=
  Int.le_trans (Int.mul_le_mul (by exact_mod_cast ha) hn hn0 (by exact_mod_cast Nat.zero_le _)) h
theorem bits_pow {a : Int} {m : Nat} (ha : Builtin.Int.intBits a ≤ m) (k : Nat) : Builtin.Int.intBits (a ^ k) ≤ m * k + 1 := by
  induction k with
  | zero => rw [Int.pow_zero]; exact intBits_le_iff.mpr (by show 1 < 2 ^ (0 + 1); decide)
  | succ k ih =>
    rw [Int.pow_succ]
    have := intBits_mul_le ih ha
    rw [Nat.mul_succ]; omega
/-- the digits of what stands behind the point -/
noncomputable def btpv (a : Int) (sz dg mn : Nat) : List Int := ((dgn (8 * sz) (((a + (256 : Int) ^ sz / 2 * ((256 : Int) ^ sz - 1) ^ dg) * ((256 : Int) ^ sz) ^ mn) / (((256 : Int) ^ sz - 1) * ((256 : Int) ^ sz - 1) ^ dg))).reverse).map (· - (256 : Int) ^ sz / 2)
noncomputable def OutL (ns : List Int) : Heap → Value → Heap → Prop := fun h r h' => ∃ D ys c, r = .ref D ∧ h.get? D = none ∧ h'.get? D = some (listOf ys.toArray c) ∧ IntsAre ys ns
set_option maxHeartbeats 8000000 in
theorem con_btp (w : World) (a : Int) (sz dg mn : Nat) (ta tb tc td : Tok) (h1 : 5 ≤ sz) (h2 : sz ≤ 7) (h3 : 2 ≤ dg) (h4 : dg ≤ 3) (h5 : 2 ≤ mn) (h6 : mn ≤ 5) (hab : Builtin.Int.intBits a ≤ 500) (ha0 : 0 ≤ a + (256 : Int) ^ sz / 2 * ((256 : Int) ^ sz - 1) ^ dg) : PurF p58 p65 PySem.Challenge.rw_zo0028_01.row.prog w (Pre.hc.heap_1 w.params) 130 [.int a ta, .int sz tb, .int dg tc, .int mn td] (fun h => True) 180 1800 (OutL (btpv a sz dg mn)) := by
  w_top off
  k_fill
  unfold PurF
  intro p loose mean mg mb dp u fr gd g s Q E G f58 f65 hd hu hp ret
  have T₀ := G.T.keeps G.keep
  have X₀ : (Pre.hc.heap_1 w.params).In s.heap := fun b o e => G.keep _ _ (G.X b o e)
  have b256 : Builtin.Int.intBits 256 ≤ 9 := intBits_le_iff.mpr (by decide)
  obtain ⟨P, hP⟩ : ∃ P, (256 : Int) ^ (sz : Int).toNat = P := ⟨_, rfl⟩
  have zsz : (0 : Int) ≤ sz := by omega
  have zdg : (0 : Int) ≤ dg := by omega
  have zmn : (0 : Int) ≤ mn := by omega
  have rP := pow_room (k := 7) b256 zsz (by omega) (by decide)
  have bP : Builtin.Int.intBits P ≤ 64 := by rw [← hP]; refine Nat.le_trans (bits_pow b256 _) ?_; show 9 * sz + 1 ≤ 64; omega
  have P0 : 2 ^ 40 ≤ P := by
    rw [← hP]
    have e : (256 : Int) ^ (sz : Int).toNat = 2 ^ 40 * 256 ^ (sz - 5) := by
      have : (sz : Int).toNat = 5 + (sz - 5) := by omega
      rw [this, Int.pow_add]; rfl
    have h0 : (1 : Int) ≤ 256 ^ (sz - 5) := Int.pow_pos (by decide)
    rw [e]
    have := Int.mul_le_mul_of_nonneg_left h0 (show (0 : Int) ≤ 2 ^ 40 by decide)
    rw [Int.mul_one] at this; exact this
  obtain ⟨H, hH⟩ : ∃ H, P.fdiv 2 = H := ⟨_, rfl⟩
  have hH2 : H = P / 2 := by rw [← hH]; exact Int.fdiv_eq_ediv_of_nonneg _ (by decide)
  have p40 : (2 : Int) ^ 40 = 1099511627776 := by decide
  have bP1 : Builtin.Int.intBits (P - 1) ≤ 64 := Nat.le_trans (intBits_le_iff.mpr (by have := (intBits_le_iff (x := P)).mp (Nat.le_refl _); omega)) bP
  have bH : Builtin.Int.intBits H ≤ 64 := Nat.le_trans (intBits_le_iff.mpr (by have := (intBits_le_iff (x := P)).mp (Nat.le_refl _); omega)) bP
  have bHb : Builtin.Int.intBits H ≤ 10000 := Nat.le_trans bH (by decide)
  have bP1b : Builtin.Int.intBits (P - 1) ≤ 10000 := Nat.le_trans bP1 (by decide)
  have rL := pow_room (k := 3) bP1 zdg (by omega) (by decide)
  obtain ⟨Lf, hLf⟩ : ∃ Lf, (P - 1) ^ (dg : Int).toNat = Lf := ⟨_, rfl⟩
  have bL : Builtin.Int.intBits Lf ≤ 193 := by rw [← hLf]; refine Nat.le_trans (bits_pow bP1 _) ?_; show 64 * dg + 1 ≤ 193; omega
  have bLb : Builtin.Int.intBits Lf ≤ 10000 := Nat.le_trans bL (by decide)
  obtain ⟨X1, hX1⟩ : ∃ X1, H * Lf = X1 := ⟨_, rfl⟩
  have bX1 : Builtin.Int.intBits X1 ≤ 257 := by rw [← hX1]; exact intBits_mul_le bH bL
  have bs : Builtin.Int.intBits (a + X1) ≤ 501 := Nat.le_trans (intBits_add_le hab bX1) (by decide)
  have bsb : Builtin.Int.intBits (a + X1) ≤ 10000 := Nat.le_trans bs (by decide)
  have rM := pow_room (k := 5) bP zmn (by omega) (by decide)
  obtain ⟨Pm, hPm⟩ : ∃ Pm, P ^ (mn : Int).toNat = Pm := ⟨_, rfl⟩
  have bPm : Builtin.Int.intBits Pm ≤ 321 := by rw [← hPm]; refine Nat.le_trans (bits_pow bP _) ?_; show 64 * mn + 1 ≤ 321; omega
  have bPmb : Builtin.Int.intBits Pm ≤ 10000 := Nat.le_trans bPm (by decide)
  obtain ⟨X2, hX2⟩ : ∃ X2, (a + X1) * Pm = X2 := ⟨_, rfl⟩
  have bX2 : Builtin.Int.intBits X2 ≤ 822 := by rw [← hX2]; exact intBits_mul_le bs bPm
  obtain ⟨X3, hX3⟩ : ∃ X3, (P - 1) * Lf = X3 := ⟨_, rfl⟩
  have bX3 : Builtin.Int.intBits X3 ≤ 257 := by rw [← hX3]; exact intBits_mul_le bP1 bL
  obtain ⟨S8, hS8⟩ : ∃ S8, (8 : Int) * sz = S8 := ⟨_, rfl⟩
  have b8 : Builtin.Int.intBits 8 ≤ 10000 := intBits_le_iff.mpr (Nat.lt_of_lt_of_le (show (8 : Int).natAbs < 2 ^ 4 by decide) (Nat.pow_le_pow_right (by decide) (by decide)))
  have bsz : Builtin.Int.intBits (sz : Int) ≤ 10000 := intBits_le_iff.mpr (Nat.lt_of_lt_of_le (show (sz : Int).natAbs < 2 ^ 4 by omega) (Nat.pow_le_pow_right (by decide) (by decide)))
  have X30 : (2 : Int) ^ 100 < X3 := by
    rw [← hX3, ← hLf]
    have e : (P - 1) * (P - 1) ^ (dg : Int).toNat = (P - 1) ^ (dg + 1) := by rw [Int.pow_succ, Int.mul_comm]; rfl
    rw [e]
    have q1 : (2 : Int) ^ 39 ≤ P - 1 := by
      have : (2 : Int) ^ 39 = 549755813888 := by decide
      omega
    have q2 : (2 : Int) ^ 39 * (2 ^ 39 * 2 ^ 39) ≤ (P - 1) * ((P - 1) * (P - 1)) := Int.mul_le_mul q1 (Int.mul_le_mul q1 q1 (by decide) (by omega)) (by decide) (by omega)
    have q3 : (P - 1) * ((P - 1) * (P - 1)) = (P - 1) ^ 3 := by rw [Int.pow_succ, Int.pow_succ, Int.pow_succ, Int.pow_zero, Int.one_mul, Int.mul_assoc]
    have q4 : (P - 1) ^ 3 ≤ (P - 1) ^ (dg + 1) := by
      have : dg + 1 = 3 + (dg - 2) := by omega
      rw [this, Int.pow_add]
      have q5 : (1 : Int) ≤ (P - 1) ^ (dg - 2) := Int.pow_pos (by omega)
      have q6 := Int.mul_le_mul_of_nonneg_left q5 (show (0 : Int) ≤ (P - 1) ^ 3 from Int.le_of_lt (Int.pow_pos (by omega)))
      rw [Int.mul_one] at q6; exact q6
    rw [q3] at q2
    have q7 : (2 : Int) ^ 100 < 2 ^ 39 * (2 ^ 39 * 2 ^ 39) := by decide
    omega
  have b3l : 100 ≤ Builtin.Int.intBits X3 := by
    refine Nat.le_of_not_lt fun h => ?_
    have := (intBits_le_iff (x := X3)).mp (show Builtin.Int.intBits X3 ≤ 100 by omega)
    have e : ((2 ^ 100 : Nat) : Int) = (2 : Int) ^ 100 := by decide
    omega
  have p100 : (0 : Int) < 2 ^ 100 := by decide
  refine wpAny_call ?_
  k_dflt (refine' enterC ?k3 ?k5 ?k6 ?k7 ?k8 ?k9 ?kB ?kD ?_ ?c2 ?c3 ?c4; (case k3 => k_asm); (case k5 => k_asm); (case k6 => k_is); (case k7 => k_is); (case k8 => k_room); (case k9 => exact BindsTo.of_eq rfl); (case kB => exact rfl); (case kD => decide +kernel); (case c2 => exact rfl); (case c3 => exact rfl); (case c4 => exact rfl); k_whole; intro g' L' h' tk' cells' hg' F' N' Y' X' T'; subst hg'; k_cells Y'; (try dsimp only); (try k_fold))
  (repeat' (first | (k_unfold; (try dsimp only)) | (k_end; wrow_close) | ((with_reducible show wpAny _ _ (exec _ _) _ _ _); k_fold; (first | ((with_reducible show wpAny _ _ (binaryOp Operator.FloorDiv (Value.int _ _) (Value.int _ _)) _ _ _); k_here; refine fd_named (by omega) (by omega) (by assumption) ?_) | ((with_reducible show wpAny _ _ (binaryOp Operator.Mult (Value.int _ _) (Value.int _ _)) _ _ _); k_here; (with_reducible refine mul_named (by assumption) (by assumption) (by assumption) ?_)) | ((with_reducible show wpAny _ _ (binaryOp Operator.Pow (Value.int _ _) (Value.int _ _)) _ _ _); k_here; (with_reducible refine pow_named (by assumption) (by assumption) (by assumption) ?_)) | ((with_reducible show wpAny _ _ (call (Value.ref _) _ _) _ _ _); k_here; refine Stop.elim ?_) | walk1)) | ((with_reducible show wpAny _ _ (binaryOp Operator.FloorDiv (Value.int _ _) (Value.int _ _)) _ _ _); k_here; refine fd_named (by omega) (by omega) (by assumption) ?_) | ((with_reducible show wpAny _ _ (binaryOp Operator.Mult (Value.int _ _) (Value.int _ _)) _ _ _); k_here; (with_reducible refine mul_named (by assumption) (by assumption) (by assumption) ?_)) | ((with_reducible show wpAny _ _ (binaryOp Operator.Pow (Value.int _ _) (Value.int _ _)) _ _ _); k_here; (with_reducible refine pow_named (by assumption) (by assumption) (by assumption) ?_)) | ((with_reducible show wpAny _ _ (call (Value.ref _) _ _) _ _ _); k_here; refine Stop.elim ?_) | walk1 | (dsimp only; (first | ((with_reducible show wpAny _ _ (binaryOp Operator.FloorDiv (Value.int _ _) (Value.int _ _)) _ _ _); k_here; refine fd_named (by omega) (by omega) (by assumption) ?_) | ((with_reducible show wpAny _ _ (binaryOp Operator.Mult (Value.int _ _) (Value.int _ _)) _ _ _); k_here; (with_reducible refine mul_named (by assumption) (by assumption) (by assumption) ?_)) | ((with_reducible show wpAny _ _ (binaryOp Operator.Pow (Value.int _ _) (Value.int _ _)) _ _ _); k_here; (with_reducible refine pow_named (by assumption) (by assumption) (by assumption) ?_)) | ((with_reducible show wpAny _ _ (call (Value.ref _) _ _) _ _ _); k_here; refine Stop.elim ?_) | walk1)) | (leave1; walk_say "STEP leave1"; try dsimp only) | fail "no step"))
  refine Stop.intro ?_
  (rename Fr _ _ _ _ => fF)
  (rename News _ _ _ _ => nN)
  refine' use_F (con_dm w X2 X3 _ _ (by omega) (Nat.le_trans bX3 (by decide)) (by omega)) fF nN G f58 f65 ?p3 ?p4 ?p5 ?_
  case p3 => k_room
  case p4 => k_room
  case p5 => trivial
  intro r₁ h₁ tk₁ F₁ N₁ sb ⟨T, e₁, hfr, t₅, t₆, nT, hT1⟩
  subst e₁
  have na1 := news_ne nN hfr (.head _)
  dsimp only at na1
  replace N₁ := news_add fF N₁ hfr hT1
  clear fF nN
  (repeat' (first | (k_unfold; (try dsimp only)) | (k_end; wrow_close) | ((with_reducible show wpAny _ _ (binaryOp Operator.FloorDiv (Value.int _ _) (Value.int _ _)) _ _ _); k_here; refine fd_named (by omega) (by omega) (by assumption) ?_) | ((with_reducible show wpAny _ _ (binaryOp Operator.Mult (Value.int _ _) (Value.int _ _)) _ _ _); k_here; (with_reducible refine mul_named (by assumption) (by assumption) (by assumption) ?_)) | ((with_reducible show wpAny _ _ (binaryOp Operator.Pow (Value.int _ _) (Value.int _ _)) _ _ _); k_here; (with_reducible refine pow_named (by assumption) (by assumption) (by assumption) ?_)) | ((with_reducible show wpAny _ _ (eval (PySem.Expr.ListComp _ _ _ _) _) _ _ _); k_here; k_dflt (refine LCg.ListComp_U (F₀ := by k_asm) (by with_unfolding_all rfl) (by decide) (by rfl) (by decide) (by rfl) ?_)) | ((with_reducible show wpAny _ _ (call (Value.ref _) _ _) _ _ _); k_here; refine Stop.elim ?_) | walk1 | (dsimp only; (first | ((with_reducible show wpAny _ _ (binaryOp Operator.FloorDiv (Value.int _ _) (Value.int _ _)) _ _ _); k_here; refine fd_named (by omega) (by omega) (by assumption) ?_) | ((with_reducible show wpAny _ _ (binaryOp Operator.Mult (Value.int _ _) (Value.int _ _)) _ _ _); k_here; (with_reducible refine mul_named (by assumption) (by assumption) (by assumption) ?_)) | ((with_reducible show wpAny _ _ (binaryOp Operator.Pow (Value.int _ _) (Value.int _ _)) _ _ _); k_here; (with_reducible refine pow_named (by assumption) (by assumption) (by assumption) ?_)) | ((with_reducible show wpAny _ _ (eval (PySem.Expr.ListComp _ _ _ _) _) _ _ _); k_here; k_dflt (refine LCg.ListComp_U (F₀ := by k_asm) (by with_unfolding_all rfl) (by decide) (by rfl) (by decide) (by rfl) ?_)) | ((with_reducible show wpAny _ _ (call (Value.ref _) _ _) _ _ _); k_here; refine Stop.elim ?_) | walk1)) | (leave1; walk_say "STEP leave1"; try dsimp only) | fail "no step"))
  refine Stop.intro ?_
  (rename Fr _ _ _ _ => fF)
  (rename News _ _ _ _ => nN)
  have hX20 : 0 ≤ X2 := by
    rw [← hX2]
    refine Int.mul_nonneg ?_ (by rw [← hPm]; exact Int.le_of_lt (Int.pow_pos (by omega)))
    rw [← hX1, hH2, ← hLf, ← hP]
    exact ha0
  have hq0 : 0 ≤ X2 / X3 := Int.ediv_nonneg hX20 (by omega)
  have hqb : Builtin.Int.intBits (X2 / X3) ≤ 822 := Nat.le_trans (intBits_le_iff.mpr (by
    have := (intBits_le_iff (x := X2)).mp (Nat.le_refl _)
    have := Int.ediv_le_self X3 hX20
    omega)) bX2
  refine' use_F (PurT.full (con_i2d w (X2 / X3) S8 _ _ hq0 (by omega) (by omega) (by omega)) (.inl ⟨rfl, rfl⟩)) fF nN G f58 f65 ?p3 ?p4 ?p5 ?_
  case p3 => k_room
  case p4 => k_room
  case p5 => trivial
  intro r₁ h₁ tk₁ F₁ N₁ sb ⟨D, ys, c, e₁, hfr, hD, hys⟩
  subst e₁
  have nb1 := news_ne nN hfr (.head _)
  have nb2 := news_ne nN hfr (.tail _ (.head _))
  dsimp only at nb1 nb2
  replace N₁ := news_add fF N₁ hfr hD
  clear fF nN
  have hdl : (dgn S8 (X2 / X3)).length ≤ 50 := by
    unfold dgn
    rw [dgs_length, Int.fdiv_eq_ediv_of_nonneg _ (by omega)]
    have := Int.ediv_lt_of_lt_mul (a := (Builtin.Int.intBits (X2 / X3) : Int) + S8 - 1) (b := 51) (c := S8) (by omega) (by omega)
    omega
  generalize hdd : dgn S8 (X2 / X3) = dd at hys hdl
  (repeat' (first | (k_unfold; (try dsimp only)) | (k_end; wrow_close) | ((with_reducible show wpAny _ _ (binaryOp Operator.FloorDiv (Value.int _ _) (Value.int _ _)) _ _ _); k_here; refine fd_named (by omega) (by omega) (by assumption) ?_) | ((with_reducible show wpAny _ _ (binaryOp Operator.Mult (Value.int _ _) (Value.int _ _)) _ _ _); k_here; (with_reducible refine mul_named (by assumption) (by assumption) (by assumption) ?_)) | ((with_reducible show wpAny _ _ (binaryOp Operator.Pow (Value.int _ _) (Value.int _ _)) _ _ _); k_here; (with_reducible refine pow_named (by assumption) (by assumption) (by assumption) ?_)) | ((with_reducible show LCg.CompSrc _ _ _ _ _ _ _ _ _ _ _ _ _ _); refine Stop.elim ?_) | ((with_reducible show wpAny _ _ (eval (PySem.Expr.ListComp _ _ _ _) _) _ _ _); k_here; k_dflt (refine LCg.ListComp_U (F₀ := by k_asm) (by with_unfolding_all rfl) (by decide) (by rfl) (by decide) (by rfl) ?_)) | ((with_reducible show wpAny _ _ (call (Value.ref _) _ _) _ _ _); k_here; refine Stop.elim ?_) | walk1 | (dsimp only; (first | ((with_reducible show wpAny _ _ (binaryOp Operator.FloorDiv (Value.int _ _) (Value.int _ _)) _ _ _); k_here; refine fd_named (by omega) (by omega) (by assumption) ?_) | ((with_reducible show wpAny _ _ (binaryOp Operator.Mult (Value.int _ _) (Value.int _ _)) _ _ _); k_here; (with_reducible refine mul_named (by assumption) (by assumption) (by assumption) ?_)) | ((with_reducible show wpAny _ _ (binaryOp Operator.Pow (Value.int _ _) (Value.int _ _)) _ _ _); k_here; (with_reducible refine pow_named (by assumption) (by assumption) (by assumption) ?_)) | ((with_reducible show LCg.CompSrc _ _ _ _ _ _ _ _ _ _ _ _ _ _); refine Stop.elim ?_) | ((with_reducible show wpAny _ _ (eval (PySem.Expr.ListComp _ _ _ _) _) _ _ _); k_here; k_dflt (refine LCg.ListComp_U (F₀ := by k_asm) (by with_unfolding_all rfl) (by decide) (by rfl) (by decide) (by rfl) ?_)) | ((with_reducible show wpAny _ _ (call (Value.ref _) _ _) _ _ _); k_here; refine Stop.elim ?_) | walk1)) | (leave1; walk_say "STEP leave1"; try dsimp only) | fail "no step"))
  refine Stop.intro ?_
  (rename IntsAre _ _ => hws)
  (rename List Value => ws)
  (rename Addr => D')
  (rename Fr _ _ _ _ => fF)
  (rename News _ _ _ _ => nN)
  have hwl : ws.length = dd.length := by rw [hws.length, List.length_reverse]
  refine LCg.CompSrc.ledger (by rfl) fF nN (.head _) (by rw [List.size_toArray, hwl]; exact Nat.le_trans hdl (by decide)) ?_
  intro g₂
  generalize hnw : List.cons (D', listOf ws.toArray 0) _ = nw₀ at nN ⊢
  refine comp_ind (fun i ys₂ nw => nw = nw₀ ∧ IntsAre ys₂ ((dd.reverse.take i).map (· - H))) ?_ ?_ ⟨rfl, .nil⟩
  · intro i v I oI C oC D₃ ys₂ nw m₂ h₂ tk₂ E' hi ⟨e₃, hJ⟩ hv hoC hx hF hN off hne
    subst e₃
    rw [← hnw] at hN off ⊢
    clear fF nN
    have hv' : ws[i]? = some v := by simpa using hv
    refine cutG fun PC hPC => ?_
    obtain ⟨d, td, hdi, rfl⟩ := ints_at hws hv'
    refine hPC ?_
    clear hPC PC
    (repeat' (first | (k_unfold; (try dsimp only)) | (k_end; wrow_close) | ((with_reducible show wpAny _ _ (binaryOp Operator.FloorDiv (Value.int _ _) (Value.int _ _)) _ _ _); k_here; refine fd_named (by omega) (by omega) (by assumption) ?_) | ((with_reducible show wpAny _ _ (binaryOp Operator.Mult (Value.int _ _) (Value.int _ _)) _ _ _); k_here; (with_reducible refine mul_named (by assumption) (by assumption) (by assumption) ?_)) | ((with_reducible show wpAny _ _ (binaryOp Operator.Pow (Value.int _ _) (Value.int _ _)) _ _ _); k_here; (with_reducible refine pow_named (by assumption) (by assumption) (by assumption) ?_)) | ((with_reducible show LCg.CompSrc _ _ _ _ _ _ _ _ _ _ _ _ _ _); refine Stop.elim ?_) | ((with_reducible show wpAny _ _ (eval (PySem.Expr.ListComp _ _ _ _) _) _ _ _); k_here; k_dflt (refine LCg.ListComp_U (F₀ := by k_asm) (by with_unfolding_all rfl) (by decide) (by rfl) (by decide) (by rfl) ?_)) | ((with_reducible show wpAny _ _ (call (Value.ref _) _ _) _ _ _); k_here; refine Stop.elim ?_) | walk1 | (dsimp only; (first | ((with_reducible show wpAny _ _ (binaryOp Operator.FloorDiv (Value.int _ _) (Value.int _ _)) _ _ _); k_here; refine fd_named (by omega) (by omega) (by assumption) ?_) | ((with_reducible show wpAny _ _ (binaryOp Operator.Mult (Value.int _ _) (Value.int _ _)) _ _ _); k_here; (with_reducible refine mul_named (by assumption) (by assumption) (by assumption) ?_)) | ((with_reducible show wpAny _ _ (binaryOp Operator.Pow (Value.int _ _) (Value.int _ _)) _ _ _); k_here; (with_reducible refine pow_named (by assumption) (by assumption) (by assumption) ?_)) | ((with_reducible show LCg.CompSrc _ _ _ _ _ _ _ _ _ _ _ _ _ _); refine Stop.elim ?_) | ((with_reducible show wpAny _ _ (eval (PySem.Expr.ListComp _ _ _ _) _) _ _ _); k_here; k_dflt (refine LCg.ListComp_U (F₀ := by k_asm) (by with_unfolding_all rfl) (by decide) (by rfl) (by decide) (by rfl) ?_)) | ((with_reducible show wpAny _ _ (call (Value.ref _) _ _) _ _ _); k_here; refine Stop.elim ?_) | walk1)) | (leave1; walk_say "STEP leave1"; try dsimp only) | fail "no step"))
    refine LCg.CompEnd.intro hF hN _ (fun _ hp => hp) off (Or.inr ⟨_, .head _, rfl, _, rfl⟩) ⟨rfl, ?_⟩
    have et : dd.reverse.take (i + 1) = dd.reverse.take i ++ [d] := by rw [List.take_add_one, hdi]; rfl
    rw [et, List.map_append]
    exact hJ.append (.cons _ _ .nil)
  · intro ys₂ nw ⟨e₃, hJ⟩
    subst e₃
    rw [← hnw] at nN ⊢
    have el : ws.toArray.size = dd.reverse.length := by rw [List.size_toArray, hwl, List.length_reverse]
    rw [el, List.take_of_length_le (Nat.le_refl _)] at hJ
    have hout : dd.reverse.map (· - H) = btpv a sz dg mn := by
      unfold btpv
      have z1 : (256 : Int) ^ sz = P := hP
      rw [z1, ← hH2]
      have z2 : (P - 1) ^ dg = Lf := hLf
      have z3 : P ^ mn = Pm := hPm
      rw [z2, z3, hX1, hX2, hX3, hS8, hdd]
    rw [hout] at hJ
    clear fF nN
    intro D₃ h₃ tk₃ F₃ N₃ off₃
    (repeat' (first | (k_unfold; (try dsimp only)) | (k_end; wrow_close) | ((with_reducible show wpAny _ _ (binaryOp Operator.FloorDiv (Value.int _ _) (Value.int _ _)) _ _ _); k_here; refine fd_named (by omega) (by omega) (by assumption) ?_) | ((with_reducible show wpAny _ _ (binaryOp Operator.Mult (Value.int _ _) (Value.int _ _)) _ _ _); k_here; (with_reducible refine mul_named (by assumption) (by assumption) (by assumption) ?_)) | ((with_reducible show wpAny _ _ (binaryOp Operator.Pow (Value.int _ _) (Value.int _ _)) _ _ _); k_here; (with_reducible refine pow_named (by assumption) (by assumption) (by assumption) ?_)) | ((with_reducible show LCg.CompSrc _ _ _ _ _ _ _ _ _ _ _ _ _ _); refine Stop.elim ?_) | ((with_reducible show wpAny _ _ (eval (PySem.Expr.ListComp _ _ _ _) _) _ _ _); k_here; k_dflt (refine LCg.ListComp_U (F₀ := by k_asm) (by with_unfolding_all rfl) (by decide) (by rfl) (by decide) (by rfl) ?_)) | ((with_reducible show wpAny _ _ (call (Value.ref _) _ _) _ _ _); k_here; refine Stop.elim ?_) | walk1 | (dsimp only; (first | ((with_reducible show wpAny _ _ (binaryOp Operator.FloorDiv (Value.int _ _) (Value.int _ _)) _ _ _); k_here; refine fd_named (by omega) (by omega) (by assumption) ?_) | ((with_reducible show wpAny _ _ (binaryOp Operator.Mult (Value.int _ _) (Value.int _ _)) _ _ _); k_here; (with_reducible refine mul_named (by assumption) (by assumption) (by assumption) ?_)) | ((with_reducible show wpAny _ _ (binaryOp Operator.Pow (Value.int _ _) (Value.int _ _)) _ _ _); k_here; (with_reducible refine pow_named (by assumption) (by assumption) (by assumption) ?_)) | ((with_reducible show LCg.CompSrc _ _ _ _ _ _ _ _ _ _ _ _ _ _); refine Stop.elim ?_) | ((with_reducible show wpAny _ _ (eval (PySem.Expr.ListComp _ _ _ _) _) _ _ _); k_here; k_dflt (refine LCg.ListComp_U (F₀ := by k_asm) (by with_unfolding_all rfl) (by decide) (by rfl) (by decide) (by rfl) ?_)) | ((with_reducible show wpAny _ _ (call (Value.ref _) _ _) _ _ _); k_here; refine Stop.elim ?_) | walk1)) | (leave1; walk_say "STEP leave1"; try dsimp only) | fail "no step"))
    dsimp only
    (rename Fr _ _ _ _ => fF)
    (rename News _ _ _ _ => nN)
    have hT := nN _ (.head _)
    exact ret _ _ _ fF.keep ⟨_, _, _, rfl, hT.2.2, hT.1, hJ⟩

end Mine
end

section
set_option maxRecDepth 100000
open PySem PySem.W PyProof.Rows PySem.Calls PySem.Spec
namespace Mine
section
open LCg LCt
variable {prog : Program} {w : World} {A : Around} {E : Value → Shared → Prop} {s : Shared} {h₀ : Heap} {L : Addr} {m : Str → Option Value} {env : Env}
/-- what a comprehension may run over: the iterator is an object of its own -/
structure ItSrc (prog : Program) (w : World) (A : Around) (xv : Value) (n : Nat) (P : Nat → Value → Prop) (St : Addr → Nat → Heap → Prop) (obj : Obj) : Prop where
  it : ∀ {E : Value → Shared → Prop} {s : Shared} {Q : Value → Shared → Prop}, Q (.ref s.heap.objs.size) { s with heap := s.heap.push obj } → wpAny (model prog w) A (pyIter xv) Q E s
  W : ∀ I, Walks prog w A I [I] [I] n P (St I)
  st0 : ∀ h : Heap, St h.objs.size 0 (h.push obj)
  io : ∀ I i h, St I i h → ∃ o, h.get? I = some o
theorem ItSrc.bytes (hh : A.handled = none) (b : Array UInt8) (t : Tok) : ItSrc prog w A (.bytes b t) b.size (fun i v => ∃ c u, b[i]? = some c ∧ v = .int (c.toNat : Int) u) (fun I i h => KBw.IsBytesIter h I b t i) { cls := .type "bytes_iterator", data := .fields #[.bytes b t, .int 0 0] } where
  it := fun h => KBw.pyIter_bytes h
  W := fun I => KBw.walks hh I b t
  st0 := fun h => ⟨_, Heap.get?_push_size _ rfl, rfl, rfl⟩
  io := fun I i h st => let ⟨o, e, _⟩ := st; ⟨o, e⟩
end
section
open LCg LCt
variable {prog : Program} {w : World} {A : Around} {E : Value → Shared → Prop} {s : Shared} {h₀ : Heap} {L : Addr} {m : Str → Option Value} {env : Env}
  {xv : Value} {n : Nat} {P : Nat → Value → Prop} {St : Addr → Nat → Heap → Prop} {obj : Obj} {news : List (Addr × Obj)}
  {ct elt iter : PySem.Expr} {x : Str} {px : Pos} {scope : Scope} {cl : List (Str × Addr)} {pos : Pos}
theorem pyIter_strI {x : Str} {t : Tok} {Q : Value → Shared → Prop}
    (hQ : ∀ (T : String) (o : Obj), (T = "str_iterator" ∨ T = "str_ascii_iterator") → (∀ A' : Around, A'.handled = none → ∀ I, Walks prog w A' I [I] [I] x.cps.size (SignAt x) (fun i h => h.IsStrIter I T x t i)) → (s.heap.push o).IsStrIter s.heap.objs.size T x t 0 →
      Q (.ref s.heap.objs.size) { s with heap := s.heap.push o }) : wpAny (model prog w) A (pyIter (.str x t)) Q E s := by
  cases ha : x.cps.all (· < 128)
  · exact wpAny_pyIter_wide ha (hQ _ _ (.inl rfl) (fun A' hA I => Walks.strWide hA I x t) ⟨_, Heap.get?_push_size _ rfl, rfl, rfl⟩)
  · exact wpAny_pyIter_ascii ha (hQ _ _ (.inr rfl) (fun A' hA I => Walks.strAscii hA I x t) ⟨_, Heap.get?_push_size _ rfl, rfl, rfl⟩)
/-- what goes on behind the iterator: the new list, the block's own frame, the turns -/
noncomputable abbrev CompGo (prog : Program) (w : World) (A : Around) (E : Value → Shared → Prop) (env : Env) (scope : Scope) (cl : List (Str × Addr)) (c : PySem.Expr) (use : Option (Value → Sem Unit)) (Q : Value → Shared → Prop) (it : Value) (s₂ : Shared) : Prop :=
  wpAny (model prog w) A (newList []) (fun acc s₃ => wpAny (model prog w) A (newFunctionEnv scope env.globals cl [] env.qual none .none (some env)) (fun cenv s₄ =>
    codeAny (model prog w) A (.compStart c 0 it acc { cenv with scope := relabel scope env }) (compPost (model prog w) A E use Q acc cenv.locals) s₄) E s₃) E s₂
theorem walks_same {I : Addr} {St : Nat → Heap → Prop} (W : Walks prog w A I [I] [I] n P St) {i : Nat} {h h' : Heap} {o : Obj} (st : St i h) (e : h.get? I = some o) (e' : h'.get? I = some o) : St i h' :=
  W.frame i h h' st fun b hb o' eo => by rw [List.mem_singleton.mp hb] at eo ⊢; rw [e] at eo; rw [e', eo]
theorem endE {Q : Value → Shared → Prop} {s₂ : Shared} {S : Prop} : ∀ D C h tk m' ys news', Fr h₀ L h m → News h₀ L h ((D, lst ys) :: news') → Off1 D news' → h.Ns C m' → h₀.get? C = none → h₀.get? D = none → C ≠ L → D ≠ L → C ≠ D → (∀ p ∈ news', p.1 ≠ C) → FinE h₀ L m s₂ Q ys news' →
    compPost (model prog w) A E none Q (.ref D) C (.ok .next) { s₂ with heap := h, toks := tk } := by
  intro D C h tk m' ys news' F' N' o1 hn hC₀ hD₀ hCL hDL hCD offC fin
  refine ⟨m', hn, fun h'' hs'' => fin D h'' tk (F'.change hs'' hCL hC₀) (fun p hp => ⟨hs''.extBut _ _ ?_ (N' p hp).1, (N' p hp).2⟩) o1⟩
  rcases List.mem_cons.mp hp with rfl | hp
  · exact Ne.symm hCD
  · exact offC p hp
theorem endA {y : Str} {py : Pos} {Q : Flow → Shared → Prop} {s₂ : Shared} (hy : env.kindOf y = some .local) (hp : (env.scope.kind == .class || (env.scope.kind == .module && env.locals != env.globals)) = false) (hLe : env.locals = L) : ∀ D C h tk m' ys news', Fr h₀ L h m → News h₀ L h ((D, lst ys) :: news') → Off1 D news' → h.Ns C m' → h₀.get? C = none → h₀.get? D = none → C ≠ L → D ≠ L → C ≠ D → (∀ p ∈ news', p.1 ≠ C) → FinA h₀ L m s₂ y Q ys news' →
    compPost (model prog w) A E (some (assign (.Name y py) env)) (fun _ s' => Q .next s') (.ref D) C (.ok .next) { s₂ with heap := h, toks := tk } := by
  subst hLe
  intro D C h tk m' ys news' F' N' o1 hn hC₀ hD₀ hCL hDL hCD offC fin
  show wpAny _ A (assign (.Name y py) env (.ref D)) _ _ _
  refine wpAny_assign_Name (wpAny_storeName_local hy F'.ns (fun h₂ hn₂ hs₂ => ?_) hp)
  have hL₀ : h₀.get? env.locals = none := Heap.get?_none_of_le F'.above
  have F₂ : Fr h₀ env.locals h₂ (fun z => if z = y then some (.ref D) else m z) := ⟨hn₂, fun b o e => hs₂.extBut b o (fun q => by rw [q, hL₀] at e; cases e) (F'.keep b o e), F'.above⟩
  refine ⟨m', hn.sameBut hs₂ hCL, fun h'' hs'' => fin D h'' _ (F₂.change hs'' hCL hC₀) (fun p hp => ⟨hs''.extBut _ _ ?_ (hs₂.extBut _ _ (N' p hp).2.1 (N' p hp).1), (N' p hp).2⟩) o1⟩
  rcases List.mem_cons.mp hp with rfl | hp
  · exact Ne.symm hCD
  · exact offC p hp
/-- over an iterator at the heap's end, without a test -/
theorem go_U {use : Option (Value → Sem Unit)} {Q : Value → Shared → Prop} {Fin : List Value → List (Addr × Obj) → Prop} {St : Nat → Heap → Prop} (W : Walks prog w A s.heap.objs.size [s.heap.objs.size] [s.heap.objs.size] n P St) (st0 : St 0 (s.heap.push obj)) (io : ∀ i h, St i h → ∃ o, h.get? s.heap.objs.size = some o)
    (F : Fr h₀ L s.heap m) (N : News h₀ L s.heap news) (hsz : n ≤ sizeLine) (hcell : ∀ y ∈ scope.names, y.2 ≠ .cell) (hkind : scope.kind = .function) (hx : scope.names.lookup x = some .local)
    (R : CompRest prog w A h₀ L m env elt x scope cl { s with heap := s.heap.push obj } (fun _ => True) P Fin n 0 [] news)
    (hRR : ∀ D C h tk m' ys news', Fr h₀ L h m → News h₀ L h ((D, lst ys) :: news') → Off1 D news' → h.Ns C m' → h₀.get? C = none → h₀.get? D = none → C ≠ L → D ≠ L → C ≠ D → (∀ p ∈ news', p.1 ≠ C) → Fin ys news' →
      compPost (model prog w) A E use Q (.ref D) C (.ok .next) { s with heap := h, toks := tk }) :
    CompGo prog w A E env scope cl (.ListComp elt [⟨.Name x px, iter, [], 0⟩] scope pos) use Q (.ref s.heap.objs.size) { s with heap := s.heap.push obj } :=
  block_U W hsz io (fun i h h' o nw st e e' _ _ _ => walks_same W st e e') hcell hkind hx st0 (fun b hb => by rw [List.mem_singleton.mp hb]; show s.heap.objs.size < (s.heap.push obj).objs.size; rw [Heap.size_push]; exact Nat.lt_succ_self _)
    (F.keeps fun _ _ e => Heap.get?_push_of_some _ e) (N.grown fun _ _ e => Heap.get?_push_of_some _ e) (Nat.ne_of_lt F.ns.lt) (next_is_new F) (fun p hp => Nat.ne_of_lt (Heap.lt_size (N p hp).1)) trivial R hRR
theorem go_T {use : Option (Value → Sem Unit)} {Q : Value → Shared → Prop} {Fin : List Value → List (Addr × Obj) → Prop} {St : Nat → Heap → Prop} (W : Walks prog w A s.heap.objs.size [s.heap.objs.size] [s.heap.objs.size] n P St) (st0 : St 0 (s.heap.push obj)) (io : ∀ i h, St i h → ∃ o, h.get? s.heap.objs.size = some o)
    (F : Fr h₀ L s.heap m) (N : News h₀ L s.heap news) (hsz : n ≤ sizeLine) (hcell : ∀ y ∈ scope.names, y.2 ≠ .cell) (hkind : scope.kind = .function) (hx : scope.names.lookup x = some .local)
    (R : CompRestT prog w A h₀ L m env ct elt x scope cl { s with heap := s.heap.push obj } (fun _ => True) P Fin n 0 [] news)
    (hRR : ∀ D C h tk m' ys news', Fr h₀ L h m → News h₀ L h ((D, lst ys) :: news') → Off1 D news' → h.Ns C m' → h₀.get? C = none → h₀.get? D = none → C ≠ L → D ≠ L → C ≠ D → (∀ p ∈ news', p.1 ≠ C) → Fin ys news' →
      compPost (model prog w) A E use Q (.ref D) C (.ok .next) { s with heap := h, toks := tk }) :
    CompGo prog w A E env scope cl (.ListComp elt [⟨.Name x px, iter, [ct], 0⟩] scope pos) use Q (.ref s.heap.objs.size) { s with heap := s.heap.push obj } :=
  block_T W hsz io (fun i h h' o nw st e e' _ _ _ => walks_same W st e e') hcell hkind hx st0 (fun b hb => by rw [List.mem_singleton.mp hb]; show s.heap.objs.size < (s.heap.push obj).objs.size; rw [Heap.size_push]; exact Nat.lt_succ_self _)
    (F.keeps fun _ _ e => Heap.get?_push_of_some _ e) (N.grown fun _ _ e => Heap.get?_push_of_some _ e) (Nat.ne_of_lt F.ns.lt) (next_is_new F) (fun p hp => Nat.ne_of_lt (Heap.lt_size (N p hp).1)) trivial R hRR
end

end Mine
end

section
set_option maxRecDepth 100000
open PySem PySem.W PyProof.Rows PySem.Calls PySem.Spec
namespace Mine
section
open LCg LCt
variable {prog : Program} {w : World} {A : Around} {E : Value → Shared → Prop} {s : Shared} {h₀ : Heap} {L : Addr} {m : Str → Option Value} {env : Env}
  {ct elt iter : PySem.Expr} {x : Str} {px : Pos} {scope : Scope} {cl : List (Str × Addr)} {pos : Pos}
/-- the source is a text -/
noncomputable def SrcS (prog : Program) (w : World) (A : Around) (h₀ : Heap) (L : Addr) (m : Str → Option Value) (env : Env) (elt : PySem.Expr) (x : Str) (scope : Scope) (cl : List (Str × Addr)) (Fin : Shared → List Value → List (Addr × Obj) → Prop) (xv : Value) (s₁ : Shared) : Prop :=
  ∃ X t news, xv = .str X t ∧ A.handled = none ∧ Fr h₀ L s₁.heap m ∧ News h₀ L s₁.heap news ∧ X.cps.size ≤ sizeLine ∧ ∀ g, CompRest prog w A h₀ L m env elt x scope cl { s₁ with heap := g } (fun _ => True) (SignAt X) (Fin { s₁ with heap := g }) X.cps.size 0 [] news
noncomputable def SrcST (prog : Program) (w : World) (A : Around) (h₀ : Heap) (L : Addr) (m : Str → Option Value) (env : Env) (ct elt : PySem.Expr) (x : Str) (scope : Scope) (cl : List (Str × Addr)) (Fin : Shared → List Value → List (Addr × Obj) → Prop) (xv : Value) (s₁ : Shared) : Prop :=
  ∃ X t news, xv = .str X t ∧ A.handled = none ∧ Fr h₀ L s₁.heap m ∧ News h₀ L s₁.heap news ∧ X.cps.size ≤ sizeLine ∧ ∀ g, CompRestT prog w A h₀ L m env ct elt x scope cl { s₁ with heap := g } (fun _ => True) (SignAt X) (Fin { s₁ with heap := g }) X.cps.size 0 [] news
theorem SrcS.intro {Fin : Shared → List Value → List (Addr × Obj) → Prop} {X : Str} {t : Tok} {news : List (Addr × Obj)} {s₁ : Shared} (hh : A.handled = none) (F : Fr h₀ L s₁.heap m) (N : News h₀ L s₁.heap news) (hsz : X.cps.size ≤ sizeLine)
    (h : ∀ g, CompRest prog w A h₀ L m env elt x scope cl { s₁ with heap := g } (fun _ => True) (SignAt X) (Fin { s₁ with heap := g }) X.cps.size 0 [] news) : SrcS prog w A h₀ L m env elt x scope cl Fin (.str X t) s₁ :=
  ⟨X, t, news, rfl, hh, F, N, hsz, h⟩
theorem SrcST.intro {Fin : Shared → List Value → List (Addr × Obj) → Prop} {X : Str} {t : Tok} {news : List (Addr × Obj)} {s₁ : Shared} (hh : A.handled = none) (F : Fr h₀ L s₁.heap m) (N : News h₀ L s₁.heap news) (hsz : X.cps.size ≤ sizeLine)
    (h : ∀ g, CompRestT prog w A h₀ L m env ct elt x scope cl { s₁ with heap := g } (fun _ => True) (SignAt X) (Fin { s₁ with heap := g }) X.cps.size 0 [] news) : SrcST prog w A h₀ L m env ct elt x scope cl Fin (.str X t) s₁ :=
  ⟨X, t, news, rfl, hh, F, N, hsz, h⟩
theorem ListComp_S {Q : Value → Shared → Prop} (F₀ : Fr h₀ L s.heap m) (hclos : closureFor scope env = pure cl) (hcell : ∀ y ∈ scope.names, y.2 ≠ .cell) (hkind : scope.kind = .function)
    (hnames : ∀ y ∈ scope.names, y.2 = .local → scope.names.lookup y.1 = some .local) (hx : scope.names.lookup x = some .local)
    (h : wpAny (model prog w) A (eval iter env) (SrcS prog w A h₀ L m env elt x scope cl (fun s₂ => FinE h₀ L m s₂ Q)) E s)
    (hs : ∀ x, foldedSetIterable iter env x = pure x := by intro _; rfl) :
    wpAny (model prog w) A (eval (.ListComp elt [⟨.Name x px, iter, [], 0⟩] scope pos) env) Q E s := by
  rw [eval_ListComp]
  refine wpAny_comprehension_free (use := none) rfl hs hclos hkind hnames (wpAny_mono h (fun xv s₁ h₁ => ?_) fun _ _ e => e)
  obtain ⟨X, t, news, rfl, hh, F, N, hsz, R⟩ := h₁
  exact pyIter_strI fun T o _ W st => go_U (W A hh _) st (fun i h st => let ⟨o, e, _⟩ := st; ⟨o, e⟩) F N hsz hcell hkind hx (R _) (endE (S := True))
theorem ListComp_ST {Q : Value → Shared → Prop} (F₀ : Fr h₀ L s.heap m) (hclos : closureFor scope env = pure cl) (hcell : ∀ y ∈ scope.names, y.2 ≠ .cell) (hkind : scope.kind = .function)
    (hnames : ∀ y ∈ scope.names, y.2 = .local → scope.names.lookup y.1 = some .local) (hx : scope.names.lookup x = some .local)
    (h : wpAny (model prog w) A (eval iter env) (SrcST prog w A h₀ L m env ct elt x scope cl (fun s₂ => FinE h₀ L m s₂ Q)) E s)
    (hs : ∀ x, foldedSetIterable iter env x = pure x := by intro _; rfl) :
    wpAny (model prog w) A (eval (.ListComp elt [⟨.Name x px, iter, [ct], 0⟩] scope pos) env) Q E s := by
  rw [eval_ListComp]
  refine wpAny_comprehension_free (use := none) rfl hs hclos hkind hnames (wpAny_mono h (fun xv s₁ h₁ => ?_) fun _ _ e => e)
  obtain ⟨X, t, news, rfl, hh, F, N, hsz, R⟩ := h₁
  exact pyIter_strI fun T o _ W st => go_T (W A hh _) st (fun i h st => let ⟨o, e, _⟩ := st; ⟨o, e⟩) F N hsz hcell hkind hx (R _) (endE (S := True))
/-- the source by a clean call, bytes; the list goes to a name -/
theorem wpC_Assign_ListComp_B {y : Str} {py : Pos} {spos : Pos} {Q : Flow → Shared → Prop} (F₀ : Fr h₀ L s.heap m) (hLe : env.locals = L)
    (hsw : swapsWith (.ListComp elt [⟨.Name x px, iter, [], 0⟩] scope pos) (some (.Name y py)) spos.line env = pure true)
    (hclos : closureFor scope env = pure cl) (hcell : ∀ z ∈ scope.names, z.2 ≠ .cell) (hkind : scope.kind = .function)
    (hnames : ∀ z ∈ scope.names, z.2 = .local → scope.names.lookup z.1 = some .local) (hx : scope.names.lookup x = some .local)
    (hy : env.kindOf y = some .local) (hp : (env.scope.kind == .class || (env.scope.kind == .module && env.locals != env.globals)) = false)
    (h : wpC (model prog w) A (eval iter env) (fun xv s₁ => ∃ b t news, xv = .bytes b t ∧ A.handled = none ∧ Fr h₀ L s₁.heap m ∧ News h₀ L s₁.heap news ∧ b.size ≤ sizeLine ∧
      ∀ g, CompRest prog w A h₀ L m env elt x scope cl { s₁ with heap := g } (fun _ => True) (fun i v => ∃ c u, b[i]? = some c ∧ v = .int (c.toNat : Int) u) (FinA h₀ L m { s₁ with heap := g } y Q) b.size 0 [] news) E s)
    (hs : ∀ x, foldedSetIterable iter env x = pure x := by intro _; rfl) :
    wpC (model prog w) A (exec (.Assign [.Name y py] (.ListComp elt [⟨.Name x px, iter, [], 0⟩] scope pos) spos) env) Q E s := by
  rw [exec_Assign_Name_used _ _ _ _ hsw]
  refine wpC_bindA (wpAny_standAt (wpC_bind ?_))
  show wpC _ A (do let _ ← comprehension (.ListComp elt [⟨.Name x px, iter, [], 0⟩] scope pos) scope env _ (newList []) false (eval iter env) (some (assign (.Name y py) env))) _ _ s
  refine wpC_bind ?_
  have e : ∀ (sp : Pos) (first : Sem Value) (u : Option (Value → Sem Unit)), comprehension (.ListComp elt [⟨.Name x px, iter, [], 0⟩] scope pos) scope env sp (newList []) false first u =
      first >>= fun xv => comprehension (.ListComp elt [⟨.Name x px, iter, [], 0⟩] scope pos) scope env sp (newList []) false (pure xv) u := fun _ _ _ => rfl
  rw [e]
  refine wpC_bind (wpC_mono h (fun xv s₁ h₁ => wpC_of ?_) fun _ _ x => x)
  obtain ⟨b, t, news, rfl, hh, F, N, hsz, R⟩ := h₁
  refine wpAny_mono (wpAny_comprehension_free (use := some (assign (.Name y py) env)) (Q := fun _ s' => Q .next s') rfl hs hclos hkind hnames (wpAny_pure ?_)) (fun _ s' hq => wpC_pure (wpC_pure hq)) fun _ _ e => e
  have src := ItSrc.bytes (prog := prog) (w := w) hh b t
  exact src.it (go_U (src.W _) (src.st0 _) (fun i h st => src.io _ i h st) F N hsz hcell hkind hx (R _) (endA hy hp hLe))
end
section
open LCg LCt
variable {prog : Program} {w : World} {A : Around} {s : Shared} {h₀ : Heap} {L : Addr} {m : Str → Option Value} {env : Env} {ct elt : PySem.Expr} {x : Str} {scope : Scope} {cl : List (Str × Addr)} {S : List (Addr × Obj) → Prop} {P : Nat → Value → Prop} {Fin : List Value → List (Addr × Obj) → Prop}
/-- the same with a test -/
theorem comp_indT {n : Nat} {news : List (Addr × Obj)} (J : Nat → List Value → List (Addr × Obj) → Prop)
    (turn : ∀ i v I oI C oC D ys news m₂ h tk (E' : Value → Shared → Prop), i < n → J i ys news → P i v → NsObj oC m₂ → m₂ x = some v → Fr h₀ L h m → News h₀ L h ((I, oI) :: (C, oC) :: (D, lst ys) :: news) → Off3 I C D news → ((@Ne Nat I C) ∧ (@Ne Nat I D) ∧ (@Ne Nat C D)) →
      wpAny (model prog w) A (isTrue ct (compEnvC scope cl C env) (eval ct (compEnvC scope cl C env))) (fun ok s' => if ok = true then
        wpAny (model prog w) A (eval elt (compEnvC scope cl C env)) (CompEnd h₀ L m { s with heap := h, toks := tk } I oI C oC D (lst ys) S (fun y news' => J (i + 1) (ys ++ [y]) news')) E' s'
        else CompEnd h₀ L m { s with heap := h, toks := tk } I oI C oC D (lst ys) S (fun _ news' => J (i + 1) ys news') Value.none s') E' { s with heap := h, toks := tk })
    (done : ∀ ys news, J n ys news → Fin ys news) (h0 : J 0 [] news) : CompRestT prog w A h₀ L m env ct elt x scope cl s S P Fin n 0 [] news := by
  have key : ∀ k i ys news, i + k = n → J i ys news → CompRestT prog w A h₀ L m env ct elt x scope cl s S P Fin k i ys news := by
    intro k
    induction k with
    | zero => intro i ys news hi hJ; rw [Nat.add_zero] at hi; subst hi; exact done ys news hJ
    | succ k ih =>
      intro i ys news hi hJ
      intro v I oI C oC D m₂ h tk E' hP hC hx F N off ne
      refine wpAny_mono (turn i v I oI C oC D ys news m₂ h tk E' (by omega) hJ hP hC hx F N off ne) (fun ok s' hc => ?_) fun _ _ e => e
      cases ok with
      | true =>
        simp only [if_true] at hc ⊢
        exact wpAny_mono hc (fun y s₂ hc => compEnd_mono hc fun nw hj => ih (i + 1) _ nw (by omega) hj) fun _ _ e => e
      | false =>
        simp only [Bool.false_eq_true, if_false] at hc ⊢
        exact compEnd_mono hc fun nw hj => ih (i + 1) _ nw (by omega) hj
  exact key n 0 [] news (by omega) h0
end
section
variable {prog : Program} {w : World} {A : Around} {E : Value → Shared → Prop} {s : Shared} {env : Env} {h₀ : Heap} {target : PySem.Expr} {body : List Stmt} {Q : Flow → Shared → Prop}
theorem letGo_striter {I : Addr} {T : String} {X : Str} {t : Tok} {i : Nat} {v : Value} {Q' : Unit → Shared → Prop} {s' : Shared} (hT : T = "str_iterator" ∨ T = "str_ascii_iterator") (hit : s'.heap.IsStrIter I T X t i) (h : Q' () s') :
    wpAny (model prog w) A (letOwnedTupleGo target (.ref I) v) Q' E s' := by
  obtain ⟨o, ho, hc, hd⟩ := hit
  unfold letOwnedTupleGo
  rcases hT with rfl | rfl <;> (cases target <;> first
    | exact wpAny_pure h
    | (cases v <;> first
        | exact wpAny_pure h
        | (refine wpAny_bind (wpAny_load ho ?_)
           rw [hc, hd]
           exact wpAny_pure h)))
noncomputable def signItems (X : Str) : List Itm := X.cps.toList.map fun c => .tok fun t => .str ⟨#[c]⟩ t
theorem str_iter {X : Str} {t : Tok} {m₀ : Str → Option Value} {news : List (Addr × Obj)}
    (hh : A.handled = none) (F : Fr h₀ env.locals s.heap m₀) (N : News h₀ env.locals s.heap news)
    (rest₀ : ∀ (I : Addr) (T : String), (T = "str_iterator" ∨ T = "str_ascii_iterator") → (∀ p ∈ news, p.1 < I) → ItemsRest prog w A E h₀ env target body Q s [(I, T)] [] (signItems X) m₀ news) :
    wpAny (model prog w) A (pyIter (.str X t)) (fun it s₂ => TurnsAt prog w A h₀ env target body Q E it s₂) E s := by
  refine pyIter_strI fun T o hT W st => ?_
  refine ktg_core (tk0 := s.toks) (keep := []) (KTurns.ofWalks (W A hh s.heap.objs.size) fun i v s Q E st q => letGo_striter hT st q) (by simp [signItems]) (fun i v h hp => ?_) (fun i h st => ?_) (fun b hb => ?_) (fun b hb => by simpa using hb) (fun b hb => ?_) ?_ (fun p hp hI => ?_) st (F.push _) (fun p hp => ⟨Heap.get?_push_of_some _ (N p hp).1, (N p hp).2⟩) trivial (rest₀ _ T hT fun p hp => Heap.lt_size (N p hp).1)
  · obtain ⟨c, u, hc, rfl⟩ := hp
    refine ⟨.tok fun t => .str ⟨#[c]⟩ t, ?_, u, rfl⟩
    have hc' : X.cps.toList[i]? = some c := by simpa using hc
    rw [signItems, List.getElem?_map, hc']; rfl
  · obtain ⟨it, hit, hic, _⟩ : ∃ o, h.get? s.heap.objs.size = some o ∧ o.cls = .type T ∧ _ := st
    exact ⟨[(s.heap.objs.size, it)], ⟨⟨rfl, hic⟩, trivial⟩, fun p hp => by rw [List.mem_singleton.mp hp]; exact hit⟩
  · have hb' : b = s.heap.objs.size := by simpa using hb
    rw [hb']
    exact ⟨List.mem_cons_self .., next_is_new F⟩
  · have hb' : b = s.heap.objs.size := by simpa using hb
    exact .inl (by simp [hb'])
  · intro hI
    exact absurd F.ns.lt ((List.mem_singleton.mp hI) ▸ Nat.lt_irrefl _)
  · exact absurd (Heap.lt_size (N p hp).1) ((List.mem_singleton.mp hI) ▸ Nat.lt_irrefl _)
end

theorem fnAt_K {K : Frag} {g h : Heap} {L q : Addr} {m : Str → Option Value} {oc : Value} {od : Option Addr} {fd : FuncData} {sl : Array (Option Value)} (X : K.In g) (F : Fr g L h m) (ho : K.lookup q = some ⟨oc, od, .func fd, sl⟩) : FnAt q h := ⟨_, _, _, _, F.keep _ _ (X _ _ ho)⟩

end Mine
end

section
set_option maxRecDepth 100000
open PySem PySem.W PyProof.Rows PySem.Calls PySem.Spec
namespace Mine
/-- pairs of a letter and a mark as tuples of a ledger -/
inductive PrIn (tl : List (Addr × Obj)) : List Value → List (Nat × Bool) → Prop where
  | nil : PrIn tl [] []
  | cons (T : Addr) (c : Nat) (t : Tok) (b : Bool) {vs : List Value} {ps : List (Nat × Bool)} : (T, tup2 (.str (mkS [c]) t) (.bool b) 0) ∈ tl → PrIn tl vs ps → PrIn tl (.ref T :: vs) ((c, b) :: ps)
theorem PrIn.mono {tl tl' : List (Addr × Obj)} {vs : List Value} {ps : List (Nat × Bool)} (h : PrIn tl vs ps) (k : ∀ p ∈ tl, p ∈ tl') : PrIn tl' vs ps := by
  induction h with
  | nil => exact .nil
  | cons T c t b hm _ ih => exact .cons T c t b (k _ hm) ih
theorem PrIn.append {tl : List (Addr × Obj)} {vs ws : List Value} {ps qs : List (Nat × Bool)} (h : PrIn tl vs ps) (k : PrIn tl ws qs) : PrIn tl (vs ++ ws) (ps ++ qs) := by
  induction h with
  | nil => exact k
  | cons T c t b hm _ ih => exact .cons T c t b hm ih
theorem PrIn.length {tl : List (Addr × Obj)} {vs : List Value} {ps : List (Nat × Bool)} (h : PrIn tl vs ps) : vs.length = ps.length := by
  induction h with
  | nil => rfl
  | cons T c t b hm _ ih => simp [ih]
theorem PrIn.times {tl : List (Addr × Obj)} {vs : List Value} {ps : List (Nat × Bool)} (h : PrIn tl vs ps) : ∀ k : Nat, PrIn tl (List.replicate k vs).flatten (List.replicate k ps).flatten
  | 0 => .nil
  | k + 1 => by rw [List.replicate_succ, List.replicate_succ, List.flatten_cons, List.flatten_cons]; exact h.append (h.times k)
theorem PrIn.get {tl : List (Addr × Obj)} {vs : List Value} {ps : List (Nat × Bool)} (h : PrIn tl vs ps) : ∀ {i : Nat} {v : Value}, vs[i]? = some v → ∃ T c t b, ps[i]? = some (c, b) ∧ v = .ref T ∧ (T, tup2 (.str (mkS [c]) t) (.bool b) 0) ∈ tl := by
  induction h with
  | nil => intro i v h; simp at h
  | cons T c t b hm _ ih =>
    intro i v h
    cases i with
    | zero => simp at h; exact ⟨T, c, t, b, by simp, h.symm, hm⟩
    | succ i => simp at h; obtain ⟨T', c', t', b', e, r⟩ := ih h; exact ⟨T', c', t', b', by simpa using e, r⟩
theorem PrIn.pairs {g h : Heap} {L : Addr} {tl : List (Addr × Obj)} {vs : List Value} {ps : List (Nat × Bool)} (x : PrIn tl vs ps) (N : News g L h tl) : PairsAre h vs ps := by
  refine ⟨x.length, fun i v hv => ?_⟩
  obtain ⟨T, c, t, b, e, rfl, hm⟩ := x.get hv
  exact ⟨T, c, t, b, e, rfl, _, (N _ hm).1, rfl, _, rfl⟩
theorem news_rot7 {g h : Heap} {L : Addr} {x y a b c d e : Addr × Obj} (N : News g L h [x, y, a, b, c, d, e]) : News g L h (x :: y :: e :: [a, b, c, d]) := fun p hp => N p (by
  simp only [List.mem_cons, List.not_mem_nil, or_false] at hp ⊢
  rcases hp with rfl | rfl | rfl | rfl | rfl | rfl | rfl <;> simp)
/-- what a sign of the text is taken to be -/
noncomputable def backP : List (Nat × Bool) := [(59, false), (112, false), (109, false), (97, false)]
noncomputable def signP (sp : List Nat) (nm : Nat → List Nat) (k : Nat) (c : Nat) : List (Nat × Bool) :=
  if c ∈ sp then (38, true) :: ((List.replicate k backP).flatten ++ ((nm c).drop 1).map fun x => (x, true)) else [(c, true)]
noncomputable def undP (sp : List Nat) (nm : Nat → List Nat) (k : Nat) (l : List Nat) : List (Nat × Bool) := l.flatMap (signP sp nm k)

theorem back_abs {g h : Heap} {L : Addr} {x e : Addr × Obj} {B T1 T2 T3 T4 : Addr} {t1 t2 t3 t4 : Tok}
    (N : News g L h (x :: (B, LCg.lst [.ref T1, .ref T2, .ref T3, .ref T4]) :: e :: [(T4, tup2 (.str (Str.ofString "a") t4) (.bool false) 0), (T3, tup2 (.str (Str.ofString "m") t3) (.bool false) 0), (T2, tup2 (.str (Str.ofString "p") t2) (.bool false) 0), (T1, tup2 (.str (Str.ofString ";") t1) (.bool false) 0)]))
    (hne : ∀ q : Addr × Obj, q.1 = T4 ∨ q.1 = T3 ∨ q.1 = T2 ∨ q.1 = T1 → @Ne Nat q.1 x.1 ∧ @Ne Nat q.1 B ∧ @Ne Nat q.1 e.1) :
    ∃ (tl : List (Addr × Obj)) (bks : List Value), [Value.ref T1, .ref T2, .ref T3, .ref T4] = bks ∧ News g L h (x :: (B, LCg.lst bks) :: e :: tl) ∧ PrIn tl bks backP ∧ ∀ p ∈ tl, (@Ne Nat p.1 x.1 ∧ @Ne Nat p.1 B ∧ @Ne Nat p.1 e.1) ∧ p.2.cls = .type "tuple" :=
  ⟨_, _, rfl, N, .cons _ _ _ _ (.tail _ (.tail _ (.tail _ (.head _)))) (.cons _ _ _ _ (.tail _ (.tail _ (.head _))) (.cons _ _ _ _ (.tail _ (.head _)) (.cons _ _ _ _ (.head _) .nil))), fun p hp => ⟨hne p (by
    simp only [List.mem_cons, List.not_mem_nil, or_false] at hp
    rcases hp with rfl | rfl | rfl | rfl <;> simp), by
    simp only [List.mem_cons, List.not_mem_nil, or_false] at hp
    rcases hp with rfl | rfl | rfl | rfl <;> rfl⟩⟩

section
variable {prog : Program} {w : World} {A : Around} {E : Value → Shared → Prop} {s : Shared} {h₀ : Heap} {L D b : Addr} {m : Str → Option Value} {news news' : List (Addr × Obj)} {vs ws : List Value} {n n2 : Nat} {x : Value} {Q : Value → Shared → Prop}
theorem app_L (F : Fr h₀ L s.heap m) (N : News h₀ L s.heap news) (U : Upd D (listOf vs.toArray n) (listOf (vs ++ [x]).toArray (n + 1)) news news') (hz : vs.length ≤ 1000)
    (h : ∀ h', Fr h₀ L h' m → News h₀ L h' news' → Q .none { s with heap := h' }) : wpAny (model prog w) A (call (.builtin "list.append") [.ref D, x]) Q E s := by
  have e : vs.toArray.push x = (vs ++ [x]).toArray := by simp
  exact append_K (hsz := by rw [List.size_toArray]; exact Nat.le_trans hz (by decide)) F N (by rw [e]; exact U) h
theorem ext_L (F : Fr h₀ L s.heap m) (N : News h₀ L s.heap news) (hb : (b, listOf ws.toArray n2) ∈ news) (hne : ws.length ≠ 0) (U : Upd D (listOf vs.toArray n) (listOf (vs ++ ws).toArray (n + 1)) news news') (hz : vs.length + ws.length ≤ 1000)
    (h : ∀ h', Fr h₀ L h' m → News h₀ L h' news' → Q .none { s with heap := h' }) : wpAny (model prog w) A (call (.builtin "list.extend") [.ref D, .ref b]) Q E s := by
  have e0 : (1000 : Nat) ≤ sizeLine := by decide
  refine kl_extend F N hb (l := vs ++ ws) (by simp) (by simpa using hne) U ?_ (by simp; omega) (by simp; omega) h
  have : Builtin.List.listTooLong (vs.toArray.size + ws.toArray.size) = false := by
    unfold Builtin.List.listTooLong
    simp only [List.size_toArray, decide_eq_false_iff_not]
    omega
  rw [this]; simp
end

section
variable {prog : Program} {w : World} {A : Around} {E : Value → Shared → Prop} {s : Shared} {h₀ : Heap} {L d : Addr} {m : Str → Option Value} {o : Obj} {kvs : List (Str × Value)} {k : Str} {t : Tok} {v : Value}
/-- an item of a table by texts that stands in the ground -/
theorem strd_item {value slice : PySem.Expr} {Q : Value → Shared → Prop} (F : Fr h₀ L s.heap m) (hg₀ : h₀.get? d = some o) (hd : o.IsDictOf (PySem.strKind prog w) kvs) (hl : valueAt kvs k = some v) (h : Q v { s with toks := s.toks + 1 })
    (hs : subscripted slice false (.ref d) (.str k t) = operate [.ref d, .str k t] (getItem (.ref d) (.str k t)) := by with_unfolding_all rfl) (hg : ∀ r, letTemporaryGo value (.ref d) r = pure () := by intro _; with_unfolding_all rfl) :
    wpAny (model prog w) A (subscriptTail value slice (.ref d) (.str k t)) Q E s :=
  have hD : s.heap.DictOf (PySem.strKind prog w) d kvs := Heap.dictOf_iff.mpr ⟨o, F.keep _ _ hg₀, hd⟩
  subscriptTail_builtin hD.typeIs slot_dict_getitem.lookup (wpAny_getItem_of (strKind_is _ _ _ _) hD.mapOf hl h) hs hg
end

theorem off3_app {I C D : Addr} : ∀ {a b : List (Addr × Obj)}, LCg.Off3 I C D (a ++ b) → ∀ p ∈ a ++ b, @Ne Nat p.1 I ∧ @Ne Nat p.1 C ∧ @Ne Nat p.1 D := fun h p hp => h.mem p hp
theorem off3_of {I C D : Addr} {l : List (Addr × Obj)} (h : ∀ p ∈ l, @Ne Nat p.1 I ∧ @Ne Nat p.1 C ∧ @Ne Nat p.1 D) : LCg.Off3 I C D l := LCg.Off3.of h

theorem mem_shuf {α : Type} {t i c d : α} {pre jk : List α} : ∀ p ∈ i :: c :: d :: (pre ++ t :: jk), p ∈ t :: i :: c :: d :: (pre ++ jk) := fun p hp => by
  simp only [List.mem_cons, List.mem_append] at hp ⊢
  rcases hp with h | h | h | h | h | h <;> simp [h]
theorem PrIn.one {jk : List (Addr × Obj)} (T : Addr) (c : Nat) (t : Tok) (b : Bool) : PrIn ((T, tup2 (.str (mkS [c]) t) (.bool b) 0) :: jk) [.ref T] [(c, b)] := .cons T c t b (.head _) .nil

theorem subL_of {all : List (Addr × Obj)} : ∀ {l : List (Addr × Obj)}, (∀ p ∈ l, p ∈ all) → SubL l all
  | [], _ => trivial
  | p :: r, h => ⟨h p (.head _), subL_of fun q hq => h q (.tail _ hq)⟩
theorem undP_length (sp : List Nat) (nm : Nat → List Nat) (k : Nat) (hk : k ≤ 3) (hnm : ∀ c, (nm c).length ≤ 6) : ∀ l : List Nat, (undP sp nm k l).length ≤ 20 * l.length
  | [] => Nat.le_refl _
  | a :: l => by
    have ih := undP_length sp nm k hk hnm l
    have e : undP sp nm k (a :: l) = signP sp nm k a ++ undP sp nm k l := rfl
    have h1 : (signP sp nm k a).length ≤ 20 := by
      unfold signP
      split
      · have h2 : ((List.replicate k backP).flatten).length = k * 4 := by rw [List.length_flatten, List.map_replicate, List.sum_replicate_nat]; rfl
        have h3 := hnm a
        simp only [List.length_cons, List.length_append, List.length_map, List.length_drop, h2]
        omega
      · simp
    rw [e, List.length_append, List.length_cons]
    omega
theorem undP_next (sp : List Nat) (nm : Nat → List Nat) (k : Nat) (l : List Nat) (i a : Nat) (h : l[i]? = some a) : undP sp nm k (l.take (i + 1)) = undP sp nm k (l.take i) ++ signP sp nm k a := by
  have e : l.take (i + 1) = l.take i ++ [a] := by rw [List.take_add_one, h]; rfl
  unfold undP
  rw [e, List.flatMap_append]
  simp

theorem offW_of {I : Addr} {oI : Obj} : ∀ {l : List (Addr × Obj)}, (∀ p ∈ l, p.1 ≠ I ∨ p.2.cls ≠ oI.cls) → OffW [(I, oI)] l
  | [], _ => trivial
  | p :: r, h => ⟨⟨h p (.head _), trivial⟩, offW_of fun q hq => h q (.tail _ hq)⟩

theorem end7 {h₀ h' : Heap} {L : Addr} {m' : Str → Option Value} {s₁ : Shared} {tk : Nat} {rest : (Str → Option Value) → List (Addr × Obj) → Prop} {a b t it l k c : Addr × Obj} {jk : List (Addr × Obj)} (F : Fr h₀ L h' m') (N : News h₀ L h' (a :: b :: t :: it :: l :: k :: c :: jk))
    (off : ∀ p ∈ l :: k :: c :: t :: jk, p.1 ≠ it.1 ∨ p.2.cls ≠ it.2.cls) (r : rest m' (l :: k :: c :: t :: jk)) : UnrEndW h₀ L s₁ [it] rest { s₁ with heap := h', toks := tk } := by
  refine UnrEndW.intro F N (l :: k :: c :: t :: jk) ⟨.tail _ (.tail _ (.tail _ (.head _))), trivial⟩ (subL_of fun p hp => ?_) (offW_of off) r
  simp only [List.mem_cons] at hp ⊢
  rcases hp with h | h | h | h | h <;> simp [h]
theorem end5 {h₀ h' : Heap} {L : Addr} {m' : Str → Option Value} {s₁ : Shared} {tk : Nat} {rest : (Str → Option Value) → List (Addr × Obj) → Prop} {t it l k c : Addr × Obj} {jk : List (Addr × Obj)} (F : Fr h₀ L h' m') (N : News h₀ L h' (t :: it :: l :: k :: c :: jk))
    (off : ∀ p ∈ l :: k :: c :: t :: jk, p.1 ≠ it.1 ∨ p.2.cls ≠ it.2.cls) (r : rest m' (l :: k :: c :: t :: jk)) : UnrEndW h₀ L s₁ [it] rest { s₁ with heap := h', toks := tk } := by
  refine UnrEndW.intro F N (l :: k :: c :: t :: jk) ⟨.tail _ (.head _), trivial⟩ (subL_of fun p hp => ?_) (offW_of off) r
  simp only [List.mem_cons] at hp ⊢
  rcases hp with h | h | h | h | h <;> simp [h]

end Mine
end

section
set_option maxRecDepth 100000
open PySem PySem.W PyProof.Rows PySem.Calls PySem.Spec
namespace Mine
local macro_rules | `(tactic| k_all) => `(tactic| assumption)
local macro_rules | `(tactic| k_mem) => `(tactic| assumption)
section
variable {prog : Program} {w : World} {K : Frag} {f : Addr} {vs : List Value} {pre : Heap → Prop} {dn un : Nat} {Out : Heap → Value → Heap → Prop}
  {p : Program} {loose : List Str} {mean : ExcName → Option Value} {mg mb : Str → Option Value}
  {dp u : Nat} {fr : Option (List Env)} {s : Shared} {Q E : Value → Shared → Prop} {g : Heap} {L : Addr} {m : Str → Option Value} {news : List (Addr × Obj)}
theorem use_purC (C : PurC prog w K f vs pre dn un Out) (F : Fr g L s.heap m) (N : News g L s.heap news) (X : K.In g) (T : Top p loose mean mg mb g)
    (hd : dp + dn < recursionLimit) (hu : u + un < cLine) (hp : pre s.heap)
    (ret : ∀ r h' tk', Fr g L h' m → News g L h' news → Sub s.heap h' → Out s.heap r h' → Q r { s with heap := h', toks := tk' }) :
    wpC (model prog w) (AR dp u fr (some [])) (call (.ref f) vs) Q E s :=
  C p loose mean mg mb dp u fr s Q E (X.keeps F.keep) (T.keeps F.keep) hd hu hp
    fun r h' tk' hs ho => ret r h' tk' (Fr.keeps F hs) (News.grown N hs) hs ho
end
/-- the table of names: each spelled sign's reference -/
noncomputable def NamesAt (prog : Program) (w : World) (h : Heap) (d : Addr) (sp : List Nat) (nm : Nat → List Nat) : Prop :=
  ∃ o kvs, h.get? d = some o ∧ o.IsDictOf (PySem.strKind prog w) kvs ∧ (d == sysModules) = false ∧ ∀ c ∈ sp, ∃ t, valueAt kvs (mkS [c]) = some (Value.str (mkS (nm c)) t)
set_option maxHeartbeats 8000000 in
theorem con_und (w : World) (tl sp r : List Nat) (nm : Nat → List Nat) (nd : Addr) (k : Int) (tx ts tkk ty : Tok) (htl : tl.length ≤ 3) (hsp : sp.length ≤ 6) (hr : r.length ≤ 3) (hk1 : 1 ≤ k) (hk2 : k ≤ 3) (hnm : ∀ c, 2 ≤ (nm c).length ∧ (nm c).length ≤ 6) :
    PurC PySem.Challenge.rw_zo0028_01.row.prog w (Pre.hc.heap_1 w.params) 120 [.str (mkS tl) tx, .str (mkS sp) ts, .ref nd, .int k tkk, .str (mkS r) ty] (fun h => NamesAt PySem.Challenge.rw_zo0028_01.row.prog w h nd sp nm) 60 600 (OutI (cnt r ((undP sp nm k.toNat tl).filter fun p => decide (p.1 ∈ r)))) := by
  w_top off
  k_fill
  unfold PurC
  intro p loose mean mg mb dp u fr s Q E X T hd hu hp ret
  refine cutG fun PC hPC => ?_
  obtain ⟨on, kvs, hgn, hdn, hln, hall⟩ := hp
  refine hPC ?_
  clear hPC PC
  refine wpC_call ?_
  k_dflt ((refine' enterCC ?k3 ?k5 ?k6 ?k7 ?k8 ?k9 ?kB ?kD ?_ ?c2 ?c3 ?c4; (case k3 => k_asm); (case k5 => k_asm); (case k6 => k_is); (case k7 => k_is); (case k8 => k_room); (case k9 => exact BindsTo.of_eq rfl); (case kB => exact rfl); (case kD => decide +kernel); (case c2 => exact rfl); (case c3 => exact rfl); (case c4 => exact rfl); k_whole; intro g' L' h' tk' cells' hg' F' N' Y' X' T'; subst hg'; k_cells Y'; (try dsimp only); (try k_fold)))
  (rename Fr _ _ _ _ => fF)
  (rename News _ _ _ _ => nN)
  with_unfolding_all refine wpC_execs_cons ?_
  k_dflt (refine' wpC_Assign_ListComp_B fF ?q1 ?q2 ?q3 ?q4 ?q5 ?q6 ?q7 ?q8 ?q9 ?_; (case q1 => rfl); (case q2 => with_unfolding_all rfl); (case q3 => with_unfolding_all rfl); (case q4 => decide); (case q5 => rfl); (case q6 => decide); (case q7 => rfl); (case q8 => rfl); (case q9 => rfl))
  with_unfolding_all refine wpC_Call ?_
  k_steps
  (rename Fr _ _ _ _ => fF)
  (rename News _ _ _ _ => nN)
  with_unfolding_all refine wpC_callWith2 (P := FnAt 98) keeps_F (wpC_of ?_) (by rfl)
  k_steps
  refine wpC_of ?_
  k_steps
  next => (refine' fnAt_K X' fF ?kk; case kk => k_is)
  refine' use_purC (con_bsw w [97, 109, 112, 59] _ _ 4 1 (by decide) (by decide) (by decide) (by decide)) fF nN X' T' ?p1 ?p2 ?p3 ?_
  case p1 => k_room
  case p2 => k_room
  case p3 => trivial
  intro r₁ h₁ tk₁ F₁ N₁ _ ⟨t₁, e₁⟩
  subst e₁
  clear fF nN
  have eb : (bsw 4 [97, 109, 112, 59]).toArray = #[59, 112, 109, 97] := by decide
  rw [eb]
  refine ⟨_, _, _, rfl, rfl, F₁, N₁, by decide, ?_⟩
  intro g₂
  show LCg.CompRest _ _ _ _ _ _ _ _ _ _ _ _ _ _ _ 4 0 [] _
  clear F₁ N₁
  refine LCg.CompRest.succ fun v I oI C oC D m₂ h₂ tk₂ E' hv hoC hx F₂ N₂ off ne => ?_
  refine cutG fun PC hPC => ?_
  obtain ⟨c, u, hc, rfl⟩ := hv
  refine hPC ?_
  clear hPC PC
  simp only [LCg.Off3, and_true] at off
  cases (Option.some.inj hc : 59 = c)
  k_steps
  (try (show LCg.CompEnd _ _ _ _ _ _ _ _ _ _ _ _ _ _; lcg_end))
  refine LCg.CompRest.succ fun v I oI C oC D m₂ h₂ tk₂ E' hv hoC hx F₂ N₂ off ne => ?_
  refine cutG fun PC hPC => ?_
  obtain ⟨c, u, hc, rfl⟩ := hv
  refine hPC ?_
  clear hPC PC
  simp only [LCg.Off3, and_true] at off
  cases (Option.some.inj hc : 112 = c)
  k_steps
  (try (show LCg.CompEnd _ _ _ _ _ _ _ _ _ _ _ _ _ _; lcg_end))
  refine LCg.CompRest.succ fun v I oI C oC D m₂ h₂ tk₂ E' hv hoC hx F₂ N₂ off ne => ?_
  refine cutG fun PC hPC => ?_
  obtain ⟨c, u, hc, rfl⟩ := hv
  refine hPC ?_
  clear hPC PC
  simp only [LCg.Off3, and_true] at off
  cases (Option.some.inj hc : 109 = c)
  k_steps
  (try (show LCg.CompEnd _ _ _ _ _ _ _ _ _ _ _ _ _ _; lcg_end))
  refine LCg.CompRest.succ fun v I oI C oC D m₂ h₂ tk₂ E' hv hoC hx F₂ N₂ off ne => ?_
  refine cutG fun PC hPC => ?_
  obtain ⟨c, u, hc, rfl⟩ := hv
  refine hPC ?_
  clear hPC PC
  simp only [LCg.Off3, and_true] at off
  cases (Option.some.inj hc : 97 = c)
  k_steps
  (try (show LCg.CompEnd _ _ _ _ _ _ _ _ _ _ _ _ _ _; lcg_end))
  refine wpC_of ?_
  (repeat' (first | (k_unfold; (try dsimp only)) | (k_end; wrow_close) | (k_here; (with_reducible show wpAny _ _ (pyIter (Value.str _ _)) (fun it s₂ => TurnsAt _ _ _ _ _ _ _ _ _ it s₂) _ _); refine Stop.elim ?_) | ((with_reducible show wpAny _ _ (exec (Stmt.For (PySem.Expr.Name _ _) (PySem.Expr.Name _ _) _ _ _) _) _ _ _); k_here; (rename Fr _ _ _ _ => lF'); (with_unfolding_all refine' For_turns lF' ?_); k_whole) | walk1 | (dsimp only; (first | (k_here; (with_reducible show wpAny _ _ (pyIter (Value.str _ _)) (fun it s₂ => TurnsAt _ _ _ _ _ _ _ _ _ it s₂) _ _); refine Stop.elim ?_) | ((with_reducible show wpAny _ _ (exec (Stmt.For (PySem.Expr.Name _ _) (PySem.Expr.Name _ _) _ _ _) _) _ _ _); k_here; (rename Fr _ _ _ _ => lF'); (with_unfolding_all refine' For_turns lF' ?_); k_whole) | walk1)) | (leave1; walk_say "STEP leave1"; try dsimp only) | fail "no step"))
  (rename Fr _ _ _ _ => fF)
  (rename News _ _ _ _ => nN)
  (rename_i cE4 T4 hA lA bk hB tB oB lt hC lC hD)
  replace nN := news_rot7 nN
  obtain ⟨tl₀, bks, hbks, nN₂, hPb, hne₀⟩ := back_abs nN (by
    intro q hq
    dsimp only
    rcases hq with e | e | e | e <;> (rw [e]; refine ⟨?_, ?_, ?_⟩ <;> (refine neN ?_; omega)))
  clear nN
  refine Stop.intro ?_
  with_unfolding_all refine str_iter rfl fF nN₂ ?_
  intro I TI hTI hI
  have hI1 : @LT.lt Nat _ lt I := hI _ (.head _)
  have hI2 : @LT.lt Nat _ bk I := hI _ (.tail _ (.head _))
  have hI3 : @LT.lt Nat _ (L' + 1) I := hI _ (.tail _ (.tail _ (.head _)))
  clear fF nN₂ hbks
  refine rest_ind (fun i m' nw => ∃ vs c jk oc, Kept m' nw [(Str.ofString "letters", Value.ref lt), (Str.ofString "back", Value.ref bk), (Str.ofString "spelled", Value.str (mkS sp) ts), (Str.ofString "names", Value.ref nd), (Str.ofString "times", Value.int k tkk)] (fun nw => nw = (lt, listOf vs.toArray c) :: (bk, LCg.lst bks) :: (L' + 1, oc) :: jk) ∧ oc.data = .cell (some (.str (mkS r) ty)) ∧ PrIn jk vs (undP sp nm k.toNat (tl.take i)) ∧ PrIn jk bks backP ∧ ∀ p ∈ jk, (@Ne Nat p.1 lt ∧ @Ne Nat p.1 bk ∧ @Ne Nat p.1 (L' + 1)) ∧ p.2.cls = .type "tuple") ?_ ?_ ?h0 trivial
  case h0 => exact ⟨[], 0, tl₀, _, ⟨⟨rfl, rfl, rfl, rfl, rfl, trivial⟩, rfl⟩, by assumption, .nil, hPb, hne₀⟩
  · intro i x m' news' v h₅ tk₅ hc hJ _ hv hF
    refine cutG fun PC hPC => ?_
    obtain ⟨vs, c, jk, oc, ⟨hkn, rfl⟩, hoc, hPv, hPb', hne⟩ := hJ
    refine hPC ?_
    clear hPC PC
    replace hF := knows_fr hF hkn; dsimp only [knowF] at hF
    obtain ⟨a, hai, rfl⟩ : ∃ a, tl[i]? = some a ∧ x = .tok fun t => .str ⟨#[a]⟩ t := by
      have hc' : (tl.map fun a => (Itm.tok fun t => .str ⟨#[a]⟩ t))[i]? = some x := hc
      rw [List.getElem?_map] at hc'
      cases e : tl[i]? with
      | none => rw [e] at hc'; exact nomatch hc'
      | some a => rw [e] at hc'; exact ⟨a, rfl, (Option.some.inj hc').symm⟩
    obtain ⟨ta, hv'⟩ := hv
    have hv'' : v = .str (mkS [a]) ta := hv'
    subst hv''
    refine AllObj.cons (fun oI hcI => ?_)
    dsimp only at hcI
    refine AllObj.nil (fun nN => ?_)
    simp only [List.cons_append, List.nil_append] at nN
    have hvl : vs.length ≤ 60 := by
      have h1 := undP_length sp nm k.toNat (by omega) (fun c => (hnm c).2) (tl.take i)
      have h2 : (tl.take i).length ≤ 3 := by rw [List.length_take]; omega
      rw [hPv.length]; omega
    have hbl : bks.length = 4 := hPb'.length
    have hz4 : bks.length * k.toNat ≤ 256 := by rw [hbl]; omega
    have hfl : ((List.replicate k.toNat bks).flatten).length = 4 * k.toNat := by rw [List.length_flatten, List.map_replicate, List.sum_replicate_nat, hbl, Nat.mul_comm]
    have ne1 : ∀ p ∈ jk, p.1 ≠ lt := fun p hp => (hne p hp).1.1
    have ne2 : ∀ p ∈ jk, p.1 ≠ bk := fun p hp => (hne p hp).1.2.1
    have ne3 : ∀ p ∈ jk, p.1 ≠ L' + 1 := fun p hp => (hne p hp).1.2.2
    have hocc := found_mk a sp
    by_cases ha : a ∈ sp
    · rw [decide_eq_true ha] at hocc
      replace hocc : (Builtin.Str.occurrences (mkS sp) (mkS [a]) 0 (mkS sp).length 1).isEmpty = false := hocc
      obtain ⟨tn, hlk⟩ := hall a ha
      have hnl1 : (mkS (nm a)).length ≤ 6 := (hnm a).2
      have hnl2 : 1 ≤ (mkS (nm a)).length := Nat.le_trans (by decide) (hnm a).1
      (repeat' (first | (k_unfold; (try dsimp only)) | (k_end; wrow_close) | ((with_reducible show wpAny _ _ (exec _ _) _ _ _); k_fold; (first | (k_here; (with_reducible show wpAny _ _ (subscriptTail _ _ (Value.ref _) (Value.str _ _)) _ _ _); k_dflt (refine' strd_item (by k_asm) (by assumption) (by assumption) (by assumption) ?_ (by with_unfolding_all rfl) (by (intro _; with_unfolding_all rfl)))) | ((with_reducible show wpAny _ _ (eval (PySem.Expr.ListComp _ _ _ _) _) _ _ _); k_here; first | ((with_reducible show wpAny _ _ (eval (Expr.ListComp _ [⟨_, _, [], _⟩] _ _) _) _ _ _); k_dflt (refine ListComp_S (F₀ := by k_asm) (by with_unfolding_all rfl) (by decide) (by rfl) (by decide) (by rfl) ?_)) | ((with_reducible show wpAny _ _ (eval (Expr.ListComp _ [⟨_, _, [_], _⟩] _ _) _) _ _ _); k_dflt (refine LCt.ListComp_T (F₀ := by k_asm) (by with_unfolding_all rfl) (by decide) (by rfl) (by decide) (by rfl) ?_))) | (k_here; (with_reducible show wpAny _ _ (binaryOp Operator.Mult (Value.ref _) (Value.int _ _)) _ _ _); k_dflt (refine' KMa.mul (by k_asm) (by k_asm) (by exact PySem.IsL.isList (News.get (by k_asm) (by k_mem))) (by omega) (by omega) (by assumption) (by exact rfl) ?_; k_whole); intro _ _ _ _ l1; (try k_lt l1)) | (k_here; (with_reducible show wpAny _ _ (call (Value.builtin _) [Value.ref _, Value.ref _]) _ _ _); k_dflt (refine' ext_L (by k_asm) (by k_asm) (by k_mem) (by ((try simp only [List.length_append, List.length_cons, List.length_nil, List.length_singleton]); omega)) (by k_upd) (by ((try simp only [List.length_append, List.length_cons, List.length_nil, List.length_singleton]); omega)) ?_; k_whole); intro _ _ _) | (k_here; (with_reducible show wpAny _ _ (call (Value.builtin _) [Value.ref _, _]) _ _ _); k_dflt (refine' app_L (by k_asm) (by k_asm) (by k_upd) (by ((try simp only [List.length_append, List.length_cons, List.length_nil, List.length_singleton]); omega)) ?_; k_whole); intro _ _ _) | ((with_reducible show SrcS _ _ _ _ _ _ _ _ _ _ _ _ _ _); refine Stop.elim ?_) | (k_here; (with_reducible show wpAny _ _ (pyIter (Value.str _ _)) (fun it s₂ => TurnsAt _ _ _ _ _ _ _ _ _ it s₂) _ _); refine Stop.elim ?_) | ((with_reducible show wpAny _ _ (exec (Stmt.For (PySem.Expr.Name _ _) (PySem.Expr.Name _ _) _ _ _) _) _ _ _); k_here; (rename Fr _ _ _ _ => lF'); (with_unfolding_all refine' For_turns lF' ?_); k_whole) | walk1)) | (k_here; (with_reducible show wpAny _ _ (subscriptTail _ _ (Value.ref _) (Value.str _ _)) _ _ _); k_dflt (refine' strd_item (by k_asm) (by assumption) (by assumption) (by assumption) ?_ (by with_unfolding_all rfl) (by (intro _; with_unfolding_all rfl)))) | ((with_reducible show wpAny _ _ (eval (PySem.Expr.ListComp _ _ _ _) _) _ _ _); k_here; first | ((with_reducible show wpAny _ _ (eval (Expr.ListComp _ [⟨_, _, [], _⟩] _ _) _) _ _ _); k_dflt (refine ListComp_S (F₀ := by k_asm) (by with_unfolding_all rfl) (by decide) (by rfl) (by decide) (by rfl) ?_)) | ((with_reducible show wpAny _ _ (eval (Expr.ListComp _ [⟨_, _, [_], _⟩] _ _) _) _ _ _); k_dflt (refine LCt.ListComp_T (F₀ := by k_asm) (by with_unfolding_all rfl) (by decide) (by rfl) (by decide) (by rfl) ?_))) | (k_here; (with_reducible show wpAny _ _ (binaryOp Operator.Mult (Value.ref _) (Value.int _ _)) _ _ _); k_dflt (refine' KMa.mul (by k_asm) (by k_asm) (by exact PySem.IsL.isList (News.get (by k_asm) (by k_mem))) (by omega) (by omega) (by assumption) (by exact rfl) ?_; k_whole); intro _ _ _ _ l1; (try k_lt l1)) | (k_here; (with_reducible show wpAny _ _ (call (Value.builtin _) [Value.ref _, Value.ref _]) _ _ _); k_dflt (refine' ext_L (by k_asm) (by k_asm) (by k_mem) (by ((try simp only [List.length_append, List.length_cons, List.length_nil, List.length_singleton]); omega)) (by k_upd) (by ((try simp only [List.length_append, List.length_cons, List.length_nil, List.length_singleton]); omega)) ?_; k_whole); intro _ _ _) | (k_here; (with_reducible show wpAny _ _ (call (Value.builtin _) [Value.ref _, _]) _ _ _); k_dflt (refine' app_L (by k_asm) (by k_asm) (by k_upd) (by ((try simp only [List.length_append, List.length_cons, List.length_nil, List.length_singleton]); omega)) ?_; k_whole); intro _ _ _) | ((with_reducible show SrcS _ _ _ _ _ _ _ _ _ _ _ _ _ _); refine Stop.elim ?_) | (k_here; (with_reducible show wpAny _ _ (pyIter (Value.str _ _)) (fun it s₂ => TurnsAt _ _ _ _ _ _ _ _ _ it s₂) _ _); refine Stop.elim ?_) | ((with_reducible show wpAny _ _ (exec (Stmt.For (PySem.Expr.Name _ _) (PySem.Expr.Name _ _) _ _ _) _) _ _ _); k_here; (rename Fr _ _ _ _ => lF'); (with_unfolding_all refine' For_turns lF' ?_); k_whole) | walk1 | (dsimp only; (first | (k_here; (with_reducible show wpAny _ _ (subscriptTail _ _ (Value.ref _) (Value.str _ _)) _ _ _); k_dflt (refine' strd_item (by k_asm) (by assumption) (by assumption) (by assumption) ?_ (by with_unfolding_all rfl) (by (intro _; with_unfolding_all rfl)))) | ((with_reducible show wpAny _ _ (eval (PySem.Expr.ListComp _ _ _ _) _) _ _ _); k_here; first | ((with_reducible show wpAny _ _ (eval (Expr.ListComp _ [⟨_, _, [], _⟩] _ _) _) _ _ _); k_dflt (refine ListComp_S (F₀ := by k_asm) (by with_unfolding_all rfl) (by decide) (by rfl) (by decide) (by rfl) ?_)) | ((with_reducible show wpAny _ _ (eval (Expr.ListComp _ [⟨_, _, [_], _⟩] _ _) _) _ _ _); k_dflt (refine LCt.ListComp_T (F₀ := by k_asm) (by with_unfolding_all rfl) (by decide) (by rfl) (by decide) (by rfl) ?_))) | (k_here; (with_reducible show wpAny _ _ (binaryOp Operator.Mult (Value.ref _) (Value.int _ _)) _ _ _); k_dflt (refine' KMa.mul (by k_asm) (by k_asm) (by exact PySem.IsL.isList (News.get (by k_asm) (by k_mem))) (by omega) (by omega) (by assumption) (by exact rfl) ?_; k_whole); intro _ _ _ _ l1; (try k_lt l1)) | (k_here; (with_reducible show wpAny _ _ (call (Value.builtin _) [Value.ref _, Value.ref _]) _ _ _); k_dflt (refine' ext_L (by k_asm) (by k_asm) (by k_mem) (by ((try simp only [List.length_append, List.length_cons, List.length_nil, List.length_singleton]); omega)) (by k_upd) (by ((try simp only [List.length_append, List.length_cons, List.length_nil, List.length_singleton]); omega)) ?_; k_whole); intro _ _ _) | (k_here; (with_reducible show wpAny _ _ (call (Value.builtin _) [Value.ref _, _]) _ _ _); k_dflt (refine' app_L (by k_asm) (by k_asm) (by k_upd) (by ((try simp only [List.length_append, List.length_cons, List.length_nil, List.length_singleton]); omega)) ?_; k_whole); intro _ _ _) | ((with_reducible show SrcS _ _ _ _ _ _ _ _ _ _ _ _ _ _); refine Stop.elim ?_) | (k_here; (with_reducible show wpAny _ _ (pyIter (Value.str _ _)) (fun it s₂ => TurnsAt _ _ _ _ _ _ _ _ _ it s₂) _ _); refine Stop.elim ?_) | ((with_reducible show wpAny _ _ (exec (Stmt.For (PySem.Expr.Name _ _) (PySem.Expr.Name _ _) _ _ _) _) _ _ _); k_here; (rename Fr _ _ _ _ => lF'); (with_unfolding_all refine' For_turns lF' ?_); k_whole) | walk1)) | (leave1; walk_say "STEP leave1"; try dsimp only) | fail "no step"))
      refine Stop.intro ?_
      (rename Fr _ _ _ _ => fF)
      (rename News _ _ _ _ => nN')
      rw [slice_mk (nm a) 1 (by decide) (by have := (hnm a).1; omega)]
      obtain ⟨pre, hpre, nN'⟩ : ∃ pre, pre = _ ∧ News _ _ _ (pre ++ jk) := ⟨[_, _, _, _, _, _], rfl, nN'⟩
      have hsz : (mkS ((nm a).drop (1 : Int).toNat)).cps.size ≤ sizeLine := by
        have e1 : (mkS ((nm a).drop (1 : Int).toNat)).cps.size = ((nm a).drop (1 : Int).toNat).length := mkS_len _
        rw [e1, List.length_drop]
        have := (hnm a).2
        have e0 : (1000 : Nat) ≤ sizeLine := by decide
        omega
      refine SrcS.intro rfl fF nN' hsz ?_
      intro g₂
      refine comp_ind (fun i ys nw => ∃ jk', nw = pre ++ jk' ∧ (∀ p ∈ jk, p ∈ jk') ∧ PrIn jk' ys ((((nm a).drop 1).take i).map fun x => (x, true)) ∧ ∀ p ∈ jk', (p.1 ≠ lt ∧ p.1 ≠ bk ∧ p.1 ≠ L' + 1) ∧ p.2.cls = .type "tuple") ?_ ?_ ⟨jk, rfl, fun _ h => h, .nil, hne⟩
      · clear fF nN'
        intro i₂ v I₂ oI₂ C₂ oC₂ D₂ ys₂ nw m₂ h₆ tk₆ E₂ hi₂ ⟨jk', e₃, hsub, hP₂, hne₂⟩ hv₂ hoC₂ hx₂ hF₂ hN₂ off₂ hne3
        subst e₃
        refine cutG fun PC hPC => ?_
        obtain ⟨b, ub, hb, rfl⟩ := hv₂
        refine hPC ?_
        clear hPC PC
        have hoff := off3_app off₂
        rw [hpre] at hN₂
        simp only [List.cons_append, List.nil_append] at hN₂
        (repeat' (first | (k_unfold; (try dsimp only)) | (k_end; wrow_close) | (k_here; (with_reducible show wpAny _ _ (subscriptTail _ _ (Value.ref _) (Value.str _ _)) _ _ _); k_dflt (refine' strd_item (by k_asm) (by assumption) (by assumption) (by assumption) ?_ (by with_unfolding_all rfl) (by (intro _; with_unfolding_all rfl)))) | ((with_reducible show wpAny _ _ (eval (PySem.Expr.ListComp _ _ _ _) _) _ _ _); k_here; first | ((with_reducible show wpAny _ _ (eval (Expr.ListComp _ [⟨_, _, [], _⟩] _ _) _) _ _ _); k_dflt (refine ListComp_S (F₀ := by k_asm) (by with_unfolding_all rfl) (by decide) (by rfl) (by decide) (by rfl) ?_)) | ((with_reducible show wpAny _ _ (eval (Expr.ListComp _ [⟨_, _, [_], _⟩] _ _) _) _ _ _); k_dflt (refine LCt.ListComp_T (F₀ := by k_asm) (by with_unfolding_all rfl) (by decide) (by rfl) (by decide) (by rfl) ?_))) | (k_here; (with_reducible show wpAny _ _ (binaryOp Operator.Mult (Value.ref _) (Value.int _ _)) _ _ _); k_dflt (refine' KMa.mul (by k_asm) (by k_asm) (by exact PySem.IsL.isList (News.get (by k_asm) (by k_mem))) (by omega) (by omega) (by assumption) (by exact rfl) ?_; k_whole); intro _ _ _ _ l1; (try k_lt l1)) | (k_here; (with_reducible show wpAny _ _ (call (Value.builtin _) [Value.ref _, Value.ref _]) _ _ _); k_dflt (refine' ext_L (by k_asm) (by k_asm) (by k_mem) (by ((try simp only [List.length_append, List.length_cons, List.length_nil, List.length_singleton]); omega)) (by k_upd) (by ((try simp only [List.length_append, List.length_cons, List.length_nil, List.length_singleton]); omega)) ?_; k_whole); intro _ _ _) | (k_here; (with_reducible show wpAny _ _ (call (Value.builtin _) [Value.ref _, _]) _ _ _); k_dflt (refine' app_L (by k_asm) (by k_asm) (by k_upd) (by ((try simp only [List.length_append, List.length_cons, List.length_nil, List.length_singleton]); omega)) ?_; k_whole); intro _ _ _) | ((with_reducible show SrcS _ _ _ _ _ _ _ _ _ _ _ _ _ _); refine Stop.elim ?_) | (k_here; (with_reducible show wpAny _ _ (pyIter (Value.str _ _)) (fun it s₂ => TurnsAt _ _ _ _ _ _ _ _ _ it s₂) _ _); refine Stop.elim ?_) | ((with_reducible show wpAny _ _ (exec (Stmt.For (PySem.Expr.Name _ _) (PySem.Expr.Name _ _) _ _ _) _) _ _ _); k_here; (rename Fr _ _ _ _ => lF'); (with_unfolding_all refine' For_turns lF' ?_); k_whole) | walk1 | (dsimp only; (first | (k_here; (with_reducible show wpAny _ _ (subscriptTail _ _ (Value.ref _) (Value.str _ _)) _ _ _); k_dflt (refine' strd_item (by k_asm) (by assumption) (by assumption) (by assumption) ?_ (by with_unfolding_all rfl) (by (intro _; with_unfolding_all rfl)))) | ((with_reducible show wpAny _ _ (eval (PySem.Expr.ListComp _ _ _ _) _) _ _ _); k_here; first | ((with_reducible show wpAny _ _ (eval (Expr.ListComp _ [⟨_, _, [], _⟩] _ _) _) _ _ _); k_dflt (refine ListComp_S (F₀ := by k_asm) (by with_unfolding_all rfl) (by decide) (by rfl) (by decide) (by rfl) ?_)) | ((with_reducible show wpAny _ _ (eval (Expr.ListComp _ [⟨_, _, [_], _⟩] _ _) _) _ _ _); k_dflt (refine LCt.ListComp_T (F₀ := by k_asm) (by with_unfolding_all rfl) (by decide) (by rfl) (by decide) (by rfl) ?_))) | (k_here; (with_reducible show wpAny _ _ (binaryOp Operator.Mult (Value.ref _) (Value.int _ _)) _ _ _); k_dflt (refine' KMa.mul (by k_asm) (by k_asm) (by exact PySem.IsL.isList (News.get (by k_asm) (by k_mem))) (by omega) (by omega) (by assumption) (by exact rfl) ?_; k_whole); intro _ _ _ _ l1; (try k_lt l1)) | (k_here; (with_reducible show wpAny _ _ (call (Value.builtin _) [Value.ref _, Value.ref _]) _ _ _); k_dflt (refine' ext_L (by k_asm) (by k_asm) (by k_mem) (by ((try simp only [List.length_append, List.length_cons, List.length_nil, List.length_singleton]); omega)) (by k_upd) (by ((try simp only [List.length_append, List.length_cons, List.length_nil, List.length_singleton]); omega)) ?_; k_whole); intro _ _ _) | (k_here; (with_reducible show wpAny _ _ (call (Value.builtin _) [Value.ref _, _]) _ _ _); k_dflt (refine' app_L (by k_asm) (by k_asm) (by k_upd) (by ((try simp only [List.length_append, List.length_cons, List.length_nil, List.length_singleton]); omega)) ?_; k_whole); intro _ _ _) | ((with_reducible show SrcS _ _ _ _ _ _ _ _ _ _ _ _ _ _); refine Stop.elim ?_) | (k_here; (with_reducible show wpAny _ _ (pyIter (Value.str _ _)) (fun it s₂ => TurnsAt _ _ _ _ _ _ _ _ _ it s₂) _ _); refine Stop.elim ?_) | ((with_reducible show wpAny _ _ (exec (Stmt.For (PySem.Expr.Name _ _) (PySem.Expr.Name _ _) _ _ _) _) _ _ _); k_here; (rename Fr _ _ _ _ => lF'); (with_unfolding_all refine' For_turns lF' ?_); k_whole) | walk1)) | (leave1; walk_say "STEP leave1"; try dsimp only) | fail "no step"))
        (rename Fr _ _ _ _ => f6)
        (rename News _ _ _ _ => n6)
        (rename_i T2 hT2 l2)
        have n7 : News s.heap L' hT2 ((T2, tup2 (.str (mkS [b]) ub) (.bool true) 0) :: (I₂, oI₂) :: (C₂, oC₂) :: (D₂, LCg.lst ys₂) :: (pre ++ jk')) := by rw [hpre]; exact n6
        have hit : ((nm a).drop 1)[i₂]? = some b := by
          have : ((nm a).drop (1 : Int).toNat).toArray[i₂]? = some b := hb
          simpa using this
        refine LCg.CompEnd.intro f6 n7 (pre ++ ((T2, tup2 (.str (mkS [b]) ub) (.bool true) 0) :: jk')) mem_shuf (off3_of fun p hp => ?_) trivial ⟨_ :: jk', rfl, fun p hp => .tail _ (hsub p hp), ?_, fun p hp => ?_⟩
        · rcases List.mem_append.mp hp with h | h
          · exact hoff p (List.mem_append_left _ h)
          · rcases List.mem_cons.mp h with rfl | h
            · refine ⟨?_, ?_, ?_⟩ <;> (refine neN ?_; dsimp only; omega)
            · exact hoff p (List.mem_append_right _ h)
        · rw [List.take_add_one, hit, List.map_append]
          exact (hP₂.mono fun p hp => .tail _ hp).append (PrIn.one _ _ _ _)
        · rcases List.mem_cons.mp hp with rfl | h
          · refine ⟨⟨?_, ?_, ?_⟩, rfl⟩ <;> (refine neN ?_; dsimp only; omega)
          · exact hne₂ p h
      · clear fF nN'
        intro ys₂ nw ⟨jk', e₃, hsub, hP₂, hne₂⟩
        subst e₃
        intro D₃ h₆ tk₆ F₆ N₆ off₆
        have efull : ((nm a).drop 1).take (mkS ((nm a).drop (1 : Int).toNat)).cps.size = (nm a).drop 1 := List.take_of_length_le (Nat.le_refl _)
        rw [efull] at hP₂
        have hyl : ys₂.length = (nm a).length - 1 := by rw [hP₂.length, List.length_map, List.length_drop]
        have hyl2 := hnm a
        rw [hpre] at N₆ off₆
        simp only [List.cons_append, List.nil_append] at N₆ off₆
        simp only [LCg.Off1] at off₆
        (try dsimp only at off₆)
        have ne4 : ∀ p ∈ jk', p.1 ≠ lt := fun p hp => (hne₂ p hp).1.1
        (repeat' (first | (k_unfold; (try dsimp only)) | (k_end; wrow_close) | (k_here; (with_reducible show wpAny _ _ (subscriptTail _ _ (Value.ref _) (Value.str _ _)) _ _ _); k_dflt (refine' strd_item (by k_asm) (by assumption) (by assumption) (by assumption) ?_ (by with_unfolding_all rfl) (by (intro _; with_unfolding_all rfl)))) | ((with_reducible show wpAny _ _ (eval (PySem.Expr.ListComp _ _ _ _) _) _ _ _); k_here; first | ((with_reducible show wpAny _ _ (eval (Expr.ListComp _ [⟨_, _, [], _⟩] _ _) _) _ _ _); k_dflt (refine ListComp_S (F₀ := by k_asm) (by with_unfolding_all rfl) (by decide) (by rfl) (by decide) (by rfl) ?_)) | ((with_reducible show wpAny _ _ (eval (Expr.ListComp _ [⟨_, _, [_], _⟩] _ _) _) _ _ _); k_dflt (refine LCt.ListComp_T (F₀ := by k_asm) (by with_unfolding_all rfl) (by decide) (by rfl) (by decide) (by rfl) ?_))) | (k_here; (with_reducible show wpAny _ _ (binaryOp Operator.Mult (Value.ref _) (Value.int _ _)) _ _ _); k_dflt (refine' KMa.mul (by k_asm) (by k_asm) (by exact PySem.IsL.isList (News.get (by k_asm) (by k_mem))) (by omega) (by omega) (by assumption) (by exact rfl) ?_; k_whole); intro _ _ _ _ l1; (try k_lt l1)) | (k_here; (with_reducible show wpAny _ _ (call (Value.builtin _) [Value.ref _, Value.ref _]) _ _ _); k_dflt (refine' ext_L (by k_asm) (by k_asm) (by k_mem) (by ((try simp only [List.length_append, List.length_cons, List.length_nil, List.length_singleton]); omega)) (by k_upd) (by ((try simp only [List.length_append, List.length_cons, List.length_nil, List.length_singleton]); omega)) ?_; k_whole); intro _ _ _) | (k_here; (with_reducible show wpAny _ _ (call (Value.builtin _) [Value.ref _, _]) _ _ _); k_dflt (refine' app_L (by k_asm) (by k_asm) (by k_upd) (by ((try simp only [List.length_append, List.length_cons, List.length_nil, List.length_singleton]); omega)) ?_; k_whole); intro _ _ _) | ((with_reducible show SrcS _ _ _ _ _ _ _ _ _ _ _ _ _ _); refine Stop.elim ?_) | ((with_reducible show UnrEndW _ _ _ _ _ _); refine Stop.elim ?_) | (k_here; (with_reducible show wpAny _ _ (pyIter (Value.str _ _)) (fun it s₂ => TurnsAt _ _ _ _ _ _ _ _ _ it s₂) _ _); refine Stop.elim ?_) | ((with_reducible show wpAny _ _ (exec (Stmt.For (PySem.Expr.Name _ _) (PySem.Expr.Name _ _) _ _ _) _) _ _ _); k_here; (rename Fr _ _ _ _ => lF'); (with_unfolding_all refine' For_turns lF' ?_); k_whole) | walk1 | (dsimp only; (first | (k_here; (with_reducible show wpAny _ _ (subscriptTail _ _ (Value.ref _) (Value.str _ _)) _ _ _); k_dflt (refine' strd_item (by k_asm) (by assumption) (by assumption) (by assumption) ?_ (by with_unfolding_all rfl) (by (intro _; with_unfolding_all rfl)))) | ((with_reducible show wpAny _ _ (eval (PySem.Expr.ListComp _ _ _ _) _) _ _ _); k_here; first | ((with_reducible show wpAny _ _ (eval (Expr.ListComp _ [⟨_, _, [], _⟩] _ _) _) _ _ _); k_dflt (refine ListComp_S (F₀ := by k_asm) (by with_unfolding_all rfl) (by decide) (by rfl) (by decide) (by rfl) ?_)) | ((with_reducible show wpAny _ _ (eval (Expr.ListComp _ [⟨_, _, [_], _⟩] _ _) _) _ _ _); k_dflt (refine LCt.ListComp_T (F₀ := by k_asm) (by with_unfolding_all rfl) (by decide) (by rfl) (by decide) (by rfl) ?_))) | (k_here; (with_reducible show wpAny _ _ (binaryOp Operator.Mult (Value.ref _) (Value.int _ _)) _ _ _); k_dflt (refine' KMa.mul (by k_asm) (by k_asm) (by exact PySem.IsL.isList (News.get (by k_asm) (by k_mem))) (by omega) (by omega) (by assumption) (by exact rfl) ?_; k_whole); intro _ _ _ _ l1; (try k_lt l1)) | (k_here; (with_reducible show wpAny _ _ (call (Value.builtin _) [Value.ref _, Value.ref _]) _ _ _); k_dflt (refine' ext_L (by k_asm) (by k_asm) (by k_mem) (by ((try simp only [List.length_append, List.length_cons, List.length_nil, List.length_singleton]); omega)) (by k_upd) (by ((try simp only [List.length_append, List.length_cons, List.length_nil, List.length_singleton]); omega)) ?_; k_whole); intro _ _ _) | (k_here; (with_reducible show wpAny _ _ (call (Value.builtin _) [Value.ref _, _]) _ _ _); k_dflt (refine' app_L (by k_asm) (by k_asm) (by k_upd) (by ((try simp only [List.length_append, List.length_cons, List.length_nil, List.length_singleton]); omega)) ?_; k_whole); intro _ _ _) | ((with_reducible show SrcS _ _ _ _ _ _ _ _ _ _ _ _ _ _); refine Stop.elim ?_) | ((with_reducible show UnrEndW _ _ _ _ _ _); refine Stop.elim ?_) | (k_here; (with_reducible show wpAny _ _ (pyIter (Value.str _ _)) (fun it s₂ => TurnsAt _ _ _ _ _ _ _ _ _ it s₂) _ _); refine Stop.elim ?_) | ((with_reducible show wpAny _ _ (exec (Stmt.For (PySem.Expr.Name _ _) (PySem.Expr.Name _ _) _ _ _) _) _ _ _); k_here; (rename Fr _ _ _ _ => lF'); (with_unfolding_all refine' For_turns lF' ?_); k_whole) | walk1)) | (leave1; walk_say "STEP leave1"; try dsimp only) | fail "no step"))
        refine Stop.intro ?_
        (rename Fr _ _ _ _ => f9)
        (rename News _ _ _ _ => n9)
        refine end7 f9 n9 ?_ ⟨trivial, _, _, _ :: jk', oc, ⟨⟨rfl, rfl, rfl, rfl, rfl, trivial⟩, rfl⟩, hoc, ?_, hPb'.mono fun p hp => .tail _ (hsub p hp), ?_⟩
        · intro p hp
          simp only [List.mem_cons] at hp
          rcases hp with rfl | rfl | rfl | rfl | hp
          · exact .inl (neN (by dsimp only; omega))
          · exact .inl (neN (by dsimp only; omega))
          · exact .inl (neN (by dsimp only; omega))
          · exact .inl (neN (by dsimp only; omega))
          · refine .inr ?_
            rw [(hne₂ p hp).2, hcI]
            rcases hTI with rfl | rfl <;> decide
        · rw [undP_next sp nm k.toNat tl i a hai]
          unfold signP
          rw [if_pos ha, List.append_assoc, List.append_assoc]
          refine ((hPv.mono fun p hp => .tail _ (hsub p hp)).append ?_)
          refine PrIn.cons _ 38 _ true (.head _) ?_
          exact ((hPb'.times k.toNat).mono fun p hp => .tail _ (hsub p hp)).append (hP₂.mono fun p hp => .tail _ hp)
        · intro p hp
          rcases List.mem_cons.mp hp with rfl | h
          · refine ⟨⟨?_, ?_, ?_⟩, rfl⟩ <;> (refine neN ?_; dsimp only; omega)
          · exact hne₂ p h
    · rw [decide_eq_false ha] at hocc
      replace hocc : (Builtin.Str.occurrences (mkS sp) (mkS [a]) 0 (mkS sp).length 1).isEmpty = true := hocc
      (repeat' (first | (k_unfold; (try dsimp only)) | (k_end; wrow_close) | ((with_reducible show wpAny _ _ (exec _ _) _ _ _); k_fold; (first | (k_here; (with_reducible show wpAny _ _ (subscriptTail _ _ (Value.ref _) (Value.str _ _)) _ _ _); k_dflt (refine' strd_item (by k_asm) (by assumption) (by assumption) (by assumption) ?_ (by with_unfolding_all rfl) (by (intro _; with_unfolding_all rfl)))) | ((with_reducible show wpAny _ _ (eval (PySem.Expr.ListComp _ _ _ _) _) _ _ _); k_here; first | ((with_reducible show wpAny _ _ (eval (Expr.ListComp _ [⟨_, _, [], _⟩] _ _) _) _ _ _); k_dflt (refine ListComp_S (F₀ := by k_asm) (by with_unfolding_all rfl) (by decide) (by rfl) (by decide) (by rfl) ?_)) | ((with_reducible show wpAny _ _ (eval (Expr.ListComp _ [⟨_, _, [_], _⟩] _ _) _) _ _ _); k_dflt (refine LCt.ListComp_T (F₀ := by k_asm) (by with_unfolding_all rfl) (by decide) (by rfl) (by decide) (by rfl) ?_))) | (k_here; (with_reducible show wpAny _ _ (binaryOp Operator.Mult (Value.ref _) (Value.int _ _)) _ _ _); k_dflt (refine' KMa.mul (by k_asm) (by k_asm) (by exact PySem.IsL.isList (News.get (by k_asm) (by k_mem))) (by omega) (by omega) (by assumption) (by exact rfl) ?_; k_whole); intro _ _ _ _ l1; (try k_lt l1)) | (k_here; (with_reducible show wpAny _ _ (call (Value.builtin _) [Value.ref _, Value.ref _]) _ _ _); k_dflt (refine' ext_L (by k_asm) (by k_asm) (by k_mem) (by ((try simp only [List.length_append, List.length_cons, List.length_nil, List.length_singleton]); omega)) (by k_upd) (by ((try simp only [List.length_append, List.length_cons, List.length_nil, List.length_singleton]); omega)) ?_; k_whole); intro _ _ _) | (k_here; (with_reducible show wpAny _ _ (call (Value.builtin _) [Value.ref _, _]) _ _ _); k_dflt (refine' app_L (by k_asm) (by k_asm) (by k_upd) (by ((try simp only [List.length_append, List.length_cons, List.length_nil, List.length_singleton]); omega)) ?_; k_whole); intro _ _ _) | ((with_reducible show SrcS _ _ _ _ _ _ _ _ _ _ _ _ _ _); refine Stop.elim ?_) | ((with_reducible show UnrEndW _ _ _ _ _ _); refine Stop.elim ?_) | (k_here; (with_reducible show wpAny _ _ (pyIter (Value.str _ _)) (fun it s₂ => TurnsAt _ _ _ _ _ _ _ _ _ it s₂) _ _); refine Stop.elim ?_) | ((with_reducible show wpAny _ _ (exec (Stmt.For (PySem.Expr.Name _ _) (PySem.Expr.Name _ _) _ _ _) _) _ _ _); k_here; (rename Fr _ _ _ _ => lF'); (with_unfolding_all refine' For_turns lF' ?_); k_whole) | walk1)) | (k_here; (with_reducible show wpAny _ _ (subscriptTail _ _ (Value.ref _) (Value.str _ _)) _ _ _); k_dflt (refine' strd_item (by k_asm) (by assumption) (by assumption) (by assumption) ?_ (by with_unfolding_all rfl) (by (intro _; with_unfolding_all rfl)))) | ((with_reducible show wpAny _ _ (eval (PySem.Expr.ListComp _ _ _ _) _) _ _ _); k_here; first | ((with_reducible show wpAny _ _ (eval (Expr.ListComp _ [⟨_, _, [], _⟩] _ _) _) _ _ _); k_dflt (refine ListComp_S (F₀ := by k_asm) (by with_unfolding_all rfl) (by decide) (by rfl) (by decide) (by rfl) ?_)) | ((with_reducible show wpAny _ _ (eval (Expr.ListComp _ [⟨_, _, [_], _⟩] _ _) _) _ _ _); k_dflt (refine LCt.ListComp_T (F₀ := by k_asm) (by with_unfolding_all rfl) (by decide) (by rfl) (by decide) (by rfl) ?_))) | (k_here; (with_reducible show wpAny _ _ (binaryOp Operator.Mult (Value.ref _) (Value.int _ _)) _ _ _); k_dflt (refine' KMa.mul (by k_asm) (by k_asm) (by exact PySem.IsL.isList (News.get (by k_asm) (by k_mem))) (by omega) (by omega) (by assumption) (by exact rfl) ?_; k_whole); intro _ _ _ _ l1; (try k_lt l1)) | (k_here; (with_reducible show wpAny _ _ (call (Value.builtin _) [Value.ref _, Value.ref _]) _ _ _); k_dflt (refine' ext_L (by k_asm) (by k_asm) (by k_mem) (by ((try simp only [List.length_append, List.length_cons, List.length_nil, List.length_singleton]); omega)) (by k_upd) (by ((try simp only [List.length_append, List.length_cons, List.length_nil, List.length_singleton]); omega)) ?_; k_whole); intro _ _ _) | (k_here; (with_reducible show wpAny _ _ (call (Value.builtin _) [Value.ref _, _]) _ _ _); k_dflt (refine' app_L (by k_asm) (by k_asm) (by k_upd) (by ((try simp only [List.length_append, List.length_cons, List.length_nil, List.length_singleton]); omega)) ?_; k_whole); intro _ _ _) | ((with_reducible show SrcS _ _ _ _ _ _ _ _ _ _ _ _ _ _); refine Stop.elim ?_) | ((with_reducible show UnrEndW _ _ _ _ _ _); refine Stop.elim ?_) | (k_here; (with_reducible show wpAny _ _ (pyIter (Value.str _ _)) (fun it s₂ => TurnsAt _ _ _ _ _ _ _ _ _ it s₂) _ _); refine Stop.elim ?_) | ((with_reducible show wpAny _ _ (exec (Stmt.For (PySem.Expr.Name _ _) (PySem.Expr.Name _ _) _ _ _) _) _ _ _); k_here; (rename Fr _ _ _ _ => lF'); (with_unfolding_all refine' For_turns lF' ?_); k_whole) | walk1 | (dsimp only; (first | (k_here; (with_reducible show wpAny _ _ (subscriptTail _ _ (Value.ref _) (Value.str _ _)) _ _ _); k_dflt (refine' strd_item (by k_asm) (by assumption) (by assumption) (by assumption) ?_ (by with_unfolding_all rfl) (by (intro _; with_unfolding_all rfl)))) | ((with_reducible show wpAny _ _ (eval (PySem.Expr.ListComp _ _ _ _) _) _ _ _); k_here; first | ((with_reducible show wpAny _ _ (eval (Expr.ListComp _ [⟨_, _, [], _⟩] _ _) _) _ _ _); k_dflt (refine ListComp_S (F₀ := by k_asm) (by with_unfolding_all rfl) (by decide) (by rfl) (by decide) (by rfl) ?_)) | ((with_reducible show wpAny _ _ (eval (Expr.ListComp _ [⟨_, _, [_], _⟩] _ _) _) _ _ _); k_dflt (refine LCt.ListComp_T (F₀ := by k_asm) (by with_unfolding_all rfl) (by decide) (by rfl) (by decide) (by rfl) ?_))) | (k_here; (with_reducible show wpAny _ _ (binaryOp Operator.Mult (Value.ref _) (Value.int _ _)) _ _ _); k_dflt (refine' KMa.mul (by k_asm) (by k_asm) (by exact PySem.IsL.isList (News.get (by k_asm) (by k_mem))) (by omega) (by omega) (by assumption) (by exact rfl) ?_; k_whole); intro _ _ _ _ l1; (try k_lt l1)) | (k_here; (with_reducible show wpAny _ _ (call (Value.builtin _) [Value.ref _, Value.ref _]) _ _ _); k_dflt (refine' ext_L (by k_asm) (by k_asm) (by k_mem) (by ((try simp only [List.length_append, List.length_cons, List.length_nil, List.length_singleton]); omega)) (by k_upd) (by ((try simp only [List.length_append, List.length_cons, List.length_nil, List.length_singleton]); omega)) ?_; k_whole); intro _ _ _) | (k_here; (with_reducible show wpAny _ _ (call (Value.builtin _) [Value.ref _, _]) _ _ _); k_dflt (refine' app_L (by k_asm) (by k_asm) (by k_upd) (by ((try simp only [List.length_append, List.length_cons, List.length_nil, List.length_singleton]); omega)) ?_; k_whole); intro _ _ _) | ((with_reducible show SrcS _ _ _ _ _ _ _ _ _ _ _ _ _ _); refine Stop.elim ?_) | ((with_reducible show UnrEndW _ _ _ _ _ _); refine Stop.elim ?_) | (k_here; (with_reducible show wpAny _ _ (pyIter (Value.str _ _)) (fun it s₂ => TurnsAt _ _ _ _ _ _ _ _ _ it s₂) _ _); refine Stop.elim ?_) | ((with_reducible show wpAny _ _ (exec (Stmt.For (PySem.Expr.Name _ _) (PySem.Expr.Name _ _) _ _ _) _) _ _ _); k_here; (rename Fr _ _ _ _ => lF'); (with_unfolding_all refine' For_turns lF' ?_); k_whole) | walk1)) | (leave1; walk_say "STEP leave1"; try dsimp only) | fail "no step"))
      refine Stop.intro ?_
      (rename Fr _ _ _ _ => f9)
      (rename News _ _ _ _ => n9)
      refine end5 f9 n9 ?_ ⟨trivial, _, _, _ :: jk, oc, ⟨⟨rfl, rfl, rfl, rfl, rfl, trivial⟩, rfl⟩, hoc, ?_, hPb'.mono fun p hp => .tail _ hp, ?_⟩
      · intro p hp
        simp only [List.mem_cons] at hp
        rcases hp with rfl | rfl | rfl | rfl | hp
        · exact .inl (neN (by dsimp only; omega))
        · exact .inl (neN (by dsimp only; omega))
        · exact .inl (neN (by dsimp only; omega))
        · exact .inl (neN (by dsimp only; omega))
        · refine .inr ?_
          rw [(hne p hp).2, hcI]
          rcases hTI with rfl | rfl <;> decide
      · rw [undP_next sp nm k.toNat tl i a hai]
        unfold signP
        rw [if_neg ha]
        exact (hPv.mono fun p hp => .tail _ hp).append (PrIn.cons _ a _ true (.head _) .nil)
      · intro p hp
        rcases List.mem_cons.mp hp with rfl | h
        · refine ⟨⟨?_, ?_, ?_⟩, rfl⟩ <;> (refine neN ?_; dsimp only; omega)
        · exact hne p h
  · intro m' news' h₅ tk₅ hJ hF hN
    refine cutG fun PC hPC => ?_
    obtain ⟨vs, c, jk, oc, ⟨hkn, rfl⟩, hoc, hPv, hPb', hne⟩ := hJ
    refine hPC ?_
    clear hPC PC
    have hlen0 : (signItems (mkS tl)).length = tl.length := by show (List.map _ tl).length = _; rw [List.length_map]
    rw [hlen0, List.take_length] at hPv
    replace hF := knows_fr hF hkn; dsimp only [knowF] at hF
    have hvl : vs.length ≤ 60 := by
      have h1 := undP_length sp nm k.toNat (by omega) (fun c => (hnm c).2) tl
      rw [hPv.length]; omega
    (repeat' (first | (k_unfold; (try dsimp only)) | (k_end; wrow_close) | ((with_reducible show wpAny _ _ (exec _ _) _ _ _); k_fold; (first | (k_here; (with_reducible show wpAny _ _ (subscriptTail _ _ (Value.ref _) (Value.str _ _)) _ _ _); k_dflt (refine' strd_item (by k_asm) (by assumption) (by assumption) (by assumption) ?_ (by with_unfolding_all rfl) (by (intro _; with_unfolding_all rfl)))) | ((with_reducible show wpAny _ _ (eval (PySem.Expr.ListComp _ _ _ _) _) _ _ _); k_here; first | ((with_reducible show wpAny _ _ (eval (Expr.ListComp _ [⟨_, _, [], _⟩] _ _) _) _ _ _); k_dflt (refine ListComp_S (F₀ := by k_asm) (by with_unfolding_all rfl) (by decide) (by rfl) (by decide) (by rfl) ?_)) | ((with_reducible show wpAny _ _ (eval (Expr.ListComp _ [⟨_, _, [_], _⟩] _ _) _) _ _ _); k_dflt (refine LCt.ListComp_T (F₀ := by k_asm) (by with_unfolding_all rfl) (by decide) (by rfl) (by decide) (by rfl) ?_))) | (k_here; (with_reducible show wpAny _ _ (binaryOp Operator.Mult (Value.ref _) (Value.int _ _)) _ _ _); k_dflt (refine' KMa.mul (by k_asm) (by k_asm) (by exact PySem.IsL.isList (News.get (by k_asm) (by k_mem))) (by omega) (by omega) (by assumption) (by exact rfl) ?_; k_whole); intro _ _ _ _ l1; (try k_lt l1)) | (k_here; (with_reducible show wpAny _ _ (call (Value.builtin _) [Value.ref _, Value.ref _]) _ _ _); k_dflt (refine' ext_L (by k_asm) (by k_asm) (by k_mem) (by ((try simp only [List.length_append, List.length_cons, List.length_nil, List.length_singleton]); omega)) (by k_upd) (by ((try simp only [List.length_append, List.length_cons, List.length_nil, List.length_singleton]); omega)) ?_; k_whole); intro _ _ _) | (k_here; (with_reducible show wpAny _ _ (call (Value.builtin _) [Value.ref _, _]) _ _ _); k_dflt (refine' app_L (by k_asm) (by k_asm) (by k_upd) (by ((try simp only [List.length_append, List.length_cons, List.length_nil, List.length_singleton]); omega)) ?_; k_whole); intro _ _ _) | ((with_reducible show SrcS _ _ _ _ _ _ _ _ _ _ _ _ _ _); refine Stop.elim ?_) | ((with_reducible show LCt.CompSrcT _ _ _ _ _ _ _ _ _ _ _ _ _ _ _); refine Stop.elim ?_) | ((with_reducible show UnrEndW _ _ _ _ _ _); refine Stop.elim ?_) | (k_here; (with_reducible show wpAny _ _ (pyIter (Value.str _ _)) (fun it s₂ => TurnsAt _ _ _ _ _ _ _ _ _ it s₂) _ _); refine Stop.elim ?_) | ((with_reducible show wpAny _ _ (exec (Stmt.For (PySem.Expr.Name _ _) (PySem.Expr.Name _ _) _ _ _) _) _ _ _); k_here; (rename Fr _ _ _ _ => lF'); (with_unfolding_all refine' For_turns lF' ?_); k_whole) | walk1)) | (k_here; (with_reducible show wpAny _ _ (subscriptTail _ _ (Value.ref _) (Value.str _ _)) _ _ _); k_dflt (refine' strd_item (by k_asm) (by assumption) (by assumption) (by assumption) ?_ (by with_unfolding_all rfl) (by (intro _; with_unfolding_all rfl)))) | ((with_reducible show wpAny _ _ (eval (PySem.Expr.ListComp _ _ _ _) _) _ _ _); k_here; first | ((with_reducible show wpAny _ _ (eval (Expr.ListComp _ [⟨_, _, [], _⟩] _ _) _) _ _ _); k_dflt (refine ListComp_S (F₀ := by k_asm) (by with_unfolding_all rfl) (by decide) (by rfl) (by decide) (by rfl) ?_)) | ((with_reducible show wpAny _ _ (eval (Expr.ListComp _ [⟨_, _, [_], _⟩] _ _) _) _ _ _); k_dflt (refine LCt.ListComp_T (F₀ := by k_asm) (by with_unfolding_all rfl) (by decide) (by rfl) (by decide) (by rfl) ?_))) | (k_here; (with_reducible show wpAny _ _ (binaryOp Operator.Mult (Value.ref _) (Value.int _ _)) _ _ _); k_dflt (refine' KMa.mul (by k_asm) (by k_asm) (by exact PySem.IsL.isList (News.get (by k_asm) (by k_mem))) (by omega) (by omega) (by assumption) (by exact rfl) ?_; k_whole); intro _ _ _ _ l1; (try k_lt l1)) | (k_here; (with_reducible show wpAny _ _ (call (Value.builtin _) [Value.ref _, Value.ref _]) _ _ _); k_dflt (refine' ext_L (by k_asm) (by k_asm) (by k_mem) (by ((try simp only [List.length_append, List.length_cons, List.length_nil, List.length_singleton]); omega)) (by k_upd) (by ((try simp only [List.length_append, List.length_cons, List.length_nil, List.length_singleton]); omega)) ?_; k_whole); intro _ _ _) | (k_here; (with_reducible show wpAny _ _ (call (Value.builtin _) [Value.ref _, _]) _ _ _); k_dflt (refine' app_L (by k_asm) (by k_asm) (by k_upd) (by ((try simp only [List.length_append, List.length_cons, List.length_nil, List.length_singleton]); omega)) ?_; k_whole); intro _ _ _) | ((with_reducible show SrcS _ _ _ _ _ _ _ _ _ _ _ _ _ _); refine Stop.elim ?_) | ((with_reducible show LCt.CompSrcT _ _ _ _ _ _ _ _ _ _ _ _ _ _ _); refine Stop.elim ?_) | ((with_reducible show UnrEndW _ _ _ _ _ _); refine Stop.elim ?_) | (k_here; (with_reducible show wpAny _ _ (pyIter (Value.str _ _)) (fun it s₂ => TurnsAt _ _ _ _ _ _ _ _ _ it s₂) _ _); refine Stop.elim ?_) | ((with_reducible show wpAny _ _ (exec (Stmt.For (PySem.Expr.Name _ _) (PySem.Expr.Name _ _) _ _ _) _) _ _ _); k_here; (rename Fr _ _ _ _ => lF'); (with_unfolding_all refine' For_turns lF' ?_); k_whole) | walk1 | (dsimp only; (first | (k_here; (with_reducible show wpAny _ _ (subscriptTail _ _ (Value.ref _) (Value.str _ _)) _ _ _); k_dflt (refine' strd_item (by k_asm) (by assumption) (by assumption) (by assumption) ?_ (by with_unfolding_all rfl) (by (intro _; with_unfolding_all rfl)))) | ((with_reducible show wpAny _ _ (eval (PySem.Expr.ListComp _ _ _ _) _) _ _ _); k_here; first | ((with_reducible show wpAny _ _ (eval (Expr.ListComp _ [⟨_, _, [], _⟩] _ _) _) _ _ _); k_dflt (refine ListComp_S (F₀ := by k_asm) (by with_unfolding_all rfl) (by decide) (by rfl) (by decide) (by rfl) ?_)) | ((with_reducible show wpAny _ _ (eval (Expr.ListComp _ [⟨_, _, [_], _⟩] _ _) _) _ _ _); k_dflt (refine LCt.ListComp_T (F₀ := by k_asm) (by with_unfolding_all rfl) (by decide) (by rfl) (by decide) (by rfl) ?_))) | (k_here; (with_reducible show wpAny _ _ (binaryOp Operator.Mult (Value.ref _) (Value.int _ _)) _ _ _); k_dflt (refine' KMa.mul (by k_asm) (by k_asm) (by exact PySem.IsL.isList (News.get (by k_asm) (by k_mem))) (by omega) (by omega) (by assumption) (by exact rfl) ?_; k_whole); intro _ _ _ _ l1; (try k_lt l1)) | (k_here; (with_reducible show wpAny _ _ (call (Value.builtin _) [Value.ref _, Value.ref _]) _ _ _); k_dflt (refine' ext_L (by k_asm) (by k_asm) (by k_mem) (by ((try simp only [List.length_append, List.length_cons, List.length_nil, List.length_singleton]); omega)) (by k_upd) (by ((try simp only [List.length_append, List.length_cons, List.length_nil, List.length_singleton]); omega)) ?_; k_whole); intro _ _ _) | (k_here; (with_reducible show wpAny _ _ (call (Value.builtin _) [Value.ref _, _]) _ _ _); k_dflt (refine' app_L (by k_asm) (by k_asm) (by k_upd) (by ((try simp only [List.length_append, List.length_cons, List.length_nil, List.length_singleton]); omega)) ?_; k_whole); intro _ _ _) | ((with_reducible show SrcS _ _ _ _ _ _ _ _ _ _ _ _ _ _); refine Stop.elim ?_) | ((with_reducible show LCt.CompSrcT _ _ _ _ _ _ _ _ _ _ _ _ _ _ _); refine Stop.elim ?_) | ((with_reducible show UnrEndW _ _ _ _ _ _); refine Stop.elim ?_) | (k_here; (with_reducible show wpAny _ _ (pyIter (Value.str _ _)) (fun it s₂ => TurnsAt _ _ _ _ _ _ _ _ _ it s₂) _ _); refine Stop.elim ?_) | ((with_reducible show wpAny _ _ (exec (Stmt.For (PySem.Expr.Name _ _) (PySem.Expr.Name _ _) _ _ _) _) _ _ _); k_here; (rename Fr _ _ _ _ => lF'); (with_unfolding_all refine' For_turns lF' ?_); k_whole) | walk1)) | (leave1; walk_say "STEP leave1"; try dsimp only) | fail "no step"))
    refine Stop.intro ?_
    (rename Fr _ _ _ _ => fF)
    (rename News _ _ _ _ => nN)
    refine LCt.CompSrcT.ledger rfl fF nN (.head _) (by rw [List.size_toArray]; exact Nat.le_trans hvl (by decide)) ?_
    intro g₂
    obtain ⟨pre, hpre, nN⟩ : ∃ pre, pre = _ ∧ News _ _ _ (pre ++ jk) := ⟨[_, _, _], rfl, nN⟩
    refine comp_indT (fun i ys nw => nw = pre ++ jk ∧ PrIn jk ys (((undP sp nm k.toNat tl).take i).filter fun p => decide (p.1 ∈ r))) ?_ ?_ ⟨by rw [hpre]; rfl, .nil⟩
    · clear fF nN
      intro i v I₂ oI₂ C₂ oC₂ D₂ ys₂ nw m₂ h₆ tk₆ E₂ hi₂ ⟨e₃, hP₂⟩ hv₂ hoC₂ hx₂ hF₂ hN₂ off₂ hne3
      subst e₃
      have hv₃ : vs[i]? = some v := by simpa using hv₂
      refine cutG fun PC hPC => ?_
      obtain ⟨T₂, c₂, t₂, b₂, hpi, rfl, hmT⟩ := hPv.get hv₃
      refine hPC ?_
      clear hPC PC
      have hocc := found_mk c₂ r
      rw [hpre] at hN₂
      simp only [List.cons_append, List.nil_append] at hN₂
      have htk : ((undP sp nm k.toNat tl).take (i + 1)).filter (fun p => decide (p.1 ∈ r)) = ((undP sp nm k.toNat tl).take i).filter (fun p => decide (p.1 ∈ r)) ++ (if c₂ ∈ r then [(c₂, b₂)] else []) := by
        have e : (undP sp nm k.toNat tl).take (i + 1) = (undP sp nm k.toNat tl).take i ++ [(c₂, b₂)] := by rw [List.take_add_one, hpi]; rfl
        rw [e, List.filter_append]
        by_cases hc : c₂ ∈ r <;> simp [hc]
      have hsub : ∀ p ∈ (I₂, oI₂) :: (C₂, oC₂) :: (D₂, LCg.lst ys₂) :: (pre ++ jk), p ∈ (I₂, oI₂) :: (C₂, oC₂) :: (D₂, LCg.lst ys₂) :: (lt, listOf vs.toArray c) :: (bk, LCg.lst bks) :: (L' + 1, oc) :: jk := by
        rw [hpre]; exact fun _ h => h
      have hsrc : (lt, listOf vs.toArray c) ∈ pre ++ jk := by rw [hpre]; exact .head _
      (repeat' (first | (k_unfold; (try dsimp only)) | (k_end; wrow_close) | (k_here; (with_reducible show wpAny _ _ (subscriptTail _ _ (Value.ref _) (Value.str _ _)) _ _ _); k_dflt (refine' strd_item (by k_asm) (by assumption) (by assumption) (by assumption) ?_ (by with_unfolding_all rfl) (by (intro _; with_unfolding_all rfl)))) | ((with_reducible show wpAny _ _ (eval (PySem.Expr.ListComp _ _ _ _) _) _ _ _); k_here; first | ((with_reducible show wpAny _ _ (eval (Expr.ListComp _ [⟨_, _, [], _⟩] _ _) _) _ _ _); k_dflt (refine ListComp_S (F₀ := by k_asm) (by with_unfolding_all rfl) (by decide) (by rfl) (by decide) (by rfl) ?_)) | ((with_reducible show wpAny _ _ (eval (Expr.ListComp _ [⟨_, _, [_], _⟩] _ _) _) _ _ _); k_dflt (refine LCt.ListComp_T (F₀ := by k_asm) (by with_unfolding_all rfl) (by decide) (by rfl) (by decide) (by rfl) ?_))) | (k_here; (with_reducible show wpAny _ _ (binaryOp Operator.Mult (Value.ref _) (Value.int _ _)) _ _ _); k_dflt (refine' KMa.mul (by k_asm) (by k_asm) (by exact PySem.IsL.isList (News.get (by k_asm) (by k_mem))) (by omega) (by omega) (by assumption) (by exact rfl) ?_; k_whole); intro _ _ _ _ l1; (try k_lt l1)) | (k_here; (with_reducible show wpAny _ _ (call (Value.builtin _) [Value.ref _, Value.ref _]) _ _ _); k_dflt (refine' ext_L (by k_asm) (by k_asm) (by k_mem) (by ((try simp only [List.length_append, List.length_cons, List.length_nil, List.length_singleton]); omega)) (by k_upd) (by ((try simp only [List.length_append, List.length_cons, List.length_nil, List.length_singleton]); omega)) ?_; k_whole); intro _ _ _) | (k_here; (with_reducible show wpAny _ _ (call (Value.builtin _) [Value.ref _, _]) _ _ _); k_dflt (refine' app_L (by k_asm) (by k_asm) (by k_upd) (by ((try simp only [List.length_append, List.length_cons, List.length_nil, List.length_singleton]); omega)) ?_; k_whole); intro _ _ _) | ((with_reducible show SrcS _ _ _ _ _ _ _ _ _ _ _ _ _ _); refine Stop.elim ?_) | ((with_reducible show LCt.CompSrcT _ _ _ _ _ _ _ _ _ _ _ _ _ _ _); refine Stop.elim ?_) | ((with_reducible show UnrEndW _ _ _ _ _ _); refine Stop.elim ?_) | (k_here; (with_reducible show wpAny _ _ (pyIter (Value.str _ _)) (fun it s₂ => TurnsAt _ _ _ _ _ _ _ _ _ it s₂) _ _); refine Stop.elim ?_) | ((with_reducible show wpAny _ _ (exec (Stmt.For (PySem.Expr.Name _ _) (PySem.Expr.Name _ _) _ _ _) _) _ _ _); k_here; (rename Fr _ _ _ _ => lF'); (with_unfolding_all refine' For_turns lF' ?_); k_whole) | walk1 | (dsimp only; (first | (k_here; (with_reducible show wpAny _ _ (subscriptTail _ _ (Value.ref _) (Value.str _ _)) _ _ _); k_dflt (refine' strd_item (by k_asm) (by assumption) (by assumption) (by assumption) ?_ (by with_unfolding_all rfl) (by (intro _; with_unfolding_all rfl)))) | ((with_reducible show wpAny _ _ (eval (PySem.Expr.ListComp _ _ _ _) _) _ _ _); k_here; first | ((with_reducible show wpAny _ _ (eval (Expr.ListComp _ [⟨_, _, [], _⟩] _ _) _) _ _ _); k_dflt (refine ListComp_S (F₀ := by k_asm) (by with_unfolding_all rfl) (by decide) (by rfl) (by decide) (by rfl) ?_)) | ((with_reducible show wpAny _ _ (eval (Expr.ListComp _ [⟨_, _, [_], _⟩] _ _) _) _ _ _); k_dflt (refine LCt.ListComp_T (F₀ := by k_asm) (by with_unfolding_all rfl) (by decide) (by rfl) (by decide) (by rfl) ?_))) | (k_here; (with_reducible show wpAny _ _ (binaryOp Operator.Mult (Value.ref _) (Value.int _ _)) _ _ _); k_dflt (refine' KMa.mul (by k_asm) (by k_asm) (by exact PySem.IsL.isList (News.get (by k_asm) (by k_mem))) (by omega) (by omega) (by assumption) (by exact rfl) ?_; k_whole); intro _ _ _ _ l1; (try k_lt l1)) | (k_here; (with_reducible show wpAny _ _ (call (Value.builtin _) [Value.ref _, Value.ref _]) _ _ _); k_dflt (refine' ext_L (by k_asm) (by k_asm) (by k_mem) (by ((try simp only [List.length_append, List.length_cons, List.length_nil, List.length_singleton]); omega)) (by k_upd) (by ((try simp only [List.length_append, List.length_cons, List.length_nil, List.length_singleton]); omega)) ?_; k_whole); intro _ _ _) | (k_here; (with_reducible show wpAny _ _ (call (Value.builtin _) [Value.ref _, _]) _ _ _); k_dflt (refine' app_L (by k_asm) (by k_asm) (by k_upd) (by ((try simp only [List.length_append, List.length_cons, List.length_nil, List.length_singleton]); omega)) ?_; k_whole); intro _ _ _) | ((with_reducible show SrcS _ _ _ _ _ _ _ _ _ _ _ _ _ _); refine Stop.elim ?_) | ((with_reducible show LCt.CompSrcT _ _ _ _ _ _ _ _ _ _ _ _ _ _ _); refine Stop.elim ?_) | ((with_reducible show UnrEndW _ _ _ _ _ _); refine Stop.elim ?_) | (k_here; (with_reducible show wpAny _ _ (pyIter (Value.str _ _)) (fun it s₂ => TurnsAt _ _ _ _ _ _ _ _ _ it s₂) _ _); refine Stop.elim ?_) | ((with_reducible show wpAny _ _ (exec (Stmt.For (PySem.Expr.Name _ _) (PySem.Expr.Name _ _) _ _ _) _) _ _ _); k_here; (rename Fr _ _ _ _ => lF'); (with_unfolding_all refine' For_turns lF' ?_); k_whole) | walk1)) | (leave1; walk_say "STEP leave1"; try dsimp only) | fail "no step"))
      next =>
        rename_i h9
        have hc : c₂ ∉ r := by
          rw [found_mk] at h9
          simpa using h9
        refine LCg.CompEnd.intro hF₂ hN₂ (pre ++ jk) hsub off₂ (Or.inr ⟨_, hsrc, rfl, _, rfl⟩) ⟨rfl, ?_⟩
        rw [htk, if_neg hc, List.append_nil]
        exact hP₂
      next =>
        rename_i h9
        have hc : c₂ ∈ r := by
          rw [found_mk] at h9
          simpa using h9
        refine LCg.CompEnd.intro hF₂ hN₂ (pre ++ jk) hsub off₂ (Or.inr ⟨_, hsrc, rfl, _, rfl⟩) ⟨rfl, ?_⟩
        rw [htk, if_pos hc]
        exact hP₂.append (PrIn.cons T₂ c₂ t₂ b₂ hmT .nil)
    · clear fF nN
      intro ys₂ nw ⟨e₃, hP₂⟩
      subst e₃
      have esz : vs.toArray.size = (undP sp nm k.toNat tl).length := by rw [List.size_toArray, hPv.length]
      rw [esz, List.take_length] at hP₂
      intro D₃ h₆ tk₆ F₆ N₆ off₆
      rw [hpre] at N₆
      simp only [List.cons_append, List.nil_append] at N₆
      (repeat' (first | (k_unfold; (try dsimp only)) | (k_end; wrow_close) | ((with_reducible show wpAny _ _ (call (Value.ref _) _ _) _ _ _); k_here; refine Stop.elim ?_) | (k_here; (with_reducible show wpAny _ _ (subscriptTail _ _ (Value.ref _) (Value.str _ _)) _ _ _); k_dflt (refine' strd_item (by k_asm) (by assumption) (by assumption) (by assumption) ?_ (by with_unfolding_all rfl) (by (intro _; with_unfolding_all rfl)))) | ((with_reducible show wpAny _ _ (eval (PySem.Expr.ListComp _ _ _ _) _) _ _ _); k_here; first | ((with_reducible show wpAny _ _ (eval (Expr.ListComp _ [⟨_, _, [], _⟩] _ _) _) _ _ _); k_dflt (refine ListComp_S (F₀ := by k_asm) (by with_unfolding_all rfl) (by decide) (by rfl) (by decide) (by rfl) ?_)) | ((with_reducible show wpAny _ _ (eval (Expr.ListComp _ [⟨_, _, [_], _⟩] _ _) _) _ _ _); k_dflt (refine LCt.ListComp_T (F₀ := by k_asm) (by with_unfolding_all rfl) (by decide) (by rfl) (by decide) (by rfl) ?_))) | (k_here; (with_reducible show wpAny _ _ (binaryOp Operator.Mult (Value.ref _) (Value.int _ _)) _ _ _); k_dflt (refine' KMa.mul (by k_asm) (by k_asm) (by exact PySem.IsL.isList (News.get (by k_asm) (by k_mem))) (by omega) (by omega) (by assumption) (by exact rfl) ?_; k_whole); intro _ _ _ _ l1; (try k_lt l1)) | (k_here; (with_reducible show wpAny _ _ (call (Value.builtin _) [Value.ref _, Value.ref _]) _ _ _); k_dflt (refine' ext_L (by k_asm) (by k_asm) (by k_mem) (by ((try simp only [List.length_append, List.length_cons, List.length_nil, List.length_singleton]); omega)) (by k_upd) (by ((try simp only [List.length_append, List.length_cons, List.length_nil, List.length_singleton]); omega)) ?_; k_whole); intro _ _ _) | (k_here; (with_reducible show wpAny _ _ (call (Value.builtin _) [Value.ref _, _]) _ _ _); k_dflt (refine' app_L (by k_asm) (by k_asm) (by k_upd) (by ((try simp only [List.length_append, List.length_cons, List.length_nil, List.length_singleton]); omega)) ?_; k_whole); intro _ _ _) | ((with_reducible show SrcS _ _ _ _ _ _ _ _ _ _ _ _ _ _); refine Stop.elim ?_) | ((with_reducible show LCt.CompSrcT _ _ _ _ _ _ _ _ _ _ _ _ _ _ _); refine Stop.elim ?_) | ((with_reducible show UnrEndW _ _ _ _ _ _); refine Stop.elim ?_) | (k_here; (with_reducible show wpAny _ _ (pyIter (Value.str _ _)) (fun it s₂ => TurnsAt _ _ _ _ _ _ _ _ _ it s₂) _ _); refine Stop.elim ?_) | ((with_reducible show wpAny _ _ (exec (Stmt.For (PySem.Expr.Name _ _) (PySem.Expr.Name _ _) _ _ _) _) _ _ _); k_here; (rename Fr _ _ _ _ => lF'); (with_unfolding_all refine' For_turns lF' ?_); k_whole) | walk1 | (dsimp only; (first | ((with_reducible show wpAny _ _ (call (Value.ref _) _ _) _ _ _); k_here; refine Stop.elim ?_) | (k_here; (with_reducible show wpAny _ _ (subscriptTail _ _ (Value.ref _) (Value.str _ _)) _ _ _); k_dflt (refine' strd_item (by k_asm) (by assumption) (by assumption) (by assumption) ?_ (by with_unfolding_all rfl) (by (intro _; with_unfolding_all rfl)))) | ((with_reducible show wpAny _ _ (eval (PySem.Expr.ListComp _ _ _ _) _) _ _ _); k_here; first | ((with_reducible show wpAny _ _ (eval (Expr.ListComp _ [⟨_, _, [], _⟩] _ _) _) _ _ _); k_dflt (refine ListComp_S (F₀ := by k_asm) (by with_unfolding_all rfl) (by decide) (by rfl) (by decide) (by rfl) ?_)) | ((with_reducible show wpAny _ _ (eval (Expr.ListComp _ [⟨_, _, [_], _⟩] _ _) _) _ _ _); k_dflt (refine LCt.ListComp_T (F₀ := by k_asm) (by with_unfolding_all rfl) (by decide) (by rfl) (by decide) (by rfl) ?_))) | (k_here; (with_reducible show wpAny _ _ (binaryOp Operator.Mult (Value.ref _) (Value.int _ _)) _ _ _); k_dflt (refine' KMa.mul (by k_asm) (by k_asm) (by exact PySem.IsL.isList (News.get (by k_asm) (by k_mem))) (by omega) (by omega) (by assumption) (by exact rfl) ?_; k_whole); intro _ _ _ _ l1; (try k_lt l1)) | (k_here; (with_reducible show wpAny _ _ (call (Value.builtin _) [Value.ref _, Value.ref _]) _ _ _); k_dflt (refine' ext_L (by k_asm) (by k_asm) (by k_mem) (by ((try simp only [List.length_append, List.length_cons, List.length_nil, List.length_singleton]); omega)) (by k_upd) (by ((try simp only [List.length_append, List.length_cons, List.length_nil, List.length_singleton]); omega)) ?_; k_whole); intro _ _ _) | (k_here; (with_reducible show wpAny _ _ (call (Value.builtin _) [Value.ref _, _]) _ _ _); k_dflt (refine' app_L (by k_asm) (by k_asm) (by k_upd) (by ((try simp only [List.length_append, List.length_cons, List.length_nil, List.length_singleton]); omega)) ?_; k_whole); intro _ _ _) | ((with_reducible show SrcS _ _ _ _ _ _ _ _ _ _ _ _ _ _); refine Stop.elim ?_) | ((with_reducible show LCt.CompSrcT _ _ _ _ _ _ _ _ _ _ _ _ _ _ _); refine Stop.elim ?_) | ((with_reducible show UnrEndW _ _ _ _ _ _); refine Stop.elim ?_) | (k_here; (with_reducible show wpAny _ _ (pyIter (Value.str _ _)) (fun it s₂ => TurnsAt _ _ _ _ _ _ _ _ _ it s₂) _ _); refine Stop.elim ?_) | ((with_reducible show wpAny _ _ (exec (Stmt.For (PySem.Expr.Name _ _) (PySem.Expr.Name _ _) _ _ _) _) _ _ _); k_here; (rename Fr _ _ _ _ => lF'); (with_unfolding_all refine' For_turns lF' ?_); k_whole) | walk1)) | (leave1; walk_say "STEP leave1"; try dsimp only) | fail "no step"))
      refine Stop.intro ?_
      (rename Fr _ _ _ _ => fF)
      (rename News _ _ _ _ => nN)
      have hPy : PairsAre _ ys₂ _ := hP₂.pairs (news_subl nN fun p hp => .tail _ (.tail _ (.tail _ (.tail _ hp))))
      have hyl : ys₂.length ≤ 1000 := by
        have h1 := undP_length sp nm k.toNat (by omega) (fun c => (hnm c).2) tl
        have h2 := List.length_filter_le (fun p : Nat × Bool => decide (p.1 ∈ r)) (undP sp nm k.toNat tl)
        rw [hP₂.length]; omega
      refine' use_pur (con_count w D₃ ys₂ ((undP sp nm k.toNat tl).filter fun p => decide (p.1 ∈ r)) r _ hr hyl) fF nN X' T' ?p1 ?p2 ?p3 ?_
      case p1 => k_room
      case p2 => k_room
      case p3 => exact ⟨⟨_, (nN _ (.head _)).1, rfl, _, rfl⟩, hPy⟩
      intro r₁ h₇ tk₇ F₇ N₇ _ ⟨t₇, e₇⟩
      subst e₇
      clear fF nN
      (repeat' (first | (k_unfold; (try dsimp only)) | (k_end; wrow_close) | ((with_reducible show wpAny _ _ (call (Value.ref _) _ _) _ _ _); k_here; refine Stop.elim ?_) | (k_here; (with_reducible show wpAny _ _ (subscriptTail _ _ (Value.ref _) (Value.str _ _)) _ _ _); k_dflt (refine' strd_item (by k_asm) (by assumption) (by assumption) (by assumption) ?_ (by with_unfolding_all rfl) (by (intro _; with_unfolding_all rfl)))) | ((with_reducible show wpAny _ _ (eval (PySem.Expr.ListComp _ _ _ _) _) _ _ _); k_here; first | ((with_reducible show wpAny _ _ (eval (Expr.ListComp _ [⟨_, _, [], _⟩] _ _) _) _ _ _); k_dflt (refine ListComp_S (F₀ := by k_asm) (by with_unfolding_all rfl) (by decide) (by rfl) (by decide) (by rfl) ?_)) | ((with_reducible show wpAny _ _ (eval (Expr.ListComp _ [⟨_, _, [_], _⟩] _ _) _) _ _ _); k_dflt (refine LCt.ListComp_T (F₀ := by k_asm) (by with_unfolding_all rfl) (by decide) (by rfl) (by decide) (by rfl) ?_))) | (k_here; (with_reducible show wpAny _ _ (binaryOp Operator.Mult (Value.ref _) (Value.int _ _)) _ _ _); k_dflt (refine' KMa.mul (by k_asm) (by k_asm) (by exact PySem.IsL.isList (News.get (by k_asm) (by k_mem))) (by omega) (by omega) (by assumption) (by exact rfl) ?_; k_whole); intro _ _ _ _ l1; (try k_lt l1)) | (k_here; (with_reducible show wpAny _ _ (call (Value.builtin _) [Value.ref _, Value.ref _]) _ _ _); k_dflt (refine' ext_L (by k_asm) (by k_asm) (by k_mem) (by ((try simp only [List.length_append, List.length_cons, List.length_nil, List.length_singleton]); omega)) (by k_upd) (by ((try simp only [List.length_append, List.length_cons, List.length_nil, List.length_singleton]); omega)) ?_; k_whole); intro _ _ _) | (k_here; (with_reducible show wpAny _ _ (call (Value.builtin _) [Value.ref _, _]) _ _ _); k_dflt (refine' app_L (by k_asm) (by k_asm) (by k_upd) (by ((try simp only [List.length_append, List.length_cons, List.length_nil, List.length_singleton]); omega)) ?_; k_whole); intro _ _ _) | ((with_reducible show SrcS _ _ _ _ _ _ _ _ _ _ _ _ _ _); refine Stop.elim ?_) | ((with_reducible show LCt.CompSrcT _ _ _ _ _ _ _ _ _ _ _ _ _ _ _); refine Stop.elim ?_) | ((with_reducible show UnrEndW _ _ _ _ _ _); refine Stop.elim ?_) | (k_here; (with_reducible show wpAny _ _ (pyIter (Value.str _ _)) (fun it s₂ => TurnsAt _ _ _ _ _ _ _ _ _ it s₂) _ _); refine Stop.elim ?_) | ((with_reducible show wpAny _ _ (exec (Stmt.For (PySem.Expr.Name _ _) (PySem.Expr.Name _ _) _ _ _) _) _ _ _); k_here; (rename Fr _ _ _ _ => lF'); (with_unfolding_all refine' For_turns lF' ?_); k_whole) | walk1 | (dsimp only; (first | ((with_reducible show wpAny _ _ (call (Value.ref _) _ _) _ _ _); k_here; refine Stop.elim ?_) | (k_here; (with_reducible show wpAny _ _ (subscriptTail _ _ (Value.ref _) (Value.str _ _)) _ _ _); k_dflt (refine' strd_item (by k_asm) (by assumption) (by assumption) (by assumption) ?_ (by with_unfolding_all rfl) (by (intro _; with_unfolding_all rfl)))) | ((with_reducible show wpAny _ _ (eval (PySem.Expr.ListComp _ _ _ _) _) _ _ _); k_here; first | ((with_reducible show wpAny _ _ (eval (Expr.ListComp _ [⟨_, _, [], _⟩] _ _) _) _ _ _); k_dflt (refine ListComp_S (F₀ := by k_asm) (by with_unfolding_all rfl) (by decide) (by rfl) (by decide) (by rfl) ?_)) | ((with_reducible show wpAny _ _ (eval (Expr.ListComp _ [⟨_, _, [_], _⟩] _ _) _) _ _ _); k_dflt (refine LCt.ListComp_T (F₀ := by k_asm) (by with_unfolding_all rfl) (by decide) (by rfl) (by decide) (by rfl) ?_))) | (k_here; (with_reducible show wpAny _ _ (binaryOp Operator.Mult (Value.ref _) (Value.int _ _)) _ _ _); k_dflt (refine' KMa.mul (by k_asm) (by k_asm) (by exact PySem.IsL.isList (News.get (by k_asm) (by k_mem))) (by omega) (by omega) (by assumption) (by exact rfl) ?_; k_whole); intro _ _ _ _ l1; (try k_lt l1)) | (k_here; (with_reducible show wpAny _ _ (call (Value.builtin _) [Value.ref _, Value.ref _]) _ _ _); k_dflt (refine' ext_L (by k_asm) (by k_asm) (by k_mem) (by ((try simp only [List.length_append, List.length_cons, List.length_nil, List.length_singleton]); omega)) (by k_upd) (by ((try simp only [List.length_append, List.length_cons, List.length_nil, List.length_singleton]); omega)) ?_; k_whole); intro _ _ _) | (k_here; (with_reducible show wpAny _ _ (call (Value.builtin _) [Value.ref _, _]) _ _ _); k_dflt (refine' app_L (by k_asm) (by k_asm) (by k_upd) (by ((try simp only [List.length_append, List.length_cons, List.length_nil, List.length_singleton]); omega)) ?_; k_whole); intro _ _ _) | ((with_reducible show SrcS _ _ _ _ _ _ _ _ _ _ _ _ _ _); refine Stop.elim ?_) | ((with_reducible show LCt.CompSrcT _ _ _ _ _ _ _ _ _ _ _ _ _ _ _); refine Stop.elim ?_) | ((with_reducible show UnrEndW _ _ _ _ _ _); refine Stop.elim ?_) | (k_here; (with_reducible show wpAny _ _ (pyIter (Value.str _ _)) (fun it s₂ => TurnsAt _ _ _ _ _ _ _ _ _ it s₂) _ _); refine Stop.elim ?_) | ((with_reducible show wpAny _ _ (exec (Stmt.For (PySem.Expr.Name _ _) (PySem.Expr.Name _ _) _ _ _) _) _ _ _); k_here; (rename Fr _ _ _ _ => lF'); (with_unfolding_all refine' For_turns lF' ?_); k_whole) | walk1)) | (leave1; walk_say "STEP leave1"; try dsimp only) | fail "no step"))
      (rename Fr _ _ _ _ => fF)
      exact ret _ _ _ fF.keep ⟨_, rfl⟩

end Mine
end

section
set_option maxRecDepth 100000
open PySem PySem.W PyProof.Rows PySem.Calls PySem.Spec
namespace Mine
/-- the law's answer True, where nothing but empty code tables turned -/
theorem good_true {cw : ClaimW} {cl : Str → Option Addr} {mean : ExcName → Option Value} {args : List WData} {s₁ s' : Shared} {tabs : List (Addr × Addr)} (hT : TabsAt tabs s₁.heap)
    (keep : ∀ b o, (ghostOf s₁.heap tabs).get? b = some o → s'.heap.get? b = some o) (hgr : GrownAll tabs s'.heap) (hos : s'.os = s₁.os) (hg : s'.gens = #[]) (hr : ∀ x, cw.raises args x = false) (hp : cw.post args (.bool true) args = true) :
    GoodWG cw cl mean args s₁ (.ok (.ret (.bool true))) s' := by
  have two : ∀ b o, s₁.heap.get? b = some o → s'.heap.get? b = some o ∨ ∃ q ∈ tabs, q.2 = b := fun b o e => by
    by_cases hb : b ∈ tabs.map (·.2)
    · exact .inr (List.mem_map.mp hb)
    · exact .inl (keep b o (ghost_ne e hb))
  refine ⟨.inl ⟨_, .bool true, [], rfl, hr, .bool true, hp, fun _ => ⟨List.nodup_nil, fun a h => nomatch h⟩⟩, ⟨fun b o e => ?_, fun b o e => ?_⟩, hos, .of_eq hg⟩
  · rcases two b o e with h | ⟨q, hq, rfl⟩
    · exact .inl h
    · obtain ⟨ps, hP⟩ := hgr.get q hq
      have h0 := (hT q hq).2
      rw [e] at h0
      have h1 := Option.some.inj h0
      subst h1
      exact .inr (.inl ⟨((hT q hq).1.tab (hT q hq).2).isCodeTable, rfl, #[], ps, rfl, by rw [Array.empty_append]; exact hP⟩)
  · rcases two b o e with h | ⟨q, hq, rfl⟩
    · exact ⟨o, h⟩
    · obtain ⟨ps, hP⟩ := hgr.get q hq
      exact ⟨_, hP⟩
section
variable {prog : Program} {w : World} {A : Around} {s : Shared} {R : Result → Shared → Prop} {name : Str} {params : Arguments} {body : List Stmt} {scope : Scope} {pm cd doc : Value} {a : Addr} {o : Obj} {args : List Value} {binds : List (Str × Value)}
/-- into the law, on a clean stack -/
theorem enterLaw (hroom : A.depth < recursionLimit) (ho : s.heap.get? a = some o) (hdata : o.data = .func (Calls.docDef name params body scope pm cd doc)) (hlim : s.heap.NoLimit) (hcd : s.heap.CodeRec cd name)
    (hbind : BindsTo s (Calls.docDef name params body scope pm cd doc) ⟨args, []⟩ binds) (hkind : (binds.all fun y => scope.names.lookup y.1 == some .local || scope.names.lookup y.1 == some .cell) = true)
    (hnd : ((cellsFrom 0 scope.names []).map (·.1)).Nodup)
    (h : ∀ L' h₁ tk cells, Fr s.heap L' h₁ (bindL (envOfC name scope L' a cd).kindOf binds fun _ => none) → News s.heap L' h₁ cells →
      CellsAre (bindC (envOfC name scope L' a cd).kindOf binds fun _ => none) (cellsFrom (L' + 1) scope.names []) cells →
      wpC (model prog w) (A.deeper (envOfC name scope L' a cd)) (execs body (envOfC name scope L' a cd))
        (fun fl s' => R (.ok (.ret (match fl with | .ret v => v | _ => .none))) s')
        (fun e s' => wpAny (model prog w) (A.deeper (envOfC name scope L' a cd)) (leaving (envOfC name scope L' a cd) e) (fun _ s'' => R (.error e) s'') (fun e' s'' => R (.error e') s'') s')
        { s with heap := h₁, toks := tk })
    (hco : scope.isCoroutine = false) (hgen : scope.isGenerator = false) (hk : scope.kind = .function) : codeC (model prog w) A (.call (.ref a) ⟨args, []⟩) R s := by
  refine codeC_call_function (fd := Calls.docDef name params body scope pm cd doc) (body := body) hroom ho hdata hco hgen rfl hcd (hbind _ _ _ _ ?_)
  refine wpAny_newFunctionEnv_cells hk (kindsX hkind _) fun env' he s' x => ?_
  subst he
  refine ⟨hlim.keeps x.toInCall.keep, codeC_func ?_⟩
  obtain ⟨h₁, tk, rfl, _⟩ := x.done
  have hk₁ := x.toInCall.keep
  obtain ⟨cells, NC, Y⟩ := Cl.news (h₀ := s.heap) (Nat.le_refl _) fun n c hm => ⟨x.cell n c (lookup_of_mem_nodup (cellsFrom_names scope.names 0 (s.heap.objs.size + 1) [] [] rfl ▸ hnd) hm), x.above n c hm⟩
  exact h s.heap.objs.size h₁ tk cells ⟨x.toInCall.ns, fun b o e => hk₁ b o e, Nat.le_refl _⟩ NC Y
end
section
variable {prog : Program} {w : World} {A : Around} {E : Value → Shared → Prop} {s : Shared} {h₀ : Heap} {L : Addr} {m : Str → Option Value} {news : List (Addr × Obj)}
theorem sum_pick {l : Addr} {its : Array Value} {n : Nat} {ns : List Int} {Q : Value → Shared → Prop} (hh : A.handled = none) (F : Fr h₀ L s.heap m) (N : News h₀ L s.heap news) (hm : (l, ({ cls := .type "list", data := .seq its n } : Obj)) ∈ news) (hi : IntsAre its.toList ns)
    (h : ∀ h' tk t', Fr h₀ L h' m → News h₀ L h' news → Q (.int ns.sum t') { s with heap := h', toks := tk }) :
    wpAny (model prog w) A (call (.builtin "sum") [.ref l]) Q E s :=
  sumK hh F N (vs := its.toList) (by rw [Array.toArray_toList]; exact PySem.IsL.isList (N _ hm).1) hi h
end
theorem ints_six {vs : List Value} {ns : List Int} (h : IntsAre vs ns) (hl : ns.length = 6) : ∃ c0 c1 c2 c3 c4 c5 t0 t1 t2 t3 t4 t5, vs = [Value.int c0 t0, .int c1 t1, .int c2 t2, .int c3 t3, .int c4 t4, .int c5 t5] := by
  cases h with
  | nil => simp at hl
  | cons a ta h => cases h with
    | nil => simp at hl
    | cons b tb h => cases h with
      | nil => simp at hl
      | cons c tc h => cases h with
        | nil => simp at hl
        | cons d td h => cases h with
          | nil => simp at hl
          | cons e te h => cases h with
            | nil => simp at hl
            | cons f tf h => cases h with
              | nil => exact ⟨_, _, _, _, _, _, _, _, _, _, _, _, rfl⟩
              | cons g tg h => simp at hl
/-- texts in a row -/
inductive SL : List Value → List (List Nat) → Prop where
  | nil : SL [] []
  | cons (l : List Nat) (t : Tok) {vs : List Value} {ss : List (List Nat)} : SL vs ss → SL (.str (mkS l) t :: vs) (l :: ss)
theorem SL.length {vs ss} (h : SL vs ss) : vs.length = ss.length := by induction h <;> simp_all
theorem SL.get {vs ss} (h : SL vs ss) : ∀ {i : Nat} {v : Value}, vs[i]? = some v → ∃ l t, ss[i]? = some l ∧ v = .str (mkS l) t := by
  induction h with
  | nil => intro i v h; simp at h
  | cons l t _ ih =>
    intro i v h
    cases i with
    | zero => simp at h; exact ⟨l, t, by simp, h.symm⟩
    | succ i => simp at h; obtain ⟨l', t', e1, e2⟩ := ih h; exact ⟨l', t', by simpa using e1, e2⟩
noncomputable def spl3 : List (List Nat) := [[38, 60, 62, 13], [38, 62, 34], [38, 60, 34, 9, 10, 13]]
noncomputable def pool11 : List (List Nat) := [[38], [60], [62], [34], [9], [13], [97], [109], [112], [59], [10]]
section
variable {prog : Program} {w : World} {A : Around} {E : Value → Shared → Prop} {s : Shared} {h₀ : Heap} {L : Addr} {m : Str → Option Value} {news : List (Addr × Obj)}
theorem strs_item {value slice : PySem.Expr} {D : Addr} {its : Array Value} {n : Nat} {ss : List (List Nat)} {k : Int} {u : Tok} {Q : Value → Shared → Prop} (N : News h₀ L s.heap news) (hm : (D, ({ cls := .type "list", data := .seq its n } : Obj)) ∈ news) (hS : SL its.toList ss)
    (h0 : 0 ≤ k) (h1 : k < ss.length) (hfit : k < 2 ^ 63) (h : ∀ l t, ss[k.toNat]? = some l → Q (.str (mkS l) t) s)
    (hs : subscripted slice false (.ref D) (.int k u) = operate [.ref D, .int k u] (getItem (.ref D) (.int k u)) := by with_unfolding_all rfl) :
    wpAny (model prog w) A (subscriptTail value slice (.ref D) (.int k u)) Q E s := by
  have hl : s.heap.IsList D its := PySem.IsL.isList (N _ hm).1
  have hlt : k.toNat < its.toList.length := by rw [hS.length]; omega
  obtain ⟨l, t, e1, e2⟩ := hS.get (List.getElem?_eq_getElem hlt)
  have hx : its[k.toNat]? = some (.str (mkS l) t) := by
    have : its.toList[k.toNat]? = some (.str (mkS l) t) := by rw [List.getElem?_eq_getElem hlt, e2]
    simpa using this
  exact tail_any hl.typeIs slot_list_getitem.lookup (wpAny_getItem_list hl h0 hfit hx (h l t e1)) hs
theorem mod_var {a b : Int} {t u : Tok} {Q : Value → Shared → Prop} (hb : 0 < b) (h : ∀ k : Int, 0 ≤ k → k < b → Q (.int k s.toks) { s with toks := s.toks + 1 }) : wpAny (model prog w) A (binaryOp .Mod (.int a t) (.int b u)) Q E s :=
  mod_int' (Int.ne_of_gt hb) (h _ (Int.fmod_nonneg_of_pos _ hb) (Int.fmod_lt_of_pos _ hb))
theorem fd_var {a b : Int} {t u : Tok} {Q : Value → Shared → Prop} (hb : b ≠ 0) (hs : b.natAbs < 1073741824) (h : ∀ k : Int, Q (.int k s.toks) { s with toks := s.toks + 1 }) : wpAny (model prog w) A (binaryOp .FloorDiv (.int a t) (.int b u)) Q E s :=
  floordiv_int hb (h _) (.inl (PyProof.noPylong_small hs))
end

section
variable {M : Model} {A : Around} {E : Value → Shared → Prop} {s : Shared} {env : Env}
theorem assign_dict {x : Str} {pos' pos dp : Pos} {ks : List (Option PySem.Expr)} {vs : List PySem.Expr} {Q : Flow → Shared → Prop}
    (h : wpAny M A (eval (.Dict ks vs dp) env) (fun v s₁ => wpAny M A (storeName env x v) (fun _ => Q .next) E s₁) E s) :
    wpAny M A (exec (.Assign [.Name x pos'] (.Dict ks vs dp) pos) env) Q E s := wpAny_Assign_Name h rfl
end

theorem gen_toksC {α : Type} {M : Model} {A : Around} {E : Value → Shared → Prop} {T : Sem α} {Q : α → Shared → Prop} {h : Heap} {gs dr X os} (k : ∀ tk : Nat, wpC M A T Q E ⟨h, gs, dr, tk, os⟩) : wpC M A T Q E ⟨h, gs, dr, X, os⟩ := k X

/-- the signs' references -/
noncomputable def nmOf (c : Nat) : List Nat := if c = 38 then [38, 97, 109, 112, 59] else if c = 60 then [38, 108, 116, 59] else if c = 62 then [38, 103, 116, 59] else if c = 34 then [38, 113, 117, 111, 116, 59] else if c = 9 then [38, 35, 120, 57, 59] else if c = 10 then [38, 35, 120, 65, 59] else [38, 35, 120, 68, 59]
theorem nmOf_length (c : Nat) : 2 ≤ (nmOf c).length ∧ (nmOf c).length ≤ 6 := by
  unfold nmOf
  repeat' split
  all_goals decide
noncomputable def sevenS : List Nat := [38, 60, 62, 34, 9, 10, 13]
theorem names_abs {prog : Program} {w : World} {o : Obj} {a1 a2 a3 a4 a5 a6 a7 b1 b2 b3 b4 b5 b6 b7 : Tok}
    (h : o.IsDictOf (PySem.strKind prog w) (strPairs [(.str (Str.ofString "&") a1, .str (Str.ofString "&amp;") b1), (.str (Str.ofString "<") a2, .str (Str.ofString "&lt;") b2), (.str (Str.ofString ">") a3, .str (Str.ofString "&gt;") b3), (.str (Str.ofString "\"") a4, .str (Str.ofString "&quot;") b4), (.str (Str.ofString "\t") a5, .str (Str.ofString "&#x9;") b5), (.str (Str.ofString "\n") a6, .str (Str.ofString "&#xA;") b6), (.str (Str.ofString "\r") a7, .str (Str.ofString "&#xD;") b7)])) :
    ∃ kvs, o.IsDictOf (PySem.strKind prog w) kvs ∧ ∀ c ∈ sevenS, ∃ t, valueAt kvs (mkS [c]) = some (Value.str (mkS (nmOf c)) t) := by
  refine ⟨_, h, fun c hc => ?_⟩
  simp only [sevenS, List.mem_cons, List.not_mem_nil, or_false] at hc
  rcases hc with rfl | rfl | rfl | rfl | rfl | rfl | rfl
  · exact ⟨b1, rfl⟩
  · exact ⟨b2, rfl⟩
  · exact ⟨b3, rfl⟩
  · exact ⟨b4, rfl⟩
  · exact ⟨b5, rfl⟩
  · exact ⟨b6, rfl⟩
  · exact ⟨b7, rfl⟩

end Mine
end

section
set_option maxRecDepth 100000
open PySem PySem.W PyProof.Rows PySem.Calls PySem.Spec
namespace Mine
/-- the def's record, out of the head -/
noncomputable def recOf {q : Program} {loose : List Str} {XP : (Str → Option Value) → Heap → Prop} {YP : World → Heap → Prop} {r : RowW} {d : DefRec} {kwd : List (Str × PySem.Expr)} {P : Prop} (_ : WalkC q loose XP YP r d kwd → P) : DefRec := d
noncomputable def lawD : DefRec := recOf (P := Pre.hc) id
noncomputable abbrev lenv (L' fa : Addr) (cd : Value) : Env := envOfC (Str.ofString "law") lawD.scope L' fa cd
noncomputable def stm : List Stmt → Nat → Stmt
  | [], _ => .Pass default
  | a :: _, 0 => a
  | _ :: r, n + 1 => stm r n
noncomputable abbrev lawS (n : Nat) : Stmt := stm lawD.body n
theorem body_23 : lawD.body.length = 23 := by rfl
noncomputable abbrev lawP : Program := PySem.Challenge.rw_zo0028_01.row.prog
theorem add_texts {prog : Program} {w : World} {A : Around} {E : Value → Shared → Prop} {s : Shared} {a b : List Nat} {y : Str} {t u : Tok} {Q : Value → Shared → Prop} (hy : y = mkS b) (hs : a.length + b.length ≤ 1000) (h : ∀ t' k, Q (.str (mkS (a ++ b)) t') { s with toks := k }) : wpAny (model prog w) A (binaryOp .Add (.str (mkS a) t) (.str y u)) Q E s := by
  subst hy
  exact PyProof.Rows.add_str (fun t' k => by rw [mkS_append]; exact h t' k) (by show a.length + b.length ≤ sizeLine; exact Nat.le_trans hs (by decide))
end Mine
end

section
set_option maxRecDepth 100000
open PySem PySem.W PyProof.Rows PySem.Calls PySem.Spec
namespace Mine

set_option maxHeartbeats 8000000 in
theorem st0 (w : World) (p : Program) (loose : List Str) (mean : ExcName → Option Value) (mg mb : Str → Option Value) (dp u : Nat) (fr : Option (List Env)) (g : Heap) (s : Shared) (L' fa : Addr) (cd : Value) (Q : Flow → Shared → Prop) (E : Value → Shared → Prop)
    (X : (Pre.hc.heap_1 w.params).In g) (T : Top p loose mean mg mb g) (hd : dp + 300 < recursionLimit) (hu : u + 3000 < cLine) (hE : PassesOwn (model PySem.Challenge.rw_zo0028_01.row.prog w) ((AR dp u fr (some [])).deeper (lenv L' fa cd)) (lenv L' fa cd) E) (m : Str → Option Value) (F : Fr g L' s.heap m) (o1 o2 o3 o4 o5 o6 o7 t65 t58 : Obj) (b65 : @LT.lt Nat _ 65 L') (b58 : @LT.lt Nat _ 58 L')
    (ls : Addr) (xs : List Value) (scr : List Int) (hl : g.IsList ls xs.toArray) (hI : IntsAre xs scr) (hcond : ¬ (63 : Int) < scr.length) (d1 : o1.data = .cell (some (.ref ls))) (d2 : o2.data = .cell none) (ret : ∀ m' h' tk' (lc : Addr) (o2' : Obj) (c0 c1 c2 c3 c4 c5 : Int) t0 t1 t2 t3 t4 t5, (@Ne Nat (L' + 1 + 1 + 1 + 1 + 1 + 1 + 1) lc ∧ @Ne Nat (L' + 1 + 1 + 1 + 1 + 1 + 1) lc ∧ @Ne Nat (L' + 1 + 1 + 1 + 1 + 1) lc ∧ @Ne Nat (L' + 1 + 1 + 1 + 1) lc ∧ @Ne Nat (L' + 1 + 1 + 1) lc ∧ @Ne Nat (L' + 1 + 1) lc ∧ @Ne Nat (L' + 1) lc ∧ @Ne Nat 65 lc ∧ @Ne Nat 58 lc) → o2'.data = .cell (some (.ref lc)) →  Knows m' [] → Fr g L' h' m' → News g L' h' [(lc, LCg.lst [.int c0 t0, .int c1 t1, .int c2 t2, .int c3 t3, .int c4 t4, .int c5 t5]), (L' + 1 + 1 + 1 + 1 + 1 + 1 + 1, o7), (L' + 1 + 1 + 1 + 1 + 1 + 1, o6), (L' + 1 + 1 + 1 + 1 + 1, o5), (L' + 1 + 1 + 1 + 1, o4), (L' + 1 + 1 + 1, o3), (L' + 1 + 1, o2'), (L' + 1, o1), (65, t65), (58, t58)] → Q .next { s with heap := h', toks := tk' }) (kn : Knows m []) (N : News g L' s.heap [(L' + 1 + 1 + 1 + 1 + 1 + 1 + 1, o7), (L' + 1 + 1 + 1 + 1 + 1 + 1, o6), (L' + 1 + 1 + 1 + 1 + 1, o5), (L' + 1 + 1 + 1 + 1, o4), (L' + 1 + 1 + 1, o3), (L' + 1 + 1, o2), (L' + 1, o1), (65, t65), (58, t58)]) :
    wpAny (model PySem.Challenge.rw_zo0028_01.row.prog w) ((AR dp u fr (some [])).deeper (lenv L' fa cd)) (exec (lawS 0) (lenv L' fa cd)) Q E s := by
  w_top off
  have _ : PySem.Challenge.rw_zo0028_01.row.prog = PySem.Challenge.rw_zo0028_01.row.prog → (Pre.hc.heap_1 w.params).In g := by (k_fill; exact fun _ => X)
  replace F := knows_fr F kn
  dsimp only [knowF] at F
  clear kn
  dsimp only [lenv, lawS, stm, lawD, recOf]

  (repeat' (first | (k_unfold; (try dsimp only)) | (k_end; wrow_close) | ((with_reducible show LCg.CompSrc _ _ _ _ _ _ _ _ _ _ _ _ _ _); refine Stop.elim ?_) | (k_here; (with_reducible show wpAny _ _ (eval (Expr.ListComp _ [⟨_, _, [], _⟩] _ _) _) _ _ _); k_dflt (refine LCg.ListComp_U (F₀ := by k_asm) (by with_unfolding_all rfl) (by decide) (by rfl) (by decide) (by rfl) ?_)) | walk1 | (dsimp only; (first | ((with_reducible show LCg.CompSrc _ _ _ _ _ _ _ _ _ _ _ _ _ _); refine Stop.elim ?_) | (k_here; (with_reducible show wpAny _ _ (eval (Expr.ListComp _ [⟨_, _, [], _⟩] _ _) _) _ _ _); k_dflt (refine LCg.ListComp_U (F₀ := by k_asm) (by with_unfolding_all rfl) (by decide) (by rfl) (by decide) (by rfl) ?_)) | walk1)) | (leave1; walk_say "STEP leave1"; try dsimp only) | fail "no step"))
  refine Stop.intro ?_
  (rename IsRange _ _ _ _ _ _ _ _ => hR)
  (rename Fr _ _ _ _ => fF)
  (rename News _ _ _ _ => nN)
  obtain ⟨pre, hpre, nN⟩ : ∃ pre : List (Addr × Obj), pre = _ ∧ News _ _ _ pre := ⟨_, rfl, nN⟩
  refine LCg.CompSrc.range (n := 6) rfl fF nN hR (by decide) (by decide) (by decide) ?_
  intro g₂
  refine comp_ind (fun i ys nw => nw = pre ∧ ∃ ns : List Int, IntsAre ys ns ∧ ns.length = i) ?_ ?_ ⟨rfl, [], .nil, rfl⟩
  · clear fF nN
    intro i v I₂ oI₂ C₂ oC₂ D₂ ys nw m₂ h₂ tk₂ E₂ hi₂ ⟨e₃, ns, hys, hnl⟩ hv hoC hx hF hN off hne
    subst e₃
    subst hpre
    obtain ⟨tv, rfl⟩ := hv
    (repeat' (first | (k_unfold; (try dsimp only)) | (k_end; wrow_close) | (k_here; (with_reducible show wpAny _ _ (call (Value.builtin "sum") [Value.ref _]) _ _ _); (refine' sum_pick ?k0 ?k1 ?k2 ?k3 ?k4 ?_; (case k0 => with_unfolding_all rfl); (case k1 => k_asm); (case k2 => k_asm); (case k3 => k_mem); (case k4 => exact IntsAre.pick (by assumption) _ _ _); k_whole); intro _ _ _ _ _) | walk1 | (dsimp only; (first | (k_here; (with_reducible show wpAny _ _ (call (Value.builtin "sum") [Value.ref _]) _ _ _); (refine' sum_pick ?k0 ?k1 ?k2 ?k3 ?k4 ?_; (case k0 => with_unfolding_all rfl); (case k1 => k_asm); (case k2 => k_asm); (case k3 => k_mem); (case k4 => exact IntsAre.pick (by assumption) _ _ _); k_whole); intro _ _ _ _ _) | walk1)) | (leave1; walk_say "STEP leave1"; try dsimp only) | fail "no step"))
    (rename Fr _ _ _ _ => f6)
    (rename News _ _ _ _ => n6)
    refine LCg.CompEnd.intro f6 n6 _ (fun p hp => ?_) off trivial ⟨rfl, ns ++ [_], hys.append (.cons _ _ .nil), by rw [List.length_append, hnl]; rfl⟩
    first | exact .tail _ hp | exact .tail _ (.tail _ hp)
  · clear fF nN
    intro ys nw ⟨e₃, ns, hys, hnl⟩
    subst e₃
    subst hpre
    refine cutG fun PC hPC => ?_
    obtain ⟨c0, c1, c2, c3, c4, c5, t0, t1, t2, t3, t4, t5, rfl⟩ := ints_six hys hnl
    refine hPC ?_
    clear hPC PC
    clear hys
    intro D₃ h₃ tk₃ F₃ N₃ off₃
    simp only [LCg.Off1] at off₃
    k_steps
    (try dsimp only)
    (rename Fr _ _ _ _ => fF)
    (rename News _ _ _ _ => nN)
    refine ret _ _ _ _ _ _ _ _ _ _ _ _ _ _ _ _ _ ?_ (by assumption) trivial fF nN
    simp only [and_true] at off₃
    exact off₃

end Mine
end

section
set_option maxRecDepth 100000
open PySem PySem.W PyProof.Rows PySem.Calls PySem.Spec
namespace Mine
theorem spl_get {H : Int} {sp : List Nat} (h0 : 0 ≤ H) (h1 : H < 3) (h : [[38, 60, 62, 13], [38, 62, 34], [38, 60, 34, 9, 10, 13]][H.toNat]? = some sp) : spl3[H.toNat]? = some sp := h

set_option maxHeartbeats 8000000 in
theorem st1 (w : World) (p : Program) (loose : List Str) (mean : ExcName → Option Value) (mg mb : Str → Option Value) (dp u : Nat) (fr : Option (List Env)) (g : Heap) (s : Shared) (L' fa : Addr) (cd : Value) (Q : Flow → Shared → Prop) (E : Value → Shared → Prop)
    (X : (Pre.hc.heap_1 w.params).In g) (T : Top p loose mean mg mb g) (hd : dp + 300 < recursionLimit) (hu : u + 3000 < cLine) (hE : PassesOwn (model PySem.Challenge.rw_zo0028_01.row.prog w) ((AR dp u fr (some [])).deeper (lenv L' fa cd)) (lenv L' fa cd) E) (m : Str → Option Value) (F : Fr g L' s.heap m) (o1 o2 o3 o4 o5 o6 o7 t65 t58 : Obj) (b65 : @LT.lt Nat _ 65 L') (b58 : @LT.lt Nat _ 58 L')
    (lc : Addr) (c0 c1 c2 c3 c4 c5 : Int) (t0 t1 t2 t3 t4 t5 : Tok) (d2 : o2.data = .cell (some (.ref lc))) (l_lc : @Ne Nat (L' + 1 + 1 + 1 + 1 + 1 + 1 + 1) lc ∧ @Ne Nat (L' + 1 + 1 + 1 + 1 + 1 + 1) lc ∧ @Ne Nat (L' + 1 + 1 + 1 + 1 + 1) lc ∧ @Ne Nat (L' + 1 + 1 + 1 + 1) lc ∧ @Ne Nat (L' + 1 + 1 + 1) lc ∧ @Ne Nat (L' + 1 + 1) lc ∧ @Ne Nat (L' + 1) lc ∧ @Ne Nat 65 lc ∧ @Ne Nat 58 lc) (ret : ∀ m' h' tk' (H : Int) th, 0 ≤ H → H < 3 →  Knows m' [(Str.ofString "hand", (Value.int H th : Value))] → Fr g L' h' m' → News g L' h' [(lc, LCg.lst [.int c0 t0, .int c1 t1, .int c2 t2, .int c3 t3, .int c4 t4, .int c5 t5]), (L' + 1 + 1 + 1 + 1 + 1 + 1 + 1, o7), (L' + 1 + 1 + 1 + 1 + 1 + 1, o6), (L' + 1 + 1 + 1 + 1 + 1, o5), (L' + 1 + 1 + 1 + 1, o4), (L' + 1 + 1 + 1, o3), (L' + 1 + 1, o2), (L' + 1, o1), (65, t65), (58, t58)] → Q .next { s with heap := h', toks := tk' }) (kn : Knows m []) (N : News g L' s.heap [(lc, LCg.lst [.int c0 t0, .int c1 t1, .int c2 t2, .int c3 t3, .int c4 t4, .int c5 t5]), (L' + 1 + 1 + 1 + 1 + 1 + 1 + 1, o7), (L' + 1 + 1 + 1 + 1 + 1 + 1, o6), (L' + 1 + 1 + 1 + 1 + 1, o5), (L' + 1 + 1 + 1 + 1, o4), (L' + 1 + 1 + 1, o3), (L' + 1 + 1, o2), (L' + 1, o1), (65, t65), (58, t58)]) :
    wpAny (model PySem.Challenge.rw_zo0028_01.row.prog w) ((AR dp u fr (some [])).deeper (lenv L' fa cd)) (exec (lawS 1) (lenv L' fa cd)) Q E s := by
  w_top off
  have _ : PySem.Challenge.rw_zo0028_01.row.prog = PySem.Challenge.rw_zo0028_01.row.prog → (Pre.hc.heap_1 w.params).In g := by (k_fill; exact fun _ => X)
  replace F := knows_fr F kn
  dsimp only [knowF] at F
  clear kn
  dsimp only [lenv, lawS, stm, lawD, recOf]

  (repeat' (first | (k_unfold; (try dsimp only)) | (k_end; wrow_close) | ((with_reducible show wpAny _ _ (binaryOp Operator.Mod (Value.int _ _) (Value.int _ _)) _ _ _); k_here; (with_reducible refine mod_var (by decide) ?_); intro _ _ _) | walk1 | (dsimp only; (first | ((with_reducible show wpAny _ _ (binaryOp Operator.Mod (Value.int _ _) (Value.int _ _)) _ _ _); k_here; (with_reducible refine mod_var (by decide) ?_); intro _ _ _) | walk1)) | (leave1; walk_say "STEP leave1"; try dsimp only) | fail "no step"))
  (try dsimp only)
  (rename Fr _ _ _ _ => fF)
  (rename News _ _ _ _ => nN)
  exact ret _ _ _ _ _ (by assumption) (by assumption) ⟨rfl, trivial⟩ fF nN
set_option maxHeartbeats 8000000 in
theorem st2 (w : World) (p : Program) (loose : List Str) (mean : ExcName → Option Value) (mg mb : Str → Option Value) (dp u : Nat) (fr : Option (List Env)) (g : Heap) (s : Shared) (L' fa : Addr) (cd : Value) (Q : Flow → Shared → Prop) (E : Value → Shared → Prop)
    (X : (Pre.hc.heap_1 w.params).In g) (T : Top p loose mean mg mb g) (hd : dp + 300 < recursionLimit) (hu : u + 3000 < cLine) (hE : PassesOwn (model PySem.Challenge.rw_zo0028_01.row.prog w) ((AR dp u fr (some [])).deeper (lenv L' fa cd)) (lenv L' fa cd) E) (m : Str → Option Value) (F : Fr g L' s.heap m) (o1 o2 o3 o4 o5 o6 o7 t65 t58 : Obj) (b65 : @LT.lt Nat _ 65 L') (b58 : @LT.lt Nat _ 58 L')
    (H : Int) (th : Tok) (h0 : 0 ≤ H) (h1 : H < 3) (d3 : o3.data = .cell none) (lc : Addr) (c0 c1 c2 c3 c4 c5 : Int) (t0 t1 t2 t3 t4 t5 : Tok) (d2 : o2.data = .cell (some (.ref lc))) (l_lc : @Ne Nat (L' + 1 + 1 + 1 + 1 + 1 + 1 + 1) lc ∧ @Ne Nat (L' + 1 + 1 + 1 + 1 + 1 + 1) lc ∧ @Ne Nat (L' + 1 + 1 + 1 + 1 + 1) lc ∧ @Ne Nat (L' + 1 + 1 + 1 + 1) lc ∧ @Ne Nat (L' + 1 + 1 + 1) lc ∧ @Ne Nat (L' + 1 + 1) lc ∧ @Ne Nat (L' + 1) lc ∧ @Ne Nat 65 lc ∧ @Ne Nat 58 lc) (ret : ∀ m' h' tk' o3' sp tsp, o3'.data = .cell (some (.str (mkS sp) tsp)) → spl3[H.toNat]? = some sp →  Knows m' [(Str.ofString "hand", (Value.int H th : Value))] → Fr g L' h' m' → News g L' h' [(lc, LCg.lst [.int c0 t0, .int c1 t1, .int c2 t2, .int c3 t3, .int c4 t4, .int c5 t5]), (L' + 1 + 1 + 1 + 1 + 1 + 1 + 1, o7), (L' + 1 + 1 + 1 + 1 + 1 + 1, o6), (L' + 1 + 1 + 1 + 1 + 1, o5), (L' + 1 + 1 + 1 + 1, o4), (L' + 1 + 1 + 1, o3'), (L' + 1 + 1, o2), (L' + 1, o1), (65, t65), (58, t58)] → Q .next { s with heap := h', toks := tk' }) (kn : Knows m [(Str.ofString "hand", (Value.int H th : Value))]) (N : News g L' s.heap [(lc, LCg.lst [.int c0 t0, .int c1 t1, .int c2 t2, .int c3 t3, .int c4 t4, .int c5 t5]), (L' + 1 + 1 + 1 + 1 + 1 + 1 + 1, o7), (L' + 1 + 1 + 1 + 1 + 1 + 1, o6), (L' + 1 + 1 + 1 + 1 + 1, o5), (L' + 1 + 1 + 1 + 1, o4), (L' + 1 + 1 + 1, o3), (L' + 1 + 1, o2), (L' + 1, o1), (65, t65), (58, t58)]) :
    wpAny (model PySem.Challenge.rw_zo0028_01.row.prog w) ((AR dp u fr (some [])).deeper (lenv L' fa cd)) (exec (lawS 2) (lenv L' fa cd)) Q E s := by
  w_top off
  have _ : PySem.Challenge.rw_zo0028_01.row.prog = PySem.Challenge.rw_zo0028_01.row.prog → (Pre.hc.heap_1 w.params).In g := by (k_fill; exact fun _ => X)
  replace F := knows_fr F kn
  dsimp only [knowF] at F
  clear kn
  dsimp only [lenv, lawS, stm, lawD, recOf]

  (repeat' (first | (k_unfold; (try dsimp only)) | (k_end; wrow_close) | (k_here; (with_reducible show wpAny _ _ (subscriptTail _ _ (Value.ref _) (Value.int _ _)) _ _ _); k_dflt ((refine' strs_item ?si1 ?si2 ?si3 ?si4 ?si5 ?si6 ?_ ?si7; (case si1 => k_asm); (case si2 => k_mem); (case si3 => first | assumption | exact (.cons [38, 60, 62, 13] _ (.cons [38, 62, 34] _ (.cons [38, 60, 34, 9, 10, 13] _ .nil)) : SL _ spl3) | exact (.cons [38] _ (.cons [60] _ (.cons [62] _ (.cons [34] _ (.cons [9] _ (.cons [13] _ (.cons [97] _ (.cons [109] _ (.cons [112] _ (.cons [59] _ (.cons [10] _ .nil)))))))))) : SL _ pool11)); (case si4 => omega); (case si5 => first | (show _ < (3 : Int); omega) | (show _ < (11 : Int); omega)); (case si6 => omega); (case si7 => with_unfolding_all rfl))); intro _ _ _) | walk1 | (dsimp only; (first | (k_here; (with_reducible show wpAny _ _ (subscriptTail _ _ (Value.ref _) (Value.int _ _)) _ _ _); k_dflt ((refine' strs_item ?si1 ?si2 ?si3 ?si4 ?si5 ?si6 ?_ ?si7; (case si1 => k_asm); (case si2 => k_mem); (case si3 => first | assumption | exact (.cons [38, 60, 62, 13] _ (.cons [38, 62, 34] _ (.cons [38, 60, 34, 9, 10, 13] _ .nil)) : SL _ spl3) | exact (.cons [38] _ (.cons [60] _ (.cons [62] _ (.cons [34] _ (.cons [9] _ (.cons [13] _ (.cons [97] _ (.cons [109] _ (.cons [112] _ (.cons [59] _ (.cons [10] _ .nil)))))))))) : SL _ pool11)); (case si4 => omega); (case si5 => first | (show _ < (3 : Int); omega) | (show _ < (11 : Int); omega)); (case si6 => omega); (case si7 => with_unfolding_all rfl))); intro _ _ _) | walk1)) | (leave1; walk_say "STEP leave1"; try dsimp only) | fail "no step"))
  (try dsimp only)
  (rename Fr _ _ _ _ => fF)
  (rename News _ _ _ _ => nN)
  exact ret _ _ _ _ _ _ (by assumption) (by assumption) ⟨rfl, trivial⟩ fF (news_subl nN fun p hp => .tail _ hp)
set_option maxHeartbeats 8000000 in
theorem st3 (w : World) (p : Program) (loose : List Str) (mean : ExcName → Option Value) (mg mb : Str → Option Value) (dp u : Nat) (fr : Option (List Env)) (g : Heap) (s : Shared) (L' fa : Addr) (cd : Value) (Q : Flow → Shared → Prop) (E : Value → Shared → Prop)
    (X : (Pre.hc.heap_1 w.params).In g) (T : Top p loose mean mg mb g) (hd : dp + 300 < recursionLimit) (hu : u + 3000 < cLine) (hE : PassesOwn (model PySem.Challenge.rw_zo0028_01.row.prog w) ((AR dp u fr (some [])).deeper (lenv L' fa cd)) (lenv L' fa cd) E) (m : Str → Option Value) (F : Fr g L' s.heap m) (o1 o2 o3 o4 o5 o6 o7 t65 t58 : Obj) (b65 : @LT.lt Nat _ 65 L') (b58 : @LT.lt Nat _ 58 L')
    (H : Int) (th : Tok) (d4 : o4.data = .cell none) (lc : Addr) (c0 c1 c2 c3 c4 c5 : Int) (t0 t1 t2 t3 t4 t5 : Tok) (d2 : o2.data = .cell (some (.ref lc))) (l_lc : @Ne Nat (L' + 1 + 1 + 1 + 1 + 1 + 1 + 1) lc ∧ @Ne Nat (L' + 1 + 1 + 1 + 1 + 1 + 1) lc ∧ @Ne Nat (L' + 1 + 1 + 1 + 1 + 1) lc ∧ @Ne Nat (L' + 1 + 1 + 1 + 1) lc ∧ @Ne Nat (L' + 1 + 1 + 1) lc ∧ @Ne Nat (L' + 1 + 1) lc ∧ @Ne Nat (L' + 1) lc ∧ @Ne Nat 65 lc ∧ @Ne Nat 58 lc) (ret : ∀ m' h' tk' (nd : Addr) on o4' kvs, o4'.data = .cell (some (.ref nd)) → on.IsDictOf (PySem.strKind PySem.Challenge.rw_zo0028_01.row.prog w) kvs → (∀ c ∈ sevenS, ∃ t, valueAt kvs (mkS [c]) = some (Value.str (mkS (nmOf c)) t)) → (nd == sysModules) = false → @LT.lt Nat _ (L' + 1 + 1 + 1 + 1 + 1 + 1 + 1) nd → @LT.lt Nat _ lc nd →  Knows m' [(Str.ofString "hand", (Value.int H th : Value))] → Fr g L' h' m' → News g L' h' [(nd, on), (lc, LCg.lst [.int c0 t0, .int c1 t1, .int c2 t2, .int c3 t3, .int c4 t4, .int c5 t5]), (L' + 1 + 1 + 1 + 1 + 1 + 1 + 1, o7), (L' + 1 + 1 + 1 + 1 + 1 + 1, o6), (L' + 1 + 1 + 1 + 1 + 1, o5), (L' + 1 + 1 + 1 + 1, o4'), (L' + 1 + 1 + 1, o3), (L' + 1 + 1, o2), (L' + 1, o1), (65, t65), (58, t58)] → Q .next { s with heap := h', toks := tk' }) (kn : Knows m [(Str.ofString "hand", (Value.int H th : Value))]) (N : News g L' s.heap [(lc, LCg.lst [.int c0 t0, .int c1 t1, .int c2 t2, .int c3 t3, .int c4 t4, .int c5 t5]), (L' + 1 + 1 + 1 + 1 + 1 + 1 + 1, o7), (L' + 1 + 1 + 1 + 1 + 1 + 1, o6), (L' + 1 + 1 + 1 + 1 + 1, o5), (L' + 1 + 1 + 1 + 1, o4), (L' + 1 + 1 + 1, o3), (L' + 1 + 1, o2), (L' + 1, o1), (65, t65), (58, t58)]) :
    wpAny (model PySem.Challenge.rw_zo0028_01.row.prog w) ((AR dp u fr (some [])).deeper (lenv L' fa cd)) (exec (lawS 3) (lenv L' fa cd)) Q E s := by
  w_top off
  have _ : PySem.Challenge.rw_zo0028_01.row.prog = PySem.Challenge.rw_zo0028_01.row.prog → (Pre.hc.heap_1 w.params).In g := by (k_fill; exact fun _ => X)
  replace F := knows_fr F kn
  dsimp only [knowF] at F
  clear kn
  dsimp only [lenv, lawS, stm, lawD, recOf]

  (repeat' (first | (k_unfold; (try dsimp only)) | (k_end; wrow_close) | ((with_reducible show wpAny _ _ (eval (PySem.Expr.Dict _ _ _) _) _ _ _); k_here; k_dflt ((refine' kdn_eval (knd := PySem.strKind _ _) ?F ?N ?b ?a ?l ?e ?n ?_; (case F => k_asm); (case N => first | k_asm | exact News.nil); (case b => exact Top.nolimit (by k_asm)); (case a => rfl); (case l => rfl); (case e => exact List.cons_ne_nil _ _); (case n => exact Nat.le_of_ble_eq_true rfl))); intro _ _ _ _ _ lnd _ _; (try k_lt lnd)) | walk1 | (dsimp only; (first | ((with_reducible show wpAny _ _ (eval (PySem.Expr.Dict _ _ _) _) _ _ _); k_here; k_dflt ((refine' kdn_eval (knd := PySem.strKind _ _) ?F ?N ?b ?a ?l ?e ?n ?_; (case F => k_asm); (case N => first | k_asm | exact News.nil); (case b => exact Top.nolimit (by k_asm)); (case a => rfl); (case l => rfl); (case e => exact List.cons_ne_nil _ _); (case n => exact Nat.le_of_ble_eq_true rfl))); intro _ _ _ _ _ l1 _ _; (try k_lt l1)) | walk1)) | (leave1; walk_say "STEP leave1"; try dsimp only) | fail "no step"))
  (try dsimp only)
  (rename Fr _ _ _ _ => fF)
  (rename News _ _ _ _ => nN)
  (rename_i nd hx2 on0 lon hd0 hx3 on hdn hfl hx4 onm dnm)
  clear hfl hd0
  dsimp only at hdn
  have hz := @names_abs Challenge.rw_zo0028_01.row.prog w on _ _ _ _ _ _ _ _ _ _ _ _ _ _ hdn
  obtain ⟨kvs, hk1, hk2⟩ := hz
  exact ret _ _ _ nd on onm kvs dnm hk1 hk2 lon (by omega) (by omega) ⟨rfl, trivial⟩ fF nN
set_option maxHeartbeats 8000000 in
theorem st4 (w : World) (p : Program) (loose : List Str) (mean : ExcName → Option Value) (mg mb : Str → Option Value) (dp u : Nat) (fr : Option (List Env)) (g : Heap) (s : Shared) (L' fa : Addr) (cd : Value) (Q : Flow → Shared → Prop) (E : Value → Shared → Prop)
    (X : (Pre.hc.heap_1 w.params).In g) (T : Top p loose mean mg mb g) (hd : dp + 300 < recursionLimit) (hu : u + 3000 < cLine) (hE : PassesOwn (model PySem.Challenge.rw_zo0028_01.row.prog w) ((AR dp u fr (some [])).deeper (lenv L' fa cd)) (lenv L' fa cd) E) (m : Str → Option Value) (F : Fr g L' s.heap m) (o1 o2 o3 o4 o5 o6 o7 t65 t58 : Obj) (b65 : @LT.lt Nat _ 65 L') (b58 : @LT.lt Nat _ 58 L')
    (H : Int) (th : Tok) (nd : Addr) (on : Obj) (l_nd : @LT.lt Nat _ (L' + 1 + 1 + 1 + 1 + 1 + 1 + 1) nd) (lc : Addr) (c0 c1 c2 c3 c4 c5 : Int) (t0 t1 t2 t3 t4 t5 : Tok) (d2 : o2.data = .cell (some (.ref lc))) (l_lc : @Ne Nat (L' + 1 + 1 + 1 + 1 + 1 + 1 + 1) lc ∧ @Ne Nat (L' + 1 + 1 + 1 + 1 + 1 + 1) lc ∧ @Ne Nat (L' + 1 + 1 + 1 + 1 + 1) lc ∧ @Ne Nat (L' + 1 + 1 + 1 + 1) lc ∧ @Ne Nat (L' + 1 + 1 + 1) lc ∧ @Ne Nat (L' + 1 + 1) lc ∧ @Ne Nat (L' + 1) lc ∧ @Ne Nat 65 lc ∧ @Ne Nat 58 lc) (ret : ∀ m' h' tk' (lp : Addr) its np, SL its pool11 → @LT.lt Nat _ (L' + 1 + 1 + 1 + 1 + 1 + 1 + 1) lp →  Knows m' [(Str.ofString "pool", (Value.ref lp : Value)), (Str.ofString "hand", (Value.int H th : Value))] → Fr g L' h' m' → News g L' h' [(lp, listOf its.toArray np), (nd, on), (lc, LCg.lst [.int c0 t0, .int c1 t1, .int c2 t2, .int c3 t3, .int c4 t4, .int c5 t5]), (L' + 1 + 1 + 1 + 1 + 1 + 1 + 1, o7), (L' + 1 + 1 + 1 + 1 + 1 + 1, o6), (L' + 1 + 1 + 1 + 1 + 1, o5), (L' + 1 + 1 + 1 + 1, o4), (L' + 1 + 1 + 1, o3), (L' + 1 + 1, o2), (L' + 1, o1), (65, t65), (58, t58)] → Q .next { s with heap := h', toks := tk' }) (kn : Knows m [(Str.ofString "hand", (Value.int H th : Value))]) (N : News g L' s.heap [(nd, on), (lc, LCg.lst [.int c0 t0, .int c1 t1, .int c2 t2, .int c3 t3, .int c4 t4, .int c5 t5]), (L' + 1 + 1 + 1 + 1 + 1 + 1 + 1, o7), (L' + 1 + 1 + 1 + 1 + 1 + 1, o6), (L' + 1 + 1 + 1 + 1 + 1, o5), (L' + 1 + 1 + 1 + 1, o4), (L' + 1 + 1 + 1, o3), (L' + 1 + 1, o2), (L' + 1, o1), (65, t65), (58, t58)]) :
    wpAny (model PySem.Challenge.rw_zo0028_01.row.prog w) ((AR dp u fr (some [])).deeper (lenv L' fa cd)) (exec (lawS 4) (lenv L' fa cd)) Q E s := by
  w_top off
  have _ : PySem.Challenge.rw_zo0028_01.row.prog = PySem.Challenge.rw_zo0028_01.row.prog → (Pre.hc.heap_1 w.params).In g := by (k_fill; exact fun _ => X)
  replace F := knows_fr F kn
  dsimp only [knowF] at F
  clear kn
  dsimp only [lenv, lawS, stm, lawD, recOf]

  k_steps
  (try dsimp only)
  (rename Fr _ _ _ _ => fF)
  (rename News _ _ _ _ => nN)
  exact ret _ _ _ _ _ _ (.cons [38] _ (.cons [60] _ (.cons [62] _ (.cons [34] _ (.cons [9] _ (.cons [13] _ (.cons [97] _ (.cons [109] _ (.cons [112] _ (.cons [59] _ (.cons [10] _ .nil)))))))))) ) (by omega) ⟨rfl, rfl, trivial⟩ fF nN

end Mine
end

section
set_option maxRecDepth 100000
open PySem PySem.W PyProof.Rows PySem.Calls PySem.Spec
namespace Mine
theorem pool_one {i : Nat} {l : List Nat} (h : pool11[i]? = some l) : l.length = 1 := by
  have : ∀ x ∈ pool11, x.length = 1 := by decide
  exact this l (List.mem_of_getElem? h)
theorem kn_thin {m : Str → Option Value} {l l' : List (Str × Value)} (h : Knows m l) (s : ∀ p ∈ l', p ∈ l) : Knows m l' := by
  induction l' with
  | nil => trivial
  | cons q r ih =>
    refine ⟨?_, ih fun p hp => s p (.tail _ hp)⟩
    have : ∀ {l : List (Str × Value)}, Knows m l → ∀ p ∈ l, m p.1 = some p.2 := by
      intro l hl p hp
      induction l with
      | nil => exact nomatch hp
      | cons a b ihb =>
        rcases List.mem_cons.mp hp with rfl | hp
        · exact hl.1
        · exact ihb hl.2 hp
    exact this h q (s q (.head _))

set_option maxHeartbeats 8000000 in
theorem st5 (w : World) (p : Program) (loose : List Str) (mean : ExcName → Option Value) (mg mb : Str → Option Value) (dp u : Nat) (fr : Option (List Env)) (g : Heap) (s : Shared) (L' fa : Addr) (cd : Value) (Q : Flow → Shared → Prop) (E : Value → Shared → Prop)
    (X : (Pre.hc.heap_1 w.params).In g) (T : Top p loose mean mg mb g) (hd : dp + 300 < recursionLimit) (hu : u + 3000 < cLine) (hE : PassesOwn (model PySem.Challenge.rw_zo0028_01.row.prog w) ((AR dp u fr (some [])).deeper (lenv L' fa cd)) (lenv L' fa cd) E) (m : Str → Option Value) (F : Fr g L' s.heap m) (o1 o2 o3 o4 o5 o6 o7 t65 t58 : Obj) (b65 : @LT.lt Nat _ 65 L') (b58 : @LT.lt Nat _ 58 L')
    (H : Int) (th : Tok) (lp : Addr) (its : List Value) (np : Nat) (lc : Addr) (c0 c1 c2 c3 c4 c5 : Int) (t0 t1 t2 t3 t4 t5 : Tok) (d2 : o2.data = .cell (some (.ref lc))) (l_lc : @Ne Nat (L' + 1 + 1 + 1 + 1 + 1 + 1 + 1) lc ∧ @Ne Nat (L' + 1 + 1 + 1 + 1 + 1 + 1) lc ∧ @Ne Nat (L' + 1 + 1 + 1 + 1 + 1) lc ∧ @Ne Nat (L' + 1 + 1 + 1 + 1) lc ∧ @Ne Nat (L' + 1 + 1 + 1) lc ∧ @Ne Nat (L' + 1 + 1) lc ∧ @Ne Nat (L' + 1) lc ∧ @Ne Nat 65 lc ∧ @Ne Nat 58 lc) (nd : Addr) (on : Obj) (l_nd : @LT.lt Nat _ (L' + 1 + 1 + 1 + 1 + 1 + 1 + 1) nd) (l_lp : @LT.lt Nat _ (L' + 1 + 1 + 1 + 1 + 1 + 1 + 1) lp) (hSL : SL its pool11) (d5 : o5.data = .cell none) (ret : ∀ m' h' tk' o5' tl t, o5'.data = .cell (some (.str (mkS tl) t)) → tl.length = 3 →  Knows m' [(Str.ofString "hand", (Value.int H th : Value))] → Fr g L' h' m' → News g L' h' [(nd, on), (lc, LCg.lst [.int c0 t0, .int c1 t1, .int c2 t2, .int c3 t3, .int c4 t4, .int c5 t5]), (L' + 1 + 1 + 1 + 1 + 1 + 1 + 1, o7), (L' + 1 + 1 + 1 + 1 + 1 + 1, o6), (L' + 1 + 1 + 1 + 1 + 1, o5'), (L' + 1 + 1 + 1 + 1, o4), (L' + 1 + 1 + 1, o3), (L' + 1 + 1, o2), (L' + 1, o1), (65, t65), (58, t58)] → Q .next { s with heap := h', toks := tk' }) (kn : Knows m [(Str.ofString "pool", (Value.ref lp : Value)), (Str.ofString "hand", (Value.int H th : Value))]) (N : News g L' s.heap [(lp, listOf its.toArray np), (nd, on), (lc, LCg.lst [.int c0 t0, .int c1 t1, .int c2 t2, .int c3 t3, .int c4 t4, .int c5 t5]), (L' + 1 + 1 + 1 + 1 + 1 + 1 + 1, o7), (L' + 1 + 1 + 1 + 1 + 1 + 1, o6), (L' + 1 + 1 + 1 + 1 + 1, o5), (L' + 1 + 1 + 1 + 1, o4), (L' + 1 + 1 + 1, o3), (L' + 1 + 1, o2), (L' + 1, o1), (65, t65), (58, t58)]) :
    wpAny (model PySem.Challenge.rw_zo0028_01.row.prog w) ((AR dp u fr (some [])).deeper (lenv L' fa cd)) (exec (lawS 5) (lenv L' fa cd)) Q E s := by
  w_top off
  have _ : PySem.Challenge.rw_zo0028_01.row.prog = PySem.Challenge.rw_zo0028_01.row.prog → (Pre.hc.heap_1 w.params).In g := by (k_fill; exact fun _ => X)
  replace F := knows_fr F kn
  dsimp only [knowF] at F
  clear kn
  dsimp only [lenv, lawS, stm, lawD, recOf]

  (repeat' (first | (k_unfold; (try dsimp only)) | (k_end; wrow_close) | (k_here; (with_reducible show wpAny _ _ (subscriptTail _ _ (Value.ref _) (Value.int _ _)) _ _ _); k_dflt ((refine' strs_item ?si1 ?si2 ?si3 ?si4 ?si5 ?si6 ?_ ?si7; (case si1 => k_asm); (case si2 => k_mem); (case si3 => assumption); (case si4 => omega); (case si5 => (show _ < (11 : Int); omega)); (case si6 => omega); (case si7 => with_unfolding_all rfl))); intro _ _ eS; (have zS := pool_one eS)) | (k_here; (with_reducible show wpAny _ _ (binaryOp Operator.Add (Value.str (mkS _) _) (Value.str _ _)) _ _ _); first | ((with_reducible show wpAny _ _ (binaryOp Operator.Add (Value.str (mkS _) _) (Value.str (mkS _) _)) _ _ _); (refine' add_texts rfl (by (try simp only [List.length_append, List.length_cons, List.length_nil]); omega) ?_); intro _ _) | ((refine' add_texts (b := [38]) rfl (by (try simp only [List.length_append, List.length_cons, List.length_nil]); omega) ?_); intro _ _)) | ((with_reducible show wpAny _ _ (binaryOp Operator.Mod (Value.int _ _) (Value.int _ _)) _ _ _); k_here; (with_reducible refine mod_var (by decide) ?_); intro _ _ _) | walk1 | (dsimp only; (first | (k_here; (with_reducible show wpAny _ _ (subscriptTail _ _ (Value.ref _) (Value.int _ _)) _ _ _); k_dflt ((refine' strs_item ?si1 ?si2 ?si3 ?si4 ?si5 ?si6 ?_ ?si7; (case si1 => k_asm); (case si2 => k_mem); (case si3 => assumption); (case si4 => omega); (case si5 => (show _ < (11 : Int); omega)); (case si6 => omega); (case si7 => with_unfolding_all rfl))); intro _ _ eS; (have zS := pool_one eS)) | (k_here; (with_reducible show wpAny _ _ (binaryOp Operator.Add (Value.str (mkS _) _) (Value.str _ _)) _ _ _); first | ((with_reducible show wpAny _ _ (binaryOp Operator.Add (Value.str (mkS _) _) (Value.str (mkS _) _)) _ _ _); (refine' add_texts rfl (by (try simp only [List.length_append, List.length_cons, List.length_nil]); omega) ?_); intro _ _) | ((refine' add_texts (b := [38]) rfl (by (try simp only [List.length_append, List.length_cons, List.length_nil]); omega) ?_); intro _ _)) | ((with_reducible show wpAny _ _ (binaryOp Operator.Mod (Value.int _ _) (Value.int _ _)) _ _ _); k_here; (with_reducible refine mod_var (by decide) ?_); intro _ _ _) | walk1)) | (leave1; walk_say "STEP leave1"; try dsimp only) | fail "no step"))
  dsimp only
  (rename Fr _ _ _ _ => fF)
  (rename News _ _ _ _ => nN)
  refine ret _ _ _ _ _ _ (by assumption) ?_ ⟨rfl, trivial⟩ fF (news_subl nN fun p hp => .tail _ hp)
  simp only [List.length_append, List.length_cons, List.length_nil]; omega

end Mine
end

section
set_option maxRecDepth 100000
open PySem PySem.W PyProof.Rows PySem.Calls PySem.Spec
namespace Mine

set_option maxHeartbeats 8000000 in
theorem st6 (w : World) (p : Program) (loose : List Str) (mean : ExcName → Option Value) (mg mb : Str → Option Value) (dp u : Nat) (fr : Option (List Env)) (g : Heap) (s : Shared) (L' fa : Addr) (cd : Value) (Q : Flow → Shared → Prop) (E : Value → Shared → Prop)
    (X : (Pre.hc.heap_1 w.params).In g) (T : Top p loose mean mg mb g) (hd : dp + 300 < recursionLimit) (hu : u + 3000 < cLine) (hE : PassesOwn (model PySem.Challenge.rw_zo0028_01.row.prog w) ((AR dp u fr (some [])).deeper (lenv L' fa cd)) (lenv L' fa cd) E) (m : Str → Option Value) (F : Fr g L' s.heap m) (o1 o2 o3 o4 o5 o6 o7 t65 t58 : Obj) (b65 : @LT.lt Nat _ 65 L') (b58 : @LT.lt Nat _ 58 L')
    (H : Int) (th : Tok) (lc : Addr) (c0 c1 c2 c3 c4 c5 : Int) (t0 t1 t2 t3 t4 t5 : Tok) (d2 : o2.data = .cell (some (.ref lc))) (l_lc : @Ne Nat (L' + 1 + 1 + 1 + 1 + 1 + 1 + 1) lc ∧ @Ne Nat (L' + 1 + 1 + 1 + 1 + 1 + 1) lc ∧ @Ne Nat (L' + 1 + 1 + 1 + 1 + 1) lc ∧ @Ne Nat (L' + 1 + 1 + 1 + 1) lc ∧ @Ne Nat (L' + 1 + 1 + 1) lc ∧ @Ne Nat (L' + 1 + 1) lc ∧ @Ne Nat (L' + 1) lc ∧ @Ne Nat 65 lc ∧ @Ne Nat 58 lc) (nd : Addr) (on : Obj) (l_nd : @LT.lt Nat _ (L' + 1 + 1 + 1 + 1 + 1 + 1 + 1) nd) (ret : ∀ m' h' tk' dg tg, 2 ≤ dg → dg ≤ 3 →  Knows m' [(Str.ofString "hand", (Value.int H th : Value)), (Str.ofString "degree", (Value.int dg tg : Value))] → Fr g L' h' m' → News g L' h' [(nd, on), (lc, LCg.lst [.int c0 t0, .int c1 t1, .int c2 t2, .int c3 t3, .int c4 t4, .int c5 t5]), (L' + 1 + 1 + 1 + 1 + 1 + 1 + 1, o7), (L' + 1 + 1 + 1 + 1 + 1 + 1, o6), (L' + 1 + 1 + 1 + 1 + 1, o5), (L' + 1 + 1 + 1 + 1, o4), (L' + 1 + 1 + 1, o3), (L' + 1 + 1, o2), (L' + 1, o1), (65, t65), (58, t58)] → Q .next { s with heap := h', toks := tk' }) (kn : Knows m [(Str.ofString "hand", (Value.int H th : Value))]) (N : News g L' s.heap [(nd, on), (lc, LCg.lst [.int c0 t0, .int c1 t1, .int c2 t2, .int c3 t3, .int c4 t4, .int c5 t5]), (L' + 1 + 1 + 1 + 1 + 1 + 1 + 1, o7), (L' + 1 + 1 + 1 + 1 + 1 + 1, o6), (L' + 1 + 1 + 1 + 1 + 1, o5), (L' + 1 + 1 + 1 + 1, o4), (L' + 1 + 1 + 1, o3), (L' + 1 + 1, o2), (L' + 1, o1), (65, t65), (58, t58)]) :
    wpAny (model PySem.Challenge.rw_zo0028_01.row.prog w) ((AR dp u fr (some [])).deeper (lenv L' fa cd)) (exec (lawS 6) (lenv L' fa cd)) Q E s := by
  w_top off
  have _ : PySem.Challenge.rw_zo0028_01.row.prog = PySem.Challenge.rw_zo0028_01.row.prog → (Pre.hc.heap_1 w.params).In g := by (k_fill; exact fun _ => X)
  replace F := knows_fr F kn
  dsimp only [knowF] at F
  clear kn
  dsimp only [lenv, lawS, stm, lawD, recOf]

  (repeat' (first | (k_unfold; (try dsimp only)) | (k_end; wrow_close) | ((with_reducible show wpAny _ _ (binaryOp Operator.Mod (Value.int _ _) (Value.int _ _)) _ _ _); k_here; (with_reducible refine mod_var (by decide) ?_); intro _ _ _) | walk1 | (dsimp only; (first | ((with_reducible show wpAny _ _ (binaryOp Operator.Mod (Value.int _ _) (Value.int _ _)) _ _ _); k_here; (with_reducible refine mod_var (by decide) ?_); intro _ _ _) | walk1)) | (leave1; walk_say "STEP leave1"; try dsimp only) | fail "no step"))
  dsimp only
  (rename Fr _ _ _ _ => fF)
  (rename News _ _ _ _ => nN)
  exact ret _ _ _ _ _ (by omega) (by omega) ⟨rfl, rfl, trivial⟩ fF nN
set_option maxHeartbeats 8000000 in
theorem st8 (w : World) (p : Program) (loose : List Str) (mean : ExcName → Option Value) (mg mb : Str → Option Value) (dp u : Nat) (fr : Option (List Env)) (g : Heap) (s : Shared) (L' fa : Addr) (cd : Value) (Q : Flow → Shared → Prop) (E : Value → Shared → Prop)
    (X : (Pre.hc.heap_1 w.params).In g) (T : Top p loose mean mg mb g) (hd : dp + 300 < recursionLimit) (hu : u + 3000 < cLine) (hE : PassesOwn (model PySem.Challenge.rw_zo0028_01.row.prog w) ((AR dp u fr (some [])).deeper (lenv L' fa cd)) (lenv L' fa cd) E) (m : Str → Option Value) (F : Fr g L' s.heap m) (o1 o2 o3 o4 o5 o6 o7 t65 t58 : Obj) (b65 : @LT.lt Nat _ 65 L') (b58 : @LT.lt Nat _ 58 L')
    (H : Int) (th : Tok) (dg : Int) (tg : Tok) (d7 : o7.data = .cell none) (lc : Addr) (c0 c1 c2 c3 c4 c5 : Int) (t0 t1 t2 t3 t4 t5 : Tok) (d2 : o2.data = .cell (some (.ref lc))) (l_lc : @Ne Nat (L' + 1 + 1 + 1 + 1 + 1 + 1 + 1) lc ∧ @Ne Nat (L' + 1 + 1 + 1 + 1 + 1 + 1) lc ∧ @Ne Nat (L' + 1 + 1 + 1 + 1 + 1) lc ∧ @Ne Nat (L' + 1 + 1 + 1 + 1) lc ∧ @Ne Nat (L' + 1 + 1 + 1) lc ∧ @Ne Nat (L' + 1 + 1) lc ∧ @Ne Nat (L' + 1) lc ∧ @Ne Nat 65 lc ∧ @Ne Nat 58 lc) (nd : Addr) (on : Obj) (l_nd : @LT.lt Nat _ (L' + 1 + 1 + 1 + 1 + 1 + 1 + 1) nd) (ret : ∀ m' h' tk' o7' sz tz, o7'.data = .cell (some (.int sz tz)) → 5 ≤ sz → sz ≤ 7 →  Knows m' [(Str.ofString "hand", (Value.int H th : Value)), (Str.ofString "degree", (Value.int dg tg : Value))] → Fr g L' h' m' → News g L' h' [(nd, on), (lc, LCg.lst [.int c0 t0, .int c1 t1, .int c2 t2, .int c3 t3, .int c4 t4, .int c5 t5]), (L' + 1 + 1 + 1 + 1 + 1 + 1 + 1, o7'), (L' + 1 + 1 + 1 + 1 + 1 + 1, o6), (L' + 1 + 1 + 1 + 1 + 1, o5), (L' + 1 + 1 + 1 + 1, o4), (L' + 1 + 1 + 1, o3), (L' + 1 + 1, o2), (L' + 1, o1), (65, t65), (58, t58)] → Q .next { s with heap := h', toks := tk' }) (kn : Knows m [(Str.ofString "hand", (Value.int H th : Value)), (Str.ofString "degree", (Value.int dg tg : Value))]) (N : News g L' s.heap [(nd, on), (lc, LCg.lst [.int c0 t0, .int c1 t1, .int c2 t2, .int c3 t3, .int c4 t4, .int c5 t5]), (L' + 1 + 1 + 1 + 1 + 1 + 1 + 1, o7), (L' + 1 + 1 + 1 + 1 + 1 + 1, o6), (L' + 1 + 1 + 1 + 1 + 1, o5), (L' + 1 + 1 + 1 + 1, o4), (L' + 1 + 1 + 1, o3), (L' + 1 + 1, o2), (L' + 1, o1), (65, t65), (58, t58)]) :
    wpAny (model PySem.Challenge.rw_zo0028_01.row.prog w) ((AR dp u fr (some [])).deeper (lenv L' fa cd)) (exec (lawS 8) (lenv L' fa cd)) Q E s := by
  w_top off
  have _ : PySem.Challenge.rw_zo0028_01.row.prog = PySem.Challenge.rw_zo0028_01.row.prog → (Pre.hc.heap_1 w.params).In g := by (k_fill; exact fun _ => X)
  replace F := knows_fr F kn
  dsimp only [knowF] at F
  clear kn
  dsimp only [lenv, lawS, stm, lawD, recOf]

  k_steps
  dsimp only
  (rename Fr _ _ _ _ => fF)
  (rename News _ _ _ _ => nN)
  exact ret _ _ _ _ _ _ (by assumption) (by omega) (by omega) ⟨rfl, rfl, trivial⟩ fF nN
set_option maxHeartbeats 8000000 in
theorem st9 (w : World) (p : Program) (loose : List Str) (mean : ExcName → Option Value) (mg mb : Str → Option Value) (dp u : Nat) (fr : Option (List Env)) (g : Heap) (s : Shared) (L' fa : Addr) (cd : Value) (Q : Flow → Shared → Prop) (E : Value → Shared → Prop)
    (X : (Pre.hc.heap_1 w.params).In g) (T : Top p loose mean mg mb g) (hd : dp + 300 < recursionLimit) (hu : u + 3000 < cLine) (hE : PassesOwn (model PySem.Challenge.rw_zo0028_01.row.prog w) ((AR dp u fr (some [])).deeper (lenv L' fa cd)) (lenv L' fa cd) E) (m : Str → Option Value) (F : Fr g L' s.heap m) (o1 o2 o3 o4 o5 o6 o7 t65 t58 : Obj) (b65 : @LT.lt Nat _ 65 L') (b58 : @LT.lt Nat _ 58 L')
    (H : Int) (th : Tok) (dg : Int) (tg : Tok) (dg1 : 2 ≤ dg) (dg2 : dg ≤ 3) (nd : Addr) (on : Obj) (l_nd : @LT.lt Nat _ (L' + 1 + 1 + 1 + 1 + 1 + 1 + 1) nd) (ret : ∀ m' h' tk' tm,  Knows m' [(Str.ofString "hand", (Value.int H th : Value)), (Str.ofString "degree", (Value.int dg tg : Value)), (Str.ofString "many", (Value.int (dg + 2) tm : Value))] → Fr g L' h' m' → News g L' h' [(nd, on), (L' + 1 + 1 + 1 + 1 + 1 + 1 + 1, o7), (L' + 1 + 1 + 1 + 1 + 1 + 1, o6), (L' + 1 + 1 + 1 + 1 + 1, o5), (L' + 1 + 1 + 1 + 1, o4), (L' + 1 + 1 + 1, o3), (L' + 1 + 1, o2), (L' + 1, o1), (65, t65), (58, t58)] → Q .next { s with heap := h', toks := tk' }) (kn : Knows m [(Str.ofString "hand", (Value.int H th : Value)), (Str.ofString "degree", (Value.int dg tg : Value))]) (N : News g L' s.heap [(nd, on), (L' + 1 + 1 + 1 + 1 + 1 + 1 + 1, o7), (L' + 1 + 1 + 1 + 1 + 1 + 1, o6), (L' + 1 + 1 + 1 + 1 + 1, o5), (L' + 1 + 1 + 1 + 1, o4), (L' + 1 + 1 + 1, o3), (L' + 1 + 1, o2), (L' + 1, o1), (65, t65), (58, t58)]) :
    wpAny (model PySem.Challenge.rw_zo0028_01.row.prog w) ((AR dp u fr (some [])).deeper (lenv L' fa cd)) (exec (lawS 9) (lenv L' fa cd)) Q E s := by
  w_top off
  have _ : PySem.Challenge.rw_zo0028_01.row.prog = PySem.Challenge.rw_zo0028_01.row.prog → (Pre.hc.heap_1 w.params).In g := by (k_fill; exact fun _ => X)
  replace F := knows_fr F kn
  dsimp only [knowF] at F
  clear kn
  dsimp only [lenv, lawS, stm, lawD, recOf]

  k_steps
  dsimp only
  (rename Fr _ _ _ _ => fF)
  (rename News _ _ _ _ => nN)
  exact ret _ _ _ _ ⟨rfl, rfl, rfl, trivial⟩ fF nN
set_option maxHeartbeats 8000000 in
theorem st10 (w : World) (p : Program) (loose : List Str) (mean : ExcName → Option Value) (mg mb : Str → Option Value) (dp u : Nat) (fr : Option (List Env)) (g : Heap) (s : Shared) (L' fa : Addr) (cd : Value) (Q : Flow → Shared → Prop) (E : Value → Shared → Prop)
    (X : (Pre.hc.heap_1 w.params).In g) (T : Top p loose mean mg mb g) (hd : dp + 300 < recursionLimit) (hu : u + 3000 < cLine) (hE : PassesOwn (model PySem.Challenge.rw_zo0028_01.row.prog w) ((AR dp u fr (some [])).deeper (lenv L' fa cd)) (lenv L' fa cd) E) (m : Str → Option Value) (F : Fr g L' s.heap m) (o1 o2 o3 o4 o5 o6 o7 t65 t58 : Obj) (b65 : @LT.lt Nat _ 65 L') (b58 : @LT.lt Nat _ 58 L')
    (H : Int) (th : Tok) (dg : Int) (tg tm : Tok) (tl : List Nat) (tt : Tok) (d5 : o5.data = .cell (some (.str (mkS tl) tt))) (nd : Addr) (on : Obj) (l_nd : @LT.lt Nat _ (L' + 1 + 1 + 1 + 1 + 1 + 1 + 1) nd) (ret : ∀ m' h' tk' lw, @LT.lt Nat _ (L' + 1 + 1 + 1 + 1 + 1 + 1 + 1) lw → @LT.lt Nat _ nd lw →  Knows m' [(Str.ofString "hand", (Value.int H th : Value)), (Str.ofString "degree", (Value.int dg tg : Value)), (Str.ofString "many", (Value.int (dg + 2) tm : Value)), (Str.ofString "writings", (Value.ref lw : Value))] → Fr g L' h' m' → News g L' h' [(lw, listOf [.str (mkS tl) tt].toArray 0), (nd, on), (L' + 1 + 1 + 1 + 1 + 1 + 1 + 1, o7), (L' + 1 + 1 + 1 + 1 + 1 + 1, o6), (L' + 1 + 1 + 1 + 1 + 1, o5), (L' + 1 + 1 + 1 + 1, o4), (L' + 1 + 1 + 1, o3), (L' + 1 + 1, o2), (L' + 1, o1), (65, t65), (58, t58)] → Q .next { s with heap := h', toks := tk' }) (kn : Knows m [(Str.ofString "hand", (Value.int H th : Value)), (Str.ofString "degree", (Value.int dg tg : Value)), (Str.ofString "many", (Value.int (dg + 2) tm : Value))]) (N : News g L' s.heap [(nd, on), (L' + 1 + 1 + 1 + 1 + 1 + 1 + 1, o7), (L' + 1 + 1 + 1 + 1 + 1 + 1, o6), (L' + 1 + 1 + 1 + 1 + 1, o5), (L' + 1 + 1 + 1 + 1, o4), (L' + 1 + 1 + 1, o3), (L' + 1 + 1, o2), (L' + 1, o1), (65, t65), (58, t58)]) :
    wpAny (model PySem.Challenge.rw_zo0028_01.row.prog w) ((AR dp u fr (some [])).deeper (lenv L' fa cd)) (exec (lawS 10) (lenv L' fa cd)) Q E s := by
  w_top off
  have _ : PySem.Challenge.rw_zo0028_01.row.prog = PySem.Challenge.rw_zo0028_01.row.prog → (Pre.hc.heap_1 w.params).In g := by (k_fill; exact fun _ => X)
  replace F := knows_fr F kn
  dsimp only [knowF] at F
  clear kn
  dsimp only [lenv, lawS, stm, lawD, recOf]

  k_steps
  dsimp only
  (rename Fr _ _ _ _ => fF)
  (rename News _ _ _ _ => nN)
  exact ret _ _ _ _ (by omega) (by omega) ⟨rfl, rfl, rfl, rfl, trivial⟩ fF nN

end Mine
end

section
set_option maxRecDepth 100000
open PySem PySem.W PyProof.Rows PySem.Calls PySem.Spec
namespace Mine
theorem strs_append {a b : List Value} {x y : List Str} (h : StrsAre a x) (h' : StrsAre b y) : StrsAre (a ++ b) (x ++ y) := by
  induction h with
  | nil => exact h'
  | cons z t _ ih => exact .cons z t ih
theorem snoc_sign {ys : List Value} {cs : List Nat} {X : Str} {t : Tok} {i : Nat} (h : StrsAre ys (cs.map fun c => mkS [c])) (hl : cs.length = i) (h1 : X.length = 1) : ∃ cs' : List Nat, StrsAre (ys ++ [.str X t]) (cs'.map fun c => mkS [c]) ∧ cs'.length = i + 1 := by
  have h2 : X.cps.toList.length = 1 := h1
  obtain ⟨c, hc⟩ := List.length_eq_one_iff.mp h2
  have e : X = mkS [c] := by rw [mk_of X, hc]
  subst e
  exact ⟨cs ++ [c], by rw [List.map_append]; exact strs_append h (.cons _ _ .nil), by simp [hl]⟩
theorem join_flat : ∀ cs : List (List Nat), Str.join (Str.ofString "") (cs.map mkS) = mkS cs.flatten
  | [] => rfl
  | [c] => by show mkS c = mkS [c].flatten; simp
  | c :: d :: r => by
    have ih := join_flat (d :: r)
    show mkS c ++ Str.ofString "" ++ Str.join (Str.ofString "") ((d :: r).map mkS) = mkS (c :: d :: r).flatten
    rw [ih]
    have e : (Str.ofString "" : Str) = mkS [] := rfl
    rw [e, mkS_append, mkS_append]; simp
theorem flat_ones (cs : List Nat) : (cs.map fun c => [c]).flatten = cs := by
  induction cs with
  | nil => rfl
  | cons a r ih => rw [List.map_cons, List.flatten_cons, ih]; rfl
theorem weight_le {B : Nat} : ∀ {ls : List (List Nat)}, (∀ l ∈ ls, l.length ≤ B) → ((ls.map mkS).map (·.length)).sum ≤ ls.length * B
  | [], _ => by simp
  | a :: r, h => by
    have ih := weight_le (ls := r) fun l hl => h l (.tail _ hl)
    have h1 := h a (.head _)
    have e : (mkS a).length = a.length := rfl
    simp only [List.map_cons, List.sum_cons, List.length_cons, Nat.succ_mul, e]
    omega
section
variable {prog : Program} {w : World} {A : Around} {E : Value → Shared → Prop} {s : Shared} {h₀ : Heap} {L : Addr} {news : List (Addr × Obj)}
theorem join_texts {D : Addr} {ys : List Value} {n : Nat} {ls : List (List Nat)} {t : Tok} {Q : Value → Shared → Prop} (N : News h₀ L s.heap news) (hm : (D, listOf ys.toArray n) ∈ news) (hS : StrsAre ys (ls.map mkS)) (h1 : ls.length ≤ 1000) (h2 : ∀ l ∈ ls, l.length ≤ 100)
    (h : ∀ t' k, Q (.str (mkS ls.flatten) t') { s with toks := k }) : wpAny (model prog w) A (call (.builtin "str.join") [.str (Str.ofString "") t, .ref D]) Q E s := by
  have hw := weight_le h2
  refine join_listW (PySem.IsL.isList (N _ hm).1) hS (by decide) ?_ fun t' k => ?_
  · rw [List.length_map]
    have := Nat.mul_le_mul_right 100 h1
    omega
  · have e : Txt.join (Str.ofString "") (ls.map mkS) = mkS ls.flatten := by
      rw [← join_flat]; exact StrLaws.glued_eq_join _ _
    rw [e]; exact h t' k
end

set_option maxHeartbeats 8000000 in
theorem st7 (w : World) (p : Program) (loose : List Str) (mean : ExcName → Option Value) (mg mb : Str → Option Value) (dp u : Nat) (fr : Option (List Env)) (g : Heap) (s : Shared) (L' fa : Addr) (cd : Value) (Q : Flow → Shared → Prop) (E : Value → Shared → Prop)
    (X : (Pre.hc.heap_1 w.params).In g) (T : Top p loose mean mg mb g) (hd : dp + 300 < recursionLimit) (hu : u + 3000 < cLine) (hE : PassesOwn (model PySem.Challenge.rw_zo0028_01.row.prog w) ((AR dp u fr (some [])).deeper (lenv L' fa cd)) (lenv L' fa cd) E) (m : Str → Option Value) (F : Fr g L' s.heap m) (o1 o2 o3 o4 o5 o6 o7 t65 t58 : Obj) (b65 : @LT.lt Nat _ 65 L') (b58 : @LT.lt Nat _ 58 L')
    (H : Int) (th : Tok) (dn : Nat) (tg : Tok) (dg1 : 2 ≤ dn) (dg2 : dn ≤ 3) (d6 : o6.data = .cell none) (lc : Addr) (c0 c1 c2 c3 c4 c5 : Int) (t0 t1 t2 t3 t4 t5 : Tok) (d2 : o2.data = .cell (some (.ref lc))) (l_lc : @Ne Nat (L' + 1 + 1 + 1 + 1 + 1 + 1 + 1) lc ∧ @Ne Nat (L' + 1 + 1 + 1 + 1 + 1 + 1) lc ∧ @Ne Nat (L' + 1 + 1 + 1 + 1 + 1) lc ∧ @Ne Nat (L' + 1 + 1 + 1 + 1) lc ∧ @Ne Nat (L' + 1 + 1 + 1) lc ∧ @Ne Nat (L' + 1 + 1) lc ∧ @Ne Nat (L' + 1) lc ∧ @Ne Nat 65 lc ∧ @Ne Nat 58 lc) (nd : Addr) (on : Obj) (l_nd : @LT.lt Nat _ (L' + 1 + 1 + 1 + 1 + 1 + 1 + 1) nd) (ret : ∀ m' h' tk' o6' r tr, o6'.data = .cell (some (.str (mkS r) tr)) → r.length = dn →  Knows m' [(Str.ofString "hand", (Value.int H th : Value)), (Str.ofString "degree", (Value.int dn tg : Value))] → Fr g L' h' m' → News g L' h' [(nd, on), (lc, LCg.lst [.int c0 t0, .int c1 t1, .int c2 t2, .int c3 t3, .int c4 t4, .int c5 t5]), (L' + 1 + 1 + 1 + 1 + 1 + 1 + 1, o7), (L' + 1 + 1 + 1 + 1 + 1 + 1, o6'), (L' + 1 + 1 + 1 + 1 + 1, o5), (L' + 1 + 1 + 1 + 1, o4), (L' + 1 + 1 + 1, o3), (L' + 1 + 1, o2), (L' + 1, o1), (65, t65), (58, t58)] → Q .next { s with heap := h', toks := tk' }) (kn : Knows m [(Str.ofString "hand", (Value.int H th : Value)), (Str.ofString "degree", (Value.int dn tg : Value))]) (N : News g L' s.heap [(nd, on), (lc, LCg.lst [.int c0 t0, .int c1 t1, .int c2 t2, .int c3 t3, .int c4 t4, .int c5 t5]), (L' + 1 + 1 + 1 + 1 + 1 + 1 + 1, o7), (L' + 1 + 1 + 1 + 1 + 1 + 1, o6), (L' + 1 + 1 + 1 + 1 + 1, o5), (L' + 1 + 1 + 1 + 1, o4), (L' + 1 + 1 + 1, o3), (L' + 1 + 1, o2), (L' + 1, o1), (65, t65), (58, t58)]) :
    wpAny (model PySem.Challenge.rw_zo0028_01.row.prog w) ((AR dp u fr (some [])).deeper (lenv L' fa cd)) (exec (lawS 7) (lenv L' fa cd)) Q E s := by
  w_top off
  have _ : PySem.Challenge.rw_zo0028_01.row.prog = PySem.Challenge.rw_zo0028_01.row.prog → (Pre.hc.heap_1 w.params).In g := by (k_fill; exact fun _ => X)
  replace F := knows_fr F kn
  dsimp only [knowF] at F
  clear kn
  dsimp only [lenv, lawS, stm, lawD, recOf]

  (repeat' (first | (k_unfold; (try dsimp only)) | (k_end; wrow_close) | (k_here; (with_reducible show wpAny _ _ (eval (Expr.ListComp _ [⟨_, _, [], _⟩] _ _) _) _ _ _); k_dflt (refine LCg.ListComp_U (F₀ := by k_asm) (by with_unfolding_all rfl) (by decide) (by rfl) (by decide) (by rfl) ?_)) | ((with_reducible show LCg.CompSrc _ _ _ _ _ _ _ _ _ _ _ _ _ _); refine Stop.elim ?_) | walk1 | (dsimp only; (first | (k_here; (with_reducible show wpAny _ _ (eval (Expr.ListComp _ [⟨_, _, [], _⟩] _ _) _) _ _ _); k_dflt (refine LCg.ListComp_U (F₀ := by k_asm) (by with_unfolding_all rfl) (by decide) (by rfl) (by decide) (by rfl) ?_)) | ((with_reducible show LCg.CompSrc _ _ _ _ _ _ _ _ _ _ _ _ _ _); refine Stop.elim ?_) | walk1)) | (leave1; walk_say "STEP leave1"; try dsimp only) | fail "no step"))
  refine Stop.intro ?_
  (rename IsRange _ _ _ _ _ _ _ _ => hR)
  (rename Fr _ _ _ _ => fF)
  (rename News _ _ _ _ => nN)
  obtain ⟨pre, hpre, nN⟩ : ∃ pre : List (Addr × Obj), pre = _ ∧ News _ _ _ pre := ⟨_, rfl, nN⟩
  refine LCg.CompSrc.range (n := dn) rfl fF nN hR (small_one (by omega) (by omega) (by omega) (by omega)) (range_one dn) (by show dn ≤ sizeLine; exact Nat.le_trans dg2 (by decide)) ?_
  intro g₂
  refine comp_ind (fun i ys nw => nw = pre ∧ ∃ cs : List Nat, StrsAre ys (cs.map fun c => mkS [c]) ∧ cs.length = i) ?_ ?_ ⟨rfl, [], .nil, rfl⟩
  · clear fF nN
    intro i v I₂ oI₂ C₂ oC₂ D₂ ys nw m₂ h₂ tk₂ E₂ hi₂ ⟨e₃, cs, hys, hnl⟩ hv hoC hx hF hN off hne
    subst e₃
    subst hpre
    obtain ⟨tv, rfl⟩ := hv
    obtain ⟨kP, hkP, kP1, kP2⟩ : ∃ kP : Int, (5 : Int) ^ (0 + (i : Int)).toNat = kP ∧ kP ≠ 0 ∧ kP.natAbs < 1073741824 := by
      refine ⟨_, rfl, ?_⟩
      have : i = 0 ∨ i = 1 ∨ i = 2 := by omega
      rcases this with rfl | rfl | rfl <;> decide
    have z0 : 0 ≤ 0 + (i : Int) := by omega
    have z1 := pow_room (a := 5) (n := 0 + (i : Int)) (m := 3) (k := 3) (intBits_le_iff.mpr (by decide)) z0 (by omega) (by decide)
    (repeat' (first | (k_unfold; (try dsimp only)) | (k_end; wrow_close) | ((with_reducible show wpAny _ _ (binaryOp Operator.Pow (Value.int _ _) (Value.int _ _)) _ _ _); k_here; (with_reducible refine pow_named (M := kP) (by assumption) (by assumption) (by assumption) ?_)) | ((with_reducible show wpAny _ _ (binaryOp Operator.FloorDiv (Value.int _ _) (Value.int _ _)) _ _ _); k_here; (with_reducible refine fd_var (by assumption) (by assumption) ?_); intro _) | ((with_reducible show wpAny _ _ (binaryOp Operator.Mod (Value.int _ _) (Value.int _ _)) _ _ _); k_here; (with_reducible refine mod_var (by decide) ?_); intro _ _ _) | walk1 | (dsimp only; (first | ((with_reducible show wpAny _ _ (binaryOp Operator.Pow (Value.int _ _) (Value.int _ _)) _ _ _); k_here; (with_reducible refine pow_named (M := kP) (by assumption) (by assumption) (by assumption) ?_)) | ((with_reducible show wpAny _ _ (binaryOp Operator.FloorDiv (Value.int _ _) (Value.int _ _)) _ _ _); k_here; (with_reducible refine fd_var (by assumption) (by assumption) ?_); intro _) | ((with_reducible show wpAny _ _ (binaryOp Operator.Mod (Value.int _ _) (Value.int _ _)) _ _ _); k_here; (with_reducible refine mod_var (by decide) ?_); intro _ _ _) | walk1)) | (leave1; walk_say "STEP leave1"; try dsimp only) | fail "no step"))
    (rename Fr _ _ _ _ => f6)
    (rename News _ _ _ _ => n6)
    refine LCg.CompEnd.intro f6 n6 _ (fun p hp => ?_) off trivial ⟨rfl, snoc_sign hys hnl (len_item _ _)⟩
    exact hp
  · clear fF nN
    intro ys nw ⟨e₃, cs, hys, hnl⟩
    subst e₃
    subst hpre
    intro D₃ h₃ tk₃ F₃ N₃ off₃
    simp only [LCg.Off1] at off₃
    have hys' : StrsAre ys ((cs.map fun c => [c]).map mkS) := by rw [List.map_map]; exact hys
    have hj1 : (cs.map fun c => [c]).length ≤ 1000 := by rw [List.length_map]; omega
    have hj2 : ∀ l ∈ cs.map fun c => [c], l.length ≤ 100 := by intro l hl; obtain ⟨c, _, rfl⟩ := List.mem_map.mp hl; show 1 ≤ 100; decide
    (repeat' (first | (k_unfold; (try dsimp only)) | (k_end; wrow_close) | (k_here; (with_reducible show wpAny _ _ (call (Value.builtin "str.join") [Value.str _ _, Value.ref _]) _ _ _); (refine' join_texts ?jn ?jm ?jS ?j1 ?j2 ?_; (case jn => k_asm); (case jm => k_mem); (case jS => assumption); (case j1 => assumption); (case j2 => assumption)); intro _ _) | walk1 | (dsimp only; (first | (k_here; (with_reducible show wpAny _ _ (call (Value.builtin "str.join") [Value.str _ _, Value.ref _]) _ _ _); (refine' join_texts ?jn ?jm ?jS ?j1 ?j2 ?_; (case jn => k_asm); (case jm => k_mem); (case jS => assumption); (case j1 => assumption); (case j2 => assumption)); intro _ _) | walk1)) | (leave1; walk_say "STEP leave1"; try dsimp only) | fail "no step"))
    dsimp only
    (rename Fr _ _ _ _ => fF)
    (rename News _ _ _ _ => nN)
    refine ret _ _ _ _ _ _ (by assumption) ?_ ⟨rfl, rfl, trivial⟩ fF (news_subl nN fun p hp => .tail _ hp)
    rw [flat_ones, hnl]

end Mine
end

section
set_option maxRecDepth 100000
open PySem PySem.W PyProof.Rows PySem.Calls PySem.Spec
namespace Mine
/-- the writings, one behind the other -/
noncomputable def wrs (H : Int) (tl : List Nat) : Nat → List Nat
  | 0 => tl
  | k + 1 => wr H (wrs H tl k)
noncomputable abbrev wrsL (H : Int) (tl : List Nat) (n : Nat) : List Str := ((List.range n).map (wrs H tl)).map mkS
theorem wrsL_succ (H : Int) (tl : List Nat) (n : Nat) : wrsL H tl (n + 1) = wrsL H tl n ++ [mkS (wrs H tl n)] := by
  show ((List.range (n + 1)).map (wrs H tl)).map mkS = _
  rw [List.range_succ, List.map_append, List.map_append]; rfl
theorem wrsL_length (H : Int) (tl : List Nat) (n : Nat) : (wrsL H tl n).length = n := by simp
section
variable {prog : Program} {w : World} {A : Around} {E : Value → Shared → Prop} {s : Shared} {h₀ : Heap} {L : Addr} {m : Str → Option Value} {news : List (Addr × Obj)}
theorem strs_last {value slice : PySem.Expr} {D : Addr} {ys : List Value} {n : Nat} {ss : List Str} {x : Str} {u : Tok} {Q : Value → Shared → Prop} (N : News h₀ L s.heap news) (hm : (D, listOf ys.toArray n) ∈ news) (hS : StrsAre ys (ss ++ [x]))
    (h : ∀ t, Q (.str x t) s)
    (hs : subscripted slice false (.ref D) (.int (-1) u) = operate [.ref D, .int (-1) u] (getItem (.ref D) (.int (-1) u)) := by with_unfolding_all rfl) :
    wpAny (model prog w) A (subscriptTail value slice (.ref D) (.int (-1) u)) Q E s := by
  have hl : s.heap.IsList D ys.toArray := PySem.IsL.isList (N _ hm).1
  have e0 : ys.length = ss.length + 1 := by rw [hS.length]; simp
  obtain ⟨t, ht⟩ := hS.at (j := ss.length) (y := x) (by simp)
  have hz : ((-1 : Int) + (ys.toArray.size : Int)).toNat = ss.length := by rw [List.size_toArray, e0]; omega
  exact tail_any hl.typeIs slot_list_getitem.lookup (wpAny_getItem_list_neg hl (by decide) (by rw [List.size_toArray, e0]; omega) (by decide) (by rw [hz]; simpa using ht) (h t)) hs
theorem strd_itemN {value slice : PySem.Expr} {d : Addr} {o : Obj} {kvs : List (Str × Value)} {k : Str} {t : Tok} {v : Value} {Q : Value → Shared → Prop} (N : News h₀ L s.heap news) (hm : (d, o) ∈ news) (hd : o.IsDictOf (PySem.strKind prog w) kvs) (hl : valueAt kvs k = some v) (h : Q v { s with toks := s.toks + 1 })
    (hs : subscripted slice false (.ref d) (.str k t) = operate [.ref d, .str k t] (getItem (.ref d) (.str k t)) := by with_unfolding_all rfl) (hg : ∀ r, letTemporaryGo value (.ref d) r = pure () := by intro _; with_unfolding_all rfl) :
    wpAny (model prog w) A (subscriptTail value slice (.ref d) (.str k t)) Q E s :=
  have hD : s.heap.DictOf (PySem.strKind prog w) d kvs := Heap.dictOf_iff.mpr ⟨o, (N _ hm).1, hd⟩
  subscriptTail_builtin hD.typeIs slot_dict_getitem.lookup (wpAny_getItem_of (strKind_is _ _ _ _) hD.mapOf hl h) hs hg
theorem ne_same {x : Str} {t u : Tok} {Q : Value → Shared → Prop} (h : Q (.bool false) s) : wpAny (model prog w) A (compareOp .NotEq (.str x t) (.str x u)) Q E s :=
  PyProof.Rows.ne_str (by have e : (x != x) = false := by simp
                          rw [e]; exact h)
theorem join_textsR {D : Addr} {ys : List Value} {n : Nat} {ls : List (List Nat)} {R : List Nat} {t : Tok} {Q : Value → Shared → Prop} (N : News h₀ L s.heap news) (hm : (D, listOf ys.toArray n) ∈ news) (hS : StrsAre ys (ls.map mkS)) (h1 : ls.length ≤ 1000) (h2 : ∀ l ∈ ls, l.length ≤ 100) (hR : ls.flatten = R)
    (h : ∀ t' k, Q (.str (mkS R) t') { s with toks := k }) : wpAny (model prog w) A (call (.builtin "str.join") [.str (Str.ofString "") t, .ref D]) Q E s :=
  join_texts N hm hS h1 h2 (hR ▸ h)
end

set_option maxHeartbeats 8000000 in
theorem st11 (w : World) (p : Program) (loose : List Str) (mean : ExcName → Option Value) (mg mb : Str → Option Value) (dp u : Nat) (fr : Option (List Env)) (g : Heap) (s : Shared) (L' fa : Addr) (cd : Value) (Q : Flow → Shared → Prop) (E : Value → Shared → Prop)
    (X : (Pre.hc.heap_1 w.params).In g) (T : Top p loose mean mg mb g) (hd : dp + 300 < recursionLimit) (hu : u + 3000 < cLine) (hE : PassesOwn (model PySem.Challenge.rw_zo0028_01.row.prog w) ((AR dp u fr (some [])).deeper (lenv L' fa cd)) (lenv L' fa cd) E) (m : Str → Option Value) (F : Fr g L' s.heap m) (o1 o2 o3 o4 o5 o6 o7 t65 t58 : Obj) (b65 : @LT.lt Nat _ 65 L') (b58 : @LT.lt Nat _ 58 L')
    (H : Int) (th : Tok) (dn mn : Nat) (tg tm : Tok) (dg1 : 2 ≤ dn) (dg2 : dn ≤ 3) (hmn : mn = dn + 2) (tl sp : List Nat) (tt tsp : Tok) (lw nd : Addr) (cw : Nat) (on : Obj) (kvs : List (Str × Value)) (l_lw : @LT.lt Nat _ (L' + 1 + 1 + 1 + 1 + 1 + 1 + 1) lw) (l_nd : @LT.lt Nat _ (L' + 1 + 1 + 1 + 1 + 1 + 1 + 1) nd) (l_ne : @LT.lt Nat _ nd lw)
    (d3 : o3.data = .cell (some (.str (mkS sp) tsp))) (d4 : o4.data = .cell (some (.ref nd))) (hdn : on.IsDictOf (PySem.strKind PySem.Challenge.rw_zo0028_01.row.prog w) kvs) (hkv : ∀ c ∈ sp, ∃ t, valueAt kvs (mkS [c]) = some (.str (mkS (nmOf c)) t)) (hsp : sp.length ≤ 6)
    (hwr : ∀ l : List Nat, (l.map fun c => if c ∈ sp then nmOf c else [c]).flatten = wr H l) (hlen : ∀ k, k ≤ 5 → (wrs H tl k).length ≤ 100) (ret : ∀ m' h' tk' ys c, StrsAre ys (wrsL H tl (dn + 3)) →  Knows m' [(Str.ofString "degree", (Value.int dn tg : Value)), (Str.ofString "many", (Value.int mn tm : Value)), (Str.ofString "writings", (Value.ref lw : Value))] → Fr g L' h' m' → News g L' h' [(lw, listOf ys.toArray c), (nd, on), (L' + 1 + 1 + 1 + 1 + 1 + 1 + 1, o7), (L' + 1 + 1 + 1 + 1 + 1 + 1, o6), (L' + 1 + 1 + 1 + 1 + 1, o5), (L' + 1 + 1 + 1 + 1, o4), (L' + 1 + 1 + 1, o3), (L' + 1 + 1, o2), (L' + 1, o1), (65, t65), (58, t58)] → Q .next { s with heap := h', toks := tk' }) (kn : Knows m [(Str.ofString "hand", (Value.int H th : Value)), (Str.ofString "degree", (Value.int dn tg : Value)), (Str.ofString "many", (Value.int mn tm : Value)), (Str.ofString "writings", (Value.ref lw : Value))]) (N : News g L' s.heap [(lw, listOf [.str (mkS tl) tt].toArray cw), (nd, on), (L' + 1 + 1 + 1 + 1 + 1 + 1 + 1, o7), (L' + 1 + 1 + 1 + 1 + 1 + 1, o6), (L' + 1 + 1 + 1 + 1 + 1, o5), (L' + 1 + 1 + 1 + 1, o4), (L' + 1 + 1 + 1, o3), (L' + 1 + 1, o2), (L' + 1, o1), (65, t65), (58, t58)]) :
    wpAny (model PySem.Challenge.rw_zo0028_01.row.prog w) ((AR dp u fr (some [])).deeper (lenv L' fa cd)) (exec (lawS 11) (lenv L' fa cd)) Q E s := by
  w_top off
  have _ : PySem.Challenge.rw_zo0028_01.row.prog = PySem.Challenge.rw_zo0028_01.row.prog → (Pre.hc.heap_1 w.params).In g := by (k_fill; exact fun _ => X)
  replace F := knows_fr F kn
  dsimp only [knowF] at F
  clear kn
  dsimp only [lenv, lawS, stm, lawD, recOf]

  (repeat' (first | (k_unfold; (try dsimp only)) | (k_end; wrow_close) | (k_here; (with_reducible show wpAny _ _ (pyIter (Value.ref _)) (fun it s₂ => TurnsAt _ _ _ _ _ _ _ _ _ it s₂) _ _); refine Stop.elim ?_) | ((with_reducible show wpAny _ _ (exec (Stmt.For (PySem.Expr.Name _ _) (PySem.Expr.Call _ _ _ _) _ _ _) _) _ _ _); k_here; (rename PassesOwn _ _ _ _ => hE'); (rename Fr _ _ _ _ => lF'); (with_unfolding_all refine' For_turns lF' ?_ (hE := hE')); k_whole) | walk1 | (dsimp only; (first | (k_here; (with_reducible show wpAny _ _ (pyIter (Value.ref _)) (fun it s₂ => TurnsAt _ _ _ _ _ _ _ _ _ it s₂) _ _); refine Stop.elim ?_) | ((with_reducible show wpAny _ _ (exec (Stmt.For (PySem.Expr.Name _ _) (PySem.Expr.Call _ _ _ _) _ _ _) _) _ _ _); k_here; (rename PassesOwn _ _ _ _ => hE'); (rename Fr _ _ _ _ => lF'); (with_unfolding_all refine' For_turns lF' ?_ (hE := hE')); k_whole) | walk1)) | (leave1; walk_say "STEP leave1"; try dsimp only) | fail "no step"))
  (rename IsRange _ _ _ _ _ _ _ _ => hR)
  (rename Fr _ _ _ _ => fF)
  (rename News _ _ _ _ => nN)
  refine Stop.intro ?_
  with_unfolding_all refine iter_rangeTurns (n := mn) rfl hR (small_one (by omega) (by omega) (by omega) (by omega)) (range_one mn) fF nN ?_
  clear fF nN
  intro I hI₂
  have hI1 : @LT.lt Nat _ lw I := hI₂ _ (.head _)
  clear hI₂
  refine rest_ind (fun i m' nw => ∃ ys c, Kept m' nw [(Str.ofString "hand", Value.int H th), (Str.ofString "degree", Value.int dn tg), (Str.ofString "many", Value.int mn tm), (Str.ofString "writings", Value.ref lw)] (fun nw => nw = [(lw, listOf ys.toArray c), (nd, on), (L' + 1 + 1 + 1 + 1 + 1 + 1 + 1, o7), (L' + 1 + 1 + 1 + 1 + 1 + 1, o6), (L' + 1 + 1 + 1 + 1 + 1, o5), (L' + 1 + 1 + 1 + 1, o4), (L' + 1 + 1 + 1, o3), (L' + 1 + 1, o2), (L' + 1, o1), (65, t65), (58, t58)]) ∧ StrsAre ys (wrsL H tl (i + 1)) ∧ True) ?_ ?_ ?h0 trivial
  case h0 => exact ⟨_, _, ⟨⟨rfl, rfl, rfl, rfl, trivial⟩, rfl⟩, .cons _ _ .nil, trivial⟩
  · intro i x m' news' v h₅ tk₅ hc hJ _ hv hF
    obtain ⟨hin, rfl⟩ := rangeItems_get hc
    refine cutG fun PC hPC => ?_
    obtain ⟨ys, c, ⟨hkn, rfl⟩, hys, -⟩ := hJ
    refine hPC ?_
    clear hPC PC
    obtain ⟨t₂, rfl⟩ := hv
    replace hF := knows_fr hF hkn; dsimp only [knowF] at hF
    refine AllObj.cons (fun oI hcI => ?_)
    dsimp only at hcI
    refine AllObj.nil (fun nN => ?_)
    simp only [List.cons_append, List.nil_append] at nN
    have hyl : ys.length = i + 1 := by rw [hys.length, wrsL_length]
    rw [wrsL_succ] at hys
    have hll := hlen i (by omega)
    have hwl := hwr (wrs H tl i)
    (repeat' (first | (k_unfold; (try dsimp only)) | (k_end; wrow_close) | ((with_reducible show wpAny _ _ (exec _ _) _ _ _); k_fold; (first | (k_here; (with_reducible show wpAny _ _ (subscriptTail _ _ (Value.ref _) (Value.int _ _)) _ _ _); k_dflt ((refine' strs_last ?si1 ?si2 ?si3 ?_ ?si7; (case si1 => k_asm); (case si2 => k_mem); (case si3 => assumption); (case si7 => with_unfolding_all rfl))); intro _) | (k_here; (with_reducible show wpAny _ _ (subscriptTail _ _ (Value.ref _) (Value.str _ _)) _ _ _); k_dflt (refine' strd_itemN ?F ?m ?d ?l ?_ ?s ?g; (case F => k_asm); (case m => k_mem); (case d => assumption); (case l => assumption); (case s => with_unfolding_all rfl); (case g => (intro _; with_unfolding_all rfl)))) | ((with_reducible show wpAny _ _ (call (Value.ref _) _ _) _ _ _); k_here; refine Stop.elim ?_) | (k_here; (with_reducible show wpAny _ _ (pyIter (Value.ref _)) (fun it s₂ => TurnsAt _ _ _ _ _ _ _ _ _ it s₂) _ _); refine Stop.elim ?_) | ((with_reducible show wpAny _ _ (exec (Stmt.For (PySem.Expr.Name _ _) (PySem.Expr.Call _ _ _ _) _ _ _) _) _ _ _); k_here; (rename PassesOwn _ _ _ _ => hE'); (rename Fr _ _ _ _ => lF'); (with_unfolding_all refine' For_turns lF' ?_ (hE := hE')); k_whole) | walk1)) | (k_here; (with_reducible show wpAny _ _ (subscriptTail _ _ (Value.ref _) (Value.int _ _)) _ _ _); k_dflt ((refine' strs_last ?si1 ?si2 ?si3 ?_ ?si7; (case si1 => k_asm); (case si2 => k_mem); (case si3 => assumption); (case si7 => with_unfolding_all rfl))); intro _) | (k_here; (with_reducible show wpAny _ _ (subscriptTail _ _ (Value.ref _) (Value.str _ _)) _ _ _); k_dflt (refine' strd_itemN ?F ?m ?d ?l ?_ ?s ?g; (case F => k_asm); (case m => k_mem); (case d => assumption); (case l => assumption); (case s => with_unfolding_all rfl); (case g => (intro _; with_unfolding_all rfl)))) | ((with_reducible show wpAny _ _ (call (Value.ref _) _ _) _ _ _); k_here; refine Stop.elim ?_) | (k_here; (with_reducible show wpAny _ _ (pyIter (Value.ref _)) (fun it s₂ => TurnsAt _ _ _ _ _ _ _ _ _ it s₂) _ _); refine Stop.elim ?_) | ((with_reducible show wpAny _ _ (exec (Stmt.For (PySem.Expr.Name _ _) (PySem.Expr.Call _ _ _ _) _ _ _) _) _ _ _); k_here; (rename PassesOwn _ _ _ _ => hE'); (rename Fr _ _ _ _ => lF'); (with_unfolding_all refine' For_turns lF' ?_ (hE := hE')); k_whole) | walk1 | (dsimp only; (first | (k_here; (with_reducible show wpAny _ _ (subscriptTail _ _ (Value.ref _) (Value.int _ _)) _ _ _); k_dflt ((refine' strs_last ?si1 ?si2 ?si3 ?_ ?si7; (case si1 => k_asm); (case si2 => k_mem); (case si3 => assumption); (case si7 => with_unfolding_all rfl))); intro _) | (k_here; (with_reducible show wpAny _ _ (subscriptTail _ _ (Value.ref _) (Value.str _ _)) _ _ _); k_dflt (refine' strd_itemN ?F ?m ?d ?l ?_ ?s ?g; (case F => k_asm); (case m => k_mem); (case d => assumption); (case l => assumption); (case s => with_unfolding_all rfl); (case g => (intro _; with_unfolding_all rfl)))) | ((with_reducible show wpAny _ _ (call (Value.ref _) _ _) _ _ _); k_here; refine Stop.elim ?_) | (k_here; (with_reducible show wpAny _ _ (pyIter (Value.ref _)) (fun it s₂ => TurnsAt _ _ _ _ _ _ _ _ _ it s₂) _ _); refine Stop.elim ?_) | ((with_reducible show wpAny _ _ (exec (Stmt.For (PySem.Expr.Name _ _) (PySem.Expr.Call _ _ _ _) _ _ _) _) _ _ _); k_here; (rename PassesOwn _ _ _ _ => hE'); (rename Fr _ _ _ _ => lF'); (with_unfolding_all refine' For_turns lF' ?_ (hE := hE')); k_whole) | walk1)) | (leave1; walk_say "STEP leave1"; try dsimp only) | fail "no step"))
    refine Stop.intro ?_
    (rename Fr _ _ _ _ => fF)
    (rename News _ _ _ _ => nN)
    refine' use_str (con_write w H th (wrs H tl i) _ (by omega)) fF nN X T ?p1 ?p2 ?p3 ?_
    case p1 => k_room
    case p2 => k_room
    case p3 => trivial
    intro h₁ tk₁ t₁ F₁ N₁ _
    clear fF nN
    generalize hW : wrs H tl i = W at *
    (repeat' (first | (k_unfold; (try dsimp only)) | (k_end; wrow_close) | ((with_reducible show wpAny _ _ (exec _ _) _ _ _); k_fold; (first | (k_here; (with_reducible show wpAny _ _ (subscriptTail _ _ (Value.ref _) (Value.int _ _)) _ _ _); k_dflt ((refine' strs_last ?si1 ?si2 ?si3 ?_ ?si7; (case si1 => k_asm); (case si2 => k_mem); (case si3 => assumption); (case si7 => with_unfolding_all rfl))); intro _) | (k_here; (with_reducible show wpAny _ _ (subscriptTail _ _ (Value.ref _) (Value.str _ _)) _ _ _); k_dflt (refine' strd_itemN ?F ?m ?d ?l ?_ ?s ?g; (case F => k_asm); (case m => k_mem); (case d => assumption); (case l => assumption); (case s => with_unfolding_all rfl); (case g => (intro _; with_unfolding_all rfl)))) | (k_here; (with_reducible show wpAny _ _ (eval (Expr.ListComp _ [⟨_, _, [], _⟩] _ _) _) _ _ _); k_dflt (refine ListComp_S (F₀ := by k_asm) (by with_unfolding_all rfl) (by decide) (by rfl) (by decide) (by rfl) ?_)) | ((with_reducible show wpAny _ _ (call (Value.ref _) _ _) _ _ _); k_here; refine Stop.elim ?_) | ((with_reducible show SrcS _ _ _ _ _ _ _ _ _ _ _ _ _ _); refine Stop.elim ?_) | (k_here; (with_reducible show wpAny _ _ (pyIter (Value.ref _)) (fun it s₂ => TurnsAt _ _ _ _ _ _ _ _ _ it s₂) _ _); refine Stop.elim ?_) | ((with_reducible show wpAny _ _ (exec (Stmt.For (PySem.Expr.Name _ _) (PySem.Expr.Call _ _ _ _) _ _ _) _) _ _ _); k_here; (rename PassesOwn _ _ _ _ => hE'); (rename Fr _ _ _ _ => lF'); (with_unfolding_all refine' For_turns lF' ?_ (hE := hE')); k_whole) | walk1)) | (k_here; (with_reducible show wpAny _ _ (subscriptTail _ _ (Value.ref _) (Value.int _ _)) _ _ _); k_dflt ((refine' strs_last ?si1 ?si2 ?si3 ?_ ?si7; (case si1 => k_asm); (case si2 => k_mem); (case si3 => assumption); (case si7 => with_unfolding_all rfl))); intro _) | (k_here; (with_reducible show wpAny _ _ (subscriptTail _ _ (Value.ref _) (Value.str _ _)) _ _ _); k_dflt (refine' strd_itemN ?F ?m ?d ?l ?_ ?s ?g; (case F => k_asm); (case m => k_mem); (case d => assumption); (case l => assumption); (case s => with_unfolding_all rfl); (case g => (intro _; with_unfolding_all rfl)))) | (k_here; (with_reducible show wpAny _ _ (eval (Expr.ListComp _ [⟨_, _, [], _⟩] _ _) _) _ _ _); k_dflt (refine ListComp_S (F₀ := by k_asm) (by with_unfolding_all rfl) (by decide) (by rfl) (by decide) (by rfl) ?_)) | ((with_reducible show wpAny _ _ (call (Value.ref _) _ _) _ _ _); k_here; refine Stop.elim ?_) | ((with_reducible show SrcS _ _ _ _ _ _ _ _ _ _ _ _ _ _); refine Stop.elim ?_) | (k_here; (with_reducible show wpAny _ _ (pyIter (Value.ref _)) (fun it s₂ => TurnsAt _ _ _ _ _ _ _ _ _ it s₂) _ _); refine Stop.elim ?_) | ((with_reducible show wpAny _ _ (exec (Stmt.For (PySem.Expr.Name _ _) (PySem.Expr.Call _ _ _ _) _ _ _) _) _ _ _); k_here; (rename PassesOwn _ _ _ _ => hE'); (rename Fr _ _ _ _ => lF'); (with_unfolding_all refine' For_turns lF' ?_ (hE := hE')); k_whole) | walk1 | (dsimp only; (first | (k_here; (with_reducible show wpAny _ _ (subscriptTail _ _ (Value.ref _) (Value.int _ _)) _ _ _); k_dflt ((refine' strs_last ?si1 ?si2 ?si3 ?_ ?si7; (case si1 => k_asm); (case si2 => k_mem); (case si3 => assumption); (case si7 => with_unfolding_all rfl))); intro _) | (k_here; (with_reducible show wpAny _ _ (subscriptTail _ _ (Value.ref _) (Value.str _ _)) _ _ _); k_dflt (refine' strd_itemN ?F ?m ?d ?l ?_ ?s ?g; (case F => k_asm); (case m => k_mem); (case d => assumption); (case l => assumption); (case s => with_unfolding_all rfl); (case g => (intro _; with_unfolding_all rfl)))) | (k_here; (with_reducible show wpAny _ _ (eval (Expr.ListComp _ [⟨_, _, [], _⟩] _ _) _) _ _ _); k_dflt (refine ListComp_S (F₀ := by k_asm) (by with_unfolding_all rfl) (by decide) (by rfl) (by decide) (by rfl) ?_)) | ((with_reducible show wpAny _ _ (call (Value.ref _) _ _) _ _ _); k_here; refine Stop.elim ?_) | ((with_reducible show SrcS _ _ _ _ _ _ _ _ _ _ _ _ _ _); refine Stop.elim ?_) | (k_here; (with_reducible show wpAny _ _ (pyIter (Value.ref _)) (fun it s₂ => TurnsAt _ _ _ _ _ _ _ _ _ it s₂) _ _); refine Stop.elim ?_) | ((with_reducible show wpAny _ _ (exec (Stmt.For (PySem.Expr.Name _ _) (PySem.Expr.Call _ _ _ _) _ _ _) _) _ _ _); k_here; (rename PassesOwn _ _ _ _ => hE'); (rename Fr _ _ _ _ => lF'); (with_unfolding_all refine' For_turns lF' ?_ (hE := hE')); k_whole) | walk1)) | (leave1; walk_say "STEP leave1"; try dsimp only) | fail "no step"))
    refine Stop.intro ?_
    (rename Fr _ _ _ _ => fF)
    (rename News _ _ _ _ => nN)
    obtain ⟨pre, hpre, nN⟩ : ∃ pre, pre = _ ∧ News _ _ _ pre := ⟨_, rfl, nN⟩
    refine SrcS.intro rfl fF nN (by show W.length ≤ sizeLine; exact Nat.le_trans hll (by decide)) ?_
    intro g₂
    refine comp_ind (fun i ys nw => nw = pre ∧ StrsAre ys (((W.take i).map fun c => if c ∈ sp then nmOf c else [c]).map mkS)) ?_ ?_ ⟨rfl, .nil⟩
    · clear fF nN
      intro i₂ v I₂ oI₂ C₂ oC₂ D₂ ys₂ nw m₂ h₆ tk₆ E₂ hi₂ ⟨e₃, hP₂⟩ hv₂ hoC₂ hx₂ hF₂ hN₂ off₂ hne3
      subst e₃
      refine cutG fun PC hPC => ?_
      obtain ⟨b, ub, hb, rfl⟩ := hv₂
      refine hPC ?_
      clear hPC PC
      have hoff := off₂
      rw [hpre] at hN₂
      have hb' : W[i₂]? = some b := by
        have : W.toArray[i₂]? = some b := hb
        simpa using this
      have htk : ((W.take (i₂ + 1)).map fun c => if c ∈ sp then nmOf c else [c]).map mkS = ((W.take i₂).map fun c => if c ∈ sp then nmOf c else [c]).map mkS ++ [mkS (if b ∈ sp then nmOf b else [b])] := by
        rw [List.take_add_one, hb', List.map_append, List.map_append]; rfl
      have hocc := found_mk b sp
      by_cases ha : b ∈ sp
      · rw [decide_eq_true ha] at hocc
        replace hocc : (Builtin.Str.occurrences (mkS sp) (mkS [b]) 0 (mkS sp).length 1).isEmpty = false := hocc
        obtain ⟨tn, hlk⟩ := hkv b ha
        clear hocc
        (repeat' (first | (k_unfold; (try dsimp only)) | (k_end; wrow_close) | (k_here; (with_reducible show wpAny _ _ (subscriptTail _ _ (Value.ref _) (Value.int _ _)) _ _ _); k_dflt ((refine' strs_last ?si1 ?si2 ?si3 ?_ ?si7; (case si1 => k_asm); (case si2 => k_mem); (case si3 => assumption); (case si7 => with_unfolding_all rfl))); intro _) | (k_here; (with_reducible show wpAny _ _ (subscriptTail _ _ (Value.ref _) (Value.str _ _)) _ _ _); k_dflt (refine' strd_itemN ?F ?m ?d ?l ?_ ?s ?g; (case F => k_asm); (case m => k_mem); (case d => assumption); (case l => assumption); (case s => with_unfolding_all rfl); (case g => (intro _; with_unfolding_all rfl)))) | (k_here; (with_reducible show wpAny _ _ (eval (Expr.ListComp _ [⟨_, _, [], _⟩] _ _) _) _ _ _); k_dflt (refine ListComp_S (F₀ := by k_asm) (by with_unfolding_all rfl) (by decide) (by rfl) (by decide) (by rfl) ?_)) | ((with_reducible show wpAny _ _ (call (Value.ref _) _ _) _ _ _); k_here; refine Stop.elim ?_) | ((with_reducible show SrcS _ _ _ _ _ _ _ _ _ _ _ _ _ _); refine Stop.elim ?_) | (k_here; (with_reducible show wpAny _ _ (pyIter (Value.ref _)) (fun it s₂ => TurnsAt _ _ _ _ _ _ _ _ _ it s₂) _ _); refine Stop.elim ?_) | ((with_reducible show wpAny _ _ (exec (Stmt.For (PySem.Expr.Name _ _) (PySem.Expr.Call _ _ _ _) _ _ _) _) _ _ _); k_here; (rename PassesOwn _ _ _ _ => hE'); (rename Fr _ _ _ _ => lF'); (with_unfolding_all refine' For_turns lF' ?_ (hE := hE')); k_whole) | walk1 | (dsimp only; (first | (k_here; (with_reducible show wpAny _ _ (subscriptTail _ _ (Value.ref _) (Value.int _ _)) _ _ _); k_dflt ((refine' strs_last ?si1 ?si2 ?si3 ?_ ?si7; (case si1 => k_asm); (case si2 => k_mem); (case si3 => assumption); (case si7 => with_unfolding_all rfl))); intro _) | (k_here; (with_reducible show wpAny _ _ (subscriptTail _ _ (Value.ref _) (Value.str _ _)) _ _ _); k_dflt (refine' strd_itemN ?F ?m ?d ?l ?_ ?s ?g; (case F => k_asm); (case m => k_mem); (case d => assumption); (case l => assumption); (case s => with_unfolding_all rfl); (case g => (intro _; with_unfolding_all rfl)))) | (k_here; (with_reducible show wpAny _ _ (eval (Expr.ListComp _ [⟨_, _, [], _⟩] _ _) _) _ _ _); k_dflt (refine ListComp_S (F₀ := by k_asm) (by with_unfolding_all rfl) (by decide) (by rfl) (by decide) (by rfl) ?_)) | ((with_reducible show wpAny _ _ (call (Value.ref _) _ _) _ _ _); k_here; refine Stop.elim ?_) | ((with_reducible show SrcS _ _ _ _ _ _ _ _ _ _ _ _ _ _); refine Stop.elim ?_) | (k_here; (with_reducible show wpAny _ _ (pyIter (Value.ref _)) (fun it s₂ => TurnsAt _ _ _ _ _ _ _ _ _ it s₂) _ _); refine Stop.elim ?_) | ((with_reducible show wpAny _ _ (exec (Stmt.For (PySem.Expr.Name _ _) (PySem.Expr.Call _ _ _ _) _ _ _) _) _ _ _); k_here; (rename PassesOwn _ _ _ _ => hE'); (rename Fr _ _ _ _ => lF'); (with_unfolding_all refine' For_turns lF' ?_ (hE := hE')); k_whole) | walk1)) | (leave1; walk_say "STEP leave1"; try dsimp only) | fail "no step"))
        all_goals first
          | (exfalso; rename_i h9; have h8 := h9.symm.trans (found_mk b sp); rw [decide_eq_true ha] at h8; cases h8; done)
          | ((rename Fr _ _ _ _ => f6)
             (rename News _ _ _ _ => n6)
             refine LCg.CompEnd.intro f6 n6 nw (fun p hp => by rw [hpre] at hp; exact hp) off₂ trivial ⟨rfl, ?_⟩
             rw [htk, if_pos ha]
             exact strs_append hP₂ (.cons _ _ .nil))
      · rw [decide_eq_false ha] at hocc
        replace hocc : (Builtin.Str.occurrences (mkS sp) (mkS [b]) 0 (mkS sp).length 1).isEmpty = true := hocc
        clear hocc
        (repeat' (first | (k_unfold; (try dsimp only)) | (k_end; wrow_close) | (k_here; (with_reducible show wpAny _ _ (subscriptTail _ _ (Value.ref _) (Value.int _ _)) _ _ _); k_dflt ((refine' strs_last ?si1 ?si2 ?si3 ?_ ?si7; (case si1 => k_asm); (case si2 => k_mem); (case si3 => assumption); (case si7 => with_unfolding_all rfl))); intro _) | (k_here; (with_reducible show wpAny _ _ (subscriptTail _ _ (Value.ref _) (Value.str _ _)) _ _ _); k_dflt (refine' strd_itemN ?F ?m ?d ?l ?_ ?s ?g; (case F => k_asm); (case m => k_mem); (case d => assumption); (case l => assumption); (case s => with_unfolding_all rfl); (case g => (intro _; with_unfolding_all rfl)))) | (k_here; (with_reducible show wpAny _ _ (eval (Expr.ListComp _ [⟨_, _, [], _⟩] _ _) _) _ _ _); k_dflt (refine ListComp_S (F₀ := by k_asm) (by with_unfolding_all rfl) (by decide) (by rfl) (by decide) (by rfl) ?_)) | ((with_reducible show wpAny _ _ (call (Value.ref _) _ _) _ _ _); k_here; refine Stop.elim ?_) | ((with_reducible show SrcS _ _ _ _ _ _ _ _ _ _ _ _ _ _); refine Stop.elim ?_) | (k_here; (with_reducible show wpAny _ _ (pyIter (Value.ref _)) (fun it s₂ => TurnsAt _ _ _ _ _ _ _ _ _ it s₂) _ _); refine Stop.elim ?_) | ((with_reducible show wpAny _ _ (exec (Stmt.For (PySem.Expr.Name _ _) (PySem.Expr.Call _ _ _ _) _ _ _) _) _ _ _); k_here; (rename PassesOwn _ _ _ _ => hE'); (rename Fr _ _ _ _ => lF'); (with_unfolding_all refine' For_turns lF' ?_ (hE := hE')); k_whole) | walk1 | (dsimp only; (first | (k_here; (with_reducible show wpAny _ _ (subscriptTail _ _ (Value.ref _) (Value.int _ _)) _ _ _); k_dflt ((refine' strs_last ?si1 ?si2 ?si3 ?_ ?si7; (case si1 => k_asm); (case si2 => k_mem); (case si3 => assumption); (case si7 => with_unfolding_all rfl))); intro _) | (k_here; (with_reducible show wpAny _ _ (subscriptTail _ _ (Value.ref _) (Value.str _ _)) _ _ _); k_dflt (refine' strd_itemN ?F ?m ?d ?l ?_ ?s ?g; (case F => k_asm); (case m => k_mem); (case d => assumption); (case l => assumption); (case s => with_unfolding_all rfl); (case g => (intro _; with_unfolding_all rfl)))) | (k_here; (with_reducible show wpAny _ _ (eval (Expr.ListComp _ [⟨_, _, [], _⟩] _ _) _) _ _ _); k_dflt (refine ListComp_S (F₀ := by k_asm) (by with_unfolding_all rfl) (by decide) (by rfl) (by decide) (by rfl) ?_)) | ((with_reducible show wpAny _ _ (call (Value.ref _) _ _) _ _ _); k_here; refine Stop.elim ?_) | ((with_reducible show SrcS _ _ _ _ _ _ _ _ _ _ _ _ _ _); refine Stop.elim ?_) | (k_here; (with_reducible show wpAny _ _ (pyIter (Value.ref _)) (fun it s₂ => TurnsAt _ _ _ _ _ _ _ _ _ it s₂) _ _); refine Stop.elim ?_) | ((with_reducible show wpAny _ _ (exec (Stmt.For (PySem.Expr.Name _ _) (PySem.Expr.Call _ _ _ _) _ _ _) _) _ _ _); k_here; (rename PassesOwn _ _ _ _ => hE'); (rename Fr _ _ _ _ => lF'); (with_unfolding_all refine' For_turns lF' ?_ (hE := hE')); k_whole) | walk1)) | (leave1; walk_say "STEP leave1"; try dsimp only) | fail "no step"))
        all_goals first
          | (exfalso; rename_i h9; have h8 := h9.symm.trans (found_mk b sp); rw [decide_eq_false ha] at h8; cases h8; done)
          | ((rename Fr _ _ _ _ => f6)
             (rename News _ _ _ _ => n6)
             refine LCg.CompEnd.intro f6 n6 nw (fun p hp => by rw [hpre] at hp; exact hp) off₂ trivial ⟨rfl, ?_⟩
             rw [htk, if_neg ha]
             exact strs_append hP₂ (.cons _ _ .nil))
    · clear fF nN
      intro ys₂ nw ⟨e₃, hP₂⟩
      subst e₃
      have efull : W.take (mkS W).cps.size = W := List.take_of_length_le (Nat.le_refl _)
      rw [efull] at hP₂
      have hj1 : (W.map fun c => if c ∈ sp then nmOf c else [c]).length ≤ 1000 := by rw [List.length_map]; omega
      have hj2 : ∀ l ∈ (W.map fun c => if c ∈ sp then nmOf c else [c]), l.length ≤ 100 := by
        intro l hl
        refine cutG fun PC hPC => ?_
        obtain ⟨c, _, rfl⟩ := List.mem_map.mp hl
        refine hPC ?_
        clear hPC PC
        have := (nmOf_length c).2
        split
        · omega
        · show 1 ≤ 100; decide
      intro D₃ h₆ tk₆ F₆ N₆ off₆
      rw [hpre] at N₆ off₆
      simp only [LCg.Off1] at off₆
      have hyl2 : ys.length ≤ 1000 := by omega
      (repeat' (first | (k_unfold; (try dsimp only)) | (k_end; wrow_close) | (k_here; (with_reducible show wpAny _ _ (subscriptTail _ _ (Value.ref _) (Value.int _ _)) _ _ _); k_dflt ((refine' strs_last ?si1 ?si2 ?si3 ?_ ?si7; (case si1 => k_asm); (case si2 => k_mem); (case si3 => assumption); (case si7 => with_unfolding_all rfl))); intro _) | (k_here; (with_reducible show wpAny _ _ (subscriptTail _ _ (Value.ref _) (Value.str _ _)) _ _ _); k_dflt (refine' strd_itemN ?F ?m ?d ?l ?_ ?s ?g; (case F => k_asm); (case m => k_mem); (case d => assumption); (case l => assumption); (case s => with_unfolding_all rfl); (case g => (intro _; with_unfolding_all rfl)))) | ((with_reducible show wpAny _ _ (compareOp CmpOp.NotEq (Value.str _ _) (Value.str _ _)) _ _ _); k_here; (with_reducible refine ne_same ?_)) | (k_here; (with_reducible show wpAny _ _ (eval (Expr.ListComp _ [⟨_, _, [], _⟩] _ _) _) _ _ _); k_dflt (refine ListComp_S (F₀ := by k_asm) (by with_unfolding_all rfl) (by decide) (by rfl) (by decide) (by rfl) ?_)) | (k_here; (with_reducible show wpAny _ _ (call (Value.builtin "str.join") [Value.str _ _, Value.ref _]) _ _ _); (refine' join_textsR ?jn ?jm ?jS ?j1 ?j2 ?jR ?_; (case jn => k_asm); (case jm => k_mem); (case jS => assumption); (case j1 => assumption); (case j2 => assumption); (case jR => assumption)); intro _ _) | (k_here; (with_reducible show wpAny _ _ (call (Value.builtin _) [Value.ref _, _]) _ _ _); k_dflt (refine' app_L ?k1 ?k2 ?k3 ?z ?_; (case k1 => k_asm); (case k2 => k_asm); (case k3 => k_upd); (case z => omega); k_whole); intro _ _ _) | ((with_reducible show wpAny _ _ (call (Value.ref _) _ _) _ _ _); k_here; refine Stop.elim ?_) | ((with_reducible show SrcS _ _ _ _ _ _ _ _ _ _ _ _ _ _); refine Stop.elim ?_) | ((with_reducible show UnrEndW _ _ _ _ _ _); refine Stop.elim ?_) | (k_here; (with_reducible show wpAny _ _ (pyIter (Value.ref _)) (fun it s₂ => TurnsAt _ _ _ _ _ _ _ _ _ it s₂) _ _); refine Stop.elim ?_) | ((with_reducible show wpAny _ _ (exec (Stmt.For (PySem.Expr.Name _ _) (PySem.Expr.Call _ _ _ _) _ _ _) _) _ _ _); k_here; (rename PassesOwn _ _ _ _ => hE'); (rename Fr _ _ _ _ => lF'); (with_unfolding_all refine' For_turns lF' ?_ (hE := hE')); k_whole) | walk1 | (dsimp only; (first | (k_here; (with_reducible show wpAny _ _ (subscriptTail _ _ (Value.ref _) (Value.int _ _)) _ _ _); k_dflt ((refine' strs_last ?si1 ?si2 ?si3 ?_ ?si7; (case si1 => k_asm); (case si2 => k_mem); (case si3 => assumption); (case si7 => with_unfolding_all rfl))); intro _) | (k_here; (with_reducible show wpAny _ _ (subscriptTail _ _ (Value.ref _) (Value.str _ _)) _ _ _); k_dflt (refine' strd_itemN ?F ?m ?d ?l ?_ ?s ?g; (case F => k_asm); (case m => k_mem); (case d => assumption); (case l => assumption); (case s => with_unfolding_all rfl); (case g => (intro _; with_unfolding_all rfl)))) | ((with_reducible show wpAny _ _ (compareOp CmpOp.NotEq (Value.str _ _) (Value.str _ _)) _ _ _); k_here; (with_reducible refine ne_same ?_)) | (k_here; (with_reducible show wpAny _ _ (eval (Expr.ListComp _ [⟨_, _, [], _⟩] _ _) _) _ _ _); k_dflt (refine ListComp_S (F₀ := by k_asm) (by with_unfolding_all rfl) (by decide) (by rfl) (by decide) (by rfl) ?_)) | (k_here; (with_reducible show wpAny _ _ (call (Value.builtin "str.join") [Value.str _ _, Value.ref _]) _ _ _); (refine' join_textsR ?jn ?jm ?jS ?j1 ?j2 ?jR ?_; (case jn => k_asm); (case jm => k_mem); (case jS => assumption); (case j1 => assumption); (case j2 => assumption); (case jR => assumption)); intro _ _) | (k_here; (with_reducible show wpAny _ _ (call (Value.builtin _) [Value.ref _, _]) _ _ _); k_dflt (refine' app_L ?k1 ?k2 ?k3 ?z ?_; (case k1 => k_asm); (case k2 => k_asm); (case k3 => k_upd); (case z => omega); k_whole); intro _ _ _) | ((with_reducible show wpAny _ _ (call (Value.ref _) _ _) _ _ _); k_here; refine Stop.elim ?_) | ((with_reducible show SrcS _ _ _ _ _ _ _ _ _ _ _ _ _ _); refine Stop.elim ?_) | ((with_reducible show UnrEndW _ _ _ _ _ _); refine Stop.elim ?_) | (k_here; (with_reducible show wpAny _ _ (pyIter (Value.ref _)) (fun it s₂ => TurnsAt _ _ _ _ _ _ _ _ _ it s₂) _ _); refine Stop.elim ?_) | ((with_reducible show wpAny _ _ (exec (Stmt.For (PySem.Expr.Name _ _) (PySem.Expr.Call _ _ _ _) _ _ _) _) _ _ _); k_here; (rename PassesOwn _ _ _ _ => hE'); (rename Fr _ _ _ _ => lF'); (with_unfolding_all refine' For_turns lF' ?_ (hE := hE')); k_whole) | walk1)) | (leave1; walk_say "STEP leave1"; try dsimp only) | fail "no step"))
      refine Stop.intro ?_
      (rename Fr _ _ _ _ => fF)
      (rename News _ _ _ _ => nN)
      refine' UnrEndW.intro fF nN _ ?hI ?sub ?off ?r
      case r =>
        refine' ⟨trivial, ys ++ [Value.str (mkS (wr H W)) t₁], c + 1, ⟨⟨rfl, rfl, rfl, rfl, trivial⟩, rfl⟩, ?b1, trivial⟩
        case b1 =>
          rw [wrsL_succ, wrsL_succ]
          have e2 : wrs H tl (i + 1) = wr H W := by rw [← hW]; rfl
          rw [e2, hW]
          exact strs_append hys (.cons _ _ .nil)
      case hI => k_subL
      case sub => k_subL
      case off => ktu_offL
  · intro m' news' h₂ tk₂ hJ hF hN
    rw [rangeItems_length] at hJ
    refine cutG fun PC hPC => ?_
    obtain ⟨ys, c, ⟨hkn, rfl⟩, hys, -⟩ := hJ
    refine hPC ?_
    clear hPC PC
    refine ret _ _ _ _ _ ?_ (kn_thin hkn ?_) hF hN
    · rw [hmn] at hys; exact hys
    · intro p hp
      exact .tail _ hp

end Mine
end

section
set_option maxRecDepth 100000
open PySem PySem.W PyProof.Rows PySem.Calls PySem.Spec
namespace Mine
noncomputable def cntW (r W : List Nat) : Int := cnt r ((W.map fun c => (c, true)).filter fun p => decide (p.1 ∈ r))
theorem mem_mid {α : Type} {a p : α} {l jk : List α} (h : p ∈ l) : p ∈ a :: (l ++ jk) := .tail _ (List.mem_append_left _ h)
theorem pick_from (ys : List Value) (k : Nat) (h : k ≤ ys.length) : kms_pick ys.toArray.toList (some (k : Int)) none = ys.drop k := by
  unfold kms_pick kms_lo kms_hi
  have e : ys.toArray.toList = ys := rfl
  rw [e]
  have h2 : ¬ ((k : Int) < 0) := by omega
  have h3 : min ((k : Int)).toNat ys.length = k := by
    have : ((k : Int)).toNat = k := rfl
    rw [this]; omega
  simp only [h2, if_false, h3]
  exact List.take_of_length_le (by rw [List.length_drop]; omega)
theorem pick_upto (ys : List Value) (k : Int) (h : 0 ≤ k) (h1 : k ≤ ys.length) : kms_pick ys.toArray.toList none (some k) = ys.take k.toNat := by
  unfold kms_pick kms_lo kms_hi
  have e : ys.toArray.toList = ys := rfl
  rw [e]
  have h2 : ¬ (k < 0) := by omega
  have h3 : min k.toNat ys.length = k.toNat := by omega
  simp only [h2, if_false, h3, List.drop_zero, Nat.sub_zero]



set_option maxHeartbeats 8000000 in
theorem st12 (w : World) (p : Program) (loose : List Str) (mean : ExcName → Option Value) (mg mb : Str → Option Value) (dp u : Nat) (fr : Option (List Env)) (g : Heap) (s : Shared) (L' fa : Addr) (cd : Value) (Q : Flow → Shared → Prop) (E : Value → Shared → Prop)
    (X : (Pre.hc.heap_1 w.params).In g) (T : Top p loose mean mg mb g) (hd : dp + 300 < recursionLimit) (hu : u + 3000 < cLine) (hE : PassesOwn (model PySem.Challenge.rw_zo0028_01.row.prog w) ((AR dp u fr (some [])).deeper (lenv L' fa cd)) (lenv L' fa cd) E) (m : Str → Option Value) (F : Fr g L' s.heap m) (o1 o2 o3 o4 o5 o6 o7 t65 t58 : Obj) (b65 : @LT.lt Nat _ 65 L') (b58 : @LT.lt Nat _ 58 L')
    (H : Int) (dn mn : Nat) (tg tm : Tok) (dg1 : 2 ≤ dn) (dg2 : dn ≤ 3) (tl r : List Nat) (tr : Tok) (ys : List Value) (lw nd : Addr) (cw : Nat) (on : Obj) (l_lw : @LT.lt Nat _ (L' + 1 + 1 + 1 + 1 + 1 + 1 + 1) lw) (l_nd : @LT.lt Nat _ (L' + 1 + 1 + 1 + 1 + 1 + 1 + 1) nd) (l_ne : @LT.lt Nat _ nd lw)
    (d6 : o6.data = .cell (some (.str (mkS r) tr))) (hr : r.length = dn) (hys : StrsAre ys (wrsL H tl (dn + 3))) (hlen : ∀ k, k ≤ 6 → (wrs H tl k).length ≤ 100) (ret : ∀ m' h' tk' lk ks, IntsAre ks (((List.range (dn + 2)).map fun k => wrs H tl (k + 1)).map (cntW r)) → @Ne Nat lk 65 → @Ne Nat lk 58 →  Knows m' [(Str.ofString "degree", (Value.int dn tg : Value)), (Str.ofString "many", (Value.int mn tm : Value)), (Str.ofString "writings", (Value.ref lw : Value)), (Str.ofString "counts", (Value.ref lk : Value))] → Fr g L' h' m' → News g L' h' [(lk, LCg.lst ks), (lw, listOf ys.toArray cw), (nd, on), (L' + 1 + 1 + 1 + 1 + 1 + 1 + 1, o7), (L' + 1 + 1 + 1 + 1 + 1 + 1, o6), (L' + 1 + 1 + 1 + 1 + 1, o5), (L' + 1 + 1 + 1 + 1, o4), (L' + 1 + 1 + 1, o3), (L' + 1 + 1, o2), (L' + 1, o1), (65, t65), (58, t58)] → Q .next { s with heap := h', toks := tk' }) (kn : Knows m [(Str.ofString "degree", (Value.int dn tg : Value)), (Str.ofString "many", (Value.int mn tm : Value)), (Str.ofString "writings", (Value.ref lw : Value))]) (N : News g L' s.heap [(lw, listOf ys.toArray cw), (nd, on), (L' + 1 + 1 + 1 + 1 + 1 + 1 + 1, o7), (L' + 1 + 1 + 1 + 1 + 1 + 1, o6), (L' + 1 + 1 + 1 + 1 + 1, o5), (L' + 1 + 1 + 1 + 1, o4), (L' + 1 + 1 + 1, o3), (L' + 1 + 1, o2), (L' + 1, o1), (65, t65), (58, t58)]) :
    wpAny (model PySem.Challenge.rw_zo0028_01.row.prog w) ((AR dp u fr (some [])).deeper (lenv L' fa cd)) (exec (lawS 12) (lenv L' fa cd)) Q E s := by
  w_top off
  have _ : PySem.Challenge.rw_zo0028_01.row.prog = PySem.Challenge.rw_zo0028_01.row.prog → (Pre.hc.heap_1 w.params).In g := by (k_fill; exact fun _ => X)
  replace F := knows_fr F kn
  dsimp only [knowF] at F
  clear kn
  dsimp only [lenv, lawS, stm, lawD, recOf]

  have hyl : ys.length = dn + 3 := by rw [hys.length, wrsL_length]
  (repeat' (first | (k_unfold; (try dsimp only)) | (k_end; wrow_close) | ((with_reducible show LCg.CompSrc _ _ _ _ _ _ _ _ _ _ _ _ _ _); refine Stop.elim ?_) | (k_here; (with_reducible show wpAny _ _ (subscriptTail _ (PySem.Expr.Slice _ _ none _) (Value.ref _) (Value.ref _)) _ _ _); k_dflt (refine' kms_slice_lit ?F ?N ?l ?p ?q ?e ?_ ?s ?t ?z; (case F => k_asm); (case N => k_asm); (case l => exact PySem.IsL.isList (News.get (by k_asm) (by k_mem))); (case p => kmk_part); (case q => kmk_part); (case e => first | exact pick_from _ 1 (by omega) | exact pick_upto _ _ (by omega) (by omega)); (case s => with_unfolding_all rfl); (case t => kmk_pure); (case z => (rw [List.size_toArray]; exact Nat.le_trans (by omega : _ ≤ 1000) (by decide)))); intro _ _ _ _ l1; (try k_lt l1)) | ((with_reducible show wpAny _ _ (exec (Stmt.Assign _ (PySem.Expr.ListComp _ _ _ _) _) _) _ _ _); k_here; k_dflt (refine LCg.Assign_ListComp_U (F₀ := by k_asm) (by rfl) (by with_unfolding_all rfl) (by with_unfolding_all rfl) (by decide) (by rfl) (by decide) (by rfl) (by rfl) (by rfl) ?_)) | walk1 | (dsimp only; (first | ((with_reducible show LCg.CompSrc _ _ _ _ _ _ _ _ _ _ _ _ _ _); refine Stop.elim ?_) | (k_here; (with_reducible show wpAny _ _ (subscriptTail _ (PySem.Expr.Slice _ _ none _) (Value.ref _) (Value.ref _)) _ _ _); k_dflt (refine' kms_slice_lit ?F ?N ?l ?p ?q ?e ?_ ?s ?t ?z; (case F => k_asm); (case N => k_asm); (case l => exact PySem.IsL.isList (News.get (by k_asm) (by k_mem))); (case p => kmk_part); (case q => kmk_part); (case e => first | exact pick_from _ 1 (by omega) | exact pick_upto _ _ (by omega) (by omega)); (case s => with_unfolding_all rfl); (case t => kmk_pure); (case z => (rw [List.size_toArray]; exact Nat.le_trans (by omega : _ ≤ 1000) (by decide)))); intro _ _ _ _ l1; (try k_lt l1)) | ((with_reducible show wpAny _ _ (exec (Stmt.Assign _ (PySem.Expr.ListComp _ _ _ _) _) _) _ _ _); k_here; k_dflt (refine LCg.Assign_ListComp_U (F₀ := by k_asm) (by rfl) (by with_unfolding_all rfl) (by with_unfolding_all rfl) (by decide) (by rfl) (by decide) (by rfl) (by rfl) (by rfl) ?_)) | walk1)) | (leave1; walk_say "STEP leave1"; try dsimp only) | fail "no step"))
  refine Stop.intro ?_
  (rename Fr _ _ _ _ => fF)
  (rename News _ _ _ _ => nN)
  refine LCg.CompSrc.ledger (by rfl) fF nN (.head _) (by rw [List.size_toArray, List.length_drop, hyl]; exact Nat.le_trans (by omega : _ ≤ 1000) (by decide)) ?_
  intro g₂
  generalize hnw : List.cons (_, W.listOf (List.drop 1 ys).toArray 0) _ = nw₀ at nN ⊢
  have esz : (List.drop 1 ys).toArray.size = dn + 2 := by rw [List.size_toArray, List.length_drop, hyl]; omega
  rw [esz]
  have hyd := hys.drop' 1
  refine comp_ind (fun i ks nw => nw = nw₀ ∧ IntsAre ks (((List.range i).map fun k => wrs H tl (k + 1)).map (cntW r))) ?_ ?_ ⟨rfl, .nil⟩
  · intro i v I oI C oC D₃ ks nw m₂ h₂ tk₂ E' hi ⟨e₃, hJ⟩ hv hoC hx hF hN off hne
    subst e₃
    rw [← hnw] at hN off ⊢
    clear fF nN
    have hv' : (List.drop 1 ys)[i]? = some v := by simpa using hv
    refine cutG fun PC hPC => ?_
    obtain ⟨y, ty, rfl, hy⟩ := hyd.item i v hv'
    refine hPC ?_
    clear hPC PC
    have hy2 : y = mkS (wrs H tl (i + 1)) := by
      have e1 : (wrsL H tl (dn + 3))[i + 1]? = some (mkS (wrs H tl (i + 1))) := by
        show (((List.range (dn + 3)).map (wrs H tl)).map mkS)[i + 1]? = _
        rw [List.getElem?_map, List.getElem?_map, List.getElem?_range (by omega)]; rfl
      rw [List.getElem?_drop, Nat.add_comm 1 i, e1] at hy
      exact (Option.some.inj hy).symm
    subst hy2
    have hll := hlen (i + 1) (by omega)
    have hrg : ((List.range (i + 1)).map fun k => wrs H tl (k + 1)).map (cntW r) = ((List.range i).map fun k => wrs H tl (k + 1)).map (cntW r) ++ [cntW r (wrs H tl (i + 1))] := by
      rw [List.range_succ, List.map_append, List.map_append]; rfl
    generalize hW : wrs H tl (i + 1) = W at *
    (repeat' (first | (k_unfold; (try dsimp only)) | (k_end; wrow_close) | ((with_reducible show wpAny _ _ (eval (PySem.Expr.ListComp _ _ _ _) _) _ _ _); k_here; first | ((with_reducible show wpAny _ _ (eval (Expr.ListComp _ [⟨_, _, [], _⟩] _ _) _) _ _ _); k_dflt (refine LCg.ListComp_U (F₀ := by k_asm) (by with_unfolding_all rfl) (by decide) (by rfl) (by decide) (by rfl) ?_)) | ((with_reducible show wpAny _ _ (eval (Expr.ListComp _ [⟨_, _, [_], _⟩] _ _) _) _ _ _); k_dflt (refine ListComp_ST (F₀ := by k_asm) (by with_unfolding_all rfl) (by decide) (by rfl) (by decide) (by rfl) ?_))) | ((with_reducible show SrcST _ _ _ _ _ _ _ _ _ _ _ _ _ _ _); refine Stop.elim ?_) | walk1 | (dsimp only; (first | ((with_reducible show wpAny _ _ (eval (PySem.Expr.ListComp _ _ _ _) _) _ _ _); k_here; first | ((with_reducible show wpAny _ _ (eval (Expr.ListComp _ [⟨_, _, [], _⟩] _ _) _) _ _ _); k_dflt (refine LCg.ListComp_U (F₀ := by k_asm) (by with_unfolding_all rfl) (by decide) (by rfl) (by decide) (by rfl) ?_)) | ((with_reducible show wpAny _ _ (eval (Expr.ListComp _ [⟨_, _, [_], _⟩] _ _) _) _ _ _); k_dflt (refine ListComp_ST (F₀ := by k_asm) (by with_unfolding_all rfl) (by decide) (by rfl) (by decide) (by rfl) ?_))) | ((with_reducible show SrcST _ _ _ _ _ _ _ _ _ _ _ _ _ _ _); refine Stop.elim ?_) | walk1)) | (leave1; walk_say "STEP leave1"; try dsimp only) | fail "no step"))
    refine Stop.intro ?_
    (rename Fr _ _ _ _ => fF)
    (rename News _ _ _ _ => nN)
    obtain ⟨pre, hpre, nN⟩ : ∃ pre : List (Addr × Obj), pre = _ ∧ News _ _ _ pre := ⟨_, rfl, nN⟩
    have nN2 : News g L' h₂ (pre ++ []) := by rw [List.append_nil]; exact nN
    refine SrcST.intro rfl fF nN2 (by show W.length ≤ sizeLine; exact Nat.le_trans hll (by decide)) ?_
    intro g₃
    refine comp_indT (fun i ys nw => ∃ jk, nw = pre ++ jk ∧ PrIn jk ys (((W.take i).map fun c => (c, true)).filter fun p => decide (p.1 ∈ r))) ?_ ?_ ⟨[], rfl, .nil⟩
    · clear fF nN nN2
      intro i₂ v₂ I₂ oI₂ C₂ oC₂ D₂ ys₂ nw₂ m₃ h₆ tk₆ E₂ hi₂ ⟨jk, e₄, hP₂⟩ hv₂ hoC₂ hx₂ hF₂ hN₂ off₂ hne3
      subst e₄
      refine cutG fun PC hPC => ?_
      obtain ⟨b, ub, hb, rfl⟩ := hv₂
      refine hPC ?_
      clear hPC PC
      have hoff := off3_app off₂
      rw [hpre] at hN₂
      simp only [List.cons_append, List.nil_append] at hN₂
      have hb' : W[i₂]? = some b := by
        have : W.toArray[i₂]? = some b := hb
        simpa using this
      have htk : ((W.take (i₂ + 1)).map fun c => (c, true)).filter (fun p => decide (p.1 ∈ r)) = ((W.take i₂).map fun c => (c, true)).filter (fun p => decide (p.1 ∈ r)) ++ (if b ∈ r then [(b, true)] else []) := by
        rw [List.take_add_one, hb', List.map_append, List.filter_append]
        by_cases hc : b ∈ r <;> simp [hc]
      k_steps
      next =>
        rename_i h9
        have hc : b ∉ r := by
          intro hm
          have h8 := h9.symm.trans (found_mk b r)
          rw [decide_eq_true hm] at h8
          cases h8
        refine LCg.CompEnd.intro hF₂ hN₂ (pre ++ jk) (fun p hp => by rw [hpre] at hp; exact hp) off₂ trivial ⟨jk, rfl, ?_⟩
        rw [htk, if_neg hc, List.append_nil]
        exact hP₂
      next =>
        (rename Fr _ _ _ _ => f6)
        (rename News _ _ _ _ => n6)
        rename_i h8 T2 hT2 l2
        have hc : b ∈ r := by
          have h7 := h8.symm.trans (found_mk b r)
          by_cases hm : b ∈ r
          · exact hm
          · rw [decide_eq_false hm] at h7
            cases h7
        have n7 : News g L' hT2 ((T2, tup2 (.str (mkS [b]) ub) (.bool true) 0) :: (I₂, oI₂) :: (C₂, oC₂) :: (D₂, LCg.lst ys₂) :: (pre ++ jk)) := by rw [hpre]; exact n6
        refine LCg.CompEnd.intro f6 n7 (pre ++ ((T2, tup2 (.str (mkS [b]) ub) (.bool true) 0) :: jk)) mem_shuf (off3_of fun p hp => ?_) trivial ⟨_ :: jk, rfl, ?_⟩
        · rcases List.mem_append.mp hp with h | h
          · exact hoff p (List.mem_append_left _ h)
          · rcases List.mem_cons.mp h with rfl | h
            · refine ⟨?_, ?_, ?_⟩ <;> (refine neN ?_; dsimp only; omega)
            · exact hoff p (List.mem_append_right _ h)
        · rw [htk, if_pos hc]
          exact (hP₂.mono fun p hp => .tail _ hp).append (PrIn.one _ _ _ _)
    · clear fF nN nN2
      intro ys₂ nw₂ ⟨jk, e₄, hP₂⟩
      subst e₄
      have efull : W.take (mkS W).cps.size = W := List.take_of_length_le (Nat.le_refl _)
      rw [efull] at hP₂
      have hyl2 : ys₂.length ≤ 1000 := by
        have h1 := List.length_filter_le (fun p : Nat × Bool => decide (p.1 ∈ r)) (W.map fun c => (c, true))
        rw [List.length_map] at h1
        rw [hP₂.length]; omega
      intro D₄ h₆ tk₆ F₆ N₆ off₆
      have N₇ := N₆
      rw [hpre] at N₆
      simp only [List.cons_append, List.nil_append] at N₆
      clear N₇
      (repeat' (first | (k_unfold; (try dsimp only)) | (k_end; wrow_close) | ((with_reducible show wpAny _ _ (call (Value.ref _) _ _) _ _ _); k_here; refine Stop.elim ?_) | walk1 | (dsimp only; (first | ((with_reducible show wpAny _ _ (call (Value.ref _) _ _) _ _ _); k_here; refine Stop.elim ?_) | walk1)) | (leave1; walk_say "STEP leave1"; try dsimp only) | fail "no step"))
      refine Stop.intro ?_
      (rename Fr _ _ _ _ => fF)
      (rename News _ _ _ _ => nN)
      have hPy : PairsAre _ ys₂ _ := hP₂.pairs (news_subl nN fun p hp => by
        repeat (first | exact hp | refine .tail _ ?_))
      refine' use_int (con_count w D₄ ys₂ ((W.map fun c => (c, true)).filter fun p => decide (p.1 ∈ r)) r _ (by omega) hyl2) fF nN X T ?p1 ?p2 ?p3 ?_
      case p1 => k_room
      case p2 => k_room
      case p3 => exact ⟨⟨_, (nN _ (.head _)).1, rfl, _, rfl⟩, hPy⟩
      intro h₇ tk₇ t₇ F₇ N₇ _
      clear fF nN
      k_steps
      (rename Fr _ _ _ _ => f9)
      (rename News _ _ _ _ => n9)
      refine LCg.CompEnd.intro f9 n9 _ (fun p hp => ?_) off (Or.inr ⟨_, .head _, rfl, _, rfl⟩) ⟨rfl, ?_⟩
      · exact mem_mid (jk := jk) hp
      · rw [hrg]
        exact hJ.append (.cons _ _ .nil)
  · intro ks nw ⟨e₃, hJ⟩
    subst e₃
    rw [← hnw] at nN ⊢
    clear fF nN
    intro D₃ h₃ tk₃ F₃ N₃ off₃
    simp only [LCg.Off1] at off₃
    k_steps
    dsimp only
    (rename Fr _ _ _ _ => fF)
    (rename News _ _ _ _ => nN)
    exact ret _ _ _ _ _ hJ (by omega) (by omega) ⟨rfl, rfl, rfl, rfl, trivial⟩ fF (news_subl nN fun p hp => by
      rcases List.mem_cons.mp hp with rfl | hp
      · exact .head _
      · exact .tail _ (.tail _ hp))

end Mine
end

section
set_option maxRecDepth 100000
open PySem PySem.W PyProof.Rows PySem.Calls PySem.Spec
namespace Mine
section
variable {prog : Program} {w : World} {A : Around} {E : Value → Shared → Prop} {s : Shared} {h₀ : Heap} {L : Addr} {m : Str → Option Value} {news : List (Addr × Obj)}
theorem list_at {value slice : PySem.Expr} {D : Addr} {ys : List Value} {n j : Nat} {k : Int} {v : Value} {u : Tok} {Q : Value → Shared → Prop} (N : News h₀ L s.heap news) (hm : (D, listOf ys.toArray n) ∈ news) (h0 : 0 ≤ k ∧ k < 2 ^ 63) (hj : k.toNat = j) (hx : ys[j]? = some v)
    (h : Q v s)
    (hs : subscripted slice false (.ref D) (.int k u) = operate [.ref D, .int k u] (getItem (.ref D) (.int k u)) := by with_unfolding_all rfl) :
    wpAny (model prog w) A (subscriptTail value slice (.ref D) (.int k u)) Q E s := by
  have hl : s.heap.IsList D ys.toArray := PySem.IsL.isList (N _ hm).1
  exact tail_any hl.typeIs slot_list_getitem.lookup (wpAny_getItem_list hl h0.1 h0.2 (by rw [hj]; simpa using hx) h) hs
end


set_option maxHeartbeats 8000000 in
theorem st13 (w : World) (p : Program) (loose : List Str) (mean : ExcName → Option Value) (mg mb : Str → Option Value) (dp u : Nat) (fr : Option (List Env)) (g : Heap) (s : Shared) (L' fa : Addr) (cd : Value) (Q : Flow → Shared → Prop) (E : Value → Shared → Prop)
    (X : (Pre.hc.heap_1 w.params).In g) (T : Top p loose mean mg mb g) (hd : dp + 300 < recursionLimit) (hu : u + 3000 < cLine) (hE : PassesOwn (model PySem.Challenge.rw_zo0028_01.row.prog w) ((AR dp u fr (some [])).deeper (lenv L' fa cd)) (lenv L' fa cd) E) (m : Str → Option Value) (F : Fr g L' s.heap m) (o1 o2 o3 o4 o5 o6 o7 t65 t58 : Obj) (b65 : @LT.lt Nat _ 65 L') (b58 : @LT.lt Nat _ 58 L')
    (H : Int) (dn mn : Nat) (tg tm : Tok) (dg2 : dn ≤ 3) (tl r : List Nat) (tr : Tok) (ys ks : List Value) (lw lk nd : Addr) (cw : Nat) (on : Obj) (ns : List Int)
    (d6 : o6.data = .cell (some (.str (mkS r) tr))) (hr : r.length = dn) (hys : StrsAre ys (wrsL H tl (dn + 3))) (hks : IntsAre ks (ways (wrs H tl 1) r :: ns)) (hlen : (wrs H tl 1).length ≤ 100) (ret : ∀ m' h' tk' (_ : Unit),  Knows m' [(Str.ofString "degree", (Value.int dn tg : Value)), (Str.ofString "many", (Value.int mn tm : Value)), (Str.ofString "counts", (Value.ref lk : Value))] → Fr g L' h' m' → News g L' h' [(lk, LCg.lst ks), (nd, on), (L' + 1 + 1 + 1 + 1 + 1 + 1 + 1, o7), (L' + 1 + 1 + 1 + 1 + 1 + 1, o6), (L' + 1 + 1 + 1 + 1 + 1, o5), (L' + 1 + 1 + 1 + 1, o4), (L' + 1 + 1 + 1, o3), (L' + 1 + 1, o2), (L' + 1, o1), (65, t65), (58, t58)] → Q .next { s with heap := h', toks := tk' }) (kn : Knows m [(Str.ofString "degree", (Value.int dn tg : Value)), (Str.ofString "many", (Value.int mn tm : Value)), (Str.ofString "writings", (Value.ref lw : Value)), (Str.ofString "counts", (Value.ref lk : Value))]) (N : News g L' s.heap [(lk, LCg.lst ks), (lw, listOf ys.toArray cw), (nd, on), (L' + 1 + 1 + 1 + 1 + 1 + 1 + 1, o7), (L' + 1 + 1 + 1 + 1 + 1 + 1, o6), (L' + 1 + 1 + 1 + 1 + 1, o5), (L' + 1 + 1 + 1 + 1, o4), (L' + 1 + 1 + 1, o3), (L' + 1 + 1, o2), (L' + 1, o1), (65, t65), (58, t58)]) :
    wpAny (model PySem.Challenge.rw_zo0028_01.row.prog w) ((AR dp u fr (some [])).deeper (lenv L' fa cd)) (exec (lawS 13) (lenv L' fa cd)) Q E s := by
  w_top off
  have _ : PySem.Challenge.rw_zo0028_01.row.prog = PySem.Challenge.rw_zo0028_01.row.prog → (Pre.hc.heap_1 w.params).In g := by (k_fill; exact fun _ => X)
  replace F := knows_fr F kn
  dsimp only [knowF] at F
  clear kn
  dsimp only [lenv, lawS, stm, lawD, recOf]

  have hk0 : ∃ t, ks[0]? = some (.int (ways (wrs H tl 1) r) t) := by
    cases hks with
    | cons a t h => exact ⟨t, rfl⟩
  have hy1 : ∃ t, ys[1]? = some (.str (mkS (wrs H tl 1)) t) := hys.at (by
    show (((List.range (dn + 3)).map (wrs H tl)).map mkS)[1]? = _
    rw [List.getElem?_map, List.getElem?_map, List.getElem?_range (by omega)]; rfl)
  obtain ⟨tk0, hk0⟩ := hk0
  obtain ⟨ty1, hy1⟩ := hy1
  (repeat' (first | (k_unfold; (try dsimp only)) | (k_end; wrow_close) | (k_here; (with_reducible show wpAny _ _ (subscriptTail _ _ (Value.ref _) (Value.int _ _)) _ _ _); k_dflt ((refine' list_at ?si1 ?si2 ?si3 ?si4 ?si5 ?_ ?si7; (case si1 => k_asm); (case si2 => k_mem); (case si3 => decide); (case si4 => rfl); (case si5 => assumption); (case si7 => with_unfolding_all rfl)))) | ((with_reducible show wpAny _ _ (call (Value.ref _) _ _) _ _ _); k_here; refine Stop.elim ?_) | walk1 | (dsimp only; (first | (k_here; (with_reducible show wpAny _ _ (subscriptTail _ _ (Value.ref _) (Value.int _ _)) _ _ _); k_dflt ((refine' list_at ?si1 ?si2 ?si3 ?si4 ?si5 ?_ ?si7; (case si1 => k_asm); (case si2 => k_mem); (case si3 => decide); (case si4 => rfl); (case si5 => assumption); (case si7 => with_unfolding_all rfl)))) | ((with_reducible show wpAny _ _ (call (Value.ref _) _ _) _ _ _); k_here; refine Stop.elim ?_) | walk1)) | (leave1; walk_say "STEP leave1"; try dsimp only) | fail "no step"))
  refine Stop.intro ?_
  (rename Fr _ _ _ _ => fF)
  (rename News _ _ _ _ => nN)
  refine' use_int (con_ways w (wrs H tl 1) r _ _ (by omega) (by omega)) fF nN X T ?p1 ?p2 ?p3 ?_
  case p1 => k_room
  case p2 => k_room
  case p3 => trivial
  intro h₇ tk₇ t₇ F₇ N₇ _
  clear fF nN
  k_steps
  all_goals try (exfalso; rename_i h9; first | exact h9 rfl | exact absurd rfl h9)
  dsimp only
  (rename Fr _ _ _ _ => fF)
  (rename News _ _ _ _ => nN)
  exact ret _ _ _ () ⟨rfl, rfl, rfl, trivial⟩ fF (news_subl nN fun p hp => by
      rcases List.mem_cons.mp hp with rfl | hp
      · exact .head _
      · exact .tail _ (.tail _ hp))

end Mine
end

section
set_option maxRecDepth 100000
open PySem PySem.W PyProof.Rows PySem.Calls PySem.Spec
namespace Mine


set_option maxHeartbeats 8000000 in
theorem st14 (w : World) (p : Program) (loose : List Str) (mean : ExcName → Option Value) (mg mb : Str → Option Value) (dp u : Nat) (fr : Option (List Env)) (g : Heap) (s : Shared) (L' fa : Addr) (cd : Value) (Q : Flow → Shared → Prop) (E : Value → Shared → Prop)
    (X : (Pre.hc.heap_1 w.params).In g) (T : Top p loose mean mg mb g) (hd : dp + 300 < recursionLimit) (hu : u + 3000 < cLine) (hE : PassesOwn (model PySem.Challenge.rw_zo0028_01.row.prog w) ((AR dp u fr (some [])).deeper (lenv L' fa cd)) (lenv L' fa cd) E) (m : Str → Option Value) (F : Fr g L' s.heap m) (o1 o2 o3 o4 o5 o6 o7 t65 t58 : Obj) (b65 : @LT.lt Nat _ 65 L') (b58 : @LT.lt Nat _ 58 L')
    (dn mn : Nat) (tg tm : Tok) (dg2 : dn ≤ 3) (ks : List Value) (lk nd : Addr) (on : Obj) (ns : List Int) (hks : IntsAre ks ns) (hnl : ns.length = dn + 2) (b65' : @Ne Nat lk 65) (b58' : @Ne Nat lk 58) (ret : ∀ m' h' tk' lr orw rs nr, orw.cls = .type "list" → orw.data = .seq rs.toArray nr → IntsAre rs (difs (dn + 1) (ns.take (dn + 1))) → @Ne Nat lr 65 → @Ne Nat lr 58 →  Knows m' [(Str.ofString "degree", (Value.int dn tg : Value)), (Str.ofString "many", (Value.int mn tm : Value)), (Str.ofString "counts", (Value.ref lk : Value)), (Str.ofString "row", (Value.ref lr : Value))] → Fr g L' h' m' → News g L' h' [(lr, orw), (lk, LCg.lst ks), (nd, on), (L' + 1 + 1 + 1 + 1 + 1 + 1 + 1, o7), (L' + 1 + 1 + 1 + 1 + 1 + 1, o6), (L' + 1 + 1 + 1 + 1 + 1, o5), (L' + 1 + 1 + 1 + 1, o4), (L' + 1 + 1 + 1, o3), (L' + 1 + 1, o2), (L' + 1, o1), (65, t65), (58, t58)] → Q .next { s with heap := h', toks := tk' }) (kn : Knows m [(Str.ofString "degree", (Value.int dn tg : Value)), (Str.ofString "many", (Value.int mn tm : Value)), (Str.ofString "counts", (Value.ref lk : Value))]) (N : News g L' s.heap [(lk, LCg.lst ks), (nd, on), (L' + 1 + 1 + 1 + 1 + 1 + 1 + 1, o7), (L' + 1 + 1 + 1 + 1 + 1 + 1, o6), (L' + 1 + 1 + 1 + 1 + 1, o5), (L' + 1 + 1 + 1 + 1, o4), (L' + 1 + 1 + 1, o3), (L' + 1 + 1, o2), (L' + 1, o1), (65, t65), (58, t58)]) :
    wpAny (model PySem.Challenge.rw_zo0028_01.row.prog w) ((AR dp u fr (some [])).deeper (lenv L' fa cd)) (exec (lawS 14) (lenv L' fa cd)) Q E s := by
  w_top off
  have _ : PySem.Challenge.rw_zo0028_01.row.prog = PySem.Challenge.rw_zo0028_01.row.prog → (Pre.hc.heap_1 w.params).In g := by (k_fill; exact fun _ => X)
  replace F := knows_fr F kn
  dsimp only [knowF] at F
  clear kn
  dsimp only [lenv, lawS, stm, lawD, recOf]

  have hkl : ks.length = dn + 2 := by rw [hks.length, hnl]
  (repeat' (first | (k_unfold; (try dsimp only)) | (k_end; wrow_close) | (k_here; (with_reducible show wpAny _ _ (subscriptTail _ (PySem.Expr.Slice _ _ none _) (Value.ref _) (Value.ref _)) _ _ _); k_dflt (refine' kms_slice_lit ?F ?N ?l ?p ?q ?e ?_ ?s ?t ?z; (case F => k_asm); (case N => k_asm); (case l => exact PySem.IsL.isList (News.get (by k_asm) (by k_mem))); (case p => kmk_part); (case q => kmk_part); (case e => exact pick_upto _ _ (by omega) (by omega)); (case s => with_unfolding_all rfl); (case t => kmk_pure); (case z => (rw [List.size_toArray]; exact Nat.le_trans (by omega : _ ≤ 1000) (by decide)))); intro _ _ _ _ l1; (try k_lt l1)) | ((with_reducible show wpAny _ _ (call (Value.ref _) _ _) _ _ _); k_here; refine Stop.elim ?_) | walk1 | (dsimp only; (first | (k_here; (with_reducible show wpAny _ _ (subscriptTail _ (PySem.Expr.Slice _ _ none _) (Value.ref _) (Value.ref _)) _ _ _); k_dflt (refine' kms_slice_lit ?F ?N ?l ?p ?q ?e ?_ ?s ?t ?z; (case F => k_asm); (case N => k_asm); (case l => exact PySem.IsL.isList (News.get (by k_asm) (by k_mem))); (case p => kmk_part); (case q => kmk_part); (case e => exact pick_upto _ _ (by omega) (by omega)); (case s => with_unfolding_all rfl); (case t => kmk_pure); (case z => (rw [List.size_toArray]; exact Nat.le_trans (by omega : _ ≤ 1000) (by decide)))); intro _ _ _ _ l1; (try k_lt l1)) | ((with_reducible show wpAny _ _ (call (Value.ref _) _ _) _ _ _); k_here; refine Stop.elim ?_) | walk1)) | (leave1; walk_say "STEP leave1"; try dsimp only) | fail "no step"))
  refine Stop.intro ?_
  (rename Fr _ _ _ _ => fF)
  (rename News _ _ _ _ => nN)
  have hkt : IntsAre (ks.take ((dn : Int) + 1).toNat) (ns.take ((dn : Int) + 1).toNat) := hks.take _
  have e1 : ((dn : Int) + 1).toNat = dn + 1 := by omega
  rw [e1] at hkt nN
  have e2 : (ns.take (dn + 1)).length = dn + 1 := by rw [List.length_take]; omega
  refine' use_pur (con_diff w _ (ks.take (dn + 1)) (ns.take (dn + 1)) hkt (by omega)) fF nN X T ?p1 ?p2 ?p3 ?_
  case p1 => k_room
  case p2 => k_room
  case p3 => exact PySem.IsL.isList (nN _ (.head _)).1
  intro r₁ h₁ tk₁ F₁ N₁ _ ⟨D, rs, e₁, hfr, ⟨orw, hor, hoc, nr, hod⟩, hrs⟩
  subst e₁
  rw [e2] at hrs
  have nb1 := news_ne nN hfr (p := (65, t65)) (by simp)
  have nb2 := news_ne nN hfr (p := (58, t58)) (by simp)
  dsimp only at nb1 nb2
  replace N₁ := news_add fF N₁ hfr hor
  clear fF nN
  k_steps
  dsimp only
  (rename Fr _ _ _ _ => fF)
  (rename News _ _ _ _ => nN)
  exact ret _ _ _ D orw rs nr hoc hod hrs nb1 nb2 ⟨rfl, rfl, rfl, rfl, trivial⟩ fF (news_subl nN fun p hp => by
      rcases List.mem_cons.mp hp with rfl | hp
      · exact .head _
      · exact .tail _ (.tail _ hp))

end Mine
end

section
set_option maxRecDepth 100000
open PySem PySem.W PyProof.Rows PySem.Calls PySem.Spec
namespace Mine
/-- a code record that stands in the ground or in the ledger's tail -/
noncomputable def CodeK (g : Heap) (ct : List (Addr × Obj)) (c : Addr) (qual : Str) : Prop :=
  ∀ h : Heap, (∀ b o, g.get? b = some o → h.get? b = some o) → (∀ p ∈ ct, h.get? p.1 = some p.2) → h.CodeRec (.ref c) qual
noncomputable def TabK (g : Heap) (ct : List (Addr × Obj)) (ps : Array Value) (q : Int × Int × Str) : Prop := ps = #[] ∨ ∃ c, ps = fullOf q c ∧ CodeK g ct c q.2.2
noncomputable def TabF (g : Heap) (ct : List (Addr × Obj)) (ps : Array Value) (q : Int × Int × Str) : Prop := ∃ c, ps = fullOf q c ∧ CodeK g ct c q.2.2
theorem CodeK.mono {g : Heap} {ct ct' : List (Addr × Obj)} {c : Addr} {q : Str} (h : CodeK g ct c q) (s : ∀ p ∈ ct, p ∈ ct') : CodeK g ct' c q := fun h' k1 k2 => h h' k1 fun p hp => k2 p (s p hp)
theorem TabK.mono {g : Heap} {ct ct' : List (Addr × Obj)} {ps : Array Value} {q : Int × Int × Str} (h : TabK g ct ps q) (s : ∀ p ∈ ct, p ∈ ct') : TabK g ct' ps q := h.elim .inl fun ⟨c, e, k⟩ => .inr ⟨c, e, k.mono s⟩
theorem TabF.mono {g : Heap} {ct ct' : List (Addr × Obj)} {ps : Array Value} {q : Int × Int × Str} (h : TabF g ct ps q) (s : ∀ p ∈ ct, p ∈ ct') : TabF g ct' ps q := let ⟨c, e, k⟩ := h; ⟨c, e, k.mono s⟩
theorem TabF.k {g : Heap} {ct : List (Addr × Obj)} {ps : Array Value} {q : Int × Int × Str} (h : TabF g ct ps q) : TabK g ct ps q := .inr h
/-- the two tables and what they hold -/
structure Tb (g : Heap) (ct : List (Addr × Obj)) (ps65 ps58 : Array Value) : Prop where
  c62 : CodeHd g 62 58
  c69 : CodeHd g 69 65
  t65 : TabK g ct ps65 p65
  t58 : TabK g ct ps58 p58
  off : ∀ p ∈ ct, @Ne Nat p.1 65 ∧ @Ne Nat p.1 58
section
variable {prog : Program} {w : World} {K : Frag} {f : Addr} {vs : List Value} {pre : Heap → Prop} {dn un : Nat} {Out : Heap → Value → Heap → Prop}
  {p : Program} {loose : List Str} {mean : ExcName → Option Value} {mg mb : Str → Option Value}
  {dp u : Nat} {fr : Option (List Env)} {gd : Option (List Code)} {s : Shared} {Q E : Value → Shared → Prop} {g : Heap} {L : Addr} {m : Str → Option Value} {ct : List (Addr × Obj)} {ps65 ps58 : Array Value}
theorem TabK.st {g h : Heap} {ps : Array Value} {q : Int × Int × Str} {P : Addr} (x : TabK g ct ps q) (hP : h.get? P = some (tabObj ps)) (k1 : ∀ b o, g.get? b = some o → h.get? b = some o) (k2 : ∀ p ∈ ct, h.get? p.1 = some p.2) : TabSt h P q.1 q.2.1 q.2.2 := by
  rcases x with rfl | ⟨c, rfl, hc⟩
  · exact ⟨_, hP, .inl rfl⟩
  · exact ⟨_, hP, .inr ⟨c, rfl, hc h k1 k2⟩⟩
theorem TabF.full {g h : Heap} {ps : Array Value} {q : Int × Int × Str} {P : Addr} (x : TabF g ct ps q) (hP : h.get? P = some (tabObj ps)) (k1 : ∀ b o, g.get? b = some o → h.get? b = some o) (k2 : ∀ p ∈ ct, h.get? p.1 = some p.2) : TabFull h P q := by
  obtain ⟨c, rfl, hc⟩ := x
  exact ⟨c, hP, hc h k1 k2⟩
theorem ghost_of (news : List (Addr × Obj)) (F : Fr g L s.heap m) (N : News g L s.heap (news ++ (65, tabObj ps65) :: (58, tabObj ps58) :: ct)) (X : K.In g) (T : Top p loose mean mg mb g) (B : Tb g ct ps65 ps58) : Ghost K p loose mean mg mb p58 p65 g s.heap := by
  have n65 := N (65, tabObj ps65) (List.mem_append_right _ (.head _))
  have n58 := N (58, tabObj ps58) (List.mem_append_right _ (.tail _ (.head _)))
  have k2 : ∀ p ∈ ct, s.heap.get? p.1 = some p.2 := fun p hp => (N p (List.mem_append_right _ (.tail _ (.tail _ hp)))).1
  exact ⟨X, T, F.keep, n58.2.2, n65.2.2, B.c62, B.c69, B.t58.st n58.1 F.keep k2, B.t65.st n65.1 F.keep k2⟩
/-- the call where both tables are full -/
theorem use_G (news : List (Addr × Obj)) (C : PurF p58 p65 prog w K f vs pre dn un Out) (F : Fr g L s.heap m) (N : News g L s.heap (news ++ (65, tabObj ps65) :: (58, tabObj ps58) :: ct)) (X : K.In g) (T : Top p loose mean mg mb g) (B : Tb g ct ps65 ps58) (f65 : TabF g ct ps65 p65) (f58 : TabF g ct ps58 p58)
    (hd : dp + dn < recursionLimit) (hu : u + un < cLine) (hp : pre s.heap)
    (ret : ∀ r h' tk', Fr g L h' m → News g L h' (news ++ (65, tabObj ps65) :: (58, tabObj ps58) :: ct) → Out s.heap r h' → Q r { s with heap := h', toks := tk' }) :
    wpAny (model prog w) (AR dp u fr gd) (call (.ref f) vs) Q E s := by
  have n65 := N (65, tabObj ps65) (List.mem_append_right _ (.head _))
  have n58 := N (58, tabObj ps58) (List.mem_append_right _ (.tail _ (.head _)))
  have k2 : ∀ p ∈ ct, s.heap.get? p.1 = some p.2 := fun p hp => (N p (List.mem_append_right _ (.tail _ (.tail _ hp)))).1
  exact C p loose mean mg mb dp u fr gd g s Q E (ghost_of news F N X T B) (f58.full n58.1 F.keep k2) (f65.full n65.1 F.keep k2) hd hu hp
    fun r h' tk' hs ho => ret r h' tk' (Fr.keeps F hs) (News.grown N hs) ho
theorem fr_butP {h : Heap} {P : Addr} {h' : Heap} (F : Fr g L h m) (hP : g.get? P = none) (hL : P ≠ L) (hs : SubBut P h h') : Fr g L h' m := by
  refine ⟨?_, fun b o e => hs b o (by rintro rfl; rw [hP] at e; cases e) (F.keep b o e), F.above⟩
  obtain ⟨oL, a, b, hL', r⟩ := F.ns
  exact ⟨oL, a, b, hs _ _ (Ne.symm hL) hL', r⟩
/-- the record that a table holds, put into the ledger's tail -/
theorem code_in {h' : Heap} {c' : Addr} {qual : Str} (F : Fr g L h' m) (hc : h'.CodeRec (.ref c') qual) (h65 : ∃ ps, h'.get? 65 = some (tabObj ps) ∧ ∀ x t, ps[1]? ≠ some (.str x t)) (h58 : ∃ ps, h'.get? 58 = some (tabObj ps) ∧ ∀ x t, ps[1]? ≠ some (.str x t)) :
    ∃ add : List (Addr × Obj), News g L h' add ∧ CodeK g add c' qual ∧ ∀ p ∈ add, @Ne Nat p.1 65 ∧ @Ne Nat p.1 58 := by
  obtain ⟨p65, e65, q65⟩ := h65
  obtain ⟨p58, e58, q58⟩ := h58
  have n65 : c' ≠ 65 := codeRec_ne hc e65 q65
  have n58 : c' ≠ 58 := codeRec_ne hc e58 q58
  obtain ⟨c, oc, vs, t, e, ho, hd, hv⟩ := hc
  cases e
  cases hg : g.get? c' with
  | some o' =>
    refine ⟨[], (fun _ hp => nomatch hp), fun h k1 _ => ?_, (fun _ hp => nomatch hp)⟩
    have := F.keep _ _ hg
    rw [ho] at this
    cases this
    exact ⟨c', oc, vs, t, rfl, k1 _ _ hg, hd, hv⟩
  | none =>
    refine ⟨[(c', oc)], fun p hp => ?_, fun h _ k2 => ⟨c', oc, vs, t, rfl, k2 (c', oc) (.head _), hd, hv⟩, fun p hp => ?_⟩
    · rw [List.mem_singleton.mp hp]
      refine ⟨ho, ?_, hg⟩
      rintro e
      have e' : c' = L := e
      subst e'
      obtain ⟨oL, a, b, hL, hdL, _⟩ := F.ns
      rw [ho] at hL
      cases hL
      rw [hd] at hdL
      cases hdL
    · rw [List.mem_singleton.mp hp]
      exact ⟨n65, n58⟩
/-- the call that fills the first table -/
theorem use_T65 (news : List (Addr × Obj)) (C : PurT 65 p65 p58 p65 prog w K f vs pre dn un Out) (F : Fr g L s.heap m) (N : News g L s.heap (news ++ (65, tabObj ps65) :: (58, tabObj ps58) :: ct)) (X : K.In g) (T : Top p loose mean mg mb g) (B : Tb g ct ps65 ps58)
    (hne : ∀ p ∈ news, @Ne Nat p.1 65) (hd : dp + dn < recursionLimit) (hu : u + un < cLine) (hp : pre s.heap)
    (ret : ∀ r h' tk' ps' ct', Fr g L h' m → News g L h' (news ++ (65, tabObj ps') :: (58, tabObj ps58) :: ct') → Tb g ct' ps' ps58 → TabF g ct' ps' p65 → (TabF g ct ps58 p58 → TabF g ct' ps58 p58) → Out s.heap r h' → Q r { s with heap := h', toks := tk' }) :
    wpAny (model prog w) (AR dp u fr gd) (call (.ref f) vs) Q E s := by
  have n65 := N (65, tabObj ps65) (List.mem_append_right _ (.head _))
  have n58 := N (58, tabObj ps58) (List.mem_append_right _ (.tail _ (.head _)))
  refine C p loose mean mg mb dp u fr gd g s Q E (ghost_of news F N X T B) hd hu hp fun r h' tk' hs ht ho => ?_
  obtain ⟨c', hP, hc⟩ := ht.full
  have F' := fr_butP F n65.2.2 n65.2.1 hs
  have h58 : h'.get? 58 = some (tabObj ps58) := hs _ _ (by decide) n58.1
  obtain ⟨add, Na, hk, ho2⟩ := code_in F' hc ⟨_, hP, by simp [rawInt]⟩ ⟨_, h58, by rcases B.t58 with rfl | ⟨c, rfl, _⟩ <;> simp [rawInt]⟩
  have sub : ∀ p ∈ ct, p ∈ add ++ ct := fun p hp => List.mem_append_right _ hp
  refine ret r h' tk' (fullOf p65 c') (add ++ ct) F' (fun q hq => ?_) ⟨B.c62, B.c69, .inr ⟨c', rfl, hk.mono fun p hp => List.mem_append_left _ hp⟩, B.t58.mono sub, fun p hp => ?_⟩ ⟨c', rfl, hk.mono fun p hp => List.mem_append_left _ hp⟩ (fun x => x.mono sub) ho
  · have old : ∀ q ∈ news ++ (65, tabObj ps65) :: (58, tabObj ps58) :: ct, @Ne Nat q.1 65 → h'.get? q.1 = some q.2 ∧ q.1 ≠ L ∧ g.get? q.1 = none := fun q hq hn => ⟨hs _ _ hn (N q hq).1, (N q hq).2⟩
    rcases List.mem_append.mp hq with h | h
    · exact old q (List.mem_append_left _ h) (hne q h)
    · rcases List.mem_cons.mp h with rfl | h
      · exact ⟨hP, n65.2⟩
      · rcases List.mem_cons.mp h with rfl | h
        · exact ⟨h58, n58.2⟩
        · rcases List.mem_append.mp h with h | h
          · exact Na q h
          · exact old q (List.mem_append_right _ (.tail _ (.tail _ h))) (B.off q h).1
  · rcases List.mem_append.mp hp with h | h
    · exact ho2 p h
    · exact B.off p h
/-- the call that fills the second table -/
theorem use_T58 (news : List (Addr × Obj)) (C : PurT 58 p58 p58 p65 prog w K f vs pre dn un Out) (F : Fr g L s.heap m) (N : News g L s.heap (news ++ (65, tabObj ps65) :: (58, tabObj ps58) :: ct)) (X : K.In g) (T : Top p loose mean mg mb g) (B : Tb g ct ps65 ps58)
    (hne : ∀ p ∈ news, @Ne Nat p.1 58) (hd : dp + dn < recursionLimit) (hu : u + un < cLine) (hp : pre s.heap)
    (ret : ∀ r h' tk' ps' ct', Fr g L h' m → News g L h' (news ++ (65, tabObj ps65) :: (58, tabObj ps') :: ct') → Tb g ct' ps65 ps' → TabF g ct' ps' p58 → (TabF g ct ps65 p65 → TabF g ct' ps65 p65) → Out s.heap r h' → Q r { s with heap := h', toks := tk' }) :
    wpAny (model prog w) (AR dp u fr gd) (call (.ref f) vs) Q E s := by
  have n65 := N (65, tabObj ps65) (List.mem_append_right _ (.head _))
  have n58 := N (58, tabObj ps58) (List.mem_append_right _ (.tail _ (.head _)))
  refine C p loose mean mg mb dp u fr gd g s Q E (ghost_of news F N X T B) hd hu hp fun r h' tk' hs ht ho => ?_
  obtain ⟨c', hP, hc⟩ := ht.full
  have F' := fr_butP F n58.2.2 n58.2.1 hs
  have h65 : h'.get? 65 = some (tabObj ps65) := hs _ _ (by decide) n65.1
  obtain ⟨add, Na, hk, ho2⟩ := code_in F' hc ⟨_, h65, by rcases B.t65 with rfl | ⟨c, rfl, _⟩ <;> simp [rawInt]⟩ ⟨_, hP, by simp [rawInt]⟩
  have sub : ∀ p ∈ ct, p ∈ add ++ ct := fun p hp => List.mem_append_right _ hp
  refine ret r h' tk' (fullOf p58 c') (add ++ ct) F' (fun q hq => ?_) ⟨B.c62, B.c69, B.t65.mono sub, .inr ⟨c', rfl, hk.mono fun p hp => List.mem_append_left _ hp⟩, fun p hp => ?_⟩ ⟨c', rfl, hk.mono fun p hp => List.mem_append_left _ hp⟩ (fun x => x.mono sub) ho
  · have old : ∀ q ∈ news ++ (65, tabObj ps65) :: (58, tabObj ps58) :: ct, @Ne Nat q.1 58 → h'.get? q.1 = some q.2 ∧ q.1 ≠ L ∧ g.get? q.1 = none := fun q hq hn => ⟨hs _ _ hn (N q hq).1, (N q hq).2⟩
    rcases List.mem_append.mp hq with h | h
    · exact old q (List.mem_append_left _ h) (hne q h)
    · rcases List.mem_cons.mp h with rfl | h
      · exact ⟨h65, n65.2⟩
      · rcases List.mem_cons.mp h with rfl | h
        · exact ⟨hP, n58.2⟩
        · rcases List.mem_append.mp h with h | h
          · exact Na q h
          · exact old q (List.mem_append_right _ (.tail _ (.tail _ h))) (B.off q h).2
  · rcases List.mem_append.mp hp with h | h
    · exact ho2 p h
    · exact B.off p h
end
end Mine
end

section
set_option maxRecDepth 100000
open PySem
namespace Mine
/-! digits -/
noncomputable def ones (x : Int) : Nat → Int
  | 0 => 0
  | n + 1 => 1 + x * ones x n
theorem ones_eq (x : Int) : ∀ n, (x - 1) * ones x n = x ^ n - 1
  | 0 => by simp [ones]
  | n + 1 => by
    have ih := ones_eq x n
    show (x - 1) * (1 + x * ones x n) = x ^ (n + 1) - 1
    have e : (x - 1) * (1 + x * ones x n) = (x - 1) + x * ((x - 1) * ones x n) := by grind
    rw [e, ih, Int.pow_succ]; grind
theorem hor_add (x h : Int) : ∀ l : List Int, hor x (l.map (· + h)) = hor x l + h * ones x l.length
  | [] => by simp [hor, ones]
  | a :: l => by
    have ih := hor_add x h l
    show a + h + x * hor x (l.map (· + h)) = a + x * hor x l + h * (1 + x * ones x l.length)
    rw [ih]; grind
theorem dgs_hor (x : Int) (hx : 0 < x) : ∀ l : List Int, (∀ e ∈ l, 0 ≤ e ∧ e < x) → dgs x l.length (hor x l) = l
  | [], _ => rfl
  | a :: l, h => by
    have ha := h a (.head _)
    have ih := dgs_hor x hx l fun e he => h e (.tail _ he)
    show (a + x * hor x l) % x :: dgs x l.length ((a + x * hor x l) / x) = a :: l
    have e1 : (a + x * hor x l) % x = a := by rw [Int.add_mul_emod_self_left]; exact Int.emod_eq_of_lt ha.1 ha.2
    have e2 : (a + x * hor x l) / x = hor x l := by rw [Int.add_mul_ediv_left _ _ (Int.ne_of_gt hx), Int.ediv_eq_zero_of_lt ha.1 ha.2]; omega
    rw [e1, e2, ih]
theorem hor_range (x : Int) (hx : 0 < x) : ∀ l : List Int, (∀ e ∈ l, 0 ≤ e ∧ e < x) → 0 ≤ hor x l ∧ hor x l < x ^ l.length
  | [], _ => by simp [hor]
  | a :: l, h => by
    have ha := h a (.head _)
    have ih := hor_range x hx l fun e he => h e (.tail _ he)
    show 0 ≤ a + x * hor x l ∧ a + x * hor x l < x ^ (l.length + 1)
    have h1 := Int.mul_nonneg (Int.le_of_lt hx) ih.1
    have h2 := Int.mul_le_mul_of_nonneg_left (show hor x l ≤ x ^ l.length - 1 by omega) (Int.le_of_lt hx)
    rw [Int.mul_sub, Int.mul_one] at h2
    rw [Int.pow_succ, Int.mul_comm (x ^ l.length)]
    omega
theorem hor_top (x : Int) (hx : 0 < x) : ∀ (l : List Int) (t : Int), (∀ e ∈ l, 0 ≤ e ∧ e < x) → t * x ^ l.length ≤ hor x (l ++ [t])
  | [], t, _ => by simp [hor]
  | a :: l, t, h => by
    have ha := h a (.head _)
    have ih := hor_top x hx l t fun e he => h e (.tail _ he)
    show t * x ^ (l.length + 1) ≤ a + x * hor x (l ++ [t])
    have h2 := Int.mul_le_mul_of_nonneg_left ih (Int.le_of_lt hx)
    have e : t * x ^ (l.length + 1) = x * (t * x ^ l.length) := by rw [Int.pow_succ]; grind
    rw [e]; omega
theorem bits_digits (n k : Nat) (hn : 1 ≤ n) (a : Int) (h0 : 2 ^ (n * k) ≤ a) (h1 : a < 2 ^ (n * (k + 1))) : (((Builtin.Int.intBits a : Int) + n - 1).fdiv n).toNat = k + 1 := by
  have p0 : (0 : Int) < 2 ^ (n * k) := Int.pow_pos (by decide)
  have c1 : ((2 ^ (n * k) : Nat) : Int) = (2 : Int) ^ (n * k) := by push_cast; rfl
  have c2 : ((2 ^ (n * (k + 1)) : Nat) : Int) = (2 : Int) ^ (n * (k + 1)) := by push_cast; rfl
  have b1 : Builtin.Int.intBits a ≤ n * (k + 1) := intBits_le_iff.mpr (by omega)
  have b0 : n * k < Builtin.Int.intBits a := by
    refine Nat.lt_of_not_le fun h => ?_
    have := intBits_le_iff.mp h
    omega
  rw [Int.fdiv_eq_ediv_of_nonneg _ (by omega)]
  generalize Builtin.Int.intBits a = b at b0 b1
  have e1 : ((b : Int) + n - 1) / n = k + 1 := by
    have hb1 : (b : Int) ≤ n * (k + 1) := by exact_mod_cast b1
    have hb0 : (n : Int) * k + 1 ≤ b := by exact_mod_cast b0
    rw [Int.mul_add, Int.mul_one] at hb1
    have e2 : (b : Int) + n - 1 = (b - 1 - n * k) + n * (k + 1) := by rw [Int.mul_add, Int.mul_one]; omega
    rw [e2, Int.add_mul_ediv_left _ _ (by omega), Int.ediv_eq_zero_of_lt (by omega) (by omega)]
    omega
  rw [e1]; rfl
theorem dgn_hor (n : Nat) (hn : 1 ≤ n) (l : List Int) (t : Int) (h : ∀ e ∈ l ++ [t], 0 ≤ e ∧ e < 2 ^ n) (ht : 1 ≤ t) : dgn n (hor (2 ^ n) (l ++ [t])) = l ++ [t] := by
  have hx : (0 : Int) < 2 ^ n := Int.pow_pos (by decide)
  have h1 := hor_range (2 ^ n) hx _ h
  have h2 := hor_top (2 ^ n) hx l t fun e he => h e (List.mem_append_left _ he)
  have e1 : (l ++ [t]).length = l.length + 1 := by simp
  rw [e1] at h1
  rw [← Int.pow_mul] at h1 h2
  have p0 : (0 : Int) < 2 ^ (n * l.length) := Int.pow_pos (by decide)
  have h3 : (2 : Int) ^ (n * l.length) ≤ t * 2 ^ (n * l.length) := by
    have := Int.mul_le_mul_of_nonneg_right ht (Int.le_of_lt p0)
    rwa [Int.one_mul] at this
  unfold dgn
  have e2 : ((n : Int)).toNat = n := rfl
  rw [bits_digits n l.length hn _ (Int.le_trans h3 h2) h1.2, e2, ← e1]
  exact dgs_hor _ hx _ h
theorem pow256 (z : Nat) : (256 : Int) ^ z = 2 ^ (8 * z) := by rw [Int.pow_mul]; rfl
/-- the digits behind the point, where the rest is told -/
theorem btp_of (a a' : Int) (z dg : Nat) (hz : 1 ≤ z) (c : Int) (cs : List Int) (x h : Int) (hx : (256 : Int) ^ z = x) (hh : x / 2 = h) (hx0 : 2 ≤ x)
    (hd : ∀ e ∈ c :: cs, 0 ≤ e + h ∧ e + h < x) (hc : 1 ≤ c + h)
    (hq : a * x ^ (cs.length + 1) = hor x (c :: cs).reverse * ((x - 1) * (x - 1) ^ dg) + a')
    (h0 : 0 ≤ a' + h * (x - 1) ^ dg) (h1 : a' + h * (x - 1) ^ dg < (x - 1) * (x - 1) ^ dg) : btpv a z dg (cs.length + 1) = c :: cs := by
  unfold btpv
  rw [hx, hh]
  generalize hL : (x - 1) ^ dg = L at *
  have hpos : 0 < (x - 1) * L := by rw [← hL]; exact Int.mul_pos (by omega) (Int.pow_pos (by omega))
  have hl : ((c :: cs).reverse).length = cs.length + 1 := by simp
  have e1 : (a + h * L) * x ^ (cs.length + 1) = (a' + h * L) + ((x - 1) * L) * hor x ((c :: cs).reverse.map (· + h)) := by
    rw [hor_add, hl, Int.add_mul, hq]
    have := ones_eq x (cs.length + 1)
    have e2 : x ^ (cs.length + 1) = (x - 1) * ones x (cs.length + 1) + 1 := by omega
    rw [e2]
    grind
  rw [e1, Int.add_mul_ediv_left _ _ (Int.ne_of_gt hpos), Int.ediv_eq_zero_of_lt h0 h1, Int.zero_add]
  have e3 : (c :: cs).reverse.map (· + h) = cs.reverse.map (· + h) ++ [c + h] := by simp
  have ex : x = 2 ^ (8 * z) := by rw [← hx, pow256]
  rw [e3, ex]
  have e4 : (8 : Int) * (z : Int) = ((8 * z : Nat) : Int) := by push_cast; rfl
  rw [e4, dgn_hor (8 * z) (by omega) _ _ ?_ hc]
  · rw [← e3, ← List.map_reverse, List.reverse_reverse, List.map_map]
    have : ((fun x => x - h) ∘ fun x => x + h) = fun x : Int => x := by funext y; show y + h - h = y; omega
    rw [this, List.map_id']
  · rw [← e3, ← ex]
    intro e he
    obtain ⟨y, hy, rfl⟩ := List.mem_map.mp he
    exact hd y (List.mem_reverse.mp hy)
end Mine
end

section
set_option maxRecDepth 100000
open PySem PySem.W PyProof.Rows PySem.Calls PySem.Spec
namespace Mine
theorem pow_bytes (z : Nat) : (2 : Int) ^ (8 * (z : Int)).toNat = 256 ^ z := by
  have e : (8 * (z : Int)).toNat = 8 * z := by omega
  rw [e, pow256]


set_option maxHeartbeats 8000000 in
theorem st15 (w : World) (p : Program) (loose : List Str) (mean : ExcName → Option Value) (mg mb : Str → Option Value) (dp u : Nat) (fr : Option (List Env)) (g : Heap) (s : Shared) (L' fa : Addr) (cd : Value) (Q : Flow → Shared → Prop) (E : Value → Shared → Prop)
    (X : (Pre.hc.heap_1 w.params).In g) (T : Top p loose mean mg mb g) (hd : dp + 300 < recursionLimit) (hu : u + 3000 < cLine) (hE : PassesOwn (model PySem.Challenge.rw_zo0028_01.row.prog w) ((AR dp u fr (some [])).deeper (lenv L' fa cd)) (lenv L' fa cd) E) (m : Str → Option Value) (F : Fr g L' s.heap m) (o1 o2 o3 o4 o5 o6 o7 : Obj) (b65 : @LT.lt Nat _ 65 L') (b58 : @LT.lt Nat _ 58 L')
    (dn mn z : Nat) (tg tm tz : Tok) (dg2 : dn ≤ 3) (z1 : 5 ≤ z) (z2 : z ≤ 7) (d7 : o7.data = .cell (some (.int z tz))) (ks rs : List Value) (lr lk nd : Addr) (orw on : Obj) (nr : Nat) (ns : List Int) (hoc : orw.cls = .type "list") (hod : orw.data = .seq rs.toArray nr) (hrs : IntsAre rs ns) (hnl : ns.length = dn + 1) (hb : ∀ d ∈ ns, Builtin.Int.intBits d ≤ 300)
    (ps65 ps58 : Array Value) (ct : List (Addr × Obj)) (B : Tb g ct ps65 ps58) (a1 : @Ne Nat lr 65) (a2 : @Ne Nat lk 65) (a3 : @LT.lt Nat _ L' nd) (ret : ∀ m' h' tk' tnu ps' ct', Tb g ct' ps' ps58 → TabF g ct' ps' p65 →  Knows m' [(Str.ofString "degree", (Value.int dn tg : Value)), (Str.ofString "many", (Value.int mn tm : Value)), (Str.ofString "counts", (Value.ref lk : Value)), (Str.ofString "row", (Value.ref lr : Value)), (Str.ofString "number", (Value.int (hor (256 ^ z) ns) tnu : Value))] → Fr g L' h' m' → News g L' h' ((lr, orw) :: (lk, LCg.lst ks) :: (nd, on) :: (L' + 1 + 1 + 1 + 1 + 1 + 1 + 1, o7) :: (L' + 1 + 1 + 1 + 1 + 1 + 1, o6) :: (L' + 1 + 1 + 1 + 1 + 1, o5) :: (L' + 1 + 1 + 1 + 1, o4) :: (L' + 1 + 1 + 1, o3) :: (L' + 1 + 1, o2) :: (L' + 1, o1) :: (65, tabObj ps') :: (58, tabObj ps58) :: ct') → Q .next { s with heap := h', toks := tk' }) (kn : Knows m [(Str.ofString "degree", (Value.int dn tg : Value)), (Str.ofString "many", (Value.int mn tm : Value)), (Str.ofString "counts", (Value.ref lk : Value)), (Str.ofString "row", (Value.ref lr : Value))]) (N : News g L' s.heap ((lr, orw) :: (lk, LCg.lst ks) :: (nd, on) :: (L' + 1 + 1 + 1 + 1 + 1 + 1 + 1, o7) :: (L' + 1 + 1 + 1 + 1 + 1 + 1, o6) :: (L' + 1 + 1 + 1 + 1 + 1, o5) :: (L' + 1 + 1 + 1 + 1, o4) :: (L' + 1 + 1 + 1, o3) :: (L' + 1 + 1, o2) :: (L' + 1, o1) :: (65, tabObj ps65) :: (58, tabObj ps58) :: ct)) :
    wpAny (model PySem.Challenge.rw_zo0028_01.row.prog w) ((AR dp u fr (some [])).deeper (lenv L' fa cd)) (exec (lawS 15) (lenv L' fa cd)) Q E s := by
  w_top off
  have _ : PySem.Challenge.rw_zo0028_01.row.prog = PySem.Challenge.rw_zo0028_01.row.prog → (Pre.hc.heap_1 w.params).In g := by (k_fill; exact fun _ => X)
  replace F := knows_fr F kn
  dsimp only [knowF] at F
  clear kn
  dsimp only [lenv, lawS, stm, lawD, recOf]

  (repeat' (first | (k_unfold; (try dsimp only)) | (k_end; wrow_close) | ((with_reducible show wpAny _ _ (call (Value.ref _) _ _) _ _ _); k_here; refine Stop.elim ?_) | walk1 | (dsimp only; (first | ((with_reducible show wpAny _ _ (call (Value.ref _) _ _) _ _ _); k_here; refine Stop.elim ?_) | walk1)) | (leave1; walk_say "STEP leave1"; try dsimp only) | fail "no step"))
  refine Stop.intro ?_
  (rename Fr _ _ _ _ => fF)
  (rename News _ _ _ _ => nN)
  refine' use_T65 [(lr, orw), (lk, LCg.lst ks), (nd, on), (L' + 1 + 1 + 1 + 1 + 1 + 1 + 1, o7), (L' + 1 + 1 + 1 + 1 + 1 + 1, o6), (L' + 1 + 1 + 1 + 1 + 1, o5), (L' + 1 + 1 + 1 + 1, o4), (L' + 1 + 1 + 1, o3), (L' + 1 + 1, o2), (L' + 1, o1)] (con_d2i w lr rs ns (8 * (z : Int)) _ hrs (by omega) hb (by omega) (by omega)) fF nN X T B ?pn ?p1 ?p2 ?p3 ?_
  case pn => 
    intro p hp
    simp only [List.mem_cons, List.not_mem_nil, or_false] at hp
    rcases hp with rfl | rfl | rfl | rfl | rfl | rfl | rfl | rfl | rfl | rfl <;> (dsimp only; omega)
  case p1 => k_room
  case p2 => k_room
  case p3 => exact ⟨orw, (nN _ (.head _)).1, hoc, nr, hod⟩
  intro r₁ h₁ tk₁ ps' ct' F₁ N₁ B₁ f₁ _ ⟨t₁, e₁⟩
  subst e₁
  rw [pow_bytes]
  clear fF nN
  simp only [List.cons_append, List.nil_append] at N₁
  k_steps
  dsimp only
  (rename Fr _ _ _ _ => fF)
  (rename News _ _ _ _ => nN)
  exact ret _ _ _ _ _ _ B₁ f₁ ⟨rfl, rfl, rfl, rfl, rfl, trivial⟩ fF nN

end Mine
end

section
set_option maxRecDepth 100000
open PySem PySem.W PyProof.Rows PySem.Calls PySem.Spec
namespace Mine
section
open LCg
variable {prog : Program} {w : World} {A : Around} {E : Value → Shared → Prop} {s : Shared} {h₀ : Heap} {L : Addr} {m : Str → Option Value} {env : Env}
theorem comp_src_o {elt : PySem.Expr} {x : Str} {scope : Scope} {cl : List (Str × Addr)} {Fin : Shared → List Value → List (Addr × Obj) → Prop} {ax : Addr} {o : Obj} {its : Array Value} {k : Nat} {news : List (Addr × Obj)} {s₁ : Shared}
    (hh : A.handled = none) (F : Fr h₀ L s₁.heap m) (N : News h₀ L s₁.heap news) (hm : (ax, o) ∈ news) (hc : o.cls = .type "list") (hd : o.data = .seq its k) (hsz : its.size ≤ sizeLine)
    (h : ∀ g, CompRest prog w A h₀ L m env elt x scope cl { s₁ with heap := g } (SrcAt h₀ ax its) (fun i v => its[i]? = some v) (Fin { s₁ with heap := g }) its.size 0 [] news) :
    CompSrc prog w A h₀ L m env elt x scope cl Fin (.ref ax) s₁ := .inl ⟨ax, its, news, rfl, hh, F, N, .inr ⟨_, hm, hc, _, hd⟩, hsz, fun _ ⟨g, e⟩ => e ▸ h g⟩
end
theorem half_of (z : Nat) (z1 : 5 ≤ z) (z2 : z ≤ 7) : ∃ P H : Int, (256 : Int) ^ ((z : Int)).toNat = P ∧ P.fdiv 2 = H ∧ H = 256 ^ z / 2 ∧ (Builtin.Int.intBits 256 : Int) * (z : Int) ≤ 2 ^ 27 ∧ 2 ^ 39 ≤ H ∧ H < 2 ^ 55 + 1 ∧ P = 256 ^ z := by
  have h : z = 5 ∨ z = 6 ∨ z = 7 := by omega
  refine ⟨_, _, rfl, rfl, ?_, ?_, ?_, ?_, rfl⟩
  · exact Int.fdiv_eq_ediv_of_nonneg _ (by decide)
  · exact pow_room (k := 7) (m := 9) (intBits_le_iff.mpr (by decide)) (by omega) (by omega) (by decide)
  · rcases h with rfl | rfl | rfl <;> decide
  · rcases h with rfl | rfl | rfl <;> decide


set_option maxHeartbeats 8000000 in
theorem st16 (w : World) (p : Program) (loose : List Str) (mean : ExcName → Option Value) (mg mb : Str → Option Value) (dp u : Nat) (fr : Option (List Env)) (g : Heap) (s : Shared) (L' fa : Addr) (cd : Value) (Q : Flow → Shared → Prop) (E : Value → Shared → Prop)
    (X : (Pre.hc.heap_1 w.params).In g) (T : Top p loose mean mg mb g) (hd : dp + 300 < recursionLimit) (hu : u + 3000 < cLine) (hE : PassesOwn (model PySem.Challenge.rw_zo0028_01.row.prog w) ((AR dp u fr (some [])).deeper (lenv L' fa cd)) (lenv L' fa cd) E) (m : Str → Option Value) (F : Fr g L' s.heap m) (o1 o2 o3 o4 o5 o6 o7 : Obj) (b65 : @LT.lt Nat _ 65 L') (b58 : @LT.lt Nat _ 58 L')
    (dn mn z : Nat) (num : Int) (tg tm tz tnu : Tok) (dg2 : dn ≤ 3) (z1 : 5 ≤ z) (z2 : z ≤ 7) (d7 : o7.data = .cell (some (.int z tz))) (ks rs : List Value) (lr lk nd : Addr) (orw on : Obj) (nr : Nat) (hoc : orw.cls = .type "list") (hod : orw.data = .seq rs.toArray nr) (hnl : rs.length = dn + 1)
    (ps65 ps58 : Array Value) (ct : List (Addr × Obj)) (B : Tb g ct ps65 ps58) (a1 : @Ne Nat lr 65) (a2 : @Ne Nat lk 65) (a3 : @LT.lt Nat _ L' nd) (ret : ∀ m' h' tk' tha ps' ct', Tb g ct' ps' ps58 → TabF g ct' ps' p65 →  Knows m' [(Str.ofString "degree", (Value.int dn tg : Value)), (Str.ofString "many", (Value.int mn tm : Value)), (Str.ofString "counts", (Value.ref lk : Value)), (Str.ofString "number", (Value.int num tnu : Value)), (Str.ofString "halves", (Value.int (hor (256 ^ z) (List.replicate (dn + 1) (256 ^ z / 2))) tha : Value))] → Fr g L' h' m' → News g L' h' ((lk, LCg.lst ks) :: (nd, on) :: (L' + 1 + 1 + 1 + 1 + 1 + 1 + 1, o7) :: (L' + 1 + 1 + 1 + 1 + 1 + 1, o6) :: (L' + 1 + 1 + 1 + 1 + 1, o5) :: (L' + 1 + 1 + 1 + 1, o4) :: (L' + 1 + 1 + 1, o3) :: (L' + 1 + 1, o2) :: (L' + 1, o1) :: (65, tabObj ps') :: (58, tabObj ps58) :: ct') → Q .next { s with heap := h', toks := tk' }) (kn : Knows m [(Str.ofString "degree", (Value.int dn tg : Value)), (Str.ofString "many", (Value.int mn tm : Value)), (Str.ofString "counts", (Value.ref lk : Value)), (Str.ofString "row", (Value.ref lr : Value)), (Str.ofString "number", (Value.int num tnu : Value))]) (N : News g L' s.heap ((lr, orw) :: (lk, LCg.lst ks) :: (nd, on) :: (L' + 1 + 1 + 1 + 1 + 1 + 1 + 1, o7) :: (L' + 1 + 1 + 1 + 1 + 1 + 1, o6) :: (L' + 1 + 1 + 1 + 1 + 1, o5) :: (L' + 1 + 1 + 1 + 1, o4) :: (L' + 1 + 1 + 1, o3) :: (L' + 1 + 1, o2) :: (L' + 1, o1) :: (65, tabObj ps65) :: (58, tabObj ps58) :: ct)) :
    wpAny (model PySem.Challenge.rw_zo0028_01.row.prog w) ((AR dp u fr (some [])).deeper (lenv L' fa cd)) (exec (lawS 16) (lenv L' fa cd)) Q E s := by
  w_top off
  have _ : PySem.Challenge.rw_zo0028_01.row.prog = PySem.Challenge.rw_zo0028_01.row.prog → (Pre.hc.heap_1 w.params).In g := by (k_fill; exact fun _ => X)
  replace F := knows_fr F kn
  dsimp only [knowF] at F
  clear kn
  dsimp only [lenv, lawS, stm, lawD, recOf]

  obtain ⟨P, H, hP, hH, hH2, rP, hH3, hH4, hP2⟩ := half_of z z1 z2
  have zz : (0 : Int) ≤ z := by omega
  (repeat' (first | (k_unfold; (try dsimp only)) | (k_end; wrow_close) | ((with_reducible show wpAny _ _ (eval (PySem.Expr.ListComp _ _ _ _) _) _ _ _); k_here; k_dflt (refine LCg.ListComp_U (F₀ := by k_asm) (by with_unfolding_all rfl) (by decide) (by rfl) (by decide) (by rfl) ?_)) | ((with_reducible show LCg.CompSrc _ _ _ _ _ _ _ _ _ _ _ _ _ _); refine Stop.elim ?_) | walk1 | (dsimp only; (first | ((with_reducible show wpAny _ _ (eval (PySem.Expr.ListComp _ _ _ _) _) _ _ _); k_here; k_dflt (refine LCg.ListComp_U (F₀ := by k_asm) (by with_unfolding_all rfl) (by decide) (by rfl) (by decide) (by rfl) ?_)) | ((with_reducible show LCg.CompSrc _ _ _ _ _ _ _ _ _ _ _ _ _ _); refine Stop.elim ?_) | walk1)) | (leave1; walk_say "STEP leave1"; try dsimp only) | fail "no step"))
  refine Stop.intro ?_
  (rename Fr _ _ _ _ => fF)
  (rename News _ _ _ _ => nN)
  have esz : rs.toArray.size = dn + 1 := by rw [List.size_toArray, hnl]
  refine comp_src_o (by rfl) fF nN (.head _) hoc hod (by rw [esz]; exact Nat.le_trans (by omega : _ ≤ 1000) (by decide)) ?_
  intro g₂
  generalize hnw : List.cons (lr, orw) _ = nw₀ at nN ⊢
  rw [esz]
  refine comp_ind (fun i ys₂ nw => nw = nw₀ ∧ IntsAre ys₂ (List.replicate i H)) ?_ ?_ ⟨rfl, .nil⟩
  · intro i v I oI C oC D₃ ys₂ nw m₂ h₂ tk₂ E' hi ⟨e₃, hJ⟩ hv hoC hx hF hN off hne
    subst e₃
    rw [← hnw] at hN off ⊢
    clear fF nN
    (repeat' (first | (k_unfold; (try dsimp only)) | (k_end; wrow_close) | ((with_reducible show wpAny _ _ (binaryOp Operator.FloorDiv (Value.int _ _) (Value.int _ _)) _ _ _); k_here; refine fd_named (by omega) (by omega) (by assumption) ?_) | ((with_reducible show wpAny _ _ (binaryOp Operator.Pow (Value.int _ _) (Value.int _ _)) _ _ _); k_here; (with_reducible refine pow_named (by assumption) (by assumption) (by assumption) ?_)) | walk1 | (dsimp only; (first | ((with_reducible show wpAny _ _ (binaryOp Operator.FloorDiv (Value.int _ _) (Value.int _ _)) _ _ _); k_here; refine fd_named (by omega) (by omega) (by assumption) ?_) | ((with_reducible show wpAny _ _ (binaryOp Operator.Pow (Value.int _ _) (Value.int _ _)) _ _ _); k_here; (with_reducible refine pow_named (by assumption) (by assumption) (by assumption) ?_)) | walk1)) | (leave1; walk_say "STEP leave1"; try dsimp only) | fail "no step"))
    refine LCg.CompEnd.intro hF hN _ (fun _ hp => hp) off (Or.inr ⟨_, .head _, hoc, _, hod⟩) ⟨rfl, ?_⟩
    rw [List.replicate_succ']
    exact hJ.append (.cons _ _ .nil)
  · intro ys₂ nw ⟨e₃, hJ⟩
    subst e₃
    rw [← hnw] at nN ⊢
    clear fF nN
    intro D₃ h₃ tk₃ F₃ N₃ off₃
    simp only [LCg.Off1] at off₃
    (repeat' (first | (k_unfold; (try dsimp only)) | (k_end; wrow_close) | ((with_reducible show wpAny _ _ (call (Value.ref _) _ _) _ _ _); k_here; refine Stop.elim ?_) | walk1 | (dsimp only; (first | ((with_reducible show wpAny _ _ (call (Value.ref _) _ _) _ _ _); k_here; refine Stop.elim ?_) | walk1)) | (leave1; walk_say "STEP leave1"; try dsimp only) | fail "no step"))
    refine Stop.intro ?_
    (rename Fr _ _ _ _ => fF)
    (rename News _ _ _ _ => nN)
    have hbH : Builtin.Int.intBits H ≤ 300 := intBits_le_iff.mpr (Nat.lt_of_lt_of_le (show H.natAbs < 2 ^ 56 by omega) (Nat.pow_le_pow_right (by decide) (by decide)))
    refine' use_T65 [(D₃, LCg.lst ys₂), (lr, orw), (lk, LCg.lst ks), (nd, on), (L' + 1 + 1 + 1 + 1 + 1 + 1 + 1, o7), (L' + 1 + 1 + 1 + 1 + 1 + 1, o6), (L' + 1 + 1 + 1 + 1 + 1, o5), (L' + 1 + 1 + 1 + 1, o4), (L' + 1 + 1 + 1, o3), (L' + 1 + 1, o2), (L' + 1, o1)] (con_d2i w D₃ ys₂ (List.replicate (dn + 1) H) (8 * (z : Int)) _ hJ (by rw [List.length_replicate]; omega) (fun d hd => by rw [(List.mem_replicate.mp hd).2]; exact hbH) (by omega) (by omega)) fF nN X T B ?pn ?p1 ?p2 ?p3 ?_
    case pn => 
      intro p hp
      simp only [List.mem_cons, List.not_mem_nil, or_false] at hp
      rcases hp with rfl | rfl | rfl | rfl | rfl | rfl | rfl | rfl | rfl | rfl | rfl <;> (dsimp only; omega)
    case p1 => k_room
    case p2 => k_room
    case p3 => exact PySem.IsL.isList (nN _ (.head _)).1
    intro r₁ h₁ tk₁ ps' ct' F₁ N₁ B₁ f₁ _ ⟨t₁, e₁⟩
    subst e₁
    rw [pow_bytes]
    clear fF nN
    simp only [List.cons_append, List.nil_append] at N₁
    k_steps
    dsimp only
    (rename Fr _ _ _ _ => fF)
    (rename News _ _ _ _ => nN)
    rw [hH2] at fF
    exact ret _ _ _ _ _ _ B₁ f₁ ⟨rfl, rfl, rfl, rfl, rfl, trivial⟩ fF (news_subl nN fun p hp => .tail _ (.tail _ hp))

end Mine
end

section
set_option maxRecDepth 100000
open PySem PySem.W PyProof.Rows PySem.Calls PySem.Spec
namespace Mine
theorem dgs_range (b : Int) (hb : 0 < b) : ∀ (k : Nat) (x : Int), ∀ n ∈ dgs b k x, 0 ≤ n ∧ n < b
  | 0, _, _, h => nomatch h
  | k + 1, x, n, h => by
    rcases List.mem_cons.mp h with rfl | h
    · exact ⟨Int.emod_nonneg _ (by omega), Int.emod_lt_of_pos _ hb⟩
    · exact dgs_range b hb k _ n h
/-- the octets of a number -/
noncomputable def octsOf (a : Int) : List UInt8 := (dgn 8 a).map fun n => n.toNat.toUInt8


set_option maxHeartbeats 8000000 in
theorem st17 (w : World) (p : Program) (loose : List Str) (mean : ExcName → Option Value) (mg mb : Str → Option Value) (dp u : Nat) (fr : Option (List Env)) (g : Heap) (s : Shared) (L' fa : Addr) (cd : Value) (Q : Flow → Shared → Prop) (E : Value → Shared → Prop)
    (X : (Pre.hc.heap_1 w.params).In g) (T : Top p loose mean mg mb g) (hd : dp + 300 < recursionLimit) (hu : u + 3000 < cLine) (hE : PassesOwn (model PySem.Challenge.rw_zo0028_01.row.prog w) ((AR dp u fr (some [])).deeper (lenv L' fa cd)) (lenv L' fa cd) E) (m : Str → Option Value) (F : Fr g L' s.heap m) (o1 o2 o3 o4 o5 o6 o7 : Obj) (b65 : @LT.lt Nat _ 65 L') (b58 : @LT.lt Nat _ 58 L')
    (dn mn : Nat) (num hal : Int) (tg tm tnu tha : Tok) (hnh : 0 ≤ num + hal) (hnb : Builtin.Int.intBits (num + hal) ≤ 400) (ks : List Value) (lk nd : Addr) (on : Obj)
    (ps65 ps58 : Array Value) (ct : List (Addr × Obj)) (B : Tb g ct ps65 ps58) (f65 : TabF g ct ps65 p65) (a1 : @Ne Nat lk 58) (a3 : @LT.lt Nat _ L' nd) (ret : ∀ m' h' tk' toc ps' ct', Tb g ct' ps65 ps' → TabF g ct' ps65 p65 → TabF g ct' ps' p58 →  Knows m' [(Str.ofString "degree", (Value.int dn tg : Value)), (Str.ofString "many", (Value.int mn tm : Value)), (Str.ofString "counts", (Value.ref lk : Value)), (Str.ofString "number", (Value.int num tnu : Value)), (Str.ofString "halves", (Value.int hal tha : Value)), (Str.ofString "octets", (Value.bytes (octsOf (num + hal)).toArray toc : Value))] → Fr g L' h' m' → News g L' h' ((lk, LCg.lst ks) :: (nd, on) :: (L' + 1 + 1 + 1 + 1 + 1 + 1 + 1, o7) :: (L' + 1 + 1 + 1 + 1 + 1 + 1, o6) :: (L' + 1 + 1 + 1 + 1 + 1, o5) :: (L' + 1 + 1 + 1 + 1, o4) :: (L' + 1 + 1 + 1, o3) :: (L' + 1 + 1, o2) :: (L' + 1, o1) :: (65, tabObj ps65) :: (58, tabObj ps') :: ct') → Q .next { s with heap := h', toks := tk' }) (kn : Knows m [(Str.ofString "degree", (Value.int dn tg : Value)), (Str.ofString "many", (Value.int mn tm : Value)), (Str.ofString "counts", (Value.ref lk : Value)), (Str.ofString "number", (Value.int num tnu : Value)), (Str.ofString "halves", (Value.int hal tha : Value))]) (N : News g L' s.heap ((lk, LCg.lst ks) :: (nd, on) :: (L' + 1 + 1 + 1 + 1 + 1 + 1 + 1, o7) :: (L' + 1 + 1 + 1 + 1 + 1 + 1, o6) :: (L' + 1 + 1 + 1 + 1 + 1, o5) :: (L' + 1 + 1 + 1 + 1, o4) :: (L' + 1 + 1 + 1, o3) :: (L' + 1 + 1, o2) :: (L' + 1, o1) :: (65, tabObj ps65) :: (58, tabObj ps58) :: ct)) :
    wpAny (model PySem.Challenge.rw_zo0028_01.row.prog w) ((AR dp u fr (some [])).deeper (lenv L' fa cd)) (exec (lawS 17) (lenv L' fa cd)) Q E s := by
  w_top off
  have _ : PySem.Challenge.rw_zo0028_01.row.prog = PySem.Challenge.rw_zo0028_01.row.prog → (Pre.hc.heap_1 w.params).In g := by (k_fill; exact fun _ => X)
  replace F := knows_fr F kn
  dsimp only [knowF] at F
  clear kn
  dsimp only [lenv, lawS, stm, lawD, recOf]

  have hnb2 : Builtin.Int.intBits (num + hal) ≤ 10000 := Nat.le_trans hnb (by decide)
  (repeat' (first | (k_unfold; (try dsimp only)) | (k_end; wrow_close) | ((with_reducible show wpAny _ _ (call (Value.ref _) _ _) _ _ _); k_here; refine Stop.elim ?_) | walk1 | (dsimp only; (first | ((with_reducible show wpAny _ _ (call (Value.ref _) _ _) _ _ _); k_here; refine Stop.elim ?_) | walk1)) | (leave1; walk_say "STEP leave1"; try dsimp only) | fail "no step"))
  refine Stop.intro ?_
  (rename Fr _ _ _ _ => fF)
  (rename News _ _ _ _ => nN)
  refine' use_T58 [(lk, LCg.lst ks), (nd, on), (L' + 1 + 1 + 1 + 1 + 1 + 1 + 1, o7), (L' + 1 + 1 + 1 + 1 + 1 + 1, o6), (L' + 1 + 1 + 1 + 1 + 1, o5), (L' + 1 + 1 + 1 + 1, o4), (L' + 1 + 1 + 1, o3), (L' + 1 + 1, o2), (L' + 1, o1)] (con_i2d w (num + hal) 8 _ _ hnh (by decide) (by decide) (by omega)) fF nN X T B ?pn ?p1 ?p2 ?p3 ?_
  case pn => 
    intro p hp
    simp only [List.mem_cons, List.not_mem_nil, or_false] at hp
    rcases hp with rfl | rfl | rfl | rfl | rfl | rfl | rfl | rfl | rfl <;> (dsimp only; omega)
  case p1 => k_room
  case p2 => k_room
  case p3 => trivial
  intro r₁ h₁ tk₁ ps' ct' F₁ N₁ B₁ f₁ fk ⟨D, ys, c, e₁, hfr, hD, hys⟩
  subst e₁
  have f65' := fk f65
  replace N₁ := news_add fF N₁ hfr hD
  clear fF nN
  simp only [List.cons_append, List.nil_append] at N₁
  (repeat' (first | (k_unfold; (try dsimp only)) | (k_end; wrow_close) | ((with_reducible show wpAny _ _ (call (Value.type "bytes") _ _) _ _ _); k_here; refine Stop.elim ?_) | walk1 | (dsimp only; (first | ((with_reducible show wpAny _ _ (call (Value.type "bytes") _ _) _ _ _); k_here; refine Stop.elim ?_) | walk1)) | (leave1; walk_say "STEP leave1"; try dsimp only) | fail "no step"))
  refine Stop.intro ?_
  (rename Fr _ _ _ _ => fF)
  (rename News _ _ _ _ => nN)
  have hyl : ys.length ≤ 50 := by
    rw [hys.length]
    unfold dgn
    rw [dgs_length, Int.fdiv_eq_ediv_of_nonneg _ (by decide)]
    omega
  refine' PySem.call_bytes_ints (PySem.IsL.isList (nN _ (.head _)).1) hys (fun n hn => ?pr) (Nat.le_trans hyl (by decide)) rfl ?_
  case pr => exact dgs_range _ (by decide) _ _ n hn
  intro h₂ t₂ tk₂ hs₂
  replace nN := News.grown nN hs₂
  replace fF := Fr.keeps fF hs₂
  have eo : byteArr (dgn 8 (num + hal)) = (octsOf (num + hal)).toArray := rfl
  rw [eo]
  k_steps
  dsimp only
  (rename Fr _ _ _ _ => fF)
  (rename News _ _ _ _ => nN)
  exact ret _ _ _ _ _ _ B₁ f65' f₁ ⟨rfl, rfl, rfl, rfl, rfl, rfl, trivial⟩ fF (news_subl nN fun p hp => .tail _ hp)

end Mine
end

section
set_option maxRecDepth 100000
open PySem PySem.W PyProof.Rows PySem.Calls PySem.Spec
namespace Mine
section
open PySem
variable {prog : Program} {w : World} {A : Around} {E : Value → Shared → Prop} {s : Shared}
noncomputable abbrev OctAt (b : Array UInt8) (i : Nat) (v : Value) : Prop := ∃ c u, b[i]? = some c ∧ v = .int (c.toNat : Int) u
theorem lby_len : typeLookup (.type "bytes") "__len__" = pure (some (.builtin "bytes.__len__")) := by rw [typeLookup_type, builtinLookup_eq_fast]; kernel_rfl
theorem extend_bytes {R : Result → Shared → Prop} (hh : A.handled = none) (x : Array UInt8) (t : Tok) (S : Addr) (res : Value) (c₀ : Nat) (hS : s.heap.get? S = some { cls := .type "list", data := .seq #[] c₀ })
    (hR : ∀ h' tk acc' c', (∀ b o, b ≠ S → s.heap.get? b = some o → h'.get? b = some o) → h'.get? S = some { cls := .type "list", dict := none, data := .seq acc' c', slots := #[] } →
      ItemsOf (OctAt x) acc' x.size → R (.ok (.ret res)) { s with heap := h', toks := tk }) (hn : x.size ≤ sizeLine) :
    wpAny (model prog w) A.in1 (Builtin.List.listExtendWith (.ref S) (.bytes x t) res)
      (fun fin s' => match fin with | .done f => R (.ok f) s' | .again c' => c'.quiet = true ∧ codeAny (model prog w) A c' R s') (fun e s' => R (.error e) s') s := by
  have hSI : S ≠ s.heap.objs.size := Nat.ne_of_lt (Heap.lt_size hS)
  have hSf : S ∉ [s.heap.objs.size] := fun hm => hSI (List.mem_singleton.mp hm)
  unfold Builtin.List.listExtendWith
  refine wpAny_bind (wpAny_typeOf (T := "bytes") (v := .bytes x t) rfl ?_)
  have h1 : Builtin.List.listSameRef (.ref S) (.bytes x t) = false := rfl
  have h2 : (Value.type "bytes" == Value.type "list") = false := by decide
  have h3 : (Value.type "bytes" == Value.type "tuple") = false := by decide
  simp only [h1, h2, h3, Bool.or_false, Bool.false_eq_true, if_false]
  refine wpAny_bind ((ItSrc.bytes (prog := prog) (w := w) (A := A.in1) hh x t).it ?_)
  refine wpAny_bind (wpAny_holding ?_)
  unfold Builtin.List.listLengthHint
  refine wpAny_bind (wpAny_specialOf (T := "bytes") (v := .bytes x t) rfl lby_len ?_)

  wp_delta
  refine wpAny_bind (wpAny_isInstance (T := "bytes") (v := .bytes x t) (b := true) rfl (by rw [isSubtype_type]; kernel_rfl) ?_)
  show wpAny _ _ (typeOf (Value.bytes x t) >>= _) _ _ _
  refine wpAny_bind (wpAny_typeOf (T := "bytes") (v := .bytes x t) rfl ?_)
  refine wpAny_pure ?_
  rw [if_neg (by decide)]
  have src := ItSrc.bytes (prog := prog) (w := w) (A := A.in1) hh x t
  refine wpAny_pure ⟨plainId_quiet F.plain_extend_loop _, codeAny_extend_loopS (src.W _).toS hn _ hSf _ x.size 0 _ _ _ rfl (Nat.zero_le _) (src.st0 _) (Heap.get?_push_of_some _ hS) (ItemsOf.nil _) fun s' acc' c' hm hS' hacc => ?_⟩
  rw [Moved.eq_with hm]
  refine hR s'.heap s'.toks acc' c' (fun b ob hb e => hm.heap b ob (fun hmem => ?_) (Heap.get?_push_of_some _ e)) hS' hacc
  rcases List.mem_cons.mp hmem with e' | hmem
  · exact hb e'
  · exact absurd (Heap.lt_size e) (by rw [List.mem_singleton.mp hmem]; exact Nat.lt_irrefl _)
theorem init_bytes {R : Result → Shared → Prop} (hh : A.handled = none) (x : Array UInt8) (t : Tok) (S : Addr) (hS : s.heap.get? S = some { cls := .type "list", data := .seq #[] })
    (hR : ∀ h' tk acc' c', (∀ b o, b ≠ S → s.heap.get? b = some o → h'.get? b = some o) → h'.get? S = some { cls := .type "list", dict := none, data := .seq acc' c', slots := #[] } →
      ItemsOf (OctAt x) acc' x.size → R (.ok (.ret .none)) { s with heap := h', toks := tk }) (hn : x.size ≤ sizeLine) :
    wpAny (model prog w) A.in1 (Builtin.«list.__init__» ⟨[.ref S, .bytes x t], []⟩)
      (fun fin s' => match fin with | .done f => R (.ok f) s' | .again c' => c'.quiet = true ∧ codeAny (model prog w) A c' R s') (fun e s' => R (.error e) s') s := by
  show wpAny _ _ (do let old ← Builtin.List.listItems (.ref S); Builtin.List.listUpdate (.ref S) (fun _ => #[]); letGo old.toList.reverse; Builtin.List.listExtendWith (.ref S) (.bytes x t) .none) _ _ s
  refine wpAny_bind ?_
  unfold Builtin.List.listItems
  refine wpAny_bind (wpAny_seqItems hS rfl (wpAny_pure ?_))
  show wpAny _ _ (updateSeq S (fun _ => #[]) >>= fun _ => letGo (#[] : Array Value).toList.reverse >>= fun _ => Builtin.List.listExtendWith (.ref S) (.bytes x t) .none) _ _ s
  refine wpAny_bind (wpAny_updateSeq hS rfl ?_)
  have hS₂ := Heap.get?_update_self (Obj.mapSeq (fun _ => (#[] : Array Value))) hS rfl
  have oth : ∀ b o, b ≠ S → s.heap.get? b = some o → (s.heap.update S (Obj.mapSeq (fun _ => (#[] : Array Value)))).get? b = some o :=
    fun b o hb e => (Heap.get?_update_other _ _ (Ne.symm hb)).trans e
  refine wpAny_bind (wpAny_letGo ?_)
  refine extend_bytes (hn := hn) hh x t S .none _ hS₂ fun h' tk acc' c' hk hS' hacc => ?_
  exact hR h' tk acc' c' (fun b o hb e => hk b o hb (oth b o hb e)) hS' hacc
theorem list_bytes {Q : Value → Shared → Prop} (hh : A.handled = none) (x : Array UInt8) (t : Tok)
    (hQ : ∀ h' tk acc' c', (∀ b o, s.heap.get? b = some o → h'.get? b = some o) →
      h'.get? s.heap.objs.size = some { cls := .type "list", dict := none, data := .seq acc' c', slots := #[] } → ItemsOf (OctAt x) acc' x.size → Q (.ref s.heap.objs.size) { s with heap := h', toks := tk }) (hn : x.size ≤ sizeLine) :
    wpAny (model prog w) A (call (.type "list") [.bytes x t]) Q E s := by
  refine callType_codes (Q₁ := fun obj s₁ => obj = .ref s.heap.objs.size ∧ s₁ = { s with heap := s.heap.push { cls := .type "list", data := .seq #[] } }) F.called_list (F.typeCall_list_1 _) F.entry_list_init
    (code_list_new _ ⟨rfl, rfl⟩) fun obj s₁ h₁ => ?_
  obtain ⟨rfl, rfl⟩ := h₁
  have hS : (s.heap.push { cls := .type "list", data := .seq #[] }).get? s.heap.objs.size = some { cls := .type "list", data := .seq #[] } := Heap.get?_push_size _ rfl
  refine ⟨⟨_, hS, rfl⟩, F.args_list_init_2 _ _, init_bytes (A := A.in1) (hn := hn) hh x t _ hS fun h' tk acc' c' hk hS' hacc => ?_⟩
  exact ⟨rfl, hQ h' tk acc' c' (fun b o e => hk b o (Nat.ne_of_lt (Heap.lt_size e)) (Heap.get?_push_of_some _ e)) hS' hacc⟩
theorem ints_of_items {x : List UInt8} : ∀ {vs : List Value} {k : Nat}, vs.length + k = x.length → (∀ j v, vs[j]? = some v → OctAt x.toArray (j + k) v) → IntsAre vs ((x.drop k).map fun c => (c.toNat : Int))
  | [], k, h, _ => by
    have : x.drop k = [] := List.drop_of_length_le (by simp at h; omega)
    rw [this]; exact .nil
  | v :: vs, k, h, hv => by
    obtain ⟨c, u, hc, rfl⟩ := hv 0 v rfl
    rw [Nat.zero_add] at hc
    have hlt : k < x.length := by simp at h; omega
    have hc' : x[k] = c := by
      have : x[k]? = some c := by simpa using hc
      rw [List.getElem?_eq_getElem hlt] at this
      exact Option.some.inj this
    rw [List.drop_eq_getElem_cons hlt, hc']
    refine .cons _ _ (ints_of_items (k := k + 1) (by simp at h ⊢; omega) fun j v hj => ?_)
    have := hv (j + 1) v hj
    have e : j + (k + 1) = j + 1 + k := by omega
    rw [e]; exact this
/-- the octets as a list, from a frame with a ledger -/
theorem list_bytes_F {h₀ : Heap} {L : Addr} {m : Str → Option Value} {news : List (Addr × Obj)} {Q : Value → Shared → Prop} {l : List UInt8} {t : Tok} (hh : A.handled = none) (F : Fr h₀ L s.heap m) (N : News h₀ L s.heap news) (hn : l.length ≤ 1000)
    (h : ∀ D h' tk ys c, (∀ p ∈ news, p.1 < D) → Fr h₀ L h' m → News h₀ L h' ((D, listOf ys.toArray c) :: news) → IntsAre ys (l.map fun c => (c.toNat : Int)) → Q (.ref D) { s with heap := h', toks := tk }) :
    wpAny (model prog w) A (call (.type "list") [.bytes l.toArray t]) Q E s := by
  refine list_bytes hh _ t (fun h' tk acc' c' hk hS hacc => ?_) (by rw [List.size_toArray]; exact Nat.le_trans hn (by decide))
  refine h s.heap.objs.size h' tk acc'.toList c' (fun p hp => Heap.lt_size (N p hp).1) (F.keeps hk) (fun p hp => ?_) ?_
  · rcases List.mem_cons.mp hp with rfl | hp
    · refine ⟨by simpa using hS, Nat.ne_of_gt F.ns.lt, ktu_new F (Nat.le_refl _)⟩
    · exact ⟨hk _ _ (N p hp).1, (N p hp).2⟩
  · have := ints_of_items (x := l) (vs := acc'.toList) (k := 0) (by have := hacc.1; simp at this ⊢; omega) (fun j v hj => hacc.2 j v (by simpa using hj))
    rwa [List.drop_zero] at this
end
end Mine
end

section
set_option maxRecDepth 100000
open PySem PySem.W PyProof.Rows PySem.Calls PySem.Spec
namespace Mine
theorem bsw_length (b : Nat) (l : List UInt8) : (bsw b l).length = l.length := by simp [bsw]


set_option maxHeartbeats 8000000 in
theorem st18 (w : World) (p : Program) (loose : List Str) (mean : ExcName → Option Value) (mg mb : Str → Option Value) (dp u : Nat) (fr : Option (List Env)) (g : Heap) (s : Shared) (L' fa : Addr) (cd : Value) (Q : Flow → Shared → Prop) (E : Value → Shared → Prop)
    (X : (Pre.hc.heap_1 w.params).In g) (T : Top p loose mean mg mb g) (hd : dp + 300 < recursionLimit) (hu : u + 3000 < cLine) (hE : PassesOwn (model PySem.Challenge.rw_zo0028_01.row.prog w) ((AR dp u fr (some [])).deeper (lenv L' fa cd)) (lenv L' fa cd) E) (m : Str → Option Value) (F : Fr g L' s.heap m) (o1 o2 o3 o4 o5 o6 o7 : Obj) (b65 : @LT.lt Nat _ 65 L') (b58 : @LT.lt Nat _ 58 L')
    (dn mn z : Nat) (num hal : Int) (oc : List UInt8) (tg tm tz tnu tha toc : Tok) (dg2 : dn ≤ 3) (z1 : 5 ≤ z) (z2 : z ≤ 7) (d7 : o7.data = .cell (some (.int z tz))) (hol : oc.length = (dn + 1) * z) (ks : List Value) (lk nd : Addr) (on : Obj)
    (ps65 ps58 : Array Value) (ct : List (Addr × Obj)) (B : Tb g ct ps65 ps58) (f65 : TabF g ct ps65 p65) (f58 : TabF g ct ps58 p58) (ret : ∀ m' h' tk' tmi,  Knows m' [(Str.ofString "degree", (Value.int dn tg : Value)), (Str.ofString "many", (Value.int mn tm : Value)), (Str.ofString "counts", (Value.ref lk : Value)), (Str.ofString "number", (Value.int num tnu : Value)), (Str.ofString "mirrored", (Value.int (hor 256 ((bsw z (bsw oc.length oc)).map fun c => (c.toNat : Int)) - hal) tmi : Value))] → Fr g L' h' m' → News g L' h' ((lk, LCg.lst ks) :: (nd, on) :: (L' + 1 + 1 + 1 + 1 + 1 + 1 + 1, o7) :: (L' + 1 + 1 + 1 + 1 + 1 + 1, o6) :: (L' + 1 + 1 + 1 + 1 + 1, o5) :: (L' + 1 + 1 + 1 + 1, o4) :: (L' + 1 + 1 + 1, o3) :: (L' + 1 + 1, o2) :: (L' + 1, o1) :: (65, tabObj ps65) :: (58, tabObj ps58) :: ct) → Q .next { s with heap := h', toks := tk' }) (kn : Knows m [(Str.ofString "degree", (Value.int dn tg : Value)), (Str.ofString "many", (Value.int mn tm : Value)), (Str.ofString "counts", (Value.ref lk : Value)), (Str.ofString "number", (Value.int num tnu : Value)), (Str.ofString "halves", (Value.int hal tha : Value)), (Str.ofString "octets", (Value.bytes oc.toArray toc : Value))]) (N : News g L' s.heap ((lk, LCg.lst ks) :: (nd, on) :: (L' + 1 + 1 + 1 + 1 + 1 + 1 + 1, o7) :: (L' + 1 + 1 + 1 + 1 + 1 + 1, o6) :: (L' + 1 + 1 + 1 + 1 + 1, o5) :: (L' + 1 + 1 + 1 + 1, o4) :: (L' + 1 + 1 + 1, o3) :: (L' + 1 + 1, o2) :: (L' + 1, o1) :: (65, tabObj ps65) :: (58, tabObj ps58) :: ct)) :
    wpC (model PySem.Challenge.rw_zo0028_01.row.prog w) ((AR dp u fr (some [])).deeper (lenv L' fa cd)) (exec (lawS 18) (lenv L' fa cd)) Q E s := by
  w_top off
  have _ : PySem.Challenge.rw_zo0028_01.row.prog = PySem.Challenge.rw_zo0028_01.row.prog → (Pre.hc.heap_1 w.params).In g := by (k_fill; exact fun _ => X)
  replace F := knows_fr F kn
  dsimp only [knowF] at F
  clear kn
  dsimp only [lenv, lawS, stm, lawD, recOf]

  have hz28 : (dn + 1) * z ≤ 28 := Nat.le_trans (Nat.mul_le_mul (show dn + 1 ≤ 4 by omega) z2) (by decide)
  with_unfolding_all refine wpC_Assign_Name ?_ (by rfl)
  with_unfolding_all refine wpC_BinOp ?_
  with_unfolding_all refine wpC_Call ?_
  k_steps
  (rename Fr _ _ _ _ => fF)
  (rename News _ _ _ _ => nN)
  with_unfolding_all refine wpC_callWith2 (P := FnAt 70) keeps_F ?_ (by rfl)
  with_unfolding_all refine wpC_Call ?_
  k_steps
  with_unfolding_all refine wpC_callWith1 (P := fun _ => True) keeps_type ?_ (by rfl)
  with_unfolding_all refine wpC_Call ?_
  k_steps
  with_unfolding_all refine wpC_callWith2 (P := FnAt 98) keeps_F ?_ (by rfl)
  with_unfolding_all refine wpC_Call ?_
  k_steps
  with_unfolding_all refine wpC_callWith2 (P := FnAt 98) keeps_F (wpC_of ?_) (by rfl)
  k_steps
  refine wpC_of ?_
  k_steps
  next => (refine' fnAt_K X fF ?kk; case kk => k_is)
  refine' use_purC (con_bsw w oc _ _ oc.length 1 (by rw [hol]; exact Nat.le_trans (show 1 ≤ 1 * 1 from by decide) (Nat.mul_le_mul (by omega) (by omega))) (by omega) (by omega) (by omega)) fF nN X T ?p1 ?p2 ?p3 ?_
  case p1 => k_room
  case p2 => k_room
  case p3 => trivial
  intro r₁ h₁ tk₁ F₁ N₁ _ ⟨t₁, e₁⟩
  subst e₁
  clear fF nN
  refine wpC_of ?_
  k_steps
  (rename Fr _ _ _ _ => fF)
  (rename News _ _ _ _ => nN)
  next => (refine' fnAt_K X fF ?kk; case kk => k_is)
  (rename Fr _ _ _ _ => fF)
  (rename News _ _ _ _ => nN)
  refine' use_purC (con_bsw w (bsw oc.length oc) _ _ z (dn + 1) (by omega) (by rw [bsw_length]; exact hol) (by rw [bsw_length]; omega) (by omega)) fF nN X T ?p1 ?p2 ?p3 ?_
  case p1 => k_room
  case p2 => k_room
  case p3 => trivial
  intro r₂ h₂ tk₂ F₂ N₂ _ ⟨t₂, e₂⟩
  subst e₂
  clear fF nN
  refine ⟨trivial, wpC_of ?_⟩
  refine list_bytes_F rfl F₂ N₂ (by rw [bsw_length, bsw_length]; omega) ?_
  intro D h₃ tk₃ ys c hD F₃ N₃ hys
  have hD58 : @Ne Nat D 65 := Nat.ne_of_gt (hD (65, tabObj ps65) (by simp))
  clear F₂ N₂
  refine wpC_of ?_
  k_steps
  next => (refine' fnAt_K X F₃ ?kk; case kk => k_is)
  refine wpC_of ?_
  have hb8 : ∀ d ∈ (bsw z (bsw oc.length oc)).map fun c => (c.toNat : Int), Builtin.Int.intBits d ≤ 300 := by
    intro d hd'
    obtain ⟨c, _, rfl⟩ := List.mem_map.mp hd'
    have h1 := u8_lt c
    exact intBits_le_iff.mpr (Nat.lt_of_lt_of_le (show (c.toNat : Int).natAbs < 2 ^ 8 by omega) (Nat.pow_le_pow_right (by decide) (by decide)))
  refine' use_G [(D, listOf ys.toArray c), (lk, LCg.lst ks), (nd, on), (L' + 1 + 1 + 1 + 1 + 1 + 1 + 1, o7), (L' + 1 + 1 + 1 + 1 + 1 + 1, o6), (L' + 1 + 1 + 1 + 1 + 1, o5), (L' + 1 + 1 + 1 + 1, o4), (L' + 1 + 1 + 1, o3), (L' + 1 + 1, o2), (L' + 1, o1)] (PurT.full (con_d2i w D ys _ 8 _ hys (by rw [List.length_map, bsw_length, bsw_length]; omega) hb8 (by decide) (by decide)) (.inr ⟨rfl, rfl⟩)) F₃ N₃ X T B f65 f58 ?p1 ?p2 ?p3 ?_
  case p1 => k_room
  case p2 => k_room
  case p3 => exact PySem.IsL.isList (N₃ _ (.head _)).1
  intro r₃ h₄ tk₄ F₄ N₄ ⟨t₄, e₄⟩
  subst e₄
  clear F₃ N₃
  simp only [List.cons_append, List.nil_append] at N₄
  have e256 : (2 : Int) ^ (8 : Int).toNat = 256 := by decide
  rw [e256]
  refine wpC_of ?_
  k_steps
  refine wpC_of ?_
  k_steps
  dsimp only
  (rename Fr _ _ _ _ => fF)
  (rename News _ _ _ _ => nN)
  exact ret _ _ _ _ ⟨rfl, rfl, rfl, rfl, rfl, trivial⟩ fF (news_subl nN fun p hp => .tail _ hp)

end Mine
end

section
set_option maxRecDepth 100000
open PySem PySem.W PyProof.Rows PySem.Calls PySem.Spec
namespace Mine
section
variable {prog : Program} {w : World} {A : Around} {E : Value → Shared → Prop} {s : Shared} {h₀ : Heap} {L a b : Addr} {news : List (Addr × Obj)} {xs ys : List Value} {n m : Nat} {ns : List Int} {Q : Value → Shared → Prop}
theorem ne_ints_same (N : News h₀ L s.heap news) (ha : (a, listOf xs.toArray n) ∈ news) (hb : (b, listOf ys.toArray m) ∈ news) (hi : IntsAre xs ns) (hj : IntsAre ys ns) (hu : A.units + 64 < cLine) (h : Q (.bool false) s) :
    wpAny (model prog w) A (compareOp .NotEq (.ref a) (.ref b)) Q E s :=
  ke_ne_ints (PySem.IsL.isList (N _ ha).1) (PySem.IsL.isList (N _ hb).1) hi hj hu (by simpa using h)
theorem eq_ints_same (N : News h₀ L s.heap news) (ha : (a, listOf xs.toArray n) ∈ news) (hb : (b, listOf ys.toArray m) ∈ news) (hi : IntsAre xs ns) (hj : IntsAre ys ns) (hu : A.units + 64 < cLine) (h : Q (.bool true) s) :
    wpAny (model prog w) A (compareOp .Eq (.ref a) (.ref b)) Q E s :=
  ke_eq_ints (PySem.IsL.isList (N _ ha).1) (PySem.IsL.isList (N _ hb).1) hi hj hu (by simpa using h)
end


set_option maxHeartbeats 8000000 in
theorem st19 (w : World) (p : Program) (loose : List Str) (mean : ExcName → Option Value) (mg mb : Str → Option Value) (dp u : Nat) (fr : Option (List Env)) (g : Heap) (s : Shared) (L' fa : Addr) (cd : Value) (Q : Flow → Shared → Prop) (E : Value → Shared → Prop)
    (X : (Pre.hc.heap_1 w.params).In g) (T : Top p loose mean mg mb g) (hd : dp + 300 < recursionLimit) (hu : u + 3000 < cLine) (hE : PassesOwn (model PySem.Challenge.rw_zo0028_01.row.prog w) ((AR dp u fr (some [])).deeper (lenv L' fa cd)) (lenv L' fa cd) E) (m : Str → Option Value) (F : Fr g L' s.heap m) (o1 o2 o3 o4 o5 o6 o7 : Obj) (b65 : @LT.lt Nat _ 65 L') (b58 : @LT.lt Nat _ 58 L')
    (dn mn z : Nat) (num mir : Int) (tg tm tz tnu tmi : Tok) (dg1 : 2 ≤ dn) (dg2 : dn ≤ 3) (hmn : mn = dn + 2) (z1 : 5 ≤ z) (z2 : z ≤ 7) (d7 : o7.data = .cell (some (.int z tz))) (ks : List Value) (ns : List Int) (hks : IntsAre ks ns) (lk nd : Addr) (on : Obj)
    (ps65 ps58 : Array Value) (ct : List (Addr × Obj)) (B : Tb g ct ps65 ps58) (f65 : TabF g ct ps65 p65) (f58 : TabF g ct ps58 p58) (bmir : Builtin.Int.intBits mir ≤ 500) (hm0 : 0 ≤ mir + (256 : Int) ^ z / 2 * ((256 : Int) ^ z - 1) ^ dn) (hbt : btpv mir z dn mn = ns) (ret : ∀ m' h' tk' (_ : Unit),  Knows m' [(Str.ofString "degree", (Value.int dn tg : Value)), (Str.ofString "number", (Value.int num tnu : Value))] → Fr g L' h' m' → News g L' h' ((nd, on) :: (L' + 1 + 1 + 1 + 1 + 1 + 1 + 1, o7) :: (L' + 1 + 1 + 1 + 1 + 1 + 1, o6) :: (L' + 1 + 1 + 1 + 1 + 1, o5) :: (L' + 1 + 1 + 1 + 1, o4) :: (L' + 1 + 1 + 1, o3) :: (L' + 1 + 1, o2) :: (L' + 1, o1) :: (65, tabObj ps65) :: (58, tabObj ps58) :: ct) → Q .next { s with heap := h', toks := tk' }) (kn : Knows m [(Str.ofString "degree", (Value.int dn tg : Value)), (Str.ofString "many", (Value.int mn tm : Value)), (Str.ofString "counts", (Value.ref lk : Value)), (Str.ofString "number", (Value.int num tnu : Value)), (Str.ofString "mirrored", (Value.int mir tmi : Value))]) (N : News g L' s.heap ((lk, LCg.lst ks) :: (nd, on) :: (L' + 1 + 1 + 1 + 1 + 1 + 1 + 1, o7) :: (L' + 1 + 1 + 1 + 1 + 1 + 1, o6) :: (L' + 1 + 1 + 1 + 1 + 1, o5) :: (L' + 1 + 1 + 1 + 1, o4) :: (L' + 1 + 1 + 1, o3) :: (L' + 1 + 1, o2) :: (L' + 1, o1) :: (65, tabObj ps65) :: (58, tabObj ps58) :: ct)) :
    wpAny (model PySem.Challenge.rw_zo0028_01.row.prog w) ((AR dp u fr (some [])).deeper (lenv L' fa cd)) (exec (lawS 19) (lenv L' fa cd)) Q E s := by
  w_top off
  have _ : PySem.Challenge.rw_zo0028_01.row.prog = PySem.Challenge.rw_zo0028_01.row.prog → (Pre.hc.heap_1 w.params).In g := by (k_fill; exact fun _ => X)
  replace F := knows_fr F kn
  dsimp only [knowF] at F
  clear kn
  dsimp only [lenv, lawS, stm, lawD, recOf]

  (repeat' (first | (k_unfold; (try dsimp only)) | (k_end; wrow_close) | ((with_reducible show wpAny _ _ (call (Value.ref _) _ _) _ _ _); k_here; refine Stop.elim ?_) | walk1 | (dsimp only; (first | ((with_reducible show wpAny _ _ (call (Value.ref _) _ _) _ _ _); k_here; refine Stop.elim ?_) | walk1)) | (leave1; walk_say "STEP leave1"; try dsimp only) | fail "no step"))
  refine Stop.intro ?_
  (rename Fr _ _ _ _ => fF)
  (rename News _ _ _ _ => nN)
  refine' use_G [(lk, LCg.lst ks), (nd, on), (L' + 1 + 1 + 1 + 1 + 1 + 1 + 1, o7), (L' + 1 + 1 + 1 + 1 + 1 + 1, o6), (L' + 1 + 1 + 1 + 1 + 1, o5), (L' + 1 + 1 + 1 + 1, o4), (L' + 1 + 1 + 1, o3), (L' + 1 + 1, o2), (L' + 1, o1)] (con_btp w mir z dn mn _ _ _ _ z1 z2 dg1 dg2 (by omega) (by omega) bmir hm0) fF nN X T B f65 f58 ?p1 ?p2 ?p3 ?_
  case p1 => k_room
  case p2 => k_room
  case p3 => trivial
  intro r₁ h₁ tk₁ F₁ N₁ ⟨D, ys, c, e₁, hfr, hD, hys⟩
  subst e₁
  rw [hbt] at hys
  replace N₁ := news_add fF N₁ hfr hD
  clear fF nN
  simp only [List.cons_append, List.nil_append] at N₁
  (repeat' (first | (k_unfold; (try dsimp only)) | (k_end; wrow_close) | (k_here; (with_reducible show wpAny _ _ (compareOp CmpOp.NotEq (Value.ref _) (Value.ref _)) _ _ _); (refine' ne_ints_same ?nN ?nm ?nk ?ni ?nj ?nu ?_; (case nN => k_asm); (case nm => k_mem); (case nk => k_mem); (case ni => assumption); (case nj => assumption); (case nu => (show _ + 3 + 64 < cLine; omega)))) | walk1 | (dsimp only; (first | (k_here; (with_reducible show wpAny _ _ (compareOp CmpOp.NotEq (Value.ref _) (Value.ref _)) _ _ _); (refine' ne_ints_same ?nN ?nm ?nk ?ni ?nj ?nu ?_; (case nN => k_asm); (case nm => k_mem); (case nk => k_mem); (case ni => assumption); (case nj => assumption); (case nu => (show _ + 3 + 64 < cLine; omega)))) | walk1)) | (leave1; walk_say "STEP leave1"; try dsimp only) | fail "no step"))
  (try dsimp only)
  (rename Fr _ _ _ _ => fF)
  (rename News _ _ _ _ => nN)
  exact ret _ _ _ () ⟨rfl, rfl, trivial⟩ fF (news_subl nN fun p hp => .tail _ (.tail _ hp))

end Mine
end

section
set_option maxRecDepth 100000
open PySem PySem.W PyProof.Rows PySem.Calls PySem.Spec
namespace Mine
section
variable {prog : Program} {w : World} {A : Around} {s : Shared} {env : Env} {R : Result → Shared → Prop}
/-- a block is entered, on a clean stack -/
theorem codeC_start {elt target iter : PySem.Expr} {ifs : List PySem.Expr} {rest : List Comprehension} {scope : Scope} {pos : Pos} {it acc : Value}
    (h0 : codeC (model prog w) A (.compLoop (.ListComp elt (⟨target, iter, ifs, 0⟩ :: rest) scope pos) 0 it acc env) R s)
    (h : wpAny (model prog w) A (pyIter it) (fun it' s' => codeC (model prog w) A (.compLoop (.ListComp elt (⟨target, iter, ifs, 0⟩ :: rest) scope pos) 0 it' acc env) R s')
      (notedBy (model prog w) A env fun x s' => R (.error x) s') s) :
    codeC (model prog w) A (.compStart (.ListComp elt (⟨target, iter, ifs, 0⟩ :: rest) scope pos) 0 it acc env) R s := by
  refine codeC_of_tree rfl (wpC_of ?_)
  show wpAny _ A ((compStart (.ListComp elt (⟨target, iter, ifs, 0⟩ :: rest) scope pos) 0 it acc env).onRaise (fun x => do noteFrame x env; standAt theWindowsPlace)) _ _ s
  refine wpAny_notedAt ?_
  unfold compStart
  show wpAny _ A (ask >>= _) _ _ s
  refine wpAny_bind (wpAny_askSetting (wpAny_ite ?_))
  split
  · first
      | exact wpAny_bind (wpAny_pure (wpAny_pure (And.intro rfl h0)))
      | exact wpAny_pure (And.intro rfl h0)
  · first
      | exact wpAny_bind (wpAny_rule (wpAny_bind (wpAny_standAt (wpAny_bind (wpAny_mono h (fun it' s' h' => wpAny_pure (And.intro rfl h')) fun _ _ x => x)))))
      | (refine wpAny_bind (wpAny_rule ?_); show wpAny _ A (standAt iter.pos >>= _) _ _ s; exact wpAny_bind (wpAny_standAt (wpAny_bind (wpAny_mono h (fun it' s' h' => wpAny_pure (And.intro rfl h')) fun _ _ x => x))))
/-- a block's turns, where the element stands on a clean stack -/
theorem codeC_turns {elt target iter : PySem.Expr} {scope : Scope} {pos : Pos} {it acc : Value} (I : Nat → Shared → Prop)
    (turn : ∀ n s, I n s → wpAny (model prog w) A (pyNext it) (fun r s₁ => match r with
      | none => R (.ok .next) s₁
      | some v => wpAny (model prog w) A (assign target env v) (fun _ s₂ => wpC (model prog w) A (eval elt env) (fun x s₃ =>
          wpAny (model prog w) A (call (.builtin "list.append") [acc, x]) (fun _ s₄ => ∃ m, m < n ∧ I m s₄) (fun _ _ => False) s₃)
          (fun _ _ => False) s₂) (fun _ _ => False) s₁) (fun _ _ => False) s)
    (n : Nat) (h : I n s) (ht : ∀ v, letOwnedTupleGo target it v = pure () := by intro _; rfl) :
    codeC (model prog w) A (.compLoop (.ListComp elt [⟨target, iter, [], 0⟩] scope pos) 0 it acc env) R s := by
  refine codeC_loop rfl rfl I (fun n s hI => ?_) n h
  show wpC _ A ((compTurn (.ListComp elt [⟨target, iter, [], 0⟩] scope pos) 0 it acc env).onRaise (fun x => do noteFrame x env; theTreesLotGoes x)) _ _ s
  refine wpC_onRaise (wpC_mono (E' := _) ?_ (fun _ _ q => q) (fun _ _ (f : False) => f.elim))
  rw [compTurn_list1]
  refine wpC_bindA (wpAny_standAt (wpC_bindA (wpAny_mono (turn n s hI) (fun r s₁ h₁ => ?_) fun _ _ h' => h')))
  cases r with
  | none => exact wpC_pure h₁
  | some v =>
    refine wpC_bindA (wpAny_of_eq (ht v) ?_)
    exact wpC_bindA (wpAny_mono h₁ (fun _ s₂ h₂ => wpC_bind (wpC_bind (wpC_mono h₂ (fun x s₃ h₃ => wpC_bindA (wpAny_mono h₃
      (fun _ s₄ h₄ => wpC_pure (wpC_pure ⟨rfl, h₄⟩)) fun _ _ h' => h')) fun _ _ h' => h'))) fun _ _ h' => h')
/-- behind the block: the list goes to its name -/
noncomputable def useC (M : Model) (A : Around) (E : Value → Shared → Prop) (u : Value → Sem Unit) (Q : Value → Shared → Prop) (acc : Value) (C : Addr) (r : Result) (s' : Shared) : Prop :=
  r = .ok .next ∧ wpAny M A (u acc) (fun _ s'' => ∃ m, s''.heap.Ns C m ∧ ∀ h', Heap.SameBut C s''.heap h' → Q .none { s'' with heap := h' }) E s'
/-- a comprehension that goes to a name, its block on a clean stack -/
theorem compC_used {e : PySem.Expr} {scope : Scope} {pos : Pos} {newAcc first : Sem Value} {g : Comprehension} {gs : List Comprehension} {cl : List (Str × Addr)} {u : Value → Sem Unit} {Q : Value → Shared → Prop} {E : Value → Shared → Prop} {M : Model}
    (hcl : clausesOf e = g :: gs) (hs : ∀ x, foldedSetIterable g.iter env x = pure x) (hclos : closureFor scope env = pure cl)
    (hkind : scope.kind = .function) (hnames : ∀ x ∈ scope.names, x.2 = .local → scope.names.lookup x.1 = some .local)
    (h : wpAny M A first (fun x s₁ => wpAny M A (pyIter x) (fun it s₂ => wpAny M A newAcc (fun acc s₃ =>
      wpAny M A (newFunctionEnv scope env.globals cl [] env.qual none .none (some env)) (fun cenv s₄ =>
        codeC M A (.compStart e 0 it acc { cenv with scope := relabel scope env }) (useC M A E u Q acc cenv.locals) s₄) E s₃) E s₂) E s₁) E s) :
    wpC M A (comprehension e scope env pos newAcc false first (some u)) Q E s := by
  unfold comprehension
  rw [hclos, hcl]
  refine wpC_bindA (wpAny_mono h (fun x s₁ h₁ => ?_) fun _ _ h' => h')
  refine wpC_bindA (wpAny_standAt ?_)
  refine wpC_bindA (wpAny_of_eq (hs x) ?_)
  refine wpC_bindA (wpAny_holding (wpAny_mono h₁ (fun it s₂ h₂ => ?_) fun _ _ h' => h'))
  refine wpC_bindA (wpAny_standAt ?_)
  refine wpC_bindA (wpAny_mono h₂ (fun acc s₃ h₃ => ?_) fun _ _ h' => h')
  refine wpC_bindA (wpAny_pure ?_)
  refine wpC_bindA (wpAny_mono h₃ (fun cenv s₄ h₄ => ?_) fun _ _ h' => h')
  dsimp only
  have hv : ∀ x ∈ (scope.names.filter fun x => (x.2 == .local || x.2 == .cell) && x.1 != (".0" : Str)).reverse.drop 1 ++ (scope.names.filter fun x => (x.2 == .local || x.2 == .cell) && x.1 != (".0" : Str)).reverse.take 1,
      x.2 = .local → Env.kindOf { cenv with scope := relabel scope env } x.1 = some .local := fun x hx hl => by
    have h1 : x ∈ (scope.names.filter fun x => (x.2 == .local || x.2 == .cell) && x.1 != (".0" : Str)).reverse := by
      rcases List.mem_append.mp hx with h1 | h1
      · exact List.mem_of_mem_drop h1
      · exact List.mem_of_mem_take h1
    exact lookup_relabel_local (hnames x (List.mem_filter.mp (List.mem_reverse.mp h1)).1 hl)
  refine wpC_holding (wpC_bind (wpC_attempt (wpC_holding (wpC_run (codeC_mono h₄ fun r s' hr => ?_) (by intro x; cases x)))))
  obtain ⟨rfl, hr⟩ := hr
  refine wpC_of ?_
  refine wpAny_bind (wpAny_rule (wpAny_bind (wpAny_holding (wpAny_mono hr (fun _ s'' hr' => ?_) fun _ _ h' => h'))))
  refine cutG fun PC hPC => ?_
  obtain ⟨m, hn, hr'⟩ := hr'
  refine hPC ?_
  clear hPC PC
  exact wpAny_bind (wpAny_comp_letGo (cenv := { cenv with scope := relabel scope env }) hkind _ s'' m hv hn fun h' m' _ hs' => wpAny_pure (hr' h' hs'))
end
section
open LCg
variable {prog : Program} {w : World} {A : Around} {s : Shared} {env : Env} {h₀ : Heap} {L : Addr} {m : Str → Option Value}
/-- what an element's walk starts from, and where it ends -/
noncomputable abbrev TurnC (prog : Program) (w : World) (A : Around) (h₀ : Heap) (L : Addr) (m : Str → Option Value) (env : Env) (elt : PySem.Expr) (x : Str) (scope : Scope) (cl : List (Str × Addr)) (s : Shared) (a : Int) (n : Nat) (J : Nat → List Value → List (Addr × Obj) → Prop) : Prop :=
  ∀ i t I oI C oC D ys news m₂ h tk, i < n → J i ys news → NsObj oC m₂ → m₂ x = some (.int (a + (i : Int)) t) → Fr h₀ L h m → News h₀ L h ((I, oI) :: (C, oC) :: (D, lst ys) :: news) → Off3 I C D news → ((@Ne Nat I C) ∧ (@Ne Nat I D) ∧ (@Ne Nat C D)) →
    wpC (model prog w) A (eval elt (compEnvC scope cl C env)) (CompEnd h₀ L m { s with heap := h, toks := tk } I oI C oC D (lst ys) (fun _ => True) (fun y news' => J (i + 1) (ys ++ [y]) news')) (fun _ _ => False) { s with heap := h, toks := tk }
theorem blockC {elt iter : PySem.Expr} {x : Str} {px : Pos} {scope : Scope} {cl : List (Str × Addr)} {pos : Pos} {s₂ : Shared} {I : Addr} {n : Nat} {a : Int} {news : List (Addr × Obj)} {J : Nat → List Value → List (Addr × Obj) → Prop} {RR : Value → Addr → Result → Shared → Prop} {E : Value → Shared → Prop}
    (hh : A.handled = none) (hsz : n ≤ sizeLine) (hcell : ∀ y ∈ scope.names, y.2 ≠ .cell) (hkind : scope.kind = .function) (hx : scope.names.lookup x = some .local) (hst : IsRangeIter s₂.heap I a n 1)
    (F : Fr h₀ L s₂.heap m) (N : News h₀ L s₂.heap news) (hIL : L ≠ I) (hI₀ : h₀.get? I = none) (off : ∀ p ∈ news, p.1 ≠ I) (j0 : J 0 [] news)
    (turn : TurnC prog w A h₀ L m env elt x scope cl s₂ a n J)
    (hRR : ∀ D C h tk m' ys news', Fr h₀ L h m → News h₀ L h ((D, lst ys) :: news') → Off1 D news' → h.Ns C m' → h₀.get? C = none → h₀.get? D = none → C ≠ L → D ≠ L → C ≠ D → (∀ p ∈ news', p.1 ≠ C) → J n ys news' → RR (.ref D) C (.ok .next) { s₂ with heap := h, toks := tk }) :
    wpAny (model prog w) A (newList []) (fun acc s₃ => wpAny (model prog w) A (newFunctionEnv scope env.globals cl [] env.qual none .none (some env)) (fun cenv s₄ =>
      codeC (model prog w) A (.compStart (.ListComp elt [⟨.Name x px, iter, [], 0⟩] scope pos) 0 (.ref I) acc { cenv with scope := relabel scope env }) (RR acc cenv.locals) s₄) E s₃) E s₂ := by
  have W := range_walks (prog := prog) (w := w) (A := A) (I := I) hh a n
  refine wpAny_newObj_type (wpAny_newFunctionEnv hcell (by intro y hy; simp at hy) (fun h₁ hns₁ hsb₁ => ?_) hkind)
  dsimp only at hns₁ hsb₁ ⊢
  generalize hH2 : s₂.heap.push { cls := .type "list", dict := none, data := .seq ([] : List Value).toArray } = H2 at hns₁ hsb₁ ⊢
  have hC : H2.objs.size = s₂.heap.objs.size + 1 := by rw [← hH2, Heap.size_push]
  generalize hD : s₂.heap.objs.size = D at *
  generalize hCC : H2.objs.size = C at *
  have hst' : ∃ oI, s₂.heap.get? I = some oI := ⟨_, hst⟩
  obtain ⟨oI0, hI1⟩ := hst'
  have hIlt : @LT.lt Nat _ I D := hD ▸ Heap.lt_size hI1
  have hLlt : @LT.lt Nat _ L D := hD ▸ F.ns.lt
  have hCD : @Eq Nat C (D + 1) := hC
  have nDC : @Ne Nat D C := by omega
  have nIC : @Ne Nat I C := by omega
  have nID : @Ne Nat I D := by omega
  have nDL : @Ne Nat D L := by omega
  have nCL : @Ne Nat C L := by omega
  have old : ∀ b o, s₂.heap.get? b = some o → h₁.get? b = some o := fun b o e => by
    have hb : @LT.lt Nat _ b D := hD ▸ Heap.lt_size e
    exact hsb₁.extBut b o (show @Ne Nat b C by omega) (Heap.get?_push_of_some _ (hH2 ▸ Heap.get?_push_of_some _ e))
  have hacc : h₁.get? D = some (lst []) := hsb₁.extBut _ _ nDC (Heap.get?_push_of_some _ (by rw [← hH2, ← hD]; exact Heap.get?_push_size _ rfl))
  have fresh₀ : ∀ b, @LE.le Nat _ D b → h₀.get? b = none := fun b hb => by
    cases e : h₀.get? b with
    | none => rfl
    | some o' =>
      have h1 : @LT.lt Nat _ b D := hD ▸ Heap.lt_size (F.keep b o' e)
      omega
  have hD₀ : h₀.get? D = none := fresh₀ _ (Nat.le_refl _)
  have hC₀ : h₀.get? C = none := fresh₀ _ (by omega)
  have off₀ : Off3 I C D news := Off3.of fun p hp => by
    have h1 : @LT.lt Nat _ p.1 D := hD ▸ Heap.lt_size (N p hp).1
    refine ⟨off p hp, show @Ne Nat p.1 C by omega, show @Ne Nat p.1 D by omega⟩
  have loop : ∀ s₃ : Shared, s₃ = { s₂ with heap := h₁, toks := s₂.toks + ([] : List (Str × Value)).length } →
      codeC (model prog w) A (.compLoop (.ListComp elt [⟨.Name x px, iter, [], 0⟩] scope pos) 0 (.ref I) (.ref D) (compEnvC scope cl C env)) (RR (.ref D) C) s₃ := by
    rintro s₃ rfl
    obtain ⟨JJ, hJJ⟩ : ∃ J₁ : Nat → Shared → Prop, J₁ = fun k s' => ∃ h' tk i ys m' news', s' = { s₂ with heap := h', toks := tk } ∧ i ≤ n ∧ k = n + 1 - i ∧ ys.length = i ∧ IsRangeIter h' I (a + (i : Nat) * 1) ((n : Int) - (i : Nat)) 1 ∧ Fr h₀ L h' m ∧ h'.Ns C m' ∧ News h₀ L h' ((D, lst ys) :: news') ∧ Off3 I C D news' ∧ J i ys news' := ⟨_, rfl⟩
    refine codeC_turns JJ ?_ (n + 1) ?_
    · intro k s' hk
      rw [hJJ] at hk
      refine cutG fun PC hPC => ?_
      obtain ⟨h', tk, i, ys, m', news', rfl, hi, rfl, hyl, hit, F', hn', N', off', hJ⟩ := hk
      refine hPC ?_
      clear hPC PC
      have off3 := off'.mem
      by_cases hlt : i < n
      · refine W.item i _ _ _ hlt hit fun v h₂ tk₂ hPv hst₂ hk₂ => ?_
        obtain ⟨t, rfl⟩ := hPv
        refine wpAny_assign_Name (wpAny_storeName_local (lookup_relabel_local hx) (hn'.at' fun o e => hk₂ _ o (by simpa using Ne.symm nIC) e) (fun h₃ hn₃ hs₃ => ?_) (by simp [compEnvC, relabel, hkind]))
        have hst₃ : IsRangeIter h₃ I (a + ((i + 1 : Nat) : Int) * 1) ((n : Int) - ((i + 1 : Nat) : Int)) 1 := hs₃.extBut I _ nIC hst₂
        refine cutG fun PC hPC => ?_
        obtain ⟨oC, heC, hoC⟩ := ns_obj hn₃
        refine hPC ?_
        clear hPC PC
        have F₃ : Fr h₀ L h₃ m := (LCg.fr_but F' hk₂ hIL hI₀).change hs₃ nCL hC₀
        have N₂ : News h₀ L h₂ ((D, lst ys) :: news') := LCg.news_but N' hk₂ fun p hp => by
          rcases List.mem_cons.mp hp with rfl | hp
          · exact Ne.symm nID
          · exact (off3 p hp).1
        have hst₃' : ∃ oI, h₃.get? I = some oI ∧ IsRangeIter h₃ I (a + ((i + 1 : Nat) : Int) * 1) ((n : Int) - ((i + 1 : Nat) : Int)) 1 := ⟨_, hst₃, hst₃⟩
        refine cutG fun PC hPC => ?_
        obtain ⟨oI, heI, hst₄⟩ := hst₃'
        refine hPC ?_
        clear hPC PC
        have N₃ : News h₀ L h₃ ((I, oI) :: (C, oC) :: (D, lst ys) :: news') := fun p hp => by
          rcases List.mem_cons.mp hp with rfl | hp
          · exact ⟨heI, Ne.symm hIL, hI₀⟩
          rcases List.mem_cons.mp hp with rfl | hp
          · exact ⟨heC, nCL, hC₀⟩
          have z := N₂ p hp
          refine ⟨hs₃.extBut _ _ ?_ z.1, z.2⟩
          rcases List.mem_cons.mp hp with rfl | hp
          · exact nDC
          · exact (off3 p hp).2.1
        refine wpC_mono (turn i t I oI C oC D ys news' _ h₃ _ hlt hJ hoC (by simp) F₃ N₃ off' ⟨nIC, nID, Ne.symm nDC⟩) (fun y s₄ h₄ => ?_) fun _ _ e => e
        refine cutG fun PC hPC => ?_
        obtain ⟨h₄, tk₄, news₄, rfl, F₄, N₄, off₄, _, J₄⟩ := h₄
        refine hPC ?_
        clear hPC PC
        have zI := (N₄ (I, oI) (.head _)).1
        have zC := (N₄ (C, oC) (.tail _ (.head _))).1
        have zD := (N₄ (D, lst ys) (.tail _ (.tail _ (.head _)))).1
        have off4 := off₄.mem
        refine append_at (hsz := by show ys.toArray.size ≤ sizeLine; rw [List.size_toArray, hyl]; exact Nat.le_trans hi hsz) zD fun h₅ hs₅ hD₅ => ?_
        refine ⟨n + 1 - (i + 1), by omega, ?_⟩
        rw [hJJ]
        refine ⟨h₅, tk₄, i + 1, ys ++ [y], _, news₄, rfl, hlt, rfl, by rw [List.length_append, List.length_singleton, hyl], ?_, F₄.change hs₅ nDL hD₀, (hoC.ns zC).sameBut hs₅ (Ne.symm nDC), fun p hp => ?_, off₄, J₄⟩
        · refine hs₅.extBut I _ nID ?_
          rw [zI, ← heI]; exact hst₄
        · rcases List.mem_cons.mp hp with rfl | hp
          · exact ⟨hD₅.trans (congrArg some (lst_snoc ys y)), nDL, hD₀⟩
          · have z := N₄ p (.tail _ (.tail _ (.tail _ hp)))
            exact ⟨hs₅.extBut _ _ (off4 p hp).2.2 z.1, z.2⟩
      · obtain rfl : i = n := Nat.le_antisymm hi (Nat.not_lt.mp hlt)
        refine W.done _ _ _ hit fun h₂ tk₂ hk₂ => ?_
        exact hRR _ _ h₂ tk₂ _ ys news' (LCg.fr_but F' hk₂ hIL hI₀) (LCg.news_but N' hk₂ fun p hp => by
          rcases List.mem_cons.mp hp with rfl | hp
          · exact Ne.symm nID
          · exact (off3 p hp).1) off'.one (hn'.at' fun o e => hk₂ _ o (by simpa using Ne.symm nIC) e) hC₀ hD₀ nCL nDL (Ne.symm nDC) (fun p hp => (off3 p hp).2.1) hJ
    · rw [hJJ]
      refine ⟨h₁, _, 0, [], _, news, rfl, Nat.zero_le _, rfl, rfl, by
          have e1 : a + ((0 : Nat) : Int) * 1 = a := by omega
          have e2 : (n : Int) - ((0 : Nat) : Int) = n := by omega
          rw [e1, e2]
          exact old _ _ hst, F.keeps old, hns₁, fun p hp => ?_, off₀, j0⟩
      rcases List.mem_cons.mp hp with rfl | hp
      · exact ⟨hacc, nDL, hD₀⟩
      · exact ⟨old _ _ (N p hp).1, (N p hp).2⟩
  have hst₁ : IsRangeIter h₁ I (a + ((0 : Nat) : Int) * 1) ((n : Int) - ((0 : Nat) : Int)) 1 := by
    have e1 : a + ((0 : Nat) : Int) * 1 = a := by omega
    have e2 : (n : Int) - ((0 : Nat) : Int) = n := by omega
    rw [e1, e2]; exact old _ _ hst
  exact codeC_start (loop _ rfl) (W.self 0 _ _ _ hst₁ (loop _ rfl))
/-- the source is a range, the element stands on a clean stack -/
noncomputable def SrcRC (prog : Program) (w : World) (A : Around) (h₀ : Heap) (L : Addr) (m : Str → Option Value) (env : Env) (elt : PySem.Expr) (x y : Str) (scope : Scope) (cl : List (Str × Addr)) (Q : Flow → Shared → Prop) (xv : Value) (s₁ : Shared) : Prop :=
  ∃ (r : Addr) (a b : Int) (t u v : Tok) (n : Nat) (news : List (Addr × Obj)) (J : Nat → List Value → List (Addr × Obj) → Prop), xv = .ref r ∧ A.handled = none ∧ Fr h₀ L s₁.heap m ∧ News h₀ L s₁.heap news ∧ IsRange s₁.heap r a b 1 t u v ∧ Builtin.Range.small a b 1 = true ∧ Builtin.Range.rangeSize a b 1 = ((n : Nat) : Int) ∧ n ≤ sizeLine ∧
    J 0 [] news ∧ (∀ g, TurnC prog w A h₀ L m env elt x scope cl { s₁ with heap := g } a n J) ∧
    ∀ D h tk ys news', Fr h₀ L h (fun z => if z = y then some (.ref D) else m z) → News h₀ L h ((D, lst ys) :: news') → Off1 D news' → J n ys news' → Q .next { s₁ with heap := h, toks := tk }
theorem SrcRC.intro {elt : PySem.Expr} {x y : Str} {scope : Scope} {cl : List (Str × Addr)} {Q : Flow → Shared → Prop} {s₁ : Shared} {r : Addr} {a b : Int} {t u v : Tok} {n : Nat} {news : List (Addr × Obj)} (J : Nat → List Value → List (Addr × Obj) → Prop) (hh : A.handled = none) (F : Fr h₀ L s₁.heap m) (N : News h₀ L s₁.heap news)
    (hr : IsRange s₁.heap r a b 1 t u v) (hs : Builtin.Range.small a b 1 = true) (hn : Builtin.Range.rangeSize a b 1 = ((n : Nat) : Int)) (hz : n ≤ sizeLine) (j0 : J 0 [] news) (turn : ∀ g, TurnC prog w A h₀ L m env elt x scope cl { s₁ with heap := g } a n J)
    (fin : ∀ D h tk ys news', Fr h₀ L h (fun z => if z = y then some (.ref D) else m z) → News h₀ L h ((D, lst ys) :: news') → Off1 D news' → J n ys news' → Q .next { s₁ with heap := h, toks := tk }) : SrcRC prog w A h₀ L m env elt x y scope cl Q (.ref r) s₁ :=
  ⟨r, a, b, t, u, v, n, news, J, rfl, hh, F, N, hr, hs, hn, hz, j0, turn, fin⟩
theorem wpC_Assign_range {elt iter : PySem.Expr} {x y : Str} {px py : Pos} {scope : Scope} {cl : List (Str × Addr)} {pos spos : Pos} {Q : Flow → Shared → Prop} {E : Value → Shared → Prop} (_F₀ : Fr h₀ L s.heap m) (hLe : env.locals = L)
    (hsw : swapsWith (.ListComp elt [⟨.Name x px, iter, [], 0⟩] scope pos) (some (.Name y py)) spos.line env = pure true)
    (hclos : closureFor scope env = pure cl) (hcell : ∀ z ∈ scope.names, z.2 ≠ .cell) (hkind : scope.kind = .function)
    (hnames : ∀ z ∈ scope.names, z.2 = .local → scope.names.lookup z.1 = some .local) (hx : scope.names.lookup x = some .local)
    (hy : env.kindOf y = some .local) (hp : (env.scope.kind == .class || (env.scope.kind == .module && env.locals != env.globals)) = false)
    (h : wpAny (model prog w) A (eval iter env) (SrcRC prog w A h₀ L m env elt x y scope cl Q) E s)
    (hs : ∀ x, foldedSetIterable iter env x = pure x := by intro _; rfl) :
    wpC (model prog w) A (exec (.Assign [.Name y py] (.ListComp elt [⟨.Name x px, iter, [], 0⟩] scope pos) spos) env) Q E s := by
  subst hLe
  rw [exec_Assign_Name_used _ _ _ _ hsw]
  refine wpC_bindA (wpAny_standAt (wpC_bind ?_))
  show wpC _ A (do let _ ← comprehension (.ListComp elt [⟨.Name x px, iter, [], 0⟩] scope pos) scope env _ (newList []) false (eval iter env) (some (assign (.Name y py) env))) _ _ s
  refine wpC_bind (wpC_mono (compC_used (u := assign (.Name y py) env) (Q := fun _ s' => Q .next s') rfl hs hclos hkind hnames
    (wpAny_mono h (fun xv s₁ h₁ => ?_) fun _ _ e => e)) (fun _ s' hq => wpC_pure (wpC_pure hq)) fun _ _ e => e)
  refine cutG fun PC hPC => ?_
  obtain ⟨r, a, b, t, u, v, n, news, J, rfl, hh, F, N, hr, hsm, hn, hsz, j0, turn, fin⟩ := h₁
  refine hPC ?_
  clear hPC PC
  refine wpAny_pyIter_range hr hsm ?_
  refine blockC hh hsz hcell hkind hx (by show IsRangeIter _ _ _ _ _; rw [← hn]; exact Heap.get?_push_size _ rfl)
    (F.keeps fun _ _ e => Heap.get?_push_of_some _ e) (N.grown fun _ _ e => Heap.get?_push_of_some _ e) (Nat.ne_of_lt F.ns.lt) (next_is_new F) (fun p hp => Nat.ne_of_lt (Heap.lt_size (N p hp).1)) j0 (turn _) ?_
  intro D C h' tk m' ys news' F' N' o1 hn hC₀ hD₀ hCL hDL hCD offC hJ
  refine ⟨rfl, ?_⟩
  refine wpAny_assign_Name (wpAny_storeName_local hy F'.ns (fun h₂ hn₂ hs₂ => ?_) hp)
  have hL₀ : h₀.get? env.locals = none := Heap.get?_none_of_le F'.above
  have F₂ : Fr h₀ env.locals h₂ (fun z => if z = y then some (.ref D) else m z) := ⟨hn₂, fun b o e => hs₂.extBut b o (fun q => by rw [q, hL₀] at e; cases e) (F'.keep b o e), F'.above⟩
  refine ⟨m', hn.sameBut hs₂ hCL, fun h'' hs'' => fin D h'' _ ys news' (F₂.change hs'' hCL hC₀) (fun p hp => ?_) o1 hJ⟩
  have z : h₂.get? p.1 = some p.2 := hs₂.extBut _ _ (N' p hp).2.1 (N' p hp).1
  refine ⟨hs''.extBut _ _ ?_ z, (N' p hp).2⟩
  rcases List.mem_cons.mp hp with rfl | hp
  · exact Ne.symm hCD
  · exact offC p hp
end
end Mine
end

section
set_option maxRecDepth 100000
open PySem PySem.W PyProof.Rows PySem.Calls PySem.Spec
namespace Mine
section
variable {M : Model} {A : Around} {E : Value → Shared → Prop} {s : Shared} {env : Env}
theorem wpC_callWith5 {f : Value} {pos : Pos} {e1 e2 e3 e4 e5 : PySem.Expr} {Q : Value → Shared → Prop} {P : Heap → Prop}
    (hk : ∀ h, P h → ∃ k, (k = Keeper.frame ∨ k = Keeper.machine ∨ k = Keeper.boundFrame) ∧ Looks M h (keeperOf f) k)
    (h : wpAny M A (eval e1 env) (fun v1 s₁ => wpAny M A (eval e2 env) (fun v2 s₂ => wpAny M A (eval e3 env) (fun v3 s₃ => wpAny M A (eval e4 env) (fun v4 s₄ => wpAny M A (eval e5 env) (fun v5 s₅ => P s₅.heap ∧ wpC M A (call f [v1, v2, v3, v4, v5]) Q E s₅) E s₄) E s₃) E s₂) E s₁) E s)
    (he : starEach [e1, e2, e3, e4, e5] env = [(false, eval e1 env), (false, eval e2 env), (false, eval e3 env), (false, eval e4 env), (false, eval e5 env)] := by rfl) :
    wpC M A (callWith pos f [] (backTo pos (starEach [e1, e2, e3, e4, e5] env)) []) Q E s := by
  rw [he]
  refine wpC_callWith rfl hk (wpC_spliced_cons (wpC_of (wpAny_mono h (fun v1 s₁ h₁ => ?_) fun _ _ x => x)))
  refine wpC_spliced_cons (wpC_of (wpAny_mono h₁ (fun v2 s₂ h₂ => ?_) fun _ _ x => x))
  refine wpC_spliced_cons (wpC_of (wpAny_mono h₂ (fun v3 s₃ h₃ => ?_) fun _ _ x => x))
  refine wpC_spliced_cons (wpC_of (wpAny_mono h₃ (fun v4 s₄ h₄ => ?_) fun _ _ x => x))
  exact wpC_spliced_cons (wpC_of (wpAny_mono h₄ (fun v5 s₅ h₅ => wpC_spliced_nil h₅) fun _ _ x => x))
end
theorem range_from1 (n : Nat) : Builtin.Range.rangeSize 1 ((n : Int) + 1) 1 = ((n : Nat) : Int) := by
  unfold Builtin.Range.rangeSize
  by_cases h : n = 0
  · subst h; rfl
  · simp; omega


set_option maxHeartbeats 8000000 in
theorem st20 (w : World) (p : Program) (loose : List Str) (mean : ExcName → Option Value) (mg mb : Str → Option Value) (dp u : Nat) (fr : Option (List Env)) (g : Heap) (s : Shared) (L' fa : Addr) (cd : Value) (Q : Flow → Shared → Prop) (E : Value → Shared → Prop)
    (X : (Pre.hc.heap_1 w.params).In g) (T : Top p loose mean mg mb g) (hd : dp + 300 < recursionLimit) (hu : u + 3000 < cLine) (hE : PassesOwn (model PySem.Challenge.rw_zo0028_01.row.prog w) ((AR dp u fr (some [])).deeper (lenv L' fa cd)) (lenv L' fa cd) E) (m : Str → Option Value) (F : Fr g L' s.heap m) (o1 o2 o3 o4 o5 o6 o7 : Obj) (b65 : @LT.lt Nat _ 65 L') (b58 : @LT.lt Nat _ 58 L')
    (dn : Nat) (num : Int) (tg tnu tt tsp tr : Tok) (dg2 : dn ≤ 3) (tl sp r : List Nat) (nd : Addr) (on : Obj) (kvs : List (Str × Value))
    (d3 : o3.data = .cell (some (.str (mkS sp) tsp))) (d4 : o4.data = .cell (some (.ref nd))) (d5 : o5.data = .cell (some (.str (mkS tl) tt))) (d6 : o6.data = .cell (some (.str (mkS r) tr))) (hdn : on.IsDictOf (PySem.strKind PySem.Challenge.rw_zo0028_01.row.prog w) kvs) (hkv : ∀ c ∈ sp, ∃ t, valueAt kvs (mkS [c]) = some (.str (mkS (nmOf c)) t)) (hsp : sp.length ≤ 6) (hnd : (nd == sysModules) = false) (htl : tl.length ≤ 3) (hr : r.length ≤ 3)
    (ps65 ps58 : Array Value) (ct : List (Addr × Obj)) (ret : ∀ m' h' tk' lu us, IntsAre us ((List.range dn).map fun k => cnt r ((undP sp nmOf (k + 1) tl).filter fun p => decide (p.1 ∈ r))) →  Knows m' [(Str.ofString "degree", (Value.int dn tg : Value)), (Str.ofString "number", (Value.int num tnu : Value)), (Str.ofString "undone", (Value.ref lu : Value))] → Fr g L' h' m' → News g L' h' ((lu, LCg.lst us) :: (nd, on) :: (L' + 1 + 1 + 1 + 1 + 1 + 1 + 1, o7) :: (L' + 1 + 1 + 1 + 1 + 1 + 1, o6) :: (L' + 1 + 1 + 1 + 1 + 1, o5) :: (L' + 1 + 1 + 1 + 1, o4) :: (L' + 1 + 1 + 1, o3) :: (L' + 1 + 1, o2) :: (L' + 1, o1) :: (65, tabObj ps65) :: (58, tabObj ps58) :: ct) → Q .next { s with heap := h', toks := tk' }) (kn : Knows m [(Str.ofString "degree", (Value.int dn tg : Value)), (Str.ofString "number", (Value.int num tnu : Value))]) (N : News g L' s.heap ((nd, on) :: (L' + 1 + 1 + 1 + 1 + 1 + 1 + 1, o7) :: (L' + 1 + 1 + 1 + 1 + 1 + 1, o6) :: (L' + 1 + 1 + 1 + 1 + 1, o5) :: (L' + 1 + 1 + 1 + 1, o4) :: (L' + 1 + 1 + 1, o3) :: (L' + 1 + 1, o2) :: (L' + 1, o1) :: (65, tabObj ps65) :: (58, tabObj ps58) :: ct)) :
    wpC (model PySem.Challenge.rw_zo0028_01.row.prog w) ((AR dp u fr (some [])).deeper (lenv L' fa cd)) (exec (lawS 20) (lenv L' fa cd)) Q E s := by
  w_top off
  have _ : PySem.Challenge.rw_zo0028_01.row.prog = PySem.Challenge.rw_zo0028_01.row.prog → (Pre.hc.heap_1 w.params).In g := by (k_fill; exact fun _ => X)
  replace F := knows_fr F kn
  dsimp only [knowF] at F
  clear kn
  dsimp only [lenv, lawS, stm, lawD, recOf]

  k_dflt (refine' wpC_Assign_range F ?q1 ?q2 ?q3 ?q4 ?q5 ?q6 ?q7 ?q8 ?q9 ?_; (case q1 => rfl); (case q2 => with_unfolding_all rfl); (case q3 => with_unfolding_all rfl); (case q4 => decide); (case q5 => rfl); (case q6 => decide); (case q7 => rfl); (case q8 => rfl); (case q9 => rfl))
  (repeat' (first | (k_unfold; (try dsimp only)) | (k_end; wrow_close) | ((with_reducible show SrcRC _ _ _ _ _ _ _ _ _ _ _ _ _ _ _); refine Stop.elim ?_) | walk1 | (dsimp only; (first | ((with_reducible show SrcRC _ _ _ _ _ _ _ _ _ _ _ _ _ _ _); refine Stop.elim ?_) | walk1)) | (leave1; walk_say "STEP leave1"; try dsimp only) | fail "no step"))
  refine Stop.intro ?_
  (rename IsRange _ _ _ _ _ _ _ _ => hR)
  (rename Fr _ _ _ _ => fF)
  (rename News _ _ _ _ => nN)
  obtain ⟨pre, hpre, nN⟩ : ∃ pre : List (Addr × Obj), pre = _ ∧ News _ _ _ pre := ⟨_, rfl, nN⟩
  refine SrcRC.intro (n := dn) (fun i ys nw => nw = pre ∧ IntsAre ys ((List.range i).map fun k => cnt r ((undP sp nmOf (k + 1) tl).filter fun p => decide (p.1 ∈ r)))) rfl fF nN hR (small_one (by omega) (by omega) (by omega) (by omega)) (range_from1 dn) (by show dn ≤ sizeLine; exact Nat.le_trans dg2 (by decide)) ⟨rfl, .nil⟩ ?_ ?_
  · clear fF nN
    intro g₂ i t I oI C oC D ys nw m₂ h₂ tk₂ hi ⟨e₃, hJ⟩ hoC hx hF hN off hne
    subst e₃
    subst hpre
    with_unfolding_all refine wpC_Call ?_
    k_steps
    with_unfolding_all refine wpC_callWith5 (P := FnAt 120) keeps_F ?_ (by rfl)
    k_steps
    next => (refine' fnAt_K X hF ?kk; case kk => k_is)
    have hk1 : 1 ≤ 1 + (i : Int) := by omega
    have hk2 : 1 + (i : Int) ≤ 3 := by omega
    have ek : (1 + (i : Int)).toNat = i + 1 := by omega
    refine' use_purC (con_und w tl sp r nmOf nd (1 + (i : Int)) _ _ _ _ htl hsp hr hk1 hk2 nmOf_length) hF hN X T ?p1 ?p2 ?p3 ?_
    case p1 => k_room
    case p2 => k_room
    case p3 => exact ⟨on, kvs, (hN (nd, on) (.tail _ (.tail _ (.tail _ (.head _))))).1, hdn, hnd, hkv⟩
    intro r₁ h₇ tk₇ F₇ N₇ _ ⟨t₇, e₇⟩
    subst e₇
    rw [ek]
    clear hF hN
    refine LCg.CompEnd.intro F₇ N₇ _ (fun _ hp => hp) off trivial ⟨rfl, ?_⟩
    rw [List.range_succ, List.map_append]
    exact hJ.append (.cons _ _ .nil)
  · clear fF nN
    intro D h₃ tk₃ ys nw F₃ N₃ off₃ ⟨e₃, hJ⟩
    subst e₃
    subst hpre
    exact ret _ _ _ _ _ hJ ⟨rfl, rfl, rfl, trivial⟩ F₃ N₃

end Mine
end

section
set_option maxRecDepth 100000
open PySem PySem.W PyProof.Rows PySem.Calls PySem.Spec
namespace Mine
section
variable {prog : Program} {w : World} {A : Around} {E : Value → Shared → Prop} {s : Shared} {h₀ : Heap} {L a b : Addr} {news : List (Addr × Obj)} {ys : List Value} {n m : Nat} {Q : Value → Shared → Prop}
theorem eq_empty (N : News h₀ L s.heap news) (ha : (a, listOf ys.toArray n) ∈ news) (hb : (b, listOf #[] m) ∈ news) (hu : A.units < cLine) (h : Q (.bool (decide (ys = []))) s) :
    wpAny (model prog w) A (compareOp .Eq (.ref a) (.ref b)) Q E s := by
  have la : s.heap.IsList a ys.toArray := PySem.IsL.isList (N _ ha).1
  have lb : s.heap.IsList b #[] := PySem.IsL.isList (N _ hb).1
  cases ys with
  | nil => exact PySem.SeqAt.eq_listAt (e := fun _ => true) la lb rfl hu (fun j h1 => by simp at h1) (by simpa using h)
  | cons v r => exact PySem.SeqAt.eq_list_lengthsAt la lb (by simp) hu (by simpa using h)
end
theorem occ_true {b : Nat} {sp : List Nat} (h : (Builtin.Str.occurrences (mkS sp) (mkS [b]) 0 (mkS sp).length 1).isEmpty = true) : b ∉ sp := by
  rw [found_mk] at h; simpa using h
theorem occ_false {b : Nat} {sp : List Nat} (h : (Builtin.Str.occurrences (mkS sp) (mkS [b]) 0 (mkS sp).length 1).isEmpty = false) : b ∈ sp := by
  rw [found_mk] at h; simpa using h
theorem amp_beq (b : Nat) : (mkS [b] != Str.ofString "&") = !decide (b = 38) := by
  have e : (Str.ofString "&" : Str) = mkS [38] := rfl
  rw [e]
  show (!(mkS [b] == mkS [38])) = _
  rw [mkS_beq]; simp


set_option maxHeartbeats 8000000 in
theorem st21 (w : World) (p : Program) (loose : List Str) (mean : ExcName → Option Value) (mg mb : Str → Option Value) (dp u : Nat) (fr : Option (List Env)) (g : Heap) (s : Shared) (L' fa : Addr) (cd : Value) (Q : Flow → Shared → Prop) (E : Value → Shared → Prop)
    (X : (Pre.hc.heap_1 w.params).In g) (T : Top p loose mean mg mb g) (hd : dp + 300 < recursionLimit) (hu : u + 3000 < cLine) (hE : PassesOwn (model PySem.Challenge.rw_zo0028_01.row.prog w) ((AR dp u fr (some [])).deeper (lenv L' fa cd)) (lenv L' fa cd) E) (m : Str → Option Value) (F : Fr g L' s.heap m) (o1 o2 o3 o4 o5 o6 o7 : Obj) (b65 : @LT.lt Nat _ 65 L') (b58 : @LT.lt Nat _ 58 L')
    (dn : Nat) (num : Int) (tg tnu tt tsp tr : Tok) (dg1 : 2 ≤ dn) (dg2 : dn ≤ 3) (tl sp r : List Nat) (lu nd : Addr) (on : Obj) (us : List Value) (ns : List Int) (hus : IntsAre us ns) (hul : ns.length = dn)
    (d3 : o3.data = .cell (some (.str (mkS sp) tsp))) (d5 : o5.data = .cell (some (.str (mkS tl) tt))) (d6 : o6.data = .cell (some (.str (mkS r) tr))) (htl : tl.length ≤ 3) (hr : r.length ≤ 3) (hsp : sp.length ≤ 6) (hund : tl.filter (fun c => decide (c ∈ sp ∧ c ≠ 38)) = [] → ns.getD (Int.toNat 0) 0 = ways tl r)
    (ps65 ps58 : Array Value) (ct : List (Addr × Obj)) (ret : ∀ m' h' tk' (_ : Unit),  Knows m' [(Str.ofString "degree", (Value.int dn tg : Value)), (Str.ofString "number", (Value.int num tnu : Value)), (Str.ofString "undone", (Value.ref lu : Value))] → Fr g L' h' m' → News g L' h' ((lu, LCg.lst us) :: (nd, on) :: (L' + 1 + 1 + 1 + 1 + 1 + 1 + 1, o7) :: (L' + 1 + 1 + 1 + 1 + 1 + 1, o6) :: (L' + 1 + 1 + 1 + 1 + 1, o5) :: (L' + 1 + 1 + 1 + 1, o4) :: (L' + 1 + 1 + 1, o3) :: (L' + 1 + 1, o2) :: (L' + 1, o1) :: (65, tabObj ps65) :: (58, tabObj ps58) :: ct) → Q .next { s with heap := h', toks := tk' }) (kn : Knows m [(Str.ofString "degree", (Value.int dn tg : Value)), (Str.ofString "number", (Value.int num tnu : Value)), (Str.ofString "undone", (Value.ref lu : Value))]) (N : News g L' s.heap ((lu, LCg.lst us) :: (nd, on) :: (L' + 1 + 1 + 1 + 1 + 1 + 1 + 1, o7) :: (L' + 1 + 1 + 1 + 1 + 1 + 1, o6) :: (L' + 1 + 1 + 1 + 1 + 1, o5) :: (L' + 1 + 1 + 1 + 1, o4) :: (L' + 1 + 1 + 1, o3) :: (L' + 1 + 1, o2) :: (L' + 1, o1) :: (65, tabObj ps65) :: (58, tabObj ps58) :: ct)) :
    wpAny (model PySem.Challenge.rw_zo0028_01.row.prog w) ((AR dp u fr (some [])).deeper (lenv L' fa cd)) (exec (lawS 21) (lenv L' fa cd)) Q E s := by
  w_top off
  have _ : PySem.Challenge.rw_zo0028_01.row.prog = PySem.Challenge.rw_zo0028_01.row.prog → (Pre.hc.heap_1 w.params).In g := by (k_fill; exact fun _ => X)
  replace F := knows_fr F kn
  dsimp only [knowF] at F
  clear kn
  dsimp only [lenv, lawS, stm, lawD, recOf]

  have hu3 : u + 3 < cLine := by omega
  (repeat' (first | (k_unfold; (try dsimp only)) | (k_end; wrow_close) | (k_here; (with_reducible show wpAny _ _ (eval (Expr.ListComp _ [⟨_, _, [_], _⟩] _ _) _) _ _ _); k_dflt (refine ListComp_ST (F₀ := by k_asm) (by with_unfolding_all rfl) (by decide) (by rfl) (by decide) (by rfl) ?_)) | ((with_reducible show SrcST _ _ _ _ _ _ _ _ _ _ _ _ _ _ _); refine Stop.elim ?_) | walk1 | (dsimp only; (first | (k_here; (with_reducible show wpAny _ _ (eval (Expr.ListComp _ [⟨_, _, [_], _⟩] _ _) _) _ _ _); k_dflt (refine ListComp_ST (F₀ := by k_asm) (by with_unfolding_all rfl) (by decide) (by rfl) (by decide) (by rfl) ?_)) | ((with_reducible show SrcST _ _ _ _ _ _ _ _ _ _ _ _ _ _ _); refine Stop.elim ?_) | walk1)) | (leave1; walk_say "STEP leave1"; try dsimp only) | fail "no step"))
  refine Stop.intro ?_
  (rename Fr _ _ _ _ => fF)
  (rename News _ _ _ _ => nN)
  obtain ⟨pre, hpre, nN⟩ : ∃ pre : List (Addr × Obj), pre = _ ∧ News _ _ _ pre := ⟨_, rfl, nN⟩
  refine SrcST.intro rfl fF nN (by show tl.length ≤ sizeLine; exact Nat.le_trans htl (by decide)) ?_
  intro g₂
  refine comp_indT (fun i ys nw => nw = pre ∧ StrsAre ys (((tl.take i).filter fun c => decide (c ∈ sp ∧ c ≠ 38)).map fun c => mkS [c])) ?_ ?_ ⟨rfl, .nil⟩
  · clear fF nN
    intro i₂ v₂ I₂ oI₂ C₂ oC₂ D₂ ys₂ nw₂ m₃ h₆ tk₆ E₂ hi₂ ⟨e₄, hP₂⟩ hv₂ hoC₂ hx₂ hF₂ hN₂ off₂ hne3
    subst e₄
    obtain ⟨b, ub, hb, rfl⟩ := hv₂
    rw [hpre] at hN₂
    have hb' : tl[i₂]? = some b := by
      have : tl.toArray[i₂]? = some b := hb
      simpa using this
    have htk : ((tl.take (i₂ + 1)).filter fun c => decide (c ∈ sp ∧ c ≠ 38)) = ((tl.take i₂).filter fun c => decide (c ∈ sp ∧ c ≠ 38)) ++ (if b ∈ sp ∧ b ≠ 38 then [b] else []) := by
      rw [List.take_add_one, hb', List.filter_append]
      by_cases hc : b ∈ sp ∧ b ≠ 38 <;> simp [hc]
    k_steps
    next =>
      rename_i h9
      have hc := occ_true h9
      refine LCg.CompEnd.intro hF₂ hN₂ nw₂ (fun p hp => by rw [hpre] at hp; exact hp) off₂ trivial ⟨rfl, ?_⟩
      rw [htk, if_neg fun h => hc h.1, List.append_nil]
      exact hP₂
    next =>
      rename_i h8 h9
      have hc := occ_false h8
      have hd := h9.symm.trans (amp_beq b)
      have hd2 : b ≠ 38 := fun e => by rw [decide_eq_true e] at hd; cases hd
      refine LCg.CompEnd.intro hF₂ hN₂ nw₂ (fun p hp => by rw [hpre] at hp; exact hp) off₂ trivial ⟨rfl, ?_⟩
      rw [htk, if_pos ⟨hc, hd2⟩, List.map_append]
      exact strs_append hP₂ (.cons _ _ .nil)
    next =>
      rename_i h8 h9
      have hd := h9.symm.trans (amp_beq b)
      have hd2 : b = 38 := by
        by_cases e : b = 38
        · exact e
        · rw [decide_eq_false e] at hd; cases hd
      refine LCg.CompEnd.intro hF₂ hN₂ nw₂ (fun p hp => by rw [hpre] at hp; exact hp) off₂ trivial ⟨rfl, ?_⟩
      rw [htk, if_neg fun h => h.2 hd2, List.append_nil]
      exact hP₂
  · clear fF nN
    intro ys nw ⟨e₃, hP⟩
    subst e₃
    have efull : tl.take (mkS tl).cps.size = tl := List.take_of_length_le (Nat.le_refl _)
    rw [efull] at hP
    intro D₃ h₃ tk₃ F₃ N₃ off₃
    rw [hpre] at N₃
    (repeat' (first | (k_unfold; (try dsimp only)) | (k_end; wrow_close) | (k_here; (with_reducible show wpAny _ _ (compareOp CmpOp.Eq (Value.ref _) (Value.ref _)) _ _ _); (refine' eq_empty ?nN ?nm ?nk ?nu ?_; (case nN => k_asm); (case nm => k_mem); (case nk => k_mem); (case nu => assumption))) | ((with_reducible show wpAny _ _ (call (Value.ref _) _ _) _ _ _); k_here; refine Stop.elim ?_) | walk1 | (dsimp only; (first | (k_here; (with_reducible show wpAny _ _ (compareOp CmpOp.Eq (Value.ref _) (Value.ref _)) _ _ _); (refine' eq_empty ?nN ?nm ?nk ?nu ?_; (case nN => k_asm); (case nm => k_mem); (case nk => k_mem); (case nu => assumption))) | ((with_reducible show wpAny _ _ (call (Value.ref _) _ _) _ _ _); k_here; refine Stop.elim ?_) | walk1)) | (leave1; walk_say "STEP leave1"; try dsimp only) | fail "no step"))
    next =>
      have hy0 : ys = [] := by assumption
      have hf0 : tl.filter (fun c => decide (c ∈ sp ∧ c ≠ 38)) = [] := by
        rw [hy0] at hP
        have := hP.length
        rw [List.length_map] at this
        exact List.eq_nil_of_length_eq_zero this.symm
      have hun := hund hf0
      refine Stop.intro ?_
      (rename Fr _ _ _ _ => fF)
      (rename News _ _ _ _ => nN)
      refine' use_int (con_ways w tl r _ _ (by omega) (by omega)) fF nN X T ?p1 ?p2 ?p3 ?_
      case p1 => k_room
      case p2 => k_room
      case p3 => trivial
      intro h₇ tk₇ t₇ F₇ N₇ _
      clear fF nN
      k_steps
      all_goals try (exfalso; rename_i h9; first | exact h9 hun | exact absurd hun h9)
      (try dsimp only)
      (rename Fr _ _ _ _ => fF)
      (rename News _ _ _ _ => nN)
      exact ret _ _ _ () ⟨rfl, rfl, rfl, trivial⟩ fF (news_subl nN fun p hp => .tail _ (.tail _ hp))
    next =>
      (try dsimp only)
      (rename Fr _ _ _ _ => fF)
      (rename News _ _ _ _ => nN)
      exact ret _ _ _ () ⟨rfl, rfl, rfl, trivial⟩ fF (news_subl nN fun p hp => .tail _ (.tail _ hp))

end Mine
end

section
set_option maxRecDepth 100000
open PySem PySem.W PyProof.Rows PySem.Calls PySem.Spec
namespace Mine


set_option maxHeartbeats 8000000 in
theorem st22 (w : World) (p : Program) (loose : List Str) (mean : ExcName → Option Value) (mg mb : Str → Option Value) (dp u : Nat) (fr : Option (List Env)) (g : Heap) (s : Shared) (L' fa : Addr) (cd : Value) (Q : Flow → Shared → Prop) (E : Value → Shared → Prop)
    (X : (Pre.hc.heap_1 w.params).In g) (T : Top p loose mean mg mb g) (hd : dp + 300 < recursionLimit) (hu : u + 3000 < cLine) (hE : PassesOwn (model PySem.Challenge.rw_zo0028_01.row.prog w) ((AR dp u fr (some [])).deeper (lenv L' fa cd)) (lenv L' fa cd) E) (m : Str → Option Value) (F : Fr g L' s.heap m) (o1 o2 o3 o4 o5 o6 o7 : Obj) (b65 : @LT.lt Nat _ 65 L') (b58 : @LT.lt Nat _ 58 L')
    (dn z : Nat) (num mir : Int) (tg tnu tz : Tok) (dg1 : 2 ≤ dn) (dg2 : dn ≤ 3) (z1 : 5 ≤ z) (z2 : z ≤ 7) (lu nd : Addr) (on : Obj) (us : List Value) (ns : List Int) (hus : IntsAre us ns)
    (d7 : o7.data = .cell (some (.int z tz))) (hmir : (-1) ^ dn * num = mir) (bnum : Builtin.Int.intBits num ≤ 400) (bmir : Builtin.Int.intBits mir ≤ 500) (hm0 : 0 ≤ mir + (256 : Int) ^ z / 2 * ((256 : Int) ^ z - 1) ^ dn) (hbt : btpv mir z dn dn = ns)
    (ps65 ps58 : Array Value) (ct : List (Addr × Obj)) (B : Tb g ct ps65 ps58) (f65 : TabF g ct ps65 p65) (f58 : TabF g ct ps58 p58)
    (ret : ∀ h' tk', (∀ b o, g.get? b = some o → h'.get? b = some o) → h'.get? 65 = some (tabObj ps65) → h'.get? 58 = some (tabObj ps58) → Q (.ret (.bool true)) { s with heap := h', toks := tk' }) (kn : Knows m [(Str.ofString "degree", (Value.int dn tg : Value)), (Str.ofString "number", (Value.int num tnu : Value)), (Str.ofString "undone", (Value.ref lu : Value))]) (N : News g L' s.heap ((lu, LCg.lst us) :: (nd, on) :: (L' + 1 + 1 + 1 + 1 + 1 + 1 + 1, o7) :: (L' + 1 + 1 + 1 + 1 + 1 + 1, o6) :: (L' + 1 + 1 + 1 + 1 + 1, o5) :: (L' + 1 + 1 + 1 + 1, o4) :: (L' + 1 + 1 + 1, o3) :: (L' + 1 + 1, o2) :: (L' + 1, o1) :: (65, tabObj ps65) :: (58, tabObj ps58) :: ct)) :
    wpAny (model PySem.Challenge.rw_zo0028_01.row.prog w) ((AR dp u fr (some [])).deeper (lenv L' fa cd)) (exec (lawS 22) (lenv L' fa cd)) Q E s := by
  w_top off
  have _ : PySem.Challenge.rw_zo0028_01.row.prog = PySem.Challenge.rw_zo0028_01.row.prog → (Pre.hc.heap_1 w.params).In g := by (k_fill; exact fun _ => X)
  replace F := knows_fr F kn
  dsimp only [knowF] at F
  clear kn
  dsimp only [lenv, lawS, stm, lawD, recOf]

  have hu3 : u + 3 + 64 < cLine := by omega
  have zdg : (0 : Int) ≤ dn := by omega
  obtain ⟨sg, hsg⟩ : ∃ sg : Int, (-1 : Int) ^ (dn : Int).toNat = sg := ⟨_, rfl⟩
  have esg : sg = (-1) ^ dn := hsg.symm
  have r1 := pow_room (a := -1) (n := (dn : Int)) (m := 2) (k := 3) (intBits_le_iff.mpr (by decide)) zdg (by omega) (by decide)
  have bsg : Builtin.Int.intBits sg ≤ 10000 := by
    have : dn = 2 ∨ dn = 3 := by omega
    rw [esg]
    refine Nat.le_trans (m := 2) (intBits_le_iff.mpr ?_) (by decide)
    rcases this with rfl | rfl <;> decide
  have bnum2 : Builtin.Int.intBits num ≤ 10000 := Nat.le_trans bnum (by decide)
  have hmul : sg * num = mir := by rw [esg]; exact hmir
  (repeat' (first | (k_unfold; (try dsimp only)) | (k_end; wrow_close) | ((with_reducible show wpAny _ _ (binaryOp Operator.Mult (Value.int _ _) (Value.int _ _)) _ _ _); k_here; (with_reducible refine mul_named (by assumption) (by assumption) (by assumption) ?_)) | ((with_reducible show wpAny _ _ (binaryOp Operator.Pow (Value.int _ _) (Value.int _ _)) _ _ _); k_here; (with_reducible refine pow_named (by assumption) (by assumption) (by assumption) ?_)) | ((with_reducible show wpAny _ _ (call (Value.ref _) _ _) _ _ _); k_here; refine Stop.elim ?_) | walk1 | (dsimp only; (first | ((with_reducible show wpAny _ _ (binaryOp Operator.Mult (Value.int _ _) (Value.int _ _)) _ _ _); k_here; (with_reducible refine mul_named (by assumption) (by assumption) (by assumption) ?_)) | ((with_reducible show wpAny _ _ (binaryOp Operator.Pow (Value.int _ _) (Value.int _ _)) _ _ _); k_here; (with_reducible refine pow_named (by assumption) (by assumption) (by assumption) ?_)) | ((with_reducible show wpAny _ _ (call (Value.ref _) _ _) _ _ _); k_here; refine Stop.elim ?_) | walk1)) | (leave1; walk_say "STEP leave1"; try dsimp only) | fail "no step"))
  refine Stop.intro ?_
  (rename Fr _ _ _ _ => fF)
  (rename News _ _ _ _ => nN)
  refine' use_G [(lu, LCg.lst us), (nd, on), (L' + 1 + 1 + 1 + 1 + 1 + 1 + 1, o7), (L' + 1 + 1 + 1 + 1 + 1 + 1, o6), (L' + 1 + 1 + 1 + 1 + 1, o5), (L' + 1 + 1 + 1 + 1, o4), (L' + 1 + 1 + 1, o3), (L' + 1 + 1, o2), (L' + 1, o1)] (con_btp w mir z dn dn _ _ _ _ z1 z2 dg1 dg2 dg1 (by omega) bmir hm0) fF nN X T B f65 f58 ?p1 ?p2 ?p3 ?_
  case p1 => k_room
  case p2 => k_room
  case p3 => trivial
  intro r₁ h₁ tk₁ F₁ N₁ ⟨D, ys, c, e₁, hfr, hD, hys⟩
  subst e₁
  rw [hbt] at hys
  replace N₁ := news_add fF N₁ hfr hD
  clear fF nN
  simp only [List.cons_append, List.nil_append] at N₁
  (repeat' (first | (k_unfold; (try dsimp only)) | (k_end; wrow_close) | (k_here; (with_reducible show wpAny _ _ (compareOp CmpOp.Eq (Value.ref _) (Value.ref _)) _ _ _); (refine' eq_ints_same ?nN ?nm ?nk ?ni ?nj ?nu ?_; (case nN => k_asm); (case nm => k_mem); (case nk => k_mem); (case ni => assumption); (case nj => assumption); (case nu => assumption))) | walk1 | (dsimp only; (first | (k_here; (with_reducible show wpAny _ _ (compareOp CmpOp.Eq (Value.ref _) (Value.ref _)) _ _ _); (refine' eq_ints_same ?nN ?nm ?nk ?ni ?nj ?nu ?_; (case nN => k_asm); (case nm => k_mem); (case nk => k_mem); (case ni => assumption); (case nj => assumption); (case nu => assumption))) | walk1)) | (leave1; walk_say "STEP leave1"; try dsimp only) | fail "no step"))
  (try dsimp only)
  (rename Fr _ _ _ _ => fF)
  (rename News _ _ _ _ => nN)
  exact ret _ _ fF.keep (nN (65, tabObj ps65) (by simp)).1 (nN (58, tabObj ps58) (by simp)).1

end Mine
end

section
set_option maxRecDepth 100000
namespace Mine
/-! differences -/
noncomputable def dlt (f : Int → Int) : Int → Int := fun n => f (n + 1) - f n
/-- the k-th difference is nought -/
noncomputable def Dg : Nat → (Int → Int) → Prop
  | 0, f => ∀ n, f n = 0
  | k + 1, f => Dg k (dlt f)
theorem Dg.congr : ∀ {k : Nat} {f g : Int → Int}, (∀ n, f n = g n) → Dg k f → Dg k g := by
  intro k f g h hf
  have : f = g := funext h
  exact this ▸ hf
theorem Dg.up {k : Nat} {f g : Int → Int} (h : ∀ n, g n = f (n + 1) - f n) (hg : Dg k g) : Dg (k + 1) f := by
  have : g = dlt f := funext h
  show Dg k (dlt f)
  exact this ▸ hg
theorem dg_zero : ∀ k, Dg k (fun _ => 0)
  | 0 => fun _ => rfl
  | k + 1 => Dg.up (g := fun _ => 0) (fun _ => rfl) (dg_zero k)
theorem Dg.succ : ∀ {k : Nat} {f : Int → Int}, Dg k f → Dg (k + 1) f
  | 0, f, h => fun n => by show f (n + 1) - f n = 0; rw [h, h]; rfl
  | k + 1, f, h => Dg.succ (k := k) (f := dlt f) h
theorem Dg.mono {k l : Nat} {f : Int → Int} (h : Dg k f) (hl : k ≤ l) : Dg l f := by
  induction hl with
  | refl => exact h
  | step _ ih => exact ih.succ
theorem Dg.add : ∀ {k : Nat} {f g : Int → Int}, Dg k f → Dg k g → Dg k (fun n => f n + g n)
  | 0, f, g, hf, hg => fun n => by show f n + g n = 0; rw [hf, hg]; rfl
  | k + 1, f, g, hf, hg => Dg.up (fun n => by simp only [dlt]; omega) (Dg.add (k := k) hf hg)
theorem Dg.neg : ∀ {k : Nat} {f : Int → Int}, Dg k f → Dg k (fun n => -f n)
  | 0, f, hf => fun n => by show -f n = 0; rw [hf]; rfl
  | k + 1, f, hf => Dg.up (fun n => by simp only [dlt]; omega) (Dg.neg (k := k) hf)
theorem Dg.shift : ∀ {k : Nat} {f : Int → Int}, Dg k f → Dg k (fun n => f (n + 1))
  | 0, f, hf => fun n => hf (n + 1)
  | k + 1, f, hf => Dg.up (fun n => by simp only [dlt]) (Dg.shift (k := k) (f := dlt f) hf)
theorem Dg.dlt_of {k : Nat} {f : Int → Int} (h : Dg k f) : Dg (k - 1) (dlt f) := by
  cases k with
  | zero => exact Dg.congr (f := fun _ => 0) (fun n => by simp only [dlt]; rw [h, h]; rfl) (dg_zero _)
  | succ k => exact h
theorem dg_const (c : Int) (k : Nat) : Dg (k + 1) (fun _ => c) := Dg.up (fun n => by omega) (dg_zero k)

noncomputable abbrev Vec := Nat → Int
/-- entry j has degree below j + 1 - s -/
noncomputable def Gr (s : Nat) (v : Int → Vec) : Prop := ∀ j, Dg (j + 1 - s) (fun n => v n j)
/-- a step: linear, its work on entry j told by the entries ahead -/
structure Ok (T : Vec → Vec) : Prop where
  sub : ∀ a b : Vec, T (fun j => a j - b j) = fun j => T a j - T b j
  gr : ∀ s v, Gr s v → ∀ j, Dg (j - s) (fun n => T (v n) j - v n j)
theorem Ok.keep {T : Vec → Vec} (o : Ok T) {s : Nat} {v : Int → Vec} (h : Gr s v) : Gr s (fun n => T (v n)) := fun j =>
  (((o.gr s v h j).mono (by omega)).add (h j)).congr fun n => by (try dsimp only); omega
theorem ok_id : Ok (fun v => v) := ⟨fun _ _ => rfl, fun s v _ j => (dg_zero _).congr fun n => by (try dsimp only); omega⟩
theorem Ok.comp {T U : Vec → Vec} (o : Ok T) (u : Ok U) : Ok (fun v => T (U v)) := ⟨fun a b => by rw [u.sub, o.sub], fun s v h j =>
  ((o.gr s _ (u.keep h) j).add (u.gr s v h j)).congr fun n => by (try dsimp only); omega⟩
theorem Ok.low {T : Vec → Vec} (o : Ok T) (v : Vec) (j : Nat) (h : ∀ i, i < j → v i = 0) : T v j = v j := by
  have g : Gr j (fun _ => v) := fun i => by
    by_cases hi : i < j
    · have e : i + 1 - j = 0 := by omega
      rw [e]; exact fun _ => h i hi
    · have e : i + 1 - j = (i - j) + 1 := by omega
      rw [e]; exact dg_const _ _
  have := o.gr j _ g j
  rw [Nat.sub_self] at this
  have := this 0
  dsimp only at this
  omega
/-- a step done n times, or undone -/
noncomputable def pw (T S : Vec → Vec) : Int → Vec → Vec
  | .ofNat k => fun v => Nat.repeat T k v
  | .negSucc k => fun v => Nat.repeat S (k + 1) v
theorem repeat_in (T : Vec → Vec) (k : Nat) (v : Vec) : Nat.repeat T k (T v) = T (Nat.repeat T k v) := by
  induction k with
  | zero => rfl
  | succ k ih => show T (Nat.repeat T k (T v)) = T (T (Nat.repeat T k v)); rw [ih]
theorem pw_succ {T S : Vec → Vec} (hST : ∀ v, S (T v) = v) (n : Int) (v : Vec) : pw T S (n + 1) v = pw T S n (T v) := by
  cases n with
  | ofNat k => show Nat.repeat T (k + 1) v = Nat.repeat T k (T v); rw [repeat_in]; rfl
  | negSucc k =>
    cases k with
    | zero =>
      show Nat.repeat T 0 v = S (Nat.repeat S 0 (T v))
      show v = S (T v)
      rw [hST]
    | succ k =>
      have e : Int.negSucc (k + 1) + 1 = Int.negSucc k := by omega
      rw [e]
      show Nat.repeat S (k + 1) v = Nat.repeat S (k + 1 + 1) (T v)
      show _ = S (Nat.repeat S (k + 1) (T v))
      rw [← repeat_in S, hST]
theorem ok_repeat {T : Vec → Vec} (o : Ok T) : ∀ k, Ok (Nat.repeat T k)
  | 0 => ok_id
  | k + 1 => o.comp (ok_repeat o k)
theorem ok_pw {T S : Vec → Vec} (o : Ok T) (u : Ok S) : ∀ n, Ok (pw T S n)
  | .ofNat k => ok_repeat o k
  | .negSucc k => ok_repeat u (k + 1)
theorem pw_gr {T S : Vec → Vec} (o : Ok T) (u : Ok S) (hST : ∀ v, S (T v) = v) : ∀ (K s : Nat) (v : Int → Vec) (j : Nat), j + 1 - s = K → Gr s v → Dg K (fun n => pw T S n (v n) j)
  | 0, s, v, j, hK, g => fun n => by
    have z : ∀ i, i ≤ j → v n i = 0 := fun i hi => by
      have e : i + 1 - s = 0 := by omega
      have := g i
      rw [e] at this
      exact this n
    show pw T S n (v n) j = 0
    rw [(ok_pw o u n).low (v n) j fun i hi => z i (by omega)]
    exact z j (Nat.le_refl _)
  | K + 1, s, v, j, hK, g => by
    have g2 : Gr (s + 1) (fun n i => T (v (n + 1)) i - v n i) := fun i => by
      have h1 := (o.gr s v g i).shift
      have h2 := (g i).dlt_of
      have e : i + 1 - (s + 1) = i - s := by omega
      rw [e]
      refine (h1.add (h2.mono (by omega))).congr fun n => ?_
      simp only [dlt]; omega
    show Dg K (dlt fun n => pw T S n (v n) j)
    refine (pw_gr o u hST K (s + 1) _ j (by omega) g2).congr fun n => ?_
    show _ = pw T S (n + 1) (v (n + 1)) j - pw T S n (v n) j
    rw [pw_succ hST, (ok_pw o u n).sub]
theorem pw_keep {T S : Vec → Vec} (o : Ok T) (u : Ok S) (hST : ∀ v, S (T v) = v) {s : Nat} {v : Int → Vec} (g : Gr s v) : Gr s (fun n => pw T S n (v n)) := fun j => pw_gr o u hST _ s v j rfl g

/-! the letters' steps -/
theorem ok_up (r : List Nat) (c : Nat) : Ok (fun v => vstep r v (c, true)) where
  sub := fun a b => by
    funext j
    show a j - b j + (match j with | 0 => 0 | k + 1 => if r[k]? = some c then a k - b k else 0) = (a j + (match j with | 0 => 0 | k + 1 => if r[k]? = some c then a k else 0)) - (b j + (match j with | 0 => 0 | k + 1 => if r[k]? = some c then b k else 0))
    cases j with
    | zero => dsimp only; omega
    | succ k => dsimp only; split <;> omega
  gr := fun s v g j => by
    cases j with
    | zero => exact (dg_zero _).congr fun n => by show 0 = v n 0 + 0 - v n 0; omega
    | succ k =>
      by_cases h : r[k]? = some c
      · refine (g k).congr fun n => ?_
        show v n k = v n (k + 1) + (if r[k]? = some c then v n k else 0) - v n (k + 1)
        rw [if_pos h]; omega
      · refine (dg_zero _).congr fun n => ?_
        show 0 = v n (k + 1) + (if r[k]? = some c then v n k else 0) - v n (k + 1)
        rw [if_neg h]; omega
theorem ok_el (r : List Nat) (c k : Nat) : Ok (fun v j => if j = k + 1 ∧ r[k]? = some c then v j - v k else v j) where
  sub := fun a b => by
    funext j
    show (if j = k + 1 ∧ r[k]? = some c then (a j - b j) - (a k - b k) else a j - b j) = (if j = k + 1 ∧ r[k]? = some c then a j - a k else a j) - (if j = k + 1 ∧ r[k]? = some c then b j - b k else b j)
    split <;> omega
  gr := fun s v g j => by
    by_cases h : j = k + 1 ∧ r[k]? = some c
    · have e : j - s = k + 1 - s := by omega
      rw [e]
      refine (g k).neg.congr fun n => ?_
      rw [if_pos h]; omega
    · refine (dg_zero _).congr fun n => ?_
      rw [if_neg h]; omega
theorem ok_vdown (r : List Nat) (c : Nat) : ∀ k, Ok (fun v => vdown r v c k)
  | 0 => ok_id
  | k + 1 => (ok_el r c k).comp (ok_vdown r c k)
theorem ok_step (r : List Nat) (p : Nat × Bool) : Ok (fun v => vstep r v p) := by
  obtain ⟨c, b⟩ := p
  cases b with
  | true => exact ok_up r c
  | false => exact ok_vdown r c r.length
theorem ok_word (r : List Nat) : ∀ ps : List (Nat × Bool), Ok (fun v => ps.foldl (vstep r) v)
  | [] => ok_id
  | p :: ps => (ok_word r ps).comp (ok_step r p)
theorem vdown_up (r : List Nat) (v : Vec) (c : Nat) : ∀ (k j : Nat), vdown r (vstep r v (c, true)) c k j = if j ≤ k then v j else vstep r v (c, true) j
  | 0, j => by
    by_cases h : j ≤ 0
    · have e : j = 0 := by omega
      subst e
      show v 0 + 0 = if 0 ≤ 0 then v 0 else _
      simp
    · rw [if_neg h]; rfl
  | k + 1, j => by
    show (if j = k + 1 ∧ r[k]? = some c then vdown r (vstep r v (c, true)) c k j - vdown r (vstep r v (c, true)) c k k else vdown r (vstep r v (c, true)) c k j) = _
    rw [vdown_up r v c k j, vdown_up r v c k k, if_pos (Nat.le_refl k)]
    by_cases h : j = k + 1
    · subst h
      have e : vstep r v (c, true) (k + 1) = v (k + 1) + (if r[k]? = some c then v k else 0) := rfl
      rw [e]
      by_cases hr : r[k]? = some c
      · simp only [hr, and_self, if_true, Nat.le_refl]
        rw [if_neg (by omega)]; omega
      · simp only [hr, and_false, if_false, Nat.le_refl, if_true]
        rw [if_neg (by omega)]; omega
    · rw [if_neg fun x => h x.1]
      by_cases hj : j ≤ k
      · rw [if_pos hj, if_pos (by omega)]
      · rw [if_neg hj, if_neg (by omega)]
theorem down_up (r : List Nat) (v : Vec) (c : Nat) : vstep r (vstep r v (c, true)) (c, false) = v := by
  funext j
  show vdown r (vstep r v (c, true)) c r.length j = v j
  rw [vdown_up]
  by_cases h : j ≤ r.length
  · rw [if_pos h]
  · rw [if_neg h]
    cases j with
    | zero => omega
    | succ k =>
      show v (k + 1) + (if r[k]? = some c then v k else 0) = _
      have : r[k]? = none := List.getElem?_eq_none (by omega)
      rw [this, if_neg (by simp)]; omega
theorem step_out (r : List Nat) (p : Nat × Bool) (h : p.1 ∉ r) (v : Vec) : vstep r v p = v := by
  have hn : ∀ k : Nat, r[k]? ≠ some p.1 := fun k e => h (List.mem_of_getElem? e)
  obtain ⟨c, b⟩ := p
  cases b with
  | true =>
    funext j
    show v j + (match j with | 0 => 0 | k + 1 => if r[k]? = some c then v k else 0) = v j
    cases j with
    | zero => dsimp only; omega
    | succ k => dsimp only; rw [if_neg (hn k)]; omega
  | false =>
    show vdown r v c r.length = v
    generalize r.length = n
    induction n with
    | zero => rfl
    | succ k ih =>
      funext j
      show (if j = k + 1 ∧ r[k]? = some c then vdown r v c k j - vdown r v c k k else vdown r v c k j) = v j
      rw [if_neg fun x => hn k x.2, ih]
theorem fold_in (r : List Nat) : ∀ (ps : List (Nat × Bool)) (v : Vec), (ps.filter fun p => decide (p.1 ∈ r)).foldl (vstep r) v = ps.foldl (vstep r) v
  | [], _ => rfl
  | p :: ps, v => by
    by_cases h : p.1 ∈ r
    · rw [List.filter_cons_of_pos (by simpa using h), List.foldl_cons, List.foldl_cons, fold_in r ps]
    · rw [List.filter_cons_of_neg (by simpa using h), List.foldl_cons, step_out r p h, fold_in r ps]
noncomputable def e0 : Vec := fun j => if j = 0 then 1 else 0
theorem cnt_eq (r : List Nat) (ps : List (Nat × Bool)) : cnt r (ps.filter fun p => decide (p.1 ∈ r)) = ps.foldl (vstep r) e0 r.length := by
  unfold cnt
  rw [fold_in]; rfl
theorem gr_e0 : Gr 0 (fun _ => e0) := fun _ => dg_const _ _
end Mine
end

section
set_option maxRecDepth 100000
open PySem
namespace Mine
/-! the other way round: a letter taken off, then written -/
theorem vdown_far (r : List Nat) (v : Vec) (c : Nat) : ∀ k j, k < j → vdown r v c k j = v j
  | 0, _, _ => rfl
  | k + 1, j, h => by
    show (if j = k + 1 ∧ r[k]? = some c then vdown r v c k j - vdown r v c k k else vdown r v c k j) = v j
    rw [if_neg fun x => by omega, vdown_far r v c k j (by omega)]
theorem vdown_near (r : List Nat) (v : Vec) (c k j : Nat) (h : j ≤ k) : vdown r v c (k + 1) j = vdown r v c k j := by
  show (if j = k + 1 ∧ r[k]? = some c then vdown r v c k j - vdown r v c k k else vdown r v c k j) = _
  rw [if_neg fun x => by omega]
theorem up_vdown (r : List Nat) (v : Vec) (c : Nat) : ∀ k j, j ≤ k → vstep r (vdown r v c k) (c, true) j = v j
  | 0, j, h => by
    have e : j = 0 := by omega
    subst e
    show v 0 + 0 = v 0
    omega
  | k + 1, 0, _ => by
    have ih := up_vdown r v c k 0 (by omega)
    change vdown r v c k 0 + 0 = v 0 at ih
    show vdown r v c (k + 1) 0 + 0 = v 0
    rw [vdown_near r v c k 0 (by omega)]; exact ih
  | k + 1, j + 1, h => by
    show vdown r v c (k + 1) (j + 1) + (if r[j]? = some c then vdown r v c (k + 1) j else 0) = v (j + 1)
    rw [vdown_near r v c k j (by omega)]
    by_cases hj : j + 1 ≤ k
    · rw [vdown_near r v c k (j + 1) hj]
      exact up_vdown r v c k (j + 1) hj
    · have e : j = k := by omega
      subst e
      show (if j + 1 = j + 1 ∧ r[j]? = some c then vdown r v c j (j + 1) - vdown r v c j j else vdown r v c j (j + 1)) + _ = _
      rw [vdown_far r v c j (j + 1) (by omega)]
      by_cases hr : r[j]? = some c
      · rw [if_pos ⟨rfl, hr⟩, if_pos hr]; omega
      · rw [if_neg fun x => hr x.2, if_neg hr]; omega
theorem up_down (r : List Nat) (v : Vec) (c : Nat) : vstep r (vstep r v (c, false)) (c, true) = v := by
  funext j
  show vstep r (vdown r v c r.length) (c, true) j = v j
  by_cases h : j ≤ r.length
  · exact up_vdown r v c _ j h
  · cases j with
    | zero => omega
    | succ j =>
      show vdown r v c r.length (j + 1) + (if r[j]? = some c then _ else 0) = _
      have e : r[j]? = none := List.getElem?_eq_none (by omega)
      rw [e, if_neg (by simp), vdown_far r v c _ _ (by omega)]; omega

noncomputable def amp : List Nat := [97, 109, 112, 59]
noncomputable abbrev tr (l : List Nat) : List (Nat × Bool) := l.map fun c => (c, true)
theorem tr_append (a b : List Nat) : tr (a ++ b) = tr a ++ tr b := List.map_append ..
noncomputable def Tup (r : List Nat) (v : Vec) : Vec := (tr amp).foldl (vstep r) v
noncomputable def Tdn (r : List Nat) (v : Vec) : Vec := backP.foldl (vstep r) v
theorem dn_up (r : List Nat) (v : Vec) : Tdn r (Tup r v) = v := by
  show vstep r (vstep r (vstep r (vstep r (vstep r (vstep r (vstep r (vstep r v (97, true)) (109, true)) (112, true)) (59, true)) (59, false)) (112, false)) (109, false)) (97, false) = v
  rw [down_up, down_up, down_up, down_up]
theorem up_dn (r : List Nat) (v : Vec) : Tup r (Tdn r v) = v := by
  show vstep r (vstep r (vstep r (vstep r (vstep r (vstep r (vstep r (vstep r v (59, false)) (112, false)) (109, false)) (97, false)) (97, true)) (109, true)) (112, true)) (59, true) = v
  rw [up_down, up_down, up_down, up_down]
theorem fold_repeat {α : Type} (f : Vec → α → Vec) (w : List α) : ∀ (k : Nat) (v : Vec), ((List.replicate k w).flatten).foldl f v = Nat.repeat (fun v => w.foldl f v) k v
  | 0, _ => rfl
  | k + 1, v => by
    rw [List.replicate_succ, List.flatten_cons, List.foldl_append, fold_repeat f w k]
    exact repeat_in (fun v => w.foldl f v) k v
/-- a sign of the text, its amp; n times more -/
noncomputable def signF (r sp : List Nat) (n : Int) (c : Nat) (v : Vec) : Vec :=
  if c ∈ sp then (tr ((nmOf c).drop 1)).foldl (vstep r) (pw (Tup r) (Tdn r) n (vstep r v (38, true))) else vstep r v (c, true)
noncomputable def Fv (r sp : List Nat) (n : Int) (l : List Nat) (v : Vec) : Vec := l.foldl (fun v c => signF r sp n c v) v
noncomputable def ff (r sp tl : List Nat) (n : Int) : Int := Fv r sp n tl e0 r.length
theorem ok_Tup (r : List Nat) : Ok (Tup r) := ok_word r (tr amp)
theorem ok_Tdn (r : List Nat) : Ok (Tdn r) := ok_word r backP
theorem signF_gr (r sp : List Nat) (c : Nat) {v : Int → Vec} (g : Gr 0 v) : Gr 0 (fun n => signF r sp n c (v n)) := by
  by_cases h : c ∈ sp
  · have e : (fun n => signF r sp n c (v n)) = fun n => (tr ((nmOf c).drop 1)).foldl (vstep r) (pw (Tup r) (Tdn r) n (vstep r (v n) (38, true))) := by
      funext n; unfold signF; rw [if_pos h]
    rw [e]
    exact (ok_word r _).keep (pw_keep (ok_Tup r) (ok_Tdn r) (dn_up r) ((ok_step r (38, true)).keep g))
  · have e : (fun n => signF r sp n c (v n)) = fun n => vstep r (v n) (c, true) := by
      funext n; unfold signF; rw [if_neg h]
    rw [e]
    exact (ok_step r (c, true)).keep g
theorem Fv_gr (r sp : List Nat) : ∀ (l : List Nat) {v : Int → Vec}, Gr 0 v → Gr 0 (fun n => Fv r sp n l (v n))
  | [], _, g => g
  | c :: l, v, g => Fv_gr r sp l (v := fun n => signF r sp n c (v n)) (signF_gr r sp c g)
theorem ff_deg (r sp tl : List Nat) : Dg (r.length + 1) (ff r sp tl) := Fv_gr r sp tl gr_e0 r.length
/-! the writings -/
noncomputable def blk (sp : List Nat) (t c : Nat) : List Nat := if c ∈ sp then 38 :: ((List.replicate t amp).flatten ++ (nmOf c).drop 1) else [c]
theorem fold_blk (r sp : List Nat) (t c : Nat) (v : Vec) : (tr (blk sp t c)).foldl (vstep r) v = signF r sp t c v := by
  unfold blk signF
  by_cases h : c ∈ sp
  · rw [if_pos h, if_pos h]
    show (tr ((List.replicate t amp).flatten ++ (nmOf c).drop 1)).foldl (vstep r) (vstep r v (38, true)) = _
    rw [tr_append, List.foldl_append]
    have e : tr ((List.replicate t amp).flatten) = (List.replicate t (tr amp)).flatten := by
      unfold tr
      rw [List.map_flatten, List.map_replicate]
    rw [e, fold_repeat]
    rfl
  · rw [if_neg h, if_neg h]; rfl
theorem fold_blks (r sp : List Nat) (t : Nat) : ∀ (l : List Nat) (v : Vec), (tr (l.flatMap (blk sp t))).foldl (vstep r) v = Fv r sp t l v
  | [], _ => rfl
  | c :: l, v => by
    rw [List.flatMap_cons, tr_append, List.foldl_append, fold_blk, fold_blks r sp t l]; rfl
theorem fold_sign (r sp : List Nat) (k c : Nat) (v : Vec) : (signP sp nmOf (k + 1) c).foldl (vstep r) v = signF r sp (Int.negSucc k) c v := by
  unfold signP signF
  by_cases h : c ∈ sp
  · rw [if_pos h, if_pos h]
    show ((List.replicate (k + 1) backP).flatten ++ ((nmOf c).drop 1).map fun x => (x, true)).foldl (vstep r) (vstep r v (38, true)) = _
    rw [List.foldl_append, fold_repeat]
    rfl
  · rw [if_neg h, if_neg h]; rfl
theorem fold_signs (r sp : List Nat) (k : Nat) : ∀ (l : List Nat) (v : Vec), (undP sp nmOf (k + 1) l).foldl (vstep r) v = Fv r sp (Int.negSucc k) l v
  | [], _ => rfl
  | c :: l, v => by
    have e : undP sp nmOf (k + 1) (c :: l) = signP sp nmOf (k + 1) c ++ undP sp nmOf (k + 1) l := rfl
    rw [e, List.foldl_append, fold_sign, fold_signs r sp k l]; rfl
/-- what a hand spells: it never spells a letter of a reference but the & -/
structure Hand (sp : List Nat) : Prop where
  amp : 38 ∈ sp
  off : ∀ c ∈ sp, ∀ x ∈ (nmOf c).drop 1, x ∉ sp
  head : ∀ c ∈ sp, nmOf c = 38 :: (nmOf c).drop 1
  seven : ∀ c ∈ sp, c ∈ sevenS
  len : sp.length ≤ 6
theorem hand_of {H : Int} (h0 : 0 ≤ H) (h1 : H < 3) {sp : List Nat} (h : spl3[H.toNat]? = some sp) : Hand sp := by
  have hc : H = 0 ∨ H = 1 ∨ H = 2 := by omega
  rcases hc with rfl | rfl | rfl
  · cases (Option.some.inj h : [38, 60, 62, 13] = sp)
    exact ⟨by decide, by decide, by decide, by decide, by decide⟩
  · cases (Option.some.inj h : [38, 62, 34] = sp)
    exact ⟨by decide, by decide, by decide, by decide, by decide⟩
  · cases (Option.some.inj h : [38, 60, 34, 9, 10, 13] = sp)
    exact ⟨by decide, by decide, by decide, by decide, by decide⟩
noncomputable abbrev expd (sp l : List Nat) : List Nat := (l.map fun c => if c ∈ sp then nmOf c else [c]).flatten
theorem expd_cons (sp : List Nat) (c : Nat) (l : List Nat) : expd sp (c :: l) = (if c ∈ sp then nmOf c else [c]) ++ expd sp l := rfl
theorem expd_append (sp a b : List Nat) : expd sp (a ++ b) = expd sp a ++ expd sp b := by
  unfold expd; rw [List.map_append, List.flatten_append]
theorem expd_off (sp : List Nat) : ∀ l : List Nat, (∀ x ∈ l, x ∉ sp) → expd sp l = l
  | [], _ => rfl
  | c :: l, h => by rw [expd_cons, if_neg (h c (.head _)), expd_off sp l fun x hx => h x (.tail _ hx)]; rfl
theorem amp_off {sp : List Nat} (hs : Hand sp) : ∀ x ∈ amp, x ∉ sp := fun x hx => hs.off 38 hs.amp x hx
theorem amps_off {sp : List Nat} (hs : Hand sp) (t : Nat) : ∀ x ∈ (List.replicate t amp).flatten, x ∉ sp := fun x hx => by
  obtain ⟨l, hl, hx⟩ := List.mem_flatten.mp hx
  rw [(List.mem_replicate.mp hl).2] at hx
  exact amp_off hs x hx
theorem expd_blk {sp : List Nat} (hs : Hand sp) (t c : Nat) : expd sp (blk sp t c) = blk sp (t + 1) c := by
  unfold blk
  by_cases h : c ∈ sp
  · rw [if_pos h, if_pos h, expd_cons, if_pos hs.amp, expd_append, expd_off sp _ (amps_off hs t), expd_off sp _ (hs.off c h)]
    rw [List.replicate_succ, List.flatten_cons, List.append_assoc]; rfl
  · rw [if_neg h, if_neg h, expd_cons, if_neg h]; rfl
theorem expd_blks {sp : List Nat} (hs : Hand sp) (t : Nat) : ∀ l : List Nat, expd sp (l.flatMap (blk sp t)) = l.flatMap (blk sp (t + 1))
  | [] => rfl
  | c :: l => by rw [List.flatMap_cons, expd_append, expd_blk hs, expd_blks hs t l, List.flatMap_cons]
theorem expd_zero {sp : List Nat} (hs : Hand sp) : ∀ l : List Nat, expd sp l = l.flatMap (blk sp 0)
  | [] => rfl
  | c :: l => by
    rw [expd_cons, expd_zero hs l, List.flatMap_cons]
    congr 1
    unfold blk
    by_cases h : c ∈ sp
    · rw [if_pos h, if_pos h]; exact hs.head c h
    · rw [if_neg h, if_neg h]
theorem repl_flat (c : Nat) (r : List Nat) (f : Nat → List Nat) (l : List Nat) : repl c r (l.flatMap f) = l.flatMap fun a => repl c r (f a) := by
  unfold repl
  rw [List.flatMap_assoc]
theorem flat_congr (f g : Nat → List Nat) (l : List Nat) (h : ∀ a, f a = g a) : l.flatMap f = l.flatMap g := by
  have : f = g := funext h
  rw [this]
end Mine
end

section
set_option maxRecDepth 100000
open PySem
namespace Mine
theorem wr_expd {H : Int} (h0 : 0 ≤ H) (h1 : H < 3) {sp : List Nat} (h : spl3[H.toNat]? = some sp) (l : List Nat) : expd sp l = wr H l := by
  have hc : H = 0 ∨ H = 1 ∨ H = 2 := by omega
  have e0 : expd sp l = l.flatMap fun c => if c ∈ sp then nmOf c else [c] := by unfold expd; rw [← List.flatMap_def]
  rw [e0]
  rcases hc with rfl | rfl | rfl
  · cases (Option.some.inj h : [38, 60, 62, 13] = sp)
    show _ = wrC l
    unfold wrC
    have e1 : repl 38 [38, 97, 109, 112, 59] l = l.flatMap fun a => if a = 38 then [38, 97, 109, 112, 59] else [a] := rfl
    rw [e1, repl_flat, repl_flat, repl_flat]
    refine flat_congr _ _ l fun a => ?_
    by_cases a1 : a = 38
    · subst a1; decide
    by_cases a2 : a = 60
    · subst a2; decide
    by_cases a3 : a = 62
    · subst a3; decide
    by_cases a4 : a = 13
    · subst a4; decide
    simp [repl, a1, a2, a3, a4]
  · cases (Option.some.inj h : [38, 62, 34] = sp)
    show _ = wrH l
    unfold wrH
    have e1 : repl 38 [38, 97, 109, 112, 59] l = l.flatMap fun a => if a = 38 then [38, 97, 109, 112, 59] else [a] := rfl
    rw [e1, repl_flat, repl_flat]
    refine flat_congr _ _ l fun a => ?_
    by_cases a1 : a = 38
    · subst a1; decide
    by_cases a2 : a = 62
    · subst a2; decide
    by_cases a3 : a = 34
    · subst a3; decide
    simp [repl, a1, a2, a3]
  · cases (Option.some.inj h : [38, 60, 34, 9, 10, 13] = sp)
    show _ = wrN l
    unfold wrN
    have e1 : repl 38 [38, 97, 109, 112, 59] l = l.flatMap fun a => if a = 38 then [38, 97, 109, 112, 59] else [a] := rfl
    rw [e1, repl_flat, repl_flat, repl_flat, repl_flat, repl_flat]
    refine flat_congr _ _ l fun a => ?_
    by_cases a1 : a = 38
    · subst a1; decide
    by_cases a2 : a = 60
    · subst a2; decide
    by_cases a3 : a = 34
    · subst a3; decide
    by_cases a4 : a = 9
    · subst a4; decide
    by_cases a5 : a = 10
    · subst a5; decide
    by_cases a6 : a = 13
    · subst a6; decide
    simp [repl, a1, a2, a3, a4, a5, a6]
/-- what the writings need of a hand -/
structure Setup (H : Int) (sp : List Nat) : Prop where
  hand : Hand sp
  wr : ∀ l, expd sp l = wr H l
theorem setup_of {H : Int} (h0 : 0 ≤ H) (h1 : H < 3) {sp : List Nat} (h : spl3[H.toNat]? = some sp) : Setup H sp := ⟨hand_of h0 h1 h, wr_expd h0 h1 h⟩
theorem wrs_blks {H : Int} {sp : List Nat} (S : Setup H sp) (tl : List Nat) : ∀ t, wrs H tl (t + 1) = tl.flatMap (blk sp t)
  | 0 => by show wr H tl = _; rw [← S.wr, expd_zero S.hand]
  | t + 1 => by
    show wr H (wrs H tl (t + 1)) = _
    rw [wrs_blks S tl t, ← S.wr, expd_blks S.hand]
theorem blk_length (sp : List Nat) (t c : Nat) : (blk sp t c).length ≤ 6 + 4 * t := by
  unfold blk
  by_cases h : c ∈ sp
  · rw [if_pos h]
    have h1 := (nmOf_length c).2
    have h2 : ((List.replicate t amp).flatten).length = t * 4 := by rw [List.length_flatten, List.map_replicate, List.sum_replicate_nat]; rfl
    simp only [List.length_cons, List.length_append, List.length_drop, h2]
    omega
  · rw [if_neg h]; simp only [List.length_cons, List.length_nil]; omega
theorem blks_length (sp : List Nat) (t : Nat) : ∀ l : List Nat, (l.flatMap (blk sp t)).length ≤ l.length * (6 + 4 * t)
  | [] => by simp
  | c :: l => by
    have ih := blks_length sp t l
    have h1 := blk_length sp t c
    rw [List.flatMap_cons, List.length_append, List.length_cons, Nat.succ_mul]
    omega
theorem wrs_length {H : Int} {sp : List Nat} (S : Setup H sp) {tl : List Nat} (htl : tl.length = 3) (k : Nat) (hk : k ≤ 6) : (wrs H tl k).length ≤ 100 := by
  cases k with
  | zero => show tl.length ≤ 100; omega
  | succ t =>
    rw [wrs_blks S]
    have := blks_length sp t tl
    rw [htl] at this
    omega
theorem cntW_ff {H : Int} {sp : List Nat} (S : Setup H sp) (tl r : List Nat) (t : Nat) : cntW r (wrs H tl (t + 1)) = ff r sp tl t := by
  unfold cntW ff
  rw [cnt_eq, wrs_blks S, ← fold_blks]
theorem und_ff (sp tl r : List Nat) (k : Nat) : cnt r ((undP sp nmOf (k + 1) tl).filter fun p => decide (p.1 ∈ r)) = ff r sp tl (Int.negSucc k) := by
  rw [cnt_eq, fold_signs]; rfl
/-! all ways to choose places -/
noncomputable def dt (W : List Nat) : Nat → List Nat → Vec → Int
  | j, [], v => v j
  | j, p :: ps, v => v j * ways W (p :: ps) + dt W (j + 1) ps v
noncomputable def pv (r : List Nat) (c : Nat) (v : Vec) (x : Int) : Nat → Int
  | 0 => 0
  | k + 1 => if r[k]? = some c then v k * x else 0
theorem up_pv (r : List Nat) (c : Nat) (v : Vec) (j : Nat) : vstep r v (c, true) j = v j + pv r c v 1 j := by
  cases j with
  | zero => rfl
  | succ k =>
    show v (k + 1) + (if r[k]? = some c then v k else 0) = v (k + 1) + (if r[k]? = some c then v k * 1 else 0)
    rw [Int.mul_one]
theorem pv_one (r : List Nat) (c : Nat) (v : Vec) (x : Int) (j : Nat) : pv r c v 1 j * x = pv r c v x j := by
  cases j with
  | zero => exact Int.zero_mul _
  | succ k =>
    show (if r[k]? = some c then v k * 1 else 0) * x = (if r[k]? = some c then v k * x else 0)
    split
    · rw [Int.mul_one]
    · exact Int.zero_mul _
theorem dt_step (r : List Nat) (c : Nat) (W : List Nat) (v : Vec) : ∀ (ps : List Nat) (j : Nat), r.drop j = ps →
    dt W j ps (vstep r v (c, true)) = dt (c :: W) j ps v + pv r c v (ways W ps) j
  | [], j, _ => by
    show vstep r v (c, true) j = v j + _
    rw [up_pv, ways_nil_part]
  | p :: ps, j, h => by
    have hp : r[j]? = some p := by
      have := congrArg List.head? h
      rw [List.head?_drop] at this
      exact this
    have hd : r.drop (j + 1) = ps := by
      have := congrArg List.tail h
      rw [List.tail_drop] at this
      exact this
    have ih := dt_step r c W v ps (j + 1) hd
    show vstep r v (c, true) j * ways W (p :: ps) + dt W (j + 1) ps (vstep r v (c, true)) = v j * ways (c :: W) (p :: ps) + dt (c :: W) (j + 1) ps v + _
    have hw : ways (c :: W) (p :: ps) = (if c = p then ways W ps else 0) + ways W (p :: ps) := rfl
    have hq : pv r c v (ways W ps) (j + 1) = if c = p then v j * ways W ps else 0 := by
      show (if r[j]? = some c then v j * ways W ps else 0) = _
      rw [hp]
      by_cases e : c = p
      · subst e; simp
      · rw [if_neg e, if_neg fun x => e (Option.some.inj x).symm]
    have h1 := pv_one r c v (ways W (p :: ps)) j
    rw [ih, up_pv, hw, hq, ← h1]
    by_cases e : c = p
    · rw [if_pos e, if_pos e]; grind
    · rw [if_neg e, if_neg e]; grind
theorem dt_nil (v : Vec) : ∀ (ps : List Nat) (j : Nat), dt [] j ps v = v (j + ps.length)
  | [], j => rfl
  | p :: ps, j => by
    show v j * 0 + dt [] (j + 1) ps v = _
    rw [dt_nil v ps, List.length_cons]
    have e : j + 1 + ps.length = j + (ps.length + 1) := by omega
    rw [e]; omega
theorem dt_fold (r : List Nat) : ∀ (W : List Nat) (v : Vec), dt W 0 r v = (tr W).foldl (vstep r) v r.length
  | [], v => by rw [dt_nil]; show v (0 + r.length) = v r.length; rw [Nat.zero_add]
  | c :: W, v => by
    have h := dt_step r c W v r 0 rfl
    have h2 : pv r c v (ways W r) 0 = 0 := rfl
    rw [h2] at h
    show _ = (tr W).foldl (vstep r) (vstep r v (c, true)) r.length
    rw [← dt_fold r W, h]; omega
theorem dt_zero (W : List Nat) (v : Vec) : ∀ (ps : List Nat) (j : Nat), (∀ i, j ≤ i → v i = 0) → dt W j ps v = 0
  | [], j, h => h j (Nat.le_refl _)
  | p :: ps, j, h => by
    show v j * _ + dt W (j + 1) ps v = 0
    rw [h j (Nat.le_refl _), dt_zero W v ps (j + 1) fun i hi => h i (by omega)]; omega
theorem dt_e0 (W : List Nat) (r : List Nat) : dt W 0 r e0 = ways W r := by
  cases r with
  | nil => rw [ways_nil_part]; rfl
  | cons p ps =>
    show e0 0 * ways W (p :: ps) + dt W 1 ps e0 = _
    rw [dt_zero W e0 ps 1 fun i hi => by unfold e0; rw [if_neg (by omega)]]
    show 1 * _ + 0 = _
    omega
theorem fold_ways (r W : List Nat) : (tr W).foldl (vstep r) e0 r.length = ways W r := by rw [← dt_fold, dt_e0]
theorem cntW_ways (r W : List Nat) : cntW r W = ways W r := by
  unfold cntW
  rw [cnt_eq]; exact fold_ways r W
/-- undone once, where & alone is spelled: the bare text -/
theorem signF_back {sp : List Nat} (r : List Nat) (c : Nat) (v : Vec) (h : c ∈ sp → c = 38) : signF r sp (Int.negSucc 0) c v = vstep r v (c, true) := by
  unfold signF
  by_cases hc : c ∈ sp
  · have e := h hc
    subst e
    rw [if_pos hc]
    exact up_dn r (vstep r v (38, true))
  · rw [if_neg hc]
theorem Fv_back {sp : List Nat} (r : List Nat) : ∀ (l : List Nat) (v : Vec), (∀ c ∈ l, c ∈ sp → c = 38) → Fv r sp (Int.negSucc 0) l v = (tr l).foldl (vstep r) v
  | [], _, _ => rfl
  | c :: l, v, h => by
    show Fv r sp (Int.negSucc 0) l (signF r sp (Int.negSucc 0) c v) = (tr l).foldl (vstep r) (vstep r v (c, true))
    rw [signF_back r c v (h c (.head _)), Fv_back r l _ fun x hx => h x (.tail _ hx)]
theorem ff_back {sp tl : List Nat} (r : List Nat) (h : tl.filter (fun c => decide (c ∈ sp ∧ c ≠ 38)) = []) : ff r sp tl (Int.negSucc 0) = ways tl r := by
  unfold ff
  rw [Fv_back r tl e0 fun c hc hs => by
    have := List.filter_eq_nil_iff.mp h c hc
    simp only [decide_eq_true_eq, not_and] at this
    by_cases e : c = 38
    · exact e
    · exact absurd e (this hs)]
  exact fold_ways r tl
/-! bounds -/
theorem up_bound (r : List Nat) : ∀ (W : List Nat) (n : Nat) (v : Vec), (∀ j, 0 ≤ v j ∧ v j ≤ ((n : Int) + 1) ^ j) → ∀ j, 0 ≤ (tr W).foldl (vstep r) v j ∧ (tr W).foldl (vstep r) v j ≤ (((n + W.length : Nat) : Int) + 1) ^ j
  | [], n, v, h, j => h j
  | c :: W, n, v, h, j => by
    have ih := up_bound r W (n + 1) (vstep r v (c, true)) (fun j => by
      cases j with
      | zero =>
        have := h 0
        show 0 ≤ v 0 + 0 ∧ v 0 + 0 ≤ _
        rw [Int.pow_zero] at this ⊢
        omega
      | succ k =>
        have h1 := h (k + 1)
        have h2 := h k
        have p0 : (0 : Int) ≤ ((n : Int) + 1) ^ k := Int.pow_nonneg (by omega)
        have p1 : ((n : Int) + 1) ^ k ≤ ((n : Int) + 1 + 1) ^ k := by
          have : ((n + 1 : Nat) ^ k) ≤ ((n + 1 + 1 : Nat) ^ k) := Nat.pow_le_pow_left (by omega) k
          exact_mod_cast this
        have p2 : ((n : Int) + 1 + 1) ^ (k + 1) = ((n : Int) + 1 + 1) ^ k * ((n : Int) + 1 + 1) := Int.pow_succ ..
        have p3 : ((n : Int) + 1) ^ (k + 1) = ((n : Int) + 1) ^ k * ((n : Int) + 1) := Int.pow_succ ..
        have p4 := Int.mul_le_mul_of_nonneg_right p1 (show (0 : Int) ≤ (n : Int) + 1 + 1 by omega)
        have p5 : ((n : Int) + 1) ^ k * ((n : Int) + 1 + 1) = ((n : Int) + 1) ^ k * ((n : Int) + 1) + ((n : Int) + 1) ^ k := by rw [Int.mul_add, Int.mul_one]
        have e : (((n + 1 : Nat) : Int) + 1) = (n : Int) + 1 + 1 := by omega
        rw [e]
        show 0 ≤ v (k + 1) + (if r[k]? = some c then v k else 0) ∧ v (k + 1) + (if r[k]? = some c then v k else 0) ≤ _
        split <;> omega) j
    have e : n + (c :: W).length = n + 1 + W.length := by rw [List.length_cons]; omega
    rw [e]
    exact ih
theorem e0_bound : ∀ j, 0 ≤ e0 j ∧ e0 j ≤ (((0 : Nat) : Int) + 1) ^ j := fun j => by
  have e : (((0 : Nat) : Int) + 1) ^ j = 1 := by
    have : (((0 : Nat) : Int) + 1) = 1 := rfl
    rw [this, Int.one_pow]
  rw [e]
  unfold e0
  split <;> omega
theorem cntW_bound (r W : List Nat) (hW : W.length ≤ 100) (hr : r.length ≤ 3) : 0 ≤ cntW r W ∧ cntW r W ≤ 1048576 := by
  unfold cntW
  rw [cnt_eq]
  have h := up_bound r W 0 e0 e0_bound r.length
  refine ⟨h.1, Int.le_trans h.2 ?_⟩
  have e : (((0 + W.length : Nat) : Int) + 1) = ((W.length + 1 : Nat) : Int) := by omega
  rw [e, ← Int.natCast_pow]
  have h1 : (W.length + 1) ^ r.length ≤ 101 ^ 3 := Nat.le_trans (Nat.pow_le_pow_left (by omega) _) (Nat.pow_le_pow_right (by decide) hr)
  have h2 : (W.length + 1) ^ r.length ≤ 1048576 := Nat.le_trans h1 (by decide)
  exact Int.ofNat_le.mpr h2
end Mine
end

section
set_option maxRecDepth 100000
open PySem
namespace Mine
theorem hor_dgs2 (b : Int) (hb : 0 < b) : ∀ (k : Nat) (x : Int), 0 ≤ x → x < b ^ k → hor b (dgs b k x) = x
  | 0, x, h0, h1 => by rw [Int.pow_zero] at h1; show (0 : Int) = x; omega
  | k + 1, x, h0, h1 => by
    have h2 : x / b < b ^ k := Int.ediv_lt_of_lt_mul hb (by rw [← Int.pow_succ]; exact h1)
    have ih := hor_dgs2 b hb k (x / b) (Int.ediv_nonneg h0 (Int.le_of_lt hb)) h2
    show x % b + b * hor b (dgs b k (x / b)) = x
    rw [ih]
    have := Int.emod_add_mul_ediv x b
    omega
theorem hor_flat (z : Nat) : ∀ E : List Int, (∀ e ∈ E, 0 ≤ e ∧ e < 256 ^ z) → hor 256 ((E.map (dgs 256 z)).flatten) = hor (256 ^ z) E
  | [], _ => rfl
  | e :: E, h => by
    have he := h e (.head _)
    have ih := hor_flat z E fun x hx => h x (.tail _ hx)
    rw [List.map_cons, List.flatten_cons, hor_append, ih, dgs_length, hor_dgs2 256 (by decide) z e he.1 he.2]; rfl
theorem dgs_flat (z : Nat) : ∀ E : List Int, (∀ e ∈ E, 0 ≤ e ∧ e < 256 ^ z) → dgs 256 (E.length * z) (hor (256 ^ z) E) = (E.map (dgs 256 z)).flatten
  | [], _ => by rw [List.length_nil, Nat.zero_mul]; rfl
  | e :: E, h => by
    have he := h e (.head _)
    have ih := dgs_flat z E fun x hx => h x (.tail _ hx)
    have hx : (0 : Int) < 256 ^ z := Int.pow_pos (by decide)
    have e1 : (e :: E).length * z = z + E.length * z := by rw [List.length_cons, Nat.succ_mul]; omega
    have e2 : (e + 256 ^ z * hor (256 ^ z) E) % 256 ^ z = e := by rw [Int.add_mul_emod_self_left]; exact Int.emod_eq_of_lt he.1 he.2
    have e3 : (e + 256 ^ z * hor (256 ^ z) E) / 256 ^ z = hor (256 ^ z) E := by rw [Int.add_mul_ediv_left _ _ (Int.ne_of_gt hx), Int.ediv_eq_zero_of_lt he.1 he.2]; omega
    rw [e1, dgs_add 256 (by decide)]
    show dgs 256 z (e + 256 ^ z * hor (256 ^ z) E) ++ dgs 256 (E.length * z) ((e + 256 ^ z * hor (256 ^ z) E) / 256 ^ z) = _
    rw [← dgs_mod 256 (by decide) z, e2, e3, ih]; rfl
theorem dgn8 (z : Nat) (hz : 1 ≤ z) (E : List Int) (t : Int) (h : ∀ e ∈ E ++ [t], 0 ≤ e ∧ e < 256 ^ z) (ht : 256 ^ (z - 1) ≤ t) : dgn 8 (hor (256 ^ z) (E ++ [t])) = ((E ++ [t]).map (dgs 256 z)).flatten := by
  have hx : (0 : Int) < 256 ^ z := Int.pow_pos (by decide)
  have h1 := hor_range (256 ^ z) hx _ h
  have h2 := hor_top (256 ^ z) hx E t fun e he => h e (List.mem_append_left _ he)
  have el : (E ++ [t]).length = E.length + 1 := by simp
  obtain ⟨q, hq⟩ : ∃ q, (E.length + 1) * z = q + 1 := ⟨(E.length + 1) * z - 1, by have := Nat.mul_le_mul (show 1 ≤ E.length + 1 by omega) hz; omega⟩
  have hq2 : q = z * E.length + (z - 1) := by rw [Nat.succ_mul, Nat.mul_comm] at hq; omega
  have e256 : (2 : Int) ^ (8 : Int).toNat = 256 := by decide
  have p0 : (0 : Int) < 256 ^ (z * E.length) := Int.pow_pos (by decide)
  have lo : (2 : Int) ^ (8 * q) ≤ hor (256 ^ z) (E ++ [t]) := by
    refine Int.le_trans ?_ h2
    rw [← pow256, hq2, Int.pow_add, ← Int.pow_mul, Int.mul_comm]
    exact Int.mul_le_mul_of_nonneg_right ht (Int.le_of_lt p0)
  have hi : hor (256 ^ z) (E ++ [t]) < (2 : Int) ^ (8 * (q + 1)) := by
    rw [← pow256, ← hq, Nat.mul_comm, Int.pow_mul, ← el]
    exact h1.2
  have hb := bits_digits 8 q (by decide) _ lo hi
  unfold dgn
  rw [e256]
  have hc : (((Builtin.Int.intBits (hor (256 ^ z) (E ++ [t])) : Int) + 8 - 1).fdiv 8).toNat = q + 1 := hb
  rw [hc, ← hq, ← el]
  exact dgs_flat z _ h
theorem bsw_get (b : Nat) (l : List UInt8) (k : Nat) (hk : k < l.length) : (bsw b l)[k]? = some (l.getD (k / b * b + (b - 1 - k % b)) 0) := by
  show ((List.range l.length).map fun k => l.getD (k / b * b + (b - 1 - k % b)) 0)[k]? = _
  rw [List.getElem?_map, List.getElem?_range hk]; rfl
theorem getD_some {l : List UInt8} {i : Nat} (h : i < l.length) : some (l.getD i 0) = l[i]? := by
  rw [List.getD_eq_getElem?_getD, List.getElem?_eq_getElem h]; rfl
theorem bsw_all (l : List UInt8) : bsw l.length l = l.reverse := by
  apply List.ext_getElem?
  intro k
  by_cases hk : k < l.length
  · rw [bsw_get _ _ _ hk, List.getElem?_reverse hk, Nat.div_eq_of_lt hk, Nat.mod_eq_of_lt hk, Nat.zero_mul, Nat.zero_add, getD_some (by omega)]
  · rw [List.getElem?_eq_none (by rw [bsw_length]; omega), List.getElem?_eq_none (by rw [List.length_reverse]; omega)]
theorem bsw_cons (z : Nat) (b l : List UInt8) (hb : b.length = z) (hz : 1 ≤ z) : bsw z (b ++ l) = b.reverse ++ bsw z l := by
  apply List.ext_getElem?
  intro k
  by_cases hk : k < b.length + l.length
  · rw [bsw_get _ _ _ (by rw [List.length_append]; exact hk)]
    by_cases hlt : k < z
    · rw [Nat.div_eq_of_lt hlt, Nat.mod_eq_of_lt hlt, Nat.zero_mul, Nat.zero_add, getD_some (by rw [List.length_append]; omega), List.getElem?_append_left (by omega), List.getElem?_append_left (by rw [List.length_reverse]; omega), List.getElem?_reverse (by omega), hb]
    · obtain ⟨j, hj⟩ : ∃ j, k = z + j := ⟨k - z, by omega⟩
      subst hj
      have d1 : (z + j) / z = j / z + 1 := by rw [Nat.add_comm, Nat.add_div_right _ (by omega)]
      have d2 : (z + j) % z = j % z := by rw [Nat.add_comm, Nat.add_mod_right]
      have d3 : (j / z + 1) * z = z + j / z * z := by rw [Nat.succ_mul]; omega
      rw [List.getElem?_append_right (by rw [List.length_reverse]; omega)]
      have e4 : z + j - b.reverse.length = j := by rw [List.length_reverse]; omega
      rw [e4, bsw_get _ _ _ (by omega), d1, d2, d3]
      congr 1
      rw [List.getD_eq_getElem?_getD, List.getD_eq_getElem?_getD, List.getElem?_append_right (by omega)]
      congr 2
      omega
  · rw [List.getElem?_eq_none (by rw [bsw_length, List.length_append]; omega), List.getElem?_eq_none (by rw [List.length_append, List.length_reverse, bsw_length]; omega)]
theorem bsw_nil (z : Nat) : bsw z [] = [] := rfl
theorem bsw_flat (z : Nat) (hz : 1 ≤ z) : ∀ B : List (List UInt8), (∀ b ∈ B, b.length = z) → bsw z B.flatten = (B.map List.reverse).flatten
  | [], _ => rfl
  | b :: B, h => by
    rw [List.flatten_cons, bsw_cons z b _ (h b (.head _)) hz, bsw_flat z hz B fun x hx => h x (.tail _ hx)]; rfl
theorem u8_back : ∀ l : List Int, (∀ n ∈ l, 0 ≤ n ∧ n < 256) → (l.map fun n => n.toNat.toUInt8).map (fun c => (c.toNat : Int)) = l
  | [], _ => rfl
  | n :: l, h => by
    have hn := h n (.head _)
    have ih := u8_back l fun x hx => h x (.tail _ hx)
    rw [List.map_cons, List.map_cons, ih]
    congr 1
    show ((n.toNat.toUInt8).toNat : Int) = n
    have : (n.toNat.toUInt8).toNat = n.toNat := by
      show (UInt8.ofNat n.toNat).toNat = n.toNat
      rw [UInt8.toNat_ofNat']
      omega
    rw [this]; omega
/-- the octets turned about as a whole and then digit by digit: the digits in the mirror -/
theorem mirror (z : Nat) (hz : 1 ≤ z) (E : List Int) (t : Int) (h : ∀ e ∈ E ++ [t], 0 ≤ e ∧ e < 256 ^ z) (ht : 256 ^ (z - 1) ≤ t) :
    (octsOf (hor (256 ^ z) (E ++ [t]))).length = (E.length + 1) * z ∧
    hor 256 ((bsw z (bsw (octsOf (hor (256 ^ z) (E ++ [t]))).length (octsOf (hor (256 ^ z) (E ++ [t]))))).map fun c => (c.toNat : Int)) = hor (256 ^ z) (E ++ [t]).reverse := by
  have e1 : octsOf (hor (256 ^ z) (E ++ [t])) = ((E ++ [t]).map fun e => (dgs 256 z e).map fun n => n.toNat.toUInt8).flatten := by
    unfold octsOf
    rw [dgn8 z hz E t h ht, List.map_flatten, List.map_map]; rfl
  have hlen : ∀ b ∈ (E ++ [t]).map fun e => (dgs 256 z e).map fun n => n.toNat.toUInt8, b.length = z := by
    intro b hb
    obtain ⟨e, _, rfl⟩ := List.mem_map.mp hb
    rw [List.length_map, dgs_length]
  generalize hE : E ++ [t] = F at *
  constructor
  · rw [e1, List.length_flatten, List.map_map]
    have : (List.length ∘ fun e => (dgs 256 z e).map fun n => n.toNat.toUInt8) = fun _ => z := by
      funext e; show ((dgs 256 z e).map _).length = z; rw [List.length_map, dgs_length]
    rw [this, List.map_const', List.sum_replicate_nat, ← hE, List.length_append]; rfl
  · rw [bsw_all, e1, List.reverse_flatten, bsw_flat z hz _ (by
      intro b hb
      rw [List.mem_reverse] at hb
      obtain ⟨b', hb', rfl⟩ := List.mem_map.mp hb
      rw [List.length_reverse]; exact hlen b' hb'), List.map_reverse, List.map_map]
    have e2 : (List.reverse ∘ List.reverse : List UInt8 → List UInt8) = id := by funext l; simp
    rw [e2, List.map_id, ← List.map_reverse, List.map_flatten, List.map_map]
    have e3 : ((fun l : List UInt8 => l.map fun c => (c.toNat : Int)) ∘ fun e => (dgs 256 z e).map fun n => n.toNat.toUInt8) = dgs 256 z := by
      funext e
      exact u8_back _ fun n hn => dgs_range 256 (by decide) z e n hn
    have e4 : (List.map (fun c : UInt8 => (c.toNat : Int)) ∘ fun e => (dgs 256 z e).map fun n => n.toNat.toUInt8) = dgs 256 z := e3
    rw [e4]
    exact hor_flat z _ fun e he => h e (List.mem_reverse.mp he)
end Mine
end

section
set_option maxRecDepth 100000
open PySem
namespace Mine
theorem rec3 {f : Int → Int} (h : Dg 3 f) (n : Int) : f (n + 3) = 3 * f (n + 2) - 3 * f (n + 1) + f n := by
  have h1 : dlt (dlt (dlt f)) n = 0 := h n
  simp only [dlt] at h1
  have e2 : n + 1 + 1 = n + 2 := by omega
  have e3 : n + 2 + 1 = n + 3 := by omega
  rw [e2, e3] at h1
  omega
theorem rec4 {f : Int → Int} (h : Dg 4 f) (n : Int) : f (n + 4) = 4 * f (n + 3) - 6 * f (n + 2) + 4 * f (n + 1) - f n := by
  have h1 : dlt (dlt (dlt (dlt f))) n = 0 := h n
  simp only [dlt] at h1
  have e2 : n + 1 + 1 = n + 2 := by omega
  have e3 : n + 2 + 1 = n + 3 := by omega
  have e4 : n + 3 + 1 = n + 4 := by omega
  rw [e2, e3, e4] at h1
  omega
theorem bits250 {x : Int} (h : x.natAbs < 2 ^ 250) : Builtin.Int.intBits x ≤ 250 := intBits_le_iff.mpr h
/-- what a row of digits is asked -/
structure NumOk (z dg : Nat) (R C U : List Int) (sg : Int) : Prop where
  fwd : btpv (hor (256 ^ z) R.reverse) z dg (dg + 2) = C
  back : btpv (sg * hor (256 ^ z) R) z dg dg = U
  dig : ∀ e ∈ R, 0 ≤ e + 256 ^ z / 2 ∧ e + 256 ^ z / 2 < 256 ^ z
  top : ∀ t, R.getLast? = some t → 256 ^ (z - 1) ≤ t + 256 ^ z / 2
  b1 : Builtin.Int.intBits (hor (256 ^ z) R.reverse) ≤ 250
  b2 : Builtin.Int.intBits (hor (256 ^ z) R) ≤ 250
  b3 : Builtin.Int.intBits (sg * hor (256 ^ z) R) ≤ 250
  b4 : Builtin.Int.intBits (hor (256 ^ z) (R.map (· + 256 ^ z / 2))) ≤ 250
  p1 : 0 ≤ hor (256 ^ z) R.reverse + 256 ^ z / 2 * ((256 : Int) ^ z - 1) ^ dg
  p2 : 0 ≤ sg * hor (256 ^ z) R + 256 ^ z / 2 * ((256 : Int) ^ z - 1) ^ dg
  p3 : 0 ≤ hor (256 ^ z) (R.map (· + 256 ^ z / 2))
noncomputable abbrev Small (l : List Int) : Prop := ∀ e ∈ l, -536870912 ≤ e ∧ e ≤ 536870912
theorem hor_small (x : Int) (hx : 0 ≤ x) : ∀ l : List Int, Small l → -(536870912 * ones x l.length) ≤ hor x l ∧ hor x l ≤ 536870912 * ones x l.length
  | [], _ => by show -(536870912 * (0 : Int)) ≤ 0 ∧ (0 : Int) ≤ 536870912 * 0; omega
  | e :: l, h => by
    have he := h e (.head _)
    have ih := hor_small x hx l fun y hy => h y (.tail _ hy)
    have h1 := Int.mul_le_mul_of_nonneg_left ih.1 hx
    have h2 := Int.mul_le_mul_of_nonneg_left ih.2 hx
    have e1 : 536870912 * (1 + x * ones x l.length) = 536870912 + x * (536870912 * ones x l.length) := by grind
    rw [Int.mul_neg] at h1
    show -(536870912 * (1 + x * ones x l.length)) ≤ e + x * hor x l ∧ e + x * hor x l ≤ 536870912 * (1 + x * ones x l.length)
    rw [e1]
    generalize x * (536870912 * ones x l.length) = u at *
    generalize x * hor x l = v at *
    omega
theorem ones_le {y : Int} (hy : 999 ≤ y) {dg : Nat} (hd : dg = 2 ∨ dg = 3) : ones (y + 1) (dg + 1) ≤ 2 * y ^ dg := by
  have h2 : 999 * y ≤ y * y := Int.mul_le_mul_of_nonneg_right hy (by omega)
  rcases hd with rfl | rfl
  · have e : ones (y + 1) 3 = y * y + 3 * y + 3 := by show 1 + (y + 1) * (1 + (y + 1) * (1 + (y + 1) * 0)) = _; grind
    have e2 : 2 * y ^ 2 = 2 * (y * y) := by grind
    show ones (y + 1) 3 ≤ _
    rw [e, e2]
    generalize y * y = u at *
    omega
  · have h3 : 999 * (y * y) ≤ y * (y * y) := Int.mul_le_mul_of_nonneg_right hy (by omega)
    have e : ones (y + 1) 4 = y * (y * y) + 4 * (y * y) + 6 * y + 4 := by show 1 + (y + 1) * (1 + (y + 1) * (1 + (y + 1) * (1 + (y + 1) * 0))) = _; grind
    have e2 : 2 * y ^ 3 = 2 * (y * (y * y)) := by grind
    show ones (y + 1) 4 ≤ _
    rw [e, e2]
    generalize y * (y * y) = v at *
    generalize y * y = u at *
    omega
/-- the powers that are met -/
structure Pw (x h : Int) : Prop where
  dbl : x = 2 * h
  lo : 549755813888 ≤ h
  hi : h ≤ 36028797018963968
theorem hor_pw {x h : Int} (p : Pw x h) {dg : Nat} (hd : dg = 2 ∨ dg = 3) {l : List Int} (hl : l.length = dg + 1) (hs : Small l) : -(1073741824 * (x - 1) ^ dg) ≤ hor x l ∧ hor x l ≤ 1073741824 * (x - 1) ^ dg := by
  obtain ⟨p1, p2, p3⟩ := p
  have h1 := hor_small x (by omega) l hs
  have h2 := ones_le (y := x - 1) (by omega) hd
  have e : x - 1 + 1 = x := by omega
  rw [e] at h2
  rw [hl] at h1
  clear p1 p2 p3 hs hl hd
  generalize (x - 1) ^ dg = u at *
  generalize ones x (dg + 1) = v at *
  omega
theorem rest_pw {x h : Int} (p : Pw x h) {dg : Nat} (hd : dg = 2 ∨ dg = 3) {l : List Int} (hl : l.length = dg + 1) (hs : Small l) : 0 ≤ hor x l + h * (x - 1) ^ dg ∧ hor x l + h * (x - 1) ^ dg < (x - 1) * (x - 1) ^ dg := by
  have h1 := hor_pw p hd hl hs
  obtain ⟨p1, p2, p3⟩ := p
  have p0 : 0 < (x - 1) ^ dg := Int.pow_pos (by omega)
  have a1 := Int.mul_le_mul_of_nonneg_right (show (1073741824 : Int) ≤ h by omega) (Int.le_of_lt p0)
  have a2 := Int.mul_le_mul_of_nonneg_right (show 1073741824 + h + 1 ≤ x - 1 by omega) (Int.le_of_lt p0)
  rw [Int.add_mul, Int.add_mul, Int.one_mul] at a2
  clear p1 p2 p3 hs hl hd
  generalize (x - 1) ^ dg = u at *
  generalize h * u = v at *
  generalize (x - 1) * u = w at *
  omega
theorem bits_pw {x h : Int} (p : Pw x h) {dg : Nat} (hd : dg = 2 ∨ dg = 3) {n : Int} (hn : -(1073741824 * (x - 1) ^ dg) ≤ n ∧ n ≤ 1073741824 * (x - 1) ^ dg) : Builtin.Int.intBits n ≤ 250 := by
  obtain ⟨p1, p2, p3⟩ := p
  have hy0 : 0 ≤ x - 1 := by omega
  have hy : x - 1 ≤ 72057594037927936 := by omega
  have q : (x - 1) ^ dg ≤ 374144419156711147060143317175368453031918731001856 := by
    have h2 := Int.mul_le_mul hy hy hy0 (by decide)
    rcases hd with rfl | rfl
    · have e : (x - 1) ^ 2 = (x - 1) * (x - 1) := by grind
      rw [e]
      exact Int.le_trans h2 (by decide)
    · have h3 := Int.mul_le_mul h2 hy hy0 (by decide)
      have e : (x - 1) ^ 3 = (x - 1) * (x - 1) * (x - 1) := by grind
      rw [e]
      exact Int.le_trans h3 (by decide)
  refine bits250 ?_
  clear p1 p2 p3 hy0 hy hd
  generalize (x - 1) ^ dg = u at *
  simp only [Nat.reducePow]
  omega
theorem num_of {z : Nat} (z1 : 5 ≤ z) (z2 : z ≤ 7) {dg : Nat} (hd : dg = 2 ∨ dg = 3) {R Rf Rb C U : List Int} {sg : Int} (hsg : sg = 1 ∨ sg = -1) (lR : R.length = dg + 1) (lf : Rf.length = dg + 1) (lb : Rb.length = dg + 1) (lC : C.length = dg + 2) (lU : U.length = dg)
    (sR : Small R) (sf : Small Rf) (sb : Small Rb) (sC : Small C) (sU : Small U)
    (idf : ∀ x : Int, hor x R.reverse * x ^ (dg + 2) = hor x C.reverse * ((x - 1) * (x - 1) ^ dg) + hor x Rf)
    (idb : ∀ x : Int, (sg * hor x R) * x ^ dg = hor x U.reverse * ((x - 1) * (x - 1) ^ dg) + hor x Rb) : NumOk z dg R C U sg := by
  obtain ⟨x, hx⟩ : ∃ x, (256 : Int) ^ z = x := ⟨_, rfl⟩
  obtain ⟨h, hh⟩ : ∃ h, x / 2 = h := ⟨_, rfl⟩
  have p : Pw x h ∧ (256 : Int) ^ (z - 1) ≤ 281474976710656 ∧ 256 * (256 : Int) ^ (z - 1) = x := by
    have hz : z = 5 ∨ z = 6 ∨ z = 7 := by omega
    rw [← hh, ← hx]
    rcases hz with rfl | rfl | rfl <;> exact ⟨⟨by decide, by decide, by decide⟩, by decide, by decide⟩
  obtain ⟨p, q1, q2⟩ := p
  have pd := p
  obtain ⟨p1, p2, p3⟩ := pd
  have dig : ∀ l : List Int, Small l → ∀ e ∈ l, 0 ≤ e + h ∧ e + h < x := fun l hl e he => by
    have := hl e he
    clear idf idb
    omega
  have sRr : Small R.reverse := fun e he => sR e (List.mem_reverse.mp he)
  have lRr : R.reverse.length = dg + 1 := by rw [List.length_reverse]; exact lR
  have hR := hor_pw p hd lR sR
  have hsR : -(1073741824 * (x - 1) ^ dg) ≤ sg * hor x R ∧ sg * hor x R ≤ 1073741824 * (x - 1) ^ dg := by
    rcases hsg with rfl | rfl
    · rw [Int.one_mul]; exact hR
    · have e : -1 * hor x R = -hor x R := by omega
      rw [e]
      clear idf idb
      omega
  have hE := hor_range x (by omega) (R.map (· + h)) fun e he => by
    obtain ⟨y, hy, rfl⟩ := List.mem_map.mp he
    exact dig R sR y hy
  have hlow : ∀ n : Int, -(1073741824 * (x - 1) ^ dg) ≤ n → 0 ≤ n + h * (x - 1) ^ dg := fun n hn => by
    have p0 : 0 < (x - 1) ^ dg := Int.pow_pos (by omega)
    have a1 := Int.mul_le_mul_of_nonneg_right (show (1073741824 : Int) ≤ h by omega) (Int.le_of_lt p0)
    clear idf idb
    omega
  have hx4 : x ^ (dg + 1) < 2 ^ 250 := by
    rw [← hx, ← Int.pow_mul]
    have h4 : z * (dg + 1) ≤ 28 := Nat.le_trans (Nat.mul_le_mul z2 (show dg + 1 ≤ 4 by omega)) (by decide)
    have h5 : 256 ^ (z * (dg + 1)) ≤ 256 ^ 28 := Nat.pow_le_pow_right (by decide) h4
    have h6 : 256 ^ (z * (dg + 1)) < 2 ^ 250 := Nat.lt_of_le_of_lt h5 (by decide)
    have h7 := Int.ofNat_lt.mpr h6
    rw [Int.natCast_pow, Int.natCast_pow] at h7
    exact h7
  refine ⟨?_, ?_, ?_, ?_, ?_, ?_, ?_, ?_, ?_, ?_, ?_⟩
  · rw [hx]
    cases C with
    | nil => simp at lC
    | cons c cs =>
      have el : cs.length + 1 = dg + 2 := lC
      have r := rest_pw p hd lf sf
      have hc := (sC c (.head _)).1
      rw [← el]
      refine btp_of _ (hor x Rf) z dg (by omega) c cs x h hx hh (by omega) (dig _ sC) (by clear idf idb; omega) ?_ r.1 r.2
      rw [el]; exact idf x
  · rw [hx]
    cases U with
    | nil => simp at lU; omega
    | cons c cs =>
      have el : cs.length + 1 = dg := lU
      have r := rest_pw p hd lb sb
      have hc := (sU c (.head _)).1
      have := btp_of (sg * hor x R) (hor x Rb) z dg (by omega) c cs x h hx hh (by omega) (dig _ sU) (by clear idf idb; omega) (by rw [el]; exact idb x) r.1 r.2
      rw [el] at this
      exact this
  · intro e he
    rw [hx, hh]; exact dig R sR e he
  · intro t ht
    have hm : t ∈ R := List.mem_of_getLast? ht
    have := (sR t hm).1
    rw [hx, hh]
    clear idf idb
    omega
  · rw [hx]; exact bits_pw p hd (hor_pw p hd lRr sRr)
  · rw [hx]; exact bits_pw p hd hR
  · rw [hx]; exact bits_pw p hd hsR
  · rw [hx, hh]
    rw [List.length_map, lR] at hE
    have : (hor x (R.map (· + h))).natAbs < 2 ^ 250 := by
      have h8 : hor x (R.map (· + h)) < 2 ^ 250 := Int.lt_trans hE.2 hx4
      have h9 : ((2 ^ 250 : Nat) : Int) = (2 : Int) ^ 250 := by rw [Int.natCast_pow]; rfl
      have h10 := hE.1
      rw [← h9] at h8
      generalize (2 : Nat) ^ 250 = big at *
      generalize hor x (R.map (· + h)) = n at *
      clear idf idb
      omega
    exact bits250 this
  · rw [hx, hh]; exact hlow _ (hor_pw p hd lRr sRr).1
  · rw [hx, hh]; exact hlow _ hsR.1
  · rw [hx, hh]; exact hE.1
theorem num2 (z : Nat) (z1 : 5 ≤ z) (z2 : z ≤ 7) (a b c : Int) (ha : 0 ≤ a ∧ a ≤ 1048576) (hb : 0 ≤ b ∧ b ≤ 1048576) (hc : 0 ≤ c ∧ c ≤ 1048576) :
    NumOk z 2 [a, -3 * a + b, 3 * a - 3 * b + c] [a, b, c, a - 3 * b + 3 * c] [3 * a - 3 * b + c, 6 * a - 8 * b + 3 * c] (1) := by
  refine num_of z1 z2 (dg := 2) (by decide) (Rf := [a - 3 * b + 3 * c, -3 * a + 9 * b - 8 * c, 3 * a - 8 * b + 6 * c]) (Rb := [6 * a - 8 * b + 3 * c, -15 * a + 21 * b - 8 * c, 10 * a - 15 * b + 6 * c]) (by decide) rfl rfl rfl rfl rfl (by intro y hy; simp only [List.mem_cons, List.not_mem_nil, or_false] at hy; rcases hy with rfl | rfl | rfl <;> omega) (by intro y hy; simp only [List.mem_cons, List.not_mem_nil, or_false] at hy; rcases hy with rfl | rfl | rfl <;> omega) (by intro y hy; simp only [List.mem_cons, List.not_mem_nil, or_false] at hy; rcases hy with rfl | rfl | rfl <;> omega) (by intro y hy; simp only [List.mem_cons, List.not_mem_nil, or_false] at hy; rcases hy with rfl | rfl | rfl | rfl <;> omega) (by intro y hy; simp only [List.mem_cons, List.not_mem_nil, or_false] at hy; rcases hy with rfl | rfl <;> omega) (fun x => ?_) (fun x => ?_)
  · simp only [List.reverse_cons, List.reverse_nil, List.nil_append, List.cons_append, hor]
    clear ha hb hc
    grind
  · simp only [List.reverse_cons, List.reverse_nil, List.nil_append, List.cons_append, hor]
    clear ha hb hc
    grind
theorem num3 (z : Nat) (z1 : 5 ≤ z) (z2 : z ≤ 7) (a b c e : Int) (ha : 0 ≤ a ∧ a ≤ 1048576) (hb : 0 ≤ b ∧ b ≤ 1048576) (hc : 0 ≤ c ∧ c ≤ 1048576) (he : 0 ≤ e ∧ e ≤ 1048576) :
    NumOk z 3 [a, -4 * a + b, 6 * a - 4 * b + c, -4 * a + 6 * b - 4 * c + e] [a, b, c, e, -a + 4 * b - 6 * c + 4 * e] [4 * a - 6 * b + 4 * c - e, 10 * a - 20 * b + 15 * c - 4 * e, 20 * a - 45 * b + 36 * c - 10 * e] (-1) := by
  refine num_of z1 z2 (dg := 3) (by decide) (Rf := [a - 4 * b + 6 * c - 4 * e, -4 * a + 16 * b - 24 * c + 15 * e, 6 * a - 24 * b + 35 * c - 20 * e, -4 * a + 15 * b - 20 * c + 10 * e]) (Rb := [-20 * a + 45 * b - 36 * c + 10 * e, 70 * a - 160 * b + 129 * c - 36 * e, -84 * a + 196 * b - 160 * c + 45 * e, 35 * a - 84 * b + 70 * c - 20 * e]) (by decide) rfl rfl rfl rfl rfl (by intro y hy; simp only [List.mem_cons, List.not_mem_nil, or_false] at hy; rcases hy with rfl | rfl | rfl | rfl <;> omega) (by intro y hy; simp only [List.mem_cons, List.not_mem_nil, or_false] at hy; rcases hy with rfl | rfl | rfl | rfl <;> omega) (by intro y hy; simp only [List.mem_cons, List.not_mem_nil, or_false] at hy; rcases hy with rfl | rfl | rfl | rfl <;> omega) (by intro y hy; simp only [List.mem_cons, List.not_mem_nil, or_false] at hy; rcases hy with rfl | rfl | rfl | rfl | rfl <;> omega) (by intro y hy; simp only [List.mem_cons, List.not_mem_nil, or_false] at hy; rcases hy with rfl | rfl | rfl <;> omega) (fun x => ?_) (fun x => ?_)
  · simp only [List.reverse_cons, List.reverse_nil, List.nil_append, List.cons_append, hor]
    clear ha hb hc he
    grind
  · simp only [List.reverse_cons, List.reverse_nil, List.nil_append, List.cons_append, hor]
    clear ha hb hc he
    grind
end Mine
end

section
set_option maxRecDepth 100000
open PySem
namespace Mine
/-- the writings' counts -/
noncomputable def countsL (H : Int) (tl r : List Nat) (dn : Nat) : List Int := ((List.range (dn + 2)).map fun k => wrs H tl (k + 1)).map (cntW r)
noncomputable def undL (sp tl r : List Nat) (dn : Nat) : List Int := (List.range dn).map fun k => cnt r ((undP sp nmOf (k + 1) tl).filter fun p => decide (p.1 ∈ r))
theorem dif1_3 (a b c : Int) : dif1 [a, b, c] = [a, b - a, c - b] := by
  show [a - 0, b - a, c - b] = _
  rw [Int.sub_zero]
theorem dif1_4 (a b c e : Int) : dif1 [a, b, c, e] = [a, b - a, c - b, e - c] := by
  show [a - 0, b - a, c - b, e - c] = _
  rw [Int.sub_zero]
theorem list3 {a b c x y z : Int} (h1 : a = x) (h2 : b = y) (h3 : c = z) : [a, b, c] = [x, y, z] := by rw [h1, h2, h3]
theorem difs2 (a b c : Int) : difs 3 [a, b, c] = [a, -3 * a + b, 3 * a - 3 * b + c] := by
  show dif1 (dif1 (dif1 [a, b, c])) = _
  rw [dif1_3, dif1_3, dif1_3]
  exact list3 rfl (by omega) (by omega)
theorem difs3 (a b c e : Int) : difs 4 [a, b, c, e] = [a, -4 * a + b, 6 * a - 4 * b + c, -4 * a + 6 * b - 4 * c + e] := by
  show dif1 (dif1 (dif1 (dif1 [a, b, c, e]))) = _
  rw [dif1_4, dif1_4, dif1_4, dif1_4]
  exact congrArg (List.cons a) (list3 (by omega) (by omega) (by omega))
structure Plain (H : Int) (sp tl r : List Nat) (dn z : Nat) : Prop where
  num : NumOk z dn (difs (dn + 1) ((countsL H tl r dn).take (dn + 1))) (countsL H tl r dn) (undL sp tl r dn) ((-1) ^ dn)
  len : (difs (dn + 1) ((countsL H tl r dn).take (dn + 1))).length = dn + 1
  back : tl.filter (fun c => decide (c ∈ sp ∧ c ≠ 38)) = [] → (undL sp tl r dn).getD (Int.toNat 0) 0 = ways tl r
theorem countsL_length (H : Int) (tl r : List Nat) (dn : Nat) : (countsL H tl r dn).length = dn + 2 := by simp [countsL]
theorem undL_length (sp tl r : List Nat) (dn : Nat) : (undL sp tl r dn).length = dn := by simp [undL]
theorem plain {H : Int} {sp : List Nat} (S : Setup H sp) (tl r : List Nat) (htl : tl.length = 3) (dn z : Nat) (hr : r.length = dn) (d1 : 2 ≤ dn) (d2 : dn ≤ 3) (z1 : 5 ≤ z) (z2 : z ≤ 7) : Plain H sp tl r dn z := by
  have bnd : ∀ t : Nat, t ≤ 5 → 0 ≤ ff r sp tl t ∧ ff r sp tl t ≤ 1048576 := fun t ht => by
    rw [← cntW_ff S]
    exact cntW_bound r _ (wrs_length S htl (t + 1) (by omega)) (by omega)
  have back : tl.filter (fun c => decide (c ∈ sp ∧ c ≠ 38)) = [] → (undL sp tl r dn).getD (Int.toNat 0) 0 = ways tl r := fun h => by
    have e : (undL sp tl r dn).getD (Int.toNat 0) 0 = ff r sp tl (Int.negSucc 0) := by
      rw [← und_ff]
      unfold undL
      have : dn = dn - 1 + 1 := by omega
      rw [this, List.range_succ_eq_map]; rfl
    rw [e]; exact ff_back r h
  refine ⟨?_, by rw [difs_length, List.length_take, countsL_length]; omega, back⟩
  have hd := ff_deg r sp tl
  rw [hr] at hd
  have hc : dn = 2 ∨ dn = 3 := by omega
  have eC : ∀ t, cntW r (wrs H tl (t + 1)) = ff r sp tl t := fun t => cntW_ff S tl r t
  have eU := und_ff sp tl r
  generalize ff r sp tl = f at *
  rcases hc with rfl | rfl
  · have h0 := bnd 0 (by omega)
    have h1 := bnd 1 (by omega)
    have h2 := bnd 2 (by omega)
    have c1 : countsL H tl r 2 = [f 0, f 1, f 2, f 3] := by
      show [cntW r (wrs H tl (0 + 1)), cntW r (wrs H tl (1 + 1)), cntW r (wrs H tl (2 + 1)), cntW r (wrs H tl (3 + 1))] = _
      rw [eC, eC, eC, eC]; rfl
    have u1 : undL sp tl r 2 = [f (-1), f (-2)] := by
      show [cnt r ((undP sp nmOf (0 + 1) tl).filter fun p => decide (p.1 ∈ r)), cnt r ((undP sp nmOf (1 + 1) tl).filter fun p => decide (p.1 ∈ r))] = _
      rw [eU, eU]; rfl
    have r0 := rec3 hd 0
    have r1 := rec3 hd (-1)
    have r2 := rec3 hd (-2)
    simp only [Int.reduceAdd, Int.reduceNeg] at r0 r1 r2
    have e3 : f 3 = f 0 - 3 * f 1 + 3 * f 2 := by omega
    have em1 : f (-1) = 3 * f 0 - 3 * f 1 + f 2 := by omega
    have em2 : f (-2) = 6 * f 0 - 8 * f 1 + 3 * f 2 := by omega
    rw [c1, u1, e3, em1, em2]
    have et : List.take (2 + 1) [f 0, f 1, f 2, f 0 - 3 * f 1 + 3 * f 2] = [f 0, f 1, f 2] := rfl
    have esg : (-1 : Int) ^ 2 = 1 := by decide
    rw [et, difs2, esg]
    exact num2 z z1 z2 (f 0) (f 1) (f 2) h0 h1 h2
  · have h0 := bnd 0 (by omega)
    have h1 := bnd 1 (by omega)
    have h2 := bnd 2 (by omega)
    have h3 := bnd 3 (by omega)
    have c1 : countsL H tl r 3 = [f 0, f 1, f 2, f 3, f 4] := by
      show [cntW r (wrs H tl (0 + 1)), cntW r (wrs H tl (1 + 1)), cntW r (wrs H tl (2 + 1)), cntW r (wrs H tl (3 + 1)), cntW r (wrs H tl (4 + 1))] = _
      rw [eC, eC, eC, eC, eC]; rfl
    have u1 : undL sp tl r 3 = [f (-1), f (-2), f (-3)] := by
      show [cnt r ((undP sp nmOf (0 + 1) tl).filter fun p => decide (p.1 ∈ r)), cnt r ((undP sp nmOf (1 + 1) tl).filter fun p => decide (p.1 ∈ r)), cnt r ((undP sp nmOf (2 + 1) tl).filter fun p => decide (p.1 ∈ r))] = _
      rw [eU, eU, eU]; rfl
    have r0 := rec4 hd 0
    have r1 := rec4 hd (-1)
    have r2 := rec4 hd (-2)
    have r3 := rec4 hd (-3)
    simp only [Int.reduceAdd, Int.reduceNeg] at r0 r1 r2 r3
    have e4 : f 4 = -f 0 + 4 * f 1 - 6 * f 2 + 4 * f 3 := by omega
    have em1 : f (-1) = 4 * f 0 - 6 * f 1 + 4 * f 2 - f 3 := by omega
    have em2 : f (-2) = 10 * f 0 - 20 * f 1 + 15 * f 2 - 4 * f 3 := by omega
    have em3 : f (-3) = 20 * f 0 - 45 * f 1 + 36 * f 2 - 10 * f 3 := by omega
    rw [c1, u1, e4, em1, em2, em3]
    have et : List.take (3 + 1) [f 0, f 1, f 2, f 3, -f 0 + 4 * f 1 - 6 * f 2 + 4 * f 3] = [f 0, f 1, f 2, f 3] := rfl
    have esg : (-1 : Int) ^ 3 = -1 := by decide
    rw [et, difs3, esg]
    exact num3 z z1 z2 (f 0) (f 1) (f 2) (f 3) h0 h1 h2 h3
end Mine
end

section
set_option maxRecDepth 100000
open PySem
namespace Mine
theorem hor_rep (x h : Int) : ∀ n : Nat, hor x (List.replicate n h) = h * ones x n
  | 0 => by show (0 : Int) = h * 0; omega
  | n + 1 => by
    have ih := hor_rep x h n
    show h + x * hor x (List.replicate n h) = h * (1 + x * ones x n)
    rw [ih]; grind
/-- what the walk of the second half wants of a row -/
structure WF (z dn : Nat) (R : List Int) : Prop where
  small : ∀ d ∈ R, Builtin.Int.intBits d ≤ 300
  pos : 0 ≤ hor (256 ^ z) R + hor (256 ^ z) (List.replicate (dn + 1) (256 ^ z / 2))
  bits : Builtin.Int.intBits (hor (256 ^ z) R + hor (256 ^ z) (List.replicate (dn + 1) (256 ^ z / 2))) ≤ 400
  olen : (octsOf (hor (256 ^ z) R + hor (256 ^ z) (List.replicate (dn + 1) (256 ^ z / 2)))).length = (dn + 1) * z
  mir : hor 256 ((bsw z (bsw (octsOf (hor (256 ^ z) R + hor (256 ^ z) (List.replicate (dn + 1) (256 ^ z / 2)))).length (octsOf (hor (256 ^ z) R + hor (256 ^ z) (List.replicate (dn + 1) (256 ^ z / 2)))))).map fun c => (c.toNat : Int)) - hor (256 ^ z) (List.replicate (dn + 1) (256 ^ z / 2)) = hor (256 ^ z) R.reverse
theorem pow_z (z : Nat) (z2 : z ≤ 7) : (256 : Int) ^ z ≤ 72057594037927936 := by
  have h : 256 ^ z ≤ 256 ^ 7 := Nat.pow_le_pow_right (by decide) z2
  have h2 : (256 : Nat) ^ z ≤ 72057594037927936 := Nat.le_trans h (by decide)
  have h3 := Int.ofNat_le.mpr h2
  rw [Int.natCast_pow] at h3
  exact h3
theorem wf_of {z dg dn : Nat} {R C U : List Int} {sg : Int} (n : NumOk z dg R C U sg) (hl : R.length = dn + 1) (z1 : 5 ≤ z) (z2 : z ≤ 7) : WF z dn R := by
  have hp := pow_z z z2
  have e1 : hor (256 ^ z) R + hor (256 ^ z) (List.replicate (dn + 1) (256 ^ z / 2)) = hor (256 ^ z) (R.map (· + 256 ^ z / 2)) := by
    rw [hor_add, hor_rep, hl]
  obtain ⟨R', t, hR⟩ : ∃ R' t, R = R' ++ [t] := ⟨R.dropLast, R.getLast (by intro h; rw [h] at hl; simp at hl), (List.dropLast_concat_getLast _).symm⟩
  have e2 : R.map (· + (256 : Int) ^ z / 2) = R'.map (· + (256 : Int) ^ z / 2) ++ [t + 256 ^ z / 2] := by rw [hR, List.map_append]; rfl
  have ht := n.top t (by rw [hR]; simp)
  have hd : ∀ e ∈ R'.map (· + (256 : Int) ^ z / 2) ++ [t + 256 ^ z / 2], 0 ≤ e ∧ e < (256 : Int) ^ z := by
    rw [← e2]
    intro e he
    obtain ⟨y, hy, rfl⟩ := List.mem_map.mp he
    exact n.dig y hy
  have m := mirror z (by omega) _ _ hd ht
  rw [← e2] at m
  have hlen : (R'.map (· + (256 : Int) ^ z / 2)).length = dn := by
    rw [List.length_map]
    rw [hR, List.length_append] at hl
    simpa using hl
  rw [hlen] at m
  refine ⟨fun d hd' => ?_, by rw [e1]; exact n.p3, by rw [e1]; exact Nat.le_trans n.b4 (by decide), by rw [e1]; exact m.1, ?_⟩
  · have h := n.dig d hd'
    exact intBits_le_iff.mpr (Nat.lt_of_lt_of_le (show d.natAbs < 2 ^ 60 by omega) (Nat.pow_le_pow_right (by decide) (by decide)))
  · rw [e1, m.2, ← List.map_reverse, hor_add, hor_rep, List.length_reverse, hl]
    omega
end Mine
end

section
set_option maxRecDepth 100000
open PySem PySem.W PyProof.Rows PySem.Calls PySem.Spec
namespace Mine
theorem news_drop2 {g h : Heap} {L : Addr} {a b : Addr × Obj} {l : List (Addr × Obj)} (N : News g L h (a :: b :: l)) : News g L h (a :: l) := news_subl N fun p hp => by
  rcases List.mem_cons.mp hp with rfl | hp
  · exact .head _
  · exact .tail _ (.tail _ hp)
theorem body_list : lawD.body = [lawS 0, lawS 1, lawS 2, lawS 3, lawS 4, lawS 5, lawS 6, lawS 7, lawS 8, lawS 9, lawS 10, lawS 11, lawS 12, lawS 13, lawS 14, lawS 15, lawS 16, lawS 17, lawS 18, lawS 19, lawS 20, lawS 21, lawS 22] := by rfl
theorem countsL_cons (H : Int) (tl r : List Nat) (dn : Nat) : ∃ cs, countsL H tl r dn = ways (wrs H tl 1) r :: cs := by
  unfold countsL
  rw [List.range_succ_eq_map, List.map_cons, List.map_cons, cntW_ways]
  exact ⟨_, rfl⟩

set_option maxHeartbeats 4000000 in
theorem law_body (w : World) (p : Program) (loose : List Str) (mean : ExcName → Option Value) (mg mb : Str → Option Value) (dp u : Nat) (fr : Option (List Env)) (g : Heap) (s : Shared) (L' fa : Addr) (cd : Value) (Q : Flow → Shared → Prop)
    (X : (Pre.hc.heap_1 w.params).In g) (T : Top p loose mean mg mb g) (hd : dp + 300 < recursionLimit) (hu : u + 3000 < cLine) (m : Str → Option Value) (F : Fr g L' s.heap m) (o1 o2 o3 o4 o5 o6 o7 : Obj) (b65 : @LT.lt Nat _ 65 L') (b58 : @LT.lt Nat _ 58 L')
    (c62 : CodeHd g 62 58) (c69 : CodeHd g 69 65) (ls : Addr) (xs : List Value) (scr : List Int) (hl : g.IsList ls xs.toArray) (hI : IntsAre xs scr) (hcond : ¬ (63 : Int) < scr.length)
    (d1 : o1.data = .cell (some (.ref ls))) (d2 : o2.data = .cell none) (d3 : o3.data = .cell none) (d4 : o4.data = .cell none) (d5 : o5.data = .cell none) (d6 : o6.data = .cell none) (d7 : o7.data = .cell none)
    (N : News g L' s.heap [(L' + 1 + 1 + 1 + 1 + 1 + 1 + 1, o7), (L' + 1 + 1 + 1 + 1 + 1 + 1, o6), (L' + 1 + 1 + 1 + 1 + 1, o5), (L' + 1 + 1 + 1 + 1, o4), (L' + 1 + 1 + 1, o3), (L' + 1 + 1, o2), (L' + 1, o1), (65, tabObj #[]), (58, tabObj #[])])
    (ret : ∀ h' tk' ps65 ps58, (∀ b o, g.get? b = some o → h'.get? b = some o) → h'.get? 65 = some (tabObj ps65) → h'.get? 58 = some (tabObj ps58) → Q (.ret (.bool true)) { s with heap := h', toks := tk' }) :
    wpC (model PySem.Challenge.rw_zo0028_01.row.prog w) ((AR dp u fr (some [])).deeper (lenv L' fa cd)) (execs lawD.body (lenv L' fa cd)) Q (fun _ _ => False) s := by
  have hE : PassesOwn (model PySem.Challenge.rw_zo0028_01.row.prog w) ((AR dp u fr (some [])).deeper (lenv L' fa cd)) (lenv L' fa cd) (fun _ _ => False) := PassesOwn.never
  rw [body_list]
  generalize hs0 : lawS 0 = k0
  generalize hs1 : lawS 1 = k1
  generalize hs2 : lawS 2 = k2
  generalize hs3 : lawS 3 = k3
  generalize hs4 : lawS 4 = k4
  generalize hs5 : lawS 5 = k5
  generalize hs6 : lawS 6 = k6
  generalize hs7 : lawS 7 = k7
  generalize hs8 : lawS 8 = k8
  generalize hs9 : lawS 9 = k9
  generalize hs10 : lawS 10 = k10
  generalize hs11 : lawS 11 = k11
  generalize hs12 : lawS 12 = k12
  generalize hs13 : lawS 13 = k13
  generalize hs14 : lawS 14 = k14
  generalize hs15 : lawS 15 = k15
  generalize hs16 : lawS 16 = k16
  generalize hs17 : lawS 17 = k17
  generalize hs18 : lawS 18 = k18
  generalize hs19 : lawS 19 = k19
  generalize hs20 : lawS 20 = k20
  generalize hs21 : lawS 21 = k21
  generalize hs22 : lawS 22 = k22
  refine wpC_execs_cons ?_
  refine wpC_of ?_
  rw [← hs0]
  refine (@st0 w p loose mean mg mb dp u fr g _ L' fa cd _ _ X T hd hu hE _ F _ _ _ _ _ _ _ _ _ b65 b58 _ _ _ hl hI hcond d1 d2 ?_ trivial N)
  intro m0 h0 tk0 lc o2' c0 c1 c2 c3 c4 c5 t0 t1 t2 t3 t4 t5 l_lc d2' _ F N
  dsimp only
  refine wpC_execs_cons ?_
  refine wpC_of ?_
  rw [← hs1]
  refine (@st1 w p loose mean mg mb dp u fr g _ L' fa cd _ _ X T hd hu hE _ F _ _ _ _ _ _ _ _ _ b65 b58 _ _ _ _ _ _ _ _ _ _ _ _ _ d2' l_lc ?_ trivial N)
  intro m1 h1 tk1 H th hH0 hH1 kn F N
  dsimp only
  refine wpC_execs_cons ?_
  refine wpC_of ?_
  rw [← hs2]
  refine (@st2 w p loose mean mg mb dp u fr g _ L' fa cd _ _ X T hd hu hE _ F _ _ _ _ _ _ _ _ _ b65 b58 _ _ hH0 hH1 d3 _ _ _ _ _ _ _ _ _ _ _ _ _ d2' l_lc ?_ kn N)
  intro m2 h2 tk2 o3' sp tsp d3' hsp kn F N
  dsimp only
  refine wpC_execs_cons ?_
  refine wpC_of ?_
  rw [← hs3]
  refine (@st3 w p loose mean mg mb dp u fr g _ L' fa cd _ _ X T hd hu hE _ F _ _ _ _ _ _ _ _ _ b65 b58 _ _ d4 _ _ _ _ _ _ _ _ _ _ _ _ _ d2' l_lc ?_ kn N)
  intro m3 h3 tk3 nd on o4' kvs d4' hdn hkv0 hnd l_nd l_nc kn F N
  dsimp only
  refine wpC_execs_cons ?_
  refine wpC_of ?_
  rw [← hs4]
  refine (@st4 w p loose mean mg mb dp u fr g _ L' fa cd _ _ X T hd hu hE _ F _ _ _ _ _ _ _ _ _ b65 b58 _ _ _ _ l_nd _ _ _ _ _ _ _ _ _ _ _ _ _ d2' l_lc ?_ kn N)
  intro m4 h4 tk4 lp its np hSL l_lp kn F N
  dsimp only
  refine wpC_execs_cons ?_
  refine wpC_of ?_
  rw [← hs5]
  refine (@st5 w p loose mean mg mb dp u fr g _ L' fa cd _ _ X T hd hu hE _ F _ _ _ _ _ _ _ _ _ b65 b58 _ _ _ _ _ _ _ _ _ _ _ _ _ _ _ _ _ _ d2' l_lc _ _ l_nd l_lp hSL d5 ?_ kn N)
  intro m5 h5 tk5 o5' tl tt d5' htl kn F N
  dsimp only
  refine wpC_execs_cons ?_
  refine wpC_of ?_
  rw [← hs6]
  refine (@st6 w p loose mean mg mb dp u fr g _ L' fa cd _ _ X T hd hu hE _ F _ _ _ _ _ _ _ _ _ b65 b58 _ _ _ _ _ _ _ _ _ _ _ _ _ _ _ d2' l_lc _ _ l_nd ?_ kn N)
  intro m6 h6 tk6 dg tg dg1 dg2 kn F N
  dsimp only
  obtain ⟨dn, rfl⟩ : ∃ dn : Nat, dg = dn := ⟨dg.toNat, by omega⟩
  have dn1 : 2 ≤ dn := by omega
  have dn2 : dn ≤ 3 := by omega
  refine wpC_execs_cons ?_
  refine wpC_of ?_
  rw [← hs7]
  refine (@st7 w p loose mean mg mb dp u fr g _ L' fa cd _ _ X T hd hu hE _ F _ _ _ _ _ _ _ _ _ b65 b58 _ _ _ _ dn1 dn2 d6 _ _ _ _ _ _ _ _ _ _ _ _ _ d2' l_lc _ _ l_nd ?_ kn N)
  intro m7 h7 tk7 o6' r tr d6' hr kn F N
  dsimp only
  refine wpC_execs_cons ?_
  refine wpC_of ?_
  rw [← hs8]
  refine (@st8 w p loose mean mg mb dp u fr g _ L' fa cd _ _ X T hd hu hE _ F _ _ _ _ _ _ _ _ _ b65 b58 _ _ _ _ d7 _ _ _ _ _ _ _ _ _ _ _ _ _ d2' l_lc _ _ l_nd ?_ kn N)
  intro m8 h8 tk8 o7' sz tz d7' sz1 sz2 kn F N
  dsimp only
  obtain ⟨z, rfl⟩ : ∃ z : Nat, sz = z := ⟨sz.toNat, by omega⟩
  have z1 : 5 ≤ z := by omega
  have z2 : z ≤ 7 := by omega
  replace N := news_drop2 N
  refine wpC_execs_cons ?_
  refine wpC_of ?_
  rw [← hs9]
  refine (@st9 w p loose mean mg mb dp u fr g _ L' fa cd _ _ X T hd hu hE _ F _ _ _ _ _ _ _ _ _ b65 b58 _ _ _ _ dg1 dg2 _ _ l_nd ?_ kn N)
  intro m9 h9 tk9 tm kn F N
  dsimp only
  refine wpC_execs_cons ?_
  refine wpC_of ?_
  rw [← hs10]
  refine (@st10 w p loose mean mg mb dp u fr g _ L' fa cd _ _ X T hd hu hE _ F _ _ _ _ _ _ _ _ _ b65 b58 _ _ _ _ _ _ _ d5' _ _ l_nd ?_ kn N)
  intro m10 h10 tk10 lw l_lw l_ne kn F N
  dsimp only
  have emn : ((dn : Int) + 2) = ((dn + 2 : Nat) : Int) := by omega
  rw [emn] at kn
  obtain ⟨mn, hmn⟩ : ∃ mn, mn = dn + 2 := ⟨_, rfl⟩
  rw [← hmn] at kn
  have S := setup_of hH0 hH1 hsp
  have hlen := wrs_length S htl
  have hkv : ∀ c ∈ sp, ∃ t, valueAt kvs (mkS [c]) = some (Value.str (mkS (nmOf c)) t) := fun c hc => hkv0 c (S.hand.seven c hc)
  have P := plain S tl r htl dn z hr dn1 dn2 z1 z2
  have W := wf_of P.num P.len z1 z2
  refine wpC_execs_cons ?_
  refine wpC_of ?_
  rw [← hs11]
  refine (@st11 w p loose mean mg mb dp u fr g _ L' fa cd _ _ X T hd hu hE _ F _ _ _ _ _ _ _ _ _ b65 b58 H _ _ _ _ _ dn1 dn2 hmn tl _ _ _ _ _ _ _ _ l_lw l_nd l_ne d3' d4' hdn hkv S.hand.len S.wr (fun k hk => hlen k (by omega)) ?_ kn N)
  intro m11 h11 tk11 ys c hys kn F N
  dsimp only
  refine wpC_execs_cons ?_
  refine wpC_of ?_
  rw [← hs12]
  refine (@st12 w p loose mean mg mb dp u fr g _ L' fa cd _ _ X T hd hu hE _ F _ _ _ _ _ _ _ _ _ b65 b58 H _ _ _ _ dn1 dn2 tl _ _ _ _ _ _ _ l_lw l_nd l_ne d6' hr hys hlen ?_ kn N)
  intro m12 h12 tk12 lk ks hks lk65 lk58 kn F N
  dsimp only
  change IntsAre ks (countsL H tl r dn) at hks
  obtain ⟨cs, hcs⟩ := countsL_cons H tl r dn
  have hks1 := hks
  rw [hcs] at hks1
  refine wpC_execs_cons ?_
  refine wpC_of ?_
  rw [← hs13]
  refine (@st13 w p loose mean mg mb dp u fr g _ L' fa cd _ _ X T hd hu hE _ F _ _ _ _ _ _ _ _ _ b65 b58 H _ _ _ _ dn2 tl _ _ _ _ _ _ _ _ _ _ d6' hr hys hks1 (hlen 1 (by omega)) ?_ kn N)
  intro m13 h13 tk13 _ kn F N
  dsimp only
  refine wpC_execs_cons ?_
  refine wpC_of ?_
  rw [← hs14]
  refine (@st14 w p loose mean mg mb dp u fr g _ L' fa cd _ _ X T hd hu hE _ F _ _ _ _ _ _ _ _ _ b65 b58 _ _ _ _ dn2 _ _ _ _ _ hks (countsL_length H tl r dn) lk65 lk58 ?_ kn N)
  intro m14 h14 tk14 lr orw rs nr hoc hod hrs lr65 lr58 kn F N
  dsimp only
  have hrl : rs.length = dn + 1 := by rw [hrs.length]; exact P.len
  have B0 : Tb g [] #[] #[] := ⟨c62, c69, .inl rfl, .inl rfl, fun _ h => nomatch h⟩
  have a3 : @LT.lt Nat _ L' nd := by omega
  refine wpC_execs_cons ?_
  refine wpC_of ?_
  rw [← hs15]
  refine (@st15 w p loose mean mg mb dp u fr g _ L' fa cd _ _ X T hd hu hE _ F _ _ _ _ _ _ _ b65 b58 _ _ _ _ _ _ dn2 z1 z2 d7' _ _ _ _ _ _ _ _ _ hoc hod hrs P.len W.small _ _ _ B0 lr65 lk65 a3 ?_ kn N)
  intro m15 h15 tk15 tnu q65 ct1 B1 f65 kn F N
  dsimp only
  refine wpC_execs_cons ?_
  refine wpC_of ?_
  rw [← hs16]
  refine (@st16 w p loose mean mg mb dp u fr g _ L' fa cd _ _ X T hd hu hE _ F _ _ _ _ _ _ _ b65 b58 _ _ _ _ _ _ _ _ dn2 z1 z2 d7' _ _ _ _ _ _ _ _ hoc hod hrl _ _ _ B1 lr65 lk65 a3 ?_ kn N)
  intro m16 h16 tk16 tha q65b ct2 B2 f65b kn F N
  dsimp only
  refine wpC_execs_cons ?_
  refine wpC_of ?_
  rw [← hs17]
  refine (@st17 w p loose mean mg mb dp u fr g _ L' fa cd _ _ X T hd hu hE _ F _ _ _ _ _ _ _ b65 b58 _ _ _ _ _ _ _ _ W.pos W.bits _ _ _ _ _ _ _ B2 f65b lk58 a3 ?_ kn N)
  intro m17 h17 tk17 toc q58 ct3 B3 f65c f58 kn F N
  dsimp only
  refine wpC_execs_cons ?_
  rw [← hs18]
  refine (@st18 w p loose mean mg mb dp u fr g _ L' fa cd _ _ X T hd hu hE _ F _ _ _ _ _ _ _ b65 b58 _ _ _ _ _ _ _ _ _ _ _ _ dn2 z1 z2 d7' W.olen _ _ _ _ _ _ _ B3 f65c f58 ?_ kn N)
  intro m18 h18 tk18 tmi kn F N
  dsimp only
  rw [W.mir] at kn
  have num := P.num
  refine wpC_execs_cons ?_
  refine wpC_of ?_
  rw [← hs19]
  refine (@st19 w p loose mean mg mb dp u fr g _ L' fa cd _ _ X T hd hu hE _ F _ _ _ _ _ _ _ b65 b58 _ _ _ _ _ _ _ _ _ _ dn1 dn2 hmn z1 z2 d7' _ _ hks _ _ _ _ _ _ B3 f65c f58 (Nat.le_trans num.b1 (by decide)) num.p1 (by rw [hmn]; exact num.fwd) ?_ kn N)
  intro m19 h19 tk19 _ kn F N
  dsimp only
  refine wpC_execs_cons ?_
  rw [← hs20]
  refine (@st20 w p loose mean mg mb dp u fr g _ L' fa cd _ _ X T hd hu hE _ F _ _ _ _ _ _ _ b65 b58 _ _ _ _ _ _ _ dn2 tl _ _ _ _ _ d3' d4' d5' d6' hdn hkv S.hand.len hnd (by omega) (by omega) _ _ _ ?_ kn N)
  intro m20 h20 tk20 lu us hus kn F N
  dsimp only
  change IntsAre us (undL sp tl r dn) at hus
  have hul := undL_length sp tl r dn
  refine wpC_execs_cons ?_
  refine wpC_of ?_
  rw [← hs21]
  refine (@st21 w p loose mean mg mb dp u fr g _ L' fa cd _ _ X T hd hu hE _ F _ _ _ _ _ _ _ b65 b58 _ _ _ _ _ _ _ dn1 dn2 tl _ _ _ _ _ _ _ hus hul d3' d5' d6' (by omega) (by omega) S.hand.len P.back _ _ _ ?_ kn N)
  intro m21 h21 tk21 _ kn F N
  dsimp only
  refine wpC_execs_cons ?_
  refine wpC_of ?_
  rw [← hs22]
  refine (@st22 w p loose mean mg mb dp u fr g _ L' fa cd _ _ X T hd hu hE _ F _ _ _ _ _ _ _ b65 b58 _ _ _ _ _ _ _ dn1 dn2 z1 z2 _ _ _ _ _ hus d7' rfl (Nat.le_trans num.b2 (by decide)) (Nat.le_trans num.b3 (by decide)) num.p2 num.back _ _ _ B3 f65c f58 ?_ kn N)
  intro h' tk' k1 k2 k3
  exact ret h' tk' _ _ k1 k2 k3


end Mine
end

section
set_option maxRecDepth 100000
open PySem PySem.W PyProof.Rows PySem.Calls PySem.Spec
namespace Mine
set_option maxHeartbeats 8000000 in
theorem law_all : PySem.Challenge.rw_zo0028_01.Holds := by
  refine Two.hcT ?_
  unfold Pre.hc
  k_fill
  intro w s₀ s₁ mg mb G Y fa o pm cd doc dV kV ho hd hcd hD hmg hg args vals as hpre hlay hrd hwl hlo
  have KX := km_in_of Y
  km_tabs Y
  have X := (Ground.X G).1
  have V := (Ground.X G).2
  refine Ground.open G ?_
  intro T B D TE TW
  try (refine guard_noD D (by decide +kernel) ?_; clear D)
  km_lay T hmg ho hd cd
  clear hmg
  wrow_args hpre hlay hrd hwl hlo
  (rename IntsAre _ _ => hI)
  (rename Heap.IsList _ _ _ => hL)
  (rename List Int => scr)
  refine wpC_call (codeC_mono (R := fun r s' => r = .ok (.ret (.bool true)) ∧ (∀ b o, (ghostOf s₁.heap [(69, 65), (62, 58)]).get? b = some o → s'.heap.get? b = some o) ∧ GrownAll [(69, 65), (62, 58)] s'.heap ∧ s'.os = s₁.os ∧ s'.gens = #[]) ?_ ?_)
  rotate_left 1
  · rintro r s' ⟨rfl, h1, h2, h3, h4⟩
    exact good_true hT9 h1 h2 h3 h4 (fun _ => rfl) (postW_of (by wrow_shape) (by wtm_val) (by rfl))
  have he := Dflts.none hD rfl; subst he; have he := Dflts.noKw hD; subst he
  k_dflt (refine' enterLaw (by decide) ho (fd_plain hd) (Top.nolimit T) hcd ?k9 ?kB ?kD ?_ ?c2 ?c3 ?c4; (case k9 => exact BindsTo.of_eq rfl); (case kB => exact rfl); (case kD => decide +kernel); (case c2 => exact rfl); (case c3 => exact rfl); (case c4 => exact rfl); k_whole; intro L' h₁ tk cells F N Y'; k_cells Y'; (try dsimp only); (try k_fold))
  clear hd
  kn_ghosts F T
  k_drop
  (rename Fr _ _ _ _ => fF)
  (rename News _ _ _ _ => nN)
  have c62 : CodeHd (ghostOf s₁.heap [(69, 65), (62, 58)]) 62 58 := by assumption
  have c69 : CodeHd (ghostOf s₁.heap [(69, 65), (62, 58)]) 69 65 := by assumption
  (rename Heap.IsList (ghostOf _ _) _ _ => hLg)
  (rename Frag.In _ (ghostOf _ _) => Xg)
  (rename Top _ _ _ _ _ (ghostOf _ _) => Tg)
  (rename And (@LT.lt Addr _ 65 L') _ => hlow)
  refine wpC_mono (E := fun _ _ => False) ?body (fun _ _ q => q) (fun _ _ f => f.elim)
  case body =>
    refine' @law_body w _ _ _ _ _ (1 + claimMargin) 4 (some []) _ _ L' fa cd _ Xg Tg ?hd ?hu _ fF _ _ _ _ _ _ _ hlow.1 hlow.2 c62 c69 _ _ scr hLg hI ?hc ?d1 ?d2 ?d3 ?d4 ?d5 ?d6 ?d7 nN ?ret
    case hd => decide
    case hu => decide
    case hc => assumption
    case d1 => assumption
    case d2 => assumption
    case d3 => assumption
    case d4 => assumption
    case d5 => assumption
    case d6 => assumption
    case d7 => assumption
    case ret =>
      intro h' tk' q65 q58 k1 k2 k3
      exact ⟨rfl, k1, ⟨⟨_, k2⟩, ⟨_, k3⟩, trivial⟩, rfl, hg⟩

end Mine
end

set_option maxRecDepth 100000 in
theorem PySem.Challenge.cw_zo0028_01_holds : PySem.Challenge.rw_zo0028_01.Holds := by
  exact Mine.law_all
