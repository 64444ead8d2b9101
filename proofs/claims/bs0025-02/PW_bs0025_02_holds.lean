import PyProof.Rows.All
import Wide.All
import OpenK.AllK
import Wide.FinOn
import PySem.Challenge.RW_bs0025_02
open PySem PySem.W PyProof.Rows
set_option Elab.async false
set_option maxRecDepth 100000

section
namespace Fl

def noDec : Code → Bool
  | .builtin id _ => !Builtin.Bytes.decodersThatHold.contains id
  | _ => true

def BelowOk (Γ : Ctx) : Prop := ∀ x ∈ Γ.below, noDec x.1 = true
def Clean (Γ : Ctx) : Prop := noDec Γ.code = true ∧ BelowOk Γ

def wpC {α : Type} (M : Model) (A : Around) (t : Sem α) (Q : α → Shared → Prop) (s : Shared) : Prop :=
  ∀ Γ p, Γ.In A → Clean Γ → Sem.wp M Γ t (fun a _ s' => Q a s') (fun _ _ _ => False) p s

def codeC (M : Model) (A : Around) (c : Code) (R : Flow → Shared → Prop) (s : Shared) : Prop :=
  ∀ Γ p, Γ.code = c → Γ.Below A → BelowOk Γ → wpCode M Γ (fun r s' => ∃ f, r = .ok f ∧ R f s') p s

theorem Clean.enter {Γ : Ctx} (h : Clean Γ) (c : Code) (hd : Option Value) (p : Pos) : BelowOk (Γ.enter c hd p) := fun x hx => by
  rcases List.mem_cons.mp hx with rfl | hx
  · exact h.1
  · exact h.2 x hx

section
variable {α β : Type} {M : Model} {A : Around} {s : Shared}

theorem any {t : Sem α} {Q : α → Shared → Prop} (h : wpAny M A t Q (fun _ _ => False) s) : wpC M A t Q s := fun Γ p hΓ _ => h Γ p hΓ

theorem mono {t : Sem α} {Q Q' : α → Shared → Prop} (h : wpC M A t Q s) (hQ : ∀ a s, Q a s → Q' a s) : wpC M A t Q' s :=
  fun Γ p hΓ hc => Sem.wp_mono M Γ t (fun a _ s => hQ a s) (fun _ _ _ x => x) p s (h Γ p hΓ hc)

theorem pure_ {a : α} {Q : α → Shared → Prop} (h : Q a s) : wpC M A (pure a) Q s := fun _ _ _ _ => h

theorem bind_ {m : Sem α} {f : α → Sem β} {Q : β → Shared → Prop} (h : wpC M A m (fun a s' => wpC M A (f a) Q s') s) : wpC M A (m >>= f) Q s := fun Γ p hΓ hc => by
  rw [Sem.wp_bind']
  exact Sem.wp_mono M Γ m (fun a p' s' h' => h' Γ p' hΓ hc) (fun _ _ _ h' => h') p s (h Γ p hΓ hc)

theorem bindAny {m : Sem α} {f : α → Sem β} {Q : β → Shared → Prop} (h : wpAny M A m (fun a s' => wpC M A (f a) Q s') (fun _ _ => False) s) : wpC M A (m >>= f) Q s := bind_ (any h)

theorem holding_ {vs : List Value} {m : Sem α} {Q : α → Shared → Prop} (h : wpC M A m Q s) : wpC M A (holding vs m) Q s :=
  fun Γ p hΓ hc => by rw [Sem.wp_holding]; exact h Γ p hΓ hc

theorem keep_ {vs : List Value} {m : Sem α} {Q : α → Shared → Prop} (h : wpC M A m Q s) : wpC M A (m.keep vs) Q s :=
  fun Γ p hΓ hc => by rw [Sem.wp_keep]; exact h Γ p hΓ hc

theorem operate_ {vs : List Value} {m : Sem Value} {Q : Value → Shared → Prop} (h : wpC M A m Q s) : wpC M A (operate vs m) Q s :=
  fun Γ p hΓ hc => by rw [Sem.wp_operate]; exact h Γ p hΓ hc

theorem onRaise_ {m : Sem α} {k : Value → Sem Unit} {Q : α → Shared → Prop} (h : wpC M A m Q s) : wpC M A (m.onRaise k) Q s := fun Γ p hΓ hc => by
  rw [Sem.wp_onRaise]
  exact Sem.wp_mono M Γ m (fun _ _ _ h' => h') (fun _ _ _ h' => h'.elim) p s (h Γ p hΓ hc)

theorem of_eq {t : Sem α} {a : α} {Q : α → Shared → Prop} (e : t = pure a) (h : Q a s) : wpC M A t Q s := by rw [e]; exact pure_ h

theorem run_ {c : Code} {Q : Flow → Shared → Prop} (hc : codeC M A c Q s) : wpC M A (run c) Q s := fun Γ p hΓ hcl => by
  rw [Sem.wp_run]
  refine wpCode_mono (fun r s' hr => ?_) (hc _ p rfl ?_ (hcl.enter c none p))
  · obtain ⟨f, rfl, h⟩ := hr; exact h
  · have := hΓ.enter c none p (by intro x; cases x)
    exact this

theorem runValue_ {c : Code} {Q : Value → Shared → Prop} (hc : codeC M A c (fun f s' => ∃ v, f = .ret v ∧ Q v s') s) : wpC M A (runValue c) Q s := by
  refine bind_ (mono (run_ hc) fun f s' hf => ?_)
  obtain ⟨v, rfl, h⟩ := hf
  exact pure_ h

theorem call_ {f : Value} {pos : List Value} {kw : List (Str × Value)} {Q : Value → Shared → Prop}
    (hc : codeC M A (.call f ⟨pos, kw⟩) (fun f s' => ∃ v, f = .ret v ∧ Q v s') s) : wpC M A (call f pos kw) Q s := runValue_ hc

theorem runOwn_ {c : Code} {env : Env} {Q : Flow → Shared → Prop} (hc : codeC M A c Q s) : wpC M A (runOwn c env) Q s := by
  unfold runOwn; exact onRaise_ (run_ hc)

theorem codeMono {c : Code} {R R' : Flow → Shared → Prop} (h : codeC M A c R s) (hR : ∀ f s, R f s → R' f s) : codeC M A c R' s :=
  fun Γ p hc hΓ hb => wpCode_mono (fun r s' ⟨f, e, x⟩ => ⟨f, e, hR f s' x⟩) (h Γ p hc hΓ hb)

theorem codeAnyC {c : Code} {R : Flow → Shared → Prop} (h : codeAny M A c (fun r s' => ∃ f, r = .ok f ∧ R f s') s) : codeC M A c R s :=
  fun Γ p hc hΓ _ => h Γ p hc hΓ

theorem code_tree {c : Code} {R : Flow → Shared → Prop} (hn : noDec c = true)
    (h : wpC M (A.under c) (M.den c) (fun fin s' => match fin with | .done f => R f s' | .again c' => c'.quiet = true ∧ codeC M A c' R s') s) : codeC M A c R s := fun Γ p hc hΓ hb => by
  rw [wpCode_iff_wp, hc]
  refine Sem.wp_mono M Γ _ (fun fin p' s' h' => ?_) (fun _ _ _ h' => h'.elim) p s (h Γ p (hc ▸ hΓ.in) ⟨hc ▸ hn, hb⟩)
  cases fin with
  | done f => exact ⟨f, rfl, h'⟩
  | again c' => exact ⟨h'.1, h'.2 (Γ.goto c') p' rfl (hΓ.goto c') hb⟩

theorem code_loop {c : Code} {R : Flow → Shared → Prop} (hn : noDec c = true) (hq : c.quiet = true) (I : Nat → Shared → Prop)
    (turn : ∀ n s, I n s → wpC M (A.under c) (M.den c)
      (fun fin s' => match fin with | .done f => R f s' | .again c' => (c' = c ∧ ∃ m, m < n ∧ I m s') ∨ (c'.quiet = true ∧ codeC M A c' R s')) s)
    (n : Nat) (h : I n s) : codeC M A c R s := by
  induction n using Nat.strongRecOn generalizing s with
  | ind n ih =>
    refine code_tree hn (mono (turn n s h) fun fin s' hf => ?_)
    cases fin with
    | done f => exact hf
    | again c' =>
      rcases hf with ⟨rfl, m, hm, hI⟩ | hf
      · exact ⟨hq, ih m hm hI⟩
      · exact hf

end

section
variable {M : Model} {A : Around} {s : Shared} {env : Env}

theorem execs_nil_ {Q : Flow → Shared → Prop} (h : Q .next s) : wpC M A (execs [] env) Q s := fun _ _ _ _ => h

theorem execs_cons_ {st : Stmt} {rest : List Stmt} {Q : Flow → Shared → Prop}
    (h : wpC M A (exec st env) (fun f s' => match f with | .next => wpC M A (execs rest env) Q s' | f => Q f s') s) : wpC M A (execs (st :: rest) env) Q s := by
  rw [execs_cons]
  refine bind_ (mono h fun f s' h' => ?_)
  cases f <;> first | exact h' | exact pure_ h'

theorem execs_any {st : Stmt} {rest : List Stmt} {Q : Flow → Shared → Prop}
    (h : wpAny M A (exec st env) (fun f s' => match f with | .next => wpC M A (execs rest env) Q s' | f => Q f s') (fun _ _ => False) s) : wpC M A (execs (st :: rest) env) Q s :=
  execs_cons_ (any h)

theorem Assign_ {x : Str} {pos' pos : Pos} {value : Expr} {Q : Flow → Shared → Prop}
    (h : wpC M A (eval value env) (fun v s₁ => wpAny M A (storeName env x v) (fun _ => Q .next) (fun _ _ => False) s₁) s)
    (hs : swapsWith value (some (.Name x pos')) pos.line env = pure false := by rfl) : wpC M A (exec (.Assign [.Name x pos'] value pos) env) Q s := by
  rw [exec_Assign_Name env x pos' value pos hs]
  refine bindAny (wpAny_standAt (bind_ (mono h fun v s₁ h₁ => bindAny (wpAny_standAt (bindAny (wpAny_mono (wpAny_bindName h₁) (fun _ _ x => pure_ x) fun _ _ x => x))))))

theorem If_ {test : Expr} {body orelse : List Stmt} {pos : Pos} {Q : Flow → Shared → Prop}
    (h : wpC M A (isTrue test env (eval test env)) (fun b s₂ => if b then wpC M A (execs body env) Q s₂ else wpC M A (execs orelse env) Q s₂) s) : wpC M A (exec (.If test body orelse pos) env) Q s := by
  rw [exec_If]
  refine bindAny (wpAny_standAt (bind_ (mono h fun b s₂ h₂ => ?_)))
  cases b <;> exact h₂

theorem Return_ {e : Expr} {pos : Pos} {Q : Flow → Shared → Prop} (h : wpC M A (eval e env) (fun v => Q (.ret v)) s) : wpC M A (exec (.Return (some e) pos) env) Q s := by
  rw [exec_Return_some]
  exact bindAny (wpAny_standAt (bind_ (mono h fun v s' h' => pure_ h')))

theorem BinOp_ {l r : Expr} {op : Operator} {pos : Pos} {Q : Value → Shared → Prop}
    (h : wpC M A (eval l env) (fun a s₁ => wpC M A (eval r env) (fun b s₂ => wpAny M A (binaryOp op a b) Q (fun _ _ => False) s₂) s₁) s) : wpC M A (eval (.BinOp l op r pos) env) Q s := by
  rw [eval_BinOp]
  exact bind_ (mono h fun a s₁ h₁ => bind_ (holding_ (mono h₁ fun b s₂ h₂ => bindAny (wpAny_standAt (operate_ (any h₂))))))

theorem Compare_ {l r : Expr} {op : CmpOp} {pos : Pos} {Q : Value → Shared → Prop}
    (h : wpC M A (eval l env) (fun a s₁ => wpC M A (eval r env) (fun b s₂ => wpAny M A (compareOp op a b) Q (fun _ _ => False) s₂) s₁) s)
    (hm : behindInMarks op r = false := by with_unfolding_all rfl) : wpC M A (eval (.Compare l [op] [r] pos) env) Q s := by
  rw [eval_Compare1, markedBehindIn_of_false hm]
  exact bind_ (mono h fun a s₁ h₁ => bind_ (holding_ (mono h₁ fun b s₂ h₂ => bindAny (wpAny_standAt (operate_ (any h₂))))))

theorem isTrueCompare_ {l r : Expr} {op : CmpOp} {pos : Pos} {whole : Sem Value} {Q : Bool → Shared → Prop}
    (h : wpC M A (eval l env) (fun a s₁ => wpC M A (eval r env) (fun b s₂ => wpAny M A (compareOp op a b) (fun c s₃ => wpAny M A (truthy c) Q (fun _ _ => False) s₃) (fun _ _ => False) s₂) s₁) s)
    (hm : behindInMarks op r = false := by with_unfolding_all rfl) : wpC M A (isTrue (.Compare l [op] [r] pos) env whole) Q s := by
  rw [isTrue_Compare1, markedBehindIn_of_false hm]
  exact bind_ (mono h fun a s₁ h₁ => bind_ (holding_ (mono h₁ fun b s₂ h₂ => bindAny (wpAny_standAt (bind_ (operate_ (any (wpAny_mono h₂ (fun c s₃ h₃ => holding_ (any h₃)) fun _ _ x => x))))))))

theorem And_ {x y : Expr} {pos : Pos} {Q : Value → Shared → Prop}
    (h : wpC M A (eval x env) (fun v s₁ => wpAny M A (truthy v) (fun t s₂ => if t then wpC M A (eval y env) Q s₂ else Q v s₂) (fun _ _ => False) s₁) s) : wpC M A (eval (.BoolOp .And [x, y] pos) env) Q s := by
  show wpC M A (boolOp pos .And [eval x env, eval y env]) Q s
  unfold boolOp
  refine bind_ (mono h fun v s₁ h₁ => bindAny (wpAny_standAt (bind_ (holding_ (any (wpAny_mono h₁ (fun t s₂ h₂ => ?_) fun _ _ x => x))))))
  cases t with
  | false => exact pure_ h₂
  | true => unfold boolOp; exact h₂

theorem Call_ {func : Expr} {args : List Expr} {pos : Pos} {Q : Value → Shared → Prop}
    (h : wpAny M A (eval func env) (fun f s₁ => wpC M A (callWith pos f [] (backTo pos (starEach args env)) []) Q s₁) (fun _ _ => False) s)
    (he : eval (.Call func args [] pos) env = (do callWith pos (← eval func env) [] (backTo pos (starEach args env)) []) := by rfl) : wpC M A (eval (.Call func args [] pos) env) Q s := by
  rw [he]
  exact bindAny h

end

end Fl
end

section
namespace Fl
theorem ba_mro : mroOf (.type "bytearray") = pure [.type "bytearray", .type "object"] := by rw [mroOf_type]; kernel_rfl
theorem ba_lookup_new : typeLookup (.type "bytearray") "__new__" = pure (some (.builtin "bytearray.__new__")) := by rw [typeLookup_type, builtinLookup_eq_fast]; kernel_rfl
theorem ba_lookup_init : typeLookup (.type "bytearray") "__init__" = pure (some (.builtin "bytearray.__init__")) := by rw [typeLookup_type, builtinLookup_eq_fast]; kernel_rfl
theorem ba_made : Bind.madeBy (.type "bytearray") = pure (some "bytearray.__new__") := madeBy_type ba_mro ba_lookup_new (by decide +kernel)
theorem ba_sub : isSubtype (.type "bytearray") (.type "bytearray") = pure true := by rw [isSubtype_type]; kernel_rfl
theorem by_sub : isSubtype (.type "bytes") (.type "bytes") = pure true := by rw [isSubtype_type]; kernel_rfl
theorem ba_slot_init : Slot "bytearray" "__init__" "bytearray.__init__" :=
  .of (owner := "bytearray") (n := "__init__") ba_lookup_init (by decide +kernel) (by decide +kernel) (by decide +kernel)
    (by first | exact .inl (by decide +kernel) | exact .inr (by decide +kernel)) ba_sub
theorem ba_typeCall (a : Value) : checkTypeCall "bytearray" ⟨[a], []⟩ = pure () := by kernel_rfl
theorem ba_newCall (a : Value) : checkBuiltinCall "bytearray.__new__" ⟨[.type "bytearray", a], []⟩ = pure () := by kernel_rfl
theorem ba_plain_new : plainId "bytearray.__new__" = true := by decide +kernel
theorem ba_plain_init : plainId "bytearray.__init__" = true := by decide +kernel
theorem ba_entry_new : entryFor table "bytearray.__new__" = some Builtin.«list.__new__» :=
  entryFor_alias (id' := "list.__new__") (by kernel_rfl) (by decide +kernel) (by decide +kernel) (by kernel_rfl)
theorem ba_entry_init : entryFor table "bytearray.__init__" = some Builtin.«bytearray.__init__» := by first | exact entryFor_of_fast (by kernel_rfl) | exact entryFor_of_tree (by kernel_rfl)
theorem ba_release : typeLookup (.type "bytearray") "__release_buffer__" = pure (some (.builtin "bytearray.__release_buffer__")) := by rw [typeLookup_type, builtinLookup_eq_fast]; kernel_rfl
theorem by_release : typeLookup (.type "bytes") "__release_buffer__" = pure none := by rw [typeLookup_type, builtinLookup_eq_fast]; kernel_rfl
theorem ba_buffer : typeLookup (.type "bytearray") "__buffer__" = pure (some (.builtin "bytearray.__buffer__")) := by rw [typeLookup_type, builtinLookup_eq_fast]; kernel_rfl
theorem by_buffer : typeLookup (.type "bytes") "__buffer__" = pure (some (.builtin "bytes.__buffer__")) := by rw [typeLookup_type, builtinLookup_eq_fast]; kernel_rfl
theorem ba_no_index : typeLookup (.type "bytearray") "__index__" = pure none := by rw [typeLookup_type, builtinLookup_eq_fast]; kernel_rfl
theorem by_no_index : typeLookup (.type "bytes") "__index__" = pure none := by rw [typeLookup_type, builtinLookup_eq_fast]; kernel_rfl
theorem li_no_index : typeLookup (.type "list") "__index__" = pure none := by rw [typeLookup_type, builtinLookup_eq_fast]; kernel_rfl
theorem li_no_buffer : typeLookup (.type "list") "__buffer__" = pure none := by rw [typeLookup_type, builtinLookup_eq_fast]; kernel_rfl
theorem ba_bind (v : Value) : Builtin.Bytes.bindOptional "bytearray.__init__" "bytearray" ["source", "encoding", "errors"] [v] [] = pure [some v, none, none] := by kernel_rfl
theorem ba_init_ok (o v : Value) : argsOk "bytearray.__init__" ⟨[o, v], []⟩ := by kernel_rfl

set_option maxRecDepth 1000000 in
set_option maxHeartbeats 4000000 in
theorem ba_owner : ("bytearray.__new__".splitOn ".__new__").headD "" = "bytearray" := by simp +decide [String.splitOn, String.splitOnAux]

def baObj (b : Array UInt8) : Obj := { cls := .type "bytearray", data := .bytearray b }

section
variable {prog : Program} {w : World} {A : Around} {s : Shared}

theorem if_f {α : Type} {M : Model} {c : Bool} {a b : Sem α} {Q : α → Shared → Prop} (hc : c = false) (h : wpC M A b Q s) : wpC M A (if c = true then a else b) Q s := by
  subst hc; exact h
theorem if_t {α : Type} {M : Model} {c : Bool} {a b : Sem α} {Q : α → Shared → Prop} (hc : c = true) (h : wpC M A a Q s) : wpC M A (if c = true then a else b) Q s := by
  subst hc; exact h

theorem exported_ {M : Model} {v : Value} {Q : Bool → Shared → Prop} (hg : A.guards = some []) (h : Q false s) : wpC M A (Builtin.Bytes.exported v) Q s := fun Γ p hΓ hc => by
  unfold Builtin.Bytes.exported
  rw [Sem.wp_bind']
  show Sem.wp M Γ (.stack .pure) _ _ p s
  rw [Sem.wp_stack, Sem.wp_pure, Sem.wp_pure']
  have hgs := hΓ.2.2.2.1 [] hg
  rw [List.append_eq_nil_iff] at hgs
  have key : ∀ x ∈ (Γ.code, p) :: Γ.below, noDec x.1 = true ∧ x.1.isGuard = false := by
    intro x hx
    rcases List.mem_cons.mp hx with rfl | hx
    · refine ⟨hc.1, ?_⟩
      cases hq : Γ.code.isGuard with
      | false => rfl
      | true => have := hgs.1; simp [Code.guards, hq] at this
    · refine ⟨hc.2 x hx, ?_⟩
      cases hq : x.1.isGuard with
      | false => rfl
      | true =>
        have := hgs.2
        unfold guardsOf at this
        rw [List.filter_eq_nil_iff] at this
        exact absurd hq (this x.1 (List.mem_map_of_mem hx))
  rw [List.any_eq_false.mpr]
  · exact h
  · intro x hx
    obtain ⟨h1, h2⟩ := key x hx
    obtain ⟨c, q⟩ := x
    intro hcontra
    revert h1 h2 hcontra
    dsimp only
    split
    · rename_i e; cases e; intro _ h2 _; simp [Code.isGuard, guardIds] at h2
    · rename_i e; cases e; intro _ h2 _; simp [Code.isGuard, guardIds] at h2
    · rename_i e; cases e; intro _ h2 _; simp [Code.isGuard, guardIds] at h2
    · rename_i e; cases e; intro _ h2 _; simp [Code.isGuard, guardIds] at h2
    · rename_i e; cases e; intro _ h2 _; simp [Code.isGuard, guardIds] at h2
    · rename_i e; cases e
      intro h1 _ h3
      rw [Bool.and_eq_true] at h3
      simp only [noDec] at h1
      rw [h3.2] at h1
      cases h1
    · intro _ _ h3; cases h3

theorem code_builtin {id : String} {args : Args} {b : Builtin} {R : Flow → Shared → Prop} (hn : (!Builtin.Bytes.decodersThatHold.contains id) = true) (hb : entryFor table id = some b)
    (h : wpC (model prog w) (A.under (.builtin id args)) (b args) (fun fin s' => match fin with | .done f => R f s' | .again c' => c'.quiet = true ∧ codeC (model prog w) A c' R s') s) :
    codeC (model prog w) A (.builtin id args) R s := by
  refine code_tree hn ?_
  show wpC _ _ (match entryFor table id with | some b => b args | none => unsupported ((withoutEnding? id "#data").getD id)) _ s
  rw [hb]; exact h

theorem code_call_builtin {id : String} {args : Args} {b : Builtin} {R : Flow → Shared → Prop} (hp : plainId id = true) (hn : (!Builtin.Bytes.decodersThatHold.contains id) = true) (hb : entryFor table id = some b)
    (h : wpAny (model prog w) A.in1 (checkBuiltinCall id args) (fun _ s₁ => wpC (model prog w) A.in1 (b args)
      (fun fin s' => match fin with | .done f => R f s' | .again c' => c'.quiet = true ∧ codeC (model prog w) A c' R s') s₁) (fun _ _ => False) s) : codeC (model prog w) A (.call (.builtin id) args) R s := by
  refine code_tree rfl ?_
  show wpC _ A.in1 (do checkBuiltinCall id args; again (.builtin id args)) _ s
  refine bindAny (wpAny_mono h (fun _ s₁ h₁ => pure_ ⟨plainId_quiet hp args, code_builtin hn hb ?_⟩) fun _ _ x => x)
  rw [Around.under_plainId hp]
  exact h₁

theorem ba_new (a : Value) {Q₁ : Value → Shared → Prop}
    (h : Q₁ (.ref s.heap.objs.size) { s with heap := s.heap.push (baObj #[]) }) :
    codeAny (model prog w) A (.call (.builtin "bytearray.__new__") ⟨[.type "bytearray", a], []⟩) (fun r s' => ∃ f, r = .ok f ∧ ∃ v, f = .ret v ∧ Q₁ v s') s := by
  refine codeAny_of_tree ?_
  show wpAny _ A.in1 (do checkBuiltinCall "bytearray.__new__" ⟨[.type "bytearray", a], []⟩; again (.builtin "bytearray.__new__" ⟨[.type "bytearray", a], []⟩)) _ _ s
  refine wpAny_bind (wpAny_of_eq (ba_newCall a) (wpAny_pure ⟨plainId_quiet ba_plain_new _, codeAny_builtin_stack ba_entry_new rfl fun p st => ?_⟩))
  rw [Around.under_plainId ba_plain_new _]
  have hsub := ba_sub
  have hown := ba_owner
  obtain ⟨hp, g, d, tk, os⟩ := s
  simp only [hown]
  wp_walk
  exact ⟨_, rfl, _, rfl, h⟩

theorem typeCall_init {v : Value} {Q : Value → Shared → Prop}
    (hinit : wpC (model prog w) A.in1.in1 (Builtin.«bytearray.__init__» ⟨[.ref s.heap.objs.size, v], []⟩)
      (fun fin s' => fin = .done (.ret .none) ∧ Q (.ref s.heap.objs.size) s') { s with heap := s.heap.push (baObj #[]) }) :
    wpC (model prog w) A (call (.type "bytearray") [v]) Q s := by
  refine call_ (code_tree rfl ?_)
  show wpC _ _ (callAny (.type "bytearray") _) _ _
  refine pure_ ⟨Code.quiet_builtin _ (by decide +kernel), code_builtin (by decide +kernel) F.entry_type_call ?_⟩
  rw [Around.under_plain (weight_type_call_type "bytearray" [v] []) rfl]
  unfold Builtin.«type.__call__»
  dsimp only
  refine if_f (by decide) ?_
  refine if_f (by decide +kernel) ?_
  refine bind_ (of_eq (ba_typeCall v) ?_)
  refine bind_ (of_eq ba_mro ?_)
  refine if_f rfl ?_
  refine bind_ (of_eq ba_made ?_)
  dsimp only
  refine bind_ (pure_ ?_)
  have hnew := ba_new (prog := prog) (w := w) (A := A.in1) (s := s) v (Q₁ := fun o s' => o = .ref s.heap.objs.size ∧ s' = { s with heap := s.heap.push (baObj #[]) }) ⟨rfl, rfl⟩
  refine bind_ (holding_ (call_ (codeMono (codeAnyC hnew) ?_)))
  rintro f s' ⟨o, rfl, rfl, rfl⟩
  refine ⟨_, rfl, ?_⟩
  have hT : ({ s with heap := s.heap.push (baObj #[]) } : Shared).TypeIs (.ref s.heap.objs.size) "bytearray" := ⟨_, Heap.get?_push_size _ rfl, rfl⟩
  refine bindAny (wpAny_isInstance hT ba_sub ?_)
  refine if_f rfl ?_
  refine bind_ (holding_ ?_)
  unfold callSpecial?
  refine bindAny (wpAny_specialOf hT ba_lookup_init ?_)
  dsimp only
  refine holding_ (bind_ (of_eq (ba_slot_init.bind _) ?_))
  dsimp only
  refine bind_ (call_ ?_)
  refine code_call_builtin ba_plain_init (by decide +kernel) ba_entry_init (ba_slot_init.check _ _ _ _ _ _ _ _ hT (ba_init_ok _ _) ?_)
  refine mono hinit ?_
  rintro fin s' ⟨rfl, hq⟩
  dsimp only
  refine ⟨_, rfl, pure_ ?_⟩
  dsimp only
  refine if_f rfl ?_
  exact pure_ ⟨_, rfl, hq⟩
end
end Fl
end

section
namespace Fl

theorem ba_get {h : Heap} {S : Addr} {b b' : Array UInt8} (hS : h.get? S = some (baObj b)) (f : Array UInt8 → Array UInt8) (e : f b = b') : (h.update S (Obj.mapBytearray f)).get? S = some (baObj b') := by
  rw [← e]; exact Heap.get?_update_self (Obj.mapBytearray f) hS rfl

def goodInt : Value → Bool
  | .int i _ => 0 ≤ i && i < 256
  | _ => false
def byteOf? : Value → Option UInt8
  | .int i _ => some i.toNat.toUInt8
  | _ => none
theorem good_ints : ∀ {vs : List Value} {ns : List Int}, IntsAre vs ns → (∀ n ∈ ns, 0 ≤ n ∧ n < 256) → vs.takeWhile goodInt = vs ∧ vs.filterMap byteOf? = ns.map fun n => n.toNat.toUInt8
  | _, _, .nil, _ => ⟨rfl, rfl⟩
  | _, _, .cons _ _ hi, hr => by
    obtain ⟨a, b⟩ := good_ints hi fun m hm => hr m (List.mem_cons_of_mem _ hm)
    obtain ⟨r1, r2⟩ := hr _ List.mem_cons_self
    refine ⟨?_, ?_⟩
    · rw [List.takeWhile_cons_of_pos (by simp [goodInt, r1, r2]), a]
    · simp [b, byteOf?]

section
variable {prog : Program} {w : World} {A : Around} {s : Shared}

theorem ba_type {S : Addr} {b : Array UInt8} (hS : s.heap.get? S = some (baObj b)) : s.TypeIs (.ref S) "bytearray" := ⟨_, hS, rfl⟩

theorem slotIsOwn_rel {S : Addr} {b : Array UInt8} {M : Model} {Q : Bool → Shared → Prop} (hS : s.heap.get? S = some (baObj b)) (h : Q true s) : wpAny M A (Builtin.Bytes.slotIsOwn (.ref S) "__release_buffer__") Q (fun _ _ => False) s := by
  unfold Builtin.Bytes.slotIsOwn
  refine wpAny_bind (wpAny_specialOf (ba_type hS) ba_release ?_)
  dsimp only
  rw [if_neg (by decide +kernel), show "bytearray.__release_buffer__".dropRight ("__release_buffer__".length + 1) = "bytearray" from by decide +kernel]
  exact wpAny_isInstance (ba_type hS) ba_sub h

theorem slotIsOwn_buf {S : Addr} {b : Array UInt8} {M : Model} {Q : Bool → Shared → Prop} (hS : s.heap.get? S = some (baObj b)) (h : Q true s) : wpAny M A (Builtin.Bytes.slotIsOwn (.ref S) "__buffer__") Q (fun _ _ => False) s := by
  unfold Builtin.Bytes.slotIsOwn
  refine wpAny_bind (wpAny_specialOf (ba_type hS) ba_buffer ?_)
  dsimp only
  rw [if_neg (by decide +kernel), show "bytearray.__buffer__".dropRight ("__buffer__".length + 1) = "bytearray" from by decide +kernel]
  exact wpAny_isInstance (ba_type hS) ba_sub h

theorem ownRelease_ba {S : Addr} {b : Array UInt8} {M : Model} {Q : Bool → Shared → Prop} (hS : s.heap.get? S = some (baObj b)) (h : Q false s) : wpAny M A (Builtin.Bytes.ownRelease (.ref S)) Q (fun _ _ => False) s := by
  unfold Builtin.Bytes.ownRelease
  exact wpAny_bind (slotIsOwn_rel hS (wpAny_pure h))

theorem payload_ba {S : Addr} {b : Array UInt8} {M : Model} {E : Value → Shared → Prop} {Q : Array UInt8 → Shared → Prop} (hS : s.heap.get? S = some (baObj b)) (h : Q b s) : wpAny M A (Builtin.Bytes.payload (.ref S)) Q E s := by
  unfold Builtin.Bytes.payload Builtin.Bytes.payload?
  exact wpAny_bind (wpAny_bind (wpAny_load hS (wpAny_pure (wpAny_pure h))))

theorem write_ba {S : Addr} {b b' : Array UInt8} {f : Array UInt8 → Array UInt8} {M : Model} {E : Value → Shared → Prop} {Q : Unit → Shared → Prop} (hS : s.heap.get? S = some (baObj b)) (e : f b = b') (hz : b'.size ≤ sizeLine)
    (h : (s.heap.update S (Obj.mapBytearray f)).get? S = some (baObj b') → Q () { s with heap := s.heap.update S (Obj.mapBytearray f) }) : wpAny M A (Builtin.Bytes.write (.ref S) f) Q E s := by
  show wpAny _ _ (updateBytearray S f) _ _ _
  unfold updateBytearray
  refine wpAny_bind (wpAny_load hS ?_)
  show wpAny _ _ (update S (Obj.mapBytearray f) >>= fun _ => lookBehind S) _ _ _
  refine wpAny_bind (wpAny_update hS ?_)
  have h2 := ba_get hS f e
  refine wpAny_lookBehind h2 ?_ (h h2)
  show (if b'.size > sizeLine then some "bytearray:memory" else none) = none
  rw [if_neg (Nat.not_lt.mpr hz)]

theorem exportsOf_ba {S : Addr} {b : Array UInt8} {M : Model} {E : Value → Shared → Prop} {Q : Nat → Shared → Prop} (hS : s.heap.get? S = some (baObj b)) (h : Q 0 s) : wpAny M A (Builtin.Bytes.exportsOf (.ref S)) Q E s := by
  unfold Builtin.Bytes.exportsOf
  exact wpAny_bind (wpAny_load hS (wpAny_pure h))

theorem notExported {S : Addr} {b : Array UInt8} {M : Model} {Q : Bool → Shared → Prop} (hg : A.guards = some []) (hS : s.heap.get? S = some (baObj b)) (h : Q false s) :
    wpC M A (Builtin.Bytes.exported (.ref S) <||> (do return (← Builtin.Bytes.exportsOf (.ref S)) > 0)) Q s := by
  unfold orM
  refine bind_ (exported_ hg ?_)
  exact bindAny (exportsOf_ba hS (pure_ h))

theorem init_list {S l : Addr} {vs : List Value} {ns : List Int} {P : Fin → Shared → Prop} (hg : A.guards = some []) (hS : s.heap.get? S = some (baObj #[])) (hl : s.heap.IsList l vs.toArray) (hi : IntsAre vs ns) (hr : ∀ n ∈ ns, 0 ≤ n ∧ n < 256)
    (hz : ns.length ≤ sizeLine) (hQ : ∀ h', (∀ b o, b ≠ S → s.heap.get? b = some o → h'.get? b = some o) → h'.get? S = some (baObj (byteArr ns)) → P (.done (.ret .none)) { s with heap := h' }) :
    wpC (model prog w) A (Builtin.«bytearray.__init__» ⟨[.ref S, .ref l], []⟩) P s := by
  have hlS : l ≠ S := by
    rintro rfl
    obtain ⟨o, ho, hc, _⟩ := hl
    rw [hS] at ho; cases ho; exact absurd hc (by decide)
  unfold Builtin.«bytearray.__init__»
  refine bindAny (ownRelease_ba hS ?_)
  refine if_f rfl ?_
  refine bind_ (of_eq (ba_bind _) ?_)
  refine bind_ (of_eq (a := ()) rfl ?_)
  refine bind_ (of_eq (a := ()) rfl ?_)
  refine bind_ (notExported hg hS ?_)
  refine if_f rfl ?_
  refine bindAny (write_ba (f := fun _ => #[]) hS rfl (Nat.zero_le _) fun hS1 => ?_)
  have hl1 : (s.heap.update S (Obj.mapBytearray fun _ => #[])).IsList l vs.toArray := by
    obtain ⟨o, ho, r⟩ := hl
    exact ⟨o, (Heap.get?_update_other _ _ (Ne.symm hlS)).trans ho, r⟩
  have hT : ({ s with heap := s.heap.update S (Obj.mapBytearray fun _ => #[]) } : Shared).TypeIs (.ref l) "list" := Heap.IsList.typeIs hl1
  obtain ⟨ol, hol, hoc, nl, hod⟩ := id hl1
  show wpC _ _ (asStr? (.ref l) >>= _) _ _
  refine bindAny (wpAny_bind (wpAny_load hol ?_))
  rw [hod]
  refine wpAny_pure ?_
  refine if_f rfl ?_
  show wpC _ _ ((pure ()) >>= _) _ _
  refine bind_ (pure_ ?_)
  refine bindAny (wpAny_specialOf hT li_no_index ?_)
  refine if_f rfl ?_
  show wpC _ _ (Builtin.Bytes.buffer? "bytearray.__init__" (.ref l) true >>= _) _ _
  refine bindAny ?_
  unfold Builtin.Bytes.buffer?
  refine wpAny_bind (wpAny_specialOf hT li_no_buffer ?_)
  refine wpAny_bind (wpAny_specialOf hT li_no_buffer ?_)
  refine wpAny_pure ?_
  refine bindAny (wpAny_typeOf hT ?_)
  refine if_t rfl ?_
  refine bindAny (wpAny_bind (wpAny_load hol ?_))
  rw [hod]
  refine wpAny_pure ?_
  obtain ⟨g1, g2⟩ := good_ints hi hr
  have e1 : vs.toArray.toList.takeWhile goodInt = vs := g1
  have e2 : vs.toArray[vs.length]? = none := by simp
  show wpC _ _ (match vs.toArray[(vs.toArray.toList.takeWhile goodInt).length]? with
    | none => (do rule "bytearray.__init__.list-of-ints"; Builtin.Bytes.write (.ref S) (fun _ => ((vs.toArray.toList.takeWhile goodInt).filterMap byteOf?).toArray); ret .none)
    | some (.int _ _) => _ | some _ => _) _ _
  rw [e1, e2, g2]
  refine bindAny (wpAny_rule ?_)
  refine bindAny (write_ba hS1 (b' := byteArr ns) rfl (by rw [byteArr_size]; exact hz) fun hS2 => ?_)
  refine pure_ (hQ _ (fun b o hb e => ?_) hS2)
  exact (Heap.get?_update_other _ _ (Ne.symm hb)).trans ((Heap.get?_update_other _ _ (Ne.symm hb)).trans e)

theorem slotIsOwn_by {b : Array UInt8} {t : Tok} {M : Model} {Q : Bool → Shared → Prop} (h : Q true s) : wpAny M A (Builtin.Bytes.slotIsOwn (.bytes b t) "__buffer__") Q (fun _ _ => False) s := by
  have hT : s.TypeIs (.bytes b t) "bytes" := PySem.W.typeIs_bytes _ _ _
  unfold Builtin.Bytes.slotIsOwn
  refine wpAny_bind (wpAny_specialOf hT by_buffer ?_)
  dsimp only
  rw [if_neg (by decide +kernel), show "bytes.__buffer__".dropRight ("__buffer__".length + 1) = "bytes" from by decide +kernel]
  exact wpAny_isInstance hT by_sub h
theorem ownRelease_by {b : Array UInt8} {t : Tok} {M : Model} {Q : Bool → Shared → Prop} (h : Q false s) : wpAny M A (Builtin.Bytes.ownRelease (.bytes b t)) Q (fun _ _ => False) s := by
  have hT : s.TypeIs (.bytes b t) "bytes" := PySem.W.typeIs_bytes _ _ _
  unfold Builtin.Bytes.ownRelease Builtin.Bytes.slotIsOwn
  refine wpAny_bind (wpAny_bind (wpAny_specialOf hT by_release ?_))
  exact wpAny_pure (wpAny_pure h)

theorem init_bytes {S : Addr} {b : Array UInt8} {t : Tok} {P : Fin → Shared → Prop} (hg : A.guards = some []) (hS : s.heap.get? S = some (baObj #[]))
    (hz : b.size ≤ sizeLine) (hQ : ∀ h', (∀ b o, b ≠ S → s.heap.get? b = some o → h'.get? b = some o) → h'.get? S = some (baObj b) → P (.done (.ret .none)) { s with heap := h' }) :
    wpC (model prog w) A (Builtin.«bytearray.__init__» ⟨[.ref S, .bytes b t], []⟩) P s := by
  unfold Builtin.«bytearray.__init__»
  refine bindAny (ownRelease_ba hS ?_)
  refine if_f rfl ?_
  refine bind_ (of_eq (ba_bind _) ?_)
  refine bind_ (of_eq (a := ()) rfl ?_)
  refine bind_ (of_eq (a := ()) rfl ?_)
  refine bind_ (notExported hg hS ?_)
  refine if_f rfl ?_
  refine bindAny (write_ba (f := fun _ => #[]) hS rfl (Nat.zero_le _) fun hS1 => ?_)
  have hT : ({ s with heap := s.heap.update S (Obj.mapBytearray fun _ => #[]) } : Shared).TypeIs (.bytes b t) "bytes" := PySem.W.typeIs_bytes _ _ _
  show wpC _ _ (asStr? (.bytes b t) >>= _) _ _
  refine bind_ (of_eq (a := none) rfl ?_)
  refine if_f rfl ?_
  show wpC _ _ ((pure ()) >>= _) _ _
  refine bind_ (pure_ ?_)
  refine bindAny (wpAny_specialOf hT by_no_index ?_)
  refine if_f rfl ?_
  show wpC _ _ (Builtin.Bytes.buffer? "bytearray.__init__" (.bytes b t) true >>= _) _ _
  refine bindAny ?_
  unfold Builtin.Bytes.buffer?
  refine wpAny_bind (wpAny_specialOf hT by_buffer ?_)
  refine wpAny_bind (slotIsOwn_by ?_)
  rw [if_neg (by decide)]
  refine wpAny_bind (wpAny_specialOf hT by_buffer ?_)
  refine wpAny_bind (ownRelease_by ?_)
  rw [if_neg (by decide)]
  refine wpAny_bind (wpAny_of_eq (a := b) rfl ?_)
  refine wpAny_pure ?_
  refine bindAny (wpAny_rule ?_)
  refine bindAny (write_ba hS1 (b' := b) rfl hz fun hS2 => ?_)
  refine pure_ (hQ _ (fun b o hb e => ?_) hS2)
  exact (Heap.get?_update_other _ _ (Ne.symm hb)).trans ((Heap.get?_update_other _ _ (Ne.symm hb)).trans e)

theorem init_ba {S l : Addr} {b : Array UInt8} {P : Fin → Shared → Prop} (hg : A.guards = some []) (hS : s.heap.get? S = some (baObj #[])) (hl : s.heap.get? l = some (baObj b)) (hlS : l ≠ S)
    (hz : b.size ≤ sizeLine) (hQ : ∀ h', (∀ b o, b ≠ S → s.heap.get? b = some o → h'.get? b = some o) → h'.get? S = some (baObj b) → P (.done (.ret .none)) { s with heap := h' }) :
    wpC (model prog w) A (Builtin.«bytearray.__init__» ⟨[.ref S, .ref l], []⟩) P s := by
  unfold Builtin.«bytearray.__init__»
  refine bindAny (ownRelease_ba hS ?_)
  refine if_f rfl ?_
  refine bind_ (of_eq (ba_bind _) ?_)
  refine bind_ (of_eq (a := ()) rfl ?_)
  refine bind_ (of_eq (a := ()) rfl ?_)
  refine bind_ (notExported hg hS ?_)
  refine if_f rfl ?_
  refine bindAny (write_ba (f := fun _ => #[]) hS rfl (Nat.zero_le _) fun hS1 => ?_)
  have hl1 : (s.heap.update S (Obj.mapBytearray fun _ => #[])).get? l = some (baObj b) := (Heap.get?_update_other _ _ (Ne.symm hlS)).trans hl
  have hT : ({ s with heap := s.heap.update S (Obj.mapBytearray fun _ => #[]) } : Shared).TypeIs (.ref l) "bytearray" := ⟨_, hl1, rfl⟩
  show wpC _ _ (asStr? (.ref l) >>= _) _ _
  refine bindAny (wpAny_bind (wpAny_load hl1 ?_))
  refine wpAny_pure ?_
  refine if_f rfl ?_
  show wpC _ _ ((pure ()) >>= _) _ _
  refine bind_ (pure_ ?_)
  refine bindAny (wpAny_specialOf hT ba_no_index ?_)
  refine if_f rfl ?_
  show wpC _ _ (Builtin.Bytes.buffer? "bytearray.__init__" (.ref l) true >>= _) _ _
  refine bindAny ?_
  unfold Builtin.Bytes.buffer?
  refine wpAny_bind (wpAny_specialOf hT ba_buffer ?_)
  refine wpAny_bind (slotIsOwn_buf hl1 ?_)
  rw [if_neg (by decide)]
  refine wpAny_bind (wpAny_specialOf hT ba_buffer ?_)
  refine wpAny_bind (ownRelease_ba hl1 ?_)
  rw [if_neg (by decide)]
  refine wpAny_bind (payload_ba hl1 ?_)
  refine wpAny_pure ?_
  refine bindAny (wpAny_rule ?_)
  refine bindAny (write_ba hS1 (b' := b) rfl hz fun hS2 => ?_)
  refine pure_ (hQ _ (fun b o hb e => ?_) hS2)
  exact (Heap.get?_update_other _ _ (Ne.symm hb)).trans ((Heap.get?_update_other _ _ (Ne.symm hb)).trans e)

theorem push_old {h : Heap} {o : Obj} {b : Addr} {x : Obj} (e : h.get? b = some x) : b ≠ h.objs.size := Nat.ne_of_lt (Heap.lt_size e)

theorem bytearray_list {l : Addr} {vs : List Value} {ns : List Int} {Q : Value → Shared → Prop} (hg : A.guards = some []) (hl : s.heap.IsList l vs.toArray) (hi : IntsAre vs ns) (hr : ∀ n ∈ ns, 0 ≤ n ∧ n < 256) (hz : ns.length ≤ sizeLine)
    (hQ : ∀ h', (∀ b o, s.heap.get? b = some o → h'.get? b = some o) → h'.get? s.heap.objs.size = some (baObj (byteArr ns)) → Q (.ref s.heap.objs.size) { s with heap := h' }) :
    wpC (model prog w) A (call (.type "bytearray") [.ref l]) Q s := by
  refine typeCall_init (init_list (A := A.in1.in1) hg (Heap.get?_push_size _ rfl) (hl.push _) hi hr hz fun h' k e => ⟨rfl, ?_⟩)
  exact hQ h' (fun b o eb => k b o (Nat.ne_of_lt (Heap.lt_size eb)) (Heap.get?_push_of_some _ eb)) e
theorem bytearray_bytes {b : Array UInt8} {t : Tok} {Q : Value → Shared → Prop} (hg : A.guards = some []) (hz : b.size ≤ sizeLine)
    (hQ : ∀ h', (∀ b o, s.heap.get? b = some o → h'.get? b = some o) → h'.get? s.heap.objs.size = some (baObj b) → Q (.ref s.heap.objs.size) { s with heap := h' }) :
    wpC (model prog w) A (call (.type "bytearray") [.bytes b t]) Q s := by
  refine typeCall_init (init_bytes (A := A.in1.in1) hg (Heap.get?_push_size _ rfl) hz fun h' k e => ⟨rfl, ?_⟩)
  exact hQ h' (fun b o eb => k b o (Nat.ne_of_lt (Heap.lt_size eb)) (Heap.get?_push_of_some _ eb)) e
theorem bytearray_ba {l : Addr} {b : Array UInt8} {Q : Value → Shared → Prop} (hg : A.guards = some []) (hl : s.heap.get? l = some (baObj b)) (hz : b.size ≤ sizeLine)
    (hQ : ∀ h', (∀ b o, s.heap.get? b = some o → h'.get? b = some o) → h'.get? s.heap.objs.size = some (baObj b) → Q (.ref s.heap.objs.size) { s with heap := h' }) :
    wpC (model prog w) A (call (.type "bytearray") [.ref l]) Q s := by
  refine typeCall_init (init_ba (A := A.in1.in1) hg (Heap.get?_push_size _ rfl) (Heap.get?_push_of_some _ hl) (Nat.ne_of_lt (Heap.lt_size hl)) hz fun h' k e => ⟨rfl, ?_⟩)
  exact hQ h' (fun b o eb => k b o (Nat.ne_of_lt (Heap.lt_size eb)) (Heap.get?_push_of_some _ eb)) e
end
end Fl
end

section
open PySem.Calls
namespace Fl
open Builtin

theorem ba_slot_len : Slot "bytearray" "__len__" "bytearray.__len__" :=
  .of (owner := "bytearray") (n := "__len__") (by rw [typeLookup_type, builtinLookup_eq_fast]; kernel_rfl) (by decide +kernel) (by decide +kernel) (by decide +kernel)
    (by first | exact .inl (by decide +kernel) | exact .inr (by decide +kernel)) ba_sub
theorem ba_slot_get : Slot "bytearray" "__getitem__" "bytearray.__getitem__" :=
  .of (owner := "bytearray") (n := "__getitem__") (by rw [typeLookup_type, builtinLookup_eq_fast]; kernel_rfl) (by decide +kernel) (by decide +kernel) (by decide +kernel)
    (by first | exact .inl (by decide +kernel) | exact .inr (by decide +kernel)) ba_sub
theorem ba_slot_set : Slot "bytearray" "__setitem__" "bytearray.__setitem__" :=
  .of (owner := "bytearray") (n := "__setitem__") (by rw [typeLookup_type, builtinLookup_eq_fast]; kernel_rfl) (by decide +kernel) (by decide +kernel) (by decide +kernel)
    (by first | exact .inl (by decide +kernel) | exact .inr (by decide +kernel)) ba_sub
theorem ba_slot_iter : Slot "bytearray" "__iter__" "bytearray.__iter__" :=
  .of (owner := "bytearray") (n := "__iter__") (by rw [typeLookup_type, builtinLookup_eq_fast]; kernel_rfl) (by decide +kernel) (by decide +kernel) (by decide +kernel)
    (by first | exact .inl (by decide +kernel) | exact .inr (by decide +kernel)) ba_sub
theorem bi_slot_next : Slot "bytearray_iterator" "__next__" "bytearray_iterator.__next__" :=
  .of (owner := "bytearray_iterator") (n := "__next__") (by rw [typeLookup_type, builtinLookup_eq_fast]; kernel_rfl) (by decide +kernel) (by decide +kernel) (by decide +kernel)
    (by first | exact .inl (by decide +kernel) | exact .inr (by decide +kernel)) (by rw [isSubtype_type]; kernel_rfl)
theorem bi_slot_self : Slot "bytearray_iterator" "__iter__" "bytearray_iterator.__iter__" :=
  .of (owner := "bytearray_iterator") (n := "__iter__") (by rw [typeLookup_type, builtinLookup_eq_fast]; kernel_rfl) (by decide +kernel) (by decide +kernel) (by decide +kernel)
    (by first | exact .inl (by decide +kernel) | exact .inr (by decide +kernel)) (by rw [isSubtype_type]; kernel_rfl)
theorem ba_entry_len : entryFor table "bytearray.__len__" = some Builtin.«bytearray.__len__» := entryFor_of_fast (by kernel_rfl)
theorem ba_entry_get : entryFor table "bytearray.__getitem__" = some Builtin.«bytearray.__getitem__» := entryFor_of_fast (by kernel_rfl)
theorem ba_entry_set : entryFor table "bytearray.__setitem__" = some Builtin.«bytearray.__setitem__» := entryFor_of_fast (by kernel_rfl)
theorem ba_entry_iter : entryFor table "bytearray.__iter__" = some Builtin.«bytearray.__iter__» := entryFor_of_fast (by kernel_rfl)
theorem bi_entry_next : entryFor table "bytearray_iterator.__next__" = some Builtin.«bytearray_iterator.__next__» := entryFor_of_fast (by kernel_rfl)
theorem bi_entry_self : entryFor table "bytearray_iterator.__iter__" = some Builtin.«dict_keyiterator.__iter__» := entryFor_alias (id' := "dict_keyiterator.__iter__") (by kernel_rfl) rfl (by decide +kernel) (by kernel_rfl)
theorem ba_args_len (a : Value) : argsOk "bytearray.__len__" ⟨[a], []⟩ := by unfold argsOk; kernel_rfl
theorem ba_args_get (a b : Value) : argsOk "bytearray.__getitem__" ⟨[a, b], []⟩ := by unfold argsOk; kernel_rfl
theorem ba_args_set (a b c : Value) : argsOk "bytearray.__setitem__" ⟨[a, b, c], []⟩ := by unfold argsOk; kernel_rfl
theorem ba_args_iter (a : Value) : argsOk "bytearray.__iter__" ⟨[a], []⟩ := by unfold argsOk; kernel_rfl
theorem bi_args_next (a : Value) : argsOk "bytearray_iterator.__next__" ⟨[a], []⟩ := by unfold argsOk; kernel_rfl
theorem bi_args_self (a : Value) : argsOk "bytearray_iterator.__iter__" ⟨[a], []⟩ := by unfold argsOk; kernel_rfl
theorem int_no_index_none : typeLookup (.type "int") "__index__" = pure (some (.builtin "int.__index__")) := F.slot_int_index.lookup
theorem ba_plain_set : plainId "bytearray.__setitem__" = true := by decide +kernel

section
variable {prog : Program} {w : World} {A : Around} {E : Value → Shared → Prop} {s : Shared}

theorem meets_ba_len (a : Addr) (b : Array UInt8) : Meets («bytearray.__len__» ⟨[.ref a], []⟩) (fun _ R s => s.heap.get? a = some (baObj b) ∧ R (.ok (.ret (.int b.size s.toks))) { s with toks := s.toks + 1 }) := by
  refine .of_wp fun prog w A R s hS => ?_
  obtain ⟨ha, h⟩ := hS
  show wpAny _ _ (Bytes.payload (.ref a) >>= fun r => _) _ _ s
  refine wpAny_bind (payload_ba ha ?_)
  exact wpAny_bind (wpAny_mkInt (wpAny_pure ⟨_, rfl, h⟩))

theorem len_ba {a : Addr} {b : Array UInt8} {Q : Value → Shared → Prop} (ha : s.heap.get? a = some (baObj b)) (hz : b.size ≤ 1099511627776) (h : ∀ t k, Q (.int b.size t) { s with toks := k }) :
    wpAny (model prog w) A (call (.builtin "len") [.ref a]) Q E s := by
  refine Calls.call_function_entry kind_len plain_len entry_len (args_len1 _) ?_
  unfold Builtin.«len»
  refine wpAny_bind (m := oneArg "len" _) (wpAny_pure ?_)
  refine wpAny_bind (m := callSpecial? (.ref a) (Str.ofString "__len__")) (wpAny_callSpecial?_slot (name := Str.ofString "__len__") (ba_type ha) ba_slot_len (call_meets ba_slot_len (ba_type ha) ba_entry_len (ba_args_len _) (meets_ba_len a b) ⟨ha, ?_⟩))
  show wpAny _ _ _ _ _ { s with toks := s.toks + 1 }
  refine wpAny_bind (wpAny_holding (wpAny_pure ?_))
  refine wpAny_bind (wpAny_letGo ?_)
  show wpAny _ _ (if (b.size : Int) < 0 then _ else _) _ _ _
  rw [if_neg (by omega)]
  show wpAny _ _ (if (b.size : Int) ≥ 2 ^ 63 then _ else _) _ _ _
  rw [if_neg (by omega)]
  exact wpAny_bind (wpAny_mkInt (wpAny_pure ⟨_, rfl, h _ _⟩))

theorem sliceParts_ints {M : Model} {sl : Addr} {i j : Int} {t u : Tok} {Q : Value × Value × Value → Shared → Prop} (hs : s.heap.IsSliceOf sl (.int i t) (.int j u) .none) (h : Q (rawInt i, rawInt j, .none) s) :
    wpAny M A (Bytes.sliceParts (.ref sl)) Q E s := by
  obtain ⟨o, ho, hc, hd⟩ := hs
  unfold Bytes.sliceParts
  refine wpAny_bind (wpAny_field (x := .none) ho hd rfl ?_)
  refine wpAny_bind (wpAny_of_eq (a := .none) rfl ?_)
  rw [if_neg (show ¬ ((Value.none == rawInt 0) = true) from Bool.false_ne_true)]
  refine wpAny_bind (wpAny_field (x := .int i t) ho hd rfl ?_)
  refine wpAny_bind ?_
  show wpAny M A (if (Value.int i t == Value.none) = true then _ else _) _ _ _
  rw [if_neg (show ¬ ((Value.int i t == Value.none) = true) from Bool.false_ne_true)]
  refine wpAny_bind (wpAny_specialOf (T := "int") (typeIs_int s i t) int_index ?_)
  simp only [Option.isNone_some, Bool.false_eq_true, if_false]
  refine wpAny_bind (wpAny_of_eq (a := i) rfl (wpAny_pure ?_))
  refine wpAny_bind (wpAny_field (x := .int j u) ho hd rfl ?_)
  refine wpAny_bind ?_
  show wpAny M A (if (Value.int j u == Value.none) = true then _ else _) _ _ _
  rw [if_neg (show ¬ ((Value.int j u == Value.none) = true) from Bool.false_ne_true)]
  refine wpAny_bind (wpAny_specialOf (T := "int") (typeIs_int s j u) int_index ?_)
  simp only [Option.isNone_some, Bool.false_eq_true, if_false]
  refine wpAny_bind (wpAny_of_eq (a := j) rfl (wpAny_pure ?_))
  exact wpAny_pure h

theorem subscript_int {M : Model} {i : Int} {t : Tok} {Q : Option Int → Shared → Prop} (hr : Bytes.fitsIndex i = true) (h : Q (some i) s) : wpAny M A (Bytes.subscript? (.int i t)) Q E s := by
  unfold Bytes.subscript?
  refine wpAny_bind (wpAny_specialOf (typeIs_int s i t) F.slot_int_index.lookup ?_)
  show wpAny M A (if (!Bytes.fitsIndex i) = true then _ else pure (some i)) _ E s
  rw [hr]
  exact wpAny_pure h

theorem subscript_slice {M : Model} {sl : Addr} {l u v : Value} {Q : Option Int → Shared → Prop} (hs : s.heap.IsSliceOf sl l u v) (h : Q none s) : wpAny M A (Bytes.subscript? (.ref sl)) Q E s := by
  obtain ⟨o, ho, hc, hd⟩ := hs
  unfold Bytes.subscript?
  exact wpAny_bind (wpAny_specialOf (T := "slice") ⟨o, ho, hc⟩ slice_no_index (wpAny_pure h))

theorem byteValue_int {M : Model} {i : Int} {t : Tok} {Q : UInt8 → Shared → Prop} (h0 : 0 ≤ i) (h1 : i < 256) (h : Q i.toNat.toUInt8 s) : wpAny M A (Bytes.byteValue (.int i t)) Q E s := by
  unfold Bytes.byteValue
  refine wpAny_bind (wpAny_of_eq (a := i) rfl ?_)
  rw [if_neg (by simp; omega)]
  exact wpAny_pure h

theorem meets_ba_slice (a sl : Addr) (b : Array UInt8) (i j : Int) (t u : Tok) : Meets («bytearray.__getitem__» ⟨[.ref a, .ref sl], []⟩)
    (fun _ R s => s.heap.get? a = some (baObj b) ∧ s.heap.IsSliceOf sl (.int i t) (.int j u) .none ∧ (KBy.picked b (some i) (some j)).size ≤ sizeLine ∧
      R (.ok (.ret (.ref s.heap.objs.size))) { s with heap := s.heap.push (baObj (KBy.picked b (some i) (some j))) }) := by
  refine .of_wp fun prog w A R s hS => ?_
  obtain ⟨ha, hs, hz, h⟩ := hS
  show wpAny _ _ (Bytes.subscript? (.ref sl) >>= fun r => _) _ _ s
  refine wpAny_bind (subscript_slice hs ?_)
  have hT : s.TypeIs (.ref sl) "slice" := by obtain ⟨o, ho, hc, _⟩ := hs; exact ⟨o, ho, hc⟩
  refine wpAny_bind (wpAny_typeOf hT ?_)
  rw [if_neg (by decide)]
  refine wpAny_bind (sliceParts_ints hs ?_)
  refine wpAny_bind (payload_ba ha ?_)
  refine wpAny_bind (wpAny_of_eq (sliceIndices_raw (some i) (some j) none b.size (fun e => nomatch e)) ?_)
  refine wpAny_bind ?_
  unfold Bytes.newBytearray
  exact wpAny_newObj_type (wpAny_pure ⟨_, rfl, h⟩) hz

theorem meets_ba_setInt (a : Addr) (b : Array UInt8) (k v : Int) (t u : Tok) (h0 : 0 ≤ k) (h1 : k < b.size) (hz : b.size ≤ sizeLine) (v0 : 0 ≤ v) (v1 : v < 256) : Meets («bytearray.__setitem__» ⟨[.ref a, .int k t, .int v u], []⟩)
    (fun _ R s => s.heap.get? a = some (baObj b) ∧
      (∀ h', Heap.SameBut a s.heap h' → h'.get? a = some (baObj (b.setIfInBounds k.toNat v.toNat.toUInt8)) → R (.ok (.ret .none)) { s with heap := h' })) := by
  refine .of_wp fun prog w A R s hS => ?_
  obtain ⟨ha, h⟩ := hS
  show wpAny _ _ (Bytes.subscript? (.int k t) >>= fun r => _) _ _ s
  rw [sizeLine_eq] at hz
  refine wpAny_bind (subscript_int (by simp only [Bytes.fitsIndex, Bool.and_eq_true, decide_eq_true_eq]; omega) ?_)
  refine wpAny_bind (byteValue_int v0 v1 ?_)
  refine wpAny_bind (payload_ba ha ?_)
  have e : seqIndex? k b.size = some k.toNat := by
    have hn : ¬ k < 0 := by omega
    simp [seqIndex?, hn, h0, h1]
  rw [e]
  refine wpAny_bind (write_ba ha (b' := b.setIfInBounds k.toNat v.toNat.toUInt8) rfl (by rw [Array.size_setIfInBounds, sizeLine_eq]; omega) fun h2 => ?_)
  exact wpAny_pure ⟨_, rfl, h _ (Heap.SameBut.update ..) h2⟩

theorem setItem_ba {a : Addr} {b : Array UInt8} {k v : Int} {t u : Tok} {Q : Unit → Shared → Prop} (ha : s.heap.get? a = some (baObj b)) (h0 : 0 ≤ k) (h1 : k < b.size) (hz : b.size ≤ sizeLine) (v0 : 0 ≤ v) (v1 : v < 256)
    (h : ∀ h', Heap.SameBut a s.heap h' → h'.get? a = some (baObj (b.setIfInBounds k.toNat v.toNat.toUInt8)) → Q () { s with heap := h' }) :
    wpAny (model prog w) A (setItem (.ref a) (.int k t) (.int v u)) Q E s := by
  unfold setItem
  refine wpAny_holding ?_
  refine wpAny_bind (wpAny_sequenceKey (ba_type ha) (by decide) ?_)
  refine wpAny_bind (wpAny_callSpecial?_slot (name := Str.ofString "__setitem__") (ba_type ha) ba_slot_set (call_meets ba_slot_set (ba_type ha) ba_entry_set (ba_args_set _ _ _) (meets_ba_setInt a b k v t u h0 h1 hz v0 v1) ⟨ha, fun h' hs hg => ?_⟩))
  exact wpAny_pure (h h' hs hg)

theorem orM_ff {M : Model} {x y : Sem Bool} {Q : Bool → Shared → Prop} (h : wpAny M A x (fun b s' => b = false ∧ wpAny M A y Q E s') E s) : wpAny M A (x <||> y) Q E s := by
  unfold orM
  refine wpAny_bind (wpAny_mono h (fun b s' hb => ?_) fun _ _ e => e)
  obtain ⟨rfl, h'⟩ := hb
  exact h'

end

theorem li_no_int : typeLookup (.type "list") "__int__" = pure none := by rw [typeLookup_type, builtinLookup_eq_fast]; kernel_rfl
theorem li_no_float : typeLookup (.type "list") "__float__" = pure none := by rw [typeLookup_type, builtinLookup_eq_fast]; kernel_rfl
theorem li_sub_complex : isSubtype (.type "list") (.type "complex") = pure false := by rw [isSubtype_type]; kernel_rfl
theorem li_sub_ba : isSubtype (.type "list") (.type "bytearray") = pure false := by rw [isSubtype_type]; kernel_rfl

section
variable {prog : Program} {w : World} {A : Around} {s : Shared}

theorem ba_setSlice {a sl l : Addr} {b : Array UInt8} {vs : List Value} {ns : List Int} {i j : Int} {t u : Tok} {P : Fin → Shared → Prop} (hg : A.guards = some []) (ha : s.heap.get? a = some (baObj b)) (hs : s.heap.IsSliceOf sl (.int i t) (.int j u) .none)
    (hl : s.heap.IsList l vs.toArray) (hi : IntsAre vs ns) (hr : ∀ n ∈ ns, 0 ≤ n ∧ n < 256) (hz : b.size ≤ sizeLine) (h0 : 0 ≤ i) (hj : j = i + ns.length) (h1 : j ≤ b.size)
    (h : ∀ h', (∀ c o, c ≠ a → s.heap.get? c = some o → h'.get? c = some o) → h'.get? a = some (baObj (b.extract 0 i.toNat ++ byteArr ns ++ b.extract j.toNat b.size)) → P (.done (.ret .none)) { s with heap := h' }) :
    wpC (model prog w) A (Builtin.«bytearray.__setitem__» ⟨[.ref a, .ref sl, .ref l], []⟩) P s := by
  have hla : a ≠ l := by
    rintro rfl
    obtain ⟨o, ho, hc, _⟩ := hl
    rw [ha] at ho; cases ho; simp [baObj] at hc
  have hT : s.TypeIs (.ref sl) "slice" := by obtain ⟨o, ho, hc, _⟩ := hs; exact ⟨o, ho, hc⟩
  have hTl : s.TypeIs (.ref l) "list" := hl.typeIs
  have hz' := hz
  rw [sizeLine_eq] at hz'
  have hnz : ns.length ≤ sizeLine := by rw [sizeLine_eq]; omega
  unfold Builtin.«bytearray.__setitem__»
  refine if_f rfl ?_
  refine bindAny (subscript_slice hs ?_)
  refine bindAny (wpAny_typeOf hT ?_)
  refine if_f rfl ?_
  refine bindAny (sliceParts_ints hs ?_)
  refine if_f (by simp [Bytes.sameRef, hla]) ?_
  refine bindAny (wpAny_isInstance hTl li_sub_ba ?_)
  refine if_t rfl ?_
  refine bindAny (orM_ff (wpAny_bind (wpAny_specialOf hTl li_no_index (wpAny_pure ⟨rfl, ?_⟩))))
  refine orM_ff (wpAny_bind (wpAny_specialOf hTl li_no_int (wpAny_pure ⟨rfl, ?_⟩)))
  refine orM_ff (wpAny_bind (wpAny_specialOf hTl li_no_float (wpAny_pure ⟨rfl, ?_⟩)))
  refine wpAny_isInstance hTl li_sub_complex ?_
  obtain ⟨ol, hol, hoc, nl, hod⟩ := id hl
  refine bindAny (wpAny_bind (wpAny_load hol ?_))
  rw [hod]
  refine wpAny_pure ?_
  refine if_f rfl ?_
  refine bindAny (wpAny_rule ?_)
  refine bind_ (bytearray_list hg hl hi hr hnz fun h' hk hb => ?_)
  have hs' : h'.IsSliceOf sl (.int i t) (.int j u) .none := by obtain ⟨o, ho, r⟩ := hs; exact ⟨o, hk _ _ ho, r⟩
  have ha' := hk _ _ ha
  refine bind_ (holding_ (any (sliceParts_ints (s := { s with heap := h' }) hs' ?_)))
  refine bindAny (payload_ba (s := { s with heap := h' }) hb ?_)
  refine bindAny (payload_ba (s := { s with heap := h' }) ha' ?_)
  refine bind_ (of_eq (sliceIndices_raw (some i) (some j) none b.size (fun e => nomatch e)) ?_)
  have hlo : ((clipAt b.size i : Nat) : Int) = i := by rw [clipAt_cast, if_neg (by omega)]; omega
  have hhi : ((clipAt b.size j : Nat) : Int) = j := by rw [clipAt_cast, if_neg (by omega)]; omega
  rw [sliceBounds_plain]
  simp only [Option.elim, hlo, hhi]
  refine if_t rfl ?_
  refine bindAny (wpAny_rule ?_)
  have hmax : max i j = j := by omega
  refine if_f ?_ ?_
  · rw [byteArr_size, hmax, hj]; simp; omega
  refine bindAny (write_ba (s := { s with heap := h' }) ha' (b' := b.extract 0 i.toNat ++ byteArr ns ++ b.extract j.toNat b.size) ?_ ?_ fun h2 => ?_)
  · rw [hmax]
  · rw [sizeLine_eq]; simp only [Array.size_append, Array.size_extract, byteArr_size]; omega
  exact pure_ (h _ (fun c o hc e => (Heap.get?_update_other _ _ (Ne.symm hc)).trans (hk c o e)) h2)

theorem setItem_slice {a sl l : Addr} {b : Array UInt8} {vs : List Value} {ns : List Int} {i j : Int} {t u : Tok} {Q : Unit → Shared → Prop} (hg : A.guards = some []) (ha : s.heap.get? a = some (baObj b)) (hs : s.heap.IsSliceOf sl (.int i t) (.int j u) .none)
    (hl : s.heap.IsList l vs.toArray) (hi : IntsAre vs ns) (hr : ∀ n ∈ ns, 0 ≤ n ∧ n < 256) (hz : b.size ≤ sizeLine) (h0 : 0 ≤ i) (hj : j = i + ns.length) (h1 : j ≤ b.size)
    (h : ∀ h', (∀ c o, c ≠ a → s.heap.get? c = some o → h'.get? c = some o) → h'.get? a = some (baObj (b.extract 0 i.toNat ++ byteArr ns ++ b.extract j.toNat b.size)) → Q () { s with heap := h' }) :
    wpC (model prog w) A (setItem (.ref a) (.ref sl) (.ref l)) Q s := by
  unfold setItem
  refine holding_ ?_
  refine bindAny (wpAny_sequenceKey (ba_type ha) (by decide) ?_)
  unfold callSpecial?
  refine bind_ (bindAny (wpAny_specialOf (ba_type ha) ba_slot_set.lookup ?_))
  dsimp only
  refine holding_ (bind_ (of_eq (ba_slot_set.bind _) ?_))
  dsimp only
  refine bind_ (call_ ?_)
  refine code_call_builtin ba_plain_set (by decide +kernel) ba_entry_set (ba_slot_set.check _ _ _ _ _ _ _ _ (ba_type ha) (ba_args_set _ _ _) ?_)
  refine mono (ba_setSlice (A := A.in1) (P := fun fin s' => fin = .done (.ret .none) ∧ Q () s') hg ha hs hl hi hr hz h0 hj h1 fun h' hk hb => ⟨rfl, h h' hk hb⟩) ?_
  rintro fin s' ⟨rfl, hq⟩
  exact ⟨_, rfl, pure_ (pure_ hq)⟩
end

def IsBaIter (h : Heap) (a l : Addr) (i : Nat) : Prop := ∃ o, h.get? a = some o ∧ o.cls = .type "bytearray_iterator" ∧ o.data = .fields #[.ref l, .int i 0]
theorem iter_typeIs {s : Shared} {a l : Addr} {i : Nat} (y : IsBaIter s.heap a l i) : s.TypeIs (.ref a) "bytearray_iterator" :=
  let ⟨o, ho, hc, _⟩ := y; ⟨o, ho, hc⟩

section
variable {prog : Program} {w : World} {A : Around} {E : Value → Shared → Prop} {s : Shared}

theorem pyIter_ba {l : Addr} {b : Array UInt8} {Q : Value → Shared → Prop} (hl : s.heap.get? l = some (baObj b)) (hQ : Q (.ref s.heap.objs.size) { s with heap := s.heap.push { cls := .type "bytearray_iterator", data := .fields #[.ref l, .int 0 0] } }) :
    wpAny (model prog w) A (pyIter (.ref l)) Q E s := by
  refine wpAny_pyIter_slot (ba_type hl) ba_slot_iter (wpAny_call_entry ba_slot_iter (ba_type hl) ba_entry_iter ?_ (ba_args_iter _))
  show wpAny _ _ (do ret (← newFields "bytearray_iterator" [.ref l, rawInt 0])) _ _ s
  exact wpAny_bind (wpAny_newObj_type (wpAny_pure ⟨_, rfl, "bytearray_iterator", _, ⟨_, Heap.get?_push_size _ rfl, rfl⟩, bi_slot_next.lookup, hQ⟩))

theorem pyIter_bself {it l : Addr} {i : Nat} {Q : Value → Shared → Prop} (hit : IsBaIter s.heap it l i) (h : Q (.ref it) s) : wpAny (model prog w) A (pyIter (.ref it)) Q E s := by
  refine wpAny_pyIter_slot (iter_typeIs hit) bi_slot_self (wpAny_call_entry bi_slot_self (iter_typeIs hit) bi_entry_self ?_ (bi_args_self _))
  show wpAny _ _ (ret (.ref it)) _ _ s
  exact wpAny_pure ⟨_, rfl, "bytearray_iterator", _, iter_typeIs hit, bi_slot_next.lookup, h⟩

theorem next_ba {it l : Addr} {b : Array UInt8} {i : Nat} {c : UInt8} {Q : Option Value → Shared → Prop} (hit : IsBaIter s.heap it l i) (hl : s.heap.get? l = some (baObj b)) (hx : b[i]? = some c)
    (hQ : ∀ h', IsBaIter h' it l (i + 1) → Heap.SameBut it s.heap h' → Q (some (.int (c.toNat : Int) s.toks)) { s with heap := h', toks := s.toks + 1 }) : wpAny (model prog w) A (pyNext (.ref it)) Q E s := by
  obtain ⟨o, ho, hc, hd⟩ := id hit
  unfold pyNext
  refine wpAny_bind (wpAny_attempt (wpAny_callSpecial?_slot (name := Str.ofString "__next__") (iter_typeIs hit) bi_slot_next
    (wpAny_call_entry bi_slot_next (iter_typeIs hit) bi_entry_next ?_ (bi_args_next _))))
  show wpAny _ _ (field (.ref it) 0 >>= _) _ _ s
  refine wpAny_bind (wpAny_field ho hd (x := .ref l) rfl ?_)
  refine wpAny_bind (wpAny_load hl ?_)
  show wpAny _ _ (field (.ref it) 1 >>= _) _ _ s
  refine wpAny_bind (wpAny_field ho hd (x := .int i 0) rfl ?_)
  simp only [Int.toNat_natCast, hx]
  refine wpAny_bind (wpAny_setField ho hd (by simp) (wpAny_bind (wpAny_mkInt (wpAny_pure ⟨_, rfl, wpAny_pure (hQ _ ?_ (Heap.SameBut.update ..))⟩))))
  exact ⟨_, Heap.get?_update_self _ ho (Obj.isFreed_of_fields (Obj.data_mapFields hd _)), (Obj.cls_mapFields ..).trans hc, by
    rw [Obj.data_mapFields hd]; simp [rawInt]⟩

theorem next_ba_end {it l : Addr} {b : Array UInt8} {i : Nat} {Q : Option Value → Shared → Prop} (hh : A.handled = none) (hit : IsBaIter s.heap it l i) (hl : s.heap.get? l = some (baObj b)) (hx : b[i]? = none)
    (hQ : ∀ h', Heap.ExtBut it s.heap h' → Q none { s with heap := h' }) : wpAny (model prog w) A (pyNext (.ref it)) Q E s := by
  obtain ⟨o, ho, hc, hd⟩ := id hit
  unfold pyNext
  refine wpAny_bind (wpAny_attempt (wpAny_callSpecial?_slot (name := Str.ofString "__next__") (iter_typeIs hit) bi_slot_next
    (wpAny_call_entry bi_slot_next (iter_typeIs hit) bi_entry_next ?_ (bi_args_next _))))
  show wpAny _ _ (field (.ref it) 0 >>= _) _ _ s
  refine wpAny_bind (wpAny_field ho hd (x := .ref l) rfl ?_)
  refine wpAny_bind (wpAny_load hl ?_)
  show wpAny _ _ (field (.ref it) 1 >>= _) _ _ s
  refine wpAny_bind (wpAny_field ho hd (x := .int i 0) rfl ?_)
  simp only [Int.toNat_natCast, hx]
  refine wpAny_bind (wpAny_rule (wpAny_bind (wpAny_setField ho hd (by simp) ?_)))
  refine wpAny_bind (wpAny_letGo ?_)
  show wpAny _ _ (newExc (.type "StopIteration") [] >>= _) _ _ _
  refine wpAny_bind ?_
  simp only [newExc, newTuple]
  refine wpAny_bind (wpAny_newObj_type ?_ (by size_fits))
  refine wpAny_bind (m := firstArgMember _ _) (wpAny_of_eq (a := Value.none) (by first | rfl | (simp only [firstArgMember]; rfl)) ?_)
  refine wpAny_newObj_type ?_ (by size_fits)
  simp only [raiseNew]
  refine wpAny_bind (wpAny_handled ?_)
  rw [show A.in1.handled = none from hh]
  refine wpAny_bind (wpAny_pure (wpAny_throw ?_))
  refine wpAny_bind (wpAny_isInstance (T := "StopIteration") (b := true) ⟨_, Heap.get?_push_size _ rfl, rfl⟩ isSubtype_stop ?_)
  exact wpAny_pure (hQ _ (((Heap.SameBut.update ..).extBut.push _).push _))
end

theorem ba_walks {prog : Program} {w : World} {A : Around} (hh : A.handled = none) (I l : Addr) (hne : l ≠ I) (b : Array UInt8) :
    Walks prog w A I [I, l] [I] b.size (fun i v => ∃ c u, b[i]? = some c ∧ v = .int (c.toNat : Int) u) (fun i h => IsBaIter h I l i ∧ h.get? l = some (baObj b)) where
  sub := fun b hb => by simp at hb; simp [hb]
  frame := fun _ _ _ st hk => ⟨let ⟨o, ho, r⟩ := st.1; ⟨o, hk I (by simp) o ho, r⟩, hk l (by simp) _ st.2⟩
  item := fun i s Q E hi st hQ => by
    refine next_ba st.1 st.2 (c := b[i]) (by simp [hi]) fun h' hit' hs' => ?_
    exact hQ _ h' (s.toks + 1) ⟨_, _, by simp [hi], rfl⟩ ⟨hit', hs'.extBut l _ hne st.2⟩ fun b o hb e => hs'.extBut b o (fun h => hb (by simp [h])) e
  done := fun s Q E st hQ => next_ba_end hh st.1 st.2 (by simp) fun h' he' => hQ h' s.toks fun b o hb e => he' b o (fun h => hb (by simp [h])) e
  self := fun _ _ _ _ st hQ => pyIter_bself st.1 hQ
end Fl
end

section
open PySem.Calls
namespace Fl

theorem caller_clean : Clean ⟨.builtin "claim.caller" {}, none, none, [], none⟩ := ⟨by decide +kernel, fun _ h => nomatch h⟩

abbrev WalkS (q : Program) (loose : List Str) (XP : (Str → Option Value) → Heap → Prop) (YP : World → Heap → Prop) (r : RowW) (d : DefRec) (kwd : List (Str × PySem.Expr)) : Prop :=
  ∀ (w : World) (s₀ s₁ : Shared) (mg mb : Str → Option Value), Ground q loose r.records XP w s₀ mg mb s₁.heap → YP w s₁.heap → ∀ (a : Addr) (o : Obj) (pm cd doc dV kV : Value), s₁.heap.get? a = some o →
    o.data = .func { docDef d.name d.params d.body d.scope pm cd doc with defaults := dV, kwdefaults := kV } → s₁.heap.CodeRec cd d.name → Dflts mg s₁.heap d.params kwd dV kV → mg d.name = some (.ref a) → s₁.gens = #[] →
    ∀ (args : List WData) (vals : List Value) (as : List Addr), r.claim.pre args = true → WData.layableAll args = true → ReadsAllW r.records (classAt s₀.heap) s₁.heap vals args as → WellAll w.params s₁.heap vals args → (∀ a ∈ as, (a == sysModules) = false) →
      wpC (model r.prog w) callerA (PySem.call (.ref a) vals) (fun v s' => GoodWG r.claim (classAt s₀.heap) (ExcName.means s₀.heap) args s₁ (.ok (.ret v)) s') s₁

theorem thread_ends {prog : Program} {w : World} {t : Sem Fin} {s : Shared} {R : Flow → Shared → Prop} (hreg : s.asleep)
    (h : wpC (model prog w) callerA t (fun fin s' => ∃ f, fin = .done f ∧ R f s' ∧ leftWithCleanup s'.gens = false) s) :
    ∃ n f s' s'', runN (denote table) prog w n s ⟨t, .builtin "claim.caller" {}, default, []⟩ = .halted (.done f) s' ∧
      schedN (denote table) prog w n (.single s ⟨t, .builtin "claim.caller" {}, default, []⟩) = .halted (.done f) s' ∧ s'.forget = s''.forget ∧ R f s'' := by
  have h1 := h _ default caller_in caller_clean
  obtain ⟨n, r, s₁, s₂, hs, hn, hfo, f, rfl, hR⟩ := wp_halts_full (M := model prog w) (R := fun r s' => ∃ f, r = .ok f ∧ R f s') hreg
    (Sem.wp_mono _ _ _ (fun fin p s' ⟨f, e, a, b⟩ => by subst e; exact ⟨⟨f, rfl, a⟩, b⟩) (fun _ _ _ x => x.elim) _ _ h1)
  exact ⟨n, f, s₂, s₁, hn, hs, hfo, hR⟩

end Fl

theorem FlHead.PySem.W.holds_open {r : OpenRow} {q : Program} {loose : List Str} {Xt : Shared → Bool} {XP : (Str → Option Value) → Heap → Prop} {α : Type} {Yf : Shared → α} {Ya : World → α} {YP : World → Heap → Prop} {d : DefRec} {kwd : List (Str × PySem.Expr)} {N : Nat}
    (left : LeftO r.prog q loose Xt Yf Ya N) (hY : ∀ w s, Yf s = Ya w → YP w s.heap) (hYk : ∀ w h h', YP w h → (∀ b o, h.get? b = some o → h'.get? b = some o) → YP w h')
    (hX : ∀ s, Xt s = true → XP (s.heap.nsMap mainGlobals) s.heap) (hXk : ∀ mg h h', XP mg h → (∀ b o, h.get? b = some o → h'.get? b = some o) → XP mg h')
    (hdef : defOf q r.name = some (d, kwd)) (hp : r.prog.theDef r.name = some (d.params, d.body, d.scope)) (hk : kwWritten? d.params.kwonlyargs d.params.kw_defaults = some kwd) (hRf : ∀ s, Xt s = true → RecFacts r.records s.heap) (hwr : (!r.writes || r.records.isEmpty) = true)
    (k1 : r.wellSaid = true) (ok : (chainsOk q && opensWell r.prog && (frees r.toRowW && r.within.isEmpty)) = true) (hb : r.prog.bare) (hw : r.toRowW.promised)
    (call : Fl.WalkS q loose XP YP r.toRowW d kwd) : r.Holds := by
  refine ⟨k1, hw, ?_⟩
  obtain ⟨ok, k5⟩ := Bool.and_eq_true_iff.mp ok
  obtain ⟨hch, o1⟩ := Bool.and_eq_true_iff.mp ok
  obtain ⟨k5, k6⟩ := Bool.and_eq_true_iff.mp k5
  obtain ⟨hsame, hu, ha, hap, hm⟩ := frees_parts k5
  refine ⟨⟨hb, o1, by show r.toRowW.makers.map _ = []; rw [hm]; rfl⟩, hw.witness, fun w => ⟨(left.behind hX hch w).1, fun s' hs' => ?_⟩⟩
  obtain ⟨s₀, hf, hg0, s, hT, hz, hgens, hg, G00, y⟩ := (left.behind (XP := fun mg h => XP mg h ∧ RecFacts r.records h) (fun s hs => ⟨hX s hs, hRf s hs⟩) hch w).2 s' hs'
  have G0 : Ground q loose [] XP w s (s.heap.nsMap mainGlobals) (s.heap.nsMap builtinsNs) s.heap := ⟨G00.T, G00.B, G00.D, G00.TE, G00.TD, G00.W, G00.X.1, G00.cls, G00.has, G00.apart, G00.once, G00.K⟩
  have RF := G00.X.2
  refine ⟨s₀, hf, hg0, s, hT, fun n hn => ?_, RF.1, RF.2.1, ?_⟩
  · obtain rfl : n = r.name := by split at hn <;> simp_all
    exact pinned_of_view hg G0 hdef hp hk
  have hgens : s.gens = #[] := Array.eq_empty_of_size_eq_zero (beq_iff_eq.mp hgens)
  have G : Ground q loose r.records XP w s _ _ s.heap := RF.ground G0
  have hi := ident_freeW hu ha hap
  have hwi : r.toRowW.claim.within = [] := List.isEmpty_iff.mp k6
  intro args hpre hlay ord hord
  obtain ⟨⟨vs, s₁⟩, hlaid⟩ := Option.isSome_iff_exists.mp (layAllW_isSome (P := w.params) (ord := ord) G.has args r.args s (pre_splitW hpre).1)
  have keeps := layAllW_keeps _ _ _ hlaid
  have hal := layAllW_rest _ _ _ hlaid
  obtain ⟨as, hrd, hin, hold⟩ := reads_layAllW hord _ _ _ hlaid hlay s₁.heap (fun _ _ e => e)
  have L : Laid r.records w s s₁ args vs as := ⟨⟨ord, hord, hlaid⟩, hrd, hin, hold, keeps, hal.1.trans hgens, hal.2.2.1⟩
  have G₁ := G.keeps hXk keeps
  obtain ⟨a, o, pm, cd, doc, dV, kV, h1, h2, h3, h4, h5⟩ := G₁.fn hdef
  have h := call w s s₁ _ _ G₁ (hYk _ _ _ (hY w s y) keeps) a o pm cd doc dV kV h2 h3 h4 h5 (defOf_name hdef ▸ h1) L.gens args vs as hpre hlay L.reads L.well (L.low G.low)
  have hrun : Fl.wpC (model r.prog w) callerA (do match ← nsGet mainNs r.name with
      | some f => do ret (← PySem.call f vs)
      | none => unsupported "claim.caller:no-such-global") (fun fin s' => ∃ f, fin = .done f ∧ (r.toRowW.claim.Ends s args vs s₁ (.ok f) s' ∧ s'.os = s.os ∧ (r.writes = true → namesKept r.prog r.keeps s.heap s'.heap ∧ ∀ x ∈ r.records, ∀ a, classAt s.heap x.1 = some a → recordClass s'.heap a x.1 (x.2.map (·.1)) = true)) ∧ leftWithCleanup s'.gens = false) s₁ := by
    refine Fl.bindAny (wpAny_nsGet G₁.T.g ?_)
    rw [h1]
    refine Fl.bind_ (Fl.mono h fun v s' g => Fl.pure_ ?_)
    have z := g.laid (c := r.toRowW.claim) hsame hwi hi L
    exact ⟨_, rfl, ⟨z.1, z.2.1, fun q => ⟨namesKept_of hT hg r.keeps keeps g.2.1.old, noTable hwr q⟩⟩, leftWithCleanup_false_of_bare z.2.2⟩
  obtain ⟨k, f, s', s'', hrn, hsched, hfo, hcase, hos, hkp⟩ := Fl.thread_ends (prog := r.prog) (w := w) (Shared.asleep_of_life hal.2.2.2 hz) hrun
  obtain ⟨eh, _, _, eo, _⟩ := Shared.forget_eq hfo
  have hcase := hcase.congr eh
  rw [← eh] at hkp
  rw [← eo] at hos
  have hlife : s'.heap.life = s.heap.life := (runN_life _ _ _ hrn).trans hal.2.2.2
  refine ⟨vs, s₁, hlaid, k, _, s', hsched, ?_, (fun _ i x hx => by rw [hgens] at hx; simp at hx), hkp, by rw [hlife], Shared.rest_eq hos⟩
  rcases hcase with ⟨v, e, d1, d2, d3, d4, d5⟩ | ⟨e, ob, cls, e', _⟩
  · cases e
    exact .inl ⟨v, rfl, d1, d2, d3, fun b o y _ => d4 b o y, d5⟩
  · cases e'
end

section
open PySem.Calls
namespace Fl
section
variable {prog : Program} {w : World} {A : Around} {s : Shared}

theorem code_func {body : List Stmt} {env : Env} {R : Flow → Shared → Prop}
    (h : wpC (model prog w) (A.deeper env) (execs body env) (fun f s' => R (.ret (match f with | .ret v => v | _ => .none)) s') s) : codeC (model prog w) A (.func body env) R s := by
  refine code_tree rfl ?_
  show wpC _ (A.deeper env) (do point; match ← (execs body env).onRaise (leaving env) with | .ret v => ret v | _ => ret .none) _ s
  refine bindAny (wpAny_point (bind_ (onRaise_ (mono h fun f s' h' => ?_))))
  cases f <;> exact pure_ h'

theorem code_call {a : Addr} {o : Obj} {name : Str} {params : Arguments} {body : List Stmt} {scope : Scope} {pm cd doc : Value} {args : List Value} {binds : List (Str × Value)} {R : Flow → Shared → Prop}
    (hroom : A.depth < recursionLimit) (ho : s.heap.get? a = some o) (hdata : o.data = .func (docDef name params body scope pm cd doc)) (hlim : s.heap.NoLimit) (hcd : s.heap.CodeRec cd name)
    (hbind : bindArgs (docDef name params body scope pm cd doc) ⟨args, []⟩ = pure binds) (hloc : ∀ x ∈ binds, scope.names.lookup x.1 = some .local)
    (h : ∀ h₁, Fr s.heap s.heap.objs.size h₁ (fun x => binds.reverse.lookup x) →
      wpC (model prog w) (A.deeper (envOf name scope s.heap.objs.size a cd)) (execs body (envOf name scope s.heap.objs.size a cd)) (fun f s' => R (.ret (match f with | .ret v => v | _ => .none)) s') { s with heap := h₁, toks := s.toks + binds.length })
    (hco : scope.isCoroutine = false := by rfl) (hgen : scope.isGenerator = false := by rfl) (hk : scope.kind = .function := by rfl) (hcell : ∀ x ∈ scope.names, x.2 ≠ .cell := by decide) :
    codeC (model prog w) A (.call (.ref a) ⟨args, []⟩) R s := by
  refine code_tree rfl ?_
  show wpC _ A.in1 (callAny (.ref a) ⟨args, []⟩) _ s
  simp only [callAny]
  refine bindAny (wpAny_load ho ?_)
  obtain ⟨c, oc, vs, tq, hc, hoc, hdc, hq⟩ := hcd
  subst hc
  simp only [hdata, callFunction, docDef, hco, hgen]
  refine bindAny (wpAny_field hoc hdc hq ?_)
  show wpC _ _ (bindArgs (docDef name params body scope pm (.ref c) doc) ⟨args, []⟩ >>= _) _ _
  rw [hbind]
  refine bind_ (pure_ ?_)
  refine bindAny (wpAny_newFunctionEnv hcell hloc (fun h₁ hns hsb => ?_) hk)
  refine bindAny (wpAny_enterFrame (hlim.fresh _ hsb) hroom ?_)
  exact pure_ ⟨rfl, code_func (h h₁ ⟨hns, fun b o e => hsb.extBut b o (Nat.ne_of_lt (Heap.lt_size e)) (Heap.get?_push_of_some _ e), Nat.le_refl _⟩)⟩
end
end Fl
end

section
open PySem.Calls
namespace Fl
section
variable {prog : Program} {w : World} {A : Around} {s : Shared} {env : Env} {h₀ : Heap}

theorem code_forLoop {target : Expr} {it : Value} {body : List Stmt} {R : Flow → Shared → Prop} (I : Nat → Shared → Prop)
    (turn : ∀ n s, I n s → wpAny (model prog w) A (pyNext it) (fun r s₁ => match r with
      | none => R .next s₁
      | some v => wpAny (model prog w) A (assign target env v) (fun _ s₂ => wpC (model prog w) A (execs body env) (fun f s₃ => match f with
          | .next | .cont => ∃ m, m < n ∧ I m s₃
          | .brk => R .next s₃
          | .ret v => R (.ret v) s₃) s₂) (fun _ _ => False) s₁) (fun _ _ => False) s)
    (n : Nat) (h : I n s) (ht : ∀ v, letOwnedTupleGo target it v = pure () := by intro _; rfl) : codeC (model prog w) A (.forLoop target it body [] env) R s := by
  refine code_loop rfl rfl I (fun n s hI => ?_) n h
  show wpC _ _ ((forTurn target it body [] env).onRaise (fun x => do noteFrame x env; theTreesLotGoes x)) _ s
  refine onRaise_ ?_
  simp only [forTurn]
  refine bindAny (wpAny_standAt (bindAny (wpAny_onRaise (wpAny_mono (turn n s hI) (fun r s₁ h₁ => ?_) fun _ _ x => x.elim))))
  cases r with
  | none => exact pure_ (.inr ⟨rfl, codeAnyC (codeAny_block (wpAny_execs_nil ⟨_, rfl, h₁⟩))⟩)
  | some v =>
    refine bind_ (of_eq (ht v) ?_)
    refine bindAny (wpAny_mono h₁ (fun _ s₂ h₂ => bind_ (mono h₂ fun f s₃ h₃ => ?_)) fun _ _ x => x)
    cases f with
    | next => exact pure_ (.inl ⟨rfl, h₃⟩)
    | cont => exact pure_ (.inl ⟨rfl, h₃⟩)
    | brk => exact pure_ h₃
    | ret v => exact pure_ h₃

theorem For_ {target iter : Expr} {body : List Stmt} {pos : Pos} {Q : Flow → Shared → Prop}
    (h : wpAny (model prog w) A (eval iter env) (fun x s₁ => wpAny (model prog w) A (pyIter x) (fun it s₂ => codeC (model prog w) A (.forLoop target it body [] env) Q s₂) (fun _ _ => False) s₁) (fun _ _ => False) s)
    (hs : ∀ x, foldedSetIterable iter env x = pure x := by intro _; rfl) : wpC (model prog w) A (exec (.For target iter body [] pos) env) Q s := by
  rw [exec_For]
  exact bindAny (wpAny_standAt (bindAny (wpAny_mono h (fun x s₁ h₁ => bind_ (of_eq (hs x) (bindAny (wpAny_standAt (bindAny (wpAny_holding (wpAny_mono h₁ (fun it s₂ h₂ => runOwn_ h₂) fun _ _ x => x))))))) fun _ _ x => x)))

def TurnEnd (s : Shared) (h₀ : Heap) (L : Addr) (it : Addr × Obj) (J : (Str → Option Value) → List (Addr × Obj) → Prop) (Q : Flow → Shared → Prop) (f : Flow) (s₃ : Shared) : Prop := match f with
  | .next | .cont => ∃ h'' tk'' m'' nx'', s₃ = { s with heap := h'', toks := tk'' } ∧ Fr h₀ L h'' m'' ∧ News h₀ L h'' (nx'' ++ [it]) ∧ (∀ p ∈ nx'', p.1 ≠ it.1) ∧ J m'' nx''
  | .brk => Q .next s₃
  | .ret v => Q (.ret v) s₃

theorem loop_list {x : Str} {px : Pos} {body : List Stmt} {l : Addr} {vs : List Value} {m : Str → Option Value} {news : List (Addr × Obj)} {Q : Flow → Shared → Prop} (J : Nat → (Str → Option Value) → List (Addr × Obj) → Prop)
    (hh : A.handled = none) (hx : env.kindOf x = some .local) (hp : (env.scope.kind == .class || (env.scope.kind == .module && env.locals != env.globals)) = false)
    (F : Fr h₀ env.locals s.heap m) (N : News h₀ env.locals s.heap news) (hJ : J 0 m news)
    (hl : ∀ i m' nx h', J i m' nx → Fr h₀ env.locals h' m' → News h₀ env.locals h' nx → h'.IsList l vs.toArray)
    (turn : ∀ i v m' nx h' tk it, vs[i]? = some v → J i m' nx → (∀ p ∈ nx, p.1 ≠ it.1) → Fr h₀ env.locals h' (fun y => if y = x then some v else m' y) → News h₀ env.locals h' (nx ++ [it]) →
      wpC (model prog w) A (execs body env) (TurnEnd s h₀ env.locals it (J (i + 1)) Q) { s with heap := h', toks := tk })
    (done : ∀ m' nx h' tk, J vs.length m' nx → Fr h₀ env.locals h' m' → News h₀ env.locals h' nx → Q .next { s with heap := h', toks := tk }) :
    wpAny (model prog w) A (pyIter (.ref l)) (fun it s₂ => codeC (model prog w) A (.forLoop (.Name x px) it body [] env) Q s₂) (fun _ _ => False) s := by
  refine wpAny_pyIter_list (hl 0 m news _ hJ F N) ?_
  let I := s.heap.objs.size
  have hIb : h₀.get? I = none := by
    cases q : h₀.get? I with
    | none => rfl
    | some o => exact absurd (Heap.lt_size (F.keep _ _ q)) (Nat.lt_irrefl _)
  have hIL : env.locals ≠ I := Nat.ne_of_lt F.ns.lt
  have keepAll : ∀ {h h' : Heap} {m' : Str → Option Value} {nx : List (Addr × Obj)}, Fr h₀ env.locals h m' → News h₀ env.locals h nx → (∀ p ∈ nx, p.1 ≠ I) → (∀ b o, b ≠ I → h.get? b = some o → h'.get? b = some o) → Fr h₀ env.locals h' m' ∧ News h₀ env.locals h' nx := by
    intro h h' m' nx F' N' hn hk
    refine ⟨⟨F'.ns.at' fun o e => hk _ o hIL e, fun b o e => hk b o (fun q => by rw [q, hIb] at e; cases e) (F'.keep b o e), F'.above⟩, fun p hp => ⟨hk _ _ (hn p hp) (N' p hp).1, (N' p hp).2⟩⟩
  refine code_forLoop (fun k s' => ∃ h' tk m' nx i, s' = { s with heap := h', toks := tk } ∧ h'.IsListIter I l i ∧ Fr h₀ env.locals h' m' ∧ News h₀ env.locals h' nx ∧ (∀ p ∈ nx, p.1 ≠ I) ∧ J i m' nx ∧ i ≤ vs.length ∧ k = vs.length + 1 - i) ?_ (vs.length + 1)
    ⟨_, s.toks, m, news, 0, rfl, ⟨_, Heap.get?_push_size _ rfl, rfl, rfl⟩, F.push _, (fun p hp => ⟨Heap.get?_push_of_some _ (N p hp).1, (N p hp).2⟩), (fun p hp => Nat.ne_of_lt (Heap.lt_size (N p hp).1)), hJ, Nat.zero_le _, rfl⟩
  rintro k s' ⟨h', tk, m', nx, i, rfl, hit, F', N', hn, hJ', hi, rfl⟩
  have hlist := hl i m' nx h' hJ' F' N'
  by_cases hlt : i < vs.length
  · refine wpAny_pyNext_list_item (s := { s with heap := h', toks := tk }) hit hlist (x := vs[i]) (by simp [hlt]) fun h₁ hit₁ hs₁ => ?_
    obtain ⟨F₁, N₁⟩ := keepAll F' N' hn fun b o hb e => hs₁.extBut b o hb e
    refine wpAny_assign_Name (wpAny_storeName_local hx F₁.ns (fun h₂ hn₂ hs₂ => ?_) hp)
    have F₂ := F₁.set hn₂ hs₂
    have N₂ := N₁.set hs₂
    obtain ⟨io, hio, hic, hid⟩ := id hit₁
    have hio₂ : h₂.get? I = some io := (hs₂.2 I (Ne.symm hIL)).trans hio
    refine mono (turn i vs[i] m' nx h₂ _ (I, io) (by simp [hlt]) hJ' hn F₂ ?_) fun f s₃ h₃ => ?_
    · intro p hp
      rcases List.mem_append.mp hp with hp | hp
      · exact N₂ p hp
      · rw [List.mem_singleton.mp hp]; exact ⟨hio₂, Ne.symm hIL, hIb⟩
    · have fin : (∃ h'' tk'' m'' nx'', s₃ = { s with heap := h'', toks := tk'' } ∧ Fr h₀ env.locals h'' m'' ∧ News h₀ env.locals h'' (nx'' ++ [(I, io)]) ∧ (∀ p ∈ nx'', p.1 ≠ I) ∧ J (i + 1) m'' nx'') →
          ∃ k', k' < vs.length + 1 - i ∧ ∃ h' tk m' nx i, s₃ = { s with heap := h', toks := tk } ∧ h'.IsListIter I l i ∧ Fr h₀ env.locals h' m' ∧ News h₀ env.locals h' nx ∧ (∀ p ∈ nx, p.1 ≠ I) ∧ J i m' nx ∧ i ≤ vs.length ∧ k' = vs.length + 1 - i := by
        rintro ⟨h'', tk'', m'', nx'', e, F'', N'', ho, hJ''⟩
        exact ⟨vs.length + 1 - (i + 1), by omega, h'', tk'', m'', nx'', i + 1, e, ⟨io, (N'' (I, io) (List.mem_append_right _ (.head _))).1, hic, hid⟩, F'', (fun p hp => N'' p (List.mem_append_left _ hp)), ho, hJ'', hlt, rfl⟩
      cases f with
      | next => exact fin h₃
      | cont => exact fin h₃
      | brk => exact h₃
      | ret v => exact h₃
  · have hin : i = vs.length := by omega
    subst hin
    refine wpAny_pyNext_list_end (s := { s with heap := h', toks := tk }) hh hit hlist (by simp) fun h₁ he₁ => ?_
    obtain ⟨F₁, N₁⟩ := keepAll F' N' hn fun b o hb e => he₁ b o hb e
    exact done m' nx h₁ tk hJ' F₁ N₁
end
end Fl
end

section
open PySem.Calls
namespace Fl
section
variable {M : Model} {A : Around} {s : Shared} {env : Env}

theorem spliced_nil_ {Q : List Value → Shared → Prop} (h : Q [] s) : wpC M A (spliced []) Q s := pure_ h
theorem spliced_cons_ {x : Sem Value} {rest : List (Bool × Sem Value)} {Q : List Value → Shared → Prop}
    (h : wpC M A x (fun v s₁ => wpC M A (spliced rest) (fun vs s₂ => Q (v :: vs) s₂) s₁) s) : wpC M A (spliced ((false, x) :: rest)) Q s := by
  unfold spliced
  refine bind_ (mono h fun v s₁ h₁ => ?_)
  rw [if_neg Bool.false_ne_true]
  exact bind_ (pure_ (bind_ (holding_ (mono h₁ fun vs s₂ h₂ => pure_ h₂))))

theorem args_nil_ {pos : Pos} {Q : List Value → Shared → Prop} (h : Q [] s) : wpC M A (spliced (backTo pos (starEach [] env))) Q s := spliced_nil_ h
theorem args_cons_ {e : PySem.Expr} {rest : List PySem.Expr} {pos : Pos} {Q : List Value → Shared → Prop}
    (h : wpC M A (eval e env) (fun v s₁ => wpC M A (spliced (backTo pos (starEach rest env))) (fun vs s₂ => Q (v :: vs) s₂) s₁) s)
    (he : starEach (e :: rest) env = (false, eval e env) :: starEach rest env := by rfl) : wpC M A (spliced (backTo pos (starEach (e :: rest) env))) Q s := by
  rw [he]; exact spliced_cons_ h

theorem callWith_ {pos : Pos} {f : Value} {k : Keeper} {e : PySem.Expr} {rest : List PySem.Expr} {Q : Value → Shared → Prop}
    (hk : k = .frame ∨ k = .machine) (h : wpC M A (spliced (backTo pos (starEach (e :: rest) env))) (fun vs s₁ => Looks M s₁.heap (keeperOf f) k ∧ wpC M A (call f vs []) Q s₁) s)
    (he : starEach (e :: rest) env = (false, eval e env) :: starEach rest env := by rfl) (hplain : (backTo pos (starEach rest env)).any (·.1) = false := by rfl) :
    wpC M A (callWith pos f [] (backTo pos (starEach (e :: rest) env)) []) Q s := by
  have hp : (backTo pos (starEach (e :: rest) env)).any (·.1) = false := by rw [he]; show (false || (backTo pos (starEach rest env)).any (·.1)) = false; rw [hplain]; rfl
  have hlone : ∀ {Q' : Args → Shared → Prop}, wpC M A (spliced (backTo pos (starEach (e :: rest) env))) (fun vs s₁ => Q' ⟨vs, []⟩ s₁) s → wpC M A (evalArgs f true (backTo pos (starEach (e :: rest) env)) []) Q' s := by
    intro Q' h'
    rw [he] at h' ⊢
    unfold evalArgs
    show wpC M A (spliced ((false, _) :: backTo pos (starEach rest env)) >>= _) Q' s
    refine bind_ (mono h' fun vs s₁ h₁ => ?_)
    exact holding_ (bind_ (pure_ (bind_ (pure_ (pure_ h₁)))))
  unfold callWith
  refine bind_ (holding_ (hlone (mono h fun vs s₁ h₁ => bindAny (wpAny_standAt ?_))))
  obtain ⟨L, hc⟩ := h₁
  simp only [hp, List.any_nil, Bool.or_false, List.nil_append]
  refine bindAny (L.here ?_)
  have tail : ∀ {t : Sem Value}, wpC M A t Q s₁ → wpC M A (t >>= fun r => holding [r] point >>= fun _ => pure r) Q s₁ :=
    fun ht => bind_ (mono ht fun r s₂ hr => bind_ (holding_ (any (wpAny_point (pure_ hr)))))
  rcases hk with rfl | rfl
  · dsimp only
    split
    · exact tail hc
    · exact tail (by unfold callMarked; exact keep_ hc)
  · exact tail hc

theorem AssignSub_ {o i : PySem.Expr} {pos' pos : Pos} {value : PySem.Expr} {Q : Flow → Shared → Prop}
    (h : wpAny M A (eval value env) (fun v s₁ => wpAny M A (eval o env) (fun ov s₂ => wpAny M A (eval i env) (fun iv s₃ =>
      wpC M A (setItem ov iv v) (fun _ => Q .next) s₃) (fun _ _ => False) s₂) (fun _ _ => False) s₁) (fun _ _ => False) s)
    (hs : swapsWith value (some (.Subscript o i pos')) pos.line env = pure false := by rfl) :
    wpC M A (exec (.Assign [.Subscript o i pos'] value pos) env) Q s := fun Γ p hΓ hc => by
  simp only [exec_Assign_Subscript o i pos' value pos hs, assign_Subscript, Sem.wp_bind', Sem.wp_holding, Sem.wp_cmd_standAt, Sem.wp_release, Sem.wp_pure']
  exact Sem.wp_mono M Γ _ (fun v p₁ s₁ h₁ => Sem.wp_mono M Γ _ (fun ov p₂ s₂ h₂ => Sem.wp_mono M Γ _ (fun iv _ s₃ h₃ => h₃ Γ _ hΓ hc)
    (fun _ _ _ h' => h') _ _ (h₂ Γ p₂ hΓ)) (fun _ _ _ h' => h') _ _ (h₁ Γ p₁ hΓ)) (fun _ _ _ h' => h') _ _ (h Γ _ hΓ)

theorem keeper_type {h : Heap} {T : String} : Looks M h (keeperOf (.type T)) .machine := Looks.of_pure rfl
theorem keeper_func {h : Heap} {a : Addr} {o : Obj} {fd : FuncData} (ho : h.get? a = some o) (hd : o.data = .func fd) : Looks M h (keeperOf (.ref a)) .frame := by
  refine (Looks.ld (part := none) ho).andThen ?_
  rw [hd]
  exact .now
end
end Fl
end

section
open PySem.Calls
namespace Fl
section
variable {prog : Program} {w : World} {A : Around} {s : Shared} {env : Env} {h₀ : Heap}

theorem code_while {test : PySem.Expr} {body : List Stmt} {R : Flow → Shared → Prop} (I : Nat → Shared → Prop)
    (turn : ∀ n s, I n s → wpAny (model prog w) A (isTrue test env (eval test env)) (fun b s₂ =>
        if b then wpC (model prog w) A (execs body env) (fun f s₃ => match f with
            | .next | .cont => ∃ m, m < n ∧ I m s₃
            | .brk => R .next s₃
            | .ret v => R (.ret v) s₃) s₂
        else R .next s₂) (fun _ _ => False) s)
    (n : Nat) (h : I n s) : codeC (model prog w) A (.whileLoop test body [] env) R s := by
  refine code_loop rfl rfl I (fun n s hI => ?_) n h
  show wpC _ A ((whileTurn test body [] env).onRaise (fun x => do noteFrame x env; theTreesLotGoes x)) _ s
  refine onRaise_ ?_
  simp only [whileTurn]
  refine bindAny (wpAny_mono (turn n s hI) (fun b s₂ h₂ => ?_) fun _ _ x => x)
  cases b with
  | false =>
    simp only [Bool.false_eq_true, if_false] at h₂ ⊢
    exact bind_ (pure_ (pure_ h₂))
  | true =>
    simp only [if_true] at h₂ ⊢
    refine bind_ (mono h₂ fun f s₃ h₃ => ?_)
    cases f with
    | next => exact pure_ (.inl ⟨rfl, h₃⟩)
    | cont => exact pure_ (.inl ⟨rfl, h₃⟩)
    | brk => exact pure_ h₃
    | ret v => exact pure_ h₃

theorem While_ {test : PySem.Expr} {body : List Stmt} {pos : Pos} {Q : Flow → Shared → Prop} (h : codeC (model prog w) A (.whileLoop test body [] env) Q s) : wpC (model prog w) A (exec (.While test body [] pos) env) Q s := by
  rw [exec_While]; exact bindAny (wpAny_standAt (runOwn_ h))

theorem loop_gen {x : Str} {px : Pos} {body : List Stmt} {I : Addr} {io₀ : Obj} {n : Nat} {P : Nat → Value → Prop} {It : Nat → Heap → Prop} {Src : Heap → Prop} {m : Str → Option Value} {news : List (Addr × Obj)} {Q : Flow → Shared → Prop} (J : Nat → (Str → Option Value) → List (Addr × Obj) → Prop)
    (hx : env.kindOf x = some .local) (hp : (env.scope.kind == .class || (env.scope.kind == .module && env.locals != env.globals)) = false)
    (hI : I = s.heap.objs.size) (F : Fr h₀ env.locals s.heap m) (N : News h₀ env.locals s.heap news) (hJ : J 0 m news)
    (it0 : It 0 (s.heap.push io₀)) (itIs : ∀ i h, It i h → ∃ o, h.get? I = some o) (itKeep : ∀ i h h', It i h → h'.get? I = h.get? I → It i h')
    (item : ∀ i (s : Shared) (Q : Option Value → Shared → Prop), i < n → It i s.heap → Src s.heap → (∀ v h' tk, P i v → It (i + 1) h' → (∀ b o, b ≠ I → s.heap.get? b = some o → h'.get? b = some o) → Q (some v) { s with heap := h', toks := tk }) → wpAny (model prog w) A (pyNext (.ref I)) Q (fun _ _ => False) s)
    (over : ∀ (s : Shared) (Q : Option Value → Shared → Prop), It n s.heap → Src s.heap → (∀ h' tk, (∀ b o, b ≠ I → s.heap.get? b = some o → h'.get? b = some o) → Q none { s with heap := h', toks := tk }) → wpAny (model prog w) A (pyNext (.ref I)) Q (fun _ _ => False) s)
    (hl : ∀ i m' nx h', J i m' nx → Fr h₀ env.locals h' m' → News h₀ env.locals h' nx → Src h')
    (turn : ∀ i v m' nx h' tk it, i < n → P i v → J i m' nx → (∀ p ∈ nx, p.1 ≠ it.1) → Fr h₀ env.locals h' (fun y => if y = x then some v else m' y) → News h₀ env.locals h' (nx ++ [it]) →
      wpC (model prog w) A (execs body env) (TurnEnd s h₀ env.locals it (J (i + 1)) Q) { s with heap := h', toks := tk })
    (done : ∀ m' nx h' tk, J n m' nx → Fr h₀ env.locals h' m' → News h₀ env.locals h' nx → Q .next { s with heap := h', toks := tk }) :
    codeC (model prog w) A (.forLoop (.Name x px) (.ref I) body [] env) Q { s with heap := s.heap.push io₀ } := by
  have hIb : h₀.get? I = none := by
    rw [hI]
    cases q : h₀.get? s.heap.objs.size with
    | none => rfl
    | some o => exact absurd (Heap.lt_size (F.keep _ _ q)) (Nat.lt_irrefl _)
  have hIL : env.locals ≠ I := by rw [hI]; exact Nat.ne_of_lt F.ns.lt
  have keepAll : ∀ {h h' : Heap} {m' : Str → Option Value} {nx : List (Addr × Obj)}, Fr h₀ env.locals h m' → News h₀ env.locals h nx → (∀ p ∈ nx, p.1 ≠ I) → (∀ b o, b ≠ I → h.get? b = some o → h'.get? b = some o) → Fr h₀ env.locals h' m' ∧ News h₀ env.locals h' nx := by
    intro h h' m' nx F' N' hn hk
    refine ⟨⟨F'.ns.at' fun o e => hk _ o hIL e, fun b o e => hk b o (fun q => by rw [q, hIb] at e; cases e) (F'.keep b o e), F'.above⟩, fun p hp => ⟨hk _ _ (hn p hp) (N' p hp).1, (N' p hp).2⟩⟩
  refine code_forLoop (fun k s' => ∃ h' tk m' nx i, s' = { s with heap := h', toks := tk } ∧ It i h' ∧ Fr h₀ env.locals h' m' ∧ News h₀ env.locals h' nx ∧ (∀ p ∈ nx, p.1 ≠ I) ∧ J i m' nx ∧ i ≤ n ∧ k = n + 1 - i) ?_ (n + 1)
    ⟨_, s.toks, m, news, 0, rfl, it0, F.push _, (fun p hp => ⟨Heap.get?_push_of_some _ (N p hp).1, (N p hp).2⟩), (fun p hp => by rw [hI]; exact Nat.ne_of_lt (Heap.lt_size (N p hp).1)), hJ, Nat.zero_le _, rfl⟩
  rintro k s' ⟨h', tk, m', nx, i, rfl, hit, F', N', hn, hJ', hi, rfl⟩
  have hsrc := hl i m' nx h' hJ' F' N'
  by_cases hlt : i < n
  · refine item i { s with heap := h', toks := tk } _ hlt hit hsrc fun v h₁ tk₁ hv hit₁ hs₁ => ?_
    obtain ⟨F₁, N₁⟩ := keepAll F' N' hn hs₁
    refine wpAny_assign_Name (wpAny_storeName_local hx F₁.ns (fun h₂ hn₂ hs₂ => ?_) hp)
    have F₂ := F₁.set hn₂ hs₂
    have N₂ := N₁.set hs₂
    obtain ⟨io, hio⟩ := itIs _ _ hit₁
    have hio₂ : h₂.get? I = some io := (hs₂.2 I (Ne.symm hIL)).trans hio
    refine mono (turn i v m' nx h₂ _ (I, io) hlt hv hJ' hn F₂ ?_) fun f s₃ h₃ => ?_
    · intro p hp
      rcases List.mem_append.mp hp with hp | hp
      · exact N₂ p hp
      · rw [List.mem_singleton.mp hp]; exact ⟨hio₂, Ne.symm hIL, hIb⟩
    · have fin : (∃ h'' tk'' m'' nx'', s₃ = { s with heap := h'', toks := tk'' } ∧ Fr h₀ env.locals h'' m'' ∧ News h₀ env.locals h'' (nx'' ++ [(I, io)]) ∧ (∀ p ∈ nx'', p.1 ≠ I) ∧ J (i + 1) m'' nx'') →
          ∃ k', k' < n + 1 - i ∧ ∃ h' tk m' nx i, s₃ = { s with heap := h', toks := tk } ∧ It i h' ∧ Fr h₀ env.locals h' m' ∧ News h₀ env.locals h' nx ∧ (∀ p ∈ nx, p.1 ≠ I) ∧ J i m' nx ∧ i ≤ n ∧ k' = n + 1 - i := by
        rintro ⟨h'', tk'', m'', nx'', e, F'', N'', ho, hJ''⟩
        exact ⟨n + 1 - (i + 1), by omega, h'', tk'', m'', nx'', i + 1, e, itKeep _ _ _ hit₁ ((N'' (I, io) (List.mem_append_right _ (.head _))).1.trans hio.symm), F'', (fun p hp => N'' p (List.mem_append_left _ hp)), ho, hJ'', hlt, rfl⟩
      cases f with
      | next => exact fin h₃
      | cont => exact fin h₃
      | brk => exact h₃
      | ret v => exact h₃
  · have hin : i = n := by omega
    subst hin
    refine over { s with heap := h', toks := tk } _ hit hsrc fun h₁ tk₁ he₁ => ?_
    obtain ⟨F₁, N₁⟩ := keepAll F' N' hn he₁
    exact done m' nx h₁ tk₁ hJ' F₁ N₁

theorem loop_ba {x : Str} {px : Pos} {body : List Stmt} {l : Addr} {b : Array UInt8} {m : Str → Option Value} {news : List (Addr × Obj)} {Q : Flow → Shared → Prop} (J : Nat → (Str → Option Value) → List (Addr × Obj) → Prop)
    (hh : A.handled = none) (hx : env.kindOf x = some .local) (hp : (env.scope.kind == .class || (env.scope.kind == .module && env.locals != env.globals)) = false)
    (F : Fr h₀ env.locals s.heap m) (N : News h₀ env.locals s.heap news) (hJ : J 0 m news)
    (hl : ∀ i m' nx h', J i m' nx → Fr h₀ env.locals h' m' → News h₀ env.locals h' nx → h'.get? l = some (baObj b))
    (turn : ∀ i (c : UInt8) t m' nx h' tk it, i < b.size → b[i]? = some c → J i m' nx → (∀ p ∈ nx, p.1 ≠ it.1) → Fr h₀ env.locals h' (fun y => if y = x then some (.int c.toNat t) else m' y) → News h₀ env.locals h' (nx ++ [it]) →
      wpC (model prog w) A (execs body env) (TurnEnd s h₀ env.locals it (J (i + 1)) Q) { s with heap := h', toks := tk })
    (done : ∀ m' nx h' tk, J b.size m' nx → Fr h₀ env.locals h' m' → News h₀ env.locals h' nx → Q .next { s with heap := h', toks := tk }) :
    wpAny (model prog w) A (pyIter (.ref l)) (fun it s₂ => codeC (model prog w) A (.forLoop (.Name x px) it body [] env) Q s₂) (fun _ _ => False) s := by
  refine pyIter_ba (hl 0 m news _ hJ F N) ?_
  have h0 := hl 0 m news _ hJ F N
  refine loop_gen (P := fun i v => ∃ c t, b[i]? = some c ∧ v = .int (c.toNat : Int) t) (It := fun i h => IsBaIter h s.heap.objs.size l i) (Src := fun h => h.get? l = some (baObj b)) J hx hp rfl F N hJ ⟨_, Heap.get?_push_size _ rfl, rfl, rfl⟩ (fun i h y => let ⟨o, ho, _⟩ := y; ⟨o, ho⟩)
    (fun i h h' y e => let ⟨o, ho, r⟩ := y; ⟨o, e.trans ho, r⟩) (fun i s' Q' hi y hs hQ => ?_) (fun s' Q' y hs hQ => next_ba_end hh y hs (by simp) fun h' he => hQ h' _ he) hl (fun i v m' nx h' tk it hi hP hJ' hn F' N' => ?_) done
  · exact next_ba y hs (c := b[i]) (by simp [hi]) fun h' hit' hs' => hQ _ h' _ ⟨_, _, by simp [hi], rfl⟩ hit' fun b o hb e => hs'.extBut b o hb e
  · obtain ⟨c, t, hc, rfl⟩ := hP
    exact turn i c t m' nx h' tk it hi hc hJ' hn F' N'

theorem loop_range {x : Str} {px : Pos} {body : List Stmt} {r : Addr} {a₀ b₀ : Int} {t₀ u₀ v₀ : Tok} {n : Nat} {m : Str → Option Value} {news : List (Addr × Obj)} {Q : Flow → Shared → Prop} (J : Nat → (Str → Option Value) → List (Addr × Obj) → Prop)
    (hh : A.handled = none) (hx : env.kindOf x = some .local) (hp : (env.scope.kind == .class || (env.scope.kind == .module && env.locals != env.globals)) = false)
    (hr : IsRange s.heap r a₀ b₀ 1 t₀ u₀ v₀) (hsmall : Builtin.Range.small a₀ b₀ 1 = true) (hn : Builtin.Range.rangeSize a₀ b₀ 1 = (n : Int))
    (F : Fr h₀ env.locals s.heap m) (N : News h₀ env.locals s.heap news) (hJ : J 0 m news)
    (turn : ∀ i t m' nx h' tk it, i < n → J i m' nx → (∀ p ∈ nx, p.1 ≠ it.1) → Fr h₀ env.locals h' (fun y => if y = x then some (.int (a₀ + (i : Int)) t) else m' y) → News h₀ env.locals h' (nx ++ [it]) →
      wpC (model prog w) A (execs body env) (TurnEnd s h₀ env.locals it (J (i + 1)) Q) { s with heap := h', toks := tk })
    (done : ∀ m' nx h' tk, J n m' nx → Fr h₀ env.locals h' m' → News h₀ env.locals h' nx → Q .next { s with heap := h', toks := tk }) :
    wpAny (model prog w) A (pyIter (.ref r)) (fun it s₂ => codeC (model prog w) A (.forLoop (.Name x px) it body [] env) Q s₂) (fun _ _ => False) s := by
  refine wpAny_pyIter_range hr hsmall ?_
  have W : Walks prog w A s.heap.objs.size [s.heap.objs.size] [s.heap.objs.size] n (fun i v => ∃ t, v = .int (a₀ + i * 1) t)
      (fun i h => IsRangeIter h s.heap.objs.size (a₀ + (i : Nat) * 1) ((n : Int) - (i : Nat)) 1) := Walks.range hh _ a₀ 1 n
  refine loop_gen (P := fun i v => ∃ t, v = .int (a₀ + (i : Int)) t) (It := fun i h => IsRangeIter h s.heap.objs.size (a₀ + (i : Nat) * 1) ((n : Int) - (i : Nat)) 1) (Src := fun _ => True) J hx hp rfl F N hJ (by show IsRangeIter _ _ _ _ _; rw [hn]; simpa using Heap.get?_push_size _ rfl) (fun i h y => ⟨_, y⟩)
    (fun i h h' y e => e.trans y) (fun i s' Q' hi y _ hQ => ?_) (fun s' Q' y _ hQ => ?_) (fun _ _ _ _ _ _ _ => trivial) (fun i v m' nx h' tk it hi hP hJ' hn F' N' => ?_) done
  · refine W.item i s' _ _ hi y fun v h' tk hv st hk => hQ v h' tk ?_ st fun b o hb e => hk b o (by simp [hb]) e
    obtain ⟨t, rfl⟩ := hv
    exact ⟨t, by rw [Int.mul_one]⟩
  · exact W.done s' _ _ y fun h' tk hk => hQ h' tk fun b o hb e => hk b o (by simp [hb]) e
  · obtain ⟨t, rfl⟩ := hP
    exact turn i t m' nx h' tk it hi hJ' hn F' N'
end

theorem upd_news {h₀ h h' : Heap} {L d : Addr} {m : Str → Option Value} {o o' : Obj} {news : List (Addr × Obj)} (F : Fr h₀ L h m) (N : News h₀ L h news) (hd : (d, o) ∈ news) (hk : ∀ c x, c ≠ d → h.get? c = some x → h'.get? c = some x) (e : h'.get? d = some o') :
    Fr h₀ L h' m ∧ News h₀ L h' [(d, o')] := by
  obtain ⟨n1, n2, n3⟩ := N _ hd
  refine ⟨⟨F.ns.at' fun x ex => hk _ x (Ne.symm n2) ex, fun b x eb => hk b x (fun q => by rw [q] at eb; rw [eb] at n3; cases n3) (F.keep b x eb), F.above⟩, fun p hp => ?_⟩
  rw [List.mem_singleton.mp hp]
  exact ⟨e, n2, n3⟩

def zap (ns : List Int) (o : Nat) : List Int := ns.take o ++ ([0, 0] ++ ns.drop (o + 2))
theorem zap_length {ns : List Int} {o : Nat} (h : o + 2 ≤ ns.length) : (zap ns o).length = ns.length := by simp [zap]; omega
theorem zap_bytes {ns : List Int} {off : Int} (h0 : 0 ≤ off) (h1 : off + 2 ≤ ns.length) :
    (byteArr ns).extract 0 off.toNat ++ byteArr [0, 0] ++ (byteArr ns).extract (off + 2).toNat (byteArr ns).size = byteArr (zap ns off.toNat) := by
  have e : (off + 2).toNat = off.toNat + 2 := by omega
  apply Array.ext'
  simp only [byteArr, zap, e, Array.toList_append, Array.toList_extract, List.size_toArray, List.length_map, List.map_append, List.map_take, List.map_drop, List.extract_eq_take_drop]
  simp only [Int.toNat_zero, List.drop_zero, Nat.sub_zero, List.append_assoc, List.map_cons, List.map_nil]
  rw [List.take_of_length_le (l := List.drop _ _) (by simp)]
theorem zap_mem {ns : List Int} {o : Nat} (hr : ∀ n ∈ ns, 0 ≤ n ∧ n < 256) : ∀ n ∈ zap ns o, 0 ≤ n ∧ n < 256 := by
  intro n hn
  simp only [zap, List.mem_append, List.mem_cons] at hn
  rcases hn with h | (h | h | h) | h
  · exact hr n (List.mem_of_mem_take h)
  · omega
  · omega
  · cases h
  · exact hr n (List.mem_of_mem_drop h)
theorem byteArr_get {ns : List Int} (hr : ∀ n ∈ ns, 0 ≤ n ∧ n < 256) {i : Nat} {c : UInt8} (h : (byteArr ns)[i]? = some c) : ns[i]? = some (c.toNat : Int) := by
  have : (ns.map fun n => n.toNat.toUInt8)[i]? = some c := by simpa [byteArr] using h
  rw [List.getElem?_map] at this
  cases q : ns[i]? with
  | none => rw [q] at this; cases this
  | some n =>
    rw [q] at this
    obtain ⟨a, b⟩ := hr n (List.mem_of_getElem? q)
    simp only [Option.map_some, Option.some.injEq] at this
    subst this
    congr 1
    have : n.toNat < 256 := by omega
    simp [Nat.toUInt8, UInt8.toNat_ofNat', Nat.mod_eq_of_lt this]
    omega
end Fl
end

section
open PySem.Calls
namespace Fl
section
variable {prog : Program} {w : World} {A : Around} {s : Shared} {h₀ : Heap} {L : Addr} {m : Str → Option Value} {news : List (Addr × Obj)}

/-- one object of the ledger turned, the named others kept -/
theorem upd_keep {h h' : Heap} {d : Addr} {o o' : Obj} {keep : List (Addr × Obj)} (F : Fr h₀ L h m) (N : News h₀ L h news) (hd : (d, o) ∈ news) (hk : ∀ p ∈ keep, p ∈ news ∧ p.1 ≠ d)
    (hx : ∀ c x, c ≠ d → h.get? c = some x → h'.get? c = some x) (e : h'.get? d = some o') : Fr h₀ L h' m ∧ News h₀ L h' ((d, o') :: keep) := by
  obtain ⟨n1, n2, n3⟩ := N _ hd
  refine ⟨⟨F.ns.at' fun x ex => hx _ x (Ne.symm n2) ex, fun b x eb => hx b x (fun q => by rw [q] at eb; rw [eb] at n3; cases n3) (F.keep b x eb), F.above⟩, fun p hp => ?_⟩
  rcases List.mem_cons.mp hp with rfl | hp
  · exact ⟨e, n2, n3⟩
  · obtain ⟨a, b⟩ := hk p hp
    exact ⟨hx _ _ b (N p a).1, (N p a).2⟩

theorem app_ {E : Value → Shared → Prop} {D : Addr} {its : Array Value} {n : Nat} {x : Value} {keep : List (Addr × Obj)} {Q : Value → Shared → Prop} (F : Fr h₀ L s.heap m) (N : News h₀ L s.heap news) (hd : (D, listOf its n) ∈ news) (hk : ∀ p ∈ keep, p ∈ news ∧ p.1 ≠ D) (hz : its.size ≤ 1000)
    (h : ∀ h', Fr h₀ L h' m → News h₀ L h' ((D, listOf (its.push x) (n + 1)) :: keep) → Q .none { s with heap := h' }) : wpAny (model prog w) A (call (.builtin "list.append") [.ref D, x]) Q E s := by
  refine append_at (hsz := by rw [sizeLine_eq]; omega) (N _ hd).1 fun h' hs ho' => ?_
  obtain ⟨F', N'⟩ := upd_keep F N hd hk (fun c x hc e => hs.extBut c x hc e) ho'
  exact h h' F' N'

theorem app_oct {E : Value → Shared → Prop} {D : Addr} {wl : List Value} {n : Nat} {v : Int} {t : Tok} {keep : List (Addr × Obj)} {Q : Value → Shared → Prop} (F : Fr h₀ L s.heap m) (N : News h₀ L s.heap news) (hd : (D, listOf wl.toArray n) ∈ news) (hk : ∀ p ∈ keep, p ∈ news ∧ p.1 ≠ D) (hz : wl.length ≤ 1000) (hv : 0 ≤ v ∧ v < 256)
    (h : ∀ (v : Int) (t : Tok) (h' : Heap), 0 ≤ v ∧ v < 256 → Fr h₀ L h' m → News h₀ L h' ((D, W.listOf (wl ++ [Value.int v t]).toArray (n + 1)) :: keep) → Q .none { s with heap := h' }) : wpAny (model prog w) A (call (.builtin "list.append") [.ref D, .int v t]) Q E s := by
  refine app_ F N hd hk (by rw [List.size_toArray]; exact hz) fun h' F' N' => h v t h' hv F' ?_
  have e : wl.toArray.push (Value.int v t) = (wl ++ [Value.int v t]).toArray := by simp
  rw [e] at N'
  exact N'

/-- an int at a place in bounds of a list of the ledger -/
theorem setL_ {E : Value → Shared → Prop} {D : Addr} {wl : List Value} {n : Nat} {k : Int} {t : Tok} {x : Value} {keep : List (Addr × Obj)} {Q : Unit → Shared → Prop} (F : Fr h₀ L s.heap m) (N : News h₀ L s.heap news) (hd : (D, listOf wl.toArray n) ∈ news) (hk : ∀ p ∈ keep, p ∈ news ∧ p.1 ≠ D) (h0 : 0 ≤ k) (h1 : k < wl.length) (hz : wl.length ≤ 1000)
    (h : ∀ h', Fr h₀ L h' m → News h₀ L h' ((D, listOf (wl.set k.toNat x).toArray n) :: keep) → Q () { s with heap := h' }) : wpAny (model prog w) A (setItem (.ref D) (.int k t) x) Q E s := by
  have hDg := (N _ hd).1
  have hk' : k < wl.toArray.size := by rw [List.size_toArray]; exact h1
  refine ki_setAt hDg h0 (by omega) hk' ?_
  have hfin : (s.heap.update D (Obj.mapSeq (·.setIfInBounds k.toNat x))).get? D = some (listOf (wl.set k.toNat x).toArray n) := by
    rw [Heap.get?_update_self (Obj.mapSeq (·.setIfInBounds k.toNat x)) hDg (by simp [Obj.mapSeq, W.listOf, Obj.isFreed])]
    simp [Obj.mapSeq, W.listOf]
  obtain ⟨F', N'⟩ := upd_keep F N hd hk (fun c y hc e => (Heap.get?_update_other _ _ (Ne.symm hc)).trans e) hfin
  exact h _ F' N'
end
end Fl
end

section
open PySem.Calls
namespace Fl

structure Gl (mg mb : Str → Option Value) (h : Heap) : Prop where
  g : h.Ns mainGlobals mg
  b : h.Ns builtinsNs mb
  nolimit : h.NoLimit
  bt : ∀ x : Str, x ≠ "__name__" → mb x = bootBuiltins x
  free : ∀ x : Str, (["len", "bytearray", "min", "range", "list", "bytes", "sum"] : List Str).contains x = true → mg x = none
  modx : ∃ t, mg "_MODX" = some (.int 4102 t)

theorem Gl.keeps {mg mb : Str → Option Value} {h h' : Heap} (G : Gl mg mb h) (hk : ∀ b o, h.get? b = some o → h'.get? b = some o) : Gl mg mb h' := ⟨G.g.keeps hk, G.b.keeps hk, G.nolimit.keeps hk, G.bt, G.free, G.modx⟩

def flParams : Arguments := match PySem.Challenge.pw_bs0025_02.main.body with
  | _ :: _ :: .FunctionDef _ a _ _ _ _ _ _ _ _ :: _ => a
  | _ => ⟨[], [], none, [], [], none, []⟩
def flBody : List Stmt := match PySem.Challenge.pw_bs0025_02.main.body with
  | _ :: _ :: .FunctionDef _ _ b _ _ _ _ _ _ _ :: _ => b
  | _ => []
def flScope : Scope := match PySem.Challenge.pw_bs0025_02.main.body with
  | _ :: _ :: .FunctionDef _ _ _ _ _ _ s _ _ _ :: _ => s
  | _ => default

section
variable {prog : Program} {w : World} {A : Around} {s : Shared} {h₀ : Heap} {L a : Addr} {cd : Value} {m mg mb : Str → Option Value} {cn : Str} {cs : Scope}

theorem nm_b {M : Model} {E : Value → Shared → Prop} {x : Str} {pos : Pos} {v : Value} {Q : Value → Shared → Prop} (F : Fr h₀ L s.heap m) (G : Gl mg mb h₀) (hf : (["len", "bytearray", "min", "range", "list", "bytes", "sum"] : List Str).contains x = true) (hv : bootBuiltins x = some v) (hn : x ≠ "__name__") (h : Q v s)
    (hk : cs.kind = .function := by rfl) (hx : (envOf cn cs L a cd).kindOf x = some .globalImplicit := by rfl) (hd : (x == ("__debug__" : Str)) = false := by decide) :
    wpAny M A (eval (.Name x pos) (envOf cn cs L a cd)) Q E s := ld_builtin_at F G.g (G.free x hf) G.b ((G.bt x hn).trans hv) h hk hx hd

local macro_rules | `(tactic| walk_at "eval Name") => `(tactic| (with_unfolding_all refine guard_global (by rfl) ?_; k_dflt (refine' nm_b ?k1 ?k2 ?k3 ?k4 ?k5 ?_; (case k1 => k_asm); (case k2 => k_asm); (case k3 => decide); (case k4 => boot_by_name); (case k5 => decide); k_whole)))

theorem nm_modx {M : Model} {E : Value → Shared → Prop} {pos : Pos} {Q : Value → Shared → Prop} (F : Fr h₀ L s.heap m) (G : Gl mg mb h₀) (h : ∀ t, Q (.int 4102 t) s)
    (hk : cs.kind = .function := by rfl) (hx : (envOf cn cs L a cd).kindOf "_MODX" = some .globalImplicit := by rfl) :
    wpAny M A (eval (.Name "_MODX" pos) (envOf cn cs L a cd)) Q E s := by
  obtain ⟨t, ht⟩ := G.modx
  exact ld_global_at F G.g ht (h t) hk hx

local macro_rules | `(tactic| walk_at "eval Name") => `(tactic| ((with_reducible show wpAny _ _ (eval (PySem.Expr.Name (Str.ofString "_MODX") _) _) _ _ _); k_dflt (refine' nm_modx ?k1 ?k2 ?_; (case k1 => k_asm); (case k2 => k_asm); k_whole); intro _))

local macro_rules | `(tactic| walk_at "call builtin:min") => `(tactic| ((with_reducible show wpAny _ _ (call (Value.builtin _) [Value.int _ _, Value.int _ _]) _ _ _); (with_reducible rename Fr _ _ _ _ => F'); (with_reducible rename News _ _ _ _ => N'); (refine min_two_N (by assumption) F' N' ?_); clear F' N'; intro _ _ F' N'))

structure Src (h₀ : Heap) (data : Value) (ns : List Int) : Prop where
  len : ∀ {prog : Program} {w : World} {A : Around} {s : Shared} {E : Value → Shared → Prop} {Q : Value → Shared → Prop}, (∀ b o, h₀.get? b = some o → s.heap.get? b = some o) → (∀ t k, Q (.int ns.length t) { s with toks := k }) → wpAny (model prog w) A (call (.builtin "len") [data]) Q E s
  ba : ∀ {prog : Program} {w : World} {A : Around} {s : Shared} {Q : Value → Shared → Prop}, A.guards = some [] → (∀ b o, h₀.get? b = some o → s.heap.get? b = some o) →
    (∀ h', (∀ b o, s.heap.get? b = some o → h'.get? b = some o) → h'.get? s.heap.objs.size = some (baObj (byteArr ns)) → Q (.ref s.heap.objs.size) { s with heap := h' }) → wpC (model prog w) A (call (.type "bytearray") [data]) Q s

local macro_rules | `(tactic| walk_at "call builtin:len") => `(tactic| (refine Src.len (by assumption) (Fr.keep (by assumption)) ?_; intro _ _))

theorem fresh_none {h h' : Heap} {L : Addr} {m : Str → Option Value} (F : Fr h L h' m) : h.get? h'.objs.size = none := by
  cases q : h.get? h'.objs.size with
  | none => rfl
  | some o => exact absurd (Heap.lt_size (F.keep _ _ q)) (Nat.lt_irrefl _)

theorem ba_slice_K {E : Value → Shared → Prop} {value slice : PySem.Expr} {d : Addr} {b : Array UInt8} {i j : Int} {t u : Tok} {news : List (Addr × Obj)} {Q : Value → Shared → Prop} (hF : Fr h₀ L s.heap m) (hN : News h₀ L s.heap news) (hd : (d, baObj b) ∈ news) (hlo : i = 0) (hhi : j = b.size) (hz : b.size ≤ 1000)
    (h : ∀ e h', Fr h₀ L h' m → News h₀ L h' ((e, baObj b) :: news) → (∀ p ∈ news, p.1 < e) → Q (.ref e) { s with heap := h' })
    (hs : subscripted slice false (.ref d) (.ref s.heap.objs.size) = operate [.ref s.heap.objs.size, .ref d] (getItem (.ref d) (.ref s.heap.objs.size)) := by with_unfolding_all rfl)
    (ht : ∀ r, letTemporaryGo value (.ref d) r = pure () := by intro _; with_unfolding_all rfl) :
    wpAny (model prog w) A (subscriptTail value slice (.ref d) (.ref s.heap.objs.size)) Q E { s with heap := s.heap.push { cls := .type "slice", data := .fields #[.int i t, .int j u, .none] } } := by
  subst hlo hhi
  have hd' := (hN _ hd).1
  have hd2 : (s.heap.push { cls := .type "slice", data := .fields #[.int 0 t, .int b.size u, .none] }).get? d = some (baObj b) := Heap.get?_push_of_some _ hd'
  have hT : ({ s with heap := s.heap.push { cls := .type "slice", data := .fields #[.int 0 t, .int b.size u, .none] } } : Shared).TypeIs (.ref d) "bytearray" := ⟨_, hd2, rfl⟩
  have hp : KBy.picked b (some 0) (some (b.size : Int)) = b := by
    rw [KBc.picked_eq]
    have e1 : clipAt b.size 0 = 0 := by have := clipAt_nat b.size 0; simpa using this
    have e2 : clipAt b.size (b.size : Int) = b.size := by rw [clipAt_nat]; exact Nat.min_self _
    simp only [Option.elim, e1, e2, List.drop_zero, Nat.sub_zero]
    rw [List.take_of_length_le (by simp), Array.toArray_toList]
  refine tail_of_ItemOn ⟨"bytearray", _, ba_slot_get.lookup, hT, getItem_meets hT (by decide) ba_slot_get ba_entry_get (ba_args_get _ _) (meets_ba_slice d s.heap.objs.size b 0 b.size t u) ⟨hd2, Heap.IsSliceOf.new _ _ _ _, by rw [hp, sizeLine_eq]; omega, ?_⟩⟩ hs ht
  rw [hp]
  refine h _ _ ((hF.push _).push _) ((hN.pushKeep _).push (hF.push _) _) fun p hp => ?_
  exact Heap.lt_size ((hN.pushKeep _) p hp).1

local macro_rules | `(tactic| walk_at "subscriptTail") => `(tactic| ((with_reducible show wpAny _ _ (subscriptTail _ (PySem.Expr.Slice _ _ none _) (Value.ref _) (Value.ref _)) _ _ _); (with_reducible rename Fr _ _ _ _ => F'); (with_reducible rename News _ _ _ _ => N'); (refine ba_slice_K (s := ⟨_, _, _, _, _⟩) F' N' (by first | exact List.Mem.head _ | exact List.Mem.tail _ (List.Mem.head _)) (by omega) (by simp only [byteArr_size]; omega) (by simp only [byteArr_size]; omega) ?_); intro _ _ _ _ _))

theorem setItem_K {d : Addr} {b : Array UInt8} {k v : Int} {t u : Tok} {Q : Unit → Shared → Prop} (F : Fr h₀ L s.heap m) (N : News h₀ L s.heap [(d, baObj b)]) (h0 : 0 ≤ k) (h1 : k < b.size) (hz : b.size ≤ 1000) (v0 : 0 ≤ v) (v1 : v < 256)
    (h : ∀ h', Fr h₀ L h' m → News h₀ L h' [(d, baObj (b.setIfInBounds k.toNat v.toNat.toUInt8))] → Q () { s with heap := h' }) : wpAny (model prog w) A (setItem (.ref d) (.int k t) (.int v u)) Q (fun _ _ => False) s := by
  refine setItem_ba (N _ (.head _)).1 h0 h1 (by rw [sizeLine_eq]; omega) v0 v1 fun h' hs hg => ?_
  obtain ⟨F', N'⟩ := upd_news F N (.head _) (fun c x hc e => hs.extBut c x hc e) hg
  exact h h' F' N'

local macro_rules | `(tactic| walk_at "setItem") => `(tactic| ((with_reducible show wpAny _ _ (setItem (Value.ref _) (Value.int _ _) (Value.int _ _)) _ _ _); (with_reducible rename Fr _ _ _ _ => F'); (with_reducible rename News _ _ _ _ => N'); (refine setItem_K F' N' (by omega) (by simp only [byteArr_size, Array.size_setIfInBounds]; omega) (by simp only [byteArr_size, Array.size_setIfInBounds]; omega) (by omega) (by omega) ?_); clear F' N'; intro _ F' N'))

theorem str_ite {α : Type} {x y : Str} {a b : α} (h : decide (x = y) = false) : (if x = y then a else b) = b := if_neg (of_decide_eq_false h)

def flStep (p : Int × Int) (d : Int) : Int × Int := (p.1 + d, p.2 + (p.1 + d))
def flSums (z : List Int) : Int × Int := z.foldl flStep (0, 0)
theorem flSums_snoc (p : List Int) (d : Int) : flSums (p ++ [d]) = ((flSums p).1 + d, (flSums p).2 + ((flSums p).1 + d)) := by
  unfold flSums; rw [List.foldl_append]; rfl


theorem and_hi {a b : Nat} (h : b < 256) : (a * 256) &&& b = 0 := by
  apply Nat.eq_of_testBit_eq
  intro i
  rw [Nat.testBit_and, show a * 256 = a * 2 ^ 8 from rfl, Nat.testBit_mul_two_pow, Nat.zero_testBit]
  by_cases hi : 8 ≤ i
  · rw [Nat.testBit_lt_two_pow (Nat.lt_of_lt_of_le h (Nat.pow_le_pow_right (n := 2) (by decide) hi : 2 ^ 8 ≤ 2 ^ i) : b < 2 ^ i), Bool.and_false]
  · simp [hi]
theorem or_bytes {X Y : Int} (hx : 0 ≤ X) (hy0 : 0 ≤ Y) (hy1 : Y < 256) : Builtin.bitOr (X * 2 ^ Int.toNat 8) (Builtin.bitAnd Y 255) = X * 256 + Y := by
  have e : X * 2 ^ Int.toNat 8 = X * 256 := rfl
  have ey : Builtin.bitAnd Y 255 = Y := by
    rw [bitAnd_pp hy0 (by decide)]
    have : Y.toNat &&& 255 = Y.toNat := Nat.and_two_pow_sub_one_of_lt_two_pow (n := 8) (by omega)
    rw [show (255 : Int).toNat = 255 from rfl, this]; omega
  rw [e, ey, bitOr_and, bitAnd_pp (by omega) hy0]
  have : (X * 256).toNat = X.toNat * 256 := by omega
  rw [this, and_hi (by omega)]
  simp

def fletX (n off c0 c1 : Int) : Int := if ((n - off - 1) * c0 - c1).fmod 255 ≤ 0 then ((n - off - 1) * c0 - c1).fmod 255 + 255 else ((n - off - 1) * c0 - c1).fmod 255
def fletY (c0 x : Int) : Int := if 510 - c0 - x > 255 then 510 - c0 - x - 255 else 510 - c0 - x
def fletOf (n off c0 c1 : Int) : Int := fletX n off c0 c1 * 256 + fletY c0 (fletX n off c0 c1)
def flet (ns : List Int) (off : Int) : Int := fletOf ns.length off ((flSums (zap ns off.toNat)).1.fmod 255) ((flSums (zap ns off.toNat)).2.fmod 255)

set_option maxHeartbeats 4000000 in
theorem fl_body {data : Value} {off : Int} {t : Tok} {ns : List Int} {Q : Flow → Shared → Prop} (hg : A.guards = some []) (hh : A.handled = none)
    (G : Gl mg mb h₀) (X : Frag.In [] h₀) (N' : News h₀ L s.heap []) (S : Src h₀ data ns) (hr : ∀ n ∈ ns, 0 ≤ n ∧ n < 256) (hlen : ns.length ≤ 64) (h0 : 0 ≤ off) (h1 : off + 2 ≤ ns.length)
    (hQ : ∀ h' t' k, (∀ b o, h₀.get? b = some o → h'.get? b = some o) → Q (.ret (.int (flet ns off) t')) { s with heap := h', toks := k })
    (F' : Fr h₀ L s.heap (fun x => ([("data", data), ("offset", .int off t)] : List (Str × Value)).reverse.lookup x)) :
    wpC (model prog w) A (execs flBody (envOf "fletcher_checksum" flScope L a cd)) Q s := by
  obtain ⟨hp, gs, dr, tk, os⟩ := s
  unfold flBody flScope PySem.Challenge.pw_bs0025_02
  dsimp only at *
  refine execs_any ?_
  k_steps
  dsimp only
  refine execs_any ?_
  k_steps
  dsimp only
  refine execs_any ?_
  k_steps
  dsimp only
  refine execs_any ?_
  k_steps
  dsimp only
  refine execs_cons_ (Assign_ (Call_ ?_))
  k_steps
  rename Fr _ _ _ _ => F5
  rename News _ _ _ _ => N5
  refine callWith_ (.inr rfl) (args_cons_ (any (ld F5 (by exact rfl) (args_nil_ ⟨keeper_type, S.ba hg F5.keep fun h5 k5 e5 => ?_⟩))))
  dsimp only at k5 e5 ⊢
  have F5' := F5.after k5
  have f5 := fresh_none F5
  have n5 := Nat.ne_of_gt F5.ns.lt
  revert e5 f5 n5
  generalize Array.size _ = dA
  intro e5 f5 n5
  have N5' : News h₀ L h5 [(dA, baObj (byteArr ns))] := fun p hp => by
    rw [List.mem_singleton.mp hp]
    exact ⟨e5, n5, f5⟩
  clear F5 N5
  refine stN F5' N5' fun h5' F6 N6 => ?_
  clear F5' N5'
  dsimp only
  refine execs_cons_ (AssignSub_ ?_)
  k_steps
  dsimp only
  rename Fr _ _ _ _ => F7
  rename News _ _ _ _ => N7
  rename IntsAre _ _ => i7
  have hd7 := (N7 (dA, baObj (byteArr ns)) (by simp)).1
  refine setItem_slice (ns := [0, 0]) hg (Heap.get?_push_of_some _ hd7) (Heap.IsSliceOf.new _ _ _ _) (Heap.IsList.push ⟨_, (N7 _ (.head _)).1, rfl, _, rfl⟩ _) i7 (by simp) (by rw [byteArr_size, sizeLine_eq]; omega) h0 (by simp) (by rw [byteArr_size]; omega) fun h8 k8 e8 => ?_
  rw [zap_bytes h0 h1] at e8
  have P8 := upd_news (F7.push _) (N7.pushKeep _) (o := baObj (byteArr ns)) (by simp) k8 e8
  obtain ⟨F8, N8⟩ := P8
  dsimp only
  refine execs_cons_ (While_ ?_)
  have hzl : (zap ns off.toNat).length = ns.length := zap_length (by omega)
  have hzm := zap_mem (o := off.toNat) hr
  unfold flet at hQ
  revert N8
  generalize zap ns off.toNat = z at hzl hzm hQ
  intro N8
  clear k8 e8 F7 N7 i7 k5 e5
  revert F8
  generalize hm8 : (fun y => if y = Str.ofString "data" then some (Value.ref dA) else _) = m8
  intro F8
  have hn0 : 0 < ns.length := by omega
  refine code_while (fun k s' => ∃ h' t', s' = ⟨h', gs, dr, t', os⟩ ∧ News h₀ L h' [(dA, baObj (byteArr z))] ∧ ((k = 1 ∧ Fr h₀ L h' m8) ∨
    (k = 0 ∧ ∃ t0 t1 tp td m', Fr h₀ L h' m' ∧ m' "c0" = some (.int ((flSums z).1.fmod 255) t0) ∧ m' "c1" = some (.int ((flSums z).2.fmod 255) t1) ∧ m' "pos" = some (.int ns.length tp) ∧ m' "length" = some (.int ns.length td) ∧ m' "data" = some (.ref dA) ∧ m' "offset" = some (.int off t)))) ?_ 1 ⟨h8, _, rfl, N8, .inl ⟨rfl, F8⟩⟩
  rintro k s' ⟨h', t', rfl, N', ⟨rfl, F'⟩ | ⟨rfl, t0, t1, tp, td, m', F', e0, e1, ep, el, ed, eo⟩⟩
  · clear F8 N8
    subst hm8
    k_steps
    refine execs_any ?_
    k_steps
    dsimp only
    refine execs_cons_ (For_ ?_)
    k_steps
    dsimp only
    rename_i eA hE FL NL lE
    have hbs : (byteArr z).size = z.length := byteArr_size z
    revert FL
    generalize hmL : (fun y => if y = Str.ofString "tlen" then _ else _) = mL
    intro FL
    have vL0 : ∃ t, mL "c0" = some (.int 0 t) := by rw [← hmL]; exact ⟨_, rfl⟩
    have vL1 : ∃ t, mL "c1" = some (.int 0 t) := by rw [← hmL]; exact ⟨_, rfl⟩
    refine loop_ba (s := ⟨_, _, _, _, _⟩) (b := byteArr z) (fun i m' nx => nx = [(eA, baObj (byteArr z)), (dA, baObj (byteArr z))] ∧ (∃ t, m' "c0" = some (.int (flSums (z.take i)).1 t)) ∧ (∃ t, m' "c1" = some (.int (flSums (z.take i)).2 t)) ∧
      ∀ y : Str, y ≠ "c0" → y ≠ "c1" → y ≠ "d" → m' y = mL y) hh rfl rfl FL NL ⟨rfl, vL0, vL1, fun _ _ _ _ => rfl⟩ ?_ ?_ ?_
    · rintro i m' nx h' ⟨rfl, _⟩ F' N'
      exact (N' _ (.head _)).1
    · rintro i c tc m' nx h' tk it hi hc ⟨rfl, ⟨t0, e0⟩, ⟨t1, e1⟩, er⟩ hn F' N'
      have hzc := byteArr_get hzm hc
      have hs : flSums (z.take (i + 1)) = ((flSums (z.take i)).1 + c.toNat, (flSums (z.take i)).2 + ((flSums (z.take i)).1 + c.toNat)) := by
        rw [List.take_add_one, hzc]; exact flSums_snoc _ _
      have em : (fun y => if y = Str.ofString "d" then some (Value.int c.toNat tc) else m' y) = fun y => if y = Str.ofString "d" then some (Value.int c.toNat tc) else if y = "c0" then some (.int (flSums (z.take i)).1 t0) else if y = "c1" then some (.int (flSums (z.take i)).2 t1) else mL y := by
        funext y
        by_cases q : y = Str.ofString "d"
        · rw [if_pos q, if_pos q]
        · rw [if_neg q, if_neg q]
          by_cases q0 : y = "c0"
          · rw [if_pos q0, q0, e0]
          · rw [if_neg q0]
            by_cases q1 : y = "c1"
            · rw [if_pos q1, q1, e1]
            · rw [if_neg q1]; exact er y q0 q1 q
      rw [em] at F'
      refine execs_any ?_
      k_steps
      dsimp only
      refine execs_any ?_
      k_steps
      dsimp only
      rename Fr _ _ _ _ => F''
      rename News _ _ _ _ => N''
      refine execs_nil_ ⟨_, _, _, _, rfl, F'', N'', hn, rfl, ?_, ?_, ?_⟩
      · rw [hs]; exact ⟨_, rfl⟩
      · rw [hs]; exact ⟨_, rfl⟩
      · intro y q0 q1 q
        simp only [if_neg q0, if_neg q1, if_neg q]
    · rintro m' nx h' tk ⟨rfl, ⟨t0, e0⟩, ⟨t1, e1⟩, er⟩ F' N'
      have hbz : (byteArr z).size = z.length := byteArr_size z
      rw [hbz, List.take_length] at e0 e1
      have em : m' = fun y => if y = Str.ofString "d" then m' "d" else if y = "c0" then some (.int (flSums z).1 t0) else if y = "c1" then some (.int (flSums z).2 t1) else mL y := by
        funext y
        by_cases q : y = Str.ofString "d"
        · rw [if_pos q, q]
        · rw [if_neg q]
          by_cases q0 : y = "c0"
          · rw [if_pos q0, q0, e0]
          · rw [if_neg q0]
            by_cases q1 : y = "c1"
            · rw [if_pos q1, q1, e1]
            · rw [if_neg q1]; exact er y q0 q1 q
      rw [em] at F'
      subst hmL
      refine execs_any ?_
      k_steps
      dsimp only
      refine execs_any ?_
      k_steps
      dsimp only
      refine execs_any ?_
      k_steps
      dsimp only
      rename Fr _ _ _ _ => F''
      rename News _ _ _ _ => N''
      have hp0 : (0 + if (4102 : Int) < (ns.length : Int) - 0 then (4102 : Int) else (ns.length : Int) - 0) = (ns.length : Int) := by rw [if_neg (by omega)]; omega
      rw [hp0] at F''
      revert F''
      generalize hmF : (fun y => if y = Str.ofString "pos" then _ else _) = mF
      intro F''
      obtain ⟨w0, x0⟩ : ∃ t, mF "c0" = some (.int ((flSums z).1.fmod 255) t) := by rw [← hmF]; exact ⟨_, rfl⟩
      obtain ⟨w1, x1⟩ : ∃ t, mF "c1" = some (.int ((flSums z).2.fmod 255) t) := by rw [← hmF]; exact ⟨_, rfl⟩
      obtain ⟨w2, x2⟩ : ∃ t, mF "pos" = some (.int ns.length t) := by rw [← hmF]; exact ⟨_, rfl⟩
      obtain ⟨w3, x3⟩ : ∃ t, mF "length" = some (.int ns.length t) := by rw [← hmF]; exact ⟨_, rfl⟩
      have x4 : mF "data" = some (.ref dA) := by rw [← hmF]; rfl
      have x5 : mF "offset" = some (.int off t) := by rw [← hmF]; rfl
      exact execs_nil_ ⟨0, by omega, _, _, rfl, (fun p hp => N'' p (List.mem_cons_of_mem _ hp)), .inr ⟨rfl, w0, w1, w2, w3, mF, F'', x0, x1, x2, x3, x4, x5⟩⟩
  · have em : m' = fun y => if y = Str.ofString "c0" then some (.int ((flSums z).1.fmod 255) t0) else if y = "c1" then some (.int ((flSums z).2.fmod 255) t1) else if y = "pos" then some (.int ns.length tp) else if y = "length" then some (.int ns.length td) else
        if y = "data" then some (.ref dA) else if y = "offset" then some (.int off t) else m' y := by
      funext y
      by_cases q0 : y = "c0"
      · rw [if_pos q0, q0, e0]
      · rw [if_neg q0]
        by_cases q1 : y = "c1"
        · rw [if_pos q1, q1, e1]
        · rw [if_neg q1]
          by_cases q2 : y = "pos"
          · rw [if_pos q2, q2, ep]
          · rw [if_neg q2]
            by_cases q3 : y = "length"
            · rw [if_pos q3, q3, el]
            · rw [if_neg q3]
              by_cases q4 : y = "data"
              · rw [if_pos q4, q4, ed]
              · rw [if_neg q4]
                by_cases q5 : y = "offset"
                · rw [if_pos q5, q5, eo]
                · rw [if_neg q5]
    rw [em] at F'
    clear em e0 e1 ep el ed eo F8 N8
    have b0 : 0 ≤ (flSums z).1.fmod 255 ∧ (flSums z).1.fmod 255 < 255 := ⟨Int.fmod_nonneg_of_pos _ (by decide), Int.fmod_lt_of_pos _ (by decide)⟩
    have b1 : 0 ≤ (flSums z).2.fmod 255 ∧ (flSums z).2.fmod 255 < 255 := ⟨Int.fmod_nonneg_of_pos _ (by decide), Int.fmod_lt_of_pos _ (by decide)⟩
    revert F'
    generalize (flSums z).1.fmod 255 = C0 at b0 hQ
    generalize (flSums z).2.fmod 255 = C1 at b1 hQ
    intro F'
    obtain ⟨b00, b01⟩ := b0
    obtain ⟨b10, b11⟩ := b1
    k_steps
    dsimp only
    refine execs_any ?_
    k_steps
    dsimp only
    rename Fr _ _ _ _ => Fx
    have hx0 : 0 ≤ (((ns.length : Int) - off - 1) * C0 - C1).fmod 255 := Int.fmod_nonneg_of_pos _ (by decide)
    have hx1 : (((ns.length : Int) - off - 1) * C0 - C1).fmod 255 < 255 := Int.fmod_lt_of_pos _ (by decide)
    revert Fx
    generalize hX : (((ns.length : Int) - off - 1) * C0 - C1).fmod 255 = X0 at hx0 hx1
    intro Fx
    refine execs_any ?_
    k_steps
    all_goals dsimp only
    all_goals refine execs_any ?_
    all_goals k_steps
    all_goals dsimp only
    all_goals refine execs_any ?_
    all_goals k_steps
    all_goals dsimp only
    all_goals refine execs_any ?_
    all_goals k_steps
    all_goals dsimp only
    all_goals refine execs_any ?_
    all_goals k_steps
    all_goals dsimp only
    all_goals refine execs_any ?_
    all_goals k_steps
    all_goals dsimp only
    all_goals (rename Fr _ _ _ _ => Fe)
    all_goals (have hqe := fun t' k => hQ _ t' k Fe.keep)
    all_goals (unfold fletOf fletY fletX at hqe; rw [hX] at hqe)
    · rw [or_bytes (by omega) (by omega) (by omega)]
      rw [if_pos (by omega), if_neg (by omega)] at hqe
      exact hqe _ _
    · rw [or_bytes (by omega) (by omega) (by omega)]
      rw [if_neg (by omega), if_pos (by omega)] at hqe
      exact hqe _ _
    · rw [or_bytes (by omega) (by omega) (by omega)]
      rw [if_neg (by omega), if_neg (by omega)] at hqe
      exact hqe _ _

theorem fl_call {f : Addr} {o : Obj} {pm code doc data : Value} {off : Int} {t : Tok} {ns : List Int} {Q : Value → Shared → Prop} (hg : A.guards = some []) (hh : A.handled = none) (hroom : A.depth < recursionLimit)
    (G : Gl mg mb s.heap) (ho : s.heap.get? f = some o) (hdat : o.data = .func (docDef "fletcher_checksum" flParams flBody flScope pm code doc)) (hcd : s.heap.CodeRec code "fletcher_checksum")
    (S : Src s.heap data ns) (hr : ∀ n ∈ ns, 0 ≤ n ∧ n < 256) (hlen : ns.length ≤ 64) (h0 : 0 ≤ off) (h1 : off + 2 ≤ ns.length)
    (hQ : ∀ h' t' k, (∀ b o, s.heap.get? b = some o → h'.get? b = some o) → Q (.int (flet ns off) t') { s with heap := h', toks := k }) :
    wpC (model prog w) A (call (.ref f) [data, .int off t]) Q s := by
  refine call_ (code_call (binds := [("data", data), ("offset", .int off t)]) hroom ho hdat G.nolimit hcd rfl (by intro x hx; simp at hx; rcases hx with rfl | rfl <;> rfl) (fun h₁ F => ?_) rfl rfl rfl (by decide))
  refine fl_body (A := A.deeper _) (t := t) hg hh G (fun _ _ e => by cases e) (fun _ h => nomatch h) S hr hlen h0 h1 (fun h' t' k hk => ⟨_, rfl, hQ h' t' k hk⟩) F

theorem src_list {h₀ : Heap} {l : Addr} {vs : List Value} {ns : List Int} (hl : h₀.IsList l vs.toArray) (hi : IntsAre vs ns) (hr : ∀ n ∈ ns, 0 ≤ n ∧ n < 256) (hlen : ns.length ≤ 1000) : Src h₀ (.ref l) ns where
  len := fun {prog w A s E Q} hk hQ => by
    have hl' : s.heap.IsList l vs.toArray := by obtain ⟨o, ho, r⟩ := hl; exact ⟨o, hk _ _ ho, r⟩
    have hvl := hi.length
    have hsz : vs.toArray.size = ns.length := by simp [hvl]
    refine Calls.call_len_list hl' (by omega) ?_
    rw [hsz]
    exact hQ _ _
  ba := fun {prog w A s Q} hg hk hQ => by
    have hl' : s.heap.IsList l vs.toArray := by obtain ⟨o, ho, r⟩ := hl; exact ⟨o, hk _ _ ho, r⟩
    exact bytearray_list hg hl' hi hr (by rw [sizeLine_eq]; omega) hQ
theorem src_bytes {h₀ : Heap} {t : Tok} {ns : List Int} (hlen : ns.length ≤ 1000) : Src h₀ (.bytes (byteArr ns) t) ns where
  len := fun {prog w A s E Q} hk hQ => by
    have hsz : (byteArr ns).size = ns.length := byteArr_size ns
    refine len_bytes (by omega) ?_
    rw [hsz]
    exact hQ _ _
  ba := fun {prog w A s Q} hg hk hQ => bytearray_bytes hg (by rw [byteArr_size, sizeLine_eq]; omega) hQ
theorem src_ba {h₀ : Heap} {l : Addr} {ns : List Int} (hl : h₀.get? l = some (baObj (byteArr ns))) (hlen : ns.length ≤ 1000) : Src h₀ (.ref l) ns where
  len := fun {prog w A s E Q} hk hQ => by
    have hsz : (byteArr ns).size = ns.length := byteArr_size ns
    refine len_ba (hk _ _ hl) (by omega) fun t k => ?_
    rw [hsz]
    exact hQ _ _
  ba := fun {prog w A s Q} hg hk hQ => bytearray_ba hg (hk _ _ hl) (by rw [byteArr_size, sizeLine_eq]; omega) hQ
end
end Fl
end

section
open PySem.Calls
namespace Fl

def lawBody : List Stmt := match PySem.Challenge.pw_bs0025_02.main.body with
  | _ :: _ :: _ :: _ :: .FunctionDef _ _ b _ _ _ _ _ _ _ :: _ => b
  | _ => []
def lawScope : Scope := match PySem.Challenge.pw_bs0025_02.main.body with
  | _ :: _ :: _ :: _ :: .FunctionDef _ _ _ _ _ _ s _ _ _ :: _ => s
  | _ => default
def lawBody2 : List Stmt := lawBody.drop 2

local macro_rules | `(tactic| walk_at "eval Name") => `(tactic| (with_unfolding_all refine guard_global (by rfl) ?_; k_dflt (refine' nm_b ?k1 ?k2 ?k3 ?k4 ?k5 ?_; (case k1 => k_asm); (case k2 => k_asm); (case k3 => decide); (case k4 => boot_by_name); (case k5 => decide); k_whole)))

section
variable {prog : Program} {w : World} {s : Shared} {h₀ : Heap} {L a : Addr} {cd : Value} {m mg mb : Str → Option Value}

theorem fmb (x b c : Int) (hb : 0 < b) (hc : 0 ≤ c) (h : (b - 1) * c ≤ 255) : 0 ≤ x.fmod b * c ∧ x.fmod b * c < 256 := by
  have h0 := Int.fmod_nonneg_of_pos x hb
  have h1 := Int.fmod_lt_of_pos x hb
  have h2 : x.fmod b * c ≤ (b - 1) * c := Int.mul_le_mul_of_nonneg_right (by omega) hc
  exact ⟨Int.mul_nonneg h0 hc, by omega⟩

/-- what stands when the row is built -/
structure RowAt (h₀ : Heap) (L : Addr) (h : Heap) (dC rA : Addr) (ws : List Value) (wl : List Value) (rs : List Int) (k : Nat) (SZ PL : Int) (u : Str → Option Value) : Prop where
  news : News h₀ L h [(rA, W.listOf wl.toArray k), (dC, W.listOf ws.toArray 0)]
  ne : rA ≠ dC
  are : IntsAre wl rs
  len : (rs.length : Int) = SZ
  oct : ∀ x ∈ rs, 0 ≤ x ∧ x < 256
  z0 : 6 ≤ SZ
  z1 : SZ ≤ 25
  p0 : 0 ≤ PL
  p1 : PL < SZ - 1
  fr : ∃ tp tz, Fr h₀ L h (fun y => if y = Str.ofString "row" then some (.ref rA) else if y = Str.ofString "place" then some (.int PL tp) else if y = Str.ofString "size" then some (.int SZ tz) else if y = Str.ofString "cells" then some (.ref dC) else u y)

set_option maxHeartbeats 4000000 in
theorem law_b2 {dC : Addr} {cs : List Int} {ws : List Value} {u : Str → Option Value} {Q : Flow → Shared → Prop}
    (h3 : ∀ h' tk rA wl rs k SZ PL u', RowAt h₀ L h' dC rA ws wl rs k SZ PL u' → wpC (model prog w) (callerA.deeper (envOf "law" lawScope L a cd)) (execs (lawBody.drop 6) (envOf "law" lawScope L a cd)) Q { s with heap := h', toks := tk })
    (G : Gl mg mb h₀) (X : Frag.In [] h₀) (N' : News h₀ L s.heap [(dC, listOf ws.toArray 0)]) (hI : IntsAre ws cs) (hcl : cs.length = 18) (hc0 : ∀ c ∈ cs, 0 ≤ c)
    (F' : Fr h₀ L s.heap (fun y => if y = Str.ofString "cells" then some (.ref dC) else u y)) :
    wpC (model prog w) (callerA.deeper (envOf "law" lawScope L a cd)) (execs lawBody2 (envOf "law" lawScope L a cd)) Q s := by
  obtain ⟨hp, gs, dr, tk, os⟩ := s
  unfold lawBody2 lawBody lawScope PySem.Challenge.pw_bs0025_02
  dsimp only [List.drop] at *
  refine execs_any ?_
  k_steps
  dsimp only
  rename Fr _ _ _ _ => F1
  dsimp only at F1
  have hs0 : 0 ≤ (cs.getD (Int.toNat 0) 0).fmod 20 := Int.fmod_nonneg_of_pos _ (by decide)
  have hs1 : (cs.getD (Int.toNat 0) 0).fmod 20 < 20 := Int.fmod_lt_of_pos _ (by decide)
  try clear F'
  revert F1
  generalize hsz : 6 + (cs.getD (Int.toNat 0) 0).fmod 20 = SZ
  intro F1
  have z0 : 6 ≤ SZ := by omega
  have z1 : SZ ≤ 25 := by omega
  clear hsz hs0 hs1
  refine execs_any ?_
  k_steps
  dsimp only
  rename Fr _ _ _ _ => F2
  dsimp only at F2
  have hp0 : 0 ≤ (cs.getD (Int.toNat 1) 0).fmod (SZ - 1) := Int.fmod_nonneg_of_pos _ (by omega)
  have hp1 : (cs.getD (Int.toNat 1) 0).fmod (SZ - 1) < SZ - 1 := Int.fmod_lt_of_pos _ (by omega)
  try clear F1
  revert F2
  generalize hpl : (cs.getD (Int.toNat 1) 0).fmod (SZ - 1) = PL at hp0 hp1
  intro F2
  clear hpl
  refine execs_any ?_
  k_steps
  dsimp only
  refine execs_cons_ (For_ ?_)
  k_steps
  dsimp only
  rename_i rA hA lt1 hB FB NB hC tkC tC uC vC hRg hFr hNw hKp
  dsimp only at hRg
  clear FB NB hKp
  revert hFr
  generalize hmL : (fun y => if y = Str.ofString "row" then _ else _) = mL
  intro hFr
  have hsz : ((SZ.toNat : Nat) : Int) = SZ := by omega
  refine loop_range (s := ⟨_, _, _, _, _⟩) (n := SZ.toNat) (fun i m' nx => ∃ wr rs k, nx = [(rA, listOf wr k), (dC, listOf ws.toArray 0)] ∧ (∃ wl : List Value, wr = wl.toArray ∧ IntsAre wl rs) ∧ rs.length = i ∧ (∀ x ∈ rs, 0 ≤ x ∧ x < 256) ∧ ∀ y : Str, y ≠ "k" → y ≠ "draw" → m' y = mL y)
    rfl rfl rfl hRg (small_one (by omega) (by omega) (by omega) (by omega)) (by simp only [Builtin.Range.rangeSize]; rw [if_pos (by decide), if_pos (by omega)]; omega) hFr hNw
    ⟨#[], [], 0, rfl, ⟨[], rfl, .nil⟩, rfl, (fun x hx => nomatch hx), fun _ _ _ => rfl⟩ ?_ ?_
  · rintro i tt m' nx h' tk' ⟨iA, iO⟩ hi ⟨wr, rs, k, rfl, ⟨wl, rfl, hwl⟩, hrl, hrb, er⟩ hn F' N'
    have hn1 : rA ≠ iA := hn _ (.head _)
    have hn2 : dC ≠ iA := hn _ (.tail _ (.head _))
    simp only [List.cons_append, List.nil_append] at N'
    have em : (fun y => if y = Str.ofString "k" then some (Value.int (0 + (i : Int)) tt) else m' y) = fun y => if y = Str.ofString "k" then some (Value.int (0 + (i : Int)) tt) else if y = Str.ofString "draw" then m' "draw" else mL y := by
      funext y
      by_cases q : y = Str.ofString "k"
      · rw [if_pos q, if_pos q]
      · rw [if_neg q, if_neg q]
        by_cases q0 : y = Str.ofString "draw"
        · rw [if_pos q0, q0]
        · rw [if_neg q0]; exact er y q q0
    rw [em] at F'
    subst hmL
    have hi2 : (i : Int) < SZ := by omega
    have hi3 : i < 25 := by omega
    have hwll := hwl.length
    have hfd : 0 ≤ (0 + (i : Int)).fdiv 6 := Int.fdiv_nonneg (by omega) (by decide)
    have hfd2 : (0 + (i : Int)).fdiv 6 ≤ 25 := by
      rw [Int.fdiv_eq_ediv_of_nonneg _ (by decide)]; omega
    change News h₀ L _ _ at N'
    change Fr h₀ L _ _ at F'
    refine execs_any ?_
    k_steps
    all_goals dsimp only
    refine execs_any ?_
    k_steps
    all_goals
      rename Fr _ _ _ _ => Fz
      rename News _ _ _ _ => Nz
      refine app_oct (D := rA) (wl := wl) (n := k) (keep := [(dC, W.listOf ws.toArray 0), (iA, iO)]) Fz Nz (.tail _ (.head _)) ?kk ?kz ?kv (fun v6 t6 h6 b6 F6 N6 => ?_)
      case kk =>
        intro p hp
        rcases List.mem_cons.mp hp with rfl | hp
        · exact ⟨.tail _ (.tail _ (.head _)), Nat.ne_of_lt lt1⟩
        · rw [List.mem_singleton.mp hp]; exact ⟨.tail _ (.tail _ (.tail _ (.head _))), Ne.symm hn1⟩
      case kz => omega
      case kv =>
        first
          | exact fmb _ 6 51 (by decide) (by decide) (by decide)
          | exact fmb _ 18 15 (by decide) (by decide) (by decide)
          | exact fmb _ 2 255 (by decide) (by decide) (by decide)
          | exact ⟨Int.fmod_nonneg_of_pos _ (by decide), Int.fmod_lt_of_pos _ (by decide)⟩
      k_steps
      dsimp only
      refine execs_nil_ ⟨_, _, _, [(rA, W.listOf (wl ++ [Value.int v6 t6]).toArray (k + 1)), (dC, W.listOf ws.toArray 0)], rfl, F6, N6, ?hO, _, rs ++ [v6], k + 1, rfl, ⟨wl ++ [Value.int v6 t6], rfl, hwl.append (.cons _ _ .nil)⟩, by rw [List.length_append, hrl]; rfl, ?hM, ?hE⟩
      case hO =>
        intro p hp
        rcases List.mem_cons.mp hp with rfl | hp
        · exact hn1
        · rw [List.mem_singleton.mp hp]; exact hn2
      case hM =>
        intro x hx
        rcases List.mem_append.mp hx with hx | hx
        · exact hrb x hx
        · rw [List.mem_singleton.mp hx]; exact b6
      case hE =>
        intro y q q0
        simp only [if_neg q, if_neg q0]
  · rintro m' nx h' tk' ⟨wr, rs, k, rfl, ⟨wl, rfl, hwl⟩, hrl, hrb, er⟩ F' N'
    refine h3 h' tk' rA wl rs k SZ PL m' ⟨N', Nat.ne_of_gt lt1, hwl, by omega, hrb, z0, z1, hp0, hp1, ?_⟩
    have em : m' = fun y => if y = Str.ofString "row" then m' "row" else if y = Str.ofString "place" then m' "place" else if y = Str.ofString "size" then m' "size" else if y = Str.ofString "cells" then m' "cells" else m' y := by
      funext y
      by_cases q : y = Str.ofString "row"
      · rw [if_pos q, q]
      · rw [if_neg q]
        by_cases q : y = Str.ofString "place"
        · rw [if_pos q, q]
        · rw [if_neg q]
          by_cases q : y = Str.ofString "size"
          · rw [if_pos q, q]
          · rw [if_neg q]
            by_cases q : y = Str.ofString "cells"
            · rw [if_pos q, q]
            · rw [if_neg q]
    rw [em, er "row" (by decide) (by decide), er "place" (by decide) (by decide), er "size" (by decide) (by decide), er "cells" (by decide) (by decide)] at F'
    subst hmL
    exact ⟨_, _, F'⟩
end
end Fl
end

section
open PySem.Calls
namespace Fl

def turnBody : List Stmt := match lawBody.drop 7 with
  | .For _ _ b _ _ :: _ => b
  | _ => []

structure FlOk (mg : Str → Option Value) (h₀ : Heap) : Prop where
  at' : ∃ f o pm code doc, mg "fletcher_checksum" = some (.ref f) ∧ h₀.get? f = some o ∧ o.data = .func (docDef "fletcher_checksum" flParams flBody flScope pm code doc) ∧ h₀.CodeRec code "fletcher_checksum"

theorem chain4 {m : Str → Option Value} {x1 x2 x3 x4 : Str} {v1 v2 v3 v4 : Value} (h1 : m x1 = some v1) (h2 : m x2 = some v2) (h3 : m x3 = some v3) (h4 : m x4 = some v4) :
    m = fun y => if y = x1 then some v1 else if y = x2 then some v2 else if y = x3 then some v3 else if y = x4 then some v4 else m y := by
  funext y
  by_cases q : y = x1
  · rw [if_pos q, q, h1]
  · rw [if_neg q]
    by_cases q : y = x2
    · rw [if_pos q, q, h2]
    · rw [if_neg q]
      by_cases q : y = x3
      · rw [if_pos q, q, h3]
      · rw [if_neg q]
        by_cases q : y = x4
        · rw [if_pos q, q, h4]
        · rw [if_neg q]

theorem Gl.base {mg mb : Str → Option Value} {h h' : Heap} {L : Addr} {m : Str → Option Value} (G : Gl mg mb h) (F : Fr h L h' m) : Gl mg mb h' := G.keeps F.keep

section
variable {prog : Program} {w : World} {s : Shared} {h₀ : Heap} {L a : Addr} {cd : Value} {m mg mb : Str → Option Value} {news : List (Addr × Obj)}

/-- a call of the checksum with the list and the place of the frame -/
theorem fl_at {p1 p2 p3 p4 : Pos} {rA : Addr} {wl : List Value} {rs : List Int} {k : Nat} {PL : Int} {tp : Tok} {Q : Value → Shared → Prop}
    (G : Gl mg mb h₀) (K : FlOk mg h₀) (F : Fr h₀ L s.heap m) (N : News h₀ L s.heap news) (hd : (rA, W.listOf wl.toArray k) ∈ news) (hr : m "row" = some (.ref rA)) (hp : m "place" = some (.int PL tp))
    (hi : IntsAre wl rs) (ho : ∀ x ∈ rs, 0 ≤ x ∧ x < 256) (hlen : rs.length ≤ 64) (h0 : 0 ≤ PL) (h1 : PL + 2 ≤ rs.length)
    (hQ : ∀ h' t' k', Fr h₀ L h' m → News h₀ L h' news → Q (.int (flet rs PL) t') { s with heap := h', toks := k' }) :
    wpC (model prog w) (callerA.deeper (envOf "law" lawScope L a cd)) (eval (.Call (.Name "fletcher_checksum" p1) [.Name "row" p2, .Name "place" p3] [] p4) (envOf "law" lawScope L a cd)) Q s := by
  obtain ⟨f, o, pm, code, doc, e1, e2, e3, e4⟩ := K.at'
  have e2' := F.keep _ _ e2
  refine Call_ (ld_global_at F G.g e1 ?_ (by rfl) (by rfl))
  refine callWith_ (.inl rfl) (args_cons_ (any (ld F hr (args_cons_ (any (ld F hp (args_nil_ ⟨keeper_func e2' e3, ?_⟩)))))))
  have hl : s.heap.IsList rA wl.toArray := ⟨_, (N _ hd).1, rfl, _, rfl⟩
  refine fl_call rfl rfl (show callerA.depth + 1 < recursionLimit by decide) (G.base F) e2' e3 (e4.keeps F.keep) (src_list hl hi ho (by omega)) ho hlen h0 h1 fun h' t' k' hk => ?_
  exact hQ h' t' k' (F.after hk) fun p hp => ⟨hk _ _ (N p hp).1, (N p hp).2⟩

def tailBody : List Stmt := turnBody.drop 6

set_option maxHeartbeats 4000000 in
/-- the end of a turn: the new sum beside the old one -/
theorem law_tail {rA : Addr} {wl : List Value} {rs : List Int} {k : Nat} {PL ck g : Int} {tp tc tg : Tok} {u : Str → Option Value} {Q : Flow → Shared → Prop}
    (G : Gl mg mb h₀) (K : FlOk mg h₀) (X : Frag.In [] h₀) (N' : News h₀ L s.heap news) (hd : (rA, W.listOf wl.toArray k) ∈ news)
    (hi : IntsAre wl rs) (ho : ∀ x ∈ rs, 0 ≤ x ∧ x < 256) (hlen : rs.length ≤ 64) (h0 : 0 ≤ PL) (h1 : PL + 2 ≤ rs.length) (hg : flet rs PL = ck ↔ g.fmod 255 = 0)
    (F' : Fr h₀ L s.heap (fun y => if y = Str.ofString "gain" then some (.int g tg) else if y = Str.ofString "check" then some (.int ck tc) else if y = Str.ofString "row" then some (.ref rA) else if y = Str.ofString "place" then some (.int PL tp) else u y))
    (hQ : ∀ h' k' t u', (∀ y : Str, y ≠ "new" → y ≠ "check" → u' y = (fun y => if y = Str.ofString "gain" then some (.int g tg) else if y = Str.ofString "check" then some (.int ck tc) else if y = Str.ofString "row" then some (.ref rA) else if y = Str.ofString "place" then some (.int PL tp) else u y) y) → u' "check" = some (.int (flet rs PL) t) → Fr h₀ L h' u' → News h₀ L h' news → Q .next { s with heap := h', toks := k' }) :
    wpC (model prog w) (callerA.deeper (envOf "law" lawScope L a cd)) (execs tailBody (envOf "law" lawScope L a cd)) Q s := by
  obtain ⟨hp, gs, dr, tk, os⟩ := s
  unfold tailBody turnBody lawBody PySem.Challenge.pw_bs0025_02
  dsimp only [List.drop] at *
  refine execs_cons_ (Assign_ (fl_at G K F' N' hd rfl rfl hi ho hlen h0 h1 fun h1 t1 k1 F1 N1 => ?_))
  refine stN F1 N1 fun h2 F2 N2 => ?_
  clear F1 N1 F' N'
  dsimp only
  generalize flet rs PL = ne at *
  unfold lawScope PySem.Challenge.pw_bs0025_02
  dsimp only
  by_cases hz : g.fmod 255 = 0
  · have hn := hg.mpr hz
    refine execs_any ?_
    k_steps
    · rename ((_ == _) != (_ == _)) = true => hb
      exfalso
      have b1 : (g.fmod 255 == 0) = decide (g.fmod 255 = 0) := rfl
      have b2 : (ne == ck) = decide (ne = ck) := rfl
      rw [b1, b2] at hb
      simp [hn, hz] at hb
    · dsimp only
      refine execs_any ?_
      k_steps
      dsimp only
      rename Fr _ _ _ _ => F3
      rename News _ _ _ _ => N3
      refine execs_nil_ (hQ _ _ _ _ ?_ rfl F3 N3)
      intro y q0 q1
      simp only [if_neg q0, if_neg q1]
  · have hn : ¬ ne = ck := fun q => hz (hg.mp q)
    refine execs_any ?_
    k_steps
    · rename ((_ == _) != (_ == _)) = true => hb
      exfalso
      have b1 : (g.fmod 255 == 0) = decide (g.fmod 255 = 0) := rfl
      have b2 : (ne == ck) = decide (ne = ck) := rfl
      rw [b1, b2] at hb
      simp [hn, hz] at hb
    · dsimp only
      refine execs_any ?_
      k_steps
      dsimp only
      rename Fr _ _ _ _ => F3
      rename News _ _ _ _ => N3
      refine execs_nil_ (hQ _ _ _ _ ?_ rfl F3 N3)
      intro y q0 q1
      simp only [if_neg q0, if_neg q1]
end
end Fl
end

section
open PySem.Calls
namespace Fl

theorem flSums_set_aux (z : List Int) : ∀ (n : Nat) (k : Nat) (v : Int), z.length = n → k < n → flSums (z.set k v) = ((flSums z).1 + (v - z.getD k 0), (flSums z).2 + ((n : Int) - k) * (v - z.getD k 0)) := by
  intro n
  induction n generalizing z with
  | zero => intro k v _ h; omega
  | succ n ih =>
    intro k v hl hk
    have hne : z ≠ [] := by intro q; rw [q] at hl; simp at hl
    obtain ⟨t, x, rfl⟩ : ∃ t x, z = t ++ [x] := ⟨z.dropLast, z.getLast hne, (List.dropLast_concat_getLast hne).symm⟩
    have hl' : t.length = n := by simpa using hl
    rw [flSums_snoc]
    by_cases q : k = n
    · have e : (t ++ [x]).set k v = t ++ [v] := by rw [List.set_append, if_neg (by omega)]; simp [hl', q]
      have g : (t ++ [x]).getD k 0 = x := by simp [List.getD_eq_getElem?_getD, q, ← hl']
      rw [e, flSums_snoc, g]
      ext
      · show _ + v = _ + x + (v - x); omega
      · show _ + (_ + v) = _ + (_ + x) + ((n + 1 : Nat) - (k : Int)) * (v - x)
        have : ((n + 1 : Nat) : Int) - (k : Int) = 1 := by omega
        rw [this]; omega
    · have e : (t ++ [x]).set k v = t.set k v ++ [x] := by rw [List.set_append, if_pos (by omega)]
      have g : (t ++ [x]).getD k 0 = t.getD k 0 := by simp [List.getD_eq_getElem?_getD, List.getElem?_append_left (show k < t.length by omega)]
      rw [e, flSums_snoc, g, ih t k v hl' (by omega)]
      generalize t.getD k 0 = y
      ext
      · show _ + (v - y) + x = _ + x + (v - y); omega
      · show _ + ((n : Int) - k) * (v - y) + (_ + (v - y) + x) = _ + (_ + x) + (((n + 1 : Nat) : Int) - k) * (v - y)
        have : (((n + 1 : Nat) : Int) - (k : Int)) = ((n : Int) - k) + 1 := by omega
        rw [this, Int.add_mul]; omega

theorem zap_getD {rs : List Int} {o k : Nat} (ho : o + 2 ≤ rs.length) (h1 : k ≠ o) (h2 : k ≠ o + 1) : (zap rs o).getD k 0 = rs.getD k 0 := by
  simp only [List.getD_eq_getElem?_getD, zap]
  congr 1
  rcases Nat.lt_or_ge k o with h | h
  · rw [List.getElem?_append_left (by simp; omega), List.getElem?_take_of_lt h]
  · rw [List.getElem?_append_right (by simp; omega), List.getElem?_append_right (by simp; omega), List.getElem?_drop]
    congr 1
    simp
    omega
theorem zap_set {rs : List Int} {o k : Nat} {v : Int} (ho : o + 2 ≤ rs.length) (h1 : k ≠ o) (h2 : k ≠ o + 1) : zap (rs.set k v) o = (zap rs o).set k v := by
  apply List.ext_getElem?
  intro i
  have hz := zap_length ho
  simp only [zap]
  by_cases hk : k < o
  · rw [List.set_append, if_pos (by simp; omega), List.take_set, List.drop_set_of_lt (by omega)]
  · have e1 : (rs.set k v).take o = rs.take o := by rw [List.take_set_of_le (by omega)]
    have e2 : (rs.set k v).drop (o + 2) = (rs.drop (o + 2)).set (k - (o + 2)) v := by rw [List.drop_set, if_neg (by omega)]
    rw [e1, e2, List.set_append, if_neg (by simp; omega), List.set_append, if_neg (by simp; omega)]
    congr 4
    simp
    omega

def S0 (rs : List Int) (o : Nat) : Int := (flSums (zap rs o)).1
def S1 (rs : List Int) (o : Nat) : Int := (flSums (zap rs o)).2

theorem S_set {rs : List Int} {o k : Nat} {v : Int} (ho : o + 2 ≤ rs.length) (h1 : k ≠ o) (h2 : k ≠ o + 1) (hk : k < rs.length) :
    S0 (rs.set k v) o = S0 rs o + (v - rs.getD k 0) ∧ S1 (rs.set k v) o = S1 rs o + ((rs.length : Int) - k) * (v - rs.getD k 0) := by
  unfold S0 S1
  rw [zap_set ho h1 h2, flSums_set_aux _ _ k v (zap_length ho) hk, zap_getD ho h1 h2]
  exact ⟨rfl, rfl⟩

theorem getD_set_self {rs : List Int} {k : Nat} {v : Int} (hk : k < rs.length) : (rs.set k v).getD k 0 = v := by simp [List.getD_eq_getElem?_getD, hk]
theorem getD_set_ne {rs : List Int} {k j : Nat} {v : Int} (h : k ≠ j) : (rs.set k v).getD j 0 = rs.getD j 0 := by simp [List.getD_eq_getElem?_getD, List.getElem?_set_ne h]

theorem fletOf_iff {n off a b c d : Int} (ha : 0 ≤ a ∧ a < 255) (hb : 0 ≤ b ∧ b < 255) (hc : 0 ≤ c ∧ c < 255) (hd : 0 ≤ d ∧ d < 255) : fletOf n off a b = fletOf n off c d ↔ a = c ∧ b = d := by
  constructor
  · intro h
    unfold fletOf fletY fletX at h
    rw [Int.fmod_eq_emod_of_nonneg _ (by decide), Int.fmod_eq_emod_of_nonneg _ (by decide)] at h
    have hac : a = c := by
      generalize (n - off - 1) * a = p at h
      generalize (n - off - 1) * c = q at h
      split at h <;> split at h <;> split at h <;> split at h <;> omega
    subst hac
    refine ⟨rfl, ?_⟩
    generalize (n - off - 1) * a = p at h
    split at h <;> split at h <;> split at h <;> split at h <;> omega
  · rintro ⟨rfl, rfl⟩; rfl

theorem fletOf_range {n off a b : Int} (ha : 0 ≤ a ∧ a < 255) : 257 ≤ fletOf n off a b ∧ fletOf n off a b ≤ 65535 := by
  unfold fletOf fletY fletX
  rw [Int.fmod_eq_emod_of_nonneg _ (by decide)]
  generalize (n - off - 1) * a - b = p
  split <;> split <;> omega

theorem flet_iff {rs rs' : List Int} {off d0 d1 : Int} (hl : rs'.length = rs.length) (h0 : S0 rs' off.toNat = S0 rs off.toNat + d0) (h1 : S1 rs' off.toNat = S1 rs off.toNat + d1) :
    flet rs' off = flet rs off ↔ d0 % 255 = 0 ∧ d1 % 255 = 0 := by
  unfold flet
  unfold S0 at h0
  unfold S1 at h1
  rw [hl, h0, h1]
  rw [fletOf_iff ⟨Int.fmod_nonneg_of_pos _ (by decide), Int.fmod_lt_of_pos _ (by decide)⟩ ⟨Int.fmod_nonneg_of_pos _ (by decide), Int.fmod_lt_of_pos _ (by decide)⟩ ⟨Int.fmod_nonneg_of_pos _ (by decide), Int.fmod_lt_of_pos _ (by decide)⟩ ⟨Int.fmod_nonneg_of_pos _ (by decide), Int.fmod_lt_of_pos _ (by decide)⟩]
  rw [Int.fmod_eq_emod_of_nonneg _ (by decide), Int.fmod_eq_emod_of_nonneg _ (by decide), Int.fmod_eq_emod_of_nonneg _ (by decide), Int.fmod_eq_emod_of_nonneg _ (by decide)]
  omega

theorem flet_gain {rs rs' : List Int} {off d0 d1 g : Int} (hl : rs'.length = rs.length) (h0 : S0 rs' off.toNat = S0 rs off.toNat + d0) (h1 : S1 rs' off.toNat = S1 rs off.toNat + d1)
    (hg : (d0 = 0 ∧ (d1 = g ∨ d1 = -g)) ∨ (d0 = g ∧ ∃ c, d1 = c * g)) : flet rs' off = flet rs off ↔ g.fmod 255 = 0 := by
  rw [flet_iff hl h0 h1, Int.fmod_eq_emod_of_nonneg _ (by decide)]
  rcases hg with ⟨e, e' | e'⟩ | ⟨e, c, e'⟩
  · omega
  · omega
  · subst e e'
    constructor
    · rintro ⟨a, _⟩; exact a
    · intro a
      refine ⟨a, ?_⟩
      rw [Int.mul_emod, a, Int.mul_zero]; rfl

def sumN (f : Nat → Int) : Nat → Int
  | 0 => 0
  | n + 1 => sumN f n + f n

theorem sumN_congr {f g : Nat → Int} : ∀ {n : Nat}, (∀ i, i < n → f i = g i) → sumN f n = sumN g n
  | 0, _ => rfl
  | n + 1, h => by show sumN f n + f n = sumN g n + g n; rw [sumN_congr fun i hi => h i (by omega), h n (by omega)]
theorem sumN_front (f : Nat → Int) : ∀ n, sumN f (n + 1) = f 0 + sumN (fun i => f (i + 1)) n
  | 0 => by show 0 + f 0 = f 0 + 0; omega
  | n + 1 => by
    show sumN f (n + 1) + f (n + 1) = f 0 + (sumN (fun i => f (i + 1)) n + f (n + 1))
    rw [sumN_front f n]; omega
theorem sumN_reflect : ∀ (n : Nat) (f : Nat → Int), sumN (fun i => f (n - 1 - i)) n = sumN f n
  | 0, _ => rfl
  | n + 1, f => by
    rw [sumN_front (fun i => f (n + 1 - 1 - i)) n]
    show f (n + 1 - 1 - 0) + _ = sumN f n + f n
    rw [← sumN_reflect n f]
    have : sumN (fun i => f (n + 1 - 1 - (i + 1))) n = sumN (fun i => f (n - 1 - i)) n := sumN_congr fun i hi => by congr 1; omega
    rw [this]
    show f n + _ = _
    omega
theorem sumN_sub (f g : Nat → Int) : ∀ n, sumN (fun i => f i - g i) n = sumN f n - sumN g n
  | 0 => rfl
  | n + 1 => by
    show sumN (fun i => f i - g i) n + (f n - g n) = (sumN f n + f n) - (sumN g n + g n)
    rw [sumN_sub f g n]; omega

/-- a stretch turned round: the sums afterwards -/
theorem turned {f : Nat → Int} {N l h : Nat} (hlh : l ≤ h) :
    sumN (fun j => f (h - j) - f (l + j)) (h - l + 1) = 0 ∧
    sumN (fun j => ((N : Int) - ((l : Int) + j)) * (f (h - j) - f (l + j))) (h - l + 1) = sumN (fun j => ((l : Int) + h - 2 * ((l : Int) + j)) * f (h - j)) (h - l + 1) := by
  constructor
  · rw [sumN_sub, ← sumN_reflect (h - l + 1) (fun j => f (l + j))]
    rw [sumN_congr (f := fun j => f (h - j)) (g := fun i => f (l + (h - l + 1 - 1 - i))) fun i hi => by congr 1; omega]
    omega
  · have e : ∀ i, i < h - l + 1 → ((N : Int) - ((l : Int) + i)) * (f (h - i) - f (l + i)) = ((l : Int) + h - 2 * ((l : Int) + i)) * f (h - i) - ((fun j => ((N : Int) - ((l : Int) + j)) * f (l + j)) i - (fun j => ((N : Int) - ((l : Int) + j)) * f (l + j)) (h - l + 1 - 1 - i)) := by
      intro i hi
      have e1 : l + (h - l + 1 - 1 - i) = h - i := by omega
      have e2 : ((h - l + 1 - 1 - i : Nat) : Int) = (h : Int) - l - i := by omega
      show _ = _ - (((N : Int) - ((l : Int) + i)) * f (l + i) - ((N : Int) - ((l : Int) + ((h - l + 1 - 1 - i : Nat) : Int))) * f (l + (h - l + 1 - 1 - i)))
      rw [e1, e2]
      generalize f (h - i) = y
      generalize f (l + i) = x
      generalize (N : Int) = N
      generalize (l : Int) = l
      generalize (h : Int) = h
      generalize (i : Int) = i
      grind
    have r := sumN_reflect (h - l + 1) (fun j => ((N : Int) - ((l : Int) + j)) * f (l + j))
    rw [sumN_congr e, sumN_sub, sumN_sub, r]
    omega

section
variable {rs : List Int} {PL lo hi : Int}

theorem one_set {v : Int} (p0 : 0 ≤ PL) (p1 : PL + 2 ≤ rs.length) (l0 : 0 ≤ lo) (l1 : lo < rs.length) (a1 : lo ≠ PL) (a2 : lo ≠ PL + 1) :
    S0 (rs.set lo.toNat v) PL.toNat = S0 rs PL.toNat + (v - rs.getD lo.toNat 0) ∧ S1 (rs.set lo.toNat v) PL.toNat = S1 rs PL.toNat + ((rs.length : Int) - lo) * (v - rs.getD lo.toNat 0) := by
  have h := S_set (rs := rs) (o := PL.toNat) (k := lo.toNat) (v := v) (by omega) (by omega) (by omega) (by omega)
  rw [Int.toNat_of_nonneg l0] at h
  exact h

theorem two_set {x y : Int} (p0 : 0 ≤ PL) (p1 : PL + 2 ≤ rs.length) (l0 : 0 ≤ lo) (l1 : lo < hi) (l2 : hi < rs.length) (a1 : lo ≠ PL) (a2 : lo ≠ PL + 1) (a3 : hi ≠ PL) (a4 : hi ≠ PL + 1) :
    S0 ((rs.set lo.toNat x).set hi.toNat y) PL.toNat = S0 rs PL.toNat + ((x - rs.getD lo.toNat 0) + (y - rs.getD hi.toNat 0)) ∧
    S1 ((rs.set lo.toNat x).set hi.toNat y) PL.toNat = S1 rs PL.toNat + (((rs.length : Int) - lo) * (x - rs.getD lo.toNat 0) + ((rs.length : Int) - hi) * (y - rs.getD hi.toNat 0)) := by
  obtain ⟨a, b⟩ := one_set (v := x) p0 p1 l0 (by omega) a1 a2
  obtain ⟨c, d⟩ := one_set (rs := rs.set lo.toNat x) (lo := hi) (v := y) p0 (by simpa using p1) (by omega) (by simpa using l2) a3 a4
  rw [getD_set_ne (by omega)] at c d
  rw [List.length_set] at d
  rw [c, d, a, b]
  constructor <;> omega

theorem same_set {x y : Int} (p0 : 0 ≤ PL) (p1 : PL + 2 ≤ rs.length) (l0 : 0 ≤ lo) (l1 : lo < rs.length) (a1 : lo ≠ PL) (a2 : lo ≠ PL + 1) :
    S0 ((rs.set lo.toNat x).set lo.toNat y) PL.toNat = S0 rs PL.toNat + (y - rs.getD lo.toNat 0) ∧
    S1 ((rs.set lo.toNat x).set lo.toNat y) PL.toNat = S1 rs PL.toNat + ((rs.length : Int) - lo) * (y - rs.getD lo.toNat 0) := by
  rw [List.set_set]
  exact one_set p0 p1 l0 l1 a1 a2

theorem k0_law (p0 : 0 ≤ PL) (p1 : PL + 2 ≤ rs.length) (l0 : 0 ≤ lo) (l1 : lo ≤ hi) (l2 : hi < rs.length) (a1 : lo ≠ PL) (a2 : lo ≠ PL + 1) (a3 : hi ≠ PL) (a4 : hi ≠ PL + 1) :
    flet ((rs.set lo.toNat (rs.getD hi.toNat 0)).set hi.toNat (rs.getD lo.toNat 0)) PL = flet rs PL ↔ ((rs.getD lo.toNat 0 - rs.getD hi.toNat 0) * (hi - lo)).fmod 255 = 0 := by
  by_cases q : lo = hi
  · subst q
    obtain ⟨a, b⟩ := same_set (rs := rs) (x := rs.getD lo.toNat 0) (y := rs.getD lo.toNat 0) p0 p1 l0 l2 a1 a2
    rw [Int.sub_self] at a b
    refine flet_gain (by simp) a b (.inl ⟨rfl, .inl ?_⟩)
    rw [Int.sub_self]
    simp
  · obtain ⟨a, b⟩ := two_set (rs := rs) (x := rs.getD hi.toNat 0) (y := rs.getD lo.toNat 0) p0 p1 l0 (by omega) l2 a1 a2 a3 a4
    refine flet_gain (by simp) a b (.inl ⟨by omega, .inr ?_⟩)
    generalize rs.getD hi.toNat 0 = x
    generalize rs.getD lo.toNat 0 = y
    generalize (rs.length : Int) = n
    grind

theorem k1_law {v : Int} (p0 : 0 ≤ PL) (p1 : PL + 2 ≤ rs.length) (l0 : 0 ≤ lo) (l1 : lo < rs.length) (a1 : lo ≠ PL) (a2 : lo ≠ PL + 1) :
    flet (rs.set lo.toNat v) PL = flet rs PL ↔ ((rs.set lo.toNat v).getD lo.toNat 0 - rs.getD lo.toNat 0).fmod 255 = 0 := by
  obtain ⟨a, b⟩ := one_set (v := v) p0 p1 l0 l1 a1 a2
  rw [getD_set_self (by omega)]
  exact flet_gain (by simp) a b (.inr ⟨rfl, _, rfl⟩)

theorem k4_law {m : Int} (hm : lo = hi → m = 0) (p0 : 0 ≤ PL) (p1 : PL + 2 ≤ rs.length) (l0 : 0 ≤ lo) (l1 : lo ≤ hi) (l2 : hi < rs.length) (a1 : lo ≠ PL) (a2 : lo ≠ PL + 1) (a3 : hi ≠ PL) (a4 : hi ≠ PL + 1) :
    flet ((rs.set lo.toNat (rs.getD lo.toNat 0 + m)).set hi.toNat (rs.getD hi.toNat 0 - m)) PL = flet rs PL ↔ (m * (hi - lo)).fmod 255 = 0 := by
  by_cases q : lo = hi
  · rw [hm q]
    subst q
    obtain ⟨a, b⟩ := same_set (rs := rs) (x := rs.getD lo.toNat 0 + 0) (y := rs.getD lo.toNat 0 - 0) p0 p1 l0 l2 a1 a2
    rw [Int.sub_zero, Int.sub_self] at a b
    rw [Int.sub_zero]
    refine flet_gain (by simp) a b (.inl ⟨rfl, .inl ?_⟩)
    simp
  · obtain ⟨a, b⟩ := two_set (rs := rs) (x := rs.getD lo.toNat 0 + m) (y := rs.getD hi.toNat 0 - m) p0 p1 l0 (by omega) l2 a1 a2 a3 a4
    refine flet_gain (by simp) a b (.inl ⟨by omega, .inl ?_⟩)
    generalize rs.getD hi.toNat 0 = x
    generalize rs.getD lo.toNat 0 = y
    generalize (rs.length : Int) = n
    grind
end
end Fl
end

section
open PySem.Calls
namespace Fl

def kindBody0 : List Stmt := match turnBody.drop 5 with
  | .If _ b0 _ _ :: _ => b0
  | _ => []
def kindBody1 : List Stmt := match turnBody.drop 5 with
  | .If _ _ [.If _ b1 _ _] _ :: _ => b1
  | _ => []
def kindBody2 : List Stmt := match turnBody.drop 5 with
  | .If _ _ [.If _ _ [.If _ b2 _ _] _] _ :: _ => b2
  | _ => []
def kindBody3 : List Stmt := match turnBody.drop 5 with
  | .If _ _ [.If _ _ [.If _ _ [.If _ b3 _ _] _] _] _ :: _ => b3
  | _ => []
def kindBody4 : List Stmt := match turnBody.drop 5 with
  | .If _ _ [.If _ _ [.If _ _ [.If _ _ b4 _] _] _] _ :: _ => b4
  | _ => []

theorem ints_set : ∀ {vs : List Value} {ns : List Int} (_ : IntsAre vs ns) (k : Nat) (v : Int) (t : Tok), IntsAre (vs.set k (.int v t)) (ns.set k v)
  | _, _, .nil, _, _, _ => .nil
  | _, _, .cons _ _ r, 0, v, t => .cons v t r
  | _, _, .cons n t' r, k + 1, v, t => .cons n t' (ints_set r k v t)

theorem mem_set_oct {rs : List Int} {k : Nat} {v : Int} (h : ∀ x ∈ rs, 0 ≤ x ∧ x < 256) (hv : 0 ≤ v ∧ v < 256) : ∀ x ∈ rs.set k v, 0 ≤ x ∧ x < 256 := by
  intro x hx
  rcases List.mem_or_eq_of_mem_set hx with q | q
  · exact h x q
  · rw [q]; exact hv
theorem getD_oct {rs : List Int} (h : ∀ x ∈ rs, 0 ≤ x ∧ x < 256) (k : Nat) : 0 ≤ rs.getD k 0 ∧ rs.getD k 0 < 256 := by
  rw [List.getD_eq_getElem?_getD]
  cases q : rs[k]? with
  | none => exact ⟨by decide, by decide⟩
  | some v => exact h v (List.mem_of_getElem? q)

section
variable {prog : Program} {w : World} {s : Shared} {h₀ : Heap} {L a : Addr} {cd : Value} {m mg mb : Str → Option Value}

theorem setL_head {A : Around} {E : Value → Shared → Prop} {D : Addr} {wl : List Value} {n : Nat} {k : Int} {t : Tok} {x : Value} {rest : List (Addr × Obj)} {Q : Unit → Shared → Prop} (F : Fr h₀ L s.heap m) (N : News h₀ L s.heap ((D, W.listOf wl.toArray n) :: rest)) (hk : ∀ p ∈ rest, p.1 ≠ D) (h0 : 0 ≤ k) (h1 : k < wl.length) (hz : wl.length ≤ 1000)
    (h : ∀ h', Fr h₀ L h' m → News h₀ L h' ((D, W.listOf (wl.set k.toNat x).toArray n) :: rest) → Q () { s with heap := h' }) : wpAny (model prog w) A (setItem (.ref D) (.int k t) x) Q E s :=
  setL_ F N (.head _) (fun p hp => ⟨.tail _ hp, hk p hp⟩) h0 h1 hz h

/-- the frame of a turn when its change begins -/
def kfr (g : Int) (tg : Tok) (oA : Addr) (hi : Int) (th : Tok) (lo : Int) (tl : Tok) (mo : Int) (tm : Tok) (ck : Int) (tc : Tok) (rA : Addr) (PL : Int) (tp : Tok) (SZ : Int) (ts : Tok) (u : Str → Option Value) : Str → Option Value := fun y =>
  if y = Str.ofString "gain" then some (.int g tg) else if y = Str.ofString "old" then some (.ref oA) else if y = Str.ofString "high" then some (.int hi th) else if y = Str.ofString "low" then some (.int lo tl) else if y = Str.ofString "more" then some (.int mo tm)
  else if y = Str.ofString "check" then some (.int ck tc) else if y = Str.ofString "row" then some (.ref rA) else if y = Str.ofString "place" then some (.int PL tp) else if y = Str.ofString "size" then some (.int SZ ts) else u y

/-- what a change leaves -/
structure After (h₀ : Heap) (L : Addr) (h : Heap) (rA : Addr) (rs : List Int) (PL SZ ck : Int) (k : Nat) (keep : List (Addr × Obj)) : Prop where
  ex : ∃ m wl' rs' g, Fr h₀ L h m ∧ News h₀ L h ((rA, W.listOf wl'.toArray k) :: keep) ∧ IntsAre wl' rs' ∧ rs'.length = rs.length ∧ (∀ x ∈ rs', 0 ≤ x ∧ x < 256) ∧ (flet rs' PL = flet rs PL ↔ g.fmod 255 = 0) ∧
    (∃ t, m "gain" = some (.int g t)) ∧ (∃ t, m "check" = some (.int ck t)) ∧ m "row" = some (.ref rA) ∧ (∃ t, m "place" = some (.int PL t)) ∧ (∃ t, m "size" = some (.int SZ t))

theorem news_tail {h : Heap} {x : Addr × Obj} {l : List (Addr × Obj)} (N : News h₀ L h (x :: l)) : News h₀ L h l := fun p hp => N p (.tail _ hp)

theorem news_mid {h : Heap} {x y : Addr × Obj} {l : List (Addr × Obj)} (N : News h₀ L h (x :: y :: l)) : News h₀ L h (x :: l) := fun p hp => by
  rcases List.mem_cons.mp hp with rfl | hp
  · exact N _ (.head _)
  · exact N p (.tail _ (.tail _ hp))

local macro_rules | `(tactic| walk_at "call builtin:min") => `(tactic| ((with_reducible show wpAny _ _ (call (Value.builtin _) [Value.int _ _, Value.int _ _]) _ _ _); (with_reducible rename Fr _ _ _ _ => F'); (with_reducible rename News _ _ _ _ => N'); (refine min_two_N (by assumption) F' N' ?_); clear F' N'; intro _ _ F' N'))
local macro_rules | `(tactic| walk_at "eval Name") => `(tactic| (with_unfolding_all refine guard_global (by rfl) ?_; k_dflt (refine' nm_b ?k1 ?k2 ?k3 ?k4 ?k5 ?_; (case k1 => k_asm); (case k2 => k_asm); (case k3 => decide); (case k4 => boot_by_name); (case k5 => decide); k_whole)))
local macro_rules | `(tactic| walk_at "setItem ref int") => `(tactic| ((with_reducible rename Fr _ _ _ _ => F'); (with_reducible rename News _ _ _ _ => N'); (first | (refine setL_head (s := ⟨_, _, _, _, _⟩) F' N' (by assumption) (by omega) (by (try simp only [List.length_set]); omega) (by (try simp only [List.length_set]); omega) ?_) | (refine setL_head (s := ⟨_, _, _, _, _⟩) F' (news_tail N') (by assumption) (by omega) (by (try simp only [List.length_set]); omega) (by (try simp only [List.length_set]); omega) ?_)); clear F' N'; intro _ F' N'))

set_option maxHeartbeats 4000000 in
theorem law_kind0 {rA oA : Addr} {wl : List Value} {rs : List Int} {k ko : Nat} {hi lo mo ck PL SZ : Int} {tg th tl tm tc tp ts : Tok} {u : Str → Option Value} {keep : List (Addr × Obj)} {Q : Flow → Shared → Prop}
    (G : Gl mg mb h₀) (X : Frag.In [] h₀) (N' : News h₀ L s.heap ((rA, W.listOf wl.toArray k) :: (oA, W.listOf wl.toArray ko) :: keep)) (hne : ∀ p ∈ (oA, W.listOf wl.toArray ko) :: keep, p.1 ≠ rA)
    (hI : IntsAre wl rs) (ho : ∀ x ∈ rs, 0 ≤ x ∧ x < 256) (hlen : (rs.length : Int) = SZ) (hlen2 : SZ ≤ 25) (p0 : 0 ≤ PL) (p1 : PL + 2 ≤ rs.length) (l0 : 0 ≤ lo) (l1 : lo ≤ hi) (l2 : hi < SZ) (a1 : lo ≠ PL) (a2 : lo ≠ PL + 1) (a3 : hi ≠ PL) (a4 : hi ≠ PL + 1)
    (F' : Fr h₀ L s.heap (kfr 0 tg oA hi th lo tl mo tm ck tc rA PL tp SZ ts u))
    (hQ : ∀ h' k', After h₀ L h' rA rs PL SZ ck k keep → Q .next { s with heap := h', toks := k' }) :
    wpC (model prog w) (callerA.deeper (envOf "law" lawScope L a cd)) (execs kindBody0 (envOf "law" lawScope L a cd)) Q s := by
  obtain ⟨hp, gs, dr, tk, os⟩ := s
  unfold kindBody0 turnBody lawBody lawScope PySem.Challenge.pw_bs0025_02
  unfold kfr at F'
  dsimp only [List.drop] at *
  have hwl := hI.length
  refine execs_any ?_
  k_steps
  dsimp only
  refine execs_any ?_
  k_steps
  dsimp only
  rename Fr _ _ _ _ => F1
  rename News _ _ _ _ => N1
  refine execs_nil_ (hQ _ _ ⟨_, _, _, _, F1, news_mid N1, ints_set (ints_set hI _ _ _) _ _ _, by simp, mem_set_oct (mem_set_oct ho (getD_oct ho _)) (getD_oct ho _), k0_law p0 p1 l0 l1 (by omega) a1 a2 a3 a4, ⟨_, rfl⟩, ⟨_, rfl⟩, rfl, ⟨_, rfl⟩, ⟨_, rfl⟩⟩)

set_option maxHeartbeats 4000000 in
theorem law_kind1 {rA oA : Addr} {wl : List Value} {rs : List Int} {k ko : Nat} {hi lo mo ck PL SZ : Int} {tg th tl tm tc tp ts : Tok} {u : Str → Option Value} {keep : List (Addr × Obj)} {Q : Flow → Shared → Prop}
    (G : Gl mg mb h₀) (X : Frag.In [] h₀) (N' : News h₀ L s.heap ((rA, W.listOf wl.toArray k) :: (oA, W.listOf wl.toArray ko) :: keep)) (hne : ∀ p ∈ (oA, W.listOf wl.toArray ko) :: keep, p.1 ≠ rA)
    (hI : IntsAre wl rs) (ho : ∀ x ∈ rs, 0 ≤ x ∧ x < 256) (hlen : (rs.length : Int) = SZ) (hlen2 : SZ ≤ 25) (p0 : 0 ≤ PL) (p1 : PL + 2 ≤ rs.length) (l0 : 0 ≤ lo) (l1 : lo ≤ hi) (l2 : hi < SZ) (a1 : lo ≠ PL) (a2 : lo ≠ PL + 1) (a3 : hi ≠ PL) (a4 : hi ≠ PL + 1)
    (F' : Fr h₀ L s.heap (kfr 0 tg oA hi th lo tl mo tm ck tc rA PL tp SZ ts u))
    (hQ : ∀ h' k', After h₀ L h' rA rs PL SZ ck k keep → Q .next { s with heap := h', toks := k' }) :
    wpC (model prog w) (callerA.deeper (envOf "law" lawScope L a cd)) (execs kindBody1 (envOf "law" lawScope L a cd)) Q s := by
  obtain ⟨hp, gs, dr, tk, os⟩ := s
  unfold kindBody1 turnBody lawBody lawScope PySem.Challenge.pw_bs0025_02
  unfold kfr at F'
  dsimp only [List.drop] at *
  have hwl := hI.length
  have f0 : 0 ≤ (mo.fdiv 7).fmod 256 := Int.fmod_nonneg_of_pos _ (by decide)
  have f1 : (mo.fdiv 7).fmod 256 < 256 := Int.fmod_lt_of_pos _ (by decide)
  refine execs_any ?_
  k_steps
  dsimp only
  rename Fr _ _ _ _ => F1
  rename News _ _ _ _ => N1
  have f2 : 0 ≤ [0, 255, (mo.fdiv 7).fmod 256].getD (mo.fmod 3).toNat 0 ∧ [0, 255, (mo.fdiv 7).fmod 256].getD (mo.fmod 3).toNat 0 < 256 := getD_oct (fun x hx => by
    rcases List.mem_cons.mp hx with rfl | hx
    · exact ⟨by decide, by decide⟩
    rcases List.mem_cons.mp hx with rfl | hx
    · exact ⟨by decide, by decide⟩
    rw [List.mem_singleton.mp hx]; exact ⟨f0, f1⟩) _
  revert N1
  generalize [0, 255, (mo.fdiv 7).fmod 256].getD (mo.fmod 3).toNat 0 = V at f2
  intro N1
  have hI' := ints_set hI lo.toNat V (by assumption)
  refine execs_any ?_
  k_steps
  dsimp only
  rename Fr _ _ _ _ => F2
  rename News _ _ _ _ => N2
  refine execs_nil_ (hQ _ _ ⟨_, _, _, _, F2, news_mid N2, hI', by simp, mem_set_oct ho f2, ?_, ⟨_, rfl⟩, ⟨_, rfl⟩, rfl, ⟨_, rfl⟩, ⟨_, rfl⟩⟩)
  exact k1_law p0 p1 l0 (by omega) a1 a2

set_option maxHeartbeats 4000000 in
theorem law_kind4 {rA oA : Addr} {wl : List Value} {rs : List Int} {k ko : Nat} {hi lo mo ck PL SZ : Int} {tg th tl tm tc tp ts : Tok} {u : Str → Option Value} {keep : List (Addr × Obj)} {Q : Flow → Shared → Prop}
    (G : Gl mg mb h₀) (X : Frag.In [] h₀) (N' : News h₀ L s.heap ((rA, W.listOf wl.toArray k) :: (oA, W.listOf wl.toArray ko) :: keep)) (hne : ∀ p ∈ (oA, W.listOf wl.toArray ko) :: keep, p.1 ≠ rA)
    (hI : IntsAre wl rs) (ho : ∀ x ∈ rs, 0 ≤ x ∧ x < 256) (hlen : (rs.length : Int) = SZ) (hlen2 : SZ ≤ 25) (p0 : 0 ≤ PL) (p1 : PL + 2 ≤ rs.length) (l0 : 0 ≤ lo) (l1 : lo ≤ hi) (l2 : hi < SZ) (a1 : lo ≠ PL) (a2 : lo ≠ PL + 1) (a3 : hi ≠ PL) (a4 : hi ≠ PL + 1)
    (F' : Fr h₀ L s.heap (kfr 0 tg oA hi th lo tl mo tm ck tc rA PL tp SZ ts u))
    (hQ : ∀ h' k', After h₀ L h' rA rs PL SZ ck k keep → Q .next { s with heap := h', toks := k' }) :
    wpC (model prog w) (callerA.deeper (envOf "law" lawScope L a cd)) (execs kindBody4 (envOf "law" lawScope L a cd)) Q s := by
  obtain ⟨hp, gs, dr, tk, os⟩ := s
  unfold kindBody4 turnBody lawBody lawScope PySem.Challenge.pw_bs0025_02
  unfold kfr at F'
  dsimp only [List.drop] at *
  have hwl := hI.length
  refine execs_any ?_
  k_steps
  all_goals dsimp only
  all_goals rename Fr _ _ _ _ => F1
  all_goals try dsimp only at F1
  all_goals have r0 := getD_oct ho lo.toNat
  all_goals have r1 := getD_oct ho hi.toNat
  · revert F1
    generalize hM : (if rs.getD hi.toNat 0 < 255 - rs.getD lo.toNat 0 then rs.getD hi.toNat 0 else 255 - rs.getD lo.toNat 0) = M
    have m0 : 0 ≤ M := by rw [← hM]; split <;> omega
    have m1 : M ≤ rs.getD hi.toNat 0 := by rw [← hM]; split <;> omega
    have m2 : M ≤ 255 - rs.getD lo.toNat 0 := by rw [← hM]; split <;> omega
    intro F1
    refine execs_any ?_
    k_steps
    dsimp only
    refine execs_any ?_
    k_steps
    dsimp only
    rename Fr _ _ _ _ => F2
    rename News _ _ _ _ => N2
    refine execs_nil_ (hQ _ _ ⟨_, _, _, _, F2, news_mid N2, ints_set (ints_set hI _ _ _) _ _ _, by simp, mem_set_oct (mem_set_oct ho ⟨by omega, by omega⟩) ⟨by omega, by omega⟩, k4_law (fun q => by omega) p0 p1 l0 l1 (by omega) a1 a2 a3 a4, ⟨_, rfl⟩, ⟨_, rfl⟩, rfl, ⟨_, rfl⟩, ⟨_, rfl⟩⟩)
  · refine execs_any ?_
    k_steps
    dsimp only
    refine execs_any ?_
    k_steps
    dsimp only
    rename Fr _ _ _ _ => F2
    rename News _ _ _ _ => N2
    refine execs_nil_ (hQ _ _ ⟨_, _, _, _, F2, news_mid N2, ints_set (ints_set hI _ _ _) _ _ _, by simp, mem_set_oct (mem_set_oct ho ⟨by omega, by omega⟩) ⟨by omega, by omega⟩, k4_law (fun q => by omega) p0 p1 l0 l1 (by omega) a1 a2 a3 a4, ⟨_, rfl⟩, ⟨_, rfl⟩, rfl, ⟨_, rfl⟩, ⟨_, rfl⟩⟩)
end
end Fl
end

section
open PySem.Calls
namespace Fl

structure K2 (rs rs' : List Int) (P l h i : Nat) (g : Int) : Prop where
  len : rs'.length = rs.length
  tail : ∀ j, l + i ≤ j → rs'.getD j 0 = rs.getD j 0
  s0 : S0 rs' P = S0 rs P + sumN (fun j => rs.getD (h - j) 0 - rs.getD (l + j) 0) i
  s1 : S1 rs' P = S1 rs P + sumN (fun j => ((rs.length : Int) - ((l : Int) + j)) * (rs.getD (h - j) 0 - rs.getD (l + j) 0)) i
  gain : g = sumN (fun j => ((l : Int) + h - 2 * ((l : Int) + j)) * rs.getD (h - j) 0) i

theorem K2.start {rs : List Int} {P l h : Nat} : K2 rs rs P l h 0 0 := ⟨rfl, fun _ _ => rfl, (Int.add_zero _).symm, (Int.add_zero _).symm, rfl⟩

theorem K2.step {rs rs' : List Int} {P l h i : Nat} {g : Int} (k : K2 rs rs' P l h i g) (hp : P + 2 ≤ rs.length) (hi : l + i ≤ h) (hh : h < rs.length) (q : h < P ∨ P + 1 < l) :
    K2 rs (rs'.set (l + i) (rs.getD (h - i) 0)) P l h (i + 1) (g + ((l : Int) + h - 2 * ((l : Int) + i)) * rs.getD (h - i) 0) := by
  obtain ⟨a, b⟩ := S_set (rs := rs') (o := P) (k := l + i) (v := rs.getD (h - i) 0) (by rw [k.len]; exact hp) (by omega) (by omega) (by rw [k.len]; omega)
  rw [k.tail _ (Nat.le_refl _), k.s0] at a
  rw [k.tail _ (Nat.le_refl _), k.s1, k.len] at b
  refine ⟨by rw [List.length_set, k.len], fun j hj => ?_, ?_, ?_, ?_⟩
  · rw [getD_set_ne (by omega)]; exact k.tail j (by omega)
  · rw [a]; show _ = _ + (_ + (rs.getD (h - i) 0 - rs.getD (l + i) 0)); omega
  · rw [b]; show _ = _ + (_ + ((rs.length : Int) - ((l : Int) + i)) * (rs.getD (h - i) 0 - rs.getD (l + i) 0))
    have : ((l + i : Nat) : Int) = (l : Int) + i := by omega
    rw [this]; omega
  · rw [k.gain]; rfl

theorem K2.done {rs rs' : List Int} {PL : Int} {l h : Nat} {g : Int} (k : K2 rs rs' PL.toNat l h (h - l + 1) g) (hl : l ≤ h) : flet rs' PL = flet rs PL ↔ g.fmod 255 = 0 := by
  obtain ⟨a, b⟩ := turned (f := fun j => rs.getD j 0) (N := rs.length) hl
  refine flet_gain k.len (d0 := 0) (d1 := g) ?_ ?_ (.inl ⟨rfl, .inl rfl⟩)
  · rw [k.s0, a]
  · rw [k.s1, b, k.gain]

structure K3 (rs rs' : List Int) (P l h i : Nat) (g : Int) : Prop where
  len : rs'.length = rs.length
  tail : ∀ j, l + i ≤ j → rs'.getD j 0 = rs.getD j 0
  s : (l + i ≤ h ∧ S0 rs' P = S0 rs P + (rs.getD (l + i) 0 - rs.getD l 0) ∧ S1 rs' P = S1 rs P + (((rs.length : Int) - ((l : Int) + i) + 1) * rs.getD (l + i) 0 - ((rs.length : Int) - l + 1) * rs.getD l 0 + g)) ∨
    (l + i = h + 1 ∧ S0 rs' P = S0 rs P ∧ S1 rs' P = S1 rs P + (g - ((h : Int) - l + 1) * rs.getD l 0))

theorem K3.start {rs : List Int} {P l h : Nat} (hl : l ≤ h) : K3 rs rs P l h 0 0 := ⟨rfl, fun _ _ => rfl, .inl ⟨hl, by show _ = _ + (rs.getD l 0 - rs.getD l 0); omega, by
  show _ = _ + (((rs.length : Int) - ((l : Int) + 0) + 1) * rs.getD l 0 - _ + 0)
  rw [Int.add_zero (l : Int)]; omega⟩⟩

theorem K3.step {rs rs' : List Int} {P l h i : Nat} {g v : Int} (k : K3 rs rs' P l h i g) (hp : P + 2 ≤ rs.length) (hi : l + i ≤ h) (hh : h < rs.length) (q : h < P ∨ P + 1 < l) (hv : v = if l + i < h then rs.getD (l + i + 1) 0 else rs.getD l 0) :
    K3 rs (rs'.set (l + i) v) P l h (i + 1) (g + rs.getD (l + i) 0) := by
  obtain ⟨a, b⟩ := S_set (rs := rs') (o := P) (k := l + i) (v := v) (by rw [k.len]; exact hp) (by omega) (by omega) (by rw [k.len]; omega)
  rcases k.s with ⟨_, c, d⟩ | ⟨c, _⟩
  · rw [k.tail _ (Nat.le_refl _), c] at a
    rw [k.tail _ (Nat.le_refl _), d, k.len] at b
    have hli : ((l + i : Nat) : Int) = (l : Int) + i := by omega
    rw [hli] at b
    refine ⟨by rw [List.length_set, k.len], fun j hj => by rw [getD_set_ne (by omega)]; exact k.tail j (by omega), ?_⟩
    by_cases z : l + i < h
    · rw [if_pos z] at hv
      left
      refine ⟨by omega, ?_, ?_⟩
      · rw [a, hv]; show _ = _ + (rs.getD (l + i + 1) 0 - _); omega
      · rw [b, hv]
        show _ = _ + (_ * rs.getD (l + i + 1) 0 - _ + _)
        generalize rs.getD (l + i + 1) 0 = x
        generalize rs.getD (l + i) 0 = y
        generalize rs.getD l 0 = z
        generalize (rs.length : Int) = n
        have : ((i + 1 : Nat) : Int) = (i : Int) + 1 := by omega
        rw [this]
        grind
    · rw [if_neg z] at hv
      have e : l + i = h := by omega
      have e' : (h : Int) = (l : Int) + i := by omega
      right
      refine ⟨by omega, ?_, ?_⟩
      · rw [a, hv]; omega
      · rw [b, hv, e']
        generalize rs.getD (l + i) 0 = y
        generalize rs.getD l 0 = z
        generalize (rs.length : Int) = n
        grind
  · omega

theorem K3.done {rs rs' : List Int} {PL : Int} {l h : Nat} {g : Int} (k : K3 rs rs' PL.toNat l h (h - l + 1) g) (hl : l ≤ h) : flet rs' PL = flet rs PL ↔ (g - ((h : Int) - l + 1) * rs.getD l 0).fmod 255 = 0 := by
  rcases k.s with ⟨c, _⟩ | ⟨_, a, b⟩
  · omega
  · exact flet_gain k.len (d0 := 0) (d1 := g - ((h : Int) - l + 1) * rs.getD l 0) (by rw [a]; omega) b (.inl ⟨rfl, .inl rfl⟩)
end Fl
end

section
open PySem.Calls
namespace Fl
section
variable {prog : Program} {w : World} {s : Shared} {h₀ : Heap} {L a : Addr} {cd : Value} {m mg mb : Str → Option Value}

local macro_rules | `(tactic| walk_at "call builtin:min") => `(tactic| ((with_reducible show wpAny _ _ (call (Value.builtin _) [Value.int _ _, Value.int _ _]) _ _ _); (with_reducible rename Fr _ _ _ _ => F'); (with_reducible rename News _ _ _ _ => N'); (refine min_two_N (by assumption) F' N' ?_); clear F' N'; intro _ _ F' N'))
local macro_rules | `(tactic| walk_at "eval Name") => `(tactic| (with_unfolding_all refine guard_global (by rfl) ?_; k_dflt (refine' nm_b ?k1 ?k2 ?k3 ?k4 ?k5 ?_; (case k1 => k_asm); (case k2 => k_asm); (case k3 => decide); (case k4 => boot_by_name); (case k5 => decide); k_whole)))
local macro_rules | `(tactic| walk_at "setItem ref int") => `(tactic| ((with_reducible rename Fr _ _ _ _ => F'); (with_reducible rename News _ _ _ _ => N'); (first | (refine setL_head (s := ⟨_, _, _, _, _⟩) F' N' (by assumption) (by omega) (by (try simp only [List.length_set]); omega) (by (try simp only [List.length_set]); omega) ?_) | (refine setL_head (s := ⟨_, _, _, _, _⟩) F' (news_tail N') (by assumption) (by omega) (by (try simp only [List.length_set]); omega) (by (try simp only [List.length_set]); omega) ?_)); clear F' N'; intro _ F' N'))

set_option maxHeartbeats 4000000 in
theorem law_kind2 {rA oA : Addr} {wl : List Value} {rs : List Int} {k ko : Nat} {hi lo mo ck PL SZ : Int} {tg th tl tm tc tp ts : Tok} {u : Str → Option Value} {keep : List (Addr × Obj)} {Q : Flow → Shared → Prop}
    (G : Gl mg mb h₀) (X : Frag.In [] h₀) (N' : News h₀ L s.heap ((rA, W.listOf wl.toArray k) :: (oA, W.listOf wl.toArray ko) :: keep)) (hne : ∀ p ∈ (oA, W.listOf wl.toArray ko) :: keep, p.1 ≠ rA)
    (hI : IntsAre wl rs) (ho : ∀ x ∈ rs, 0 ≤ x ∧ x < 256) (hlen : (rs.length : Int) = SZ) (hlen2 : SZ ≤ 25) (p0 : 0 ≤ PL) (p1 : PL + 2 ≤ rs.length) (l0 : 0 ≤ lo) (l1 : lo ≤ hi) (l2 : hi < SZ) (a1 : hi < PL ∨ PL + 1 < lo)
    (F' : Fr h₀ L s.heap (kfr 0 tg oA hi th lo tl mo tm ck tc rA PL tp SZ ts u))
    (hQ : ∀ h' k', After h₀ L h' rA rs PL SZ ck k keep → Q .next { s with heap := h', toks := k' }) :
    wpC (model prog w) (callerA.deeper (envOf "law" lawScope L a cd)) (execs kindBody2 (envOf "law" lawScope L a cd)) Q s := by
  obtain ⟨hp, gs, dr, tk, os⟩ := s
  obtain ⟨l, rfl⟩ := Int.eq_ofNat_of_zero_le l0
  obtain ⟨h, rfl⟩ := Int.eq_ofNat_of_zero_le (Int.le_trans l0 l1)
  unfold kindBody2 turnBody lawBody lawScope PySem.Challenge.pw_bs0025_02
  unfold kfr at F'
  dsimp only [List.drop] at *
  have hwl := hI.length
  refine execs_cons_ (For_ ?_)
  k_steps
  dsimp only
  rename_i hB tkC tC uC vC hRg hFr hNw hKp
  dsimp only at hRg
  clear hKp
  revert hFr
  generalize hmL : (fun y => if y = Str.ofString "gain" then _ else _) = mL
  intro hFr
  have mg0 : ∃ t, mL "gain" = some (.int 0 t) := by rw [← hmL]; exact ⟨_, rfl⟩
  refine loop_range (s := ⟨_, _, _, _, _⟩) (n := h - l + 1) (fun i m' nx => ∃ wl' rs' g, nx = (rA, W.listOf wl'.toArray k) :: (oA, W.listOf wl.toArray ko) :: keep ∧ IntsAre wl' rs' ∧ (∀ x ∈ rs', 0 ≤ x ∧ x < 256) ∧ K2 rs rs' PL.toNat l h i g ∧ (∃ t, m' "gain" = some (.int g t)) ∧ ∀ y : Str, y ≠ "k" → y ≠ "gain" → m' y = mL y)
    rfl rfl rfl hRg (small_one (by omega) (by omega) (by omega) (by omega)) (by simp only [Builtin.Range.rangeSize]; rw [if_pos (by decide), if_pos (by omega)]; omega) hFr hNw
    ⟨wl, rs, 0, rfl, hI, ho, K2.start, mg0, fun _ _ _ => rfl⟩ ?_ ?_
  · rintro i tt m' nx h' tk' ⟨iA, iO⟩ hi ⟨wl', rs', g, rfl, hI', ho', hK, ⟨tg', eg⟩, er⟩ hn F' N'
    have hne2 : ∀ p ∈ (oA, W.listOf wl.toArray ko) :: (keep ++ [(iA, iO)]), p.1 ≠ rA := by
      intro p hp
      rcases List.mem_cons.mp hp with rfl | hp
      · exact hne _ (.head _)
      rcases List.mem_append.mp hp with hp | hp
      · exact hne _ (.tail _ hp)
      · rw [List.mem_singleton.mp hp]; exact Ne.symm (hn _ (.head _))
    simp only [List.cons_append] at N'
    have em : (fun y => if y = Str.ofString "k" then some (Value.int ((l : Int) + (i : Int)) tt) else m' y) = fun y => if y = Str.ofString "k" then some (Value.int ((l : Int) + (i : Int)) tt) else if y = Str.ofString "gain" then some (.int g tg') else mL y := by
      funext y
      by_cases q : y = Str.ofString "k"
      · rw [if_pos q, if_pos q]
      · rw [if_neg q, if_neg q]
        by_cases q0 : y = Str.ofString "gain"
        · rw [if_pos q0, q0]; exact eg
        · rw [if_neg q0]; exact er y q q0
    rw [em] at F'
    subst hmL
    have hwl' := hI'.length
    have hl' := hK.len
    change News h₀ L _ _ at N'
    change Fr h₀ L _ _ at F'
    have e1 : ((l : Int) + (h : Int) - ((l : Int) + (i : Int))).toNat = h - i := by omega
    have e2 : ((l : Int) + (i : Int)).toNat = l + i := by omega
    refine execs_any ?_
    k_steps
    dsimp only
    rename News _ _ _ _ => Nz
    rename Fr _ _ _ _ => Fz
    revert Nz
    rw [e1, e2]
    generalize hT : Value.int (rs.getD (h - i) 0) _ = T
    intro Nz
    have hI2 : IntsAre (wl'.set (l + i) T) (rs'.set (l + i) (rs.getD (h - i) 0)) := by rw [← hT]; exact ints_set hI' _ _ _
    refine execs_any ?_
    k_steps
    dsimp only
    rename News _ _ _ _ => N3
    rename Fr _ _ _ _ => F3
    refine execs_nil_ ⟨_, _, _, (rA, W.listOf (wl'.set (l + i) T).toArray k) :: (oA, W.listOf wl.toArray ko) :: keep, rfl, F3, N3, ?hO, _, _, g + ((l : Int) + h - 2 * ((l : Int) + i)) * rs.getD (h - i) 0, rfl, hI2, mem_set_oct ho' (getD_oct ho _), hK.step (by omega) (by omega) (by omega) (by omega), ?hG, ?hE⟩
    case hO =>
      intro p hp
      rcases List.mem_cons.mp hp with rfl | hp
      · exact hn (rA, W.listOf wl'.toArray k) (.head _)
      · exact hn p (.tail _ hp)
    case hG =>
      rw [e2, getD_set_self (by omega)]
      exact ⟨_, rfl⟩
    case hE =>
      intro y q q0
      simp only [if_neg q, if_neg q0]
  · rintro m' nx h' tk' ⟨wl', rs', g, rfl, hI', ho', hK, eg, er⟩ F' N'
    refine execs_nil_ (hQ _ _ ⟨m', wl', rs', g, F', news_mid N', hI', hK.len, ho', hK.done (by omega), eg, ?_, ?_, ?_, ?_⟩)
    · rw [er "check" (by decide) (by decide), ← hmL]; exact ⟨_, rfl⟩
    · rw [er "row" (by decide) (by decide), ← hmL]; rfl
    · rw [er "place" (by decide) (by decide), ← hmL]; exact ⟨_, rfl⟩
    · rw [er "size" (by decide) (by decide), ← hmL]; exact ⟨_, rfl⟩

end
end Fl
end

section
open PySem.Calls
namespace Fl
section
variable {prog : Program} {w : World} {s : Shared} {h₀ : Heap} {L a : Addr} {cd : Value} {m mg mb : Str → Option Value}

local macro_rules | `(tactic| walk_at "call builtin:min") => `(tactic| ((with_reducible show wpAny _ _ (call (Value.builtin _) [Value.int _ _, Value.int _ _]) _ _ _); (with_reducible rename Fr _ _ _ _ => F'); (with_reducible rename News _ _ _ _ => N'); (refine min_two_N (by assumption) F' N' ?_); clear F' N'; intro _ _ F' N'))
local macro_rules | `(tactic| walk_at "eval Name") => `(tactic| (with_unfolding_all refine guard_global (by rfl) ?_; k_dflt (refine' nm_b ?k1 ?k2 ?k3 ?k4 ?k5 ?_; (case k1 => k_asm); (case k2 => k_asm); (case k3 => decide); (case k4 => boot_by_name); (case k5 => decide); k_whole)))
local macro_rules | `(tactic| walk_at "setItem ref int") => `(tactic| ((with_reducible rename Fr _ _ _ _ => F'); (with_reducible rename News _ _ _ _ => N'); (first | (refine setL_head (s := ⟨_, _, _, _, _⟩) F' N' (by assumption) (by omega) (by (try simp only [List.length_set]); omega) (by (try simp only [List.length_set]); omega) ?_) | (refine setL_head (s := ⟨_, _, _, _, _⟩) F' (news_tail N') (by assumption) (by omega) (by (try simp only [List.length_set]); omega) (by (try simp only [List.length_set]); omega) ?_)); clear F' N'; intro _ F' N'))

set_option maxHeartbeats 4000000 in
theorem law_kind3 {rA oA : Addr} {wl : List Value} {rs : List Int} {k ko : Nat} {hi lo mo ck PL SZ : Int} {tg th tl tm tc tp ts : Tok} {u : Str → Option Value} {keep : List (Addr × Obj)} {Q : Flow → Shared → Prop}
    (G : Gl mg mb h₀) (X : Frag.In [] h₀) (N' : News h₀ L s.heap ((rA, W.listOf wl.toArray k) :: (oA, W.listOf wl.toArray ko) :: keep)) (hne : ∀ p ∈ (oA, W.listOf wl.toArray ko) :: keep, p.1 ≠ rA)
    (hI : IntsAre wl rs) (ho : ∀ x ∈ rs, 0 ≤ x ∧ x < 256) (hlen : (rs.length : Int) = SZ) (hlen2 : SZ ≤ 25) (p0 : 0 ≤ PL) (p1 : PL + 2 ≤ rs.length) (l0 : 0 ≤ lo) (l1 : lo ≤ hi) (l2 : hi < SZ) (a1 : hi < PL ∨ PL + 1 < lo)
    (F' : Fr h₀ L s.heap (kfr 0 tg oA hi th lo tl mo tm ck tc rA PL tp SZ ts u))
    (hQ : ∀ h' k', After h₀ L h' rA rs PL SZ ck k keep → Q .next { s with heap := h', toks := k' }) :
    wpC (model prog w) (callerA.deeper (envOf "law" lawScope L a cd)) (execs kindBody3 (envOf "law" lawScope L a cd)) Q s := by
  obtain ⟨hp, gs, dr, tk, os⟩ := s
  obtain ⟨l, rfl⟩ := Int.eq_ofNat_of_zero_le l0
  obtain ⟨h, rfl⟩ := Int.eq_ofNat_of_zero_le (Int.le_trans l0 l1)
  unfold kindBody3 turnBody lawBody lawScope PySem.Challenge.pw_bs0025_02
  unfold kfr at F'
  dsimp only [List.drop] at *
  have hwl := hI.length
  refine execs_cons_ (For_ ?_)
  k_steps
  dsimp only
  rename_i hB tkC tC uC vC hRg hFr hNw hKp
  dsimp only at hRg
  clear hKp
  revert hFr
  generalize hmL : (fun y => if y = Str.ofString "gain" then _ else _) = mL
  intro hFr
  have mg0 : ∃ t, mL "gain" = some (.int 0 t) := by rw [← hmL]; exact ⟨_, rfl⟩
  refine loop_range (s := ⟨_, _, _, _, _⟩) (n := h - l + 1) (fun i m' nx => ∃ wl' rs' g, nx = (rA, W.listOf wl'.toArray k) :: (oA, W.listOf wl.toArray ko) :: keep ∧ IntsAre wl' rs' ∧ (∀ x ∈ rs', 0 ≤ x ∧ x < 256) ∧ K3 rs rs' PL.toNat l h i g ∧ (∃ t, m' "gain" = some (.int g t)) ∧ ∀ y : Str, y ≠ "k" → y ≠ "gain" → m' y = mL y)
    rfl rfl rfl hRg (small_one (by omega) (by omega) (by omega) (by omega)) (by simp only [Builtin.Range.rangeSize]; rw [if_pos (by decide), if_pos (by omega)]; omega) hFr hNw
    ⟨wl, rs, 0, rfl, hI, ho, K3.start (by omega), mg0, fun _ _ _ => rfl⟩ ?_ ?_
  · rintro i tt m' nx h' tk' ⟨iA, iO⟩ hi ⟨wl', rs', g, rfl, hI', ho', hK, ⟨tg', eg⟩, er⟩ hn F' N'
    have hne2 : ∀ p ∈ (oA, W.listOf wl.toArray ko) :: (keep ++ [(iA, iO)]), p.1 ≠ rA := by
      intro p hp
      rcases List.mem_cons.mp hp with rfl | hp
      · exact hne _ (.head _)
      rcases List.mem_append.mp hp with hp | hp
      · exact hne _ (.tail _ hp)
      · rw [List.mem_singleton.mp hp]; exact Ne.symm (hn _ (.head _))
    simp only [List.cons_append] at N'
    have em : (fun y => if y = Str.ofString "k" then some (Value.int ((l : Int) + (i : Int)) tt) else m' y) = fun y => if y = Str.ofString "k" then some (Value.int ((l : Int) + (i : Int)) tt) else if y = Str.ofString "gain" then some (.int g tg') else mL y := by
      funext y
      by_cases q : y = Str.ofString "k"
      · rw [if_pos q, if_pos q]
      · rw [if_neg q, if_neg q]
        by_cases q0 : y = Str.ofString "gain"
        · rw [if_pos q0, q0]; exact eg
        · rw [if_neg q0]; exact er y q q0
    rw [em] at F'
    subst hmL
    have hwl' := hI'.length
    have hl' := hK.len
    change News h₀ L _ _ at N'
    change Fr h₀ L _ _ at F'
    have e1 : ((l : Int) + (i : Int) + 1).toNat = l + i + 1 := by omega
    have e2 : ((l : Int) + (i : Int)).toNat = l + i := by omega
    have e3 : ((l : Nat) : Int).toNat = l := by omega
    refine execs_any ?_
    k_steps
    all_goals dsimp only
    all_goals rename News _ _ _ _ => Nz
    all_goals rename Fr _ _ _ _ => Fz
    all_goals revert Nz
    all_goals (first | rw [e2, e1] | rw [e2, e3])
    all_goals intro Nz
    all_goals refine execs_any ?_
    all_goals k_steps
    all_goals dsimp only
    all_goals rename News _ _ _ _ => N3
    all_goals rename Fr _ _ _ _ => F3
    · refine execs_nil_ ⟨_, _, _, _ :: (oA, W.listOf wl.toArray ko) :: keep, rfl, F3, N3, ?_, _, _, g + rs.getD (l + i) 0, rfl, ints_set hI' _ _ _, mem_set_oct ho' (getD_oct ho _), hK.step (by omega) (by omega) (by omega) (by omega) (by rw [if_pos (by omega)]), ?_, ?_⟩
      · intro p hp
        rcases List.mem_cons.mp hp with rfl | hp
        · exact hn (rA, W.listOf wl'.toArray k) (.head _)
        · exact hn p (.tail _ hp)
      · rw [e2]; exact ⟨_, rfl⟩
      · intro y q q0
        simp only [if_neg q, if_neg q0]
    · refine execs_nil_ ⟨_, _, _, _ :: (oA, W.listOf wl.toArray ko) :: keep, rfl, F3, N3, ?_, _, _, g + rs.getD (l + i) 0, rfl, ints_set hI' _ _ _, mem_set_oct ho' (getD_oct ho _), hK.step (by omega) (by omega) (by omega) (by omega) (by rw [if_neg (by omega)]), ?_, ?_⟩
      · intro p hp
        rcases List.mem_cons.mp hp with rfl | hp
        · exact hn (rA, W.listOf wl'.toArray k) (.head _)
        · exact hn p (.tail _ hp)
      · rw [e2]; exact ⟨_, rfl⟩
      · intro y q q0
        simp only [if_neg q, if_neg q0]
  · rintro m' nx h' tk' ⟨wl', rs', g, rfl, hI', ho', hK, eg, er⟩ F' N'
    obtain ⟨tg', eg⟩ := eg
    have em : m' = fun y => if y = Str.ofString "k" then m' "k" else if y = Str.ofString "gain" then some (.int g tg') else mL y := by
      funext y
      by_cases q : y = Str.ofString "k"
      · rw [if_pos q, q]
      · rw [if_neg q]
        by_cases q0 : y = Str.ofString "gain"
        · rw [if_pos q0, q0]; exact eg
        · rw [if_neg q0]; exact er y q q0
    rw [em] at F'
    subst hmL
    have e3 : ((l : Nat) : Int).toNat = l := by omega
    refine execs_any ?_
    k_steps
    dsimp only
    rename News _ _ _ _ => N3
    rename Fr _ _ _ _ => F3
    rw [e3] at F3
    exact execs_nil_ (hQ _ _ ⟨_, wl', rs', _, F3, news_mid N3, hI', hK.len, ho', hK.done (by omega), ⟨_, rfl⟩, ⟨_, rfl⟩, rfl, ⟨_, rfl⟩, ⟨_, rfl⟩⟩)


end
end Fl
end

section
open PySem.Calls
namespace Fl

theorem fr_chain5 {h₀ h : Heap} {L : Addr} {m : Str → Option Value} {x1 x2 x3 x4 x5 : Str} {v1 v2 v3 v4 v5 : Value} (F : Fr h₀ L h m) (h1 : m x1 = some v1) (h2 : m x2 = some v2) (h3 : m x3 = some v3) (h4 : m x4 = some v4) (h5 : m x5 = some v5) : Fr h₀ L h (fun y => if y = x1 then some v1 else if y = x2 then some v2 else if y = x3 then some v3 else if y = x4 then some v4 else if y = x5 then some v5 else m y) := by
  have e : m = fun y => if y = x1 then some v1 else if y = x2 then some v2 else if y = x3 then some v3 else if y = x4 then some v4 else if y = x5 then some v5 else m y := by
    funext y
    by_cases q : y = x1
    · rw [if_pos q, q, h1]
    rw [if_neg q]
    by_cases q : y = x2
    · rw [if_pos q, q, h2]
    rw [if_neg q]
    by_cases q : y = x3
    · rw [if_pos q, q, h3]
    rw [if_neg q]
    by_cases q : y = x4
    · rw [if_pos q, q, h4]
    rw [if_neg q]
    by_cases q : y = x5
    · rw [if_pos q, q, h5]
    rw [if_neg q]
  rw [← e]; exact F

theorem fr_chain9 {h₀ h : Heap} {L : Addr} {m : Str → Option Value} {x1 x2 x3 x4 x5 x6 x7 x8 x9 : Str} {v1 v2 v3 v4 v5 v6 v7 v8 v9 : Value} (F : Fr h₀ L h m) (h1 : m x1 = some v1) (h2 : m x2 = some v2) (h3 : m x3 = some v3) (h4 : m x4 = some v4) (h5 : m x5 = some v5) (h6 : m x6 = some v6) (h7 : m x7 = some v7) (h8 : m x8 = some v8) (h9 : m x9 = some v9) : Fr h₀ L h (fun y => if y = x1 then some v1 else if y = x2 then some v2 else if y = x3 then some v3 else if y = x4 then some v4 else if y = x5 then some v5 else if y = x6 then some v6 else if y = x7 then some v7 else if y = x8 then some v8 else if y = x9 then some v9 else m y) := by
  have e : m = fun y => if y = x1 then some v1 else if y = x2 then some v2 else if y = x3 then some v3 else if y = x4 then some v4 else if y = x5 then some v5 else if y = x6 then some v6 else if y = x7 then some v7 else if y = x8 then some v8 else if y = x9 then some v9 else m y := by
    funext y
    by_cases q : y = x1
    · rw [if_pos q, q, h1]
    rw [if_neg q]
    by_cases q : y = x2
    · rw [if_pos q, q, h2]
    rw [if_neg q]
    by_cases q : y = x3
    · rw [if_pos q, q, h3]
    rw [if_neg q]
    by_cases q : y = x4
    · rw [if_pos q, q, h4]
    rw [if_neg q]
    by_cases q : y = x5
    · rw [if_pos q, q, h5]
    rw [if_neg q]
    by_cases q : y = x6
    · rw [if_pos q, q, h6]
    rw [if_neg q]
    by_cases q : y = x7
    · rw [if_pos q, q, h7]
    rw [if_neg q]
    by_cases q : y = x8
    · rw [if_pos q, q, h8]
    rw [if_neg q]
    by_cases q : y = x9
    · rw [if_pos q, q, h9]
    rw [if_neg q]
  rw [← e]; exact F


def turn3 : List Stmt := turnBody.drop 3
def turn4 : List Stmt := turnBody.drop 4

theorem any2_false {x y c : Int} (h : ([x, y].any fun z => z == c) = false) : c ≠ x ∧ c ≠ y := by
  simp only [List.any_cons, List.any_nil, Bool.or_false, Bool.or_eq_false_iff, beq_eq_false_iff_ne] at h
  exact ⟨Ne.symm h.1, Ne.symm h.2⟩

section
variable {prog : Program} {w : World} {s : Shared} {h₀ : Heap} {L a : Addr} {cd : Value} {m mg mb : Str → Option Value}

/-- the frame of a turn when its two places are found -/
def tfr (d : Int) (td : Tok) (ki : Int) (tk : Tok) (hi : Int) (th : Tok) (lo : Int) (tl : Tok) (mo : Int) (tm : Tok) (ck : Int) (tc : Tok) (rA : Addr) (PL : Int) (tp : Tok) (SZ : Int) (ts : Tok) (u : Str → Option Value) : Str → Option Value := fun y =>
  if y = Str.ofString "draw" then some (.int d td) else if y = Str.ofString "kind" then some (.int ki tk) else if y = Str.ofString "high" then some (.int hi th) else if y = Str.ofString "low" then some (.int lo tl) else if y = Str.ofString "more" then some (.int mo tm)
  else if y = Str.ofString "check" then some (.int ck tc) else if y = Str.ofString "row" then some (.ref rA) else if y = Str.ofString "place" then some (.int PL tp) else if y = Str.ofString "size" then some (.int SZ ts) else u y

theorem news3 {h : Heap} {x y z p1 p2 : Addr × Obj} (N : News h₀ L h [p1, p2, x, y, z]) : News h₀ L h [x, y, z] := fun p hp => N p (.tail _ (.tail _ hp))

local macro_rules | `(tactic| walk_at "eval Name") => `(tactic| (with_unfolding_all refine guard_global (by rfl) ?_; k_dflt (refine' nm_b ?k1 ?k2 ?k3 ?k4 ?k5 ?_; (case k1 => k_asm); (case k2 => k_asm); (case k3 => decide); (case k4 => boot_by_name); (case k5 => decide); k_whole)))

set_option maxHeartbeats 4000000 in
theorem law_head1 {rA eA iA : Addr} {oE iO : Obj} {wl : List Value} {k : Nat} {d ck PL SZ : Int} {td tc tp ts : Tok} {u : Str → Option Value} {Q : Flow → Shared → Prop}
    (G : Gl mg mb h₀) (X : Frag.In [] h₀) (N' : News h₀ L s.heap [(rA, W.listOf wl.toArray k), (eA, oE), (iA, iO)]) (z0 : 6 ≤ SZ) (z1 : SZ ≤ 25)
    (F' : Fr h₀ L s.heap (fun y => if y = Str.ofString "draw" then some (.int d td) else if y = Str.ofString "check" then some (.int ck tc) else if y = Str.ofString "row" then some (.ref rA) else if y = Str.ofString "place" then some (.int PL tp) else if y = Str.ofString "size" then some (.int SZ ts) else u y))
    (hQ : ∀ h' k' td' ki tk hi th lo tl mo tm tc' tp' ts' u', 0 ≤ lo → lo ≤ hi → hi < SZ → Fr h₀ L h' (tfr d td' ki tk hi th lo tl mo tm ck tc' rA PL tp' SZ ts' u') → News h₀ L h' [(rA, W.listOf wl.toArray k), (eA, oE), (iA, iO)] →
      wpC (model prog w) (callerA.deeper (envOf "law" lawScope L a cd)) (execs turn3 (envOf "law" lawScope L a cd)) Q { s with heap := h', toks := k' }) :
    wpC (model prog w) (callerA.deeper (envOf "law" lawScope L a cd)) (execs turnBody (envOf "law" lawScope L a cd)) Q s := by
  obtain ⟨hp, gs, dr, tk, os⟩ := s
  unfold turnBody lawBody PySem.Challenge.pw_bs0025_02
  dsimp only [List.drop]
  unfold lawScope PySem.Challenge.pw_bs0025_02
  dsimp only
  refine execs_any ?_
  k_steps
  dsimp only
  refine execs_any ?_
  k_steps
  dsimp only
  rename Fr _ _ _ _ => F2
  rename News _ _ _ _ => N2
  have o0 : 0 ≤ (d.fdiv 5).fmod SZ := Int.fmod_nonneg_of_pos _ (by omega)
  have o1 : (d.fdiv 5).fmod SZ < SZ := Int.fmod_lt_of_pos _ (by omega)
  have o2 : 0 ≤ ((d.fdiv 5).fdiv SZ).fmod SZ := Int.fmod_nonneg_of_pos _ (by omega)
  have o3 : ((d.fdiv 5).fdiv SZ).fmod SZ < SZ := Int.fmod_lt_of_pos _ (by omega)
  revert F2
  generalize (d.fdiv 5).fmod SZ = LO at o0 o1
  generalize ((d.fdiv 5).fdiv SZ).fmod SZ = HI at o2 o3
  generalize d.fdiv 5 = MO
  generalize d.fmod 5 = KI
  intro F2
  refine execs_any ?_
  k_steps
  all_goals dsimp only
  all_goals rename Fr _ _ _ _ => F3
  all_goals rename News _ _ _ _ => N3
  · exact hQ _ _ td KI _ LO _ HI _ MO _ tc tp ts _ o2 (by omega) o1 (fr_chain9 F3 rfl rfl rfl rfl rfl rfl rfl rfl rfl) (fun p hp => N3 p (.tail _ (.tail _ (.tail _ hp))))
  · exact hQ _ _ td KI _ HI _ LO _ MO _ tc tp ts _ o0 (by omega) o3 (fr_chain9 F3 rfl rfl rfl rfl rfl rfl rfl rfl rfl) (fun p hp => N3 p (.tail _ (.tail _ hp)))

set_option maxHeartbeats 4000000 in
theorem law_head2 {rA eA iA : Addr} {oE iO : Obj} {wl : List Value} {k : Nat} {d ki hi lo mo ck PL SZ : Int} {td tki th tl tm tc tp ts : Tok} {u : Str → Option Value} {Q : Flow → Shared → Prop}
    (G : Gl mg mb h₀) (X : Frag.In [] h₀) (N' : News h₀ L s.heap [(rA, W.listOf wl.toArray k), (eA, oE), (iA, iO)])
    (F' : Fr h₀ L s.heap (tfr d td ki tki hi th lo tl mo tm ck tc rA PL tp SZ ts u))
    (hC : ∀ h' k', Fr h₀ L h' (tfr d td ki tki hi th lo tl mo tm ck tc rA PL tp SZ ts u) → News h₀ L h' [(rA, W.listOf wl.toArray k), (eA, oE), (iA, iO)] → Q .cont { s with heap := h', toks := k' })
    (hQ : ∀ h' k', lo ≠ PL → lo ≠ PL + 1 → hi ≠ PL → hi ≠ PL + 1 → ((ki = 2 ∨ ki = 3) → ¬ (lo < PL ∧ PL < hi)) → Fr h₀ L h' (tfr d td ki tki hi th lo tl mo tm ck tc rA PL tp SZ ts u) → News h₀ L h' [(rA, W.listOf wl.toArray k), (eA, oE), (iA, iO)] →
      wpC (model prog w) (callerA.deeper (envOf "law" lawScope L a cd)) (execs turn4 (envOf "law" lawScope L a cd)) Q { s with heap := h', toks := k' }) :
    wpC (model prog w) (callerA.deeper (envOf "law" lawScope L a cd)) (execs turn3 (envOf "law" lawScope L a cd)) Q s := by
  obtain ⟨hp, gs, dr, tk, os⟩ := s
  unfold turn3 turnBody lawBody PySem.Challenge.pw_bs0025_02
  dsimp only [List.drop]
  unfold lawScope PySem.Challenge.pw_bs0025_02
  dsimp only
  unfold tfr at F'
  dsimp only at F' N'
  refine execs_any ?_
  k_steps
  all_goals dsimp only
  all_goals rename Fr _ _ _ _ => F3
  all_goals rename News _ _ _ _ => N3
  · exact hC _ _ F3 (fun p hp => N3 p (.tail _ (hp)))
  · exact hC _ _ F3 (fun p hp => N3 p (.tail _ (.tail _ (hp))))
  · exact hC _ _ F3 (fun p hp => N3 p (.tail _ (.tail _ (.tail _ (hp)))))
  · rename ([PL, PL + 1].any fun x => x == lo) = false => q1
    rename ([PL, PL + 1].any fun x => x == hi) = false => q2
    obtain ⟨q1, q1'⟩ := any2_false q1
    obtain ⟨q2, q2'⟩ := any2_false q2
    exact hQ _ _ q1 q1' q2 q2' (fun z => by omega) F3 (fun p hp => N3 p (.tail _ (.tail _ (.tail _ (hp)))))
  · rename ([PL, PL + 1].any fun x => x == lo) = false => q1
    rename ([PL, PL + 1].any fun x => x == hi) = false => q2
    obtain ⟨q1, q1'⟩ := any2_false q1
    obtain ⟨q2, q2'⟩ := any2_false q2
    exact hQ _ _ q1 q1' q2 q2' (fun z => by omega) F3 (fun p hp => N3 p (.tail _ (.tail _ (.tail _ (hp)))))
  · rename ([2, 3].any fun x => x == ki) = false => q3
    obtain ⟨q3, q3'⟩ := any2_false q3
    rename ([PL, PL + 1].any fun x => x == lo) = false => q1
    rename ([PL, PL + 1].any fun x => x == hi) = false => q2
    obtain ⟨q1, q1'⟩ := any2_false q1
    obtain ⟨q2, q2'⟩ := any2_false q2
    exact hQ _ _ q1 q1' q2 q2' (fun z => by omega) F3 (fun p hp => N3 p (.tail _ (.tail _ (.tail _ (hp)))))
end
end Fl
end

section
open PySem.Calls
namespace Fl

theorem fr_chain4 {h₀ h : Heap} {L : Addr} {m : Str → Option Value} {x1 x2 x3 x4 : Str} {v1 v2 v3 v4 : Value} (F : Fr h₀ L h m) (h1 : m x1 = some v1) (h2 : m x2 = some v2) (h3 : m x3 = some v3) (h4 : m x4 = some v4) : Fr h₀ L h (fun y => if y = x1 then some v1 else if y = x2 then some v2 else if y = x3 then some v3 else if y = x4 then some v4 else m y) := by
  have e : m = fun y => if y = x1 then some v1 else if y = x2 then some v2 else if y = x3 then some v3 else if y = x4 then some v4 else m y := by
    funext y
    by_cases q : y = x1
    · rw [if_pos q, q, h1]
    rw [if_neg q]
    by_cases q : y = x2
    · rw [if_pos q, q, h2]
    rw [if_neg q]
    by_cases q : y = x3
    · rw [if_pos q, q, h3]
    rw [if_neg q]
    by_cases q : y = x4
    · rw [if_pos q, q, h4]
    rw [if_neg q]
  rw [← e]; exact F

section
variable {prog : Program} {w : World} {s : Shared} {h₀ : Heap} {L a : Addr} {cd : Value} {m mg mb : Str → Option Value}

/-- what the loop keeps of the frame -/
structure Loc (m : Str → Option Value) (rA : Addr) (PL SZ ck : Int) : Prop where
  check : ∃ t, m "check" = some (.int ck t)
  row : m "row" = some (.ref rA)
  place : ∃ t, m "place" = some (.int PL t)
  size : ∃ t, m "size" = some (.int SZ t)

theorem after_tail {h' : Heap} {k' : Nat} {rA : Addr} {rs : List Int} {PL SZ ck : Int} {k : Nat} {keep : List (Addr × Obj)} {Q : Flow → Shared → Prop}
    (G : Gl mg mb h₀) (K : FlOk mg h₀) (X : Frag.In [] h₀) (A : After h₀ L h' rA rs PL SZ ck k keep) (hck : ck = flet rs PL) (hlen : rs.length ≤ 64) (h0 : 0 ≤ PL) (h1 : PL + 2 ≤ rs.length)
    (hQ : ∀ h' k' m' wl' rs', Fr h₀ L h' m' → News h₀ L h' ((rA, W.listOf wl'.toArray k) :: keep) → IntsAre wl' rs' → rs'.length = rs.length → (∀ x ∈ rs', 0 ≤ x ∧ x < 256) → Loc m' rA PL SZ (flet rs' PL) → Q .next { s with heap := h', toks := k' }) :
    wpC (model prog w) (callerA.deeper (envOf "law" lawScope L a cd)) (execs tailBody (envOf "law" lawScope L a cd)) Q { s with heap := h', toks := k' } := by
  obtain ⟨m, wl', rs', g, F, N, hI, hl, ho, hg, ⟨tg, eg⟩, ⟨tc, ec⟩, er, ⟨tp, ep⟩, ⟨ts, es⟩⟩ := A.ex
  refine law_tail (s := { s with heap := h', toks := k' }) (ck := ck) (g := g) G K X N (.head _) hI ho (by omega) h0 (by omega) (by rw [hck]; exact hg) (fr_chain4 F eg ec er ep) fun h2 k2 t u' eu ec' F' N' => ?_
  refine hQ h2 k2 u' wl' rs' F' N' hI hl ho ⟨⟨t, ec'⟩, ?_, ⟨tp, ?_⟩, ⟨ts, ?_⟩⟩
  · rw [eu _ (by decide) (by decide)]; rfl
  · rw [eu _ (by decide) (by decide)]; rfl
  · rw [eu _ (by decide) (by decide)]
    show m "size" = _
    exact es

local macro_rules | `(tactic| walk_at "eval Name") => `(tactic| (with_unfolding_all refine guard_global (by rfl) ?_; k_dflt (refine' nm_b ?k1 ?k2 ?k3 ?k4 ?k5 ?_; (case k1 => k_asm); (case k2 => k_asm); (case k3 => decide); (case k4 => boot_by_name); (case k5 => decide); k_whole)))

set_option maxHeartbeats 4000000 in
theorem law_head3 {rA eA iA : Addr} {oE iO : Obj} {wl : List Value} {rs : List Int} {k : Nat} {d ki hi lo mo ck PL SZ : Int} {td tki th tl tm tc tp ts : Tok} {u : Str → Option Value} {Q : Flow → Shared → Prop}
    (G : Gl mg mb h₀) (K : FlOk mg h₀) (X : Frag.In [] h₀) (N' : News h₀ L s.heap [(rA, W.listOf wl.toArray k), (eA, oE), (iA, iO)]) (n1 : eA ≠ rA) (n2 : iA ≠ rA)
    (hI : IntsAre wl rs) (ho : ∀ x ∈ rs, 0 ≤ x ∧ x < 256) (hlen : (rs.length : Int) = SZ) (hlen2 : SZ ≤ 25) (p0 : 0 ≤ PL) (p1 : PL + 2 ≤ rs.length) (l0 : 0 ≤ lo) (l1 : lo ≤ hi) (l2 : hi < SZ) (a1 : lo ≠ PL) (a2 : lo ≠ PL + 1) (a3 : hi ≠ PL) (a4 : hi ≠ PL + 1)
    (a5 : (ki = 2 ∨ ki = 3) → ¬ (lo < PL ∧ PL < hi)) (hck : ck = flet rs PL)
    (F' : Fr h₀ L s.heap (tfr d td ki tki hi th lo tl mo tm ck tc rA PL tp SZ ts u))
    (hQ : ∀ h' k' m' wl' rs', Fr h₀ L h' m' → News h₀ L h' [(rA, W.listOf wl'.toArray k), (eA, oE), (iA, iO)] → IntsAre wl' rs' → rs'.length = rs.length → (∀ x ∈ rs', 0 ≤ x ∧ x < 256) → Loc m' rA PL SZ (flet rs' PL) → Q .next { s with heap := h', toks := k' }) :
    wpC (model prog w) (callerA.deeper (envOf "law" lawScope L a cd)) (execs turn4 (envOf "law" lawScope L a cd)) Q s := by
  obtain ⟨hp, gs, dr, tk, os⟩ := s
  unfold turn4 turnBody lawBody PySem.Challenge.pw_bs0025_02
  dsimp only [List.drop]
  unfold lawScope PySem.Challenge.pw_bs0025_02
  dsimp only
  unfold tfr at F'
  dsimp only at F' N'
  have hwl := hI.length
  refine execs_any ?_
  k_steps
  dsimp only
  rename Fr _ _ _ _ => F3
  rename News _ _ _ _ => N3
  rename_i dT cO hT1 ltO dU hT2 ltU hT3 hT4 hT5
  have N4 : News h₀ L hT5 ((rA, W.listOf wl.toArray k) :: (dT, W.listOf wl.toArray cO) :: [(eA, oE), (iA, iO)]) := fun p hp => N3 p (by
    rcases List.mem_cons.mp hp with rfl | hp
    · exact .tail _ (.tail _ (.head _))
    rcases List.mem_cons.mp hp with rfl | hp
    · exact .tail _ (.head _)
    · exact .tail _ (.tail _ (.tail _ hp)))
  have hne : ∀ p ∈ (dT, W.listOf wl.toArray cO) :: [(eA, oE), (iA, iO)], p.1 ≠ rA := by
    intro p hp
    rcases List.mem_cons.mp hp with rfl | hp
    · exact Nat.ne_of_gt ltO.1
    rcases List.mem_cons.mp hp with rfl | hp
    · exact n1
    · rw [List.mem_singleton.mp hp]; exact n2
  clear N3 ltU
  refine execs_cons_ (If_ (any ?_))
  k_steps
  · exact law_kind0 (s := ⟨hT5, gs, dr, _, os⟩) G X N4 hne hI ho hlen hlen2 p0 p1 l0 l1 l2 a1 a2 a3 a4 (fr_chain9 F3 rfl rfl rfl rfl rfl rfl rfl rfl rfl) (fun h' k' Af => after_tail (s := ⟨hp, gs, dr, tk, os⟩) G K X Af hck (by omega) p0 p1 hQ)
  refine execs_cons_ (If_ (any ?_))
  k_steps
  · exact law_kind1 (s := ⟨hT5, gs, dr, _, os⟩) G X N4 hne hI ho hlen hlen2 p0 p1 l0 l1 l2 a1 a2 a3 a4 (fr_chain9 F3 rfl rfl rfl rfl rfl rfl rfl rfl rfl) (fun h' k' Af => execs_nil_ (after_tail (s := ⟨hp, gs, dr, tk, os⟩) G K X Af hck (by omega) p0 p1 hQ))
  refine execs_cons_ (If_ (any ?_))
  k_steps
  · exact law_kind2 (s := ⟨hT5, gs, dr, _, os⟩) G X N4 hne hI ho hlen hlen2 p0 p1 l0 l1 l2 (by omega) (fr_chain9 F3 rfl rfl rfl rfl rfl rfl rfl rfl rfl) (fun h' k' Af => execs_nil_ (execs_nil_ (after_tail (s := ⟨hp, gs, dr, tk, os⟩) G K X Af hck (by omega) p0 p1 hQ)))
  refine execs_cons_ (If_ (any ?_))
  k_steps
  · exact law_kind3 (s := ⟨hT5, gs, dr, _, os⟩) G X N4 hne hI ho hlen hlen2 p0 p1 l0 l1 l2 (by omega) (fr_chain9 F3 rfl rfl rfl rfl rfl rfl rfl rfl rfl) (fun h' k' Af => execs_nil_ (execs_nil_ (execs_nil_ (after_tail (s := ⟨hp, gs, dr, tk, os⟩) G K X Af hck (by omega) p0 p1 hQ))))
  exact law_kind4 (s := ⟨hT5, gs, dr, _, os⟩) G X N4 hne hI ho hlen hlen2 p0 p1 l0 l1 l2 a1 a2 a3 a4 (fr_chain9 F3 rfl rfl rfl rfl rfl rfl rfl rfl rfl) (fun h' k' Af => execs_nil_ (execs_nil_ (execs_nil_ (after_tail (s := ⟨hp, gs, dr, tk, os⟩) G K X Af hck (by omega) p0 p1 hQ))))
end
end Fl
end

section
open PySem.Calls
namespace Fl

def lawB3 : List Stmt := lawBody.drop 6
def lawB4 : List Stmt := lawBody.drop 8

theorem ints_get : ∀ {vs : List Value} {ns : List Int} (_ : IntsAre vs ns) {i : Nat} {v : Value}, vs[i]? = some v → ∃ n t, v = .int n t
  | _, _, .nil, i, v, h => by simp at h
  | _, _, .cons n t r, 0, v, h => ⟨n, t, by simpa using h.symm⟩
  | _, _, .cons n t r, i + 1, v, h => ints_get r (by simpa using h)

section
variable {prog : Program} {w : World} {s : Shared} {h₀ : Heap} {L a : Addr} {cd : Value} {m mg mb : Str → Option Value}

theorem law_turn {rA eA iA : Addr} {oE iO : Obj} {wl : List Value} {rs : List Int} {k : Nat} {d PL SZ : Int} {td tc tp ts : Tok} {u : Str → Option Value} {Q : Flow → Shared → Prop}
    (G : Gl mg mb h₀) (K : FlOk mg h₀) (X : Frag.In [] h₀) (N' : News h₀ L s.heap [(rA, W.listOf wl.toArray k), (eA, oE), (iA, iO)]) (n1 : eA ≠ rA) (n2 : iA ≠ rA)
    (hI : IntsAre wl rs) (ho : ∀ x ∈ rs, 0 ≤ x ∧ x < 256) (hlen : (rs.length : Int) = SZ) (z0 : 6 ≤ SZ) (z1 : SZ ≤ 25) (p0 : 0 ≤ PL) (p1 : PL + 2 ≤ rs.length)
    (F' : Fr h₀ L s.heap (fun y => if y = Str.ofString "draw" then some (.int d td) else if y = Str.ofString "check" then some (.int (flet rs PL) tc) else if y = Str.ofString "row" then some (.ref rA) else if y = Str.ofString "place" then some (.int PL tp) else if y = Str.ofString "size" then some (.int SZ ts) else u y))
    (hQ : ∀ f, (f = .next ∨ f = .cont) → ∀ h' k' m' wl' rs', Fr h₀ L h' m' → News h₀ L h' [(rA, W.listOf wl'.toArray k), (eA, oE), (iA, iO)] → IntsAre wl' rs' → rs'.length = rs.length → (∀ x ∈ rs', 0 ≤ x ∧ x < 256) → Loc m' rA PL SZ (flet rs' PL) → Q f { s with heap := h', toks := k' }) :
    wpC (model prog w) (callerA.deeper (envOf "law" lawScope L a cd)) (execs turnBody (envOf "law" lawScope L a cd)) Q s := by
  refine law_head1 G X N' z0 z1 F' fun h1 k1 td' ki tk hi th lo tl mo tm tc' tp' ts' u' l0 l1 l2 F1 N1 => ?_
  refine law_head2 (s := { s with heap := h1, toks := k1 }) G X N1 F1 (fun h2 k2 F2 N2 => ?_) fun h2 k2 a1 a2 a3 a4 a5 F2 N2 => ?_
  · exact hQ _ (.inr rfl) h2 k2 _ wl rs F2 N2 hI rfl ho ⟨⟨_, rfl⟩, rfl, ⟨_, rfl⟩, ⟨_, rfl⟩⟩
  · exact law_head3 (s := { s with heap := h2, toks := k2 }) G K X N2 n1 n2 hI ho hlen z1 p0 p1 l0 l1 l2 a1 a2 a3 a4 a5 rfl F2 (hQ _ (.inl rfl))

local macro_rules | `(tactic| walk_at "eval Name") => `(tactic| (with_unfolding_all refine guard_global (by rfl) ?_; k_dflt (refine' nm_b ?k1 ?k2 ?k3 ?k4 ?k5 ?_; (case k1 => k_asm); (case k2 => k_asm); (case k3 => decide); (case k4 => boot_by_name); (case k5 => decide); k_whole)))

set_option maxHeartbeats 4000000 in
theorem law_b3 {h' : Heap} {k' : Nat} {rA dC : Addr} {cs : List Int} {ws wl : List Value} {rs : List Int} {k : Nat} {SZ PL : Int} {u : Str → Option Value} {Q : Flow → Shared → Prop}
    (G : Gl mg mb h₀) (K : FlOk mg h₀) (X : Frag.In [] h₀) (R : RowAt h₀ L h' dC rA ws wl rs k SZ PL u) (hIc : IntsAre ws cs) (hcl : cs.length = 18)
    (h4 : ∀ h' k' m' wl' rs', Fr h₀ L h' m' → News h₀ L h' [(rA, W.listOf wl'.toArray k)] → IntsAre wl' rs' → (rs'.length : Int) = SZ → (∀ x ∈ rs', 0 ≤ x ∧ x < 256) → Loc m' rA PL SZ (flet rs' PL) → wpC (model prog w) (callerA.deeper (envOf "law" lawScope L a cd)) (execs lawB4 (envOf "law" lawScope L a cd)) Q { s with heap := h', toks := k' }) :
    wpC (model prog w) (callerA.deeper (envOf "law" lawScope L a cd)) (execs lawB3 (envOf "law" lawScope L a cd)) Q { s with heap := h', toks := k' } := by
  obtain ⟨hp, gs, dr, tk, os⟩ := s
  obtain ⟨N', hne, hI, hlen, ho, z0, z1, p0, p1, tp, tz, F'⟩ := R
  unfold lawB3 lawBody PySem.Challenge.pw_bs0025_02
  dsimp only [List.drop]
  refine execs_cons_ (Assign_ (fl_at (tp := tp) G K F' N' (.head _) rfl rfl hI ho (by omega) p0 (by omega) fun h1 t1 k1 F1 N1 => ?_))
  refine stN F1 N1 fun h2 F2 N2 => ?_
  clear F1 N1 F' N'
  dsimp only
  revert F2
  generalize hmL : (fun y => if y = Str.ofString "check" then _ else _) = mL
  intro F2
  have hcks : mL "cells" = some (.ref dC) := by rw [← hmL]; rfl
  have hloc : Loc mL rA PL SZ (flet rs PL) := by rw [← hmL]; exact ⟨⟨_, rfl⟩, rfl, ⟨_, rfl⟩, ⟨_, rfl⟩⟩
  refine execs_cons_ (For_ ?_)
  unfold lawScope PySem.Challenge.pw_bs0025_02
  dsimp only
  subst hmL
  k_steps
  dsimp only
  rename_i eA ws2 hB FB NB hI2 _ _ ltB
  have N0 : News h₀ L hB [(rA, W.listOf wl.toArray k), (eA, W.listOf ws2.toArray 0)] := fun p hp => NB p (by
    rcases List.mem_cons.mp hp with rfl | hp
    · exact .tail _ (.head _)
    · rw [List.mem_singleton.mp hp]; exact .head _)
  have n1 : eA ≠ rA := Nat.ne_of_gt ltB.1
  clear NB hcks
  revert FB hloc
  generalize (fun y => if y = Str.ofString "check" then _ else _) = mL
  intro hloc FB
  refine loop_list (s := ⟨_, _, _, _, _⟩) (vs := ws2) (fun i m' nx => ∃ wl' rs', nx = [(rA, W.listOf wl'.toArray k), (eA, W.listOf ws2.toArray 0)] ∧ IntsAre wl' rs' ∧ (rs'.length : Int) = SZ ∧ (∀ x ∈ rs', 0 ≤ x ∧ x < 256) ∧ Loc m' rA PL SZ (flet rs' PL))
    rfl rfl rfl FB N0 ⟨wl, rs, rfl, hI, hlen, ho, hloc⟩ ?_ ?_ ?_
  · rintro i m' nx h' ⟨wl', rs', rfl, _⟩ F' N'
    exact ⟨_, (N' _ (.tail _ (.head _))).1, rfl, _, rfl⟩
  · rintro i v m' nx h' tk' ⟨iA, iO⟩ hv ⟨wl', rs', rfl, hI', hlen', ho', ⟨⟨tc, ec⟩, er, ⟨tp, ep⟩, ⟨ts, es⟩⟩⟩ hn F' N'
    obtain ⟨d, td, rfl⟩ := ints_get hI2 hv
    have hn1 : rA ≠ iA := hn _ (.head _)
    have F5 := fr_chain5 F' (x1 := "draw") (x2 := "check") (x3 := "row") (x4 := "place") (x5 := "size") (if_pos rfl) ((if_neg (by decide)).trans ec) ((if_neg (by decide)).trans er) ((if_neg (by decide)).trans ep) ((if_neg (by decide)).trans es)
    refine law_turn (s := ⟨h', gs, dr, tk', os⟩) G K X N' n1 (Ne.symm hn1) hI' ho' hlen' z0 z1 p0 (by omega) F5 fun f hf h2 k2 m2 wl2 rs2 F2 N2 hI2' hl2 ho2 hLoc => ?_
    have fin : ∃ h'' tk'' m'' nx'', (⟨h2, gs, dr, k2, os⟩ : Shared) = ⟨h'', gs, dr, tk'', os⟩ ∧ Fr h₀ L h'' m'' ∧ News h₀ L h'' (nx'' ++ [(iA, iO)]) ∧ (∀ p ∈ nx'', p.1 ≠ iA) ∧ ∃ wl' rs', nx'' = [(rA, W.listOf wl'.toArray k), (eA, W.listOf ws2.toArray 0)] ∧ IntsAre wl' rs' ∧ (rs'.length : Int) = SZ ∧ (∀ x ∈ rs', 0 ≤ x ∧ x < 256) ∧ Loc m'' rA PL SZ (flet rs' PL) := by
      refine ⟨h2, k2, m2, [(rA, W.listOf wl2.toArray k), (eA, W.listOf ws2.toArray 0)], rfl, F2, N2, ?_, wl2, rs2, rfl, hI2', by omega, ho2, hLoc⟩
      intro p hp
      rcases List.mem_cons.mp hp with rfl | hp
      · exact hn1
      · exact hn p (.tail _ hp)
    rcases hf with rfl | rfl
    · exact fin
    · exact fin
  · rintro m' nx h' tk' ⟨wl', rs', rfl, hI', hlen', ho', hLoc⟩ F' N'
    exact h4 h' tk' m' wl' rs' F' (fun p hp => N' p (by rw [List.mem_singleton.mp hp]; exact .head _)) hI' hlen' ho' hLoc
end
end Fl
end

section
open PySem.Calls
namespace Fl
section
variable {prog : Program} {w : World} {s : Shared} {h₀ : Heap} {L a : Addr} {cd : Value} {m mg mb : Str → Option Value} {news : List (Addr × Obj)}

/-- an argument is at hand -/
def Got (s : Shared) (h₀ : Heap) (L : Addr) (m : Str → Option Value) (news : List (Addr × Obj)) (rs : List Int) (v : Value) (s₁ : Shared) : Prop :=
  ∃ h1 k1 nx, s₁ = { s with heap := h1, toks := k1 } ∧ Fr h₀ L h1 m ∧ News h₀ L h1 (nx ++ news) ∧ Src h1 v rs

theorem fl_gen {e : PySem.Expr} {p1 p3 p4 : Pos} {rs : List Int} {PL : Int} {tp : Tok} {Q : Value → Shared → Prop}
    (G : Gl mg mb h₀) (K : FlOk mg h₀) (F : Fr h₀ L s.heap m) (hp : m "place" = some (.int PL tp))
    (he : wpC (model prog w) (callerA.deeper (envOf "law" lawScope L a cd)) (eval e (envOf "law" lawScope L a cd)) (Got s h₀ L m news rs) s)
    (ho : ∀ x ∈ rs, 0 ≤ x ∧ x < 256) (hlen : rs.length ≤ 64) (h0 : 0 ≤ PL) (h1 : PL + 2 ≤ rs.length)
    (hQ : ∀ h' t' k', Fr h₀ L h' m → News h₀ L h' news → Q (.int (flet rs PL) t') { s with heap := h', toks := k' })
    (hpl : starEach (e :: [PySem.Expr.Name "place" p3]) (envOf "law" lawScope L a cd) = (false, eval e (envOf "law" lawScope L a cd)) :: starEach [PySem.Expr.Name "place" p3] (envOf "law" lawScope L a cd) := by rfl)
    (hca : eval (.Call (.Name "fletcher_checksum" p1) [e, .Name "place" p3] [] p4) (envOf "law" lawScope L a cd) = (do callWith p4 (← eval (.Name "fletcher_checksum" p1) (envOf "law" lawScope L a cd)) [] (backTo p4 (starEach [e, .Name "place" p3] (envOf "law" lawScope L a cd))) []) := by rfl) :
    wpC (model prog w) (callerA.deeper (envOf "law" lawScope L a cd)) (eval (.Call (.Name "fletcher_checksum" p1) [e, .Name "place" p3] [] p4) (envOf "law" lawScope L a cd)) Q s := by
  obtain ⟨f, o, pm, code, doc, e1, e2, e3, e4⟩ := K.at'
  refine Call_ (ld_global_at F G.g e1 ?_ (by rfl) (by rfl)) hca
  refine callWith_ (.inl rfl) (args_cons_ (mono he fun v s₁ hv => ?_) hpl) hpl
  obtain ⟨h1', k1, nx, rfl, F1, N1, S⟩ := hv
  refine args_cons_ (any (ld F1 hp (args_nil_ ⟨keeper_func (F1.keep _ _ e2) e3, ?_⟩)))
  refine fl_call rfl rfl (show callerA.depth + 1 < recursionLimit by decide) (G.base F1) (F1.keep _ _ e2) e3 (e4.keeps F1.keep) S ho hlen h0 h1 fun h' t' k' hk => ?_
  exact hQ h' t' k' (F1.after hk) fun p hp => ⟨hk _ _ (N1 p (List.mem_append_right _ hp)).1, (N1 p (List.mem_append_right _ hp)).2⟩

local macro_rules | `(tactic| walk_at "eval Name") => `(tactic| (with_unfolding_all refine guard_global (by rfl) ?_; k_dflt (refine' nm_b ?k1 ?k2 ?k3 ?k4 ?k5 ?_; (case k1 => k_asm); (case k2 => k_asm); (case k3 => decide); (case k4 => boot_by_name); (case k5 => decide); k_whole)))

set_option maxHeartbeats 4000000 in
theorem law_b4 {h' : Heap} {k' : Nat} {rA : Addr} {wl : List Value} {rs : List Int} {k : Nat} {SZ PL : Int} {Q : Flow → Shared → Prop}
    (G : Gl mg mb h₀) (K : FlOk mg h₀) (X : Frag.In [] h₀) (F : Fr h₀ L h' m) (N' : News h₀ L h' [(rA, W.listOf wl.toArray k)]) (hI : IntsAre wl rs) (ho : ∀ x ∈ rs, 0 ≤ x ∧ x < 256) (hlen : (rs.length : Int) = SZ) (z1 : SZ ≤ 25) (p0 : 0 ≤ PL) (p1 : PL + 2 ≤ rs.length)
    (hL : Loc m rA PL SZ (flet rs PL))
    (hQ : ∀ h' k', (∀ b o, h₀.get? b = some o → h'.get? b = some o) → Q (.ret (.bool true)) { s with heap := h', toks := k' }) :
    wpC (model prog w) (callerA.deeper (envOf "law" lawScope L a cd)) (execs lawB4 (envOf "law" lawScope L a cd)) Q { s with heap := h', toks := k' } := by
  obtain ⟨hp, gs, dr, tk, os⟩ := s
  obtain ⟨⟨tc, ec⟩, er, ⟨tp, ep⟩, _⟩ := hL
  have F' := fr_chain4 F ec er ep ep
  clear F ec er ep
  unfold lawB4 lawBody PySem.Challenge.pw_bs0025_02
  dsimp only [List.drop]
  have hwl := hI.length
  refine execs_cons_ (Return_ (And_ (Compare_ (fl_gen (news := [(rA, W.listOf wl.toArray k)]) G K F' rfl ?_ ho (by omega) p0 p1 fun h1 t1 k1 F1 N1 => ?_))))
  · refine any ?_
    unfold lawScope PySem.Challenge.pw_bs0025_02
    dsimp only
    k_steps
    rename Fr _ _ _ _ => F1
    rename News _ _ _ _ => N1
    exact ⟨_, _, [], rfl, F1, N1, src_bytes (by omega)⟩
  · refine any (ld F1 (by exact rfl) ?_)
    clear F' N'
    k_steps
    · refine Compare_ (fl_gen (s := ⟨h1, gs, dr, _, os⟩) (news := [(rA, W.listOf wl.toArray k)]) G K F1 rfl ?_ ho (by omega) p0 p1 fun h2 t2 k2 F2 N2 => ?_)
      · refine Call_ ?_
        unfold lawScope PySem.Challenge.pw_bs0025_02
        dsimp only
        k_steps
        rename Fr _ _ _ _ => F3
        rename News _ _ _ _ => N3
        refine callWith_ (.inr rfl) (args_cons_ (any (ld F3 (by exact rfl) (args_nil_ ⟨keeper_type, ?_⟩))))
        refine bytearray_list rfl ⟨_, (N3 _ (.head _)).1, rfl, _, rfl⟩ hI ho (by rw [sizeLine_eq]; omega) fun h5 k5 e5 => ?_
        have f5 := fresh_none F3
        have n5 := Nat.ne_of_gt F3.ns.lt
        refine ⟨h5, _, [(h1.objs.size, baObj (byteArr rs))], rfl, F3.after k5, ?_, src_ba e5 (by omega)⟩
        intro p hp
        rcases List.mem_cons.mp hp with rfl | hp
        · exact ⟨e5, n5, f5⟩
        · exact ⟨k5 _ _ (N3 p hp).1, (N3 p hp).2⟩
      · refine any (ld F2 (by exact rfl) ?_)
        clear F1 N1
        k_steps
        have e : (flet rs PL == flet rs PL) = true := beq_self_eq_true _
        rw [e]
        exact hQ _ _ F2.keep
    · rename flet rs PL ≠ flet rs PL => hz
      exact (hz rfl).elim
end
end Fl
end

section
open PySem.Calls
namespace Fl

def lawB1 : List Stmt := lawBody.drop 1

theorem fr_chain2 {h₀ h : Heap} {L : Addr} {m : Str → Option Value} {x1 x2 : Str} {v1 v2 : Value} (F : Fr h₀ L h m) (h1 : m x1 = some v1) (h2 : m x2 = some v2) : Fr h₀ L h (fun y => if y = x1 then some v1 else if y = x2 then some v2 else m y) := by
  have e : m = fun y => if y = x1 then some v1 else if y = x2 then some v2 else m y := by
    funext y
    by_cases q : y = x1
    · rw [if_pos q, q, h1]
    rw [if_neg q]
    by_cases q : y = x2
    · rw [if_pos q, q, h2]
    rw [if_neg q]
  rw [← e]; exact F

def cellsE : PySem.Expr := match lawBody.drop 1 with
  | .Assign _ e _ :: _ => e
  | _ => .Constant .none 0 ⟨0, 0, 0, 0⟩
/-- the cells are made -/
def CellsEnd (s : Shared) (h₀ : Heap) (L : Addr) (m : Str → Option Value) (v : Value) (s₁ : Shared) : Prop :=
  ∃ dC cs ws h' k', v = .ref dC ∧ s₁ = { s with heap := h', toks := k' } ∧ Fr h₀ L h' m ∧ News h₀ L h' [(dC, W.listOf ws.toArray 0)] ∧ IntsAre ws cs ∧ cs.length = 18 ∧ ∀ c ∈ cs, 0 ≤ c

local macro_rules | `(tactic| walk_at "eval Name") => `(tactic| (with_unfolding_all refine guard_global (by rfl) ?_; k_dflt (refine' nm_b ?k1 ?k2 ?k3 ?k4 ?k5 ?_; (case k1 => k_asm); (case k2 => k_asm); (case k3 => decide); (case k4 => boot_by_name); (case k5 => decide); k_whole)))
local macro_rules | `(tactic| walk_at "a key of no step") => `(tactic| fail)

section
variable {prog : Program} {w : World} {A : Around} {E : Value → Shared → Prop} {s : Shared} {h₀ : Heap} {L a : Addr} {cd : Value} {m mg mb : Str → Option Value} {news : List (Addr × Obj)}

set_option maxHeartbeats 4000000 in
theorem cells_ev {l rA : Addr} {ns rs : List Int} {vs wl : List Value} {n0 : Nat} {u : Str → Option Value}
    (G : Gl mg mb h₀) (X : Frag.In [] h₀) (N' : News h₀ L s.heap [(rA, W.listOf wl.toArray n0)]) (hl : h₀.IsList l vs.toArray) (hi : IntsAre vs ns) (hlen : ns.length ≤ 63) (hI : IntsAre wl rs) (hrl : rs.length = 18) (hr0 : ∀ c ∈ rs, 0 ≤ c)
    (F' : Fr h₀ L s.heap (fun y => if y = Str.ofString "rest" then some (.ref rA) else if y = Str.ofString "script" then some (.ref l) else u y)) :
    wpAny (model prog w) (callerA.deeper (envOf "law" lawScope L a cd)) (eval cellsE (envOf "law" lawScope L a cd)) (CellsEnd s h₀ L (fun y => if y = Str.ofString "rest" then some (.ref rA) else if y = Str.ofString "script" then some (.ref l) else u y)) (fun _ _ => False) s := by
  obtain ⟨hp, gs, dr, tk, os⟩ := s
  unfold cellsE lawBody PySem.Challenge.pw_bs0025_02
  dsimp only [List.drop]
  unfold lawScope PySem.Challenge.pw_bs0025_02
  dsimp only [List.drop]
  dsimp only at *
  have hwl := hI.length
  iterate 30 (first | walk1 | (dsimp only; walk1))
  rename Fr _ _ _ _ => F5
  rename News _ _ _ _ => N5
  refine kmk_slice_ints (s := ⟨_, _, _, _, _⟩) F5 N5 (vs := wl) (ns := rs) ⟨_, (N5 (rA, W.listOf wl.toArray n0) (by simp)).1, rfl, _, rfl⟩ (IsPart.int _ _) IsPart.none hI (kmk_from hI (by omega)) (List.length_drop ..) (fun D ws h' F6 N6 l1 I6 q1 q2 => ?_) (by with_unfolding_all rfl) (by intro _; with_unfolding_all rfl) (kmk_sz hI (by rw [hrl, sizeLine_eq]; omega))
  k_steps
  rename Fr _ _ _ _ => F2
  rename News _ _ _ _ => N2
  rename IntsAre _ (_ ++ _) => I2
  refine ⟨_, _, _, _, _, rfl, rfl, F2, (fun p hp => N2 p (by rw [List.mem_singleton.mp hp]; exact .head _)), I2, ?_, ?_⟩
  · rw [List.length_append, List.length_map, List.length_drop, Int.toNat_natCast, List.length_take]
    omega
  · intro c hc
    rcases List.mem_append.mp hc with hc | hc
    · obtain ⟨x, _, rfl⟩ := List.mem_map.mp hc
      exact Int.fmod_nonneg_of_pos _ (by decide)
    · exact hr0 c (List.mem_of_mem_drop hc)

theorem swaps_list {es : List PySem.Expr} {p : Pos} {t : Option PySem.Expr} {n : Nat} {env : Env} : swapsWith (.List es p) t n env = pure false := rfl
theorem assignL {M : Model} {x : Str} {pos' pos p : Pos} {es : List PySem.Expr} {env : Env} {Q : Flow → Shared → Prop}
    (h : wpAny M A (spliced (backTo p (starEach es env))) (fun vs s₁ => wpAny M A (newList vs) (fun v s₁ => wpAny M A (storeName env x v) (fun _ => Q .next) E s₁) E s₁) E s) :
    wpAny M A (exec (.Assign [.Name x pos'] (.List es p) pos) env) Q E s := wpAny_Assign_Name (List_ h) swaps_list

def restEs : List PySem.Expr := match lawBody with
  | .Assign _ (.List es _) _ :: _ => es
  | _ => []
def constOf : PySem.Expr → Int × Nat × Pos
  | .Constant (.int i) k p => (i, k, p)
  | _ => (0, 0, ⟨0, 0, 0, 0⟩)
def ofConst (k : Int × Nat × Pos) : PySem.Expr := .Constant (.int k.1) k.2.1 k.2.2

theorem consts_ev {M : Model} {env : Env} {p : Pos} : ∀ (ks : List (Int × Nat × Pos)) {s : Shared} {Q : List Value → Shared → Prop}
    (_ : ∀ vs tk, IntsAre vs (ks.map (·.1)) → Q vs { s with toks := tk }), wpAny M A (spliced (backTo p (starEach (ks.map ofConst) env))) Q E s
  | [], s, Q, h => PyProof.Rows.args_nil (h [] s.toks .nil)
  | (i, k, q) :: ks, s, Q, h => by
    refine PyProof.Rows.args_cons (e := .Constant (.int i) k q) (wpAny_Constant_int (consts_ev ks fun vs tk I => ?_)) rfl
    exact h _ tk (.cons i s.toks I)

def restNs : List Int := [9, 2, 51, 102, 255, 0, 15, 30, 7, 153, 204, 60, 26, 431, 77, 1203, 9, 5020]
theorem restEs_eq : restEs = (restEs.map constOf).map ofConst := by rfl
theorem restEs_ints : (restEs.map constOf).map (·.1) = restNs := by rfl

theorem rest_ev {M : Model} {env : Env} {p : Pos} {es : List PySem.Expr} (he : es = restEs) {Q : List Value → Shared → Prop}
    (h : ∀ vs tk, IntsAre vs restNs → Q vs { s with toks := tk }) : wpAny M A (spliced (backTo p (starEach es env))) Q E s := by
  obtain ⟨ks, e1, e2⟩ : ∃ ks : List (Int × Nat × Pos), es = ks.map ofConst ∧ ks.map (·.1) = restNs := ⟨_, he.trans restEs_eq, restEs_ints⟩
  subst e1
  exact consts_ev ks fun vs tk I => h vs tk (by rw [e2] at I; exact I)

theorem law_s0' {l : Addr} {p1 p2 p3 : Pos} {es : List PySem.Expr} {rest : List Stmt} {Q : Flow → Shared → Prop} (he : es = restEs) (F : Fr h₀ L s.heap m) (N : News h₀ L s.heap news) (eS : m "script" = some (.ref l))
    (hQ : ∀ h' k' rA wl n0 m', Fr h₀ L h' m' → News h₀ L h' ((rA, W.listOf wl.toArray n0) :: news) → IntsAre wl restNs → m' "rest" = some (.ref rA) → m' "script" = some (.ref l) →
      wpC (model prog w) (callerA.deeper (envOf "law" lawScope L a cd)) (execs rest (envOf "law" lawScope L a cd)) Q { s with heap := h', toks := k' }) :
    wpC (model prog w) (callerA.deeper (envOf "law" lawScope L a cd)) (execs (.Assign [.Name (Str.ofString "rest") p1] (.List es p2) p3 :: rest) (envOf "law" lawScope L a cd)) Q s := by
  refine execs_any (assignL (rest_ev he fun vs tk I => ?_))
  have hv := I.length
  refine newList_N (s := { s with toks := tk }) F N (fun h1 F1 N1 => ?_) (by rw [hv, sizeLine_eq]; show (18 : Nat) ≤ _; omega)
  refine stN (s := { s with heap := h1, toks := tk }) F1 N1 fun h2 F2 N2 => ?_
  exact hQ h2 _ _ _ _ _ F2 N2 I (if_pos rfl) ((if_neg (by decide)).trans eS)

theorem law_body_eq : ∃ p1 p2 p3, lawBody = .Assign [.Name (Str.ofString "rest") p1] (.List restEs p2) p3 :: lawB1 := ⟨_, _, _, rfl⟩

theorem law_s0 {l : Addr} {Q : Flow → Shared → Prop} (F : Fr h₀ L s.heap m) (N : News h₀ L s.heap news) (eS : m "script" = some (.ref l))
    (hQ : ∀ h' k' rA wl n0 m', Fr h₀ L h' m' → News h₀ L h' ((rA, W.listOf wl.toArray n0) :: news) → IntsAre wl restNs → m' "rest" = some (.ref rA) → m' "script" = some (.ref l) →
      wpC (model prog w) (callerA.deeper (envOf "law" lawScope L a cd)) (execs lawB1 (envOf "law" lawScope L a cd)) Q { s with heap := h', toks := k' }) :
    wpC (model prog w) (callerA.deeper (envOf "law" lawScope L a cd)) (execs lawBody (envOf "law" lawScope L a cd)) Q s := by
  obtain ⟨p1, p2, p3, e⟩ := law_body_eq
  obtain ⟨es, he⟩ : ∃ es, es = restEs := ⟨_, rfl⟩
  rw [← he] at e
  rw [e]
  exact law_s0' he F N eS hQ

theorem law_s1 {l rA : Addr} {ns rs : List Int} {vs wl : List Value} {n0 : Nat} {Q : Flow → Shared → Prop}
    (G : Gl mg mb h₀) (X : Frag.In [] h₀) (F : Fr h₀ L s.heap m) (N : News h₀ L s.heap [(rA, W.listOf wl.toArray n0)]) (hl : h₀.IsList l vs.toArray) (hi : IntsAre vs ns) (hlen : ns.length ≤ 63) (hI : IntsAre wl rs) (hrl : rs.length = 18) (hr0 : ∀ c ∈ rs, 0 ≤ c)
    (eR : m "rest" = some (.ref rA)) (eS : m "script" = some (.ref l))
    (h2 : ∀ (h' : Heap) (k' : Nat) (dC : Addr) (cs : List Int) (ws : List Value) (u : Str → Option Value), Fr h₀ L h' (fun y => if y = Str.ofString "cells" then some (.ref dC) else u y) → News h₀ L h' [(dC, W.listOf ws.toArray 0)] → IntsAre ws cs → cs.length = 18 → (∀ c ∈ cs, 0 ≤ c) →
      wpC (model prog w) (callerA.deeper (envOf "law" lawScope L a cd)) (execs lawBody2 (envOf "law" lawScope L a cd)) Q { s with heap := h', toks := k' }) :
    wpC (model prog w) (callerA.deeper (envOf "law" lawScope L a cd)) (execs lawB1 (envOf "law" lawScope L a cd)) Q s := by
  show wpC _ _ (execs (.Assign [_] cellsE _ :: lawBody2) _) _ _
  have F1 := fr_chain2 F eR eS
  refine execs_any (wpAny_Assign_Name (wpAny_mono (cells_ev G X N hl hi hlen hI hrl hr0 F1) (fun v s₁ hv => ?_) fun _ _ e => e))
  obtain ⟨dC, ks, ws, h3, k3, rfl, rfl, F2, N2, I2, l2, o2⟩ := hv
  exact stN (s := { s with heap := h3, toks := k3 }) F2 N2 fun h4 F4 N4 => h2 h4 _ dC ks ws _ F4 N4 I2 l2 o2

theorem law_b1 {l : Addr} {ns : List Int} {vs : List Value} {Q : Flow → Shared → Prop} 
    (G : Gl mg mb h₀) (X : Frag.In [] h₀) (N' : News h₀ L s.heap []) (hl : h₀.IsList l vs.toArray) (hi : IntsAre vs ns) (hlen : ns.length ≤ 63)
    (h2 : ∀ (h' : Heap) (k' : Nat) (dC : Addr) (cs : List Int) (ws : List Value) (u : Str → Option Value), Fr h₀ L h' (fun y => if y = Str.ofString "cells" then some (.ref dC) else u y) → News h₀ L h' [(dC, W.listOf ws.toArray 0)] → IntsAre ws cs → cs.length = 18 → (∀ c ∈ cs, 0 ≤ c) →
      wpC (model prog w) (callerA.deeper (envOf "law" lawScope L a cd)) (execs lawBody2 (envOf "law" lawScope L a cd)) Q { s with heap := h', toks := k' })
    (F' : Fr h₀ L s.heap (fun x => ([("script", .ref l)] : List (Str × Value)).reverse.lookup x)) :
    wpC (model prog w) (callerA.deeper (envOf "law" lawScope L a cd)) (execs lawBody (envOf "law" lawScope L a cd)) Q s := by
  refine @law_s0 prog w s h₀ L a cd _ [] l Q F' N' rfl ?_
  intro h1 k1 rA wl n0 m1 F1 N1 I1 eR eS
  exact law_s1 (s := { s with heap := h1, toks := k1 }) G X F1 N1 hl hi hlen I1 rfl (by decide) eR eS h2
end
end Fl
end

section
open PySem.Calls
namespace Fl
section
variable {prog : Program} {w : World} {s : Shared} {h₀ : Heap} {L a : Addr} {cd : Value} {m mg mb : Str → Option Value} {news : List (Addr × Obj)}

theorem law_rest {dC : Addr} {cs : List Int} {ws : List Value} {u : Str → Option Value} {h1 : Heap} {k1 : Nat} {Q : Flow → Shared → Prop}
    (G : Gl mg mb h₀) (K : FlOk mg h₀) (X : Frag.In [] h₀) (F1 : Fr h₀ L h1 (fun y => if y = Str.ofString "cells" then some (.ref dC) else u y)) (N1 : News h₀ L h1 [(dC, W.listOf ws.toArray 0)]) (I1 : IntsAre ws cs) (c1 : cs.length = 18) (c2 : ∀ c ∈ cs, 0 ≤ c)
    (hQ : ∀ h' k', (∀ b o, h₀.get? b = some o → h'.get? b = some o) → Q (.ret (.bool true)) { s with heap := h', toks := k' }) :
    wpC (model prog w) (callerA.deeper (envOf "law" lawScope L a cd)) (execs lawBody2 (envOf "law" lawScope L a cd)) Q { s with heap := h1, toks := k1 } := by
  refine @law_b2 prog w { s with heap := h1, toks := k1 } h₀ L a cd mg mb dC cs ws u Q ?_ G X N1 I1 c1 c2 F1
  intro h2 k2 rA wl rs k SZ PL u' R
  refine @law_b3 prog w s h₀ L a cd mg mb h2 k2 rA dC cs ws wl rs k SZ PL u' Q G K X R I1 c1 ?_
  intro h3 k3 m3 wl3 rs3 F3 N3 I3 l3 o3 L3
  refine @law_b4 prog w s h₀ L a cd m3 mg mb h3 k3 rA wl3 rs3 k SZ PL Q G K X F3 N3 I3 o3 l3 R.z1 R.p0 ?_ L3 hQ
  have := R.p1
  omega

theorem law_body {l : Addr} {ns : List Int} {vs : List Value} {Q : Flow → Shared → Prop} 
    (G : Gl mg mb h₀) (K : FlOk mg h₀) (X : Frag.In [] h₀) (N' : News h₀ L s.heap []) (hl : h₀.IsList l vs.toArray) (hi : IntsAre vs ns) (hlen : ns.length ≤ 63)
    (F' : Fr h₀ L s.heap (fun x => ([("script", .ref l)] : List (Str × Value)).reverse.lookup x))
    (hQ : ∀ h' k', (∀ b o, h₀.get? b = some o → h'.get? b = some o) → Q (.ret (.bool true)) { s with heap := h', toks := k' }) :
    wpC (model prog w) (callerA.deeper (envOf "law" lawScope L a cd)) (execs lawBody (envOf "law" lawScope L a cd)) Q s := by
  refine @law_b1 prog w s h₀ L a cd mg mb l ns vs Q G X N' hl hi hlen ?_ F'
  intro h1 k1 dC cs ws u F1 N1 I1 c1 c2
  exact @law_rest prog w s h₀ L a cd mg mb dC cs ws u h1 k1 Q G K X F1 N1 I1 c1 c2 hQ
end
end Fl
end

section
open PySem.Calls
namespace Fl

def lawParams : Arguments := match PySem.Challenge.pw_bs0025_02.main.body with
  | _ :: _ :: _ :: _ :: .FunctionDef _ a _ _ _ _ _ _ _ _ :: _ => a
  | _ => ⟨[], [], none, [], [], none, []⟩

theorem law_call {prog : Program} {w : World} {s : Shared} {mg mb : Str → Option Value} {f l : Addr} {o : Obj} {pm code doc : Value} {ns : List Int} {vs : List Value} {Q : Value → Shared → Prop}
    (G : Gl mg mb s.heap) (K : FlOk mg s.heap) (ho : s.heap.get? f = some o) (hdat : o.data = .func (docDef "law" lawParams lawBody lawScope pm code doc)) (hcd : s.heap.CodeRec code "law")
    (hl : s.heap.IsList l vs.toArray) (hi : IntsAre vs ns) (hlen : ns.length ≤ 63)
    (hQ : ∀ h' k, (∀ b o, s.heap.get? b = some o → h'.get? b = some o) → Q (.bool true) { s with heap := h', toks := k }) :
    wpC (model prog w) callerA (call (.ref f) [.ref l]) Q s := by
  refine call_ (code_call (A := callerA) (binds := [("script", .ref l)]) (by decide) ho hdat G.nolimit hcd rfl (by intro x hx; simp at hx; rcases hx with rfl; rfl) (fun h₁ F => ?_) rfl rfl rfl (by decide))
  exact @law_body prog w { s with heap := h₁, toks := s.toks + 1 } s.heap s.heap.objs.size f code mg mb l ns vs _ G K (fun _ _ e => by cases e) (fun _ h => nomatch h) hl hi hlen F (fun h' k hk => ⟨_, rfl, hQ h' k hk⟩)
end Fl
end

section
open PySem.Calls
namespace FlHead
set_option maxHeartbeats 8000000 in
theorem hold : PySem.Challenge.rw_bs0025_02.Holds := by
  w_on
  o_law
  k_head
  (case hw => w_witness2)
  intro w s₀ s₁ mg mb G Y a o pm cd doc dV kV ho hd hcd hD hmg hgens args vals as hpre hlay hrd hwl hlo
  wrow_args hpre hlay hrd hwl hlo
  rename Heap.IsList _ _ _ => hl
  rename IntsAre _ _ => hI
  rename ¬ (_ < _) => hc
  have e1 : dV = .none := hD.pos.elim (·.2) (fun y => absurd rfl y.1)
  have e2 : kV = .none := hD.kw.elim (·.2) (fun y => absurd rfl y.1)
  subst e1 e2
  have T := G.T
  have GL : Fl.Gl mg mb s₁.heap := by
    refine ⟨T.g, T.b, T.nolimit, T.builtins, ?_, ?_⟩
    · intro x hx
      have hx' := List.contains_iff_mem.mp hx
      simp only [List.mem_cons, List.not_mem_nil, or_false] at hx'
      rcases hx' with rfl | rfl | rfl | rfl | rfl | rfl | rfl <;> exact T.free _ (by decide +kernel) (by decide +kernel) (by decide +kernel) (by decide +kernel) (by decide +kernel)
    · obtain ⟨v, hv, hr⟩ := T.const "_MODX" (.int 4102) (by rfl)
      cases hr s₁.heap with
      | int _ t => exact ⟨t, hv⟩
  have KF : Fl.FlOk mg s₁.heap := by
    obtain ⟨f, o', pm', cd', doc', dV', kV', h1, h2, h3, h4, h5⟩ := G.fn (name := "fletcher_checksum") (d := ⟨"fletcher_checksum", Fl.flParams, Fl.flBody, Fl.flScope, ⟨3, 0, 26, 27⟩⟩) (kw := []) (by rfl)
    have e1 : dV' = .none := h5.pos.elim (·.2) (fun y => absurd rfl y.1)
    have e2 : kV' = .none := h5.kw.elim (·.2) (fun y => absurd rfl y.1)
    subst e1 e2
    exact ⟨f, o', pm', cd', doc', h1, h2, h3, h4⟩
  refine Fl.mono (Fl.law_call (Q := fun v s' => v = .bool true ∧ ∃ h' k, (∀ b o, s₁.heap.get? b = some o → h'.get? b = some o) ∧ s' = { s₁ with heap := h', toks := k }) GL KF ho hd hcd hl hI (by omega) fun h' k hk => ⟨rfl, h', k, hk, rfl⟩) fun v s' hv => ?_
  obtain ⟨rfl, h', k, hk, rfl⟩ := hv
  refine GoodW.toG ⟨.inl ⟨_, .bool true, [], rfl, raisesW_false ?_, .bool true, ?_, unshared_nil⟩, hk, rfl, hgens⟩
  · wrow_none_raised
  · wrow_post
end FlHead
end

set_option maxRecDepth 100000 in
set_option maxHeartbeats 8000000 in
theorem PySem.Challenge.cw_bs0025_02_holds : PySem.Challenge.rw_bs0025_02.Holds := by
  exact FlHead.hold
