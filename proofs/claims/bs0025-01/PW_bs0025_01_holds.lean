import PyProof.Rows.All
import Wide.All
import OpenK.AllK
import Wide.FinOn
import PySem.Challenge.RW_bs0025_01
open PySem PySem.W PyProof.Rows
set_option Elab.async false
set_option maxRecDepth 100000

section
namespace Fl

def noDec : Code → Bool
  | .builtin id _ => !Builtin.Bytes.decodersThatHold.contains id
  | _ => true

def BelowOk (Γ : Ctx) : Prop := ∀ x ∈ Γ.below, noDec x.1 = true
def Clean (Γ : Ctx) : Prop := noDec Γ.code = true ∧ BelowOk Γ

def wpC {α : Type} (M : Model) (A : Around) (t : Sem α) (Q : α → Shared → Prop) (s : Shared) : Prop :=
  ∀ Γ p, Γ.In A → Clean Γ → Sem.wp M Γ t (fun a _ s' => Q a s') (fun _ _ _ => False) p s

def codeC (M : Model) (A : Around) (c : Code) (R : Flow → Shared → Prop) (s : Shared) : Prop :=
  ∀ Γ p, Γ.code = c → Γ.Below A → BelowOk Γ → wpCode M Γ (fun r s' => ∃ f, r = .ok f ∧ R f s') p s

theorem Clean.enter {Γ : Ctx} (h : Clean Γ) (c : Code) (hd : Option Value) (p : Pos) : BelowOk (Γ.enter c hd p) := fun x hx => by
  rcases List.mem_cons.mp hx with rfl | hx
  · exact h.1
  · exact h.2 x hx

section
variable {α β : Type} {M : Model} {A : Around} {s : Shared}

theorem any {t : Sem α} {Q : α → Shared → Prop} (h : wpAny M A t Q (fun _ _ => False) s) : wpC M A t Q s := fun Γ p hΓ _ => h Γ p hΓ

theorem mono {t : Sem α} {Q Q' : α → Shared → Prop} (h : wpC M A t Q s) (hQ : ∀ a s, Q a s → Q' a s) : wpC M A t Q' s :=
  fun Γ p hΓ hc => Sem.wp_mono M Γ t (fun a _ s => hQ a s) (fun _ _ _ x => x) p s (h Γ p hΓ hc)

theorem pure_ {a : α} {Q : α → Shared → Prop} (h : Q a s) : wpC M A (pure a) Q s := fun _ _ _ _ => h

theorem bind_ {m : Sem α} {f : α → Sem β} {Q : β → Shared → Prop} (h : wpC M A m (fun a s' => wpC M A (f a) Q s') s) : wpC M A (m >>= f) Q s := fun Γ p hΓ hc => by
  rw [Sem.wp_bind']
  exact Sem.wp_mono M Γ m (fun a p' s' h' => h' Γ p' hΓ hc) (fun _ _ _ h' => h') p s (h Γ p hΓ hc)

theorem bindAny {m : Sem α} {f : α → Sem β} {Q : β → Shared → Prop} (h : wpAny M A m (fun a s' => wpC M A (f a) Q s') (fun _ _ => False) s) : wpC M A (m >>= f) Q s := bind_ (any h)

theorem holding_ {vs : List Value} {m : Sem α} {Q : α → Shared → Prop} (h : wpC M A m Q s) : wpC M A (holding vs m) Q s :=
  fun Γ p hΓ hc => by rw [Sem.wp_holding]; exact h Γ p hΓ hc

theorem keep_ {vs : List Value} {m : Sem α} {Q : α → Shared → Prop} (h : wpC M A m Q s) : wpC M A (m.keep vs) Q s :=
  fun Γ p hΓ hc => by rw [Sem.wp_keep]; exact h Γ p hΓ hc

theorem operate_ {vs : List Value} {m : Sem Value} {Q : Value → Shared → Prop} (h : wpC M A m Q s) : wpC M A (operate vs m) Q s :=
  fun Γ p hΓ hc => by rw [Sem.wp_operate]; exact h Γ p hΓ hc

theorem onRaise_ {m : Sem α} {k : Value → Sem Unit} {Q : α → Shared → Prop} (h : wpC M A m Q s) : wpC M A (m.onRaise k) Q s := fun Γ p hΓ hc => by
  rw [Sem.wp_onRaise]
  exact Sem.wp_mono M Γ m (fun _ _ _ h' => h') (fun _ _ _ h' => h'.elim) p s (h Γ p hΓ hc)

theorem of_eq {t : Sem α} {a : α} {Q : α → Shared → Prop} (e : t = pure a) (h : Q a s) : wpC M A t Q s := by rw [e]; exact pure_ h

theorem run_ {c : Code} {Q : Flow → Shared → Prop} (hc : codeC M A c Q s) : wpC M A (run c) Q s := fun Γ p hΓ hcl => by
  rw [Sem.wp_run]
  refine wpCode_mono (fun r s' hr => ?_) (hc _ p rfl ?_ (hcl.enter c none p))
  · obtain ⟨f, rfl, h⟩ := hr; exact h
  · have := hΓ.enter c none p (by intro x; cases x)
    exact this

theorem runValue_ {c : Code} {Q : Value → Shared → Prop} (hc : codeC M A c (fun f s' => ∃ v, f = .ret v ∧ Q v s') s) : wpC M A (runValue c) Q s := by
  refine bind_ (mono (run_ hc) fun f s' hf => ?_)
  obtain ⟨v, rfl, h⟩ := hf
  exact pure_ h

theorem call_ {f : Value} {pos : List Value} {kw : List (Str × Value)} {Q : Value → Shared → Prop}
    (hc : codeC M A (.call f ⟨pos, kw⟩) (fun f s' => ∃ v, f = .ret v ∧ Q v s') s) : wpC M A (call f pos kw) Q s := runValue_ hc

theorem runOwn_ {c : Code} {env : Env} {Q : Flow → Shared → Prop} (hc : codeC M A c Q s) : wpC M A (runOwn c env) Q s := by
  unfold runOwn; exact onRaise_ (run_ hc)

theorem codeMono {c : Code} {R R' : Flow → Shared → Prop} (h : codeC M A c R s) (hR : ∀ f s, R f s → R' f s) : codeC M A c R' s :=
  fun Γ p hc hΓ hb => wpCode_mono (fun r s' ⟨f, e, x⟩ => ⟨f, e, hR f s' x⟩) (h Γ p hc hΓ hb)

theorem codeAnyC {c : Code} {R : Flow → Shared → Prop} (h : codeAny M A c (fun r s' => ∃ f, r = .ok f ∧ R f s') s) : codeC M A c R s :=
  fun Γ p hc hΓ _ => h Γ p hc hΓ

theorem code_tree {c : Code} {R : Flow → Shared → Prop} (hn : noDec c = true)
    (h : wpC M (A.under c) (M.den c) (fun fin s' => match fin with | .done f => R f s' | .again c' => c'.quiet = true ∧ codeC M A c' R s') s) : codeC M A c R s := fun Γ p hc hΓ hb => by
  rw [wpCode_iff_wp, hc]
  refine Sem.wp_mono M Γ _ (fun fin p' s' h' => ?_) (fun _ _ _ h' => h'.elim) p s (h Γ p (hc ▸ hΓ.in) ⟨hc ▸ hn, hb⟩)
  cases fin with
  | done f => exact ⟨f, rfl, h'⟩
  | again c' => exact ⟨h'.1, h'.2 (Γ.goto c') p' rfl (hΓ.goto c') hb⟩

theorem code_loop {c : Code} {R : Flow → Shared → Prop} (hn : noDec c = true) (hq : c.quiet = true) (I : Nat → Shared → Prop)
    (turn : ∀ n s, I n s → wpC M (A.under c) (M.den c)
      (fun fin s' => match fin with | .done f => R f s' | .again c' => (c' = c ∧ ∃ m, m < n ∧ I m s') ∨ (c'.quiet = true ∧ codeC M A c' R s')) s)
    (n : Nat) (h : I n s) : codeC M A c R s := by
  induction n using Nat.strongRecOn generalizing s with
  | ind n ih =>
    refine code_tree hn (mono (turn n s h) fun fin s' hf => ?_)
    cases fin with
    | done f => exact hf
    | again c' =>
      rcases hf with ⟨rfl, m, hm, hI⟩ | hf
      · exact ⟨hq, ih m hm hI⟩
      · exact hf

end

section
variable {M : Model} {A : Around} {s : Shared} {env : Env}

theorem execs_nil_ {Q : Flow → Shared → Prop} (h : Q .next s) : wpC M A (execs [] env) Q s := fun _ _ _ _ => h

theorem execs_cons_ {st : Stmt} {rest : List Stmt} {Q : Flow → Shared → Prop}
    (h : wpC M A (exec st env) (fun f s' => match f with | .next => wpC M A (execs rest env) Q s' | f => Q f s') s) : wpC M A (execs (st :: rest) env) Q s := by
  rw [execs_cons]
  refine bind_ (mono h fun f s' h' => ?_)
  cases f <;> first | exact h' | exact pure_ h'

theorem execs_any {st : Stmt} {rest : List Stmt} {Q : Flow → Shared → Prop}
    (h : wpAny M A (exec st env) (fun f s' => match f with | .next => wpC M A (execs rest env) Q s' | f => Q f s') (fun _ _ => False) s) : wpC M A (execs (st :: rest) env) Q s :=
  execs_cons_ (any h)

theorem Assign_ {x : Str} {pos' pos : Pos} {value : Expr} {Q : Flow → Shared → Prop}
    (h : wpC M A (eval value env) (fun v s₁ => wpAny M A (storeName env x v) (fun _ => Q .next) (fun _ _ => False) s₁) s)
    (hs : swapsWith value (some (.Name x pos')) pos.line env = pure false := by rfl) : wpC M A (exec (.Assign [.Name x pos'] value pos) env) Q s := by
  rw [exec_Assign_Name env x pos' value pos hs]
  refine bindAny (wpAny_standAt (bind_ (mono h fun v s₁ h₁ => bindAny (wpAny_standAt (bindAny (wpAny_mono (wpAny_bindName h₁) (fun _ _ x => pure_ x) fun _ _ x => x))))))

theorem If_ {test : Expr} {body orelse : List Stmt} {pos : Pos} {Q : Flow → Shared → Prop}
    (h : wpC M A (isTrue test env (eval test env)) (fun b s₂ => if b then wpC M A (execs body env) Q s₂ else wpC M A (execs orelse env) Q s₂) s) : wpC M A (exec (.If test body orelse pos) env) Q s := by
  rw [exec_If]
  refine bindAny (wpAny_standAt (bind_ (mono h fun b s₂ h₂ => ?_)))
  cases b <;> exact h₂

theorem Return_ {e : Expr} {pos : Pos} {Q : Flow → Shared → Prop} (h : wpC M A (eval e env) (fun v => Q (.ret v)) s) : wpC M A (exec (.Return (some e) pos) env) Q s := by
  rw [exec_Return_some]
  exact bindAny (wpAny_standAt (bind_ (mono h fun v s' h' => pure_ h')))

theorem BinOp_ {l r : Expr} {op : Operator} {pos : Pos} {Q : Value → Shared → Prop}
    (h : wpC M A (eval l env) (fun a s₁ => wpC M A (eval r env) (fun b s₂ => wpAny M A (binaryOp op a b) Q (fun _ _ => False) s₂) s₁) s) : wpC M A (eval (.BinOp l op r pos) env) Q s := by
  rw [eval_BinOp]
  exact bind_ (mono h fun a s₁ h₁ => bind_ (holding_ (mono h₁ fun b s₂ h₂ => bindAny (wpAny_standAt (operate_ (any h₂))))))

theorem Compare_ {l r : Expr} {op : CmpOp} {pos : Pos} {Q : Value → Shared → Prop}
    (h : wpC M A (eval l env) (fun a s₁ => wpC M A (eval r env) (fun b s₂ => wpAny M A (compareOp op a b) Q (fun _ _ => False) s₂) s₁) s)
    (hm : behindInMarks op r = false := by with_unfolding_all rfl) : wpC M A (eval (.Compare l [op] [r] pos) env) Q s := by
  rw [eval_Compare1, markedBehindIn_of_false hm]
  exact bind_ (mono h fun a s₁ h₁ => bind_ (holding_ (mono h₁ fun b s₂ h₂ => bindAny (wpAny_standAt (operate_ (any h₂))))))

theorem isTrueCompare_ {l r : Expr} {op : CmpOp} {pos : Pos} {whole : Sem Value} {Q : Bool → Shared → Prop}
    (h : wpC M A (eval l env) (fun a s₁ => wpC M A (eval r env) (fun b s₂ => wpAny M A (compareOp op a b) (fun c s₃ => wpAny M A (truthy c) Q (fun _ _ => False) s₃) (fun _ _ => False) s₂) s₁) s)
    (hm : behindInMarks op r = false := by with_unfolding_all rfl) : wpC M A (isTrue (.Compare l [op] [r] pos) env whole) Q s := by
  rw [isTrue_Compare1, markedBehindIn_of_false hm]
  exact bind_ (mono h fun a s₁ h₁ => bind_ (holding_ (mono h₁ fun b s₂ h₂ => bindAny (wpAny_standAt (bind_ (operate_ (any (wpAny_mono h₂ (fun c s₃ h₃ => holding_ (any h₃)) fun _ _ x => x))))))))

theorem And_ {x y : Expr} {pos : Pos} {Q : Value → Shared → Prop}
    (h : wpC M A (eval x env) (fun v s₁ => wpAny M A (truthy v) (fun t s₂ => if t then wpC M A (eval y env) Q s₂ else Q v s₂) (fun _ _ => False) s₁) s) : wpC M A (eval (.BoolOp .And [x, y] pos) env) Q s := by
  show wpC M A (boolOp pos .And [eval x env, eval y env]) Q s
  unfold boolOp
  refine bind_ (mono h fun v s₁ h₁ => bindAny (wpAny_standAt (bind_ (holding_ (any (wpAny_mono h₁ (fun t s₂ h₂ => ?_) fun _ _ x => x))))))
  cases t with
  | false => exact pure_ h₂
  | true => unfold boolOp; exact h₂

theorem Call_ {func : Expr} {args : List Expr} {pos : Pos} {Q : Value → Shared → Prop}
    (h : wpAny M A (eval func env) (fun f s₁ => wpC M A (callWith pos f [] (backTo pos (starEach args env)) []) Q s₁) (fun _ _ => False) s)
    (he : eval (.Call func args [] pos) env = (do callWith pos (← eval func env) [] (backTo pos (starEach args env)) []) := by rfl) : wpC M A (eval (.Call func args [] pos) env) Q s := by
  rw [he]
  exact bindAny h

end

end Fl
end

section
namespace Fl
theorem ba_mro : mroOf (.type "bytearray") = pure [.type "bytearray", .type "object"] := by rw [mroOf_type]; kernel_rfl
theorem ba_lookup_new : typeLookup (.type "bytearray") "__new__" = pure (some (.builtin "bytearray.__new__")) := by rw [typeLookup_type, builtinLookup_eq_fast]; kernel_rfl
theorem ba_lookup_init : typeLookup (.type "bytearray") "__init__" = pure (some (.builtin "bytearray.__init__")) := by rw [typeLookup_type, builtinLookup_eq_fast]; kernel_rfl
theorem ba_made : Bind.madeBy (.type "bytearray") = pure (some "bytearray.__new__") := madeBy_type ba_mro ba_lookup_new (by decide +kernel)
theorem ba_sub : isSubtype (.type "bytearray") (.type "bytearray") = pure true := by rw [isSubtype_type]; kernel_rfl
theorem by_sub : isSubtype (.type "bytes") (.type "bytes") = pure true := by rw [isSubtype_type]; kernel_rfl
theorem ba_slot_init : Slot "bytearray" "__init__" "bytearray.__init__" :=
  .of (owner := "bytearray") (n := "__init__") ba_lookup_init (by decide +kernel) (by decide +kernel) (by decide +kernel)
    (by first | exact .inl (by decide +kernel) | exact .inr (by decide +kernel)) ba_sub
theorem ba_typeCall (a : Value) : checkTypeCall "bytearray" ⟨[a], []⟩ = pure () := by kernel_rfl
theorem ba_newCall (a : Value) : checkBuiltinCall "bytearray.__new__" ⟨[.type "bytearray", a], []⟩ = pure () := by kernel_rfl
theorem ba_plain_new : plainId "bytearray.__new__" = true := by decide +kernel
theorem ba_plain_init : plainId "bytearray.__init__" = true := by decide +kernel
theorem ba_entry_new : entryFor table "bytearray.__new__" = some Builtin.«list.__new__» :=
  entryFor_alias (id' := "list.__new__") (by kernel_rfl) (by decide +kernel) (by decide +kernel) (by kernel_rfl)
theorem ba_entry_init : entryFor table "bytearray.__init__" = some Builtin.«bytearray.__init__» := by first | exact entryFor_of_fast (by kernel_rfl) | exact entryFor_of_tree (by kernel_rfl)
theorem ba_release : typeLookup (.type "bytearray") "__release_buffer__" = pure (some (.builtin "bytearray.__release_buffer__")) := by rw [typeLookup_type, builtinLookup_eq_fast]; kernel_rfl
theorem by_release : typeLookup (.type "bytes") "__release_buffer__" = pure none := by rw [typeLookup_type, builtinLookup_eq_fast]; kernel_rfl
theorem ba_buffer : typeLookup (.type "bytearray") "__buffer__" = pure (some (.builtin "bytearray.__buffer__")) := by rw [typeLookup_type, builtinLookup_eq_fast]; kernel_rfl
theorem by_buffer : typeLookup (.type "bytes") "__buffer__" = pure (some (.builtin "bytes.__buffer__")) := by rw [typeLookup_type, builtinLookup_eq_fast]; kernel_rfl
theorem ba_no_index : typeLookup (.type "bytearray") "__index__" = pure none := by rw [typeLookup_type, builtinLookup_eq_fast]; kernel_rfl
theorem by_no_index : typeLookup (.type "bytes") "__index__" = pure none := by rw [typeLookup_type, builtinLookup_eq_fast]; kernel_rfl
theorem li_no_index : typeLookup (.type "list") "__index__" = pure none := by rw [typeLookup_type, builtinLookup_eq_fast]; kernel_rfl
theorem li_no_buffer : typeLookup (.type "list") "__buffer__" = pure none := by rw [typeLookup_type, builtinLookup_eq_fast]; kernel_rfl
theorem ba_bind (v : Value) : Builtin.Bytes.bindOptional "bytearray.__init__" "bytearray" ["source", "encoding", "errors"] [v] [] = pure [some v, none, none] := by kernel_rfl
theorem ba_init_ok (o v : Value) : argsOk "bytearray.__init__" ⟨[o, v], []⟩ := by kernel_rfl

set_option maxRecDepth 1000000 in
set_option maxHeartbeats 4000000 in
theorem ba_owner : ("bytearray.__new__".splitOn ".__new__").headD "" = "bytearray" := by simp +decide [String.splitOn, String.splitOnAux]

def baObj (b : Array UInt8) : Obj := { cls := .type "bytearray", data := .bytearray b }

section
variable {prog : Program} {w : World} {A : Around} {s : Shared}

theorem if_f {α : Type} {M : Model} {c : Bool} {a b : Sem α} {Q : α → Shared → Prop} (hc : c = false) (h : wpC M A b Q s) : wpC M A (if c = true then a else b) Q s := by
  subst hc; exact h
theorem if_t {α : Type} {M : Model} {c : Bool} {a b : Sem α} {Q : α → Shared → Prop} (hc : c = true) (h : wpC M A a Q s) : wpC M A (if c = true then a else b) Q s := by
  subst hc; exact h

theorem exported_ {M : Model} {v : Value} {Q : Bool → Shared → Prop} (hg : A.guards = some []) (h : Q false s) : wpC M A (Builtin.Bytes.exported v) Q s := fun Γ p hΓ hc => by
  unfold Builtin.Bytes.exported
  rw [Sem.wp_bind']
  show Sem.wp M Γ (.stack .pure) _ _ p s
  rw [Sem.wp_stack, Sem.wp_pure, Sem.wp_pure']
  have hgs := hΓ.2.2.2.1 [] hg
  rw [List.append_eq_nil_iff] at hgs
  have key : ∀ x ∈ (Γ.code, p) :: Γ.below, noDec x.1 = true ∧ x.1.isGuard = false := by
    intro x hx
    rcases List.mem_cons.mp hx with rfl | hx
    · refine ⟨hc.1, ?_⟩
      cases hq : Γ.code.isGuard with
      | false => rfl
      | true => have := hgs.1; simp [Code.guards, hq] at this
    · refine ⟨hc.2 x hx, ?_⟩
      cases hq : x.1.isGuard with
      | false => rfl
      | true =>
        have := hgs.2
        unfold guardsOf at this
        rw [List.filter_eq_nil_iff] at this
        exact absurd hq (this x.1 (List.mem_map_of_mem hx))
  rw [List.any_eq_false.mpr]
  · exact h
  · intro x hx
    obtain ⟨h1, h2⟩ := key x hx
    obtain ⟨c, q⟩ := x
    intro hcontra
    revert h1 h2 hcontra
    dsimp only
    split
    · rename_i e; cases e; intro _ h2 _; simp [Code.isGuard, guardIds] at h2
    · rename_i e; cases e; intro _ h2 _; simp [Code.isGuard, guardIds] at h2
    · rename_i e; cases e; intro _ h2 _; simp [Code.isGuard, guardIds] at h2
    · rename_i e; cases e; intro _ h2 _; simp [Code.isGuard, guardIds] at h2
    · rename_i e; cases e; intro _ h2 _; simp [Code.isGuard, guardIds] at h2
    · rename_i e; cases e
      intro h1 _ h3
      rw [Bool.and_eq_true] at h3
      simp only [noDec] at h1
      rw [h3.2] at h1
      cases h1
    · intro _ _ h3; cases h3

theorem code_builtin {id : String} {args : Args} {b : Builtin} {R : Flow → Shared → Prop} (hn : (!Builtin.Bytes.decodersThatHold.contains id) = true) (hb : entryFor table id = some b)
    (h : wpC (model prog w) (A.under (.builtin id args)) (b args) (fun fin s' => match fin with | .done f => R f s' | .again c' => c'.quiet = true ∧ codeC (model prog w) A c' R s') s) :
    codeC (model prog w) A (.builtin id args) R s := by
  refine code_tree hn ?_
  show wpC _ _ (match entryFor table id with | some b => b args | none => unsupported ((withoutEnding? id "#data").getD id)) _ s
  rw [hb]; exact h

theorem code_call_builtin {id : String} {args : Args} {b : Builtin} {R : Flow → Shared → Prop} (hp : plainId id = true) (hn : (!Builtin.Bytes.decodersThatHold.contains id) = true) (hb : entryFor table id = some b)
    (h : wpAny (model prog w) A.in1 (checkBuiltinCall id args) (fun _ s₁ => wpC (model prog w) A.in1 (b args)
      (fun fin s' => match fin with | .done f => R f s' | .again c' => c'.quiet = true ∧ codeC (model prog w) A c' R s') s₁) (fun _ _ => False) s) : codeC (model prog w) A (.call (.builtin id) args) R s := by
  refine code_tree rfl ?_
  show wpC _ A.in1 (do checkBuiltinCall id args; again (.builtin id args)) _ s
  refine bindAny (wpAny_mono h (fun _ s₁ h₁ => pure_ ⟨plainId_quiet hp args, code_builtin hn hb ?_⟩) fun _ _ x => x)
  rw [Around.under_plainId hp]
  exact h₁

theorem ba_new (a : Value) {Q₁ : Value → Shared → Prop}
    (h : Q₁ (.ref s.heap.objs.size) { s with heap := s.heap.push (baObj #[]) }) :
    codeAny (model prog w) A (.call (.builtin "bytearray.__new__") ⟨[.type "bytearray", a], []⟩) (fun r s' => ∃ f, r = .ok f ∧ ∃ v, f = .ret v ∧ Q₁ v s') s := by
  refine codeAny_of_tree ?_
  show wpAny _ A.in1 (do checkBuiltinCall "bytearray.__new__" ⟨[.type "bytearray", a], []⟩; again (.builtin "bytearray.__new__" ⟨[.type "bytearray", a], []⟩)) _ _ s
  refine wpAny_bind (wpAny_of_eq (ba_newCall a) (wpAny_pure ⟨plainId_quiet ba_plain_new _, codeAny_builtin_stack ba_entry_new rfl fun p st => ?_⟩))
  rw [Around.under_plainId ba_plain_new _]
  have hsub := ba_sub
  have hown := ba_owner
  obtain ⟨hp, g, d, tk, os⟩ := s
  simp only [hown]
  wp_walk
  exact ⟨_, rfl, _, rfl, h⟩

theorem typeCall_init {v : Value} {Q : Value → Shared → Prop}
    (hinit : wpC (model prog w) A.in1.in1 (Builtin.«bytearray.__init__» ⟨[.ref s.heap.objs.size, v], []⟩)
      (fun fin s' => fin = .done (.ret .none) ∧ Q (.ref s.heap.objs.size) s') { s with heap := s.heap.push (baObj #[]) }) :
    wpC (model prog w) A (call (.type "bytearray") [v]) Q s := by
  refine call_ (code_tree rfl ?_)
  show wpC _ _ (callAny (.type "bytearray") _) _ _
  refine pure_ ⟨Code.quiet_builtin _ (by decide +kernel), code_builtin (by decide +kernel) F.entry_type_call ?_⟩
  rw [Around.under_plain (weight_type_call_type "bytearray" [v] []) rfl]
  unfold Builtin.«type.__call__»
  dsimp only
  refine if_f (by decide) ?_
  refine if_f (by decide +kernel) ?_
  refine bind_ (of_eq (ba_typeCall v) ?_)
  refine bind_ (of_eq ba_mro ?_)
  refine if_f rfl ?_
  refine bind_ (of_eq ba_made ?_)
  dsimp only
  refine bind_ (pure_ ?_)
  have hnew := ba_new (prog := prog) (w := w) (A := A.in1) (s := s) v (Q₁ := fun o s' => o = .ref s.heap.objs.size ∧ s' = { s with heap := s.heap.push (baObj #[]) }) ⟨rfl, rfl⟩
  refine bind_ (holding_ (call_ (codeMono (codeAnyC hnew) ?_)))
  rintro f s' ⟨o, rfl, rfl, rfl⟩
  refine ⟨_, rfl, ?_⟩
  have hT : ({ s with heap := s.heap.push (baObj #[]) } : Shared).TypeIs (.ref s.heap.objs.size) "bytearray" := ⟨_, Heap.get?_push_size _ rfl, rfl⟩
  refine bindAny (wpAny_isInstance hT ba_sub ?_)
  refine if_f rfl ?_
  refine bind_ (holding_ ?_)
  unfold callSpecial?
  refine bindAny (wpAny_specialOf hT ba_lookup_init ?_)
  dsimp only
  refine holding_ (bind_ (of_eq (ba_slot_init.bind _) ?_))
  dsimp only
  refine bind_ (call_ ?_)
  refine code_call_builtin ba_plain_init (by decide +kernel) ba_entry_init (ba_slot_init.check _ _ _ _ _ _ _ _ hT (ba_init_ok _ _) ?_)
  refine mono hinit ?_
  rintro fin s' ⟨rfl, hq⟩
  dsimp only
  refine ⟨_, rfl, pure_ ?_⟩
  dsimp only
  refine if_f rfl ?_
  exact pure_ ⟨_, rfl, hq⟩
end
end Fl
end

section
namespace Fl

theorem ba_get {h : Heap} {S : Addr} {b b' : Array UInt8} (hS : h.get? S = some (baObj b)) (f : Array UInt8 → Array UInt8) (e : f b = b') : (h.update S (Obj.mapBytearray f)).get? S = some (baObj b') := by
  rw [← e]; exact Heap.get?_update_self (Obj.mapBytearray f) hS rfl

def goodInt : Value → Bool
  | .int i _ => 0 ≤ i && i < 256
  | _ => false
def byteOf? : Value → Option UInt8
  | .int i _ => some i.toNat.toUInt8
  | _ => none
theorem good_ints : ∀ {vs : List Value} {ns : List Int}, IntsAre vs ns → (∀ n ∈ ns, 0 ≤ n ∧ n < 256) → vs.takeWhile goodInt = vs ∧ vs.filterMap byteOf? = ns.map fun n => n.toNat.toUInt8
  | _, _, .nil, _ => ⟨rfl, rfl⟩
  | _, _, .cons _ _ hi, hr => by
    obtain ⟨a, b⟩ := good_ints hi fun m hm => hr m (List.mem_cons_of_mem _ hm)
    obtain ⟨r1, r2⟩ := hr _ List.mem_cons_self
    refine ⟨?_, ?_⟩
    · rw [List.takeWhile_cons_of_pos (by simp [goodInt, r1, r2]), a]
    · simp [b, byteOf?]

section
variable {prog : Program} {w : World} {A : Around} {s : Shared}

theorem ba_type {S : Addr} {b : Array UInt8} (hS : s.heap.get? S = some (baObj b)) : s.TypeIs (.ref S) "bytearray" := ⟨_, hS, rfl⟩

theorem slotIsOwn_rel {S : Addr} {b : Array UInt8} {M : Model} {Q : Bool → Shared → Prop} (hS : s.heap.get? S = some (baObj b)) (h : Q true s) : wpAny M A (Builtin.Bytes.slotIsOwn (.ref S) "__release_buffer__") Q (fun _ _ => False) s := by
  unfold Builtin.Bytes.slotIsOwn
  refine wpAny_bind (wpAny_specialOf (ba_type hS) ba_release ?_)
  dsimp only
  rw [if_neg (by decide +kernel), show "bytearray.__release_buffer__".dropRight ("__release_buffer__".length + 1) = "bytearray" from by decide +kernel]
  exact wpAny_isInstance (ba_type hS) ba_sub h

theorem slotIsOwn_buf {S : Addr} {b : Array UInt8} {M : Model} {Q : Bool → Shared → Prop} (hS : s.heap.get? S = some (baObj b)) (h : Q true s) : wpAny M A (Builtin.Bytes.slotIsOwn (.ref S) "__buffer__") Q (fun _ _ => False) s := by
  unfold Builtin.Bytes.slotIsOwn
  refine wpAny_bind (wpAny_specialOf (ba_type hS) ba_buffer ?_)
  dsimp only
  rw [if_neg (by decide +kernel), show "bytearray.__buffer__".dropRight ("__buffer__".length + 1) = "bytearray" from by decide +kernel]
  exact wpAny_isInstance (ba_type hS) ba_sub h

theorem ownRelease_ba {S : Addr} {b : Array UInt8} {M : Model} {Q : Bool → Shared → Prop} (hS : s.heap.get? S = some (baObj b)) (h : Q false s) : wpAny M A (Builtin.Bytes.ownRelease (.ref S)) Q (fun _ _ => False) s := by
  unfold Builtin.Bytes.ownRelease
  exact wpAny_bind (slotIsOwn_rel hS (wpAny_pure h))

theorem payload_ba {S : Addr} {b : Array UInt8} {M : Model} {E : Value → Shared → Prop} {Q : Array UInt8 → Shared → Prop} (hS : s.heap.get? S = some (baObj b)) (h : Q b s) : wpAny M A (Builtin.Bytes.payload (.ref S)) Q E s := by
  unfold Builtin.Bytes.payload Builtin.Bytes.payload?
  exact wpAny_bind (wpAny_bind (wpAny_load hS (wpAny_pure (wpAny_pure h))))

theorem write_ba {S : Addr} {b b' : Array UInt8} {f : Array UInt8 → Array UInt8} {M : Model} {E : Value → Shared → Prop} {Q : Unit → Shared → Prop} (hS : s.heap.get? S = some (baObj b)) (e : f b = b') (hz : b'.size ≤ sizeLine)
    (h : (s.heap.update S (Obj.mapBytearray f)).get? S = some (baObj b') → Q () { s with heap := s.heap.update S (Obj.mapBytearray f) }) : wpAny M A (Builtin.Bytes.write (.ref S) f) Q E s := by
  show wpAny _ _ (updateBytearray S f) _ _ _
  unfold updateBytearray
  refine wpAny_bind (wpAny_load hS ?_)
  show wpAny _ _ (update S (Obj.mapBytearray f) >>= fun _ => lookBehind S) _ _ _
  refine wpAny_bind (wpAny_update hS ?_)
  have h2 := ba_get hS f e
  refine wpAny_lookBehind h2 ?_ (h h2)
  show (if b'.size > sizeLine then some "bytearray:memory" else none) = none
  rw [if_neg (Nat.not_lt.mpr hz)]

theorem exportsOf_ba {S : Addr} {b : Array UInt8} {M : Model} {E : Value → Shared → Prop} {Q : Nat → Shared → Prop} (hS : s.heap.get? S = some (baObj b)) (h : Q 0 s) : wpAny M A (Builtin.Bytes.exportsOf (.ref S)) Q E s := by
  unfold Builtin.Bytes.exportsOf
  exact wpAny_bind (wpAny_load hS (wpAny_pure h))

theorem notExported {S : Addr} {b : Array UInt8} {M : Model} {Q : Bool → Shared → Prop} (hg : A.guards = some []) (hS : s.heap.get? S = some (baObj b)) (h : Q false s) :
    wpC M A (Builtin.Bytes.exported (.ref S) <||> (do return (← Builtin.Bytes.exportsOf (.ref S)) > 0)) Q s := by
  unfold orM
  refine bind_ (exported_ hg ?_)
  exact bindAny (exportsOf_ba hS (pure_ h))

theorem init_list {S l : Addr} {vs : List Value} {ns : List Int} {P : Fin → Shared → Prop} (hg : A.guards = some []) (hS : s.heap.get? S = some (baObj #[])) (hl : s.heap.IsList l vs.toArray) (hi : IntsAre vs ns) (hr : ∀ n ∈ ns, 0 ≤ n ∧ n < 256)
    (hz : ns.length ≤ sizeLine) (hQ : ∀ h', (∀ b o, b ≠ S → s.heap.get? b = some o → h'.get? b = some o) → h'.get? S = some (baObj (byteArr ns)) → P (.done (.ret .none)) { s with heap := h' }) :
    wpC (model prog w) A (Builtin.«bytearray.__init__» ⟨[.ref S, .ref l], []⟩) P s := by
  have hlS : l ≠ S := by
    rintro rfl
    obtain ⟨o, ho, hc, _⟩ := hl
    rw [hS] at ho; cases ho; exact absurd hc (by decide)
  unfold Builtin.«bytearray.__init__»
  refine bindAny (ownRelease_ba hS ?_)
  refine if_f rfl ?_
  refine bind_ (of_eq (ba_bind _) ?_)
  refine bind_ (of_eq (a := ()) rfl ?_)
  refine bind_ (of_eq (a := ()) rfl ?_)
  refine bind_ (notExported hg hS ?_)
  refine if_f rfl ?_
  refine bindAny (write_ba (f := fun _ => #[]) hS rfl (Nat.zero_le _) fun hS1 => ?_)
  have hl1 : (s.heap.update S (Obj.mapBytearray fun _ => #[])).IsList l vs.toArray := by
    obtain ⟨o, ho, r⟩ := hl
    exact ⟨o, (Heap.get?_update_other _ _ (Ne.symm hlS)).trans ho, r⟩
  have hT : ({ s with heap := s.heap.update S (Obj.mapBytearray fun _ => #[]) } : Shared).TypeIs (.ref l) "list" := Heap.IsList.typeIs hl1
  obtain ⟨ol, hol, hoc, nl, hod⟩ := id hl1
  show wpC _ _ (asStr? (.ref l) >>= _) _ _
  refine bindAny (wpAny_bind (wpAny_load hol ?_))
  rw [hod]
  refine wpAny_pure ?_
  refine if_f rfl ?_
  show wpC _ _ ((pure ()) >>= _) _ _
  refine bind_ (pure_ ?_)
  refine bindAny (wpAny_specialOf hT li_no_index ?_)
  refine if_f rfl ?_
  show wpC _ _ (Builtin.Bytes.buffer? "bytearray.__init__" (.ref l) true >>= _) _ _
  refine bindAny ?_
  unfold Builtin.Bytes.buffer?
  refine wpAny_bind (wpAny_specialOf hT li_no_buffer ?_)
  refine wpAny_bind (wpAny_specialOf hT li_no_buffer ?_)
  refine wpAny_pure ?_
  refine bindAny (wpAny_typeOf hT ?_)
  refine if_t rfl ?_
  refine bindAny (wpAny_bind (wpAny_load hol ?_))
  rw [hod]
  refine wpAny_pure ?_
  obtain ⟨g1, g2⟩ := good_ints hi hr
  have e1 : vs.toArray.toList.takeWhile goodInt = vs := g1
  have e2 : vs.toArray[vs.length]? = none := by simp
  show wpC _ _ (match vs.toArray[(vs.toArray.toList.takeWhile goodInt).length]? with
    | none => (do rule "bytearray.__init__.list-of-ints"; Builtin.Bytes.write (.ref S) (fun _ => ((vs.toArray.toList.takeWhile goodInt).filterMap byteOf?).toArray); ret .none)
    | some (.int _ _) => _ | some _ => _) _ _
  rw [e1, e2, g2]
  refine bindAny (wpAny_rule ?_)
  refine bindAny (write_ba hS1 (b' := byteArr ns) rfl (by rw [byteArr_size]; exact hz) fun hS2 => ?_)
  refine pure_ (hQ _ (fun b o hb e => ?_) hS2)
  exact (Heap.get?_update_other _ _ (Ne.symm hb)).trans ((Heap.get?_update_other _ _ (Ne.symm hb)).trans e)

theorem slotIsOwn_by {b : Array UInt8} {t : Tok} {M : Model} {Q : Bool → Shared → Prop} (h : Q true s) : wpAny M A (Builtin.Bytes.slotIsOwn (.bytes b t) "__buffer__") Q (fun _ _ => False) s := by
  have hT : s.TypeIs (.bytes b t) "bytes" := PySem.W.typeIs_bytes _ _ _
  unfold Builtin.Bytes.slotIsOwn
  refine wpAny_bind (wpAny_specialOf hT by_buffer ?_)
  dsimp only
  rw [if_neg (by decide +kernel), show "bytes.__buffer__".dropRight ("__buffer__".length + 1) = "bytes" from by decide +kernel]
  exact wpAny_isInstance hT by_sub h
theorem ownRelease_by {b : Array UInt8} {t : Tok} {M : Model} {Q : Bool → Shared → Prop} (h : Q false s) : wpAny M A (Builtin.Bytes.ownRelease (.bytes b t)) Q (fun _ _ => False) s := by
  have hT : s.TypeIs (.bytes b t) "bytes" := PySem.W.typeIs_bytes _ _ _
  unfold Builtin.Bytes.ownRelease Builtin.Bytes.slotIsOwn
  refine wpAny_bind (wpAny_bind (wpAny_specialOf hT by_release ?_))
  exact wpAny_pure (wpAny_pure h)

theorem init_bytes {S : Addr} {b : Array UInt8} {t : Tok} {P : Fin → Shared → Prop} (hg : A.guards = some []) (hS : s.heap.get? S = some (baObj #[]))
    (hz : b.size ≤ sizeLine) (hQ : ∀ h', (∀ b o, b ≠ S → s.heap.get? b = some o → h'.get? b = some o) → h'.get? S = some (baObj b) → P (.done (.ret .none)) { s with heap := h' }) :
    wpC (model prog w) A (Builtin.«bytearray.__init__» ⟨[.ref S, .bytes b t], []⟩) P s := by
  unfold Builtin.«bytearray.__init__»
  refine bindAny (ownRelease_ba hS ?_)
  refine if_f rfl ?_
  refine bind_ (of_eq (ba_bind _) ?_)
  refine bind_ (of_eq (a := ()) rfl ?_)
  refine bind_ (of_eq (a := ()) rfl ?_)
  refine bind_ (notExported hg hS ?_)
  refine if_f rfl ?_
  refine bindAny (write_ba (f := fun _ => #[]) hS rfl (Nat.zero_le _) fun hS1 => ?_)
  have hT : ({ s with heap := s.heap.update S (Obj.mapBytearray fun _ => #[]) } : Shared).TypeIs (.bytes b t) "bytes" := PySem.W.typeIs_bytes _ _ _
  show wpC _ _ (asStr? (.bytes b t) >>= _) _ _
  refine bind_ (of_eq (a := none) rfl ?_)
  refine if_f rfl ?_
  show wpC _ _ ((pure ()) >>= _) _ _
  refine bind_ (pure_ ?_)
  refine bindAny (wpAny_specialOf hT by_no_index ?_)
  refine if_f rfl ?_
  show wpC _ _ (Builtin.Bytes.buffer? "bytearray.__init__" (.bytes b t) true >>= _) _ _
  refine bindAny ?_
  unfold Builtin.Bytes.buffer?
  refine wpAny_bind (wpAny_specialOf hT by_buffer ?_)
  refine wpAny_bind (slotIsOwn_by ?_)
  rw [if_neg (by decide)]
  refine wpAny_bind (wpAny_specialOf hT by_buffer ?_)
  refine wpAny_bind (ownRelease_by ?_)
  rw [if_neg (by decide)]
  refine wpAny_bind (wpAny_of_eq (a := b) rfl ?_)
  refine wpAny_pure ?_
  refine bindAny (wpAny_rule ?_)
  refine bindAny (write_ba hS1 (b' := b) rfl hz fun hS2 => ?_)
  refine pure_ (hQ _ (fun b o hb e => ?_) hS2)
  exact (Heap.get?_update_other _ _ (Ne.symm hb)).trans ((Heap.get?_update_other _ _ (Ne.symm hb)).trans e)

theorem init_ba {S l : Addr} {b : Array UInt8} {P : Fin → Shared → Prop} (hg : A.guards = some []) (hS : s.heap.get? S = some (baObj #[])) (hl : s.heap.get? l = some (baObj b)) (hlS : l ≠ S)
    (hz : b.size ≤ sizeLine) (hQ : ∀ h', (∀ b o, b ≠ S → s.heap.get? b = some o → h'.get? b = some o) → h'.get? S = some (baObj b) → P (.done (.ret .none)) { s with heap := h' }) :
    wpC (model prog w) A (Builtin.«bytearray.__init__» ⟨[.ref S, .ref l], []⟩) P s := by
  unfold Builtin.«bytearray.__init__»
  refine bindAny (ownRelease_ba hS ?_)
  refine if_f rfl ?_
  refine bind_ (of_eq (ba_bind _) ?_)
  refine bind_ (of_eq (a := ()) rfl ?_)
  refine bind_ (of_eq (a := ()) rfl ?_)
  refine bind_ (notExported hg hS ?_)
  refine if_f rfl ?_
  refine bindAny (write_ba (f := fun _ => #[]) hS rfl (Nat.zero_le _) fun hS1 => ?_)
  have hl1 : (s.heap.update S (Obj.mapBytearray fun _ => #[])).get? l = some (baObj b) := (Heap.get?_update_other _ _ (Ne.symm hlS)).trans hl
  have hT : ({ s with heap := s.heap.update S (Obj.mapBytearray fun _ => #[]) } : Shared).TypeIs (.ref l) "bytearray" := ⟨_, hl1, rfl⟩
  show wpC _ _ (asStr? (.ref l) >>= _) _ _
  refine bindAny (wpAny_bind (wpAny_load hl1 ?_))
  refine wpAny_pure ?_
  refine if_f rfl ?_
  show wpC _ _ ((pure ()) >>= _) _ _
  refine bind_ (pure_ ?_)
  refine bindAny (wpAny_specialOf hT ba_no_index ?_)
  refine if_f rfl ?_
  show wpC _ _ (Builtin.Bytes.buffer? "bytearray.__init__" (.ref l) true >>= _) _ _
  refine bindAny ?_
  unfold Builtin.Bytes.buffer?
  refine wpAny_bind (wpAny_specialOf hT ba_buffer ?_)
  refine wpAny_bind (slotIsOwn_buf hl1 ?_)
  rw [if_neg (by decide)]
  refine wpAny_bind (wpAny_specialOf hT ba_buffer ?_)
  refine wpAny_bind (ownRelease_ba hl1 ?_)
  rw [if_neg (by decide)]
  refine wpAny_bind (payload_ba hl1 ?_)
  refine wpAny_pure ?_
  refine bindAny (wpAny_rule ?_)
  refine bindAny (write_ba hS1 (b' := b) rfl hz fun hS2 => ?_)
  refine pure_ (hQ _ (fun b o hb e => ?_) hS2)
  exact (Heap.get?_update_other _ _ (Ne.symm hb)).trans ((Heap.get?_update_other _ _ (Ne.symm hb)).trans e)

theorem push_old {h : Heap} {o : Obj} {b : Addr} {x : Obj} (e : h.get? b = some x) : b ≠ h.objs.size := Nat.ne_of_lt (Heap.lt_size e)

theorem bytearray_list {l : Addr} {vs : List Value} {ns : List Int} {Q : Value → Shared → Prop} (hg : A.guards = some []) (hl : s.heap.IsList l vs.toArray) (hi : IntsAre vs ns) (hr : ∀ n ∈ ns, 0 ≤ n ∧ n < 256) (hz : ns.length ≤ sizeLine)
    (hQ : ∀ h', (∀ b o, s.heap.get? b = some o → h'.get? b = some o) → h'.get? s.heap.objs.size = some (baObj (byteArr ns)) → Q (.ref s.heap.objs.size) { s with heap := h' }) :
    wpC (model prog w) A (call (.type "bytearray") [.ref l]) Q s := by
  refine typeCall_init (init_list (A := A.in1.in1) hg (Heap.get?_push_size _ rfl) (hl.push _) hi hr hz fun h' k e => ⟨rfl, ?_⟩)
  exact hQ h' (fun b o eb => k b o (Nat.ne_of_lt (Heap.lt_size eb)) (Heap.get?_push_of_some _ eb)) e
theorem bytearray_bytes {b : Array UInt8} {t : Tok} {Q : Value → Shared → Prop} (hg : A.guards = some []) (hz : b.size ≤ sizeLine)
    (hQ : ∀ h', (∀ b o, s.heap.get? b = some o → h'.get? b = some o) → h'.get? s.heap.objs.size = some (baObj b) → Q (.ref s.heap.objs.size) { s with heap := h' }) :
    wpC (model prog w) A (call (.type "bytearray") [.bytes b t]) Q s := by
  refine typeCall_init (init_bytes (A := A.in1.in1) hg (Heap.get?_push_size _ rfl) hz fun h' k e => ⟨rfl, ?_⟩)
  exact hQ h' (fun b o eb => k b o (Nat.ne_of_lt (Heap.lt_size eb)) (Heap.get?_push_of_some _ eb)) e
theorem bytearray_ba {l : Addr} {b : Array UInt8} {Q : Value → Shared → Prop} (hg : A.guards = some []) (hl : s.heap.get? l = some (baObj b)) (hz : b.size ≤ sizeLine)
    (hQ : ∀ h', (∀ b o, s.heap.get? b = some o → h'.get? b = some o) → h'.get? s.heap.objs.size = some (baObj b) → Q (.ref s.heap.objs.size) { s with heap := h' }) :
    wpC (model prog w) A (call (.type "bytearray") [.ref l]) Q s := by
  refine typeCall_init (init_ba (A := A.in1.in1) hg (Heap.get?_push_size _ rfl) (Heap.get?_push_of_some _ hl) (Nat.ne_of_lt (Heap.lt_size hl)) hz fun h' k e => ⟨rfl, ?_⟩)
  exact hQ h' (fun b o eb => k b o (Nat.ne_of_lt (Heap.lt_size eb)) (Heap.get?_push_of_some _ eb)) e
end
end Fl
end

section
open PySem.Calls
namespace Fl
open Builtin

theorem ba_slot_len : Slot "bytearray" "__len__" "bytearray.__len__" :=
  .of (owner := "bytearray") (n := "__len__") (by rw [typeLookup_type, builtinLookup_eq_fast]; kernel_rfl) (by decide +kernel) (by decide +kernel) (by decide +kernel)
    (by first | exact .inl (by decide +kernel) | exact .inr (by decide +kernel)) ba_sub
theorem ba_slot_get : Slot "bytearray" "__getitem__" "bytearray.__getitem__" :=
  .of (owner := "bytearray") (n := "__getitem__") (by rw [typeLookup_type, builtinLookup_eq_fast]; kernel_rfl) (by decide +kernel) (by decide +kernel) (by decide +kernel)
    (by first | exact .inl (by decide +kernel) | exact .inr (by decide +kernel)) ba_sub
theorem ba_slot_set : Slot "bytearray" "__setitem__" "bytearray.__setitem__" :=
  .of (owner := "bytearray") (n := "__setitem__") (by rw [typeLookup_type, builtinLookup_eq_fast]; kernel_rfl) (by decide +kernel) (by decide +kernel) (by decide +kernel)
    (by first | exact .inl (by decide +kernel) | exact .inr (by decide +kernel)) ba_sub
theorem ba_slot_iter : Slot "bytearray" "__iter__" "bytearray.__iter__" :=
  .of (owner := "bytearray") (n := "__iter__") (by rw [typeLookup_type, builtinLookup_eq_fast]; kernel_rfl) (by decide +kernel) (by decide +kernel) (by decide +kernel)
    (by first | exact .inl (by decide +kernel) | exact .inr (by decide +kernel)) ba_sub
theorem bi_slot_next : Slot "bytearray_iterator" "__next__" "bytearray_iterator.__next__" :=
  .of (owner := "bytearray_iterator") (n := "__next__") (by rw [typeLookup_type, builtinLookup_eq_fast]; kernel_rfl) (by decide +kernel) (by decide +kernel) (by decide +kernel)
    (by first | exact .inl (by decide +kernel) | exact .inr (by decide +kernel)) (by rw [isSubtype_type]; kernel_rfl)
theorem bi_slot_self : Slot "bytearray_iterator" "__iter__" "bytearray_iterator.__iter__" :=
  .of (owner := "bytearray_iterator") (n := "__iter__") (by rw [typeLookup_type, builtinLookup_eq_fast]; kernel_rfl) (by decide +kernel) (by decide +kernel) (by decide +kernel)
    (by first | exact .inl (by decide +kernel) | exact .inr (by decide +kernel)) (by rw [isSubtype_type]; kernel_rfl)
theorem ba_entry_len : entryFor table "bytearray.__len__" = some Builtin.«bytearray.__len__» := entryFor_of_fast (by kernel_rfl)
theorem ba_entry_get : entryFor table "bytearray.__getitem__" = some Builtin.«bytearray.__getitem__» := entryFor_of_fast (by kernel_rfl)
theorem ba_entry_set : entryFor table "bytearray.__setitem__" = some Builtin.«bytearray.__setitem__» := entryFor_of_fast (by kernel_rfl)
theorem ba_entry_iter : entryFor table "bytearray.__iter__" = some Builtin.«bytearray.__iter__» := entryFor_of_fast (by kernel_rfl)
theorem bi_entry_next : entryFor table "bytearray_iterator.__next__" = some Builtin.«bytearray_iterator.__next__» := entryFor_of_fast (by kernel_rfl)
theorem bi_entry_self : entryFor table "bytearray_iterator.__iter__" = some Builtin.«dict_keyiterator.__iter__» := entryFor_alias (id' := "dict_keyiterator.__iter__") (by kernel_rfl) rfl (by decide +kernel) (by kernel_rfl)
theorem ba_args_len (a : Value) : argsOk "bytearray.__len__" ⟨[a], []⟩ := by unfold argsOk; kernel_rfl
theorem ba_args_get (a b : Value) : argsOk "bytearray.__getitem__" ⟨[a, b], []⟩ := by unfold argsOk; kernel_rfl
theorem ba_args_set (a b c : Value) : argsOk "bytearray.__setitem__" ⟨[a, b, c], []⟩ := by unfold argsOk; kernel_rfl
theorem ba_args_iter (a : Value) : argsOk "bytearray.__iter__" ⟨[a], []⟩ := by unfold argsOk; kernel_rfl
theorem bi_args_next (a : Value) : argsOk "bytearray_iterator.__next__" ⟨[a], []⟩ := by unfold argsOk; kernel_rfl
theorem bi_args_self (a : Value) : argsOk "bytearray_iterator.__iter__" ⟨[a], []⟩ := by unfold argsOk; kernel_rfl
theorem int_no_index_none : typeLookup (.type "int") "__index__" = pure (some (.builtin "int.__index__")) := F.slot_int_index.lookup
theorem ba_plain_set : plainId "bytearray.__setitem__" = true := by decide +kernel

section
variable {prog : Program} {w : World} {A : Around} {E : Value → Shared → Prop} {s : Shared}

theorem meets_ba_len (a : Addr) (b : Array UInt8) : Meets («bytearray.__len__» ⟨[.ref a], []⟩) (fun _ R s => s.heap.get? a = some (baObj b) ∧ R (.ok (.ret (.int b.size s.toks))) { s with toks := s.toks + 1 }) := by
  refine .of_wp fun prog w A R s hS => ?_
  obtain ⟨ha, h⟩ := hS
  show wpAny _ _ (Bytes.payload (.ref a) >>= fun r => _) _ _ s
  refine wpAny_bind (payload_ba ha ?_)
  exact wpAny_bind (wpAny_mkInt (wpAny_pure ⟨_, rfl, h⟩))

theorem len_ba {a : Addr} {b : Array UInt8} {Q : Value → Shared → Prop} (ha : s.heap.get? a = some (baObj b)) (hz : b.size ≤ 1099511627776) (h : ∀ t k, Q (.int b.size t) { s with toks := k }) :
    wpAny (model prog w) A (call (.builtin "len") [.ref a]) Q E s := by
  refine Calls.call_function_entry kind_len plain_len entry_len (args_len1 _) ?_
  unfold Builtin.«len»
  refine wpAny_bind (m := oneArg "len" _) (wpAny_pure ?_)
  refine wpAny_bind (m := callSpecial? (.ref a) (Str.ofString "__len__")) (wpAny_callSpecial?_slot (name := Str.ofString "__len__") (ba_type ha) ba_slot_len (call_meets ba_slot_len (ba_type ha) ba_entry_len (ba_args_len _) (meets_ba_len a b) ⟨ha, ?_⟩))
  show wpAny _ _ _ _ _ { s with toks := s.toks + 1 }
  refine wpAny_bind (wpAny_holding (wpAny_pure ?_))
  refine wpAny_bind (wpAny_letGo ?_)
  show wpAny _ _ (if (b.size : Int) < 0 then _ else _) _ _ _
  rw [if_neg (by omega)]
  show wpAny _ _ (if (b.size : Int) ≥ 2 ^ 63 then _ else _) _ _ _
  rw [if_neg (by omega)]
  exact wpAny_bind (wpAny_mkInt (wpAny_pure ⟨_, rfl, h _ _⟩))

theorem sliceParts_ints {M : Model} {sl : Addr} {i j : Int} {t u : Tok} {Q : Value × Value × Value → Shared → Prop} (hs : s.heap.IsSliceOf sl (.int i t) (.int j u) .none) (h : Q (rawInt i, rawInt j, .none) s) :
    wpAny M A (Bytes.sliceParts (.ref sl)) Q E s := by
  obtain ⟨o, ho, hc, hd⟩ := hs
  unfold Bytes.sliceParts
  refine wpAny_bind (wpAny_field (x := .none) ho hd rfl ?_)
  refine wpAny_bind (wpAny_of_eq (a := .none) rfl ?_)
  rw [if_neg (show ¬ ((Value.none == rawInt 0) = true) from Bool.false_ne_true)]
  refine wpAny_bind (wpAny_field (x := .int i t) ho hd rfl ?_)
  refine wpAny_bind ?_
  show wpAny M A (if (Value.int i t == Value.none) = true then _ else _) _ _ _
  rw [if_neg (show ¬ ((Value.int i t == Value.none) = true) from Bool.false_ne_true)]
  refine wpAny_bind (wpAny_specialOf (T := "int") (typeIs_int s i t) int_index ?_)
  simp only [Option.isNone_some, Bool.false_eq_true, if_false]
  refine wpAny_bind (wpAny_of_eq (a := i) rfl (wpAny_pure ?_))
  refine wpAny_bind (wpAny_field (x := .int j u) ho hd rfl ?_)
  refine wpAny_bind ?_
  show wpAny M A (if (Value.int j u == Value.none) = true then _ else _) _ _ _
  rw [if_neg (show ¬ ((Value.int j u == Value.none) = true) from Bool.false_ne_true)]
  refine wpAny_bind (wpAny_specialOf (T := "int") (typeIs_int s j u) int_index ?_)
  simp only [Option.isNone_some, Bool.false_eq_true, if_false]
  refine wpAny_bind (wpAny_of_eq (a := j) rfl (wpAny_pure ?_))
  exact wpAny_pure h

theorem subscript_int {M : Model} {i : Int} {t : Tok} {Q : Option Int → Shared → Prop} (hr : Bytes.fitsIndex i = true) (h : Q (some i) s) : wpAny M A (Bytes.subscript? (.int i t)) Q E s := by
  unfold Bytes.subscript?
  refine wpAny_bind (wpAny_specialOf (typeIs_int s i t) F.slot_int_index.lookup ?_)
  show wpAny M A (if (!Bytes.fitsIndex i) = true then _ else pure (some i)) _ E s
  rw [hr]
  exact wpAny_pure h

theorem subscript_slice {M : Model} {sl : Addr} {l u v : Value} {Q : Option Int → Shared → Prop} (hs : s.heap.IsSliceOf sl l u v) (h : Q none s) : wpAny M A (Bytes.subscript? (.ref sl)) Q E s := by
  obtain ⟨o, ho, hc, hd⟩ := hs
  unfold Bytes.subscript?
  exact wpAny_bind (wpAny_specialOf (T := "slice") ⟨o, ho, hc⟩ slice_no_index (wpAny_pure h))

theorem byteValue_int {M : Model} {i : Int} {t : Tok} {Q : UInt8 → Shared → Prop} (h0 : 0 ≤ i) (h1 : i < 256) (h : Q i.toNat.toUInt8 s) : wpAny M A (Bytes.byteValue (.int i t)) Q E s := by
  unfold Bytes.byteValue
  refine wpAny_bind (wpAny_of_eq (a := i) rfl ?_)
  rw [if_neg (by simp; omega)]
  exact wpAny_pure h

theorem meets_ba_slice (a sl : Addr) (b : Array UInt8) (i j : Int) (t u : Tok) : Meets («bytearray.__getitem__» ⟨[.ref a, .ref sl], []⟩)
    (fun _ R s => s.heap.get? a = some (baObj b) ∧ s.heap.IsSliceOf sl (.int i t) (.int j u) .none ∧ (KBy.picked b (some i) (some j)).size ≤ sizeLine ∧
      R (.ok (.ret (.ref s.heap.objs.size))) { s with heap := s.heap.push (baObj (KBy.picked b (some i) (some j))) }) := by
  refine .of_wp fun prog w A R s hS => ?_
  obtain ⟨ha, hs, hz, h⟩ := hS
  show wpAny _ _ (Bytes.subscript? (.ref sl) >>= fun r => _) _ _ s
  refine wpAny_bind (subscript_slice hs ?_)
  have hT : s.TypeIs (.ref sl) "slice" := by obtain ⟨o, ho, hc, _⟩ := hs; exact ⟨o, ho, hc⟩
  refine wpAny_bind (wpAny_typeOf hT ?_)
  rw [if_neg (by decide)]
  refine wpAny_bind (sliceParts_ints hs ?_)
  refine wpAny_bind (payload_ba ha ?_)
  refine wpAny_bind (wpAny_of_eq (sliceIndices_raw (some i) (some j) none b.size (fun e => nomatch e)) ?_)
  refine wpAny_bind ?_
  unfold Bytes.newBytearray
  exact wpAny_newObj_type (wpAny_pure ⟨_, rfl, h⟩) hz

theorem meets_ba_setInt (a : Addr) (b : Array UInt8) (k v : Int) (t u : Tok) (h0 : 0 ≤ k) (h1 : k < b.size) (hz : b.size ≤ sizeLine) (v0 : 0 ≤ v) (v1 : v < 256) : Meets («bytearray.__setitem__» ⟨[.ref a, .int k t, .int v u], []⟩)
    (fun _ R s => s.heap.get? a = some (baObj b) ∧
      (∀ h', Heap.SameBut a s.heap h' → h'.get? a = some (baObj (b.setIfInBounds k.toNat v.toNat.toUInt8)) → R (.ok (.ret .none)) { s with heap := h' })) := by
  refine .of_wp fun prog w A R s hS => ?_
  obtain ⟨ha, h⟩ := hS
  show wpAny _ _ (Bytes.subscript? (.int k t) >>= fun r => _) _ _ s
  rw [sizeLine_eq] at hz
  refine wpAny_bind (subscript_int (by simp only [Bytes.fitsIndex, Bool.and_eq_true, decide_eq_true_eq]; omega) ?_)
  refine wpAny_bind (byteValue_int v0 v1 ?_)
  refine wpAny_bind (payload_ba ha ?_)
  have e : seqIndex? k b.size = some k.toNat := by
    have hn : ¬ k < 0 := by omega
    simp [seqIndex?, hn, h0, h1]
  rw [e]
  refine wpAny_bind (write_ba ha (b' := b.setIfInBounds k.toNat v.toNat.toUInt8) rfl (by rw [Array.size_setIfInBounds, sizeLine_eq]; omega) fun h2 => ?_)
  exact wpAny_pure ⟨_, rfl, h _ (Heap.SameBut.update ..) h2⟩

theorem setItem_ba {a : Addr} {b : Array UInt8} {k v : Int} {t u : Tok} {Q : Unit → Shared → Prop} (ha : s.heap.get? a = some (baObj b)) (h0 : 0 ≤ k) (h1 : k < b.size) (hz : b.size ≤ sizeLine) (v0 : 0 ≤ v) (v1 : v < 256)
    (h : ∀ h', Heap.SameBut a s.heap h' → h'.get? a = some (baObj (b.setIfInBounds k.toNat v.toNat.toUInt8)) → Q () { s with heap := h' }) :
    wpAny (model prog w) A (setItem (.ref a) (.int k t) (.int v u)) Q E s := by
  unfold setItem
  refine wpAny_holding ?_
  refine wpAny_bind (wpAny_sequenceKey (ba_type ha) (by decide) ?_)
  refine wpAny_bind (wpAny_callSpecial?_slot (name := Str.ofString "__setitem__") (ba_type ha) ba_slot_set (call_meets ba_slot_set (ba_type ha) ba_entry_set (ba_args_set _ _ _) (meets_ba_setInt a b k v t u h0 h1 hz v0 v1) ⟨ha, fun h' hs hg => ?_⟩))
  exact wpAny_pure (h h' hs hg)

theorem orM_ff {M : Model} {x y : Sem Bool} {Q : Bool → Shared → Prop} (h : wpAny M A x (fun b s' => b = false ∧ wpAny M A y Q E s') E s) : wpAny M A (x <||> y) Q E s := by
  unfold orM
  refine wpAny_bind (wpAny_mono h (fun b s' hb => ?_) fun _ _ e => e)
  obtain ⟨rfl, h'⟩ := hb
  exact h'

end

theorem li_no_int : typeLookup (.type "list") "__int__" = pure none := by rw [typeLookup_type, builtinLookup_eq_fast]; kernel_rfl
theorem li_no_float : typeLookup (.type "list") "__float__" = pure none := by rw [typeLookup_type, builtinLookup_eq_fast]; kernel_rfl
theorem li_sub_complex : isSubtype (.type "list") (.type "complex") = pure false := by rw [isSubtype_type]; kernel_rfl
theorem li_sub_ba : isSubtype (.type "list") (.type "bytearray") = pure false := by rw [isSubtype_type]; kernel_rfl

section
variable {prog : Program} {w : World} {A : Around} {s : Shared}

theorem ba_setSlice {a sl l : Addr} {b : Array UInt8} {vs : List Value} {ns : List Int} {i j : Int} {t u : Tok} {P : Fin → Shared → Prop} (hg : A.guards = some []) (ha : s.heap.get? a = some (baObj b)) (hs : s.heap.IsSliceOf sl (.int i t) (.int j u) .none)
    (hl : s.heap.IsList l vs.toArray) (hi : IntsAre vs ns) (hr : ∀ n ∈ ns, 0 ≤ n ∧ n < 256) (hz : b.size ≤ sizeLine) (h0 : 0 ≤ i) (hj : j = i + ns.length) (h1 : j ≤ b.size)
    (h : ∀ h', (∀ c o, c ≠ a → s.heap.get? c = some o → h'.get? c = some o) → h'.get? a = some (baObj (b.extract 0 i.toNat ++ byteArr ns ++ b.extract j.toNat b.size)) → P (.done (.ret .none)) { s with heap := h' }) :
    wpC (model prog w) A (Builtin.«bytearray.__setitem__» ⟨[.ref a, .ref sl, .ref l], []⟩) P s := by
  have hla : a ≠ l := by
    rintro rfl
    obtain ⟨o, ho, hc, _⟩ := hl
    rw [ha] at ho; cases ho; simp [baObj] at hc
  have hT : s.TypeIs (.ref sl) "slice" := by obtain ⟨o, ho, hc, _⟩ := hs; exact ⟨o, ho, hc⟩
  have hTl : s.TypeIs (.ref l) "list" := hl.typeIs
  have hz' := hz
  rw [sizeLine_eq] at hz'
  have hnz : ns.length ≤ sizeLine := by rw [sizeLine_eq]; omega
  unfold Builtin.«bytearray.__setitem__»
  refine if_f rfl ?_
  refine bindAny (subscript_slice hs ?_)
  refine bindAny (wpAny_typeOf hT ?_)
  refine if_f rfl ?_
  refine bindAny (sliceParts_ints hs ?_)
  refine if_f (by simp [Bytes.sameRef, hla]) ?_
  refine bindAny (wpAny_isInstance hTl li_sub_ba ?_)
  refine if_t rfl ?_
  refine bindAny (orM_ff (wpAny_bind (wpAny_specialOf hTl li_no_index (wpAny_pure ⟨rfl, ?_⟩))))
  refine orM_ff (wpAny_bind (wpAny_specialOf hTl li_no_int (wpAny_pure ⟨rfl, ?_⟩)))
  refine orM_ff (wpAny_bind (wpAny_specialOf hTl li_no_float (wpAny_pure ⟨rfl, ?_⟩)))
  refine wpAny_isInstance hTl li_sub_complex ?_
  obtain ⟨ol, hol, hoc, nl, hod⟩ := id hl
  refine bindAny (wpAny_bind (wpAny_load hol ?_))
  rw [hod]
  refine wpAny_pure ?_
  refine if_f rfl ?_
  refine bindAny (wpAny_rule ?_)
  refine bind_ (bytearray_list hg hl hi hr hnz fun h' hk hb => ?_)
  have hs' : h'.IsSliceOf sl (.int i t) (.int j u) .none := by obtain ⟨o, ho, r⟩ := hs; exact ⟨o, hk _ _ ho, r⟩
  have ha' := hk _ _ ha
  refine bind_ (holding_ (any (sliceParts_ints (s := { s with heap := h' }) hs' ?_)))
  refine bindAny (payload_ba (s := { s with heap := h' }) hb ?_)
  refine bindAny (payload_ba (s := { s with heap := h' }) ha' ?_)
  refine bind_ (of_eq (sliceIndices_raw (some i) (some j) none b.size (fun e => nomatch e)) ?_)
  have hlo : ((clipAt b.size i : Nat) : Int) = i := by rw [clipAt_cast, if_neg (by omega)]; omega
  have hhi : ((clipAt b.size j : Nat) : Int) = j := by rw [clipAt_cast, if_neg (by omega)]; omega
  rw [sliceBounds_plain]
  simp only [Option.elim, hlo, hhi]
  refine if_t rfl ?_
  refine bindAny (wpAny_rule ?_)
  have hmax : max i j = j := by omega
  refine if_f ?_ ?_
  · rw [byteArr_size, hmax, hj]; simp; omega
  refine bindAny (write_ba (s := { s with heap := h' }) ha' (b' := b.extract 0 i.toNat ++ byteArr ns ++ b.extract j.toNat b.size) ?_ ?_ fun h2 => ?_)
  · rw [hmax]
  · rw [sizeLine_eq]; simp only [Array.size_append, Array.size_extract, byteArr_size]; omega
  exact pure_ (h _ (fun c o hc e => (Heap.get?_update_other _ _ (Ne.symm hc)).trans (hk c o e)) h2)

theorem setItem_slice {a sl l : Addr} {b : Array UInt8} {vs : List Value} {ns : List Int} {i j : Int} {t u : Tok} {Q : Unit → Shared → Prop} (hg : A.guards = some []) (ha : s.heap.get? a = some (baObj b)) (hs : s.heap.IsSliceOf sl (.int i t) (.int j u) .none)
    (hl : s.heap.IsList l vs.toArray) (hi : IntsAre vs ns) (hr : ∀ n ∈ ns, 0 ≤ n ∧ n < 256) (hz : b.size ≤ sizeLine) (h0 : 0 ≤ i) (hj : j = i + ns.length) (h1 : j ≤ b.size)
    (h : ∀ h', (∀ c o, c ≠ a → s.heap.get? c = some o → h'.get? c = some o) → h'.get? a = some (baObj (b.extract 0 i.toNat ++ byteArr ns ++ b.extract j.toNat b.size)) → Q () { s with heap := h' }) :
    wpC (model prog w) A (setItem (.ref a) (.ref sl) (.ref l)) Q s := by
  unfold setItem
  refine holding_ ?_
  refine bindAny (wpAny_sequenceKey (ba_type ha) (by decide) ?_)
  unfold callSpecial?
  refine bind_ (bindAny (wpAny_specialOf (ba_type ha) ba_slot_set.lookup ?_))
  dsimp only
  refine holding_ (bind_ (of_eq (ba_slot_set.bind _) ?_))
  dsimp only
  refine bind_ (call_ ?_)
  refine code_call_builtin ba_plain_set (by decide +kernel) ba_entry_set (ba_slot_set.check _ _ _ _ _ _ _ _ (ba_type ha) (ba_args_set _ _ _) ?_)
  refine mono (ba_setSlice (A := A.in1) (P := fun fin s' => fin = .done (.ret .none) ∧ Q () s') hg ha hs hl hi hr hz h0 hj h1 fun h' hk hb => ⟨rfl, h h' hk hb⟩) ?_
  rintro fin s' ⟨rfl, hq⟩
  exact ⟨_, rfl, pure_ (pure_ hq)⟩
end

def IsBaIter (h : Heap) (a l : Addr) (i : Nat) : Prop := ∃ o, h.get? a = some o ∧ o.cls = .type "bytearray_iterator" ∧ o.data = .fields #[.ref l, .int i 0]
theorem iter_typeIs {s : Shared} {a l : Addr} {i : Nat} (y : IsBaIter s.heap a l i) : s.TypeIs (.ref a) "bytearray_iterator" :=
  let ⟨o, ho, hc, _⟩ := y; ⟨o, ho, hc⟩

section
variable {prog : Program} {w : World} {A : Around} {E : Value → Shared → Prop} {s : Shared}

theorem pyIter_ba {l : Addr} {b : Array UInt8} {Q : Value → Shared → Prop} (hl : s.heap.get? l = some (baObj b)) (hQ : Q (.ref s.heap.objs.size) { s with heap := s.heap.push { cls := .type "bytearray_iterator", data := .fields #[.ref l, .int 0 0] } }) :
    wpAny (model prog w) A (pyIter (.ref l)) Q E s := by
  refine wpAny_pyIter_slot (ba_type hl) ba_slot_iter (wpAny_call_entry ba_slot_iter (ba_type hl) ba_entry_iter ?_ (ba_args_iter _))
  show wpAny _ _ (do ret (← newFields "bytearray_iterator" [.ref l, rawInt 0])) _ _ s
  exact wpAny_bind (wpAny_newObj_type (wpAny_pure ⟨_, rfl, "bytearray_iterator", _, ⟨_, Heap.get?_push_size _ rfl, rfl⟩, bi_slot_next.lookup, hQ⟩))

theorem pyIter_bself {it l : Addr} {i : Nat} {Q : Value → Shared → Prop} (hit : IsBaIter s.heap it l i) (h : Q (.ref it) s) : wpAny (model prog w) A (pyIter (.ref it)) Q E s := by
  refine wpAny_pyIter_slot (iter_typeIs hit) bi_slot_self (wpAny_call_entry bi_slot_self (iter_typeIs hit) bi_entry_self ?_ (bi_args_self _))
  show wpAny _ _ (ret (.ref it)) _ _ s
  exact wpAny_pure ⟨_, rfl, "bytearray_iterator", _, iter_typeIs hit, bi_slot_next.lookup, h⟩

theorem next_ba {it l : Addr} {b : Array UInt8} {i : Nat} {c : UInt8} {Q : Option Value → Shared → Prop} (hit : IsBaIter s.heap it l i) (hl : s.heap.get? l = some (baObj b)) (hx : b[i]? = some c)
    (hQ : ∀ h', IsBaIter h' it l (i + 1) → Heap.SameBut it s.heap h' → Q (some (.int (c.toNat : Int) s.toks)) { s with heap := h', toks := s.toks + 1 }) : wpAny (model prog w) A (pyNext (.ref it)) Q E s := by
  obtain ⟨o, ho, hc, hd⟩ := id hit
  unfold pyNext
  refine wpAny_bind (wpAny_attempt (wpAny_callSpecial?_slot (name := Str.ofString "__next__") (iter_typeIs hit) bi_slot_next
    (wpAny_call_entry bi_slot_next (iter_typeIs hit) bi_entry_next ?_ (bi_args_next _))))
  show wpAny _ _ (field (.ref it) 0 >>= _) _ _ s
  refine wpAny_bind (wpAny_field ho hd (x := .ref l) rfl ?_)
  refine wpAny_bind (wpAny_load hl ?_)
  show wpAny _ _ (field (.ref it) 1 >>= _) _ _ s
  refine wpAny_bind (wpAny_field ho hd (x := .int i 0) rfl ?_)
  simp only [Int.toNat_natCast, hx]
  refine wpAny_bind (wpAny_setField ho hd (by simp) (wpAny_bind (wpAny_mkInt (wpAny_pure ⟨_, rfl, wpAny_pure (hQ _ ?_ (Heap.SameBut.update ..))⟩))))
  exact ⟨_, Heap.get?_update_self _ ho (Obj.isFreed_of_fields (Obj.data_mapFields hd _)), (Obj.cls_mapFields ..).trans hc, by
    rw [Obj.data_mapFields hd]; simp [rawInt]⟩

theorem next_ba_end {it l : Addr} {b : Array UInt8} {i : Nat} {Q : Option Value → Shared → Prop} (hh : A.handled = none) (hit : IsBaIter s.heap it l i) (hl : s.heap.get? l = some (baObj b)) (hx : b[i]? = none)
    (hQ : ∀ h', Heap.ExtBut it s.heap h' → Q none { s with heap := h' }) : wpAny (model prog w) A (pyNext (.ref it)) Q E s := by
  obtain ⟨o, ho, hc, hd⟩ := id hit
  unfold pyNext
  refine wpAny_bind (wpAny_attempt (wpAny_callSpecial?_slot (name := Str.ofString "__next__") (iter_typeIs hit) bi_slot_next
    (wpAny_call_entry bi_slot_next (iter_typeIs hit) bi_entry_next ?_ (bi_args_next _))))
  show wpAny _ _ (field (.ref it) 0 >>= _) _ _ s
  refine wpAny_bind (wpAny_field ho hd (x := .ref l) rfl ?_)
  refine wpAny_bind (wpAny_load hl ?_)
  show wpAny _ _ (field (.ref it) 1 >>= _) _ _ s
  refine wpAny_bind (wpAny_field ho hd (x := .int i 0) rfl ?_)
  simp only [Int.toNat_natCast, hx]
  refine wpAny_bind (wpAny_rule (wpAny_bind (wpAny_setField ho hd (by simp) ?_)))
  refine wpAny_bind (wpAny_letGo ?_)
  show wpAny _ _ (newExc (.type "StopIteration") [] >>= _) _ _ _
  refine wpAny_bind ?_
  simp only [newExc, newTuple]
  refine wpAny_bind (wpAny_newObj_type ?_ (by size_fits))
  refine wpAny_bind (m := firstArgMember _ _) (wpAny_of_eq (a := Value.none) (by first | rfl | (simp only [firstArgMember]; rfl)) ?_)
  refine wpAny_newObj_type ?_ (by size_fits)
  simp only [raiseNew]
  refine wpAny_bind (wpAny_handled ?_)
  rw [show A.in1.handled = none from hh]
  refine wpAny_bind (wpAny_pure (wpAny_throw ?_))
  refine wpAny_bind (wpAny_isInstance (T := "StopIteration") (b := true) ⟨_, Heap.get?_push_size _ rfl, rfl⟩ isSubtype_stop ?_)
  exact wpAny_pure (hQ _ (((Heap.SameBut.update ..).extBut.push _).push _))
end

theorem ba_walks {prog : Program} {w : World} {A : Around} (hh : A.handled = none) (I l : Addr) (hne : l ≠ I) (b : Array UInt8) :
    Walks prog w A I [I, l] [I] b.size (fun i v => ∃ c u, b[i]? = some c ∧ v = .int (c.toNat : Int) u) (fun i h => IsBaIter h I l i ∧ h.get? l = some (baObj b)) where
  sub := fun b hb => by simp at hb; simp [hb]
  frame := fun _ _ _ st hk => ⟨let ⟨o, ho, r⟩ := st.1; ⟨o, hk I (by simp) o ho, r⟩, hk l (by simp) _ st.2⟩
  item := fun i s Q E hi st hQ => by
    refine next_ba st.1 st.2 (c := b[i]) (by simp [hi]) fun h' hit' hs' => ?_
    exact hQ _ h' (s.toks + 1) ⟨_, _, by simp [hi], rfl⟩ ⟨hit', hs'.extBut l _ hne st.2⟩ fun b o hb e => hs'.extBut b o (fun h => hb (by simp [h])) e
  done := fun s Q E st hQ => next_ba_end hh st.1 st.2 (by simp) fun h' he' => hQ h' s.toks fun b o hb e => he' b o (fun h => hb (by simp [h])) e
  self := fun _ _ _ _ st hQ => pyIter_bself st.1 hQ
end Fl
end

section
open PySem.Calls
namespace Fl

theorem caller_clean : Clean ⟨.builtin "claim.caller" {}, none, none, [], none⟩ := ⟨by decide +kernel, fun _ h => nomatch h⟩

abbrev WalkS (q : Program) (loose : List Str) (XP : (Str → Option Value) → Heap → Prop) (YP : World → Heap → Prop) (r : RowW) (d : DefRec) (kwd : List (Str × PySem.Expr)) : Prop :=
  ∀ (w : World) (s₀ s₁ : Shared) (mg mb : Str → Option Value), Ground q loose r.records XP w s₀ mg mb s₁.heap → YP w s₁.heap → ∀ (a : Addr) (o : Obj) (pm cd doc dV kV : Value), s₁.heap.get? a = some o →
    o.data = .func { docDef d.name d.params d.body d.scope pm cd doc with defaults := dV, kwdefaults := kV } → s₁.heap.CodeRec cd d.name → Dflts mg s₁.heap d.params kwd dV kV → mg d.name = some (.ref a) → s₁.gens = #[] →
    ∀ (args : List WData) (vals : List Value) (as : List Addr), r.claim.pre args = true → WData.layableAll args = true → ReadsAllW r.records (classAt s₀.heap) s₁.heap vals args as → WellAll w.params s₁.heap vals args → (∀ a ∈ as, (a == sysModules) = false) →
      wpC (model r.prog w) callerA (PySem.call (.ref a) vals) (fun v s' => GoodWG r.claim (classAt s₀.heap) (ExcName.means s₀.heap) args s₁ (.ok (.ret v)) s') s₁

theorem thread_ends {prog : Program} {w : World} {t : Sem Fin} {s : Shared} {R : Flow → Shared → Prop} (hreg : s.asleep)
    (h : wpC (model prog w) callerA t (fun fin s' => ∃ f, fin = .done f ∧ R f s' ∧ leftWithCleanup s'.gens = false) s) :
    ∃ n f s' s'', runN (denote table) prog w n s ⟨t, .builtin "claim.caller" {}, default, []⟩ = .halted (.done f) s' ∧
      schedN (denote table) prog w n (.single s ⟨t, .builtin "claim.caller" {}, default, []⟩) = .halted (.done f) s' ∧ s'.forget = s''.forget ∧ R f s'' := by
  have h1 := h _ default caller_in caller_clean
  obtain ⟨n, r, s₁, s₂, hs, hn, hfo, f, rfl, hR⟩ := wp_halts_full (M := model prog w) (R := fun r s' => ∃ f, r = .ok f ∧ R f s') hreg
    (Sem.wp_mono _ _ _ (fun fin p s' ⟨f, e, a, b⟩ => by subst e; exact ⟨⟨f, rfl, a⟩, b⟩) (fun _ _ _ x => x.elim) _ _ h1)
  exact ⟨n, f, s₂, s₁, hn, hs, hfo, hR⟩

end Fl

theorem FlHead.PySem.W.holds_open {r : OpenRow} {q : Program} {loose : List Str} {Xt : Shared → Bool} {XP : (Str → Option Value) → Heap → Prop} {α : Type} {Yf : Shared → α} {Ya : World → α} {YP : World → Heap → Prop} {d : DefRec} {kwd : List (Str × PySem.Expr)} {N : Nat}
    (left : LeftO r.prog q loose Xt Yf Ya N) (hY : ∀ w s, Yf s = Ya w → YP w s.heap) (hYk : ∀ w h h', YP w h → (∀ b o, h.get? b = some o → h'.get? b = some o) → YP w h')
    (hX : ∀ s, Xt s = true → XP (s.heap.nsMap mainGlobals) s.heap) (hXk : ∀ mg h h', XP mg h → (∀ b o, h.get? b = some o → h'.get? b = some o) → XP mg h')
    (hdef : defOf q r.name = some (d, kwd)) (hp : r.prog.theDef r.name = some (d.params, d.body, d.scope)) (hk : kwWritten? d.params.kwonlyargs d.params.kw_defaults = some kwd) (hRf : ∀ s, Xt s = true → RecFacts r.records s.heap) (hwr : (!r.writes || r.records.isEmpty) = true)
    (k1 : r.wellSaid = true) (ok : (chainsOk q && opensWell r.prog && (frees r.toRowW && r.within.isEmpty)) = true) (hb : r.prog.bare) (hw : r.toRowW.promised)
    (call : Fl.WalkS q loose XP YP r.toRowW d kwd) : r.Holds := by
  refine ⟨k1, hw, ?_⟩
  obtain ⟨ok, k5⟩ := Bool.and_eq_true_iff.mp ok
  obtain ⟨hch, o1⟩ := Bool.and_eq_true_iff.mp ok
  obtain ⟨k5, k6⟩ := Bool.and_eq_true_iff.mp k5
  obtain ⟨hsame, hu, ha, hap, hm⟩ := frees_parts k5
  refine ⟨⟨hb, o1, by show r.toRowW.makers.map _ = []; rw [hm]; rfl⟩, hw.witness, fun w => ⟨(left.behind hX hch w).1, fun s' hs' => ?_⟩⟩
  obtain ⟨s₀, hf, hg0, s, hT, hz, hgens, hg, G00, y⟩ := (left.behind (XP := fun mg h => XP mg h ∧ RecFacts r.records h) (fun s hs => ⟨hX s hs, hRf s hs⟩) hch w).2 s' hs'
  have G0 : Ground q loose [] XP w s (s.heap.nsMap mainGlobals) (s.heap.nsMap builtinsNs) s.heap := ⟨G00.T, G00.B, G00.D, G00.TE, G00.TD, G00.W, G00.X.1, G00.cls, G00.has, G00.apart, G00.once, G00.K⟩
  have RF := G00.X.2
  refine ⟨s₀, hf, hg0, s, hT, fun n hn => ?_, RF.1, RF.2.1, ?_⟩
  · obtain rfl : n = r.name := by split at hn <;> simp_all
    exact pinned_of_view hg G0 hdef hp hk
  have hgens : s.gens = #[] := Array.eq_empty_of_size_eq_zero (beq_iff_eq.mp hgens)
  have G : Ground q loose r.records XP w s _ _ s.heap := RF.ground G0
  have hi := ident_freeW hu ha hap
  have hwi : r.toRowW.claim.within = [] := List.isEmpty_iff.mp k6
  intro args hpre hlay ord hord
  obtain ⟨⟨vs, s₁⟩, hlaid⟩ := Option.isSome_iff_exists.mp (layAllW_isSome (P := w.params) (ord := ord) G.has args r.args s (pre_splitW hpre).1)
  have keeps := layAllW_keeps _ _ _ hlaid
  have hal := layAllW_rest _ _ _ hlaid
  obtain ⟨as, hrd, hin, hold⟩ := reads_layAllW hord _ _ _ hlaid hlay s₁.heap (fun _ _ e => e)
  have L : Laid r.records w s s₁ args vs as := ⟨⟨ord, hord, hlaid⟩, hrd, hin, hold, keeps, hal.1.trans hgens, hal.2.2.1⟩
  have G₁ := G.keeps hXk keeps
  obtain ⟨a, o, pm, cd, doc, dV, kV, h1, h2, h3, h4, h5⟩ := G₁.fn hdef
  have h := call w s s₁ _ _ G₁ (hYk _ _ _ (hY w s y) keeps) a o pm cd doc dV kV h2 h3 h4 h5 (defOf_name hdef ▸ h1) L.gens args vs as hpre hlay L.reads L.well (L.low G.low)
  have hrun : Fl.wpC (model r.prog w) callerA (do match ← nsGet mainNs r.name with
      | some f => do ret (← PySem.call f vs)
      | none => unsupported "claim.caller:no-such-global") (fun fin s' => ∃ f, fin = .done f ∧ (r.toRowW.claim.Ends s args vs s₁ (.ok f) s' ∧ s'.os = s.os ∧ (r.writes = true → namesKept r.prog r.keeps s.heap s'.heap ∧ ∀ x ∈ r.records, ∀ a, classAt s.heap x.1 = some a → recordClass s'.heap a x.1 (x.2.map (·.1)) = true)) ∧ leftWithCleanup s'.gens = false) s₁ := by
    refine Fl.bindAny (wpAny_nsGet G₁.T.g ?_)
    rw [h1]
    refine Fl.bind_ (Fl.mono h fun v s' g => Fl.pure_ ?_)
    have z := g.laid (c := r.toRowW.claim) hsame hwi hi L
    exact ⟨_, rfl, ⟨z.1, z.2.1, fun q => ⟨namesKept_of hT hg r.keeps keeps g.2.1.old, noTable hwr q⟩⟩, leftWithCleanup_false_of_bare z.2.2⟩
  obtain ⟨k, f, s', s'', hrn, hsched, hfo, hcase, hos, hkp⟩ := Fl.thread_ends (prog := r.prog) (w := w) (Shared.asleep_of_life hal.2.2.2 hz) hrun
  obtain ⟨eh, _, _, eo, _⟩ := Shared.forget_eq hfo
  have hcase := hcase.congr eh
  rw [← eh] at hkp
  rw [← eo] at hos
  have hlife : s'.heap.life = s.heap.life := (runN_life _ _ _ hrn).trans hal.2.2.2
  refine ⟨vs, s₁, hlaid, k, _, s', hsched, ?_, (fun _ i x hx => by rw [hgens] at hx; simp at hx), hkp, by rw [hlife], Shared.rest_eq hos⟩
  rcases hcase with ⟨v, e, d1, d2, d3, d4, d5⟩ | ⟨e, ob, cls, e', _⟩
  · cases e
    exact .inl ⟨v, rfl, d1, d2, d3, fun b o y _ => d4 b o y, d5⟩
  · cases e'
end

section
open PySem.Calls
namespace Fl
section
variable {prog : Program} {w : World} {A : Around} {s : Shared}

theorem code_func {body : List Stmt} {env : Env} {R : Flow → Shared → Prop}
    (h : wpC (model prog w) (A.deeper env) (execs body env) (fun f s' => R (.ret (match f with | .ret v => v | _ => .none)) s') s) : codeC (model prog w) A (.func body env) R s := by
  refine code_tree rfl ?_
  show wpC _ (A.deeper env) (do point; match ← (execs body env).onRaise (leaving env) with | .ret v => ret v | _ => ret .none) _ s
  refine bindAny (wpAny_point (bind_ (onRaise_ (mono h fun f s' h' => ?_))))
  cases f <;> exact pure_ h'

theorem code_call {a : Addr} {o : Obj} {name : Str} {params : Arguments} {body : List Stmt} {scope : Scope} {pm cd doc : Value} {args : List Value} {binds : List (Str × Value)} {R : Flow → Shared → Prop}
    (hroom : A.depth < recursionLimit) (ho : s.heap.get? a = some o) (hdata : o.data = .func (docDef name params body scope pm cd doc)) (hlim : s.heap.NoLimit) (hcd : s.heap.CodeRec cd name)
    (hbind : bindArgs (docDef name params body scope pm cd doc) ⟨args, []⟩ = pure binds) (hloc : ∀ x ∈ binds, scope.names.lookup x.1 = some .local)
    (h : ∀ h₁, Fr s.heap s.heap.objs.size h₁ (fun x => binds.reverse.lookup x) →
      wpC (model prog w) (A.deeper (envOf name scope s.heap.objs.size a cd)) (execs body (envOf name scope s.heap.objs.size a cd)) (fun f s' => R (.ret (match f with | .ret v => v | _ => .none)) s') { s with heap := h₁, toks := s.toks + binds.length })
    (hco : scope.isCoroutine = false := by rfl) (hgen : scope.isGenerator = false := by rfl) (hk : scope.kind = .function := by rfl) (hcell : ∀ x ∈ scope.names, x.2 ≠ .cell := by decide) :
    codeC (model prog w) A (.call (.ref a) ⟨args, []⟩) R s := by
  refine code_tree rfl ?_
  show wpC _ A.in1 (callAny (.ref a) ⟨args, []⟩) _ s
  simp only [callAny]
  refine bindAny (wpAny_load ho ?_)
  obtain ⟨c, oc, vs, tq, hc, hoc, hdc, hq⟩ := hcd
  subst hc
  simp only [hdata, callFunction, docDef, hco, hgen]
  refine bindAny (wpAny_field hoc hdc hq ?_)
  show wpC _ _ (bindArgs (docDef name params body scope pm (.ref c) doc) ⟨args, []⟩ >>= _) _ _
  rw [hbind]
  refine bind_ (pure_ ?_)
  refine bindAny (wpAny_newFunctionEnv hcell hloc (fun h₁ hns hsb => ?_) hk)
  refine bindAny (wpAny_enterFrame (hlim.fresh _ hsb) hroom ?_)
  exact pure_ ⟨rfl, code_func (h h₁ ⟨hns, fun b o e => hsb.extBut b o (Nat.ne_of_lt (Heap.lt_size e)) (Heap.get?_push_of_some _ e), Nat.le_refl _⟩)⟩
end
end Fl
end

section
open PySem.Calls
namespace Fl
section
variable {prog : Program} {w : World} {A : Around} {s : Shared} {env : Env} {h₀ : Heap}

theorem code_forLoop {target : Expr} {it : Value} {body : List Stmt} {R : Flow → Shared → Prop} (I : Nat → Shared → Prop)
    (turn : ∀ n s, I n s → wpAny (model prog w) A (pyNext it) (fun r s₁ => match r with
      | none => R .next s₁
      | some v => wpAny (model prog w) A (assign target env v) (fun _ s₂ => wpC (model prog w) A (execs body env) (fun f s₃ => match f with
          | .next | .cont => ∃ m, m < n ∧ I m s₃
          | .brk => R .next s₃
          | .ret v => R (.ret v) s₃) s₂) (fun _ _ => False) s₁) (fun _ _ => False) s)
    (n : Nat) (h : I n s) (ht : ∀ v, letOwnedTupleGo target it v = pure () := by intro _; rfl) : codeC (model prog w) A (.forLoop target it body [] env) R s := by
  refine code_loop rfl rfl I (fun n s hI => ?_) n h
  show wpC _ _ ((forTurn target it body [] env).onRaise (fun x => do noteFrame x env; theTreesLotGoes x)) _ s
  refine onRaise_ ?_
  simp only [forTurn]
  refine bindAny (wpAny_standAt (bindAny (wpAny_onRaise (wpAny_mono (turn n s hI) (fun r s₁ h₁ => ?_) fun _ _ x => x.elim))))
  cases r with
  | none => exact pure_ (.inr ⟨rfl, codeAnyC (codeAny_block (wpAny_execs_nil ⟨_, rfl, h₁⟩))⟩)
  | some v =>
    refine bind_ (of_eq (ht v) ?_)
    refine bindAny (wpAny_mono h₁ (fun _ s₂ h₂ => bind_ (mono h₂ fun f s₃ h₃ => ?_)) fun _ _ x => x)
    cases f with
    | next => exact pure_ (.inl ⟨rfl, h₃⟩)
    | cont => exact pure_ (.inl ⟨rfl, h₃⟩)
    | brk => exact pure_ h₃
    | ret v => exact pure_ h₃

theorem For_ {target iter : Expr} {body : List Stmt} {pos : Pos} {Q : Flow → Shared → Prop}
    (h : wpAny (model prog w) A (eval iter env) (fun x s₁ => wpAny (model prog w) A (pyIter x) (fun it s₂ => codeC (model prog w) A (.forLoop target it body [] env) Q s₂) (fun _ _ => False) s₁) (fun _ _ => False) s)
    (hs : ∀ x, foldedSetIterable iter env x = pure x := by intro _; rfl) : wpC (model prog w) A (exec (.For target iter body [] pos) env) Q s := by
  rw [exec_For]
  exact bindAny (wpAny_standAt (bindAny (wpAny_mono h (fun x s₁ h₁ => bind_ (of_eq (hs x) (bindAny (wpAny_standAt (bindAny (wpAny_holding (wpAny_mono h₁ (fun it s₂ h₂ => runOwn_ h₂) fun _ _ x => x))))))) fun _ _ x => x)))

def TurnEnd (s : Shared) (h₀ : Heap) (L : Addr) (it : Addr × Obj) (J : (Str → Option Value) → List (Addr × Obj) → Prop) (Q : Flow → Shared → Prop) (f : Flow) (s₃ : Shared) : Prop := match f with
  | .next | .cont => ∃ h'' tk'' m'' nx'', s₃ = { s with heap := h'', toks := tk'' } ∧ Fr h₀ L h'' m'' ∧ News h₀ L h'' (nx'' ++ [it]) ∧ (∀ p ∈ nx'', p.1 ≠ it.1) ∧ J m'' nx''
  | .brk => Q .next s₃
  | .ret v => Q (.ret v) s₃

theorem loop_list {x : Str} {px : Pos} {body : List Stmt} {l : Addr} {vs : List Value} {m : Str → Option Value} {news : List (Addr × Obj)} {Q : Flow → Shared → Prop} (J : Nat → (Str → Option Value) → List (Addr × Obj) → Prop)
    (hh : A.handled = none) (hx : env.kindOf x = some .local) (hp : (env.scope.kind == .class || (env.scope.kind == .module && env.locals != env.globals)) = false)
    (F : Fr h₀ env.locals s.heap m) (N : News h₀ env.locals s.heap news) (hJ : J 0 m news)
    (hl : ∀ i m' nx h', J i m' nx → Fr h₀ env.locals h' m' → News h₀ env.locals h' nx → h'.IsList l vs.toArray)
    (turn : ∀ i v m' nx h' tk it, vs[i]? = some v → J i m' nx → (∀ p ∈ nx, p.1 ≠ it.1) → Fr h₀ env.locals h' (fun y => if y = x then some v else m' y) → News h₀ env.locals h' (nx ++ [it]) →
      wpC (model prog w) A (execs body env) (TurnEnd s h₀ env.locals it (J (i + 1)) Q) { s with heap := h', toks := tk })
    (done : ∀ m' nx h' tk, J vs.length m' nx → Fr h₀ env.locals h' m' → News h₀ env.locals h' nx → Q .next { s with heap := h', toks := tk }) :
    wpAny (model prog w) A (pyIter (.ref l)) (fun it s₂ => codeC (model prog w) A (.forLoop (.Name x px) it body [] env) Q s₂) (fun _ _ => False) s := by
  refine wpAny_pyIter_list (hl 0 m news _ hJ F N) ?_
  let I := s.heap.objs.size
  have hIb : h₀.get? I = none := by
    cases q : h₀.get? I with
    | none => rfl
    | some o => exact absurd (Heap.lt_size (F.keep _ _ q)) (Nat.lt_irrefl _)
  have hIL : env.locals ≠ I := Nat.ne_of_lt F.ns.lt
  have keepAll : ∀ {h h' : Heap} {m' : Str → Option Value} {nx : List (Addr × Obj)}, Fr h₀ env.locals h m' → News h₀ env.locals h nx → (∀ p ∈ nx, p.1 ≠ I) → (∀ b o, b ≠ I → h.get? b = some o → h'.get? b = some o) → Fr h₀ env.locals h' m' ∧ News h₀ env.locals h' nx := by
    intro h h' m' nx F' N' hn hk
    refine ⟨⟨F'.ns.at' fun o e => hk _ o hIL e, fun b o e => hk b o (fun q => by rw [q, hIb] at e; cases e) (F'.keep b o e), F'.above⟩, fun p hp => ⟨hk _ _ (hn p hp) (N' p hp).1, (N' p hp).2⟩⟩
  refine code_forLoop (fun k s' => ∃ h' tk m' nx i, s' = { s with heap := h', toks := tk } ∧ h'.IsListIter I l i ∧ Fr h₀ env.locals h' m' ∧ News h₀ env.locals h' nx ∧ (∀ p ∈ nx, p.1 ≠ I) ∧ J i m' nx ∧ i ≤ vs.length ∧ k = vs.length + 1 - i) ?_ (vs.length + 1)
    ⟨_, s.toks, m, news, 0, rfl, ⟨_, Heap.get?_push_size _ rfl, rfl, rfl⟩, F.push _, (fun p hp => ⟨Heap.get?_push_of_some _ (N p hp).1, (N p hp).2⟩), (fun p hp => Nat.ne_of_lt (Heap.lt_size (N p hp).1)), hJ, Nat.zero_le _, rfl⟩
  rintro k s' ⟨h', tk, m', nx, i, rfl, hit, F', N', hn, hJ', hi, rfl⟩
  have hlist := hl i m' nx h' hJ' F' N'
  by_cases hlt : i < vs.length
  · refine wpAny_pyNext_list_item (s := { s with heap := h', toks := tk }) hit hlist (x := vs[i]) (by simp [hlt]) fun h₁ hit₁ hs₁ => ?_
    obtain ⟨F₁, N₁⟩ := keepAll F' N' hn fun b o hb e => hs₁.extBut b o hb e
    refine wpAny_assign_Name (wpAny_storeName_local hx F₁.ns (fun h₂ hn₂ hs₂ => ?_) hp)
    have F₂ := F₁.set hn₂ hs₂
    have N₂ := N₁.set hs₂
    obtain ⟨io, hio, hic, hid⟩ := id hit₁
    have hio₂ : h₂.get? I = some io := (hs₂.2 I (Ne.symm hIL)).trans hio
    refine mono (turn i vs[i] m' nx h₂ _ (I, io) (by simp [hlt]) hJ' hn F₂ ?_) fun f s₃ h₃ => ?_
    · intro p hp
      rcases List.mem_append.mp hp with hp | hp
      · exact N₂ p hp
      · rw [List.mem_singleton.mp hp]; exact ⟨hio₂, Ne.symm hIL, hIb⟩
    · have fin : (∃ h'' tk'' m'' nx'', s₃ = { s with heap := h'', toks := tk'' } ∧ Fr h₀ env.locals h'' m'' ∧ News h₀ env.locals h'' (nx'' ++ [(I, io)]) ∧ (∀ p ∈ nx'', p.1 ≠ I) ∧ J (i + 1) m'' nx'') →
          ∃ k', k' < vs.length + 1 - i ∧ ∃ h' tk m' nx i, s₃ = { s with heap := h', toks := tk } ∧ h'.IsListIter I l i ∧ Fr h₀ env.locals h' m' ∧ News h₀ env.locals h' nx ∧ (∀ p ∈ nx, p.1 ≠ I) ∧ J i m' nx ∧ i ≤ vs.length ∧ k' = vs.length + 1 - i := by
        rintro ⟨h'', tk'', m'', nx'', e, F'', N'', ho, hJ''⟩
        exact ⟨vs.length + 1 - (i + 1), by omega, h'', tk'', m'', nx'', i + 1, e, ⟨io, (N'' (I, io) (List.mem_append_right _ (.head _))).1, hic, hid⟩, F'', (fun p hp => N'' p (List.mem_append_left _ hp)), ho, hJ'', hlt, rfl⟩
      cases f with
      | next => exact fin h₃
      | cont => exact fin h₃
      | brk => exact h₃
      | ret v => exact h₃
  · have hin : i = vs.length := by omega
    subst hin
    refine wpAny_pyNext_list_end (s := { s with heap := h', toks := tk }) hh hit hlist (by simp) fun h₁ he₁ => ?_
    obtain ⟨F₁, N₁⟩ := keepAll F' N' hn fun b o hb e => he₁ b o hb e
    exact done m' nx h₁ tk hJ' F₁ N₁
end
end Fl
end

section
open PySem.Calls
namespace Fl
section
variable {M : Model} {A : Around} {s : Shared} {env : Env}

theorem spliced_nil_ {Q : List Value → Shared → Prop} (h : Q [] s) : wpC M A (spliced []) Q s := pure_ h
theorem spliced_cons_ {x : Sem Value} {rest : List (Bool × Sem Value)} {Q : List Value → Shared → Prop}
    (h : wpC M A x (fun v s₁ => wpC M A (spliced rest) (fun vs s₂ => Q (v :: vs) s₂) s₁) s) : wpC M A (spliced ((false, x) :: rest)) Q s := by
  unfold spliced
  refine bind_ (mono h fun v s₁ h₁ => ?_)
  rw [if_neg Bool.false_ne_true]
  exact bind_ (pure_ (bind_ (holding_ (mono h₁ fun vs s₂ h₂ => pure_ h₂))))

theorem args_nil_ {pos : Pos} {Q : List Value → Shared → Prop} (h : Q [] s) : wpC M A (spliced (backTo pos (starEach [] env))) Q s := spliced_nil_ h
theorem args_cons_ {e : PySem.Expr} {rest : List PySem.Expr} {pos : Pos} {Q : List Value → Shared → Prop}
    (h : wpC M A (eval e env) (fun v s₁ => wpC M A (spliced (backTo pos (starEach rest env))) (fun vs s₂ => Q (v :: vs) s₂) s₁) s)
    (he : starEach (e :: rest) env = (false, eval e env) :: starEach rest env := by rfl) : wpC M A (spliced (backTo pos (starEach (e :: rest) env))) Q s := by
  rw [he]; exact spliced_cons_ h

theorem callWith_ {pos : Pos} {f : Value} {k : Keeper} {e : PySem.Expr} {rest : List PySem.Expr} {Q : Value → Shared → Prop}
    (hk : k = .frame ∨ k = .machine) (h : wpC M A (spliced (backTo pos (starEach (e :: rest) env))) (fun vs s₁ => Looks M s₁.heap (keeperOf f) k ∧ wpC M A (call f vs []) Q s₁) s)
    (he : starEach (e :: rest) env = (false, eval e env) :: starEach rest env := by rfl) (hplain : (backTo pos (starEach rest env)).any (·.1) = false := by rfl) :
    wpC M A (callWith pos f [] (backTo pos (starEach (e :: rest) env)) []) Q s := by
  have hp : (backTo pos (starEach (e :: rest) env)).any (·.1) = false := by rw [he]; show (false || (backTo pos (starEach rest env)).any (·.1)) = false; rw [hplain]; rfl
  have hlone : ∀ {Q' : Args → Shared → Prop}, wpC M A (spliced (backTo pos (starEach (e :: rest) env))) (fun vs s₁ => Q' ⟨vs, []⟩ s₁) s → wpC M A (evalArgs f true (backTo pos (starEach (e :: rest) env)) []) Q' s := by
    intro Q' h'
    rw [he] at h' ⊢
    unfold evalArgs
    show wpC M A (spliced ((false, _) :: backTo pos (starEach rest env)) >>= _) Q' s
    refine bind_ (mono h' fun vs s₁ h₁ => ?_)
    exact holding_ (bind_ (pure_ (bind_ (pure_ (pure_ h₁)))))
  unfold callWith
  refine bind_ (holding_ (hlone (mono h fun vs s₁ h₁ => bindAny (wpAny_standAt ?_))))
  obtain ⟨L, hc⟩ := h₁
  simp only [hp, List.any_nil, Bool.or_false, List.nil_append]
  refine bindAny (L.here ?_)
  have tail : ∀ {t : Sem Value}, wpC M A t Q s₁ → wpC M A (t >>= fun r => holding [r] point >>= fun _ => pure r) Q s₁ :=
    fun ht => bind_ (mono ht fun r s₂ hr => bind_ (holding_ (any (wpAny_point (pure_ hr)))))
  rcases hk with rfl | rfl
  · dsimp only
    split
    · exact tail hc
    · exact tail (by unfold callMarked; exact keep_ hc)
  · exact tail hc

theorem AssignSub_ {o i : PySem.Expr} {pos' pos : Pos} {value : PySem.Expr} {Q : Flow → Shared → Prop}
    (h : wpAny M A (eval value env) (fun v s₁ => wpAny M A (eval o env) (fun ov s₂ => wpAny M A (eval i env) (fun iv s₃ =>
      wpC M A (setItem ov iv v) (fun _ => Q .next) s₃) (fun _ _ => False) s₂) (fun _ _ => False) s₁) (fun _ _ => False) s)
    (hs : swapsWith value (some (.Subscript o i pos')) pos.line env = pure false := by rfl) :
    wpC M A (exec (.Assign [.Subscript o i pos'] value pos) env) Q s := fun Γ p hΓ hc => by
  simp only [exec_Assign_Subscript o i pos' value pos hs, assign_Subscript, Sem.wp_bind', Sem.wp_holding, Sem.wp_cmd_standAt, Sem.wp_release, Sem.wp_pure']
  exact Sem.wp_mono M Γ _ (fun v p₁ s₁ h₁ => Sem.wp_mono M Γ _ (fun ov p₂ s₂ h₂ => Sem.wp_mono M Γ _ (fun iv _ s₃ h₃ => h₃ Γ _ hΓ hc)
    (fun _ _ _ h' => h') _ _ (h₂ Γ p₂ hΓ)) (fun _ _ _ h' => h') _ _ (h₁ Γ p₁ hΓ)) (fun _ _ _ h' => h') _ _ (h Γ _ hΓ)

theorem keeper_type {h : Heap} {T : String} : Looks M h (keeperOf (.type T)) .machine := Looks.of_pure rfl
theorem keeper_func {h : Heap} {a : Addr} {o : Obj} {fd : FuncData} (ho : h.get? a = some o) (hd : o.data = .func fd) : Looks M h (keeperOf (.ref a)) .frame := by
  refine (Looks.ld (part := none) ho).andThen ?_
  rw [hd]
  exact .now
end
end Fl
end

section
open PySem.Calls
namespace Fl
section
variable {prog : Program} {w : World} {A : Around} {s : Shared} {env : Env} {h₀ : Heap}

theorem code_while {test : PySem.Expr} {body : List Stmt} {R : Flow → Shared → Prop} (I : Nat → Shared → Prop)
    (turn : ∀ n s, I n s → wpAny (model prog w) A (isTrue test env (eval test env)) (fun b s₂ =>
        if b then wpC (model prog w) A (execs body env) (fun f s₃ => match f with
            | .next | .cont => ∃ m, m < n ∧ I m s₃
            | .brk => R .next s₃
            | .ret v => R (.ret v) s₃) s₂
        else R .next s₂) (fun _ _ => False) s)
    (n : Nat) (h : I n s) : codeC (model prog w) A (.whileLoop test body [] env) R s := by
  refine code_loop rfl rfl I (fun n s hI => ?_) n h
  show wpC _ A ((whileTurn test body [] env).onRaise (fun x => do noteFrame x env; theTreesLotGoes x)) _ s
  refine onRaise_ ?_
  simp only [whileTurn]
  refine bindAny (wpAny_mono (turn n s hI) (fun b s₂ h₂ => ?_) fun _ _ x => x)
  cases b with
  | false =>
    simp only [Bool.false_eq_true, if_false] at h₂ ⊢
    exact bind_ (pure_ (pure_ h₂))
  | true =>
    simp only [if_true] at h₂ ⊢
    refine bind_ (mono h₂ fun f s₃ h₃ => ?_)
    cases f with
    | next => exact pure_ (.inl ⟨rfl, h₃⟩)
    | cont => exact pure_ (.inl ⟨rfl, h₃⟩)
    | brk => exact pure_ h₃
    | ret v => exact pure_ h₃

theorem While_ {test : PySem.Expr} {body : List Stmt} {pos : Pos} {Q : Flow → Shared → Prop} (h : codeC (model prog w) A (.whileLoop test body [] env) Q s) : wpC (model prog w) A (exec (.While test body [] pos) env) Q s := by
  rw [exec_While]; exact bindAny (wpAny_standAt (runOwn_ h))

theorem loop_gen {x : Str} {px : Pos} {body : List Stmt} {I : Addr} {io₀ : Obj} {n : Nat} {P : Nat → Value → Prop} {It : Nat → Heap → Prop} {Src : Heap → Prop} {m : Str → Option Value} {news : List (Addr × Obj)} {Q : Flow → Shared → Prop} (J : Nat → (Str → Option Value) → List (Addr × Obj) → Prop)
    (hx : env.kindOf x = some .local) (hp : (env.scope.kind == .class || (env.scope.kind == .module && env.locals != env.globals)) = false)
    (hI : I = s.heap.objs.size) (F : Fr h₀ env.locals s.heap m) (N : News h₀ env.locals s.heap news) (hJ : J 0 m news)
    (it0 : It 0 (s.heap.push io₀)) (itIs : ∀ i h, It i h → ∃ o, h.get? I = some o) (itKeep : ∀ i h h', It i h → h'.get? I = h.get? I → It i h')
    (item : ∀ i (s : Shared) (Q : Option Value → Shared → Prop), i < n → It i s.heap → Src s.heap → (∀ v h' tk, P i v → It (i + 1) h' → (∀ b o, b ≠ I → s.heap.get? b = some o → h'.get? b = some o) → Q (some v) { s with heap := h', toks := tk }) → wpAny (model prog w) A (pyNext (.ref I)) Q (fun _ _ => False) s)
    (over : ∀ (s : Shared) (Q : Option Value → Shared → Prop), It n s.heap → Src s.heap → (∀ h' tk, (∀ b o, b ≠ I → s.heap.get? b = some o → h'.get? b = some o) → Q none { s with heap := h', toks := tk }) → wpAny (model prog w) A (pyNext (.ref I)) Q (fun _ _ => False) s)
    (hl : ∀ i m' nx h', J i m' nx → Fr h₀ env.locals h' m' → News h₀ env.locals h' nx → Src h')
    (turn : ∀ i v m' nx h' tk it, i < n → P i v → J i m' nx → (∀ p ∈ nx, p.1 ≠ it.1) → Fr h₀ env.locals h' (fun y => if y = x then some v else m' y) → News h₀ env.locals h' (nx ++ [it]) →
      wpC (model prog w) A (execs body env) (TurnEnd s h₀ env.locals it (J (i + 1)) Q) { s with heap := h', toks := tk })
    (done : ∀ m' nx h' tk, J n m' nx → Fr h₀ env.locals h' m' → News h₀ env.locals h' nx → Q .next { s with heap := h', toks := tk }) :
    codeC (model prog w) A (.forLoop (.Name x px) (.ref I) body [] env) Q { s with heap := s.heap.push io₀ } := by
  have hIb : h₀.get? I = none := by
    rw [hI]
    cases q : h₀.get? s.heap.objs.size with
    | none => rfl
    | some o => exact absurd (Heap.lt_size (F.keep _ _ q)) (Nat.lt_irrefl _)
  have hIL : env.locals ≠ I := by rw [hI]; exact Nat.ne_of_lt F.ns.lt
  have keepAll : ∀ {h h' : Heap} {m' : Str → Option Value} {nx : List (Addr × Obj)}, Fr h₀ env.locals h m' → News h₀ env.locals h nx → (∀ p ∈ nx, p.1 ≠ I) → (∀ b o, b ≠ I → h.get? b = some o → h'.get? b = some o) → Fr h₀ env.locals h' m' ∧ News h₀ env.locals h' nx := by
    intro h h' m' nx F' N' hn hk
    refine ⟨⟨F'.ns.at' fun o e => hk _ o hIL e, fun b o e => hk b o (fun q => by rw [q, hIb] at e; cases e) (F'.keep b o e), F'.above⟩, fun p hp => ⟨hk _ _ (hn p hp) (N' p hp).1, (N' p hp).2⟩⟩
  refine code_forLoop (fun k s' => ∃ h' tk m' nx i, s' = { s with heap := h', toks := tk } ∧ It i h' ∧ Fr h₀ env.locals h' m' ∧ News h₀ env.locals h' nx ∧ (∀ p ∈ nx, p.1 ≠ I) ∧ J i m' nx ∧ i ≤ n ∧ k = n + 1 - i) ?_ (n + 1)
    ⟨_, s.toks, m, news, 0, rfl, it0, F.push _, (fun p hp => ⟨Heap.get?_push_of_some _ (N p hp).1, (N p hp).2⟩), (fun p hp => by rw [hI]; exact Nat.ne_of_lt (Heap.lt_size (N p hp).1)), hJ, Nat.zero_le _, rfl⟩
  rintro k s' ⟨h', tk, m', nx, i, rfl, hit, F', N', hn, hJ', hi, rfl⟩
  have hsrc := hl i m' nx h' hJ' F' N'
  by_cases hlt : i < n
  · refine item i { s with heap := h', toks := tk } _ hlt hit hsrc fun v h₁ tk₁ hv hit₁ hs₁ => ?_
    obtain ⟨F₁, N₁⟩ := keepAll F' N' hn hs₁
    refine wpAny_assign_Name (wpAny_storeName_local hx F₁.ns (fun h₂ hn₂ hs₂ => ?_) hp)
    have F₂ := F₁.set hn₂ hs₂
    have N₂ := N₁.set hs₂
    obtain ⟨io, hio⟩ := itIs _ _ hit₁
    have hio₂ : h₂.get? I = some io := (hs₂.2 I (Ne.symm hIL)).trans hio
    refine mono (turn i v m' nx h₂ _ (I, io) hlt hv hJ' hn F₂ ?_) fun f s₃ h₃ => ?_
    · intro p hp
      rcases List.mem_append.mp hp with hp | hp
      · exact N₂ p hp
      · rw [List.mem_singleton.mp hp]; exact ⟨hio₂, Ne.symm hIL, hIb⟩
    · have fin : (∃ h'' tk'' m'' nx'', s₃ = { s with heap := h'', toks := tk'' } ∧ Fr h₀ env.locals h'' m'' ∧ News h₀ env.locals h'' (nx'' ++ [(I, io)]) ∧ (∀ p ∈ nx'', p.1 ≠ I) ∧ J (i + 1) m'' nx'') →
          ∃ k', k' < n + 1 - i ∧ ∃ h' tk m' nx i, s₃ = { s with heap := h', toks := tk } ∧ It i h' ∧ Fr h₀ env.locals h' m' ∧ News h₀ env.locals h' nx ∧ (∀ p ∈ nx, p.1 ≠ I) ∧ J i m' nx ∧ i ≤ n ∧ k' = n + 1 - i := by
        rintro ⟨h'', tk'', m'', nx'', e, F'', N'', ho, hJ''⟩
        exact ⟨n + 1 - (i + 1), by omega, h'', tk'', m'', nx'', i + 1, e, itKeep _ _ _ hit₁ ((N'' (I, io) (List.mem_append_right _ (.head _))).1.trans hio.symm), F'', (fun p hp => N'' p (List.mem_append_left _ hp)), ho, hJ'', hlt, rfl⟩
      cases f with
      | next => exact fin h₃
      | cont => exact fin h₃
      | brk => exact h₃
      | ret v => exact h₃
  · have hin : i = n := by omega
    subst hin
    refine over { s with heap := h', toks := tk } _ hit hsrc fun h₁ tk₁ he₁ => ?_
    obtain ⟨F₁, N₁⟩ := keepAll F' N' hn he₁
    exact done m' nx h₁ tk₁ hJ' F₁ N₁

theorem loop_ba {x : Str} {px : Pos} {body : List Stmt} {l : Addr} {b : Array UInt8} {m : Str → Option Value} {news : List (Addr × Obj)} {Q : Flow → Shared → Prop} (J : Nat → (Str → Option Value) → List (Addr × Obj) → Prop)
    (hh : A.handled = none) (hx : env.kindOf x = some .local) (hp : (env.scope.kind == .class || (env.scope.kind == .module && env.locals != env.globals)) = false)
    (F : Fr h₀ env.locals s.heap m) (N : News h₀ env.locals s.heap news) (hJ : J 0 m news)
    (hl : ∀ i m' nx h', J i m' nx → Fr h₀ env.locals h' m' → News h₀ env.locals h' nx → h'.get? l = some (baObj b))
    (turn : ∀ i (c : UInt8) t m' nx h' tk it, i < b.size → b[i]? = some c → J i m' nx → (∀ p ∈ nx, p.1 ≠ it.1) → Fr h₀ env.locals h' (fun y => if y = x then some (.int c.toNat t) else m' y) → News h₀ env.locals h' (nx ++ [it]) →
      wpC (model prog w) A (execs body env) (TurnEnd s h₀ env.locals it (J (i + 1)) Q) { s with heap := h', toks := tk })
    (done : ∀ m' nx h' tk, J b.size m' nx → Fr h₀ env.locals h' m' → News h₀ env.locals h' nx → Q .next { s with heap := h', toks := tk }) :
    wpAny (model prog w) A (pyIter (.ref l)) (fun it s₂ => codeC (model prog w) A (.forLoop (.Name x px) it body [] env) Q s₂) (fun _ _ => False) s := by
  refine pyIter_ba (hl 0 m news _ hJ F N) ?_
  have h0 := hl 0 m news _ hJ F N
  refine loop_gen (P := fun i v => ∃ c t, b[i]? = some c ∧ v = .int (c.toNat : Int) t) (It := fun i h => IsBaIter h s.heap.objs.size l i) (Src := fun h => h.get? l = some (baObj b)) J hx hp rfl F N hJ ⟨_, Heap.get?_push_size _ rfl, rfl, rfl⟩ (fun i h y => let ⟨o, ho, _⟩ := y; ⟨o, ho⟩)
    (fun i h h' y e => let ⟨o, ho, r⟩ := y; ⟨o, e.trans ho, r⟩) (fun i s' Q' hi y hs hQ => ?_) (fun s' Q' y hs hQ => next_ba_end hh y hs (by simp) fun h' he => hQ h' _ he) hl (fun i v m' nx h' tk it hi hP hJ' hn F' N' => ?_) done
  · exact next_ba y hs (c := b[i]) (by simp [hi]) fun h' hit' hs' => hQ _ h' _ ⟨_, _, by simp [hi], rfl⟩ hit' fun b o hb e => hs'.extBut b o hb e
  · obtain ⟨c, t, hc, rfl⟩ := hP
    exact turn i c t m' nx h' tk it hi hc hJ' hn F' N'

theorem loop_range {x : Str} {px : Pos} {body : List Stmt} {r : Addr} {a₀ b₀ : Int} {t₀ u₀ v₀ : Tok} {n : Nat} {m : Str → Option Value} {news : List (Addr × Obj)} {Q : Flow → Shared → Prop} (J : Nat → (Str → Option Value) → List (Addr × Obj) → Prop)
    (hh : A.handled = none) (hx : env.kindOf x = some .local) (hp : (env.scope.kind == .class || (env.scope.kind == .module && env.locals != env.globals)) = false)
    (hr : IsRange s.heap r a₀ b₀ 1 t₀ u₀ v₀) (hsmall : Builtin.Range.small a₀ b₀ 1 = true) (hn : Builtin.Range.rangeSize a₀ b₀ 1 = (n : Int))
    (F : Fr h₀ env.locals s.heap m) (N : News h₀ env.locals s.heap news) (hJ : J 0 m news)
    (turn : ∀ i t m' nx h' tk it, i < n → J i m' nx → (∀ p ∈ nx, p.1 ≠ it.1) → Fr h₀ env.locals h' (fun y => if y = x then some (.int (a₀ + (i : Int)) t) else m' y) → News h₀ env.locals h' (nx ++ [it]) →
      wpC (model prog w) A (execs body env) (TurnEnd s h₀ env.locals it (J (i + 1)) Q) { s with heap := h', toks := tk })
    (done : ∀ m' nx h' tk, J n m' nx → Fr h₀ env.locals h' m' → News h₀ env.locals h' nx → Q .next { s with heap := h', toks := tk }) :
    wpAny (model prog w) A (pyIter (.ref r)) (fun it s₂ => codeC (model prog w) A (.forLoop (.Name x px) it body [] env) Q s₂) (fun _ _ => False) s := by
  refine wpAny_pyIter_range hr hsmall ?_
  have W : Walks prog w A s.heap.objs.size [s.heap.objs.size] [s.heap.objs.size] n (fun i v => ∃ t, v = .int (a₀ + i * 1) t)
      (fun i h => IsRangeIter h s.heap.objs.size (a₀ + (i : Nat) * 1) ((n : Int) - (i : Nat)) 1) := Walks.range hh _ a₀ 1 n
  refine loop_gen (P := fun i v => ∃ t, v = .int (a₀ + (i : Int)) t) (It := fun i h => IsRangeIter h s.heap.objs.size (a₀ + (i : Nat) * 1) ((n : Int) - (i : Nat)) 1) (Src := fun _ => True) J hx hp rfl F N hJ (by show IsRangeIter _ _ _ _ _; rw [hn]; simpa using Heap.get?_push_size _ rfl) (fun i h y => ⟨_, y⟩)
    (fun i h h' y e => e.trans y) (fun i s' Q' hi y _ hQ => ?_) (fun s' Q' y _ hQ => ?_) (fun _ _ _ _ _ _ _ => trivial) (fun i v m' nx h' tk it hi hP hJ' hn F' N' => ?_) done
  · refine W.item i s' _ _ hi y fun v h' tk hv st hk => hQ v h' tk ?_ st fun b o hb e => hk b o (by simp [hb]) e
    obtain ⟨t, rfl⟩ := hv
    exact ⟨t, by rw [Int.mul_one]⟩
  · exact W.done s' _ _ y fun h' tk hk => hQ h' tk fun b o hb e => hk b o (by simp [hb]) e
  · obtain ⟨t, rfl⟩ := hP
    exact turn i t m' nx h' tk it hi hJ' hn F' N'
end

theorem upd_news {h₀ h h' : Heap} {L d : Addr} {m : Str → Option Value} {o o' : Obj} {news : List (Addr × Obj)} (F : Fr h₀ L h m) (N : News h₀ L h news) (hd : (d, o) ∈ news) (hk : ∀ c x, c ≠ d → h.get? c = some x → h'.get? c = some x) (e : h'.get? d = some o') :
    Fr h₀ L h' m ∧ News h₀ L h' [(d, o')] := by
  obtain ⟨n1, n2, n3⟩ := N _ hd
  refine ⟨⟨F.ns.at' fun x ex => hk _ x (Ne.symm n2) ex, fun b x eb => hk b x (fun q => by rw [q] at eb; rw [eb] at n3; cases n3) (F.keep b x eb), F.above⟩, fun p hp => ?_⟩
  rw [List.mem_singleton.mp hp]
  exact ⟨e, n2, n3⟩

def zap (ns : List Int) (o : Nat) : List Int := ns.take o ++ ([0, 0] ++ ns.drop (o + 2))
theorem zap_length {ns : List Int} {o : Nat} (h : o + 2 ≤ ns.length) : (zap ns o).length = ns.length := by simp [zap]; omega
theorem zap_bytes {ns : List Int} {off : Int} (h0 : 0 ≤ off) (h1 : off + 2 ≤ ns.length) :
    (byteArr ns).extract 0 off.toNat ++ byteArr [0, 0] ++ (byteArr ns).extract (off + 2).toNat (byteArr ns).size = byteArr (zap ns off.toNat) := by
  have e : (off + 2).toNat = off.toNat + 2 := by omega
  apply Array.ext'
  simp only [byteArr, zap, e, Array.toList_append, Array.toList_extract, List.size_toArray, List.length_map, List.map_append, List.map_take, List.map_drop, List.extract_eq_take_drop]
  simp only [Int.toNat_zero, List.drop_zero, Nat.sub_zero, List.append_assoc, List.map_cons, List.map_nil]
  rw [List.take_of_length_le (l := List.drop _ _) (by simp)]
theorem zap_mem {ns : List Int} {o : Nat} (hr : ∀ n ∈ ns, 0 ≤ n ∧ n < 256) : ∀ n ∈ zap ns o, 0 ≤ n ∧ n < 256 := by
  intro n hn
  simp only [zap, List.mem_append, List.mem_cons] at hn
  rcases hn with h | (h | h | h) | h
  · exact hr n (List.mem_of_mem_take h)
  · omega
  · omega
  · cases h
  · exact hr n (List.mem_of_mem_drop h)
theorem byteArr_get {ns : List Int} (hr : ∀ n ∈ ns, 0 ≤ n ∧ n < 256) {i : Nat} {c : UInt8} (h : (byteArr ns)[i]? = some c) : ns[i]? = some (c.toNat : Int) := by
  have : (ns.map fun n => n.toNat.toUInt8)[i]? = some c := by simpa [byteArr] using h
  rw [List.getElem?_map] at this
  cases q : ns[i]? with
  | none => rw [q] at this; cases this
  | some n =>
    rw [q] at this
    obtain ⟨a, b⟩ := hr n (List.mem_of_getElem? q)
    simp only [Option.map_some, Option.some.injEq] at this
    subst this
    congr 1
    have : n.toNat < 256 := by omega
    simp [Nat.toUInt8, UInt8.toNat_ofNat', Nat.mod_eq_of_lt this]
    omega
end Fl
end

section
open PySem.Calls
namespace Fl
section
variable {prog : Program} {w : World} {A : Around} {s : Shared} {h₀ : Heap} {L : Addr} {m : Str → Option Value} {news : List (Addr × Obj)}

/-- one object of the ledger turned, the named others kept -/
theorem upd_keep {h h' : Heap} {d : Addr} {o o' : Obj} {keep : List (Addr × Obj)} (F : Fr h₀ L h m) (N : News h₀ L h news) (hd : (d, o) ∈ news) (hk : ∀ p ∈ keep, p ∈ news ∧ p.1 ≠ d)
    (hx : ∀ c x, c ≠ d → h.get? c = some x → h'.get? c = some x) (e : h'.get? d = some o') : Fr h₀ L h' m ∧ News h₀ L h' ((d, o') :: keep) := by
  obtain ⟨n1, n2, n3⟩ := N _ hd
  refine ⟨⟨F.ns.at' fun x ex => hx _ x (Ne.symm n2) ex, fun b x eb => hx b x (fun q => by rw [q] at eb; rw [eb] at n3; cases n3) (F.keep b x eb), F.above⟩, fun p hp => ?_⟩
  rcases List.mem_cons.mp hp with rfl | hp
  · exact ⟨e, n2, n3⟩
  · obtain ⟨a, b⟩ := hk p hp
    exact ⟨hx _ _ b (N p a).1, (N p a).2⟩

theorem app_ {E : Value → Shared → Prop} {D : Addr} {its : Array Value} {n : Nat} {x : Value} {keep : List (Addr × Obj)} {Q : Value → Shared → Prop} (F : Fr h₀ L s.heap m) (N : News h₀ L s.heap news) (hd : (D, listOf its n) ∈ news) (hk : ∀ p ∈ keep, p ∈ news ∧ p.1 ≠ D) (hz : its.size ≤ 1000)
    (h : ∀ h', Fr h₀ L h' m → News h₀ L h' ((D, listOf (its.push x) (n + 1)) :: keep) → Q .none { s with heap := h' }) : wpAny (model prog w) A (call (.builtin "list.append") [.ref D, x]) Q E s := by
  refine append_at (hsz := by rw [sizeLine_eq]; omega) (N _ hd).1 fun h' hs ho' => ?_
  obtain ⟨F', N'⟩ := upd_keep F N hd hk (fun c x hc e => hs.extBut c x hc e) ho'
  exact h h' F' N'

theorem app_oct {E : Value → Shared → Prop} {D : Addr} {wl : List Value} {n : Nat} {v : Int} {t : Tok} {keep : List (Addr × Obj)} {Q : Value → Shared → Prop} (F : Fr h₀ L s.heap m) (N : News h₀ L s.heap news) (hd : (D, listOf wl.toArray n) ∈ news) (hk : ∀ p ∈ keep, p ∈ news ∧ p.1 ≠ D) (hz : wl.length ≤ 1000) (hv : 0 ≤ v ∧ v < 256)
    (h : ∀ (v : Int) (t : Tok) (h' : Heap), 0 ≤ v ∧ v < 256 → Fr h₀ L h' m → News h₀ L h' ((D, W.listOf (wl ++ [Value.int v t]).toArray (n + 1)) :: keep) → Q .none { s with heap := h' }) : wpAny (model prog w) A (call (.builtin "list.append") [.ref D, .int v t]) Q E s := by
  refine app_ F N hd hk (by rw [List.size_toArray]; exact hz) fun h' F' N' => h v t h' hv F' ?_
  have e : wl.toArray.push (Value.int v t) = (wl ++ [Value.int v t]).toArray := by simp
  rw [e] at N'
  exact N'

/-- an int at a place in bounds of a list of the ledger -/
theorem setL_ {E : Value → Shared → Prop} {D : Addr} {wl : List Value} {n : Nat} {k : Int} {t : Tok} {x : Value} {keep : List (Addr × Obj)} {Q : Unit → Shared → Prop} (F : Fr h₀ L s.heap m) (N : News h₀ L s.heap news) (hd : (D, listOf wl.toArray n) ∈ news) (hk : ∀ p ∈ keep, p ∈ news ∧ p.1 ≠ D) (h0 : 0 ≤ k) (h1 : k < wl.length) (hz : wl.length ≤ 1000)
    (h : ∀ h', Fr h₀ L h' m → News h₀ L h' ((D, listOf (wl.set k.toNat x).toArray n) :: keep) → Q () { s with heap := h' }) : wpAny (model prog w) A (setItem (.ref D) (.int k t) x) Q E s := by
  have hDg := (N _ hd).1
  have hk' : k < wl.toArray.size := by rw [List.size_toArray]; exact h1
  refine ki_setAt hDg h0 (by omega) hk' ?_
  have hfin : (s.heap.update D (Obj.mapSeq (·.setIfInBounds k.toNat x))).get? D = some (listOf (wl.set k.toNat x).toArray n) := by
    rw [Heap.get?_update_self (Obj.mapSeq (·.setIfInBounds k.toNat x)) hDg (by simp [Obj.mapSeq, W.listOf, Obj.isFreed])]
    simp [Obj.mapSeq, W.listOf]
  obtain ⟨F', N'⟩ := upd_keep F N hd hk (fun c y hc e => (Heap.get?_update_other _ _ (Ne.symm hc)).trans e) hfin
  exact h _ F' N'
end
end Fl
end

section
open PySem.Calls
namespace Fl
section
variable {prog : Program} {w : World} {A : Around} {s : Shared} {env : Env} {h₀ : Heap}

/-- a loop whose turn also walks the storing of its item -/
theorem loop_genA {target : PySem.Expr} {body : List Stmt} {I : Addr} {io₀ : Obj} {n : Nat} {P : Nat → Value → Prop} {It : Nat → Heap → Prop} {m : Str → Option Value} {news : List (Addr × Obj)} {Q : Flow → Shared → Prop} (J : Nat → (Str → Option Value) → List (Addr × Obj) → Prop)
    (hI : I = s.heap.objs.size) (F : Fr h₀ env.locals s.heap m) (N : News h₀ env.locals s.heap news) (hJ : J 0 m news)
    (it0 : It 0 (s.heap.push io₀)) (itIs : ∀ i h, It i h → ∃ o, h.get? I = some o) (itKeep : ∀ i h h', It i h → h'.get? I = h.get? I → It i h')
    (item : ∀ i (s : Shared) (Q : Option Value → Shared → Prop), i < n → It i s.heap → (∀ v h' tk, P i v → It (i + 1) h' → (∀ b o, b ≠ I → s.heap.get? b = some o → h'.get? b = some o) → Q (some v) { s with heap := h', toks := tk }) → wpAny (model prog w) A (pyNext (.ref I)) Q (fun _ _ => False) s)
    (over : ∀ (s : Shared) (Q : Option Value → Shared → Prop), It n s.heap → (∀ h' tk, (∀ b o, b ≠ I → s.heap.get? b = some o → h'.get? b = some o) → Q none { s with heap := h', toks := tk }) → wpAny (model prog w) A (pyNext (.ref I)) Q (fun _ _ => False) s)
    (turn : ∀ i v m' nx h' tk it, i < n → P i v → J i m' nx → (∀ p ∈ nx, p.1 ≠ it.1) → Fr h₀ env.locals h' m' → News h₀ env.locals h' (nx ++ [it]) →
      wpAny (model prog w) A (assign target env v) (fun _ s₂ => wpC (model prog w) A (execs body env) (TurnEnd s h₀ env.locals it (J (i + 1)) Q) s₂) (fun _ _ => False) { s with heap := h', toks := tk })
    (done : ∀ m' nx h' tk, J n m' nx → Fr h₀ env.locals h' m' → News h₀ env.locals h' nx → Q .next { s with heap := h', toks := tk })
    (ht : ∀ v, letOwnedTupleGo target (.ref I) v = pure () := by intro _; rfl) :
    codeC (model prog w) A (.forLoop target (.ref I) body [] env) Q { s with heap := s.heap.push io₀ } := by
  have hIb : h₀.get? I = none := by
    rw [hI]
    cases q : h₀.get? s.heap.objs.size with
    | none => rfl
    | some o => exact absurd (Heap.lt_size (F.keep _ _ q)) (Nat.lt_irrefl _)
  have hIL : env.locals ≠ I := by rw [hI]; exact Nat.ne_of_lt F.ns.lt
  have keepAll : ∀ {h h' : Heap} {m' : Str → Option Value} {nx : List (Addr × Obj)}, Fr h₀ env.locals h m' → News h₀ env.locals h nx → (∀ p ∈ nx, p.1 ≠ I) → (∀ b o, b ≠ I → h.get? b = some o → h'.get? b = some o) → Fr h₀ env.locals h' m' ∧ News h₀ env.locals h' nx := by
    intro h h' m' nx F' N' hn hk
    refine ⟨⟨F'.ns.at' fun o e => hk _ o hIL e, fun b o e => hk b o (fun q => by rw [q, hIb] at e; cases e) (F'.keep b o e), F'.above⟩, fun p hp => ⟨hk _ _ (hn p hp) (N' p hp).1, (N' p hp).2⟩⟩
  refine code_forLoop (fun k s' => ∃ h' tk m' nx i, s' = { s with heap := h', toks := tk } ∧ It i h' ∧ Fr h₀ env.locals h' m' ∧ News h₀ env.locals h' nx ∧ (∀ p ∈ nx, p.1 ≠ I) ∧ J i m' nx ∧ i ≤ n ∧ k = n + 1 - i) ?_ (n + 1)
    ⟨_, s.toks, m, news, 0, rfl, it0, F.push _, (fun p hp => ⟨Heap.get?_push_of_some _ (N p hp).1, (N p hp).2⟩), (fun p hp => by rw [hI]; exact Nat.ne_of_lt (Heap.lt_size (N p hp).1)), hJ, Nat.zero_le _, rfl⟩ ht
  rintro k s' ⟨h', tk, m', nx, i, rfl, hit, F', N', hn, hJ', hi, rfl⟩
  by_cases hlt : i < n
  · refine item i { s with heap := h', toks := tk } _ hlt hit fun v h₁ tk₁ hv hit₁ hs₁ => ?_
    obtain ⟨F₁, N₁⟩ := keepAll F' N' hn hs₁
    obtain ⟨io, hio⟩ := itIs _ _ hit₁
    refine wpAny_mono (turn i v m' nx h₁ tk₁ (I, io) hlt hv hJ' hn F₁ ?_) (fun _ s₂ h₂ => mono h₂ fun f s₃ h₃ => ?_) fun _ _ x => x
    · intro p hp
      rcases List.mem_append.mp hp with hp | hp
      · exact N₁ p hp
      · rw [List.mem_singleton.mp hp]; exact ⟨hio, Ne.symm hIL, hIb⟩
    · have fin : (∃ h'' tk'' m'' nx'', s₃ = { s with heap := h'', toks := tk'' } ∧ Fr h₀ env.locals h'' m'' ∧ News h₀ env.locals h'' (nx'' ++ [(I, io)]) ∧ (∀ p ∈ nx'', p.1 ≠ I) ∧ J (i + 1) m'' nx'') →
          ∃ k', k' < n + 1 - i ∧ ∃ h' tk m' nx i, s₃ = { s with heap := h', toks := tk } ∧ It i h' ∧ Fr h₀ env.locals h' m' ∧ News h₀ env.locals h' nx ∧ (∀ p ∈ nx, p.1 ≠ I) ∧ J i m' nx ∧ i ≤ n ∧ k' = n + 1 - i := by
        rintro ⟨h'', tk'', m'', nx'', e, F'', N'', ho, hJ''⟩
        exact ⟨n + 1 - (i + 1), by omega, h'', tk'', m'', nx'', i + 1, e, itKeep _ _ _ hit₁ ((N'' (I, io) (List.mem_append_right _ (.head _))).1.trans hio.symm), F'', (fun p hp => N'' p (List.mem_append_left _ hp)), ho, hJ'', hlt, rfl⟩
      cases f with
      | next => exact fin h₃
      | cont => exact fin h₃
      | brk => exact h₃
      | ret v => exact h₃
  · have hin : i = n := by omega
    subst hin
    refine over { s with heap := h', toks := tk } _ hit fun h₁ tk₁ he₁ => ?_
    obtain ⟨F₁, N₁⟩ := keepAll F' N' hn he₁
    exact done m' nx h₁ tk₁ hJ' F₁ N₁

theorem loop_rangeA {target : PySem.Expr} {body : List Stmt} {r : Addr} {a₀ b₀ : Int} {t₀ u₀ v₀ : Tok} {n : Nat} {m : Str → Option Value} {news : List (Addr × Obj)} {Q : Flow → Shared → Prop} (J : Nat → (Str → Option Value) → List (Addr × Obj) → Prop)
    (hh : A.handled = none) (hr : IsRange s.heap r a₀ b₀ 1 t₀ u₀ v₀) (hsmall : Builtin.Range.small a₀ b₀ 1 = true) (hn : Builtin.Range.rangeSize a₀ b₀ 1 = (n : Int))
    (F : Fr h₀ env.locals s.heap m) (N : News h₀ env.locals s.heap news) (hJ : J 0 m news)
    (turn : ∀ i t m' nx h' tk it, i < n → J i m' nx → (∀ p ∈ nx, p.1 ≠ it.1) → Fr h₀ env.locals h' m' → News h₀ env.locals h' (nx ++ [it]) →
      wpAny (model prog w) A (assign target env (.int (a₀ + (i : Int)) t)) (fun _ s₂ => wpC (model prog w) A (execs body env) (TurnEnd s h₀ env.locals it (J (i + 1)) Q) s₂) (fun _ _ => False) { s with heap := h', toks := tk })
    (done : ∀ m' nx h' tk, J n m' nx → Fr h₀ env.locals h' m' → News h₀ env.locals h' nx → Q .next { s with heap := h', toks := tk })
    (ht : ∀ it v, letOwnedTupleGo target it v = pure () := by intro _ _; rfl) :
    wpAny (model prog w) A (pyIter (.ref r)) (fun it s₂ => codeC (model prog w) A (.forLoop target it body [] env) Q s₂) (fun _ _ => False) s := by
  refine wpAny_pyIter_range hr hsmall ?_
  have W : Walks prog w A s.heap.objs.size [s.heap.objs.size] [s.heap.objs.size] n (fun i v => ∃ t, v = .int (a₀ + i * 1) t)
      (fun i h => IsRangeIter h s.heap.objs.size (a₀ + (i : Nat) * 1) ((n : Int) - (i : Nat)) 1) := Walks.range hh _ a₀ 1 n
  refine loop_genA (P := fun i v => ∃ t, v = .int (a₀ + (i : Int)) t) (It := fun i h => IsRangeIter h s.heap.objs.size (a₀ + (i : Nat) * 1) ((n : Int) - (i : Nat)) 1) J rfl F N hJ (by show IsRangeIter _ _ _ _ _; rw [hn]; simpa using Heap.get?_push_size _ rfl) (fun i h y => ⟨_, y⟩)
    (fun i h h' y e => e.trans y) (fun i s' Q' hi y hQ => ?_) (fun s' Q' y hQ => ?_) (fun i v m' nx h' tk it hi hP hJ' hn F' N' => ?_) done (ht _)
  · refine W.item i s' _ _ hi y fun v h' tk hv st hk => hQ v h' tk ?_ st fun b o hb e => hk b o (by simp [hb]) e
    obtain ⟨t, rfl⟩ := hv
    exact ⟨t, by rw [Int.mul_one]⟩
  · exact W.done s' _ _ y fun h' tk hk => hQ h' tk fun b o hb e => hk b o (by simp [hb]) e
  · obtain ⟨t, rfl⟩ := hP
    exact turn i t m' nx h' tk it hi hJ' hn F' N'
end
end Fl
end

section
open PySem.Calls
namespace Fl
section
variable {prog : Program} {w : World} {A : Around} {s : Shared}

/-- a call of a def that has cells of its own -/
theorem code_callC {a : Addr} {o : Obj} {name : Str} {params : Arguments} {body : List Stmt} {scope : Scope} {pm cd doc : Value} {args : List Value} {binds : List (Str × Value)} {R : Flow → Shared → Prop}
    (hroom : A.depth < recursionLimit) (ho : s.heap.get? a = some o) (hdata : o.data = .func (docDef name params body scope pm cd doc)) (hlim : s.heap.NoLimit) (hcd : s.heap.CodeRec cd name)
    (hbind : bindArgs (docDef name params body scope pm cd doc) ⟨args, []⟩ = pure binds)
    (hkind : ∀ n, ∀ x ∈ binds, scope.names.lookup x.1 = some .local ∨ (scope.names.lookup x.1 = some .cell ∧ ((cellsFrom n scope.names []).lookup x.1).isSome = true))
    (hnd : ((cellsFrom 0 scope.names []).map (·.1)).Nodup)
    (h : ∀ h₁ tk cells, Fr s.heap s.heap.objs.size h₁ (bindL (envOfC name scope s.heap.objs.size a cd).kindOf binds fun _ => none) → News s.heap s.heap.objs.size h₁ cells →
      CellsAre (bindC (envOfC name scope s.heap.objs.size a cd).kindOf binds fun _ => none) (cellsFrom (s.heap.objs.size + 1) scope.names []) cells →
      wpC (model prog w) (A.deeper (envOfC name scope s.heap.objs.size a cd)) (execs body (envOfC name scope s.heap.objs.size a cd)) (fun f s' => R (.ret (match f with | .ret v => v | _ => .none)) s') { s with heap := h₁, toks := tk })
    (hco : scope.isCoroutine = false := by rfl) (hgen : scope.isGenerator = false := by rfl) (hk : scope.kind = .function := by rfl) :
    codeC (model prog w) A (.call (.ref a) ⟨args, []⟩) R s := by
  refine code_tree rfl ?_
  show wpC _ A.in1 (callAny (.ref a) ⟨args, []⟩) _ s
  simp only [callAny]
  refine bindAny (wpAny_load ho ?_)
  obtain ⟨c, oc, vs, tq, hc, hoc, hdc, hq⟩ := hcd
  subst hc
  simp only [hdata, callFunction, docDef, hco, hgen]
  refine bindAny (wpAny_field hoc hdc hq ?_)
  show wpC _ _ (bindArgs (docDef name params body scope pm (.ref c) doc) ⟨args, []⟩ >>= _) _ _
  rw [hbind]
  refine bind_ (pure_ ?_)
  refine bindAny (wpAny_newFunctionEnv_cells hk (hkind _) fun env' he s' x => ?_)
  subst he
  refine bindAny (wpAny_enterFrame (hlim.keeps x.toInCall.keep) hroom ?_)
  obtain ⟨h₁, tk, rfl, _⟩ := x.done
  have hk₁ := x.toInCall.keep
  obtain ⟨cells, NC, Y⟩ := Cl.news (h₀ := s.heap) (Nat.le_refl _) fun n c hm => ⟨x.cell n c (lookup_of_mem_nodup (cellsFrom_names scope.names 0 (s.heap.objs.size + 1) [] [] rfl ▸ hnd) hm), x.above n c hm⟩
  exact pure_ ⟨rfl, code_func (h h₁ tk cells ⟨x.toInCall.ns, hk₁, Nat.le_refl _⟩ NC Y)⟩
end
end Fl
end

section
open PySem.Calls
namespace Fl

structure Gl (mg mb : Str → Option Value) (h : Heap) : Prop where
  g : h.Ns mainGlobals mg
  b : h.Ns builtinsNs mb
  nolimit : h.NoLimit
  bt : ∀ x : Str, x ≠ "__name__" → mb x = bootBuiltins x
  free : ∀ x : Str, (["len", "bytearray", "min", "range", "list", "bytes", "sum"] : List Str).contains x = true → mg x = none
  modx : ∃ t, mg "_MODX" = some (.int 4102 t)

theorem Gl.keeps {mg mb : Str → Option Value} {h h' : Heap} (G : Gl mg mb h) (hk : ∀ b o, h.get? b = some o → h'.get? b = some o) : Gl mg mb h' := ⟨G.g.keeps hk, G.b.keeps hk, G.nolimit.keeps hk, G.bt, G.free, G.modx⟩

def flParams : Arguments := match PySem.Challenge.pw_bs0025_01.main.body with
  | _ :: _ :: .FunctionDef _ a _ _ _ _ _ _ _ _ :: _ => a
  | _ => ⟨[], [], none, [], [], none, []⟩
def flBody : List Stmt := match PySem.Challenge.pw_bs0025_01.main.body with
  | _ :: _ :: .FunctionDef _ _ b _ _ _ _ _ _ _ :: _ => b
  | _ => []
def flScope : Scope := match PySem.Challenge.pw_bs0025_01.main.body with
  | _ :: _ :: .FunctionDef _ _ _ _ _ _ s _ _ _ :: _ => s
  | _ => default

section
variable {prog : Program} {w : World} {A : Around} {s : Shared} {h₀ : Heap} {L a : Addr} {cd : Value} {m mg mb : Str → Option Value} {cn : Str} {cs : Scope}

theorem nm_b {M : Model} {E : Value → Shared → Prop} {x : Str} {pos : Pos} {v : Value} {Q : Value → Shared → Prop} (F : Fr h₀ L s.heap m) (G : Gl mg mb h₀) (hf : (["len", "bytearray", "min", "range", "list", "bytes", "sum"] : List Str).contains x = true) (hv : bootBuiltins x = some v) (hn : x ≠ "__name__") (h : Q v s)
    (hk : cs.kind = .function := by rfl) (hx : (envOf cn cs L a cd).kindOf x = some .globalImplicit := by rfl) (hd : (x == ("__debug__" : Str)) = false := by decide) :
    wpAny M A (eval (.Name x pos) (envOf cn cs L a cd)) Q E s := ld_builtin_at F G.g (G.free x hf) G.b ((G.bt x hn).trans hv) h hk hx hd

local macro_rules | `(tactic| walk_at "eval Name") => `(tactic| (with_unfolding_all refine guard_global (by rfl) ?_; k_dflt (refine' nm_b ?k1 ?k2 ?k3 ?k4 ?k5 ?_; (case k1 => k_asm); (case k2 => k_asm); (case k3 => decide); (case k4 => boot_by_name); (case k5 => decide); k_whole)))

theorem nm_modx {M : Model} {E : Value → Shared → Prop} {pos : Pos} {Q : Value → Shared → Prop} (F : Fr h₀ L s.heap m) (G : Gl mg mb h₀) (h : ∀ t, Q (.int 4102 t) s)
    (hk : cs.kind = .function := by rfl) (hx : (envOf cn cs L a cd).kindOf "_MODX" = some .globalImplicit := by rfl) :
    wpAny M A (eval (.Name "_MODX" pos) (envOf cn cs L a cd)) Q E s := by
  obtain ⟨t, ht⟩ := G.modx
  exact ld_global_at F G.g ht (h t) hk hx

local macro_rules | `(tactic| walk_at "eval Name") => `(tactic| ((with_reducible show wpAny _ _ (eval (PySem.Expr.Name (Str.ofString "_MODX") _) _) _ _ _); k_dflt (refine' nm_modx ?k1 ?k2 ?_; (case k1 => k_asm); (case k2 => k_asm); k_whole); intro _))

local macro_rules | `(tactic| walk_at "call builtin:min") => `(tactic| ((with_reducible show wpAny _ _ (call (Value.builtin _) [Value.int _ _, Value.int _ _]) _ _ _); (with_reducible rename Fr _ _ _ _ => F'); (with_reducible rename News _ _ _ _ => N'); (refine min_two_N (by assumption) F' N' ?_); clear F' N'; intro _ _ F' N'))

structure Src (h₀ : Heap) (data : Value) (ns : List Int) : Prop where
  len : ∀ {prog : Program} {w : World} {A : Around} {s : Shared} {E : Value → Shared → Prop} {Q : Value → Shared → Prop}, (∀ b o, h₀.get? b = some o → s.heap.get? b = some o) → (∀ t k, Q (.int ns.length t) { s with toks := k }) → wpAny (model prog w) A (call (.builtin "len") [data]) Q E s
  ba : ∀ {prog : Program} {w : World} {A : Around} {s : Shared} {Q : Value → Shared → Prop}, A.guards = some [] → (∀ b o, h₀.get? b = some o → s.heap.get? b = some o) →
    (∀ h', (∀ b o, s.heap.get? b = some o → h'.get? b = some o) → h'.get? s.heap.objs.size = some (baObj (byteArr ns)) → Q (.ref s.heap.objs.size) { s with heap := h' }) → wpC (model prog w) A (call (.type "bytearray") [data]) Q s

local macro_rules | `(tactic| walk_at "call builtin:len") => `(tactic| (refine Src.len (by assumption) (Fr.keep (by assumption)) ?_; intro _ _))

theorem fresh_none {h h' : Heap} {L : Addr} {m : Str → Option Value} (F : Fr h L h' m) : h.get? h'.objs.size = none := by
  cases q : h.get? h'.objs.size with
  | none => rfl
  | some o => exact absurd (Heap.lt_size (F.keep _ _ q)) (Nat.lt_irrefl _)

theorem ba_slice_K {E : Value → Shared → Prop} {value slice : PySem.Expr} {d : Addr} {b : Array UInt8} {i j : Int} {t u : Tok} {news : List (Addr × Obj)} {Q : Value → Shared → Prop} (hF : Fr h₀ L s.heap m) (hN : News h₀ L s.heap news) (hd : (d, baObj b) ∈ news) (hlo : i = 0) (hhi : j = b.size) (hz : b.size ≤ 1000)
    (h : ∀ e h', Fr h₀ L h' m → News h₀ L h' ((e, baObj b) :: news) → (∀ p ∈ news, p.1 < e) → Q (.ref e) { s with heap := h' })
    (hs : subscripted slice false (.ref d) (.ref s.heap.objs.size) = operate [.ref s.heap.objs.size, .ref d] (getItem (.ref d) (.ref s.heap.objs.size)) := by with_unfolding_all rfl)
    (ht : ∀ r, letTemporaryGo value (.ref d) r = pure () := by intro _; with_unfolding_all rfl) :
    wpAny (model prog w) A (subscriptTail value slice (.ref d) (.ref s.heap.objs.size)) Q E { s with heap := s.heap.push { cls := .type "slice", data := .fields #[.int i t, .int j u, .none] } } := by
  subst hlo hhi
  have hd' := (hN _ hd).1
  have hd2 : (s.heap.push { cls := .type "slice", data := .fields #[.int 0 t, .int b.size u, .none] }).get? d = some (baObj b) := Heap.get?_push_of_some _ hd'
  have hT : ({ s with heap := s.heap.push { cls := .type "slice", data := .fields #[.int 0 t, .int b.size u, .none] } } : Shared).TypeIs (.ref d) "bytearray" := ⟨_, hd2, rfl⟩
  have hp : KBy.picked b (some 0) (some (b.size : Int)) = b := by
    rw [KBc.picked_eq]
    have e1 : clipAt b.size 0 = 0 := by have := clipAt_nat b.size 0; simpa using this
    have e2 : clipAt b.size (b.size : Int) = b.size := by rw [clipAt_nat]; exact Nat.min_self _
    simp only [Option.elim, e1, e2, List.drop_zero, Nat.sub_zero]
    rw [List.take_of_length_le (by simp), Array.toArray_toList]
  refine tail_of_ItemOn ⟨"bytearray", _, ba_slot_get.lookup, hT, getItem_meets hT (by decide) ba_slot_get ba_entry_get (ba_args_get _ _) (meets_ba_slice d s.heap.objs.size b 0 b.size t u) ⟨hd2, Heap.IsSliceOf.new _ _ _ _, by rw [hp, sizeLine_eq]; omega, ?_⟩⟩ hs ht
  rw [hp]
  refine h _ _ ((hF.push _).push _) ((hN.pushKeep _).push (hF.push _) _) fun p hp => ?_
  exact Heap.lt_size ((hN.pushKeep _) p hp).1

local macro_rules | `(tactic| walk_at "subscriptTail") => `(tactic| ((with_reducible show wpAny _ _ (subscriptTail _ (PySem.Expr.Slice _ _ none _) (Value.ref _) (Value.ref _)) _ _ _); (with_reducible rename Fr _ _ _ _ => F'); (with_reducible rename News _ _ _ _ => N'); (refine ba_slice_K (s := ⟨_, _, _, _, _⟩) F' N' (by first | exact List.Mem.head _ | exact List.Mem.tail _ (List.Mem.head _)) (by omega) (by simp only [byteArr_size]; omega) (by simp only [byteArr_size]; omega) ?_); intro _ _ _ _ _))

theorem setItem_K {d : Addr} {b : Array UInt8} {k v : Int} {t u : Tok} {Q : Unit → Shared → Prop} (F : Fr h₀ L s.heap m) (N : News h₀ L s.heap [(d, baObj b)]) (h0 : 0 ≤ k) (h1 : k < b.size) (hz : b.size ≤ 1000) (v0 : 0 ≤ v) (v1 : v < 256)
    (h : ∀ h', Fr h₀ L h' m → News h₀ L h' [(d, baObj (b.setIfInBounds k.toNat v.toNat.toUInt8))] → Q () { s with heap := h' }) : wpAny (model prog w) A (setItem (.ref d) (.int k t) (.int v u)) Q (fun _ _ => False) s := by
  refine setItem_ba (N _ (.head _)).1 h0 h1 (by rw [sizeLine_eq]; omega) v0 v1 fun h' hs hg => ?_
  obtain ⟨F', N'⟩ := upd_news F N (.head _) (fun c x hc e => hs.extBut c x hc e) hg
  exact h h' F' N'

local macro_rules | `(tactic| walk_at "setItem") => `(tactic| ((with_reducible show wpAny _ _ (setItem (Value.ref _) (Value.int _ _) (Value.int _ _)) _ _ _); (with_reducible rename Fr _ _ _ _ => F'); (with_reducible rename News _ _ _ _ => N'); (refine setItem_K F' N' (by omega) (by simp only [byteArr_size, Array.size_setIfInBounds]; omega) (by simp only [byteArr_size, Array.size_setIfInBounds]; omega) (by omega) (by omega) ?_); clear F' N'; intro _ F' N'))

theorem str_ite {α : Type} {x y : Str} {a b : α} (h : decide (x = y) = false) : (if x = y then a else b) = b := if_neg (of_decide_eq_false h)

def flStep (p : Int × Int) (d : Int) : Int × Int := (p.1 + d, p.2 + (p.1 + d))
def flSums (z : List Int) : Int × Int := z.foldl flStep (0, 0)
theorem flSums_snoc (p : List Int) (d : Int) : flSums (p ++ [d]) = ((flSums p).1 + d, (flSums p).2 + ((flSums p).1 + d)) := by
  unfold flSums; rw [List.foldl_append]; rfl


theorem and_hi {a b : Nat} (h : b < 256) : (a * 256) &&& b = 0 := by
  apply Nat.eq_of_testBit_eq
  intro i
  rw [Nat.testBit_and, show a * 256 = a * 2 ^ 8 from rfl, Nat.testBit_mul_two_pow, Nat.zero_testBit]
  by_cases hi : 8 ≤ i
  · rw [Nat.testBit_lt_two_pow (Nat.lt_of_lt_of_le h (Nat.pow_le_pow_right (n := 2) (by decide) hi : 2 ^ 8 ≤ 2 ^ i) : b < 2 ^ i), Bool.and_false]
  · simp [hi]
theorem or_bytes {X Y : Int} (hx : 0 ≤ X) (hy0 : 0 ≤ Y) (hy1 : Y < 256) : Builtin.bitOr (X * 2 ^ Int.toNat 8) (Builtin.bitAnd Y 255) = X * 256 + Y := by
  have e : X * 2 ^ Int.toNat 8 = X * 256 := rfl
  have ey : Builtin.bitAnd Y 255 = Y := by
    rw [bitAnd_pp hy0 (by decide)]
    have : Y.toNat &&& 255 = Y.toNat := Nat.and_two_pow_sub_one_of_lt_two_pow (n := 8) (by omega)
    rw [show (255 : Int).toNat = 255 from rfl, this]; omega
  rw [e, ey, bitOr_and, bitAnd_pp (by omega) hy0]
  have : (X * 256).toNat = X.toNat * 256 := by omega
  rw [this, and_hi (by omega)]
  simp

def fletX (n off c0 c1 : Int) : Int := if ((n - off - 1) * c0 - c1).fmod 255 ≤ 0 then ((n - off - 1) * c0 - c1).fmod 255 + 255 else ((n - off - 1) * c0 - c1).fmod 255
def fletY (c0 x : Int) : Int := if 510 - c0 - x > 255 then 510 - c0 - x - 255 else 510 - c0 - x
def fletOf (n off c0 c1 : Int) : Int := fletX n off c0 c1 * 256 + fletY c0 (fletX n off c0 c1)
def flet (ns : List Int) (off : Int) : Int := fletOf ns.length off ((flSums (zap ns off.toNat)).1.fmod 255) ((flSums (zap ns off.toNat)).2.fmod 255)

set_option maxHeartbeats 4000000 in
theorem fl_body {data : Value} {off : Int} {t : Tok} {ns : List Int} {Q : Flow → Shared → Prop} (hg : A.guards = some []) (hh : A.handled = none)
    (G : Gl mg mb h₀) (X : Frag.In [] h₀) (N' : News h₀ L s.heap []) (S : Src h₀ data ns) (hr : ∀ n ∈ ns, 0 ≤ n ∧ n < 256) (hlen : ns.length ≤ 64) (h0 : 0 ≤ off) (h1 : off + 2 ≤ ns.length)
    (hQ : ∀ h' t' k, (∀ b o, h₀.get? b = some o → h'.get? b = some o) → Q (.ret (.int (flet ns off) t')) { s with heap := h', toks := k })
    (F' : Fr h₀ L s.heap (fun x => ([("data", data), ("offset", .int off t)] : List (Str × Value)).reverse.lookup x)) :
    wpC (model prog w) A (execs flBody (envOf "fletcher_checksum" flScope L a cd)) Q s := by
  obtain ⟨hp, gs, dr, tk, os⟩ := s
  unfold flBody flScope PySem.Challenge.pw_bs0025_01
  dsimp only at *
  refine execs_any ?_
  k_steps
  dsimp only
  refine execs_any ?_
  k_steps
  dsimp only
  refine execs_any ?_
  k_steps
  dsimp only
  refine execs_any ?_
  k_steps
  dsimp only
  refine execs_cons_ (Assign_ (Call_ ?_))
  k_steps
  rename Fr _ _ _ _ => F5
  rename News _ _ _ _ => N5
  refine callWith_ (.inr rfl) (args_cons_ (any (ld F5 (by exact rfl) (args_nil_ ⟨keeper_type, S.ba hg F5.keep fun h5 k5 e5 => ?_⟩))))
  dsimp only at k5 e5 ⊢
  have F5' := F5.after k5
  have f5 := fresh_none F5
  have n5 := Nat.ne_of_gt F5.ns.lt
  revert e5 f5 n5
  generalize Array.size _ = dA
  intro e5 f5 n5
  have N5' : News h₀ L h5 [(dA, baObj (byteArr ns))] := fun p hp => by
    rw [List.mem_singleton.mp hp]
    exact ⟨e5, n5, f5⟩
  clear F5 N5
  refine stN F5' N5' fun h5' F6 N6 => ?_
  clear F5' N5'
  dsimp only
  refine execs_cons_ (AssignSub_ ?_)
  k_steps
  dsimp only
  rename Fr _ _ _ _ => F7
  rename News _ _ _ _ => N7
  rename IntsAre _ _ => i7
  have hd7 := (N7 (dA, baObj (byteArr ns)) (by simp)).1
  refine setItem_slice (ns := [0, 0]) hg (Heap.get?_push_of_some _ hd7) (Heap.IsSliceOf.new _ _ _ _) (Heap.IsList.push ⟨_, (N7 _ (.head _)).1, rfl, _, rfl⟩ _) i7 (by simp) (by rw [byteArr_size, sizeLine_eq]; omega) h0 (by simp) (by rw [byteArr_size]; omega) fun h8 k8 e8 => ?_
  rw [zap_bytes h0 h1] at e8
  have P8 := upd_news (F7.push _) (N7.pushKeep _) (o := baObj (byteArr ns)) (by simp) k8 e8
  obtain ⟨F8, N8⟩ := P8
  dsimp only
  refine execs_cons_ (While_ ?_)
  have hzl : (zap ns off.toNat).length = ns.length := zap_length (by omega)
  have hzm := zap_mem (o := off.toNat) hr
  unfold flet at hQ
  revert N8
  generalize zap ns off.toNat = z at hzl hzm hQ
  intro N8
  clear k8 e8 F7 N7 i7 k5 e5
  revert F8
  generalize hm8 : (fun y => if y = Str.ofString "data" then some (Value.ref dA) else _) = m8
  intro F8
  have hn0 : 0 < ns.length := by omega
  refine code_while (fun k s' => ∃ h' t', s' = ⟨h', gs, dr, t', os⟩ ∧ News h₀ L h' [(dA, baObj (byteArr z))] ∧ ((k = 1 ∧ Fr h₀ L h' m8) ∨
    (k = 0 ∧ ∃ t0 t1 tp td m', Fr h₀ L h' m' ∧ m' "c0" = some (.int ((flSums z).1.fmod 255) t0) ∧ m' "c1" = some (.int ((flSums z).2.fmod 255) t1) ∧ m' "pos" = some (.int ns.length tp) ∧ m' "length" = some (.int ns.length td) ∧ m' "data" = some (.ref dA) ∧ m' "offset" = some (.int off t)))) ?_ 1 ⟨h8, _, rfl, N8, .inl ⟨rfl, F8⟩⟩
  rintro k s' ⟨h', t', rfl, N', ⟨rfl, F'⟩ | ⟨rfl, t0, t1, tp, td, m', F', e0, e1, ep, el, ed, eo⟩⟩
  · clear F8 N8
    subst hm8
    k_steps
    refine execs_any ?_
    k_steps
    dsimp only
    refine execs_cons_ (For_ ?_)
    k_steps
    dsimp only
    rename_i eA hE FL NL lE
    have hbs : (byteArr z).size = z.length := byteArr_size z
    revert FL
    generalize hmL : (fun y => if y = Str.ofString "tlen" then _ else _) = mL
    intro FL
    have vL0 : ∃ t, mL "c0" = some (.int 0 t) := by rw [← hmL]; exact ⟨_, rfl⟩
    have vL1 : ∃ t, mL "c1" = some (.int 0 t) := by rw [← hmL]; exact ⟨_, rfl⟩
    refine loop_ba (s := ⟨_, _, _, _, _⟩) (b := byteArr z) (fun i m' nx => nx = [(eA, baObj (byteArr z)), (dA, baObj (byteArr z))] ∧ (∃ t, m' "c0" = some (.int (flSums (z.take i)).1 t)) ∧ (∃ t, m' "c1" = some (.int (flSums (z.take i)).2 t)) ∧
      ∀ y : Str, y ≠ "c0" → y ≠ "c1" → y ≠ "d" → m' y = mL y) hh rfl rfl FL NL ⟨rfl, vL0, vL1, fun _ _ _ _ => rfl⟩ ?_ ?_ ?_
    · rintro i m' nx h' ⟨rfl, _⟩ F' N'
      exact (N' _ (.head _)).1
    · rintro i c tc m' nx h' tk it hi hc ⟨rfl, ⟨t0, e0⟩, ⟨t1, e1⟩, er⟩ hn F' N'
      have hzc := byteArr_get hzm hc
      have hs : flSums (z.take (i + 1)) = ((flSums (z.take i)).1 + c.toNat, (flSums (z.take i)).2 + ((flSums (z.take i)).1 + c.toNat)) := by
        rw [List.take_add_one, hzc]; exact flSums_snoc _ _
      have em : (fun y => if y = Str.ofString "d" then some (Value.int c.toNat tc) else m' y) = fun y => if y = Str.ofString "d" then some (Value.int c.toNat tc) else if y = "c0" then some (.int (flSums (z.take i)).1 t0) else if y = "c1" then some (.int (flSums (z.take i)).2 t1) else mL y := by
        funext y
        by_cases q : y = Str.ofString "d"
        · rw [if_pos q, if_pos q]
        · rw [if_neg q, if_neg q]
          by_cases q0 : y = "c0"
          · rw [if_pos q0, q0, e0]
          · rw [if_neg q0]
            by_cases q1 : y = "c1"
            · rw [if_pos q1, q1, e1]
            · rw [if_neg q1]; exact er y q0 q1 q
      rw [em] at F'
      refine execs_any ?_
      k_steps
      dsimp only
      refine execs_any ?_
      k_steps
      dsimp only
      rename Fr _ _ _ _ => F''
      rename News _ _ _ _ => N''
      refine execs_nil_ ⟨_, _, _, _, rfl, F'', N'', hn, rfl, ?_, ?_, ?_⟩
      · rw [hs]; exact ⟨_, rfl⟩
      · rw [hs]; exact ⟨_, rfl⟩
      · intro y q0 q1 q
        simp only [if_neg q0, if_neg q1, if_neg q]
    · rintro m' nx h' tk ⟨rfl, ⟨t0, e0⟩, ⟨t1, e1⟩, er⟩ F' N'
      have hbz : (byteArr z).size = z.length := byteArr_size z
      rw [hbz, List.take_length] at e0 e1
      have em : m' = fun y => if y = Str.ofString "d" then m' "d" else if y = "c0" then some (.int (flSums z).1 t0) else if y = "c1" then some (.int (flSums z).2 t1) else mL y := by
        funext y
        by_cases q : y = Str.ofString "d"
        · rw [if_pos q, q]
        · rw [if_neg q]
          by_cases q0 : y = "c0"
          · rw [if_pos q0, q0, e0]
          · rw [if_neg q0]
            by_cases q1 : y = "c1"
            · rw [if_pos q1, q1, e1]
            · rw [if_neg q1]; exact er y q0 q1 q
      rw [em] at F'
      subst hmL
      refine execs_any ?_
      k_steps
      dsimp only
      refine execs_any ?_
      k_steps
      dsimp only
      refine execs_any ?_
      k_steps
      dsimp only
      rename Fr _ _ _ _ => F''
      rename News _ _ _ _ => N''
      have hp0 : (0 + if (4102 : Int) < (ns.length : Int) - 0 then (4102 : Int) else (ns.length : Int) - 0) = (ns.length : Int) := by rw [if_neg (by omega)]; omega
      rw [hp0] at F''
      revert F''
      generalize hmF : (fun y => if y = Str.ofString "pos" then _ else _) = mF
      intro F''
      obtain ⟨w0, x0⟩ : ∃ t, mF "c0" = some (.int ((flSums z).1.fmod 255) t) := by rw [← hmF]; exact ⟨_, rfl⟩
      obtain ⟨w1, x1⟩ : ∃ t, mF "c1" = some (.int ((flSums z).2.fmod 255) t) := by rw [← hmF]; exact ⟨_, rfl⟩
      obtain ⟨w2, x2⟩ : ∃ t, mF "pos" = some (.int ns.length t) := by rw [← hmF]; exact ⟨_, rfl⟩
      obtain ⟨w3, x3⟩ : ∃ t, mF "length" = some (.int ns.length t) := by rw [← hmF]; exact ⟨_, rfl⟩
      have x4 : mF "data" = some (.ref dA) := by rw [← hmF]; rfl
      have x5 : mF "offset" = some (.int off t) := by rw [← hmF]; rfl
      exact execs_nil_ ⟨0, by omega, _, _, rfl, (fun p hp => N'' p (List.mem_cons_of_mem _ hp)), .inr ⟨rfl, w0, w1, w2, w3, mF, F'', x0, x1, x2, x3, x4, x5⟩⟩
  · have em : m' = fun y => if y = Str.ofString "c0" then some (.int ((flSums z).1.fmod 255) t0) else if y = "c1" then some (.int ((flSums z).2.fmod 255) t1) else if y = "pos" then some (.int ns.length tp) else if y = "length" then some (.int ns.length td) else
        if y = "data" then some (.ref dA) else if y = "offset" then some (.int off t) else m' y := by
      funext y
      by_cases q0 : y = "c0"
      · rw [if_pos q0, q0, e0]
      · rw [if_neg q0]
        by_cases q1 : y = "c1"
        · rw [if_pos q1, q1, e1]
        · rw [if_neg q1]
          by_cases q2 : y = "pos"
          · rw [if_pos q2, q2, ep]
          · rw [if_neg q2]
            by_cases q3 : y = "length"
            · rw [if_pos q3, q3, el]
            · rw [if_neg q3]
              by_cases q4 : y = "data"
              · rw [if_pos q4, q4, ed]
              · rw [if_neg q4]
                by_cases q5 : y = "offset"
                · rw [if_pos q5, q5, eo]
                · rw [if_neg q5]
    rw [em] at F'
    clear em e0 e1 ep el ed eo F8 N8
    have b0 : 0 ≤ (flSums z).1.fmod 255 ∧ (flSums z).1.fmod 255 < 255 := ⟨Int.fmod_nonneg_of_pos _ (by decide), Int.fmod_lt_of_pos _ (by decide)⟩
    have b1 : 0 ≤ (flSums z).2.fmod 255 ∧ (flSums z).2.fmod 255 < 255 := ⟨Int.fmod_nonneg_of_pos _ (by decide), Int.fmod_lt_of_pos _ (by decide)⟩
    revert F'
    generalize (flSums z).1.fmod 255 = C0 at b0 hQ
    generalize (flSums z).2.fmod 255 = C1 at b1 hQ
    intro F'
    obtain ⟨b00, b01⟩ := b0
    obtain ⟨b10, b11⟩ := b1
    k_steps
    dsimp only
    refine execs_any ?_
    k_steps
    dsimp only
    rename Fr _ _ _ _ => Fx
    have hx0 : 0 ≤ (((ns.length : Int) - off - 1) * C0 - C1).fmod 255 := Int.fmod_nonneg_of_pos _ (by decide)
    have hx1 : (((ns.length : Int) - off - 1) * C0 - C1).fmod 255 < 255 := Int.fmod_lt_of_pos _ (by decide)
    revert Fx
    generalize hX : (((ns.length : Int) - off - 1) * C0 - C1).fmod 255 = X0 at hx0 hx1
    intro Fx
    refine execs_any ?_
    k_steps
    all_goals dsimp only
    all_goals refine execs_any ?_
    all_goals k_steps
    all_goals dsimp only
    all_goals refine execs_any ?_
    all_goals k_steps
    all_goals dsimp only
    all_goals refine execs_any ?_
    all_goals k_steps
    all_goals dsimp only
    all_goals refine execs_any ?_
    all_goals k_steps
    all_goals dsimp only
    all_goals refine execs_any ?_
    all_goals k_steps
    all_goals dsimp only
    all_goals (rename Fr _ _ _ _ => Fe)
    all_goals (have hqe := fun t' k => hQ _ t' k Fe.keep)
    all_goals (unfold fletOf fletY fletX at hqe; rw [hX] at hqe)
    · rw [or_bytes (by omega) (by omega) (by omega)]
      rw [if_pos (by omega), if_neg (by omega)] at hqe
      exact hqe _ _
    · rw [or_bytes (by omega) (by omega) (by omega)]
      rw [if_neg (by omega), if_pos (by omega)] at hqe
      exact hqe _ _
    · rw [or_bytes (by omega) (by omega) (by omega)]
      rw [if_neg (by omega), if_neg (by omega)] at hqe
      exact hqe _ _

theorem fl_call {f : Addr} {o : Obj} {pm code doc data : Value} {off : Int} {t : Tok} {ns : List Int} {Q : Value → Shared → Prop} (hg : A.guards = some []) (hh : A.handled = none) (hroom : A.depth < recursionLimit)
    (G : Gl mg mb s.heap) (ho : s.heap.get? f = some o) (hdat : o.data = .func (docDef "fletcher_checksum" flParams flBody flScope pm code doc)) (hcd : s.heap.CodeRec code "fletcher_checksum")
    (S : Src s.heap data ns) (hr : ∀ n ∈ ns, 0 ≤ n ∧ n < 256) (hlen : ns.length ≤ 64) (h0 : 0 ≤ off) (h1 : off + 2 ≤ ns.length)
    (hQ : ∀ h' t' k, (∀ b o, s.heap.get? b = some o → h'.get? b = some o) → Q (.int (flet ns off) t') { s with heap := h', toks := k }) :
    wpC (model prog w) A (call (.ref f) [data, .int off t]) Q s := by
  refine call_ (code_call (binds := [("data", data), ("offset", .int off t)]) hroom ho hdat G.nolimit hcd rfl (by intro x hx; simp at hx; rcases hx with rfl | rfl <;> rfl) (fun h₁ F => ?_) rfl rfl rfl (by decide))
  refine fl_body (A := A.deeper _) (t := t) hg hh G (fun _ _ e => by cases e) (fun _ h => nomatch h) S hr hlen h0 h1 (fun h' t' k hk => ⟨_, rfl, hQ h' t' k hk⟩) F

theorem src_list {h₀ : Heap} {l : Addr} {vs : List Value} {ns : List Int} (hl : h₀.IsList l vs.toArray) (hi : IntsAre vs ns) (hr : ∀ n ∈ ns, 0 ≤ n ∧ n < 256) (hlen : ns.length ≤ 1000) : Src h₀ (.ref l) ns where
  len := fun {prog w A s E Q} hk hQ => by
    have hl' : s.heap.IsList l vs.toArray := by obtain ⟨o, ho, r⟩ := hl; exact ⟨o, hk _ _ ho, r⟩
    have hvl := hi.length
    have hsz : vs.toArray.size = ns.length := by simp [hvl]
    refine Calls.call_len_list hl' (by omega) ?_
    rw [hsz]
    exact hQ _ _
  ba := fun {prog w A s Q} hg hk hQ => by
    have hl' : s.heap.IsList l vs.toArray := by obtain ⟨o, ho, r⟩ := hl; exact ⟨o, hk _ _ ho, r⟩
    exact bytearray_list hg hl' hi hr (by rw [sizeLine_eq]; omega) hQ
theorem src_bytes {h₀ : Heap} {t : Tok} {ns : List Int} (hlen : ns.length ≤ 1000) : Src h₀ (.bytes (byteArr ns) t) ns where
  len := fun {prog w A s E Q} hk hQ => by
    have hsz : (byteArr ns).size = ns.length := byteArr_size ns
    refine len_bytes (by omega) ?_
    rw [hsz]
    exact hQ _ _
  ba := fun {prog w A s Q} hg hk hQ => bytearray_bytes hg (by rw [byteArr_size, sizeLine_eq]; omega) hQ
theorem src_ba {h₀ : Heap} {l : Addr} {ns : List Int} (hl : h₀.get? l = some (baObj (byteArr ns))) (hlen : ns.length ≤ 1000) : Src h₀ (.ref l) ns where
  len := fun {prog w A s E Q} hk hQ => by
    have hsz : (byteArr ns).size = ns.length := byteArr_size ns
    refine len_ba (hk _ _ hl) (by omega) fun t k => ?_
    rw [hsz]
    exact hQ _ _
  ba := fun {prog w A s Q} hg hk hQ => bytearray_ba hg (hk _ _ hl) (by rw [byteArr_size, sizeLine_eq]; omega) hQ
end
end Fl
end

section
open PySem.Calls
namespace Fl

def defAt (n : Nat) : Arguments × List Stmt × Scope := match PySem.Challenge.pw_bs0025_01.main.body.drop n with
  | .FunctionDef _ a b _ _ _ s _ _ _ :: _ => (a, b, s)
  | _ => (⟨[], [], none, [], [], none, []⟩, [], default)
def smParams : Arguments := (defAt 4).1
def smBody : List Stmt := (defAt 4).2.1
def smScope : Scope := (defAt 4).2.2
def ckParams : Arguments := (defAt 5).1
def ckBody : List Stmt := (defAt 5).2.1
def ckScope : Scope := (defAt 5).2.2
def jnParams : Arguments := (defAt 6).1
def jnBody : List Stmt := (defAt 6).2.1
def jnScope : Scope := (defAt 6).2.2
def lawParams : Arguments := (defAt 7).1
def lawBody : List Stmt := (defAt 7).2.1
def lawScope : Scope := (defAt 7).2.2

def tupObj (vs : List Value) : Obj := { cls := .type "tuple", data := .seq vs.toArray 0 }

section
variable {prog : Program} {w : World} {A : Around} {s : Shared} {h₀ : Heap} {L a : Addr} {cd : Value} {m mg mb : Str → Option Value}

/-- the octet of a residue -/
def oct (h : Int) : Int := if h = 0 then 255 else h
def chk (n p a b : Int) : Int := oct (((n - p - 1) * a - b).fmod 255) * 256 + oct ((-(a + ((n - p - 1) * a - b).fmod 255)).fmod 255)

set_option maxHeartbeats 4000000 in
theorem ck_body {x y n p : Int} {tx ty tn tp : Tok} {Q : Flow → Shared → Prop}
    (X : Frag.In [] h₀) (N' : News h₀ L s.heap []) (x0 : 0 ≤ x) (x1 : x < 255) (y0 : 0 ≤ y) (y1 : y < 255) (n1 : n ≤ 64) (p0 : 0 ≤ p) (p1 : p + 2 ≤ n)
    (hQ : ∀ h' t' k, (∀ b o, h₀.get? b = some o → h'.get? b = some o) → Q (.ret (.int (chk n p x y) t')) { s with heap := h', toks := k })
    (F' : Fr h₀ L s.heap (fun z => ([("first", .int x tx), ("second", .int y ty), ("length", .int n tn), ("place", .int p tp)] : List (Str × Value)).reverse.lookup z)) :
    wpC (model prog w) A (execs ckBody (envOf "_law_check" ckScope L a cd)) Q s := by
  obtain ⟨hp, gs, dr, tk, os⟩ := s
  unfold ckBody ckScope defAt PySem.Challenge.pw_bs0025_01
  dsimp only [List.drop] at *
  refine execs_any ?_
  k_steps
  dsimp only
  refine execs_any ?_
  k_steps
  dsimp only
  refine execs_any ?_
  k_steps
  all_goals dsimp only
  all_goals (rename Fr _ _ _ _ => Fe)
  all_goals (have hqe := fun t' k => hQ _ t' k Fe.keep)
  all_goals (unfold chk oct at hqe)
  · rw [if_pos (by assumption), if_pos (by assumption)] at hqe
    exact hqe _ _
  · rw [if_pos (by assumption), if_neg (by assumption)] at hqe
    exact hqe _ _
  · rw [if_neg (by assumption), if_pos (by assumption)] at hqe
    exact hqe _ _
  · rw [if_neg (by assumption), if_neg (by assumption)] at hqe
    exact hqe _ _

theorem ck_call {f : Addr} {o : Obj} {pm code doc : Value} {x y n p : Int} {tx ty tn tp : Tok} {Q : Value → Shared → Prop} (hroom : A.depth < recursionLimit) (hlim : s.heap.NoLimit)
    (ho : s.heap.get? f = some o) (hdat : o.data = .func (docDef "_law_check" ckParams ckBody ckScope pm code doc)) (hcd : s.heap.CodeRec code "_law_check") (x0 : 0 ≤ x) (x1 : x < 255) (y0 : 0 ≤ y) (y1 : y < 255) (n1 : n ≤ 64) (p0 : 0 ≤ p) (p1 : p + 2 ≤ n)
    (hQ : ∀ h' t' k, (∀ b o, s.heap.get? b = some o → h'.get? b = some o) → Q (.int (chk n p x y) t') { s with heap := h', toks := k }) :
    wpC (model prog w) A (call (.ref f) [.int x tx, .int y ty, .int n tn, .int p tp]) Q s := by
  refine call_ (code_call (binds := [("first", .int x tx), ("second", .int y ty), ("length", .int n tn), ("place", .int p tp)]) hroom ho hdat hlim hcd rfl (by intro x hx; simp at hx; rcases hx with rfl | rfl | rfl | rfl <;> rfl) (fun h₁ F => ?_) rfl rfl rfl (by decide))
  exact ck_body (s := { s with heap := h₁, toks := s.toks + 4 }) (A := A.deeper _) (fun _ _ e => by cases e) (fun _ h => nomatch h) x0 x1 y0 y1 n1 p0 p1 (fun h' t' k hk => ⟨_, rfl, hQ h' t' k hk⟩) F

def jnV (n1 a1 b1 n2 a2 b2 : Int) (t1 t2 t3 : Tok) : List Value := [.int (n1 + n2) t1, .int ((a1 + a2).fmod 255) t2, .int ((b1 + n2 * a1 + b2).fmod 255) t3]

local macro_rules | `(tactic| walk_at "subscriptTail") => `(tactic| ((with_reducible show wpAny _ _ (subscriptTail _ _ (Value.ref _) (Value.int _ _)) _ _ _); k_dflt (refine' item_tupleT ?t ?a ?b ?c ?d ?_; (case t => first | exact (by assumption : IsTup _ _ _).keeps (Fr.keep (by assumption))); (case a => decide); (case b => decide); (case c => rfl); (case d => rfl); k_whole)))

set_option maxHeartbeats 4000000 in
theorem jn_body {t u : Addr} {n1 a1 b1 n2 a2 b2 : Int} {x1 x2 x3 y1 y2 y3 : Tok} {Q : Flow → Shared → Prop}
    (X : Frag.In [] h₀) (N' : News h₀ L s.heap []) (T1 : IsTup h₀ t [Value.int n1 x1, .int a1 x2, .int b1 x3].toArray) (T2 : IsTup h₀ u [Value.int n2 y1, .int a2 y2, .int b2 y3].toArray)
    (n10 : 0 ≤ n1) (n11 : n1 ≤ 64) (n20 : 0 ≤ n2) (n21 : n2 ≤ 64) (a10 : 0 ≤ a1) (a11 : a1 < 255) (a20 : 0 ≤ a2) (a21 : a2 < 255) (b10 : 0 ≤ b1) (b11 : b1 < 255) (b20 : 0 ≤ b2) (b21 : b2 < 255)
    (hQ : ∀ h' r k z1 z2 z3, (∀ b o, h₀.get? b = some o → h'.get? b = some o) → h'.get? r = some (tupObj (jnV n1 a1 b1 n2 a2 b2 z1 z2 z3)) → h₀.get? r = none → Q (.ret (.ref r)) { s with heap := h', toks := k })
    (F' : Fr h₀ L s.heap (fun z => ([("one", .ref t), ("other", .ref u)] : List (Str × Value)).reverse.lookup z)) :
    wpC (model prog w) A (execs jnBody (envOf "_law_joined" jnScope L a cd)) Q s := by
  obtain ⟨hp, gs, dr, tk, os⟩ := s
  unfold jnBody jnScope defAt PySem.Challenge.pw_bs0025_01
  dsimp only [List.drop] at *
  refine execs_any ?_
  k_steps
  rename Fr _ _ _ _ => F2
  rename News _ _ _ _ => N2
  exact hQ _ _ _ _ _ _ F2.keep (N2 _ (.head _)).1 (N2 _ (.head _)).2.2

theorem jn_call {f t u : Addr} {o : Obj} {pm code doc : Value} {n1 a1 b1 n2 a2 b2 : Int} {x1 x2 x3 y1 y2 y3 : Tok} {Q : Value → Shared → Prop} (hroom : A.depth < recursionLimit) (hlim : s.heap.NoLimit)
    (ho : s.heap.get? f = some o) (hdat : o.data = .func (docDef "_law_joined" jnParams jnBody jnScope pm code doc)) (hcd : s.heap.CodeRec code "_law_joined")
    (T1 : IsTup s.heap t [Value.int n1 x1, .int a1 x2, .int b1 x3].toArray) (T2 : IsTup s.heap u [Value.int n2 y1, .int a2 y2, .int b2 y3].toArray)
    (n10 : 0 ≤ n1) (n11 : n1 ≤ 64) (n20 : 0 ≤ n2) (n21 : n2 ≤ 64) (a10 : 0 ≤ a1) (a11 : a1 < 255) (a20 : 0 ≤ a2) (a21 : a2 < 255) (b10 : 0 ≤ b1) (b11 : b1 < 255) (b20 : 0 ≤ b2) (b21 : b2 < 255)
    (hQ : ∀ h' r k z1 z2 z3, (∀ b o, s.heap.get? b = some o → h'.get? b = some o) → h'.get? r = some (tupObj (jnV n1 a1 b1 n2 a2 b2 z1 z2 z3)) → s.heap.get? r = none → Q (.ref r) { s with heap := h', toks := k }) :
    wpC (model prog w) A (call (.ref f) [.ref t, .ref u]) Q s := by
  refine call_ (code_call (binds := [("one", .ref t), ("other", .ref u)]) hroom ho hdat hlim hcd rfl (by intro x hx; simp at hx; rcases hx with rfl | rfl <;> rfl) (fun h₁ F => ?_) rfl rfl rfl (by decide))
  exact jn_body (s := { s with heap := h₁, toks := s.toks + 2 }) (A := A.deeper _) (fun _ _ e => by cases e) (fun _ h => nomatch h) T1 T2 n10 n11 n20 n21 a10 a11 a20 a21 b10 b11 b20 b21 (fun h' r k z1 z2 z3 hk e n => ⟨_, rfl, hQ h' r k z1 z2 z3 hk e n⟩) F
end
end Fl
end

section
open PySem.Calls
namespace Fl

theorem flSums_set_aux (z : List Int) : ∀ (n : Nat) (k : Nat) (v : Int), z.length = n → k < n → flSums (z.set k v) = ((flSums z).1 + (v - z.getD k 0), (flSums z).2 + ((n : Int) - k) * (v - z.getD k 0)) := by
  intro n
  induction n generalizing z with
  | zero => intro k v _ h; omega
  | succ n ih =>
    intro k v hl hk
    have hne : z ≠ [] := by intro q; rw [q] at hl; simp at hl
    obtain ⟨t, x, rfl⟩ : ∃ t x, z = t ++ [x] := ⟨z.dropLast, z.getLast hne, (List.dropLast_concat_getLast hne).symm⟩
    have hl' : t.length = n := by simpa using hl
    rw [flSums_snoc]
    by_cases q : k = n
    · have e : (t ++ [x]).set k v = t ++ [v] := by rw [List.set_append, if_neg (by omega)]; simp [hl', q]
      have g : (t ++ [x]).getD k 0 = x := by simp [List.getD_eq_getElem?_getD, q, ← hl']
      rw [e, flSums_snoc, g]
      ext
      · show _ + v = _ + x + (v - x); omega
      · show _ + (_ + v) = _ + (_ + x) + ((n + 1 : Nat) - (k : Int)) * (v - x)
        have : ((n + 1 : Nat) : Int) - (k : Int) = 1 := by omega
        rw [this]; omega
    · have e : (t ++ [x]).set k v = t.set k v ++ [x] := by rw [List.set_append, if_pos (by omega)]
      have g : (t ++ [x]).getD k 0 = t.getD k 0 := by simp [List.getD_eq_getElem?_getD, List.getElem?_append_left (show k < t.length by omega)]
      rw [e, flSums_snoc, g, ih t k v hl' (by omega)]
      generalize t.getD k 0 = y
      ext
      · show _ + (v - y) + x = _ + x + (v - y); omega
      · show _ + ((n : Int) - k) * (v - y) + (_ + (v - y) + x) = _ + (_ + x) + (((n + 1 : Nat) : Int) - k) * (v - y)
        have : (((n + 1 : Nat) : Int) - (k : Int)) = ((n : Int) - k) + 1 := by omega
        rw [this, Int.add_mul]; omega

theorem zap_getD {rs : List Int} {o k : Nat} (ho : o + 2 ≤ rs.length) (h1 : k ≠ o) (h2 : k ≠ o + 1) : (zap rs o).getD k 0 = rs.getD k 0 := by
  simp only [List.getD_eq_getElem?_getD, zap]
  congr 1
  rcases Nat.lt_or_ge k o with h | h
  · rw [List.getElem?_append_left (by simp; omega), List.getElem?_take_of_lt h]
  · rw [List.getElem?_append_right (by simp; omega), List.getElem?_append_right (by simp; omega), List.getElem?_drop]
    congr 1
    simp
    omega
theorem zap_set {rs : List Int} {o k : Nat} {v : Int} (ho : o + 2 ≤ rs.length) (h1 : k ≠ o) (h2 : k ≠ o + 1) : zap (rs.set k v) o = (zap rs o).set k v := by
  apply List.ext_getElem?
  intro i
  have hz := zap_length ho
  simp only [zap]
  by_cases hk : k < o
  · rw [List.set_append, if_pos (by simp; omega), List.take_set, List.drop_set_of_lt (by omega)]
  · have e1 : (rs.set k v).take o = rs.take o := by rw [List.take_set_of_le (by omega)]
    have e2 : (rs.set k v).drop (o + 2) = (rs.drop (o + 2)).set (k - (o + 2)) v := by rw [List.drop_set, if_neg (by omega)]
    rw [e1, e2, List.set_append, if_neg (by simp; omega), List.set_append, if_neg (by simp; omega)]
    congr 4
    simp
    omega

def S0 (rs : List Int) (o : Nat) : Int := (flSums (zap rs o)).1
def S1 (rs : List Int) (o : Nat) : Int := (flSums (zap rs o)).2

theorem S_set {rs : List Int} {o k : Nat} {v : Int} (ho : o + 2 ≤ rs.length) (h1 : k ≠ o) (h2 : k ≠ o + 1) (hk : k < rs.length) :
    S0 (rs.set k v) o = S0 rs o + (v - rs.getD k 0) ∧ S1 (rs.set k v) o = S1 rs o + ((rs.length : Int) - k) * (v - rs.getD k 0) := by
  unfold S0 S1
  rw [zap_set ho h1 h2, flSums_set_aux _ _ k v (zap_length ho) hk, zap_getD ho h1 h2]
  exact ⟨rfl, rfl⟩

theorem getD_set_self {rs : List Int} {k : Nat} {v : Int} (hk : k < rs.length) : (rs.set k v).getD k 0 = v := by simp [List.getD_eq_getElem?_getD, hk]
theorem getD_set_ne {rs : List Int} {k j : Nat} {v : Int} (h : k ≠ j) : (rs.set k v).getD j 0 = rs.getD j 0 := by simp [List.getD_eq_getElem?_getD, List.getElem?_set_ne h]

theorem fletOf_iff {n off a b c d : Int} (ha : 0 ≤ a ∧ a < 255) (hb : 0 ≤ b ∧ b < 255) (hc : 0 ≤ c ∧ c < 255) (hd : 0 ≤ d ∧ d < 255) : fletOf n off a b = fletOf n off c d ↔ a = c ∧ b = d := by
  constructor
  · intro h
    unfold fletOf fletY fletX at h
    rw [Int.fmod_eq_emod_of_nonneg _ (by decide), Int.fmod_eq_emod_of_nonneg _ (by decide)] at h
    have hac : a = c := by
      generalize (n - off - 1) * a = p at h
      generalize (n - off - 1) * c = q at h
      split at h <;> split at h <;> split at h <;> split at h <;> omega
    subst hac
    refine ⟨rfl, ?_⟩
    generalize (n - off - 1) * a = p at h
    split at h <;> split at h <;> split at h <;> split at h <;> omega
  · rintro ⟨rfl, rfl⟩; rfl

theorem fletOf_range {n off a b : Int} (ha : 0 ≤ a ∧ a < 255) : 257 ≤ fletOf n off a b ∧ fletOf n off a b ≤ 65535 := by
  unfold fletOf fletY fletX
  rw [Int.fmod_eq_emod_of_nonneg _ (by decide)]
  generalize (n - off - 1) * a - b = p
  split <;> split <;> omega

theorem flet_iff {rs rs' : List Int} {off d0 d1 : Int} (hl : rs'.length = rs.length) (h0 : S0 rs' off.toNat = S0 rs off.toNat + d0) (h1 : S1 rs' off.toNat = S1 rs off.toNat + d1) :
    flet rs' off = flet rs off ↔ d0 % 255 = 0 ∧ d1 % 255 = 0 := by
  unfold flet
  unfold S0 at h0
  unfold S1 at h1
  rw [hl, h0, h1]
  rw [fletOf_iff ⟨Int.fmod_nonneg_of_pos _ (by decide), Int.fmod_lt_of_pos _ (by decide)⟩ ⟨Int.fmod_nonneg_of_pos _ (by decide), Int.fmod_lt_of_pos _ (by decide)⟩ ⟨Int.fmod_nonneg_of_pos _ (by decide), Int.fmod_lt_of_pos _ (by decide)⟩ ⟨Int.fmod_nonneg_of_pos _ (by decide), Int.fmod_lt_of_pos _ (by decide)⟩]
  rw [Int.fmod_eq_emod_of_nonneg _ (by decide), Int.fmod_eq_emod_of_nonneg _ (by decide), Int.fmod_eq_emod_of_nonneg _ (by decide), Int.fmod_eq_emod_of_nonneg _ (by decide)]
  omega

theorem flet_gain {rs rs' : List Int} {off d0 d1 g : Int} (hl : rs'.length = rs.length) (h0 : S0 rs' off.toNat = S0 rs off.toNat + d0) (h1 : S1 rs' off.toNat = S1 rs off.toNat + d1)
    (hg : (d0 = 0 ∧ (d1 = g ∨ d1 = -g)) ∨ (d0 = g ∧ ∃ c, d1 = c * g)) : flet rs' off = flet rs off ↔ g.fmod 255 = 0 := by
  rw [flet_iff hl h0 h1, Int.fmod_eq_emod_of_nonneg _ (by decide)]
  rcases hg with ⟨e, e' | e'⟩ | ⟨e, c, e'⟩
  · omega
  · omega
  · subst e e'
    constructor
    · rintro ⟨a, _⟩; exact a
    · intro a
      refine ⟨a, ?_⟩
      rw [Int.mul_emod, a, Int.mul_zero]; rfl

def sumN (f : Nat → Int) : Nat → Int
  | 0 => 0
  | n + 1 => sumN f n + f n

theorem sumN_congr {f g : Nat → Int} : ∀ {n : Nat}, (∀ i, i < n → f i = g i) → sumN f n = sumN g n
  | 0, _ => rfl
  | n + 1, h => by show sumN f n + f n = sumN g n + g n; rw [sumN_congr fun i hi => h i (by omega), h n (by omega)]
theorem sumN_front (f : Nat → Int) : ∀ n, sumN f (n + 1) = f 0 + sumN (fun i => f (i + 1)) n
  | 0 => by show 0 + f 0 = f 0 + 0; omega
  | n + 1 => by
    show sumN f (n + 1) + f (n + 1) = f 0 + (sumN (fun i => f (i + 1)) n + f (n + 1))
    rw [sumN_front f n]; omega
theorem sumN_reflect : ∀ (n : Nat) (f : Nat → Int), sumN (fun i => f (n - 1 - i)) n = sumN f n
  | 0, _ => rfl
  | n + 1, f => by
    rw [sumN_front (fun i => f (n + 1 - 1 - i)) n]
    show f (n + 1 - 1 - 0) + _ = sumN f n + f n
    rw [← sumN_reflect n f]
    have : sumN (fun i => f (n + 1 - 1 - (i + 1))) n = sumN (fun i => f (n - 1 - i)) n := sumN_congr fun i hi => by congr 1; omega
    rw [this]
    show f n + _ = _
    omega
theorem sumN_sub (f g : Nat → Int) : ∀ n, sumN (fun i => f i - g i) n = sumN f n - sumN g n
  | 0 => rfl
  | n + 1 => by
    show sumN (fun i => f i - g i) n + (f n - g n) = (sumN f n + f n) - (sumN g n + g n)
    rw [sumN_sub f g n]; omega

/-- a stretch turned round: the sums afterwards -/
theorem turned {f : Nat → Int} {N l h : Nat} (hlh : l ≤ h) :
    sumN (fun j => f (h - j) - f (l + j)) (h - l + 1) = 0 ∧
    sumN (fun j => ((N : Int) - ((l : Int) + j)) * (f (h - j) - f (l + j))) (h - l + 1) = sumN (fun j => ((l : Int) + h - 2 * ((l : Int) + j)) * f (h - j)) (h - l + 1) := by
  constructor
  · rw [sumN_sub, ← sumN_reflect (h - l + 1) (fun j => f (l + j))]
    rw [sumN_congr (f := fun j => f (h - j)) (g := fun i => f (l + (h - l + 1 - 1 - i))) fun i hi => by congr 1; omega]
    omega
  · have e : ∀ i, i < h - l + 1 → ((N : Int) - ((l : Int) + i)) * (f (h - i) - f (l + i)) = ((l : Int) + h - 2 * ((l : Int) + i)) * f (h - i) - ((fun j => ((N : Int) - ((l : Int) + j)) * f (l + j)) i - (fun j => ((N : Int) - ((l : Int) + j)) * f (l + j)) (h - l + 1 - 1 - i)) := by
      intro i hi
      have e1 : l + (h - l + 1 - 1 - i) = h - i := by omega
      have e2 : ((h - l + 1 - 1 - i : Nat) : Int) = (h : Int) - l - i := by omega
      show _ = _ - (((N : Int) - ((l : Int) + i)) * f (l + i) - ((N : Int) - ((l : Int) + ((h - l + 1 - 1 - i : Nat) : Int))) * f (l + (h - l + 1 - 1 - i)))
      rw [e1, e2]
      generalize f (h - i) = y
      generalize f (l + i) = x
      generalize (N : Int) = N
      generalize (l : Int) = l
      generalize (h : Int) = h
      generalize (i : Int) = i
      grind
    have r := sumN_reflect (h - l + 1) (fun j => ((N : Int) - ((l : Int) + j)) * f (l + j))
    rw [sumN_congr e, sumN_sub, sumN_sub, r]
    omega

section
variable {rs : List Int} {PL lo hi : Int}

theorem one_set {v : Int} (p0 : 0 ≤ PL) (p1 : PL + 2 ≤ rs.length) (l0 : 0 ≤ lo) (l1 : lo < rs.length) (a1 : lo ≠ PL) (a2 : lo ≠ PL + 1) :
    S0 (rs.set lo.toNat v) PL.toNat = S0 rs PL.toNat + (v - rs.getD lo.toNat 0) ∧ S1 (rs.set lo.toNat v) PL.toNat = S1 rs PL.toNat + ((rs.length : Int) - lo) * (v - rs.getD lo.toNat 0) := by
  have h := S_set (rs := rs) (o := PL.toNat) (k := lo.toNat) (v := v) (by omega) (by omega) (by omega) (by omega)
  rw [Int.toNat_of_nonneg l0] at h
  exact h

theorem two_set {x y : Int} (p0 : 0 ≤ PL) (p1 : PL + 2 ≤ rs.length) (l0 : 0 ≤ lo) (l1 : lo < hi) (l2 : hi < rs.length) (a1 : lo ≠ PL) (a2 : lo ≠ PL + 1) (a3 : hi ≠ PL) (a4 : hi ≠ PL + 1) :
    S0 ((rs.set lo.toNat x).set hi.toNat y) PL.toNat = S0 rs PL.toNat + ((x - rs.getD lo.toNat 0) + (y - rs.getD hi.toNat 0)) ∧
    S1 ((rs.set lo.toNat x).set hi.toNat y) PL.toNat = S1 rs PL.toNat + (((rs.length : Int) - lo) * (x - rs.getD lo.toNat 0) + ((rs.length : Int) - hi) * (y - rs.getD hi.toNat 0)) := by
  obtain ⟨a, b⟩ := one_set (v := x) p0 p1 l0 (by omega) a1 a2
  obtain ⟨c, d⟩ := one_set (rs := rs.set lo.toNat x) (lo := hi) (v := y) p0 (by simpa using p1) (by omega) (by simpa using l2) a3 a4
  rw [getD_set_ne (by omega)] at c d
  rw [List.length_set] at d
  rw [c, d, a, b]
  constructor <;> omega

theorem same_set {x y : Int} (p0 : 0 ≤ PL) (p1 : PL + 2 ≤ rs.length) (l0 : 0 ≤ lo) (l1 : lo < rs.length) (a1 : lo ≠ PL) (a2 : lo ≠ PL + 1) :
    S0 ((rs.set lo.toNat x).set lo.toNat y) PL.toNat = S0 rs PL.toNat + (y - rs.getD lo.toNat 0) ∧
    S1 ((rs.set lo.toNat x).set lo.toNat y) PL.toNat = S1 rs PL.toNat + ((rs.length : Int) - lo) * (y - rs.getD lo.toNat 0) := by
  rw [List.set_set]
  exact one_set p0 p1 l0 l1 a1 a2

theorem k0_law (p0 : 0 ≤ PL) (p1 : PL + 2 ≤ rs.length) (l0 : 0 ≤ lo) (l1 : lo ≤ hi) (l2 : hi < rs.length) (a1 : lo ≠ PL) (a2 : lo ≠ PL + 1) (a3 : hi ≠ PL) (a4 : hi ≠ PL + 1) :
    flet ((rs.set lo.toNat (rs.getD hi.toNat 0)).set hi.toNat (rs.getD lo.toNat 0)) PL = flet rs PL ↔ ((rs.getD lo.toNat 0 - rs.getD hi.toNat 0) * (hi - lo)).fmod 255 = 0 := by
  by_cases q : lo = hi
  · subst q
    obtain ⟨a, b⟩ := same_set (rs := rs) (x := rs.getD lo.toNat 0) (y := rs.getD lo.toNat 0) p0 p1 l0 l2 a1 a2
    rw [Int.sub_self] at a b
    refine flet_gain (by simp) a b (.inl ⟨rfl, .inl ?_⟩)
    rw [Int.sub_self]
    simp
  · obtain ⟨a, b⟩ := two_set (rs := rs) (x := rs.getD hi.toNat 0) (y := rs.getD lo.toNat 0) p0 p1 l0 (by omega) l2 a1 a2 a3 a4
    refine flet_gain (by simp) a b (.inl ⟨by omega, .inr ?_⟩)
    generalize rs.getD hi.toNat 0 = x
    generalize rs.getD lo.toNat 0 = y
    generalize (rs.length : Int) = n
    grind

theorem k1_law {v : Int} (p0 : 0 ≤ PL) (p1 : PL + 2 ≤ rs.length) (l0 : 0 ≤ lo) (l1 : lo < rs.length) (a1 : lo ≠ PL) (a2 : lo ≠ PL + 1) :
    flet (rs.set lo.toNat v) PL = flet rs PL ↔ ((rs.set lo.toNat v).getD lo.toNat 0 - rs.getD lo.toNat 0).fmod 255 = 0 := by
  obtain ⟨a, b⟩ := one_set (v := v) p0 p1 l0 l1 a1 a2
  rw [getD_set_self (by omega)]
  exact flet_gain (by simp) a b (.inr ⟨rfl, _, rfl⟩)

theorem k4_law {m : Int} (hm : lo = hi → m = 0) (p0 : 0 ≤ PL) (p1 : PL + 2 ≤ rs.length) (l0 : 0 ≤ lo) (l1 : lo ≤ hi) (l2 : hi < rs.length) (a1 : lo ≠ PL) (a2 : lo ≠ PL + 1) (a3 : hi ≠ PL) (a4 : hi ≠ PL + 1) :
    flet ((rs.set lo.toNat (rs.getD lo.toNat 0 + m)).set hi.toNat (rs.getD hi.toNat 0 - m)) PL = flet rs PL ↔ (m * (hi - lo)).fmod 255 = 0 := by
  by_cases q : lo = hi
  · rw [hm q]
    subst q
    obtain ⟨a, b⟩ := same_set (rs := rs) (x := rs.getD lo.toNat 0 + 0) (y := rs.getD lo.toNat 0 - 0) p0 p1 l0 l2 a1 a2
    rw [Int.sub_zero, Int.sub_self] at a b
    rw [Int.sub_zero]
    refine flet_gain (by simp) a b (.inl ⟨rfl, .inl ?_⟩)
    simp
  · obtain ⟨a, b⟩ := two_set (rs := rs) (x := rs.getD lo.toNat 0 + m) (y := rs.getD hi.toNat 0 - m) p0 p1 l0 (by omega) l2 a1 a2 a3 a4
    refine flet_gain (by simp) a b (.inl ⟨by omega, .inl ?_⟩)
    generalize rs.getD hi.toNat 0 = x
    generalize rs.getD lo.toNat 0 = y
    generalize (rs.length : Int) = n
    grind
end
end Fl
end

section
open PySem.Calls
namespace Fl

theorem chk_flet {n p a b : Int} (ha : 0 ≤ a ∧ a < 255) : chk n p a b = fletOf n p a b := by
  unfold chk oct fletOf fletY fletX
  rw [Int.fmod_eq_emod_of_nonneg _ (by decide), Int.fmod_eq_emod_of_nonneg _ (by decide)]
  generalize (n - p - 1) * a - b = q
  have h0 : 0 ≤ q % 255 := Int.emod_nonneg _ (by decide)
  have h1 : q % 255 < 255 := Int.emod_lt_of_pos _ (by decide)
  generalize q % 255 = h at h0 h1
  split <;> split <;> split <;> (try split) <;> omega

theorem fl_parts {n off a b : Int} (ha : 0 ≤ a ∧ a < 255) (hb : 0 ≤ b ∧ b < 255) : ∃ X Y, 1 ≤ X ∧ X ≤ 255 ∧ 1 ≤ Y ∧ Y ≤ 255 ∧ fletOf n off a b = X * 256 + Y ∧ (fletOf n off a b).fdiv 256 = X ∧ (fletOf n off a b).fmod 256 = Y ∧
    (-(X + Y)).fmod 255 = a ∧ ((n - off - 1) * a - X).fmod 255 = b := by
  refine ⟨fletX n off a b, fletY a (fletX n off a b), ?_⟩
  unfold fletOf fletY fletX
  rw [Int.fdiv_eq_ediv_of_nonneg _ (by decide), Int.fmod_eq_emod_of_nonneg _ (by decide), Int.fmod_eq_emod_of_nonneg _ (by decide), Int.fmod_eq_emod_of_nonneg _ (by decide), Int.fmod_eq_emod_of_nonneg _ (by decide)]
  generalize (n - off - 1) * a = q
  have h0 : 0 ≤ (q - b) % 255 := Int.emod_nonneg _ (by decide)
  have h1 : (q - b) % 255 < 255 := Int.emod_lt_of_pos _ (by decide)
  refine ⟨?_, ?_, ?_, ?_, rfl, ?_, ?_, ?_, ?_⟩ <;> (split <;> (try split) <;> omega)
end Fl
end

section
open PySem.Calls
namespace Fl

structure FlOk (mg : Str → Option Value) (h₀ : Heap) : Prop where
  at' : ∃ f o pm code doc, mg "fletcher_checksum" = some (.ref f) ∧ h₀.get? f = some o ∧ o.data = .func (docDef "fletcher_checksum" flParams flBody flScope pm code doc) ∧ h₀.CodeRec code "fletcher_checksum"

theorem Gl.base {mg mb : Str → Option Value} {h h' : Heap} {L : Addr} {m : Str → Option Value} (G : Gl mg mb h) (F : Fr h L h' m) : Gl mg mb h' := G.keeps F.keep

section
variable {prog : Program} {w : World} {A : Around} {s : Shared} {h₀ : Heap} {L a : Addr} {cd : Value} {m mg mb : Str → Option Value} {news : List (Addr × Obj)} {cn : Str} {cs : Scope}

/-- a call of the checksum with two names of the frame -/
theorem fl_names {p1 p2 p3 p4 : Pos} {X Y : Str} {v : Value} {rs : List Int} {PL : Int} {tp : Tok} {Q : Value → Shared → Prop} (hg : A.guards = some []) (hh : A.handled = none) (hroom : A.depth < recursionLimit)
    (G : Gl mg mb h₀) (K : FlOk mg h₀) (F : Fr h₀ L s.heap m) (N : News h₀ L s.heap news) (hr : m X = some v) (hp : m Y = some (.int PL tp)) (S : Src s.heap v rs)
    (ho : ∀ x ∈ rs, 0 ≤ x ∧ x < 256) (hlen : rs.length ≤ 64) (h0 : 0 ≤ PL) (h1 : PL + 2 ≤ rs.length)
    (hQ : ∀ h' t' k', Fr h₀ L h' m → News h₀ L h' news → Q (.int (flet rs PL) t') { s with heap := h', toks := k' })
    (hk : cs.kind = .function := by rfl) (hx : (envOf cn cs L a cd).kindOf "fletcher_checksum" = some .globalImplicit := by rfl) (hX : (envOf cn cs L a cd).kindOf X = some .local := by rfl) (hY : (envOf cn cs L a cd).kindOf Y = some .local := by rfl) (hdX : (X == ("__debug__" : Str)) = false := by decide) (hdY : (Y == ("__debug__" : Str)) = false := by decide) :
    wpC (model prog w) A (eval (.Call (.Name "fletcher_checksum" p1) [.Name X p2, .Name Y p3] [] p4) (envOf cn cs L a cd)) Q s := by
  obtain ⟨f, o, pm, code, doc, e1, e2, e3, e4⟩ := K.at'
  refine Call_ (ld_global_at F G.g e1 ?_ hk hx)
  refine callWith_ (.inl rfl) (args_cons_ (any (ld F hr (args_cons_ (any (ld F hp (args_nil_ ⟨keeper_func (F.keep _ _ e2) e3, ?_⟩) hk hY hdY))) hk hX hdX)))
  refine fl_call hg hh hroom (G.base F) (F.keep _ _ e2) e3 (e4.keeps F.keep) S ho hlen h0 h1 fun h' t' k' hk => ?_
  exact hQ h' t' k' (F.after hk) fun p hp => ⟨hk _ _ (N p hp).1, (N p hp).2⟩

local macro_rules | `(tactic| walk_at "a key of no step") => `(tactic| fail)
def smV (c0 c1 : Int) (t1 t2 : Tok) : List Value := [.int c0 t1, .int c1 t2]
local macro_rules | `(tactic| walk_at "eval Name") => `(tactic| (with_unfolding_all refine guard_global (by rfl) ?_; k_dflt (refine' nm_b ?k1 ?k2 ?k3 ?k4 ?k5 ?_; (case k1 => k_asm); (case k2 => k_asm); (case k3 => decide); (case k4 => boot_by_name); (case k5 => decide); k_whole)))

set_option maxHeartbeats 4000000 in
theorem sm_body {E₁ : Env} {l : Addr} {wl : List Value} {rs : List Int} {PL : Int} {tp : Tok} {Q : Flow → Shared → Prop}
    (G : Gl mg mb h₀) (K : FlOk mg h₀) (X : Frag.In [] h₀) (N' : News h₀ L s.heap []) (hl : h₀.IsList l wl.toArray) (hI : IntsAre wl rs)
    (ho : ∀ x ∈ rs, 0 ≤ x ∧ x < 256) (hlen : rs.length ≤ 64) (h0 : 0 ≤ PL) (h1 : PL + 2 ≤ rs.length)
    (hQ : ∀ h' r k z1 z2, (∀ b o, h₀.get? b = some o → h'.get? b = some o) → h'.get? r = some (tupObj (smV ((S0 rs PL.toNat).fmod 255) ((S1 rs PL.toNat).fmod 255) z1 z2)) → h₀.get? r = none → Q (.ret (.ref r)) { s with heap := h', toks := k })
    (F' : Fr h₀ L s.heap (fun z => ([("row", .ref l), ("place", .int PL tp)] : List (Str × Value)).reverse.lookup z)) :
    wpC (model prog w) ((callerA.deeper E₁).deeper (envOf "_law_sums" smScope L a cd)) (execs smBody (envOf "_law_sums" smScope L a cd)) Q s := by
  obtain ⟨hp, gs, dr, tk, os⟩ := s
  unfold smBody defAt PySem.Challenge.pw_bs0025_01
  dsimp only [List.drop]
  have hwl := hI.length
  refine execs_any ?_
  k_steps
  dsimp only
  rename Fr _ _ _ _ => F1
  rename News _ _ _ _ => N1
  refine execs_cons_ (Assign_ (fl_names (cs := smScope) rfl rfl (show callerA.depth + 1 + 1 < recursionLimit by decide) G K F1 N1 rfl rfl (src_list (Fr.lst F1 hl) hI ho (by omega)) ho hlen h0 h1 fun h3 t3 k3 F3 N3 => ?_))
  refine stN F3 N3 fun h4 F4 N4 => ?_
  clear F3 N3 F1 N1
  dsimp only
  unfold smScope defAt PySem.Challenge.pw_bs0025_01
  dsimp only [List.drop]
  obtain ⟨X, Y, x0, x1, y0, y1, e0, e1, e2, e3, e4⟩ := fl_parts (n := rs.length) (off := PL) (a := (S0 rs PL.toNat).fmod 255) (b := (S1 rs PL.toNat).fmod 255) ⟨Int.fmod_nonneg_of_pos _ (by decide), Int.fmod_lt_of_pos _ (by decide)⟩ ⟨Int.fmod_nonneg_of_pos _ (by decide), Int.fmod_lt_of_pos _ (by decide)⟩
  have hfl : flet rs PL = fletOf rs.length PL ((S0 rs PL.toNat).fmod 255) ((S1 rs PL.toNat).fmod 255) := rfl
  revert F4
  rw [hfl]
  generalize fletOf rs.length PL ((S0 rs PL.toNat).fmod 255) ((S1 rs PL.toNat).fmod 255) = V at e0 e1 e2
  intro F4
  clear hfl
  refine execs_any ?_
  k_steps
  dsimp only
  rename Fr _ _ _ _ => F5
  rename News _ _ _ _ => N5
  rw [e1, e2] at F5

  refine execs_any ?_
  k_steps
  dsimp only
  refine execs_any ?_
  k_steps
  dsimp only
  rename Fr _ _ _ _ => F6
  dsimp only at F6
  have c00 : 0 ≤ (S0 rs PL.toNat).fmod 255 := Int.fmod_nonneg_of_pos _ (by decide)
  have c01 : (S0 rs PL.toNat).fmod 255 < 255 := Int.fmod_lt_of_pos _ (by decide)
  rw [e3] at F6
  revert F6
  generalize (S0 rs PL.toNat).fmod 255 = C0 at c00 c01 e3 e4 hQ
  intro F6
  refine execs_any ?_
  k_steps
  rename Fr _ _ _ _ => F7
  rename News _ _ _ _ => N7
  rw [e4] at N7
  exact hQ _ _ _ _ _ F7.keep (N7 _ (.head _)).1 (N7 _ (.head _)).2.2

theorem sm_call' {E₁ : Env} {f l : Addr} {o : Obj} {pm code doc : Value} {wl : List Value} {rs : List Int} {PL : Int} {tp : Tok} {Q : Value → Shared → Prop}
    (G : Gl mg mb s.heap) (K : FlOk mg s.heap) (ho' : s.heap.get? f = some o) (hdat : o.data = .func (docDef "_law_sums" smParams smBody smScope pm code doc)) (hcd : s.heap.CodeRec code "_law_sums")
    (hl : s.heap.IsList l wl.toArray) (hI : IntsAre wl rs) (ho : ∀ x ∈ rs, 0 ≤ x ∧ x < 256) (hlen : rs.length ≤ 64) (h0 : 0 ≤ PL) (h1 : PL + 2 ≤ rs.length)
    (hQ : ∀ h' r k z1 z2, (∀ b o, s.heap.get? b = some o → h'.get? b = some o) → h'.get? r = some (tupObj (smV ((S0 rs PL.toNat).fmod 255) ((S1 rs PL.toNat).fmod 255) z1 z2)) → s.heap.get? r = none → Q (.ref r) { s with heap := h', toks := k }) :
    wpC (model prog w) (callerA.deeper E₁) (call (.ref f) [.ref l, .int PL tp]) Q s := by
  refine call_ (code_call (binds := [("row", .ref l), ("place", .int PL tp)]) (show callerA.depth + 1 < recursionLimit by decide) ho' hdat G.nolimit hcd rfl (by intro x hx; simp at hx; rcases hx with rfl | rfl <;> rfl) (fun h₁ F => ?_) rfl rfl rfl (by decide))
  exact sm_body (s := { s with heap := h₁, toks := s.toks + 2 }) G K (fun _ _ e => by cases e) (fun _ h => nomatch h) hl hI ho hlen h0 h1 (fun h' r k z1 z2 hk e n => ⟨_, rfl, hQ h' r k z1 z2 hk e n⟩) F
end
end Fl
end

section
open PySem.Calls
namespace Fl

def turnBody : List Stmt := match lawBody.drop 3 with
  | .For _ _ b _ _ :: _ => b
  | _ => []
def turnB4 : List Stmt := turnBody.drop 4

/-- the law's own frame: three of its names lie in cells -/
abbrev lawE (L a : Addr) (cd : Value) (c1 c2 c3 : Addr) : Env := envX "law" lawScope L a cd [("draw", c3), ("k", c2), ("cells", c1)]

theorem fr_chain4 {h₀ h : Heap} {L : Addr} {m : Str → Option Value} {x1 x2 x3 x4 : Str} {v1 v2 v3 v4 : Value} (F : Fr h₀ L h m) (h1 : m x1 = some v1) (h2 : m x2 = some v2) (h3 : m x3 = some v3) (h4 : m x4 = some v4) : Fr h₀ L h (fun y => if y = x1 then some v1 else if y = x2 then some v2 else if y = x3 then some v3 else if y = x4 then some v4 else m y) := by
  have e : m = fun y => if y = x1 then some v1 else if y = x2 then some v2 else if y = x3 then some v3 else if y = x4 then some v4 else m y := by
    funext y
    by_cases q : y = x1
    · rw [if_pos q, q, h1]
    rw [if_neg q]
    by_cases q : y = x2
    · rw [if_pos q, q, h2]
    rw [if_neg q]
    by_cases q : y = x3
    · rw [if_pos q, q, h3]
    rw [if_neg q]
    by_cases q : y = x4
    · rw [if_pos q, q, h4]
    rw [if_neg q]
  rw [← e]; exact F

theorem fr_chain6 {h₀ h : Heap} {L : Addr} {m : Str → Option Value} {x1 x2 x3 x4 x5 x6 : Str} {v1 v2 v3 v4 v5 v6 : Value} (F : Fr h₀ L h m) (h1 : m x1 = some v1) (h2 : m x2 = some v2) (h3 : m x3 = some v3) (h4 : m x4 = some v4) (h5 : m x5 = some v5) (h6 : m x6 = some v6) : Fr h₀ L h (fun y => if y = x1 then some v1 else if y = x2 then some v2 else if y = x3 then some v3 else if y = x4 then some v4 else if y = x5 then some v5 else if y = x6 then some v6 else m y) := by
  have e : m = fun y => if y = x1 then some v1 else if y = x2 then some v2 else if y = x3 then some v3 else if y = x4 then some v4 else if y = x5 then some v5 else if y = x6 then some v6 else m y := by
    funext y
    by_cases q : y = x1
    · rw [if_pos q, q, h1]
    rw [if_neg q]
    by_cases q : y = x2
    · rw [if_pos q, q, h2]
    rw [if_neg q]
    by_cases q : y = x3
    · rw [if_pos q, q, h3]
    rw [if_neg q]
    by_cases q : y = x4
    · rw [if_pos q, q, h4]
    rw [if_neg q]
    by_cases q : y = x5
    · rw [if_pos q, q, h5]
    rw [if_neg q]
    by_cases q : y = x6
    · rw [if_pos q, q, h6]
    rw [if_neg q]
  rw [← e]; exact F

section
variable {prog : Program} {w : World} {A : Around} {s : Shared} {h₀ : Heap} {L a c1 c2 c3 : Addr} {cd : Value} {m mg mb : Str → Option Value} {news : List (Addr × Obj)} {cn : Str} {cs : Scope} {cl : List (Str × Addr)}

theorem nmX_b {M : Model} {E : Value → Shared → Prop} {x : Str} {pos : Pos} {v : Value} {Q : Value → Shared → Prop} (F : Fr h₀ L s.heap m) (G : Gl mg mb h₀) (hf : (["len", "bytearray", "min", "range", "list", "bytes", "sum"] : List Str).contains x = true) (hv : bootBuiltins x = some v) (hn : x ≠ "__name__") (h : Q v s)
    (hk : cs.kind = .function := by rfl) (hx : (envX cn cs L a cd cl).kindOf x = some .globalImplicit := by rfl) (hd : (x == ("__debug__" : Str)) = false := by decide) :
    wpAny M A (eval (.Name x pos) (envX cn cs L a cd cl)) Q E s := Name_function_global hk hx (loadGlobal_builtin (env := envX cn cs L a cd cl) (G.g.keeps F.keep) (G.free x hf) (G.b.keeps F.keep) ((G.bt x hn).trans hv) h) hd

theorem guardX {M : Model} {E : Value → Shared → Prop} {x : Str} {pos : Pos} {Q : Value → Shared → Prop} (_ : (envX cn cs L a cd cl).kindOf x = some .globalImplicit)
    (h : wpAny M A (eval (.Name x pos) (envX cn cs L a cd cl)) Q E s) : wpAny M A (eval (.Name x pos) (envX cn cs L a cd cl)) Q E s := h

local macro_rules | `(tactic| walk_at "eval Name") => `(tactic| (with_unfolding_all refine guardX (by rfl) ?_; k_dflt (refine' nmX_b ?k1 ?k2 ?k3 ?k4 ?k5 ?_; (case k1 => k_asm); (case k2 => k_asm); (case k3 => decide); (case k4 => boot_by_name); (case k5 => decide); k_whole)))

theorem floordiv_13 {E : Value → Shared → Prop} {x k : Int} {t u : Tok} {Q : Value → Shared → Prop} (h : Q (.int (x.fdiv (1 + k.fmod 3)) s.toks) { s with toks := s.toks + 1 }) : wpAny (model prog w) A (binaryOp .FloorDiv (.int x t) (.int (1 + k.fmod 3) u)) Q E s := by
  have f0 : 0 ≤ k.fmod 3 := Int.fmod_nonneg_of_pos _ (by decide)
  have f1 : k.fmod 3 < 3 := Int.fmod_lt_of_pos _ (by decide)
  exact floordiv_int (by omega) h (Or.inl (PyProof.noPylong_small (by omega)))
local macro_rules | `(tactic| walk_at "binaryOp FloorDiv int int") => `(tactic| (with_reducible refine floordiv_13 ?_))

theorem news_tail {h : Heap} {x : Addr × Obj} {l : List (Addr × Obj)} (N : News h₀ L h (x :: l)) : News h₀ L h l := fun p hp => N p (.tail _ hp)

theorem setL_head {E : Value → Shared → Prop} {D : Addr} {wl : List Value} {n : Nat} {k : Int} {t : Tok} {x : Value} {rest : List (Addr × Obj)} {Q : Unit → Shared → Prop} (F : Fr h₀ L s.heap m) (N : News h₀ L s.heap ((D, W.listOf wl.toArray n) :: rest)) (hk : ∀ p ∈ rest, p.1 ≠ D) (h0 : 0 ≤ k) (h1 : k < wl.length) (hz : wl.length ≤ 1000)
    (h : ∀ h', Fr h₀ L h' m → News h₀ L h' ((D, W.listOf (wl.set k.toNat x).toArray n) :: rest) → Q () { s with heap := h' }) : wpAny (model prog w) A (setItem (.ref D) (.int k t) x) Q E s :=
  setL_ F N (.head _) (fun p hp => ⟨.tail _ hp, hk p hp⟩) h0 h1 hz h

local macro_rules | `(tactic| walk_at "setItem ref int") => `(tactic| ((with_reducible rename Fr _ _ _ _ => F'); (with_reducible rename News _ _ _ _ => N'); (first | (refine setL_head (s := ⟨_, _, _, _, _⟩) F' N' (by assumption) (by omega) (by (try simp only [List.length_set]); omega) (by (try simp only [List.length_set]); omega) ?_) | (refine setL_head (s := ⟨_, _, _, _, _⟩) F' (news_tail N') (by assumption) (by omega) (by (try simp only [List.length_set]); omega) (by (try simp only [List.length_set]); omega) ?_)); clear F' N'; intro _ F' N'))

theorem ints_set : ∀ {vs : List Value} {ns : List Int} (_ : IntsAre vs ns) (k : Nat) (v : Int) (t : Tok), IntsAre (vs.set k (.int v t)) (ns.set k v)
  | _, _, .nil, _, _, _ => .nil
  | _, _, .cons _ _ r, 0, v, t => .cons v t r
  | _, _, .cons n t' r, k + 1, v, t => .cons n t' (ints_set r k v t)
theorem mem_set_oct {rs : List Int} {k : Nat} {v : Int} (h : ∀ x ∈ rs, 0 ≤ x ∧ x < 256) (hv : 0 ≤ v ∧ v < 256) : ∀ x ∈ rs.set k v, 0 ≤ x ∧ x < 256 := by
  intro x hx
  rcases List.mem_or_eq_of_mem_set hx with q | q
  · exact h x q
  · rw [q]; exact hv
theorem off1_ne {D : Addr} : ∀ {l : List (Addr × Obj)}, LCg.Off1 D l → ∀ p ∈ l, p.1 ≠ D
  | [], _, _, h => nomatch h
  | _ :: _, ⟨a, _⟩, _, .head _ => a
  | _ :: _, ⟨_, b⟩, p, .tail _ h => off1_ne b p h

theorem storeC3 {M : Model} {E : Value → Shared → Prop} {x : Str} {v : Value} {v₀ : Option Value} {o3 : Obj} {p x1 x2 : Addr × Obj} {rest : List (Addr × Obj)} {Q : Unit → Shared → Prop} (F : Fr h₀ L s.heap m) (N : News h₀ L s.heap (p :: x1 :: x2 :: (c3, o3) :: rest)) (hc : cl.lookup x = some c3) (hd : o3.data = .cell v₀) (n1 : x1.1 ≠ c3) (n2 : x2.1 ≠ c3) (hr : ∀ p ∈ rest, p.1 ≠ c3)
    (h : ∀ h' o', Fr h₀ L h' m → News h₀ L h' (x1 :: x2 :: (c3, o') :: rest) → o'.data = .cell (some v) → Q () { s with heap := h' })
    (hk : cs.kind = .function := by rfl) (hx : (envX cn cs L a cd cl).kindOf x = some .cell := by rfl) : wpAny M A (storeName (envX cn cs L a cd cl) x v) Q E s :=
  storeX_C F (news_tail N) hc (UpdF.tail n1 (UpdF.tail n2 (UpdF.head hr))) hd h hk hx

local macro_rules | `(tactic| walk_at "storeName") => `(tactic| ((with_reducible rename Fr _ _ _ _ => F'); (with_reducible rename News _ _ _ _ => N'); (refine storeC3 (s := ⟨_, _, _, _, _⟩) F' N' rfl (by assumption) (by assumption) (by assumption) (by assumption) ?_ rfl rfl); clear F' N'; intro _ o' F' N' d'))

set_option maxHeartbeats 4000000 in
theorem turn_a {PA QA TA dC : Addr} {o1 o2 o3 : Obj} {v3 : Option Value} {ps qs ts : List Value} {np nq nt : Nat} {cs : List Int} {ws : List Value} {i : Nat} {tk₀ : Tok} {u : Str → Option Value} {keep : List (Addr × Obj)} {Q : Flow → Shared → Prop}
    (G : Gl mg mb h₀) (X : Frag.In [] h₀) (N' : News h₀ L s.heap ((c1, o1) :: (c2, o2) :: (c3, o3) :: (dC, W.listOf ws.toArray 0) :: (PA, W.listOf ps.toArray np) :: (QA, W.listOf qs.toArray nq) :: (TA, W.listOf ts.toArray nt) :: keep))
    (d1 : o1.data = .cell (some (.ref dC))) (d2 : o2.data = .cell (some (.int (0 + (i : Int)) tk₀))) (d3 : o3.data = .cell v3) (hI : IntsAre ws cs) (hcl : cs.length = 20) (hi : i < 4) (n13 : c1 ≠ c3) (n23 : c2 ≠ c3) (hr : ∀ p ∈ (dC, W.listOf ws.toArray 0) :: (PA, W.listOf ps.toArray np) :: (QA, W.listOf qs.toArray nq) :: (TA, W.listOf ts.toArray nt) :: keep, p.1 ≠ c3)
    (F' : Fr h₀ L s.heap (fun y => if y = Str.ofString "parts" then some (.ref PA) else if y = Str.ofString "places" then some (.ref QA) else if y = Str.ofString "told" then some (.ref TA) else u y))
    (hQ : ∀ (h' : Heap) (k' n0 : Nat) (pA : Addr) (wl : List Value) (rs : List Int) (SZ PL : Int) (o4 : Obj) (v4 : Option Value) (tp tz : Tok) (u' : Str → Option Value), Fr h₀ L h' (fun y => if y = Str.ofString "part" then some (.ref pA) else if y = Str.ofString "place" then some (.int PL tp) else if y = Str.ofString "size" then some (.int SZ tz) else if y = Str.ofString "parts" then some (.ref PA) else if y = Str.ofString "places" then some (.ref QA) else if y = Str.ofString "told" then some (.ref TA) else u' y) →
      News h₀ L h' ((pA, W.listOf wl.toArray n0) :: (c1, o1) :: (c2, o2) :: (c3, o4) :: (dC, W.listOf ws.toArray 0) :: (PA, W.listOf ps.toArray np) :: (QA, W.listOf qs.toArray nq) :: (TA, W.listOf ts.toArray nt) :: keep) →
      (∀ p ∈ (c1, o1) :: (c2, o2) :: (c3, o4) :: (dC, W.listOf ws.toArray 0) :: (PA, W.listOf ps.toArray np) :: (QA, W.listOf qs.toArray nq) :: (TA, W.listOf ts.toArray nt) :: keep, p.1 ≠ pA) → o4.data = .cell v4 → IntsAre wl rs → (rs.length : Int) = SZ → (∀ x ∈ rs, 0 ≤ x ∧ x < 256) →
      rs.getD PL.toNat 0 = 0 → rs.getD (PL + 1).toNat 0 = 0 → 2 ≤ SZ → SZ ≤ 9 → 0 ≤ PL → PL + 2 ≤ SZ → wpC (model prog w) (callerA.deeper (lawE L a cd c1 c2 c3)) (execs turnB4 (lawE L a cd c1 c2 c3)) Q { s with heap := h', toks := k' }) :
    wpC (model prog w) (callerA.deeper (lawE L a cd c1 c2 c3)) (execs turnBody (lawE L a cd c1 c2 c3)) Q s := by
  obtain ⟨hp, gs, dr, tk, os⟩ := s
  unfold turnBody lawBody defAt PySem.Challenge.pw_bs0025_01
  dsimp only [List.drop]
  unfold lawE lawScope defAt PySem.Challenge.pw_bs0025_01
  dsimp only [List.drop]
  dsimp only at F' N'
  refine execs_any ?_
  k_steps
  dsimp only
  rename Fr _ _ _ _ => F1
  rename News _ _ _ _ => N1
  rename Obj => o4
  rename o4.data = _ => d4
  have z0 : 0 ≤ (cs.getD (1 + (0 + (i : Int))).toNat 0).fmod 8 := Int.fmod_nonneg_of_pos _ (by decide)
  have z1 : (cs.getD (1 + (0 + (i : Int))).toNat 0).fmod 8 < 8 := Int.fmod_lt_of_pos _ (by decide)
  revert F1
  generalize hSZ : 2 + (cs.getD (1 + (0 + (i : Int))).toNat 0).fmod 8 = SZ
  intro F1
  have z2 : 2 ≤ SZ := by omega
  have z3 : SZ ≤ 9 := by omega
  generalize (cs.getD (1 + (0 + (i : Int))).toNat 0).fdiv 8 = D at d4
  clear hSZ z0 z1
  refine execs_any ?_
  k_steps
  dsimp only
  rename Fr _ _ _ _ => F2
  have p0 : 0 ≤ D.fmod (SZ - 1) := Int.fmod_nonneg_of_pos _ (by omega)
  have p1 : D.fmod (SZ - 1) < SZ - 1 := Int.fmod_lt_of_pos _ (by omega)
  revert F2
  generalize D.fmod (SZ - 1) = PL at p0 p1
  intro F2
  refine execs_any ?_
  k_steps
  rename Fr _ _ _ _ => F3
  rename News _ _ _ _ => N3
  dsimp only at F3
  rename _ ∧ _ => oo
  rename IntsAre _ (List.map _ _) => I3
  have o3r : ∀ x ∈ (List.map (fun k' => ((cs.getD (5 + (5 * (0 + (i : Int)) + k' + D).fmod 15).toNat 0).fdiv (1 + k'.fmod 3)).fmod 256) (rangeKs 0 (SZ - 0).toNat)), 0 ≤ x ∧ x < 256 := by
    intro x hx
    obtain ⟨y, _, rfl⟩ := List.mem_map.mp hx
    exact ⟨Int.fmod_nonneg_of_pos _ (by decide), Int.fmod_lt_of_pos _ (by decide)⟩
  have l3 : (((List.map (fun k' => ((cs.getD (5 + (5 * (0 + (i : Int)) + k' + D).fmod 15).toNat 0).fdiv (1 + k'.fmod 3)).fmod 256) (rangeKs 0 (SZ - 0).toNat)).length : Nat) : Int) = SZ := by
    rw [List.length_map, rangeKs_length]; omega
  revert I3
  generalize List.map (fun k' => ((cs.getD (5 + (5 * (0 + (i : Int)) + k' + D).fmod 15).toNat 0).fdiv (1 + k'.fmod 3)).fmod 256) (rangeKs 0 (SZ - 0).toNat) = rs at o3r l3
  intro I3
  have wl3 := I3.length
  rename_i pA hX tkX
  have hne := off1_ne (l := (c1, o1) :: (c2, o2) :: (c3, o4) :: (dC, W.listOf ws.toArray 0) :: (PA, W.listOf ps.toArray np) :: (QA, W.listOf qs.toArray nq) :: (TA, W.listOf ts.toArray nt) :: keep) oo
  change News h₀ L _ ((_, W.listOf (List.toArray _) (List.length _)) :: _) at N3
  refine execs_any ?_
  k_steps
  dsimp only
  rename Fr _ _ _ _ => F4
  rename News _ _ _ _ => N4
  exact hQ _ _ _ pA _ _ SZ PL o4 _ _ _ _ (fr_chain6 F4 rfl rfl rfl rfl rfl rfl) N4 hne d4 (ints_set (ints_set I3 _ _ _) _ _ _) (by rw [List.length_set, List.length_set]; exact l3) (mem_set_oct (mem_set_oct o3r ⟨by decide, by decide⟩) ⟨by decide, by decide⟩)
    (by rw [getD_set_ne (by omega), getD_set_self (by omega)]) (by rw [getD_set_self (by rw [List.length_set]; omega)]) z2 z3 p0 (by omega)
end
end Fl
end

section
open PySem.Calls
namespace Fl

theorem fr_chain3 {h₀ h : Heap} {L : Addr} {m : Str → Option Value} {x1 x2 x3 : Str} {v1 v2 v3 : Value} (F : Fr h₀ L h m) (h1 : m x1 = some v1) (h2 : m x2 = some v2) (h3 : m x3 = some v3) : Fr h₀ L h (fun y => if y = x1 then some v1 else if y = x2 then some v2 else if y = x3 then some v3 else m y) := by
  have e : m = fun y => if y = x1 then some v1 else if y = x2 then some v2 else if y = x3 then some v3 else m y := by
    funext y
    by_cases q : y = x1
    · rw [if_pos q, q, h1]
    rw [if_neg q]
    by_cases q : y = x2
    · rw [if_pos q, q, h2]
    rw [if_neg q]
    by_cases q : y = x3
    · rw [if_pos q, q, h3]
    rw [if_neg q]
  rw [← e]; exact F

theorem fr_chain7 {h₀ h : Heap} {L : Addr} {m : Str → Option Value} {x1 x2 x3 x4 x5 x6 x7 : Str} {v1 v2 v3 v4 v5 v6 v7 : Value} (F : Fr h₀ L h m) (h1 : m x1 = some v1) (h2 : m x2 = some v2) (h3 : m x3 = some v3) (h4 : m x4 = some v4) (h5 : m x5 = some v5) (h6 : m x6 = some v6) (h7 : m x7 = some v7) : Fr h₀ L h (fun y => if y = x1 then some v1 else if y = x2 then some v2 else if y = x3 then some v3 else if y = x4 then some v4 else if y = x5 then some v5 else if y = x6 then some v6 else if y = x7 then some v7 else m y) := by
  have e : m = fun y => if y = x1 then some v1 else if y = x2 then some v2 else if y = x3 then some v3 else if y = x4 then some v4 else if y = x5 then some v5 else if y = x6 then some v6 else if y = x7 then some v7 else m y := by
    funext y
    by_cases q : y = x1
    · rw [if_pos q, q, h1]
    rw [if_neg q]
    by_cases q : y = x2
    · rw [if_pos q, q, h2]
    rw [if_neg q]
    by_cases q : y = x3
    · rw [if_pos q, q, h3]
    rw [if_neg q]
    by_cases q : y = x4
    · rw [if_pos q, q, h4]
    rw [if_neg q]
    by_cases q : y = x5
    · rw [if_pos q, q, h5]
    rw [if_neg q]
    by_cases q : y = x6
    · rw [if_pos q, q, h6]
    rw [if_neg q]
    by_cases q : y = x7
    · rw [if_pos q, q, h7]
    rw [if_neg q]
  rw [← e]; exact F

def turnB8 : List Stmt := turnBody.drop 8

def FnOk (mg : Str → Option Value) (h₀ : Heap) (nm : Str) (ps : Arguments) (b : List Stmt) (sc : Scope) : Prop :=
  ∃ f o pm code doc, mg nm = some (.ref f) ∧ h₀.get? f = some o ∧ o.data = .func (docDef nm ps b sc pm code doc) ∧ h₀.CodeRec code nm

theorem flSums_sum (z : List Int) : ∀ n, z.length = n → flSums z = (sumN (fun j => z.getD j 0) n, sumN (fun j => ((n : Int) - j) * z.getD j 0) n) := by
  intro n
  induction n generalizing z with
  | zero => intro h; rw [List.length_eq_zero_iff.mp h]; rfl
  | succ n ih =>
    intro hl
    have hne : z ≠ [] := by intro q; rw [q] at hl; simp at hl
    obtain ⟨t, x, rfl⟩ : ∃ t x, z = t ++ [x] := ⟨z.dropLast, z.getLast hne, (List.dropLast_concat_getLast hne).symm⟩
    have hl' : t.length = n := by simpa using hl
    have g : ∀ j, j < n → (t ++ [x]).getD j 0 = t.getD j 0 := fun j hj => by simp [List.getD_eq_getElem?_getD, List.getElem?_append_left (show j < t.length by omega)]
    have gx : (t ++ [x]).getD n 0 = x := by simp [List.getD_eq_getElem?_getD, ← hl']
    rw [flSums_snoc, ih t hl']
    have e0 : sumN (fun j => (t ++ [x]).getD j 0) (n + 1) = sumN (fun j => t.getD j 0) n + x := by
      show sumN (fun j => (t ++ [x]).getD j 0) n + (t ++ [x]).getD n 0 = _
      rw [gx, sumN_congr g]
    have e1 : sumN (fun j => (((n + 1 : Nat) : Int) - j) * (t ++ [x]).getD j 0) (n + 1) = sumN (fun j => ((n : Int) - j) * t.getD j 0) n + (sumN (fun j => t.getD j 0) n + x) := by
      show sumN (fun j => (((n + 1 : Nat) : Int) - j) * (t ++ [x]).getD j 0) n + (((n + 1 : Nat) : Int) - (n : Nat)) * (t ++ [x]).getD n 0 = _
      have e2 : (((n + 1 : Nat) : Int) - (n : Nat)) = 1 := by omega
      have e3 : sumN (fun j => (((n + 1 : Nat) : Int) - j) * (t ++ [x]).getD j 0) n = sumN (fun j => ((n : Int) - j) * t.getD j 0) n + sumN (fun j => t.getD j 0) n := by
        have : ∀ (f g : Nat → Int) k, sumN (fun i => f i + g i) k = sumN f k + sumN g k := by
          intro f g k
          induction k with
          | zero => rfl
          | succ k ik => show sumN (fun i => f i + g i) k + (f k + g k) = (sumN f k + f k) + (sumN g k + g k); rw [ik]; omega
        rw [← this]
        refine sumN_congr fun j hj => ?_
        rw [g j hj]
        have : ((n + 1 : Nat) : Int) - (j : Int) = ((n : Int) - j) + 1 := by omega
        rw [this, Int.add_mul]; omega
      rw [gx, e2, e3]; omega
    ext
    · exact e0.symm
    · exact e1.symm

theorem zap_same {rs : List Int} {o : Nat} (ho : o + 2 ≤ rs.length) (h0 : rs.getD o 0 = 0) (h1 : rs.getD (o + 1) 0 = 0) : zap rs o = rs := by
  apply List.ext_getElem?
  intro i
  have key : ∀ k, k < rs.length → (zap rs o)[k]? = some (rs.getD k 0) := by
    intro k hk
    have hz := zap_length ho
    by_cases q0 : k = o
    · rw [q0, h0]; unfold zap; rw [List.getElem?_append_right (by simp; omega)]; simp [Nat.min_eq_left (show o ≤ rs.length by omega)]
    · by_cases q1 : k = o + 1
      · rw [q1, h1]; unfold zap; rw [List.getElem?_append_right (by simp; omega)]; simp [Nat.min_eq_left (show o ≤ rs.length by omega)]
      · have := zap_getD ho q0 q1
        rw [← this, List.getD_eq_getElem?_getD, List.getElem?_eq_getElem (by omega)]; rfl
  rcases Nat.lt_or_ge i rs.length with h | h
  · rw [key i h, List.getD_eq_getElem?_getD, List.getElem?_eq_getElem h]; rfl
  · rw [List.getElem?_eq_none (by rw [zap_length ho]; exact h), List.getElem?_eq_none h]

def pl0 (rs : List Int) (i : Nat) : Int := sumN (fun j => rs.getD j 0) i
def pl1 (rs : List Int) (i : Nat) : Int := sumN (fun j => ((rs.length : Int) - j) * rs.getD j 0) i
theorem pl_end {rs : List Int} {PL : Int} (p0 : 0 ≤ PL) (p1 : PL + 2 ≤ rs.length) (h0 : rs.getD PL.toNat 0 = 0) (h1 : rs.getD (PL + 1).toNat 0 = 0) : pl0 rs rs.length = S0 rs PL.toNat ∧ pl1 rs rs.length = S1 rs PL.toNat := by
  have e : (PL + 1).toNat = PL.toNat + 1 := by omega
  rw [e] at h1
  unfold S0 S1
  rw [zap_same (by omega) h0 h1, flSums_sum rs _ rfl]
  exact ⟨rfl, rfl⟩
theorem getD_oct {rs : List Int} (h : ∀ x ∈ rs, 0 ≤ x ∧ x < 256) (k : Nat) : 0 ≤ rs.getD k 0 ∧ rs.getD k 0 < 256 := by
  rw [List.getD_eq_getElem?_getD]
  cases q : rs[k]? with
  | none => exact ⟨by decide, by decide⟩
  | some v => exact h v (List.mem_of_getElem? q)
end Fl
end

section
open PySem.Calls
namespace Fl
theorem fr_chain8 {h₀ h : Heap} {L : Addr} {m : Str → Option Value} {x1 x2 x3 x4 x5 x6 x7 x8 : Str} {v1 v2 v3 v4 v5 v6 v7 v8 : Value} (F : Fr h₀ L h m) (h1 : m x1 = some v1) (h2 : m x2 = some v2) (h3 : m x3 = some v3) (h4 : m x4 = some v4) (h5 : m x5 = some v5) (h6 : m x6 = some v6) (h7 : m x7 = some v7) (h8 : m x8 = some v8) : Fr h₀ L h (fun y => if y = x1 then some v1 else if y = x2 then some v2 else if y = x3 then some v3 else if y = x4 then some v4 else if y = x5 then some v5 else if y = x6 then some v6 else if y = x7 then some v7 else if y = x8 then some v8 else m y) := by
  have e : m = fun y => if y = x1 then some v1 else if y = x2 then some v2 else if y = x3 then some v3 else if y = x4 then some v4 else if y = x5 then some v5 else if y = x6 then some v6 else if y = x7 then some v7 else if y = x8 then some v8 else m y := by
    funext y
    by_cases q : y = x1
    · rw [if_pos q, q, h1]
    rw [if_neg q]
    by_cases q : y = x2
    · rw [if_pos q, q, h2]
    rw [if_neg q]
    by_cases q : y = x3
    · rw [if_pos q, q, h3]
    rw [if_neg q]
    by_cases q : y = x4
    · rw [if_pos q, q, h4]
    rw [if_neg q]
    by_cases q : y = x5
    · rw [if_pos q, q, h5]
    rw [if_neg q]
    by_cases q : y = x6
    · rw [if_pos q, q, h6]
    rw [if_neg q]
    by_cases q : y = x7
    · rw [if_pos q, q, h7]
    rw [if_neg q]
    by_cases q : y = x8
    · rw [if_pos q, q, h8]
    rw [if_neg q]
  rw [← e]; exact F

theorem allLt_mem {d : Addr} {l : List (Addr × Obj)} (h : AllLt d l) (p : Addr × Obj) (hp : p ∈ l) : p.1 < d := by
  induction l with
  | nil => cases hp
  | cons x r ih =>
    rcases List.mem_cons.mp hp with rfl | hp
    · exact h.1
    · exact ih h.2 hp

section
variable {prog : Program} {w : World} {A : Around} {s : Shared} {h₀ : Heap} {L a c1 c2 c3 : Addr} {cd : Value} {m mg mb : Str → Option Value} {news : List (Addr × Obj)} {cn : Str} {cs : Scope} {cl : List (Str × Addr)}

theorem news_mid {h : Heap} {x y : Addr × Obj} {l : List (Addr × Obj)} (N : News h₀ L h (x :: y :: l)) : News h₀ L h (x :: l) := fun p hp => by
  rcases List.mem_cons.mp hp with rfl | hp
  · exact N _ (.head _)
  · exact N p (.tail _ (.tail _ hp))

theorem ldX_global {M : Model} {E : Value → Shared → Prop} {x : Str} {pos : Pos} {v : Value} {Q : Value → Shared → Prop} (F : Fr h₀ L s.heap m) (G : Gl mg mb h₀) (e : mg x = some v) (h : Q v s)
    (hk : cs.kind = .function := by rfl) (hx : (envX cn cs L a cd cl).kindOf x = some .globalImplicit := by rfl) (hd : (x == ("__debug__" : Str)) = false := by decide) :
    wpAny M A (eval (.Name x pos) (envX cn cs L a cd cl)) Q E s := Name_function_global hk hx (loadGlobal_global (env := envX cn cs L a cd cl) (G.g.keeps F.keep) e h) hd

/-- the sums of a part are asked -/
theorem sm_at {p1 p2 p3 p4 : Pos} {pA : Addr} {wl : List Value} {rs : List Int} {n0 : Nat} {PL : Int} {tp : Tok} {Q : Value → Shared → Prop}
    (G : Gl mg mb h₀) (K : FlOk mg h₀) (K2 : FnOk mg h₀ "_law_sums" smParams smBody smScope) (F : Fr h₀ L s.heap m) (N : News h₀ L s.heap news) (hd : (pA, W.listOf wl.toArray n0) ∈ news) (hr : m "part" = some (.ref pA)) (hp : m "place" = some (.int PL tp))
    (hI : IntsAre wl rs) (ho : ∀ x ∈ rs, 0 ≤ x ∧ x < 256) (hlen : rs.length ≤ 64) (h0 : 0 ≤ PL) (h1 : PL + 2 ≤ rs.length)
    (hQ : ∀ h' r k z1 z2, Fr h₀ L h' m → News h₀ L h' ((r, tupObj (smV ((S0 rs PL.toNat).fmod 255) ((S1 rs PL.toNat).fmod 255) z1 z2)) :: news) → (∀ p ∈ news, p.1 ≠ r) → Q (.ref r) { s with heap := h', toks := k }) :
    wpC (model prog w) (callerA.deeper (lawE L a cd c1 c2 c3)) (eval (.Call (.Name "_law_sums" p1) [.Name "part" p2, .Name "place" p3] [] p4) (lawE L a cd c1 c2 c3)) Q s := by
  obtain ⟨f, o, pm, code, doc, e1, e2, e3, e4⟩ := K2
  refine Call_ (ldX_global F G e1 ?_)
  refine callWith_ (.inl rfl) (args_cons_ (any (nameX_L F hr (args_cons_ (any (nameX_L F hp (args_nil_ ⟨keeper_func (F.keep _ _ e2) e3, ?_⟩)))))))
  have K' : FlOk mg s.heap := by
    obtain ⟨f, o, pm, code, doc, e1, e2, e3, e4⟩ := K.at'
    exact ⟨f, o, pm, code, doc, e1, F.keep _ _ e2, e3, e4.keeps F.keep⟩
  refine sm_call' (G.base F) K' (F.keep _ _ e2) e3 (e4.keeps F.keep) ⟨_, (N _ hd).1, rfl, _, rfl⟩ hI ho hlen h0 h1 fun h' r k z1 z2 hk e n => ?_
  have nr : ∀ b o, s.heap.get? b = some o → b ≠ r := fun b o eb q => by rw [q, n] at eb; cases eb
  obtain ⟨oL, _, _, eL, _⟩ := F.ns
  refine hQ h' r k z1 z2 (F.after hk) (fun p hp => ?_) (fun p hp => nr _ _ (N p hp).1)
  rcases List.mem_cons.mp hp with rfl | hp
  · refine ⟨e, Ne.symm (nr _ _ eL), ?_⟩
    cases q : h₀.get? r with
    | none => rfl
    | some o => have := F.keep _ _ q; rw [n] at this; cases this
  · exact ⟨hk _ _ (N p hp).1, (N p hp).2⟩

local macro_rules | `(tactic| walk_at "eval Name") => `(tactic| (with_unfolding_all refine guardX (by rfl) ?_; k_dflt (refine' nmX_b ?k1 ?k2 ?k3 ?k4 ?k5 ?_; (case k1 => k_asm); (case k2 => k_asm); (case k3 => decide); (case k4 => boot_by_name); (case k5 => decide); k_whole)))

set_option maxHeartbeats 4000000 in
theorem turn_b {pA PA QA TA : Addr} {wl : List Value} {rs : List Int} {n0 : Nat} {PL SZ : Int} {tp tz : Tok} {u : Str → Option Value} {rest : List (Addr × Obj)} {Q : Flow → Shared → Prop}
    (G : Gl mg mb h₀) (K : FlOk mg h₀) (K2 : FnOk mg h₀ "_law_sums" smParams smBody smScope) (X : Frag.In [] h₀) (N' : News h₀ L s.heap ((pA, W.listOf wl.toArray n0) :: rest))
    (hI : IntsAre wl rs) (ho : ∀ x ∈ rs, 0 ≤ x ∧ x < 256) (hlen : (rs.length : Int) = SZ) (z0 : 2 ≤ SZ) (z1 : SZ ≤ 9) (p0 : 0 ≤ PL) (p1 : PL + 2 ≤ SZ) (g0 : rs.getD PL.toNat 0 = 0) (g1 : rs.getD (PL + 1).toNat 0 = 0)
    (F' : Fr h₀ L s.heap (fun y => if y = Str.ofString "part" then some (.ref pA) else if y = Str.ofString "place" then some (.int PL tp) else if y = Str.ofString "size" then some (.int SZ tz) else if y = Str.ofString "parts" then some (.ref PA) else if y = Str.ofString "places" then some (.ref QA) else if y = Str.ofString "told" then some (.ref TA) else u y))
    (hQ : ∀ (h' : Heap) (k' : Nat) (sA : Addr) (t1 t2 : Tok) (u' : Str → Option Value), Fr h₀ L h' (fun y => if y = Str.ofString "sums" then some (.ref sA) else if y = Str.ofString "part" then some (.ref pA) else if y = Str.ofString "place" then some (.int PL tp) else if y = Str.ofString "size" then some (.int SZ tz) else if y = Str.ofString "parts" then some (.ref PA) else if y = Str.ofString "places" then some (.ref QA) else if y = Str.ofString "told" then some (.ref TA) else u' y) → News h₀ L h' ((sA, tupObj (smV ((S0 rs PL.toNat).fmod 255) ((S1 rs PL.toNat).fmod 255) t1 t2)) :: (pA, W.listOf wl.toArray n0) :: rest) → (∀ p ∈ (pA, W.listOf wl.toArray n0) :: rest, p.1 ≠ sA) →
      wpC (model prog w) (callerA.deeper (lawE L a cd c1 c2 c3)) (execs turnB8 (lawE L a cd c1 c2 c3)) Q { s with heap := h', toks := k' }) :
    wpC (model prog w) (callerA.deeper (lawE L a cd c1 c2 c3)) (execs turnB4 (lawE L a cd c1 c2 c3)) Q s := by
  obtain ⟨hp, gs, dr, tk, os⟩ := s
  unfold turnB4 turnBody lawBody defAt PySem.Challenge.pw_bs0025_01
  dsimp only [List.drop]
  refine execs_cons_ (Assign_ (sm_at (PL := PL) (tp := tp) G K K2 F' N' (.head _) rfl rfl hI ho (by omega) p0 (by omega) fun h1 sA k1 t1 t2 F1 N1 hs => ?_))
  refine storeX_L F1 N1 fun h2 F2 N2 => ?_
  clear F1 N1 F' N'
  dsimp only
  unfold lawE lawScope defAt PySem.Challenge.pw_bs0025_01
  dsimp only [List.drop]
  refine execs_any ?_
  k_steps
  dsimp only
  refine execs_cons_ (For_ ?_)
  k_steps
  dsimp only
  rename_i dP hA0 ltP hA1 FA NA hB tkC tC uC vC hRg hFr hNw hKp
  clear FA NA
  dsimp only at hRg
  clear hKp
  revert hFr
  generalize hmL : (fun y => if y = Str.ofString "plain" then _ else _) = mL
  intro hFr
  have mp0 : mL "plain" = some (.ref dP) := by rw [← hmL]; rfl
  have hwl := hI.length
  refine loop_range (s := ⟨_, _, _, _, _⟩) (n := rs.length) (fun i m' nx => ∃ dP a b, nx = (dP, W.listOf #[Value.int (pl0 rs i) a, Value.int (pl1 rs i) b] 0) :: (sA, tupObj (smV ((S0 rs PL.toNat).fmod 255) ((S1 rs PL.toNat).fmod 255) t1 t2)) :: (pA, W.listOf wl.toArray n0) :: rest ∧ m' "plain" = some (.ref dP) ∧ ∀ y : Str, y ≠ "n" → y ≠ "plain" → m' y = mL y)
    rfl rfl rfl hRg (small_one (by omega) (by omega) (by omega) (by omega)) (by simp only [Builtin.Range.rangeSize]; rw [if_pos (by decide), if_pos (by omega)]; omega) hFr hNw
    ⟨dP, _, _, rfl, mp0, fun _ _ _ => rfl⟩ ?_ ?_
  · rintro i tt m' nx h' tk' ⟨iA, iO⟩ hi ⟨dP, ta, tb, rfl, eP, er⟩ hn F' N'
    have hnt : ∀ p ∈ (sA, tupObj (smV ((S0 rs PL.toNat).fmod 255) ((S1 rs PL.toNat).fmod 255) t1 t2)) :: (pA, W.listOf wl.toArray n0) :: rest, p.1 ≠ iA := fun p hp => hn p (.tail _ hp)
    simp only [List.cons_append] at N'
    have em : (fun y => if y = Str.ofString "n" then some (Value.int (0 + (i : Int)) tt) else m' y) = fun y => if y = Str.ofString "n" then some (Value.int (0 + (i : Int)) tt) else if y = Str.ofString "plain" then some (.ref dP) else mL y := by
      funext y
      by_cases q : y = Str.ofString "n"
      · rw [if_pos q, if_pos q]
      · rw [if_neg q, if_neg q]
        by_cases q0 : y = Str.ofString "plain"
        · rw [if_pos q0, q0]; exact eP
        · rw [if_neg q0]; exact er y q q0
    rw [em] at F'
    subst hmL
    change News h₀ L _ _ at N'
    change Fr h₀ L _ _ at F'
    have e2 : (0 + (i : Int)).toNat = i := by omega
    obtain ⟨b0, b1⟩ := getD_oct ho (0 + (i : Int)).toNat
    refine execs_any ?_
    k_steps
    dsimp only
    rename News _ _ _ _ => N3
    rename Fr _ _ _ _ => F3
    rename _ ∧ _ => lt3
    have v0 : [pl0 rs i, pl1 rs i].getD (Int.toNat 0) 0 + rs.getD (0 + (i : Int)).toNat 0 = pl0 rs (i + 1) := by rw [e2]; rfl
    have v1 : [pl0 rs i, pl1 rs i].getD (Int.toNat 1) 0 + (SZ - (0 + (i : Int))) * rs.getD (0 + (i : Int)).toNat 0 = pl1 rs (i + 1) := by rw [e2, ← hlen, Int.zero_add]; rfl
    rw [v0, v1] at N3
    have N4 := news_mid N3
    refine execs_nil_ ⟨_, _, _, _ :: (sA, tupObj (smV ((S0 rs PL.toNat).fmod 255) ((S1 rs PL.toNat).fmod 255) t1 t2)) :: (pA, W.listOf wl.toArray n0) :: rest, rfl, F3, N4, ?_, _, _, _, rfl, rfl, ?_⟩
    · intro p hp
      rcases List.mem_cons.mp hp with rfl | hp
      · exact Nat.ne_of_gt (allLt_mem lt3.2.2.2 (iA, iO) (List.mem_append_right _ (.head _)))
      · exact hnt p hp
    · intro y q q0
      simp only [if_neg q, if_neg q0]
  · rintro m' nx h' tk' ⟨dP, ta, tb, rfl, eP, er⟩ F' N'
    obtain ⟨q0, q1⟩ := pl_end (rs := rs) p0 (by omega) g0 g1
    rw [q0, q1] at N'
    have F8 := fr_chain8 F' eP ((er "sums" (by decide) (by decide)).trans (by rw [← hmL]; rfl)) ((er "part" (by decide) (by decide)).trans (by rw [← hmL]; rfl)) ((er "place" (by decide) (by decide)).trans (by rw [← hmL]; rfl)) ((er "size" (by decide) (by decide)).trans (by rw [← hmL]; rfl))
      ((er "parts" (by decide) (by decide)).trans (by rw [← hmL]; rfl)) ((er "places" (by decide) (by decide)).trans (by rw [← hmL]; rfl)) ((er "told" (by decide) (by decide)).trans (by rw [← hmL]; rfl))
    clear F' hFr hNw hRg
    change News h₀ L _ _ at N'
    change Fr h₀ L _ _ at F8
    unfold tupObj smV at N'
    generalize S0 rs PL.toNat = T0 at *
    generalize S1 rs PL.toNat = T1 at *
    refine execs_any ?_
    k_steps
    · rename Fr _ _ _ _ => F9
      rename News _ _ _ _ => N9
      exact hQ _ _ sA t1 t2 _ (fr_chain7 F9 rfl rfl rfl rfl rfl rfl rfl) (fun p hp => N9 p (.tail _ (.tail _ hp))) hs
    · exfalso
      rename (_ && _) = false => hb
      have e0 : [T0, T1].getD (Int.toNat 0) 0 = T0 := rfl
      have e1 : [T0, T1].getD (Int.toNat 1) 0 = T1 := rfl
      rw [e0, e1, beq_self_eq_true, beq_self_eq_true] at hb
      cases hb
end
end Fl
end

section
open PySem.Calls
namespace Fl
section
variable {prog : Program} {w : World} {A : Around} {s : Shared} {h₀ : Heap} {L a c1 c2 c3 : Addr} {cd : Value} {m mg mb : Str → Option Value} {news : List (Addr × Obj)} {cn : Str} {cs : Scope} {cl : List (Str × Addr)}

theorem news_rot {h : Heap} {x y z : Addr × Obj} {l : List (Addr × Obj)} (N : News h₀ L h (x :: y :: z :: l)) : News h₀ L h (y :: z :: x :: l) := fun p hp => N p (by
  rcases List.mem_cons.mp hp with rfl | hp
  · exact .tail _ (.head _)
  rcases List.mem_cons.mp hp with rfl | hp
  · exact .tail _ (.tail _ (.head _))
  rcases List.mem_cons.mp hp with rfl | hp
  · exact .head _
  · exact .tail _ (.tail _ (.tail _ hp)))

/-- a comprehension that asks an int of each item -/
theorem kcf_refs {env : Env} {elt : PySem.Expr} {x : Str} {scope : Scope} {S : List (Addr × Obj) → Prop} {Fin : List Value → List (Addr × Obj) → Prop} {vs : List Value} {ns : List Int} (hl : vs.length = ns.length)
    (turn : ∀ v k I oI C oC D m₂ ys h tk (E' : Value → Shared → Prop), v ∈ vs → (∃ i : Nat, vs[i]? = some v ∧ ns[i]? = some k) → LCg.NsObj oC m₂ → m₂ x = some v → Fr h₀ L h m → News h₀ L h ((I, oI) :: (C, oC) :: (D, LCg.lst ys) :: news) → LCg.Off3 I C D news → ((@Ne Nat I C) ∧ (@Ne Nat I D) ∧ (@Ne Nat C D)) →
      wpAny (model prog w) A (eval elt (compEnvC scope cl C env)) (LCg.CompEnd h₀ L m { s with heap := h, toks := tk } I oI C oC D (LCg.lst ys) S (fun y news' => KCfEl news k y news')) E' { s with heap := h, toks := tk })
    (fin : ∀ ys, IntsAre ys ns → Fin ys news) : LCg.CompRest prog w A h₀ L m env elt x scope cl s S (fun i v => vs.toArray[i]? = some v) Fin vs.toArray.size 0 [] news := by
  have key : ∀ (j i : Nat) (ys : List Value), i + j = vs.length → IntsAre ys (ns.take i) → LCg.CompRest prog w A h₀ L m env elt x scope cl s S (fun i v => vs.toArray[i]? = some v) Fin j i ys news := by
    intro j
    induction j with
    | zero =>
      intro i ys hi hy
      have e : i = ns.length := by omega
      subst e
      rw [List.take_length] at hy
      exact LCg.CompRest.zero (fin ys hy)
    | succ j ih =>
      intro i ys hi hy
      refine LCg.CompRest.succ ?_
      intro v I oI C oC D m₂ h tk E' hv hC hx F N off ne
      have hv' : vs[i]? = some v := by simpa using hv
      have hk : ns[i]? = some ns[i] := List.getElem?_eq_getElem (by omega)
      refine wpAny_mono (turn v ns[i] I oI C oC D m₂ ys h tk E' (List.mem_of_getElem? hv') ⟨i, hv', hk⟩ hC hx F N off ne) (fun y s₂ hq => ?_) fun _ _ e => e
      obtain ⟨h', tk', nw, e, F', N', off', hS, hn, t', hy'⟩ := hq
      rw [hn] at N' off' hS
      refine ⟨h', tk', news, e, F', N', off', hS, ?_⟩
      rw [hy']
      refine ih (i + 1) _ (by omega) ?_
      rw [List.take_add_one, hk]
      exact IntsAre.append hy (.cons ns[i] t' .nil)
  have := key vs.length 0 [] (by omega) (by rw [List.take_zero]; exact .nil)
  rw [List.size_toArray]
  exact this

theorem nmE_b {M : Model} {E : Value → Shared → Prop} {env : Env} {x : Str} {pos : Pos} {v : Value} {Q : Value → Shared → Prop} (F : Fr h₀ L s.heap m) (G : Gl mg mb h₀) (hf : (["len", "bytearray", "min", "range", "list", "bytes", "sum"] : List Str).contains x = true) (hv : bootBuiltins x = some v) (hn : x ≠ "__name__") (h : Q v s)
    (hg : env.globals = mainGlobals := by rfl) (hb : env.builtins = builtinsNs := by rfl) (hk : env.scope.kind = .function := by rfl) (hx : env.kindOf x = some .globalImplicit := by rfl) (hd : (x == ("__debug__" : Str)) = false := by decide) :
    wpAny M A (eval (.Name x pos) env) Q E s := Name_function_global hk hx (loadGlobal_builtin (env := env) (hg ▸ G.g.keeps F.keep) (G.free x hf) (hb ▸ G.b.keeps F.keep) ((G.bt x hn).trans hv) h) hd

local macro_rules | `(tactic| walk_at "eval ListComp") => `(tactic| (k_here; k_dflt (refine LCg.ListComp_U (F₀ := by k_asm) (by with_unfolding_all rfl) (by decide) (by rfl) (by decide) (by rfl) ?_)))

local macro_rules | `(tactic| walk_at "eval Name") => `(tactic| (with_unfolding_all refine guardX (by rfl) ?_; k_dflt (refine' nmX_b ?k1 ?k2 ?k3 ?k4 ?k5 ?_; (case k1 => k_asm); (case k2 => k_asm); (case k3 => decide); (case k4 => boot_by_name); (case k5 => decide); k_whole)))

theorem guardE {M : Model} {E : Value → Shared → Prop} {env : Env} {x : Str} {pos : Pos} {Q : Value → Shared → Prop} (_ : env.kindOf x = some .globalImplicit) (h : wpAny M A (eval (.Name x pos) env) Q E s) : wpAny M A (eval (.Name x pos) env) Q E s := h
local macro_rules | `(tactic| walk_at "eval Name") => `(tactic| ((with_reducible show wpAny _ _ (eval (PySem.Expr.Name _ _) (compEnvC _ _ _ _)) _ _ _); with_unfolding_all refine guardE (by rfl) ?_; k_dflt (refine' nmE_b ?k1 ?k2 ?k3 ?k4 ?k5 ?_; (case k1 => k_asm); (case k2 => k_asm); (case k3 => decide); (case k4 => boot_by_name); (case k5 => decide); k_whole)))
local macro_rules | `(tactic| walk_at "call builtin:len") => `(tactic| (refine Calls.call_len_list (by assumption) (by simp only [List.size_toArray]; omega) ?_))

set_option maxHeartbeats 4000000 in
theorem turn_c {pA PA QA TA sA : Addr} {wl ps qs ts : List Value} {rs qn : List Int} {n0 np nq nt : Nat} {PL SZ C0 C1 : Int} {t1 t2 tp tz : Tok} {u : Str → Option Value} {rest : List (Addr × Obj)} {Q : Flow → Shared → Prop}
    {ls : List Int} (hl : ps.length = ls.length) (hl4 : ls.length ≤ 4) (hls : ∀ v k, (∃ i : Nat, ps[i]? = some v ∧ ls[i]? = some k) → ∃ p wl' n', v = .ref p ∧ (p, W.listOf (List.toArray wl') n') ∈ rest ∧ (wl'.length : Int) = k ∧ 0 ≤ k ∧ k ≤ 9)
    (hps : ps.length ≤ 4) (hqs : qs.length ≤ 4) (hts : ts.length ≤ 4) (hnd : (PA :: QA :: TA :: sA :: pA :: rest.map (·.1)).Nodup)
    (G : Gl mg mb h₀) (X : Frag.In [] h₀) (N' : News h₀ L s.heap ((PA, W.listOf ps.toArray np) :: (QA, W.listOf qs.toArray nq) :: (TA, W.listOf ts.toArray nt) :: (sA, tupObj (smV C0 C1 t1 t2)) :: (pA, W.listOf wl.toArray n0) :: rest))
    (F' : Fr h₀ L s.heap (fun y => if y = Str.ofString "sums" then some (.ref sA) else if y = Str.ofString "part" then some (.ref pA) else if y = Str.ofString "place" then some (.int PL tp) else if y = Str.ofString "size" then some (.int SZ tz) else if y = Str.ofString "parts" then some (.ref PA) else if y = Str.ofString "places" then some (.ref QA) else if y = Str.ofString "told" then some (.ref TA) else u y))
    (hQ : ∀ (h' : Heap) (k' : Nat) (tA : Addr) (tq : Tok), Fr h₀ L h' (fun y => if y = Str.ofString "sums" then some (.ref sA) else if y = Str.ofString "part" then some (.ref pA) else if y = Str.ofString "place" then some (.int PL tp) else if y = Str.ofString "size" then some (.int SZ tz) else if y = Str.ofString "parts" then some (.ref PA) else if y = Str.ofString "places" then some (.ref QA) else if y = Str.ofString "told" then some (.ref TA) else u y) → (PA < tA ∧ QA < tA ∧ TA < tA ∧ sA < tA ∧ pA < tA ∧ AllLt tA rest) → News h₀ L h' ((PA, W.listOf (ps ++ [Value.ref pA]).toArray (np + 1)) :: (QA, W.listOf (qs ++ [Value.int (ls.sum + PL) tq]).toArray (nq + 1)) :: (TA, W.listOf (ts ++ [Value.ref tA]).toArray (nt + 1)) :: (tA, tupObj [Value.int SZ tz, Value.int C0 t1, Value.int C1 t2]) :: (pA, W.listOf wl.toArray n0) :: rest) → Q .next { s with heap := h', toks := k' }) :
    wpC (model prog w) (callerA.deeper (lawE L a cd c1 c2 c3)) (execs turnB8 (lawE L a cd c1 c2 c3)) Q s := by
  obtain ⟨hp, gs, dr, tk, os⟩ := s
  unfold turnB8 turnBody lawBody defAt PySem.Challenge.pw_bs0025_01
  dsimp only [List.drop]
  unfold lawE lawScope defAt PySem.Challenge.pw_bs0025_01
  dsimp only [List.drop]
  dsimp only at F' N'
  refine execs_any ?_
  k_steps
  rename Fr _ _ _ _ => F1
  rename News _ _ _ _ => N1
  refine LCg.CompSrc.ledger rfl F1 N1 (.head _) (by rw [List.size_toArray, sizeLine_eq]; omega) fun g => kcf_refs hl (fun v k I oI C oC D m₂ ys h tk E' hv hvk hC hx F N off ne => ?_) fun ys hys => ?_
  · obtain ⟨pB, wlB, nB, rfl, hmem, hk, k0, k9⟩ := hls v k hvk
    have hB := (N (pB, W.listOf wlB.toArray nB) (.tail _ (.tail _ (.tail _ (.tail _ (.tail _ (.tail _ (.tail _ (.tail _ hmem))))))))).1
    have hlB : h.IsList pB wlB.toArray := ⟨_, hB, rfl, _, rfl⟩
    k_steps
    exact kcf_el (by rw [List.size_toArray]; omega) rfl rfl
  · unfold LCg.FinE
    intro D h2 tk2 F2 N2 of2
    simp only [List.nodup_cons, List.mem_cons, not_or] at hnd
    obtain ⟨⟨a1, a2, a3, a4, a5⟩, ⟨b1, b2, b3, b4⟩, ⟨d1, d2, d3⟩, ⟨f1, f2⟩, f3, f4⟩ := hnd
    have mr : ∀ (A : Addr), A ∉ rest.map (·.1) → ∀ p ∈ rest, p.1 ≠ A := fun A hA p hp q => hA (q ▸ List.mem_map_of_mem hp)
    k_steps
    rename Fr _ _ _ _ => F3
    rename News _ _ _ _ => N3
    refine app_ (D := QA) (its := qs.toArray) (n := nq) (keep := (PA, W.listOf ps.toArray np) :: (TA, W.listOf ts.toArray nt) :: (sA, tupObj (smV C0 C1 t1 t2)) :: (pA, W.listOf wl.toArray n0) :: rest) F3 N3 (.tail _ (.tail _ (.head _))) ?_ (by rw [List.size_toArray]; omega) fun h4 F4 N4 => ?_
    · intro p hp
      rcases List.mem_cons.mp hp with rfl | hp
      · exact ⟨.tail _ (.head _), a1⟩
      rcases List.mem_cons.mp hp with rfl | hp
      · exact ⟨.tail _ (.tail _ (.tail _ (.head _))), Ne.symm b1⟩
      rcases List.mem_cons.mp hp with rfl | hp
      · exact ⟨.tail _ (.tail _ (.tail _ (.tail _ (.head _)))), Ne.symm b2⟩
      rcases List.mem_cons.mp hp with rfl | hp
      · exact ⟨.tail _ (.tail _ (.tail _ (.tail _ (.tail _ (.head _))))), Ne.symm b3⟩
      · exact ⟨.tail _ (.tail _ (.tail _ (.tail _ (.tail _ (.tail _ hp))))), mr _ b4 p hp⟩
    clear F3 N3 F2 N2 F1 N1
    revert N4
    generalize hvq : Value.int (ls.sum + PL) _ = vq
    intro N4
    k_steps
    refine execs_any ?_
    k_steps
    rename Fr _ _ _ _ => F5
    rename News _ _ _ _ => N5
    refine app_ (D := PA) (its := ps.toArray) (n := np) (keep := (QA, W.listOf (qs.toArray.push vq) (nq + 1)) :: (TA, W.listOf ts.toArray nt) :: (sA, tupObj (smV C0 C1 t1 t2)) :: (pA, W.listOf wl.toArray n0) :: rest) F5 N5 (.tail _ (.head _)) ?_ (by rw [List.size_toArray]; omega) fun h6 F6 N6 => ?_
    · intro p hp
      rcases List.mem_cons.mp hp with rfl | hp
      · exact ⟨.head _, Ne.symm a1⟩
      rcases List.mem_cons.mp hp with rfl | hp
      · exact ⟨.tail _ (.tail _ (.head _)), Ne.symm a2⟩
      rcases List.mem_cons.mp hp with rfl | hp
      · exact ⟨.tail _ (.tail _ (.tail _ (.head _))), Ne.symm a3⟩
      rcases List.mem_cons.mp hp with rfl | hp
      · exact ⟨.tail _ (.tail _ (.tail _ (.tail _ (.head _)))), Ne.symm a4⟩
      · exact ⟨.tail _ (.tail _ (.tail _ (.tail _ (.tail _ hp)))), mr _ a5 p hp⟩
    clear F5 N5
    k_steps
    refine execs_any ?_
    unfold tupObj smV at N6
    k_steps
    rename Fr _ _ _ _ => F7
    rename News _ _ _ _ => N7
    rename _ ∧ _ => lt7
    rename_i D1 hX7 lt6 tA hY7
    refine app_ (D := TA) (its := ts.toArray) (n := nt) (keep := (PA, W.listOf (ps.toArray.push (Value.ref pA)) (np + 1)) :: (QA, W.listOf (qs.toArray.push vq) (nq + 1)) :: (tA, tupObj [Value.int SZ tz, Value.int C0 t1, Value.int C1 t2]) :: (pA, W.listOf wl.toArray n0) :: rest) F7 N7 (.tail _ (.tail _ (.tail _ (.tail _ (.head _))))) ?_ (by rw [List.size_toArray]; omega) fun h8 F8 N8 => ?_
    · intro p hp
      rcases List.mem_cons.mp hp with rfl | hp
      · exact ⟨.tail _ (.tail _ (.head _)), a2⟩
      rcases List.mem_cons.mp hp with rfl | hp
      · exact ⟨.tail _ (.tail _ (.tail _ (.head _))), b1⟩
      rcases List.mem_cons.mp hp with rfl | hp
      · exact ⟨.head _, Nat.ne_of_gt lt7.2.2.2.1⟩
      rcases List.mem_cons.mp hp with rfl | hp
      · exact ⟨.tail _ (.tail _ (.tail _ (.tail _ (.tail _ (.tail _ (.head _)))))), Ne.symm d2⟩
      · exact ⟨.tail _ (.tail _ (.tail _ (.tail _ (.tail _ (.tail _ (.tail _ hp)))))), mr _ d3 p hp⟩
    subst hvq
    have q1 : ps.toArray.push (Value.ref pA) = (ps ++ [Value.ref pA]).toArray := by simp
    have q2 : ∀ x, qs.toArray.push x = (qs ++ [x]).toArray := fun x => by simp
    have q3 : ∀ x, ts.toArray.push x = (ts ++ [x]).toArray := fun x => by simp
    rw [q1, q2, q3] at N8
    k_steps
    exact execs_nil_ (hQ _ _ tA _ F8 lt7.2 (news_rot N8))
end
end Fl
end

section
open PySem.Calls
namespace Fl

/-- a part, as the first loop leaves it -/
structure Rec where
  pA : Addr
  wl : List Value
  n0 : Nat
  rs : List Int
  tA : Addr
  tz : Tok
  t1 : Tok
  t2 : Tok
  pl : Int

def Rec.len (r : Rec) : Int := r.rs.length
def Rec.c0 (r : Rec) : Int := (S0 r.rs r.pl.toNat).fmod 255
def Rec.c1 (r : Rec) : Int := (S1 r.rs r.pl.toNat).fmod 255
def Rec.o1 (r : Rec) : Addr × Obj := (r.pA, W.listOf r.wl.toArray r.n0)
def Rec.o2 (r : Rec) : Addr × Obj := (r.tA, tupObj [Value.int r.len r.tz, Value.int r.c0 r.t1, Value.int r.c1 r.t2])
structure Rec.Ok (r : Rec) : Prop where
  are : IntsAre r.wl r.rs
  oct : ∀ x ∈ r.rs, 0 ≤ x ∧ x < 256
  l2 : 2 ≤ r.len
  l9 : r.len ≤ 9
  p0 : 0 ≤ r.pl
  p1 : r.pl + 2 ≤ r.len
  z0 : r.rs.getD r.pl.toNat 0 = 0
  z1 : r.rs.getD (r.pl + 1).toNat 0 = 0

/-- the records, the newest first -/
def led (rl : List Rec) : List (Addr × Obj) := rl.flatMap fun r => [r.o2, r.o1]
def pss (rl : List Rec) : List Value := (rl.map fun r => Value.ref r.pA).reverse
def tss (rl : List Rec) : List Value := (rl.map fun r => Value.ref r.tA).reverse
def lens (rl : List Rec) : List Int := (rl.map Rec.len).reverse
def pls : List Rec → List Int
  | [] => []
  | r :: rl => pls rl ++ [(lens rl).sum + r.pl]

theorem led_cons {r : Rec} {rl : List Rec} : led (r :: rl) = r.o2 :: r.o1 :: led rl := rfl
theorem pss_cons {r : Rec} {rl : List Rec} : pss (r :: rl) = pss rl ++ [Value.ref r.pA] := by simp [pss]
theorem tss_cons {r : Rec} {rl : List Rec} : tss (r :: rl) = tss rl ++ [Value.ref r.tA] := by simp [tss]
theorem lens_look {rl : List Rec} {v : Value} {k : Int} (h : ∃ i : Nat, (pss rl)[i]? = some v ∧ (lens rl)[i]? = some k) : ∃ r ∈ rl, v = .ref r.pA ∧ k = r.len := by
  obtain ⟨i, h1, h2⟩ := h
  unfold pss at h1
  unfold lens at h2
  rw [← List.map_reverse, List.getElem?_map] at h1 h2
  cases q : rl.reverse[i]? with
  | none => rw [q] at h1; cases h1
  | some r =>
    rw [q] at h1 h2
    exact ⟨r, List.mem_reverse.mp (List.mem_of_getElem? q), (Option.some.inj h1).symm, (Option.some.inj h2).symm⟩
theorem led_mem {rl : List Rec} {r : Rec} (h : r ∈ rl) : r.o1 ∈ led rl ∧ r.o2 ∈ led rl := by
  unfold led
  exact ⟨List.mem_flatMap.mpr ⟨r, h, .tail _ (.head _)⟩, List.mem_flatMap.mpr ⟨r, h, .head _⟩⟩

theorem news_sub {h₀ h : Heap} {L : Addr} {l l' : List (Addr × Obj)} (N : News h₀ L h l) (hs : ∀ p ∈ l', p ∈ l) : News h₀ L h l' := fun p hp => N p (hs p hp)
end Fl
end

section
open PySem.Calls
namespace Fl

theorem nodup_turn {sA pA c1 c2 c3 dC PA QA TA : Addr} {K : List Addr} (hn2 : (sA :: pA :: c1 :: c2 :: c3 :: dC :: PA :: QA :: TA :: K).Nodup) : (PA :: QA :: TA :: sA :: pA :: c1 :: c2 :: c3 :: dC :: K).Nodup := by
  simp only [List.nodup_cons, List.mem_cons, not_or, and_assoc] at hn2 ⊢
  obtain ⟨_, _, _, _, _, _, _, _, _, _, _, _, _, _, _, _, _, _, _, _, _, _, _, _, _, _, _, _, _, _, _, _, _, _, _, _, _, _, _, _, _, _, _, _, _, _⟩ := hn2
  repeat' apply And.intro
  all_goals first
    | assumption
    | (intro q; exact absurd q.symm (by assumption))

theorem nodup_turn2 {t p c1 c2 c3 dC PA QA TA : Addr} {K : List Addr} (hn2 : (t :: p :: c1 :: c2 :: c3 :: dC :: PA :: QA :: TA :: K).Nodup) : (c1 :: c2 :: c3 :: dC :: PA :: QA :: TA :: t :: p :: K).Nodup := by
  simp only [List.nodup_cons, List.mem_cons, not_or, and_assoc] at hn2 ⊢
  obtain ⟨_, _, _, _, _, _, _, _, _, _, _, _, _, _, _, _, _, _, _, _, _, _, _, _, _, _, _, _, _, _, _, _, _, _, _, _, _, _, _, _, _, _, _, _, _, _⟩ := hn2
  repeat' apply And.intro
  all_goals first
    | assumption
    | (intro q; exact absurd q.symm (by assumption))

section
variable {prog : Program} {w : World} {s : Shared} {h₀ : Heap} {L a c1 c2 c3 : Addr} {cd : Value} {m mg mb : Str → Option Value}

theorem turn_all {PA QA TA dC : Addr} {it : Addr × Obj} {o1 o2 o3 : Obj} {v3 : Option Value} {qs : List Value} {np nq nt : Nat} {cs : List Int} {ws : List Value} {tk₀ : Tok} {u : Str → Option Value} {rl : List Rec} {Q : Flow → Shared → Prop}
    (G : Gl mg mb h₀) (K : FlOk mg h₀) (K2 : FnOk mg h₀ "_law_sums" smParams smBody smScope) (X : Frag.In [] h₀)
    (N' : News h₀ L s.heap ((c1, o1) :: (c2, o2) :: (c3, o3) :: (dC, W.listOf ws.toArray 0) :: (PA, W.listOf (pss rl).toArray np) :: (QA, W.listOf qs.toArray nq) :: (TA, W.listOf (tss rl).toArray nt) :: (led rl ++ [it])))
    (d1 : o1.data = .cell (some (.ref dC))) (d2 : o2.data = .cell (some (.int (0 + (rl.length : Int)) tk₀))) (d3 : o3.data = .cell v3) (hI : IntsAre ws cs) (hcl : cs.length = 20) (hi : rl.length < 4)
    (hnd : (c1 :: c2 :: c3 :: dC :: PA :: QA :: TA :: (led rl ++ [it]).map (·.1)).Nodup) (hq : IntsAre qs (pls rl)) (hql : qs.length = rl.length) (hok : ∀ r ∈ rl, r.Ok)
    (F' : Fr h₀ L s.heap (fun y => if y = Str.ofString "parts" then some (.ref PA) else if y = Str.ofString "places" then some (.ref QA) else if y = Str.ofString "told" then some (.ref TA) else u y))
    (hQ : ∀ (h' : Heap) (k' : Nat) (r : Rec) (o4 : Obj) (v4 : Option Value) (tq : Tok) (u' : Str → Option Value), Fr h₀ L h' (fun y => if y = Str.ofString "parts" then some (.ref PA) else if y = Str.ofString "places" then some (.ref QA) else if y = Str.ofString "told" then some (.ref TA) else u' y) →
      News h₀ L h' ((c1, o1) :: (c2, o2) :: (c3, o4) :: (dC, W.listOf ws.toArray 0) :: (PA, W.listOf (pss (r :: rl)).toArray (np + 1)) :: (QA, W.listOf (qs ++ [Value.int ((lens rl).sum + r.pl) tq]).toArray (nq + 1)) :: (TA, W.listOf (tss (r :: rl)).toArray (nt + 1)) :: (led (r :: rl) ++ [it])) →
      (c1 :: c2 :: c3 :: dC :: PA :: QA :: TA :: (led (r :: rl) ++ [it]).map (·.1)).Nodup → o4.data = .cell v4 → r.Ok → Q .next { s with heap := h', toks := k' }) :
    wpC (model prog w) (callerA.deeper (lawE L a cd c1 c2 c3)) (execs turnBody (lawE L a cd c1 c2 c3)) Q s := by
  have hn := hnd
  simp only [List.nodup_cons, List.mem_cons, not_or] at hn
  obtain ⟨⟨_, c13, _⟩, ⟨c23, _⟩, ⟨e1, e2, e3, e4, e5⟩, _⟩ := hn
  have hlen : (lens rl).length = rl.length := by simp [lens]
  have hps : (pss rl).length = rl.length := by simp [pss]
  have hts : (tss rl).length = rl.length := by simp [tss]
  refine @turn_a prog w s h₀ L a c1 c2 c3 cd mg mb PA QA TA dC o1 o2 o3 v3 (pss rl) qs (tss rl) np nq nt cs ws rl.length tk₀ u (led rl ++ [it]) Q G X N' d1 d2 d3 hI hcl hi c13 c23 ?_ F' ?_
  · intro p hp
    rcases List.mem_cons.mp hp with rfl | hp
    · exact fun q => e1 q.symm
    rcases List.mem_cons.mp hp with rfl | hp
    · exact fun q => e2 q.symm
    rcases List.mem_cons.mp hp with rfl | hp
    · exact fun q => e3 q.symm
    rcases List.mem_cons.mp hp with rfl | hp
    · exact fun q => e4 q.symm
    · exact fun q => e5 (q ▸ List.mem_map_of_mem hp)
  intro h1 k1 n0 pA wl rs SZ PL o4 v4 tp tz u1 F1 N1 hne d4 hI1 hl1 ho1 g0 g1 z2 z3 p0 p1
  refine @turn_b prog w { s with heap := h1, toks := k1 } h₀ L a c1 c2 c3 cd mg mb pA PA QA TA wl rs n0 PL SZ tp tz u1 _ Q G K K2 X N1 hI1 ho1 hl1 z2 z3 p0 p1 g0 g1 F1 ?_
  intro h2 k2 sA t1 t2 u2 F2 N2 hs
  have hn1 : (pA :: c1 :: c2 :: c3 :: dC :: PA :: QA :: TA :: (led rl ++ [it]).map (·.1)).Nodup := List.nodup_cons.mpr ⟨fun q => by
    obtain ⟨p, hp, e⟩ : ∃ p ∈ (c1, o1) :: (c2, o2) :: (c3, o4) :: (dC, W.listOf ws.toArray 0) :: (PA, W.listOf (pss rl).toArray np) :: (QA, W.listOf qs.toArray nq) :: (TA, W.listOf (tss rl).toArray nt) :: (led rl ++ [it]), p.1 = pA := List.mem_map.mp q
    exact hne p hp e, hnd⟩
  have hn2 : (sA :: pA :: c1 :: c2 :: c3 :: dC :: PA :: QA :: TA :: (led rl ++ [it]).map (·.1)).Nodup := List.nodup_cons.mpr ⟨fun q => by
    obtain ⟨p, hp, e⟩ : ∃ p ∈ (pA, W.listOf wl.toArray n0) :: (c1, o1) :: (c2, o2) :: (c3, o4) :: (dC, W.listOf ws.toArray 0) :: (PA, W.listOf (pss rl).toArray np) :: (QA, W.listOf qs.toArray nq) :: (TA, W.listOf (tss rl).toArray nt) :: (led rl ++ [it]), p.1 = sA := List.mem_map.mp q
    exact hs p hp e, hn1⟩
  have N3 := news_sub (l' := (PA, W.listOf (pss rl).toArray np) :: (QA, W.listOf qs.toArray nq) :: (TA, W.listOf (tss rl).toArray nt) :: (sA, tupObj (smV ((S0 rs PL.toNat).fmod 255) ((S1 rs PL.toNat).fmod 255) t1 t2)) :: (pA, W.listOf wl.toArray n0) :: (c1, o1) :: (c2, o2) :: (c3, o4) :: (dC, W.listOf ws.toArray 0) :: (led rl ++ [it])) N2 (fun p hp => by
    simp only [List.mem_cons] at hp ⊢
    rcases hp with h | h | h | h | h | h | h | h | h | h <;> simp [h])
  refine @turn_c prog w { s with heap := h2, toks := k2 } h₀ L a c1 c2 c3 cd mg mb pA PA QA TA sA wl (pss rl) qs (tss rl) rs [] n0 np nq nt PL SZ ((S0 rs PL.toNat).fmod 255) ((S1 rs PL.toNat).fmod 255) t1 t2 tp tz u2 ((c1, o1) :: (c2, o2) :: (c3, o4) :: (dC, W.listOf ws.toArray 0) :: (led rl ++ [it])) Q (lens rl) (by omega) (by omega) ?_ (by omega) (by omega) (by omega) (nodup_turn hn2) G X N3 F2 ?_
  · intro v k hvk
    obtain ⟨r, hr, e1, e2⟩ := lens_look hvk
    have ok := hok r hr
    have := ok.are.length
    refine ⟨r.pA, r.wl, r.n0, e1, .tail _ (.tail _ (.tail _ (.tail _ (List.mem_append_left _ (led_mem hr).1)))), ?_, ?_, ?_⟩
    · rw [e2]; unfold Rec.len; omega
    · rw [e2]; have := ok.l2; omega
    · rw [e2]; exact ok.l9
  · intro h3 k3 tA tq F3 lt3 N4
    have hlr : Rec.len ⟨pA, wl, n0, rs, tA, tz, t1, t2, PL⟩ = SZ := hl1
    refine hQ h3 k3 ⟨pA, wl, n0, rs, tA, tz, t1, t2, PL⟩ o4 v4 tq (fun y => if y = Str.ofString "sums" then some (.ref sA) else if y = Str.ofString "part" then some (.ref pA) else if y = Str.ofString "place" then some (.int PL tp) else if y = Str.ofString "size" then some (.int SZ tz) else if y = Str.ofString "parts" then some (.ref PA) else if y = Str.ofString "places" then some (.ref QA) else if y = Str.ofString "told" then some (.ref TA) else u2 y) (fr_chain3 F3 rfl rfl rfl) ?_ ?_ d4 ⟨hI1, ho1, by rw [hlr]; exact z2, by rw [hlr]; exact z3, p0, by rw [hlr]; exact p1, g0, g1⟩
    · rw [led_cons, pss_cons, tss_cons]
      refine news_sub N4 fun p hp => ?_
      simp only [List.cons_append, List.mem_cons] at hp ⊢
      unfold Rec.o1 Rec.o2 at hp
      rw [hlr] at hp
      rcases hp with h | h | h | h | h | h | h | h | h | h
      · exact .inr (.inr (.inr (.inr (.inr (.inl h)))))
      · exact .inr (.inr (.inr (.inr (.inr (.inr (.inl h))))))
      · exact .inr (.inr (.inr (.inr (.inr (.inr (.inr (.inl h)))))))
      · exact .inr (.inr (.inr (.inr (.inr (.inr (.inr (.inr (.inl h))))))))
      · exact .inl h
      · exact .inr (.inl h)
      · exact .inr (.inr (.inl h))
      · exact .inr (.inr (.inr (.inl h)))
      · exact .inr (.inr (.inr (.inr (.inl h))))
      · exact .inr (.inr (.inr (.inr (.inr (.inr (.inr (.inr (.inr h))))))))
    · refine nodup_turn2 (List.nodup_cons.mpr ⟨fun q => ?_, hn1⟩)
      obtain ⟨l1, l2, l3, _, l5, l6⟩ := lt3
      obtain ⟨p, hp, e⟩ : ∃ p ∈ (pA, W.listOf wl.toArray n0) :: (c1, o1) :: (c2, o2) :: (c3, o4) :: (dC, W.listOf ws.toArray 0) :: (PA, W.listOf (pss rl).toArray np) :: (QA, W.listOf qs.toArray nq) :: (TA, W.listOf (tss rl).toArray nt) :: (led rl ++ [it]), p.1 = tA := List.mem_map.mp q
      simp only [List.mem_cons] at hp
      rcases hp with h | h | h | h | h | h | h | h | h
      · rw [h] at e; exact Nat.ne_of_lt l5 e
      · exact Nat.ne_of_lt (allLt_mem l6 p (by rw [h]; exact .head _)) e
      · exact Nat.ne_of_lt (allLt_mem l6 p (by rw [h]; exact .tail _ (.head _))) e
      · exact Nat.ne_of_lt (allLt_mem l6 p (by rw [h]; exact .tail _ (.tail _ (.head _)))) e
      · exact Nat.ne_of_lt (allLt_mem l6 p (by rw [h]; exact .tail _ (.tail _ (.tail _ (.head _))))) e
      · rw [h] at e; exact Nat.ne_of_lt l1 e
      · rw [h] at e; exact Nat.ne_of_lt l2 e
      · rw [h] at e; exact Nat.ne_of_lt l3 e
      · exact Nat.ne_of_lt (allLt_mem l6 p (.tail _ (.tail _ (.tail _ (.tail _ h))))) e
end
end Fl
end

section
open PySem.Calls
namespace Fl

def lawB3 : List Stmt := lawBody.drop 3
def lawB4 : List Stmt := lawBody.drop 4

/-- what stands between two turns of the first loop -/
structure Mid (c1 c2 c3 dC PA QA TA : Addr) (o1 : Obj) (ws : List Value) (rl : List Rec) (m : Str → Option Value) (nx : List (Addr × Obj)) : Prop where
  ex : ∃ o2 o3 v2 v3 np nq nt qs, nx = (c1, o1) :: (c2, o2) :: (c3, o3) :: (dC, W.listOf ws.toArray 0) :: (PA, W.listOf (pss rl).toArray np) :: (QA, W.listOf qs.toArray nq) :: (TA, W.listOf (tss rl).toArray nt) :: led rl ∧ o2.data = .cell v2 ∧ o3.data = .cell v3 ∧ IntsAre qs (pls rl) ∧ qs.length = rl.length
  ok : ∀ r ∈ rl, r.Ok
  nd : (nx.map (·.1)).Nodup
  parts : m "parts" = some (.ref PA)
  places : m "places" = some (.ref QA)
  told : m "told" = some (.ref TA)

theorem nodup_last {l : List (Addr × Obj)} {it : Addr × Obj} : ((l ++ [it]).map (·.1)).Nodup ↔ (l.map (·.1)).Nodup ∧ ∀ p ∈ l, p.1 ≠ it.1 := by
  rw [List.map_append, List.nodup_append]
  constructor
  · rintro ⟨a, _, b⟩
    exact ⟨a, fun p hp => b _ (List.mem_map_of_mem hp) _ (.head _)⟩
  · rintro ⟨a, b⟩
    refine ⟨a, by simp, fun x hx y hy => ?_⟩
    obtain ⟨p, hp, rfl⟩ := List.mem_map.mp hx
    rw [List.mem_singleton.mp hy]
    exact b p hp

section
variable {prog : Program} {w : World} {s : Shared} {h₀ : Heap} {L a c1 c2 c3 : Addr} {cd : Value} {m mg mb : Str → Option Value}

local macro_rules | `(tactic| walk_at "eval Name") => `(tactic| (with_unfolding_all refine guardX (by rfl) ?_; k_dflt (refine' nmX_b ?k1 ?k2 ?k3 ?k4 ?k5 ?_; (case k1 => k_asm); (case k2 => k_asm); (case k3 => decide); (case k4 => boot_by_name); (case k5 => decide); k_whole)))

set_option maxHeartbeats 4000000 in
theorem law_loop1 {PA QA TA dC : Addr} {o1 o2 o3 : Obj} {v2 v3 : Option Value} {np nq nt : Nat} {cs : List Int} {ws : List Value} {u : Str → Option Value} {Q : Flow → Shared → Prop}
    (G : Gl mg mb h₀) (K : FlOk mg h₀) (K2 : FnOk mg h₀ "_law_sums" smParams smBody smScope) (X : Frag.In [] h₀)
    (N' : News h₀ L s.heap [(c1, o1), (c2, o2), (c3, o3), (dC, W.listOf ws.toArray 0), (PA, W.listOf #[] np), (QA, W.listOf #[] nq), (TA, W.listOf #[] nt)])
    (d1 : o1.data = .cell (some (.ref dC))) (d2 : o2.data = .cell v2) (d3 : o3.data = .cell v3) (hI : IntsAre ws cs) (hcl : cs.length = 20) (hnd : [c1, c2, c3, dC, PA, QA, TA].Nodup)
    (F' : Fr h₀ L s.heap (fun y => if y = Str.ofString "parts" then some (.ref PA) else if y = Str.ofString "places" then some (.ref QA) else if y = Str.ofString "told" then some (.ref TA) else u y))
    (hQ : ∀ (h' : Heap) (k' : Nat) (rl : List Rec) (m' : Str → Option Value) (nx : List (Addr × Obj)), Fr h₀ L h' m' → News h₀ L h' nx → Mid c1 c2 c3 dC PA QA TA o1 ws rl m' nx → 2 ≤ rl.length → rl.length ≤ 4 →
      wpC (model prog w) (callerA.deeper (lawE L a cd c1 c2 c3)) (execs lawB4 (lawE L a cd c1 c2 c3)) Q { s with heap := h', toks := k' }) :
    wpC (model prog w) (callerA.deeper (lawE L a cd c1 c2 c3)) (execs lawB3 (lawE L a cd c1 c2 c3)) Q s := by
  obtain ⟨hp, gs, dr, tk, os⟩ := s
  unfold lawB3 lawBody defAt PySem.Challenge.pw_bs0025_01
  dsimp only [List.drop]
  refine execs_cons_ (For_ ?_)
  unfold lawE lawScope defAt PySem.Challenge.pw_bs0025_01
  dsimp only [List.drop]
  dsimp only at F' N'
  k_steps
  dsimp only
  rename_i tC0 hB tkC tC uC vC hRg hFr hNw hKp
  dsimp only at hRg
  clear hKp
  have z0 : 0 ≤ (cs.getD (Int.toNat 0) 0).fmod 3 := Int.fmod_nonneg_of_pos _ (by decide)
  have z1 : (cs.getD (Int.toNat 0) 0).fmod 3 < 3 := Int.fmod_lt_of_pos _ (by decide)
  revert hRg
  generalize (cs.getD (Int.toNat 0) 0).fmod 3 = D at z0 z1
  intro hRg
  refine loop_rangeA (s := ⟨_, _, _, _, _⟩) (n := (2 + D).toNat) (fun i m' nx => ∃ rl, rl.length = i ∧ Mid c1 c2 c3 dC PA QA TA o1 ws rl m' nx)
    rfl hRg (small_one (by omega) (by omega) (by omega) (by omega)) (by simp only [Builtin.Range.rangeSize]; rw [if_pos (by decide), if_pos (by omega)]; omega) hFr hNw
    ⟨[], rfl, ⟨o2, o3, v2, v3, np, nq, nt, [], rfl, d2, d3, .nil, rfl⟩, (fun _ h => nomatch h), hnd, rfl, rfl, rfl⟩ ?_ ?_
  · rintro i tt m' nx h' tk' it hi ⟨rl, rfl, M⟩ hn F' N'
    obtain ⟨⟨o2', o3', v2', v3', np', nq', nt', qs', rfl, d2', d3', hq, hql⟩, ok, nd, e1, e2, e3⟩ := M
    have nd2 : (c1 :: c2 :: c3 :: dC :: PA :: QA :: TA :: (led rl ++ [it]).map (·.1)).Nodup := nodup_last.mpr ⟨nd, hn⟩
    have x1 := (List.nodup_cons.mp nd2).1
    have x2 := (List.nodup_cons.mp (List.nodup_cons.mp nd2).2).1
    have F3 := fr_chain3 F' e1 e2 e3
    refine wpAny_assign_Name (storeX_C (c := c2) (o := o2') (v₀ := v2') F3 N' rfl (UpdF.tail (fun q => x1 (by rw [show c1 = c2 from q]; exact .head _)) (UpdF.head fun p hp q => x2 (q ▸ List.mem_map_of_mem (f := (·.1)) hp))) d2' (fun h2 o2'' F2 N2 d2'' => ?_))
    refine @turn_all prog w ⟨h2, gs, dr, tk', os⟩ h₀ L a c1 c2 c3 cd mg mb PA QA TA dC it o1 o2'' o3' v3' qs' np' nq' nt' cs ws tt m' rl _ G K K2 X N2 d1 d2'' d3' hI hcl (by omega) nd2 hq hql ok F2 ?_
    intro h4 k4 r o4 v4 tq u4 F4 N4 nd4 d4 okr
    have nd5 := nodup_last (l := (c1, o1) :: (c2, o2'') :: (c3, o4) :: (dC, W.listOf ws.toArray 0) :: (PA, W.listOf (pss (r :: rl)).toArray (np' + 1)) :: (QA, W.listOf (qs' ++ [Value.int ((lens rl).sum + r.pl) tq]).toArray (nq' + 1)) :: (TA, W.listOf (tss (r :: rl)).toArray (nt' + 1)) :: led (r :: rl)) |>.mp nd4
    refine ⟨h4, k4, _, _, rfl, F4, N4, nd5.2, r :: rl, rfl, ⟨o2'', o4, _, v4, np' + 1, nq' + 1, nt' + 1, qs' ++ [Value.int ((lens rl).sum + r.pl) tq], rfl, d2'', d4, hq.append (.cons _ _ .nil), by simp [hql]⟩, ?_, nd5.1, rfl, rfl, rfl⟩
    intro x hx
    rcases List.mem_cons.mp hx with rfl | hx
    · exact okr
    · exact ok x hx
  · rintro m' nx h' tk' ⟨rl, hrl, M⟩ F' N'
    exact hQ h' tk' rl m' nx F' N' M (by omega) (by omega)
end
end Fl
end

section
open PySem.Calls
namespace Fl
section
variable {prog : Program} {w : World} {A : Around} {s : Shared} {h₀ : Heap} {L a : Addr} {cd : Value} {m mg mb : Str → Option Value}

local macro_rules | `(tactic| walk_at "a key of no step") => `(tactic| fail)
local macro_rules | `(tactic| walk_at "subscriptTail") => `(tactic| ((with_reducible show wpAny _ _ (subscriptTail _ _ (Value.ref _) (Value.int _ _)) _ _ _); k_dflt (refine' item_tupleT ?t ?a ?b ?c ?d ?_; (case t => first | exact (by assumption : IsTup _ _ _).keeps (Fr.keep (by assumption))); (case a => decide); (case b => decide); (case c => rfl); (case d => rfl); k_whole)))

set_option maxHeartbeats 4000000 in
theorem jn_bodyA {t u : Addr} {n1 a1 b1 n2 a2 b2 : Int} {x1 x2 x3 y1 y2 y3 : Tok} {Q : Flow → Shared → Prop}
    (X : Frag.In [] h₀) (N' : News h₀ L s.heap []) (T1 : IsTup h₀ t [Value.int n1 x1, .int a1 x2, .int b1 x3].toArray) (T2 : IsTup h₀ u [Value.int n2 y1, .int a2 y2, .int b2 y3].toArray)
    (n10 : 0 ≤ n1) (n11 : n1 ≤ 64) (n20 : 0 ≤ n2) (n21 : n2 ≤ 64) (a10 : 0 ≤ a1) (a11 : a1 < 255) (a20 : 0 ≤ a2) (a21 : a2 < 255) (b10 : 0 ≤ b1) (b11 : b1 < 255) (b20 : 0 ≤ b2) (b21 : b2 < 255)
    (hQ : ∀ h' r k z1 z2 z3, (∀ b o, h₀.get? b = some o → h'.get? b = some o) → h'.get? r = some (tupObj (jnV n1 a1 b1 n2 a2 b2 z1 z2 z3)) → h₀.get? r = none → Q (.ret (.ref r)) { s with heap := h', toks := k })
    (F' : Fr h₀ L s.heap (fun z => ([("one", .ref t), ("other", .ref u)] : List (Str × Value)).reverse.lookup z)) :
    wpAny (model prog w) A (execs jnBody (envOf "_law_joined" jnScope L a cd)) Q (fun _ _ => False) s := by
  obtain ⟨hp, gs, dr, tk, os⟩ := s
  unfold jnBody jnScope defAt PySem.Challenge.pw_bs0025_01
  dsimp only [List.drop] at *
  k_steps
  rename Fr _ _ _ _ => F2
  rename News _ _ _ _ => N2
  exact hQ _ _ _ _ _ _ F2.keep (N2 _ (.head _)).1 (N2 _ (.head _)).2.2

theorem jn_callA {E : Value → Shared → Prop} {f t u : Addr} {o : Obj} {pm code doc : Value} {n1 a1 b1 n2 a2 b2 : Int} {x1 x2 x3 y1 y2 y3 : Tok} {Q : Value → Shared → Prop} (hroom : A.depth < recursionLimit) (hlim : s.heap.NoLimit)
    (ho : s.heap.get? f = some o) (hdat : o.data = .func (docDef "_law_joined" jnParams jnBody jnScope pm code doc)) (hcd : s.heap.CodeRec code "_law_joined")
    (T1 : IsTup s.heap t [Value.int n1 x1, .int a1 x2, .int b1 x3].toArray) (T2 : IsTup s.heap u [Value.int n2 y1, .int a2 y2, .int b2 y3].toArray)
    (n10 : 0 ≤ n1) (n11 : n1 ≤ 64) (n20 : 0 ≤ n2) (n21 : n2 ≤ 64) (a10 : 0 ≤ a1) (a11 : a1 < 255) (a20 : 0 ≤ a2) (a21 : a2 < 255) (b10 : 0 ≤ b1) (b11 : b1 < 255) (b20 : 0 ≤ b2) (b21 : b2 < 255)
    (hQ : ∀ h' r k z1 z2 z3, (∀ b o, s.heap.get? b = some o → h'.get? b = some o) → h'.get? r = some (tupObj (jnV n1 a1 b1 n2 a2 b2 z1 z2 z3)) → s.heap.get? r = none → Q (.ref r) { s with heap := h', toks := k }) :
    wpAny (model prog w) A (call (.ref f) [.ref t, .ref u]) Q E s := by
  refine wpAny_call (codeAny_call_def (fd := docDef "_law_joined" jnParams jnBody jnScope pm code doc) (body := jnBody) (binds := [("one", .ref t), ("other", .ref u)]) hroom ho hdat hlim hcd rfl (BindsTo.of_eq rfl) (show ∀ x ∈ jnScope.names, x.2 ≠ .cell by decide) (by intro x hx; simp at hx; rcases hx with rfl | rfl <;> rfl) (fun h₁ hns hk => ?_) rfl rfl rfl)
  refine wpAny_mono (jn_bodyA (prog := prog) (w := w) (s := { s with heap := h₁, toks := s.toks + 2 }) (A := A.deeper _) (h₀ := s.heap) (L := s.heap.objs.size) (a := f) (cd := code) (Q := fun fl s' => match (match fl with | .ret v => v | _ => .none) with | v => Q v s') (fun _ _ e => by cases e) (fun _ h => nomatch h) T1 T2 n10 n11 n20 n21 a10 a11 a20 a21 b10 b11 b20 b21 (fun h' r k z1 z2 z3 hk e n => hQ h' r k z1 z2 z3 hk e n) ⟨hns, hk, Nat.le_refl _⟩) (fun fl s' h => h) fun _ _ x => x.elim
end
end Fl
end

section
open PySem.Calls
namespace Fl

theorem flSums_append (x : List Int) : ∀ (n : Nat) (y : List Int), y.length = n → flSums (x ++ y) = ((flSums x).1 + (flSums y).1, (flSums x).2 + (y.length : Int) * (flSums x).1 + (flSums y).2) := by
  intro n
  induction n with
  | zero =>
    intro y h
    rw [List.length_eq_zero_iff.mp h, List.append_nil]
    ext
    · show _ = _ + (0 : Int); omega
    · show _ = _ + ((0 : Nat) : Int) * _ + (0 : Int)
      simp
  | succ n ih =>
    intro y hl
    have hne : y ≠ [] := by intro q; rw [q] at hl; simp at hl
    obtain ⟨t, v, rfl⟩ : ∃ t v, y = t ++ [v] := ⟨y.dropLast, y.getLast hne, (List.dropLast_concat_getLast hne).symm⟩
    have hl' : t.length = n := by simpa using hl
    rw [← List.append_assoc, flSums_snoc, flSums_snoc, ih t hl']
    ext
    · show _ + _ + v = _ + (_ + v); omega
    · show _ + (t.length : Int) * _ + _ + (_ + _ + v) = _ + ((t ++ [v]).length : Int) * _ + (_ + (_ + v))
      rw [List.length_append]
      have : ((t.length + [v].length : Nat) : Int) = (t.length : Int) + 1 := by simp
      rw [this, Int.add_mul]
      omega

def r0 (z : List Int) : Int := (flSums z).1.fmod 255
def r1 (z : List Int) : Int := (flSums z).2.fmod 255
theorem r0_range (z : List Int) : 0 ≤ r0 z ∧ r0 z < 255 := ⟨Int.fmod_nonneg_of_pos _ (by decide), Int.fmod_lt_of_pos _ (by decide)⟩
theorem r1_range (z : List Int) : 0 ≤ r1 z ∧ r1 z < 255 := ⟨Int.fmod_nonneg_of_pos _ (by decide), Int.fmod_lt_of_pos _ (by decide)⟩

theorem join0 (x y : List Int) : (r0 x + r0 y).fmod 255 = r0 (x ++ y) := by
  unfold r0
  rw [flSums_append x _ y rfl]
  simp only [Int.fmod_eq_emod_of_nonneg _ (show (0 : Int) ≤ 255 by decide)]
  omega
theorem join1 (x y : List Int) : (r1 x + (y.length : Int) * r0 x + r1 y).fmod 255 = r1 (x ++ y) := by
  unfold r0 r1
  rw [flSums_append x _ y rfl]
  simp only [Int.fmod_eq_emod_of_nonneg _ (show (0 : Int) ≤ 255 by decide)]
  have e : ((y.length : Int) * ((flSums x).1 % 255)) % 255 = ((y.length : Int) * (flSums x).1) % 255 := by rw [Int.mul_emod, Int.emod_emod_of_dvd _ (Int.dvd_refl 255), ← Int.mul_emod]
  generalize (y.length : Int) * ((flSums x).1 % 255) = p at e
  generalize (y.length : Int) * (flSums x).1 = q at e
  show _ = (_ + q + _) % 255
  omega
theorem r0_one (o : Int) : r0 [o] = o.fmod 255 := by
  show (0 + o).fmod 255 = _
  rw [Int.zero_add]
theorem r1_one (o : Int) : r1 [o] = o.fmod 255 := by
  show (0 + (0 + o)).fmod 255 = _
  rw [Int.zero_add, Int.zero_add]

/-- where both octets are 0, the checksum is that of the residues -/
theorem flet_res {z : List Int} {p : Int} (p0 : 0 ≤ p) (p1 : p + 2 ≤ z.length) (h0 : z.getD p.toNat 0 = 0) (h1 : z.getD (p + 1).toNat 0 = 0) : flet z p = chk z.length p (r0 z) (r1 z) := by
  have e : (p + 1).toNat = p.toNat + 1 := by omega
  rw [e] at h1
  rw [chk_flet (r0_range z)]
  unfold flet
  rw [zap_same (by omega) h0 h1]
  rfl

theorem moved_law {n p q a b : Int} (ha : 0 ≤ a ∧ a < 255) (hb : 0 ≤ b ∧ b < 255) : ((fletOf n p a b).fdiv 256 - (fletOf n q a b).fdiv 256).fmod 255 = ((q - p) * a).fmod 255 := by
  obtain ⟨X, Y, _, _, _, _, _, e1, _, _, e2⟩ := fl_parts (n := n) (off := p) ha hb
  obtain ⟨X', Y', _, _, _, _, _, e1', _, _, e2'⟩ := fl_parts (n := n) (off := q) ha hb
  rw [e1, e1']
  have : (q - p) * a = (n - p - 1) * a - (n - q - 1) * a := by grind
  rw [this]
  simp only [Int.fmod_eq_emod_of_nonneg _ (show (0 : Int) ≤ 255 by decide)] at *
  generalize (n - p - 1) * a = u at *
  generalize (n - q - 1) * a = v at *
  omega
end Fl
end

section
open PySem.Calls
namespace Fl

section
variable {prog : Program} {w : World} {A : Around} {E : Value → Shared → Prop} {s : Shared} {h₀ : Heap} {L a c1 c2 c3 : Addr} {cd : Value} {m mg mb : Str → Option Value} {news : List (Addr × Obj)} {cn : Str} {cs : Scope} {cl : List (Str × Addr)}

/-- an item of a list of the ledger, its place of either sign -/
theorem item_L {value slice : PySem.Expr} {D : Addr} {its : List Value} {n : Nat} {k : Int} {u : Tok} {x : Value} {Q : Value → Shared → Prop} (N : News h₀ L s.heap news) (hm : (D, W.listOf its.toArray n) ∈ news) (h0 : -(its.length : Int) ≤ k) (h1 : k < its.length) (hsm : its.length ≤ 1000)
    (hx : its[(if 0 ≤ k then k else k + its.length).toNat]? = some x) (h : Q x s)
    (hs : subscripted slice false (.ref D) (.int k u) = operate [.ref D, .int k u] (getItem (.ref D) (.int k u)) := by with_unfolding_all rfl) (hg : ∀ r, letTemporaryGo value (.ref D) r = pure () := by intro _; with_unfolding_all rfl) :
    wpAny (model prog w) A (subscriptTail value slice (.ref D) (.int k u)) Q E s := by
  have hl : s.heap.IsList D its.toArray := ⟨_, (N _ hm).1, rfl, _, rfl⟩
  by_cases hk : 0 ≤ k
  · rw [if_pos hk] at hx
    exact subscriptTail_builtin hl.typeIs slot_list_getitem.lookup (wpAny_getItem_list hl hk (by omega) (by simpa using hx) h) hs hg
  · rw [if_neg hk] at hx
    exact subscriptTail_builtin hl.typeIs slot_list_getitem.lookup (wpAny_getItem_list_neg hl (by omega) (by rw [List.size_toArray]; omega) (by omega) (by rw [List.size_toArray]; simpa using hx) h) hs hg

/-- an item of a tuple of the ledger -/
theorem item_T {value slice : PySem.Expr} {D : Addr} {its : List Value} {k : Int} {u : Tok} {j : Nat} {x : Value} {Q : Value → Shared → Prop} (N : News h₀ L s.heap news) (hm : (D, tupObj its) ∈ news)
    (hlo : -(2 ^ 63) ≤ k) (hhi : k < 2 ^ 63) (hj : seqIndex? k its.length = some j) (hx : its[j]? = some x) (h : Q x s)
    (hs : subscripted slice false (.ref D) (.int k u) = operate [.ref D, .int k u] (getItem (.ref D) (.int k u)) := by with_unfolding_all rfl) (hg : ∀ r, letTemporaryGo value (.ref D) r = pure () := by intro _; with_unfolding_all rfl) :
    wpAny (model prog w) A (subscriptTail value slice (.ref D) (.int k u)) Q E s :=
  item_tupleL ⟨_, (N _ hm).1, rfl, _, rfl⟩ hlo hhi hj hx h hs hg

/-- _law_joined on two tuples of the ledger -/
theorem jn_news {f t u : Addr} {o : Obj} {pm code doc : Value} {n1 a1 b1 n2 a2 b2 : Int} {x1 x2 x3 y1 y2 y3 : Tok} {Q : Value → Shared → Prop} (hroom : A.depth < recursionLimit) (G : Gl mg mb h₀)
    (ho : h₀.get? f = some o) (hdat : o.data = .func (docDef "_law_joined" jnParams jnBody jnScope pm code doc)) (hcd : h₀.CodeRec code "_law_joined") (F : Fr h₀ L s.heap m) (N : News h₀ L s.heap news)
    (T1 : (t, tupObj [Value.int n1 x1, .int a1 x2, .int b1 x3]) ∈ news) (T2 : (u, tupObj [Value.int n2 y1, .int a2 y2, .int b2 y3]) ∈ news)
    (n10 : 0 ≤ n1) (n11 : n1 ≤ 64) (n20 : 0 ≤ n2) (n21 : n2 ≤ 64) (a10 : 0 ≤ a1) (a11 : a1 < 255) (a20 : 0 ≤ a2) (a21 : a2 < 255) (b10 : 0 ≤ b1) (b11 : b1 < 255) (b20 : 0 ≤ b2) (b21 : b2 < 255)
    (hQ : ∀ h' r k z1 z2 z3, Fr h₀ L h' m → News h₀ L h' ((r, tupObj (jnV n1 a1 b1 n2 a2 b2 z1 z2 z3)) :: news) → (∀ p ∈ news, p.1 ≠ r) → Q (.ref r) { s with heap := h', toks := k }) :
    wpAny (model prog w) A (call (.ref f) [.ref t, .ref u]) Q E s := by
  refine jn_callA hroom (G.base F).nolimit (F.keep _ _ ho) hdat (hcd.keeps F.keep) ⟨_, (N _ T1).1, rfl, _, rfl⟩ ⟨_, (N _ T2).1, rfl, _, rfl⟩ n10 n11 n20 n21 a10 a11 a20 a21 b10 b11 b20 b21 fun h' r k z1 z2 z3 hk e n => ?_
  have nr : ∀ b o, s.heap.get? b = some o → b ≠ r := fun b o eb q => by rw [q, n] at eb; cases eb
  obtain ⟨oL, _, _, eL, _⟩ := F.ns
  refine hQ h' r k z1 z2 z3 (F.after hk) (fun p hp => ?_) (fun p hp => nr _ _ (N p hp).1)
  rcases List.mem_cons.mp hp with rfl | hp
  · refine ⟨e, Ne.symm (nr _ _ eL), ?_⟩
    cases q : h₀.get? r with
    | none => rfl
    | some o => have := F.keep _ _ q; rw [n] at this; cases this
  · exact ⟨hk _ _ (N p hp).1, (N p hp).2⟩

theorem new_ne {h : Heap} {news : List (Addr × Obj)} (N : News h₀ L h news) : ∀ p ∈ news, p.1 ≠ h.objs.size := fun p hp => Nat.ne_of_lt (Heap.lt_size (N p hp).1)

theorem plain_nil {p : Pos} {env : Env} : (backTo p (starEach [] env)).any (·.1) = false := rfl
theorem plain_cons {p : Pos} {env : Env} {e : PySem.Expr} {rest : List PySem.Expr} (hr : (backTo p (starEach rest env)).any (·.1) = false) (he : starEach (e :: rest) env = (false, eval e env) :: starEach rest env := by rfl) : (backTo p (starEach (e :: rest) env)).any (·.1) = false := by
  rw [he]
  show (false || (backTo p (starEach rest env)).any (·.1)) = false
  rw [hr]; rfl

/-- two names of the frame at once -/
theorem assign2 {x y : Str} {px py : Pos} {k1 k2 : Nat} {tp vp pos : Pos} {e1 e2 : PySem.Expr} {Q : Flow → Shared → Prop} (hh : A.handled = none)
    (h : wpAny (model prog w) A (spliced (backTo vp (starEach [e1, e2] (envX cn cs L a cd cl)))) (fun vs s₁ => ∃ v1 v2 m news, vs = [v1, v2] ∧ Fr h₀ L s₁.heap m ∧ News h₀ L s₁.heap news ∧
      ∀ h' tk, Fr h₀ L h' (fun u => if u = x then some v1 else if u = y then some v2 else m u) → News h₀ L h' news → Q .next { s₁ with heap := h', toks := tk }) E s)
    (hs : swapsWithSole [.Tuple [.Name x px, .Name y py] k1 tp] (.Tuple [e1, e2] k2 vp) pos.line (envX cn cs L a cd cl) = pure false := by rfl)
    (hw : swappedStores [.Tuple [.Name x px, .Name y py] k1 tp] (.Tuple [e1, e2] k2 vp) (envX cn cs L a cd cl) = pure (some [x, y]) := by rfl)
    (hk : cs.kind = .function := by rfl) (hx : (envX cn cs L a cd cl).kindOf x = some .local := by rfl) (hy : (envX cn cs L a cd cl).kindOf y = some .local := by rfl) :
    wpAny (model prog w) A (exec (.Assign [.Tuple [.Name x px, .Name y py] k1 tp] (.Tuple [e1, e2] k2 vp) pos) (envX cn cs L a cd cl)) Q E s := by
  refine Assign_Tuple_swapped (names := [x, y]) (Tuple_ (wpAny_mono h (fun vs s₁ h₁ => ?_) fun _ _ e => e)) hs hw
  obtain ⟨v1, v2, m, news, rfl, F, N, hQ⟩ := h₁
  refine newTuple_N F N (fun h2 F2 N2 => ?_) (by rw [sizeLine_eq]; show (2 : Nat) ≤ _; omega)
  refine unpackItemsN_ (items := [v1, v2].toArray) F2 N2 ⟨_, (N2 _ (.head _)).1, rfl, _, rfl⟩ hh rfl fun h3 F3 N3 => ?_
  show wpAny _ _ (do holding [v1] (bindName _ y v2); do holding [] (bindName _ x v1); pure ()) _ _ _
  refine wpAny_bind (wpAny_holding (bindName_ (storeX_L F3 (news_tail N3) (fun h4 F4 N4 => ?_) hk hy)))
  refine wpAny_bind (wpAny_holding (bindName_ (storeX_L F4 N4 (fun h5 F5 N5 => ?_) hk hx)))
  exact wpAny_pure (hQ h5 _ F5 N5)

theorem assign3 {x y z : Str} {px py pz : Pos} {k1 k2 : Nat} {tp vp pos : Pos} {e1 e2 e3 : PySem.Expr} {Q : Flow → Shared → Prop} (hh : A.handled = none)
    (h : wpAny (model prog w) A (spliced (backTo vp (starEach [e1, e2, e3] (envX cn cs L a cd cl)))) (fun vs s₁ => ∃ v1 v2 v3 m news, vs = [v1, v2, v3] ∧ Fr h₀ L s₁.heap m ∧ News h₀ L s₁.heap news ∧
      ∀ h' tk, Fr h₀ L h' (fun u => if u = x then some v1 else if u = y then some v2 else if u = z then some v3 else m u) → News h₀ L h' news → Q .next { s₁ with heap := h', toks := tk }) E s)
    (hs : swapsWithSole [.Tuple [.Name x px, .Name y py, .Name z pz] k1 tp] (.Tuple [e1, e2, e3] k2 vp) pos.line (envX cn cs L a cd cl) = pure false := by rfl)
    (hw : swappedStores [.Tuple [.Name x px, .Name y py, .Name z pz] k1 tp] (.Tuple [e1, e2, e3] k2 vp) (envX cn cs L a cd cl) = pure (some [x, y, z]) := by rfl)
    (hk : cs.kind = .function := by rfl) (hx : (envX cn cs L a cd cl).kindOf x = some .local := by rfl) (hy : (envX cn cs L a cd cl).kindOf y = some .local := by rfl) (hz : (envX cn cs L a cd cl).kindOf z = some .local := by rfl) :
    wpAny (model prog w) A (exec (.Assign [.Tuple [.Name x px, .Name y py, .Name z pz] k1 tp] (.Tuple [e1, e2, e3] k2 vp) pos) (envX cn cs L a cd cl)) Q E s := by
  refine Assign_Tuple_swapped (names := [x, y, z]) (Tuple_ (wpAny_mono h (fun vs s₁ h₁ => ?_) fun _ _ e => e)) hs hw
  obtain ⟨v1, v2, v3, m, news, rfl, F, N, hQ⟩ := h₁
  refine newTuple_N F N (fun h2 F2 N2 => ?_) (by rw [sizeLine_eq]; show (3 : Nat) ≤ _; omega)
  refine unpackItemsN_ (items := [v1, v2, v3].toArray) F2 N2 ⟨_, (N2 _ (.head _)).1, rfl, _, rfl⟩ hh rfl fun h3 F3 N3 => ?_
  show wpAny _ _ (do holding [v2, v1] (bindName _ z v3); do holding [v1] (bindName _ y v2); do holding [] (bindName _ x v1); pure ()) _ _ _
  refine wpAny_bind (wpAny_holding (bindName_ (storeX_L F3 (news_tail N3) (fun h4 F4 N4 => ?_) hk hz)))
  refine wpAny_bind (wpAny_holding (bindName_ (storeX_L F4 N4 (fun h5 F5 N5 => ?_) hk hy)))
  refine wpAny_bind (wpAny_holding (bindName_ (storeX_L F5 N5 (fun h6 F6 N6 => ?_) hk hx)))
  exact wpAny_pure (hQ h6 _ F6 N6)

/-- a name that is a cell is stored; what is named of the ledger stays -/
theorem storeC {M : Model} {x : Str} {v : Value} {v₀ : Option Value} {c : Addr} {o : Obj} {keep : List (Addr × Obj)} {Q : Unit → Shared → Prop} (F : Fr h₀ L s.heap m) (N : News h₀ L s.heap news) (hc : cl.lookup x = some c) (hm : (c, o) ∈ news) (hd : o.data = .cell v₀)
    (hk : ∀ p ∈ keep, p ∈ news ∧ p.1 ≠ c)
    (h : ∀ h' o', Fr h₀ L h' m → News h₀ L h' ((c, o') :: keep) → o'.data = .cell (some v) → Q () { s with heap := h' })
    (hf : cs.kind = .function := by rfl) (hx : (envX cn cs L a cd cl).kindOf x = some .cell := by rfl) : wpAny M A (storeName (envX cn cs L a cd cl) x v) Q E s := by
  have N2 : News h₀ L s.heap ((c, o) :: keep) := fun p hp => by
    rcases List.mem_cons.mp hp with rfl | hp
    · exact N _ hm
    · exact N _ (hk p hp).1
  exact storeX_C F N2 hc (UpdF.head fun p hp => (hk p hp).2) hd h hf hx
end
end Fl
end

section
open PySem.Calls
namespace Fl

def lawB5 : List Stmt := lawBody.drop 5
def loop5Body : List Stmt := match lawBody.drop 5 with
  | .For _ _ b _ _ :: _ => b
  | _ => []

section
variable {prog : Program} {w : World} {A : Around} {E : Value → Shared → Prop} {s : Shared} {h₀ : Heap} {L a c1 c2 c3 : Addr} {cd : Value} {m mg mb : Str → Option Value} {news : List (Addr × Obj)} {cn : Str} {cs : Scope} {cl : List (Str × Addr)}

theorem sub_L {X : Str} {p1 p2 p3 : Pos} {kd : Nat} {D : Addr} {its : List Value} {n : Nat} {k : Int} {x : Value} {Q : Value → Shared → Prop} (F : Fr h₀ L s.heap m) (N : News h₀ L s.heap news) (hv : m X = some (.ref D)) (hm : (D, W.listOf its.toArray n) ∈ news) (h0 : 0 ≤ k) (h1 : k < its.length) (hsm : its.length ≤ 1000)
    (hx : its[k.toNat]? = some x) (h : ∀ tk, Q x { s with toks := tk })
    (hk : cs.kind = .function := by rfl) (hX : (envX cn cs L a cd cl).kindOf X = some .local := by rfl) (hd : (X == ("__debug__" : Str)) = false := by decide) :
    wpAny (model prog w) A (eval (.Subscript (.Name X p1) (.Constant (.int k) kd p2) p3) (envX cn cs L a cd cl)) Q E s := by
  refine Subscript_ (nameX_L F hv (wpAny_Constant_int (item_L (s := { s with toks := s.toks + 1 }) N hm (by omega) h1 hsm ?_ (h _))) hk hX hd)
  rw [if_pos h0]; exact hx

theorem sub_Lneg {X : Str} {p1 p2 p3 p4 : Pos} {kd : Nat} {D : Addr} {its : List Value} {n : Nat} {x : Value} {Q : Value → Shared → Prop} (F : Fr h₀ L s.heap m) (N : News h₀ L s.heap news) (hv : m X = some (.ref D)) (hm : (D, W.listOf its.toArray n) ∈ news) (h1 : 0 < its.length) (hsm : its.length ≤ 1000)
    (hx : its[its.length - 1]? = some x) (h : ∀ tk, Q x { s with toks := tk })
    (hk : cs.kind = .function := by rfl) (hX : (envX cn cs L a cd cl).kindOf X = some .local := by rfl) (hd : (X == ("__debug__" : Str)) = false := by decide) :
    wpAny (model prog w) A (eval (.Subscript (.Name X p1) (.UnaryOp .USub (.Constant (.int 1) kd p2) p4) p3) (envX cn cs L a cd cl)) Q E s := by
  refine Subscript_ (nameX_L F hv (UnaryOp_ (wpAny_Constant_int (neg_int (item_L (s := { s with toks := s.toks + 1 + 1 }) N hm (by omega) (by omega) hsm ?_ (h _))))) hk hX hd)
  rw [if_neg (by omega)]
  rw [show (-1 + (its.length : Int)).toNat = its.length - 1 by omega]
  exact hx

theorem sub_T {X : Str} {p1 p2 p3 : Pos} {kd : Nat} {D : Addr} {its : List Value} {k : Int} {j : Nat} {x : Value} {Q : Value → Shared → Prop} (F : Fr h₀ L s.heap m) (N : News h₀ L s.heap news) (hv : m X = some (.ref D)) (hm : (D, tupObj its) ∈ news)
    (hlo : -(2 ^ 63) ≤ k) (hhi : k < 2 ^ 63) (hj : seqIndex? k its.length = some j) (hx : its[j]? = some x) (h : ∀ tk, Q x { s with toks := tk })
    (hk : cs.kind = .function := by rfl) (hX : (envX cn cs L a cd cl).kindOf X = some .local := by rfl) (hd : (X == ("__debug__" : Str)) = false := by decide) :
    wpAny (model prog w) A (eval (.Subscript (.Name X p1) (.Constant (.int k) kd p2) p3) (envX cn cs L a cd cl)) Q E s := by
  exact Subscript_ (nameX_L F hv (wpAny_Constant_int (item_T (s := { s with toks := s.toks + 1 }) N hm hlo hhi hj hx (h _))) hk hX hd)

/-- what the rest of the law leans on: the ledger without the cell of k -/
structure Base (B : List (Addr × Obj)) (c1 c2 dC PA QA TA : Addr) (o1 : Obj) (ws qs : List Value) (np nq nt : Nat) (cs : List Int) (rl : List Rec) : Prop where
  hc : (c1, o1) ∈ B
  d1 : o1.data = .cell (some (.ref dC))
  hC : (dC, W.listOf ws.toArray 0) ∈ B
  I : IntsAre ws cs
  len : cs.length = 20
  parts : (PA, W.listOf (pss rl).toArray np) ∈ B
  places : (QA, W.listOf qs.toArray nq) ∈ B
  told : (TA, W.listOf (tss rl).toArray nt) ∈ B
  recs : ∀ r ∈ rl, r.o1 ∈ B ∧ r.o2 ∈ B
  no2 : ∀ p ∈ B, p.1 ≠ c2
  hq : IntsAre qs (pls rl)
  ql : qs.length = rl.length
  ok : ∀ r ∈ rl, r.Ok
  l2 : 2 ≤ rl.length
  l4 : rl.length ≤ 4

theorem tss_get {rl : List Rec} {j : Nat} (hj : j < rl.length) : (tss rl)[j]? = some (Value.ref (rl.reverse[j]'(by simpa using hj)).tA) := by
  unfold tss
  rw [← List.map_reverse, List.getElem?_map, List.getElem?_eq_getElem (by simpa using hj)]
  rfl
theorem pss_get {rl : List Rec} {j : Nat} (hj : j < rl.length) : (pss rl)[j]? = some (Value.ref (rl.reverse[j]'(by simpa using hj)).pA) := by
  unfold pss
  rw [← List.map_reverse, List.getElem?_map, List.getElem?_eq_getElem (by simpa using hj)]
  rfl
theorem tss_len {rl : List Rec} : (tss rl).length = rl.length := by simp [tss]
theorem pss_len {rl : List Rec} : (pss rl).length = rl.length := by simp [pss]

theorem law_s4 {B : List (Addr × Obj)} {dC PA QA TA : Addr} {o1 o2 : Obj} {ws qs : List Value} {np nq nt : Nat} {ks : List Int} {rl : List Rec} {Q : Flow → Shared → Prop}
    (b : Base B c1 c2 dC PA QA TA o1 ws qs np nq nt ks rl) (F : Fr h₀ L s.heap m) (N : News h₀ L s.heap ((c2, o2) :: B)) (e3 : m "told" = some (.ref TA))
    (hQ : ∀ (h' : Heap) (k' : Nat) (rA : Addr) (n0 : Nat), Fr h₀ L h' (fun y => if y = Str.ofString "left" then some (.ref (rl.reverse[0]'(by have := b.l2; simp; omega)).tA) else if y = Str.ofString "right" then some (.ref (rl.reverse[rl.length - 1]'(by have := b.l2; simp; omega)).tA) else if y = Str.ofString "row" then some (.ref rA) else m y) →
      News h₀ L h' ((rA, W.listOf #[] n0) :: (c2, o2) :: B) → rA ≠ c2 →
      wpC (model prog w) (callerA.deeper (lawE L a cd c1 c2 c3)) (execs lawB5 (lawE L a cd c1 c2 c3)) Q { s with heap := h', toks := k' }) :
    wpC (model prog w) (callerA.deeper (lawE L a cd c1 c2 c3)) (execs lawB4 (lawE L a cd c1 c2 c3)) Q s := by
  have l2 := b.l2
  have l4 := b.l4
  have hT : (TA, W.listOf (tss rl).toArray nt) ∈ (c2, o2) :: B := .tail _ b.told
  have hlen := tss_len (rl := rl)
  show wpC _ _ (execs (_ :: lawB5) _) _ _
  refine execs_any (assign3 (h₀ := h₀) rfl ?_)
  refine PyProof.Rows.args_cons (sub_L F N e3 hT (by omega) (by omega) (by omega) (tss_get (j := 0) (by omega)) fun tk1 => ?_)
  refine PyProof.Rows.args_cons (sub_Lneg (s := { s with toks := tk1 }) F N e3 hT (by omega) (by omega) (by rw [hlen]; exact tss_get (j := rl.length - 1) (by omega)) fun tk2 => ?_)
  refine PyProof.Rows.args_cons (List_ (PyProof.Rows.args_nil (newList_N (s := { s with toks := tk2 }) F N (fun h1 F1 N1 => ?_) (by rw [sizeLine_eq]; show (0 : Nat) ≤ _; omega))))
  refine PyProof.Rows.args_nil ⟨_, _, _, _, _, rfl, F1, N1, fun h2 tk F2 N2 => ?_⟩
  exact hQ h2 tk s.heap.objs.size 0 F2 N2 (Ne.symm (new_ne N (c2, o2) (.head _)))
end
end Fl
end

section
open PySem.Calls
namespace Fl

def lawB6 : List Stmt := lawBody.drop 6

/-- a row's length and its two residues -/
def tri (z : List Int) (t1 t2 t3 : Tok) : List Value := [.int (z.length : Int) t1, .int (r0 z) t2, .int (r1 z) t3]

theorem jnV_tri {x y : List Int} {t1 t2 t3 : Tok} : jnV x.length (r0 x) (r1 x) y.length (r0 y) (r1 y) t1 t2 t3 = tri (x ++ y) t1 t2 t3 := by
  unfold jnV tri
  rw [join0, join1, List.length_append]
  rfl

theorem o2_tri {r : Rec} (h : r.Ok) : r.o2 = (r.tA, tupObj (tri r.rs r.tz r.t1 r.t2)) := by
  have l := h.p1
  unfold Rec.len at l
  have p0 := h.p0
  have e : (r.pl + 1).toNat = r.pl.toNat + 1 := by omega
  have z1 := h.z1
  rw [e] at z1
  unfold Rec.o2 Rec.len Rec.c0 Rec.c1 S0 S1 tri r0 r1
  rw [zap_same (by omega) h.z0 z1]

def cat (l : List Rec) : List Int := l.flatMap Rec.rs
theorem cat_append (x y : List Rec) : cat (x ++ y) = cat x ++ cat y := List.flatMap_append
theorem cat_one (r : Rec) : cat [r] = r.rs := by simp [cat]
theorem cat_len {l : List Rec} (h : ∀ r ∈ l, r.Ok) : (cat l).length ≤ 9 * l.length := by
  induction l with
  | nil => exact Nat.le_refl _
  | cons r l ih =>
    have a := ih fun x hx => h x (.tail _ hx)
    have b := (h r (.head _)).l9
    unfold Rec.len at b
    rw [show r :: l = [r] ++ l from rfl, cat_append, cat_one, List.length_append, List.length_append]
    show _ ≤ 9 * (1 + l.length)
    omega
theorem cat_take {l : List Rec} {i : Nat} (h : i < l.length) : cat (l.take (i + 1)) = cat (l.take i) ++ (l[i]).rs := by
  rw [List.take_add_one, List.getElem?_eq_getElem h, cat_append]
  show _ ++ cat [l[i]] = _
  rw [cat_one]
theorem cat_drop {l : List Rec} {i : Nat} (h : i < l.length) : cat (l.drop i) = (l[i]).rs ++ cat (l.drop (i + 1)) := by
  rw [List.drop_eq_getElem_cons h]
  rfl

section
variable {prog : Program} {w : World} {A : Around} {E : Value → Shared → Prop} {s : Shared} {h₀ : Heap} {L a c1 c2 c3 : Addr} {cd : Value} {m mg mb : Str → Option Value} {news : List (Addr × Obj)} {cn : Str} {cs : Scope} {cl : List (Str × Addr)}

theorem jn_tri {f t u : Addr} {o : Obj} {pm code doc : Value} {x y : List Int} {x1 x2 x3 y1 y2 y3 : Tok} {Q : Value → Shared → Prop} (hroom : A.depth < recursionLimit) (G : Gl mg mb h₀)
    (ho : h₀.get? f = some o) (hdat : o.data = .func (docDef "_law_joined" jnParams jnBody jnScope pm code doc)) (hcd : h₀.CodeRec code "_law_joined") (F : Fr h₀ L s.heap m) (N : News h₀ L s.heap news)
    (T1 : (t, tupObj (tri x x1 x2 x3)) ∈ news) (T2 : (u, tupObj (tri y y1 y2 y3)) ∈ news) (lx : x.length ≤ 64) (ly : y.length ≤ 64)
    (hQ : ∀ h' r k z1 z2 z3, Fr h₀ L h' m → News h₀ L h' ((r, tupObj (tri (x ++ y) z1 z2 z3)) :: news) → (∀ p ∈ news, p.1 ≠ r) → Q (.ref r) { s with heap := h', toks := k }) :
    wpAny (model prog w) A (call (.ref f) [.ref t, .ref u]) Q E s := by
  obtain ⟨a0, a1⟩ := r0_range x
  obtain ⟨b0, b1⟩ := r1_range x
  obtain ⟨d0, d1⟩ := r0_range y
  obtain ⟨e0, e1⟩ := r1_range y
  refine jn_news hroom G ho hdat hcd F N T1 T2 (by omega) (by omega) (by omega) (by omega) a0 a1 d0 d1 b0 b1 e0 e1 fun h' r k z1 z2 z3 F' N' hn => hQ h' r k z1 z2 z3 F' ?_ hn
  rw [jnV_tri] at N'
  exact N'

theorem jn_ev {e1 e2 : PySem.Expr} {p1 p4 : Pos} {Q : Value → Shared → Prop} (hroom : A.depth < recursionLimit) (G : Gl mg mb h₀) (K : FnOk mg h₀ "_law_joined" jnParams jnBody jnScope) (F : Fr h₀ L s.heap m)
    (h : wpAny (model prog w) A (spliced (backTo p4 (starEach [e1, e2] (envX cn cs L a cd cl)))) (fun vs s₁ => ∃ t u x y x1 x2 x3 y1 y2 y3 m1 news, vs = [.ref t, .ref u] ∧ Fr h₀ L s₁.heap m1 ∧ News h₀ L s₁.heap news ∧ (t, tupObj (tri x x1 x2 x3)) ∈ news ∧ (u, tupObj (tri y y1 y2 y3)) ∈ news ∧ x.length ≤ 64 ∧ y.length ≤ 64 ∧
      ∀ h' r k z1 z2 z3, Fr h₀ L h' m1 → News h₀ L h' ((r, tupObj (tri (x ++ y) z1 z2 z3)) :: news) → (∀ p ∈ news, p.1 ≠ r) → Q (.ref r) { s₁ with heap := h', toks := k }) E s)
    (hk : cs.kind = .function := by rfl) (hx : (envX cn cs L a cd cl).kindOf "_law_joined" = some .globalImplicit := by rfl)
    (he : starEach [e1, e2] (envX cn cs L a cd cl) = (false, eval e1 (envX cn cs L a cd cl)) :: starEach [e2] (envX cn cs L a cd cl) := by rfl)
    (hc : eval (.Call (.Name "_law_joined" p1) [e1, e2] [] p4) (envX cn cs L a cd cl) = (do callWith p4 (← eval (.Name "_law_joined" p1) (envX cn cs L a cd cl)) [] (backTo p4 (starEach [e1, e2] (envX cn cs L a cd cl))) (backToKw p4 (keywordEach [] (envX cn cs L a cd cl)))) := by rfl) :
    wpAny (model prog w) A (eval (.Call (.Name "_law_joined" p1) [e1, e2] [] p4) (envX cn cs L a cd cl)) Q E s := by
  obtain ⟨f, o, pm, code, doc, g1, g2, g3, g4⟩ := K
  refine PyProof.Rows.Call_ (ldX_global F G g1 ?_ hk hx) hc
  refine callWith_def g3 (wpAny_mono h (fun vs s₁ h₁ => ?_) fun _ _ e => e) he
  obtain ⟨t, u, x, y, x1, x2, x3, y1, y2, y3, m1, news, rfl, F1, N1, T1, T2, lx, ly, hQ⟩ := h₁
  exact ⟨F1.keep _ _ g2, jn_tri hroom G g2 g3 g4 F1 N1 T1 T2 lx ly hQ⟩

theorem turn5 {B : List (Addr × Obj)} {dC PA QA TA lA rA : Addr} {o1 o2 : Obj} {ws qs : List Value} {np nq nt i : Nat} {ks : List Int} {rl : List Rec} {tk₀ : Tok} {x1 x2 x3 y1 y2 y3 : Tok} {extra : List (Addr × Obj)} {Q : Flow → Shared → Prop}
    (G : Gl mg mb h₀) (K : FnOk mg h₀ "_law_joined" jnParams jnBody jnScope) (b : Base B c1 c2 dC PA QA TA o1 ws qs np nq nt ks rl) (hi : i + 1 < rl.length)
    (F : Fr h₀ L s.heap m) (N : News h₀ L s.heap ((c2, o2) :: (lA, tupObj (tri (cat (rl.reverse.take (i + 1))) x1 x2 x3)) :: (rA, tupObj (tri (cat (rl.reverse.drop (rl.length - 1 - i))) y1 y2 y3)) :: (B ++ extra)))
    (d2 : o2.data = .cell (some (.int (1 + (i : Int)) tk₀))) (eL : m "left" = some (.ref lA)) (eR : m "right" = some (.ref rA)) (eT : m "told" = some (.ref TA))
    (hQ : ∀ (h' : Heap) (k' : Nat) (lA rA : Addr) (x1 x2 x3 y1 y2 y3 : Tok), Fr h₀ L h' (fun y => if y = Str.ofString "left" then some (.ref lA) else if y = Str.ofString "right" then some (.ref rA) else m y) →
      News h₀ L h' ((c2, o2) :: (lA, tupObj (tri (cat (rl.reverse.take (i + 2))) x1 x2 x3)) :: (rA, tupObj (tri (cat (rl.reverse.drop (rl.length - 1 - (i + 1)))) y1 y2 y3)) :: (B ++ extra)) → lA ≠ c2 → rA ≠ c2 → (∀ p ∈ extra, p.1 ≠ lA ∧ p.1 ≠ rA) → Q .next { s with heap := h', toks := k' }) :
    wpC (model prog w) (callerA.deeper (lawE L a cd c1 c2 c3)) (execs loop5Body (lawE L a cd c1 c2 c3)) Q s := by
  have l2 := b.l2
  have l4 := b.l4
  have hlen := tss_len (rl := rl)
  have hrl : rl.reverse.length = rl.length := by simp
  have okr : ∀ r ∈ rl.reverse, r.Ok := fun r hr => b.ok r (by simpa using hr)
  have lenT : ∀ j, (cat (rl.reverse.take j)).length ≤ 64 := fun j => by
    have h1 := cat_len (l := rl.reverse.take j) fun r hr => okr r (List.mem_of_mem_take hr)
    have h2 : (rl.reverse.take j).length ≤ 4 := by rw [List.length_take]; omega
    omega
  have lenD : ∀ j, (cat (rl.reverse.drop j)).length ≤ 64 := fun j => by
    have h1 := cat_len (l := rl.reverse.drop j) fun r hr => okr r (List.mem_of_mem_drop hr)
    have h2 : (rl.reverse.drop j).length ≤ 4 := by rw [List.length_drop]; omega
    omega
  have lenR : ∀ j (hj : j < rl.reverse.length), (rl.reverse[j]).rs.length ≤ 64 := fun j hj => by
    have := (okr _ (List.getElem_mem hj)).l9
    unfold Rec.len at this
    omega
  have memR : ∀ j (hj : j < rl.reverse.length), ((rl.reverse[j]).tA, tupObj (tri (rl.reverse[j]).rs (rl.reverse[j]).tz (rl.reverse[j]).t1 (rl.reverse[j]).t2)) ∈ B := fun j hj => by
    have hm := List.getElem_mem hj
    rw [← o2_tri (okr _ hm)]
    exact (b.recs _ (by simpa using hm)).2
  have room : (callerA.deeper (lawE L a cd c1 c2 c3)).depth < recursionLimit := show callerA.depth + 1 < recursionLimit by decide
  show wpC _ _ (execs [_] _) _ _
  refine execs_any (assign2 (h₀ := h₀) rfl ?_)
  refine PyProof.Rows.args_cons (jn_ev room G K F ?_)
  refine PyProof.Rows.args_cons (nameX_L F eL ?_)
  refine PyProof.Rows.args_cons (Subscript_ (nameX_L F eT (nameX_C N rfl (.head _) d2 (item_L N (.tail _ (.tail _ (.tail _ (List.mem_append_left _ b.told)))) (by omega) (by omega) (by omega) (x := .ref (rl.reverse[i + 1]'(by omega)).tA) ?_ ?_))))
  · rw [if_pos (by omega), show (1 + (i : Int)).toNat = i + 1 by omega]
    exact tss_get (by omega)
  refine PyProof.Rows.args_nil ⟨_, _, _, _, _, _, _, _, _, _, _, _, rfl, F, N, .tail _ (.head _), .tail _ (.tail _ (.tail _ (List.mem_append_left _ (memR (i + 1) (by omega))))), lenT _, lenR _ (by omega), ?_⟩
  intro h1 r1A k1 z1 z2 z3 F1 N1 n1
  rw [← cat_take (l := rl.reverse) (i := i + 1) (by omega)] at N1
  refine PyProof.Rows.args_cons (jn_ev (s := { s with heap := h1, toks := k1 }) room G K F1 ?_)
  refine PyProof.Rows.args_cons (Subscript_ (nameX_L F1 eT (wpAny_BinOp (UnaryOp_ (wpAny_Constant_int (neg_int (nameX_C (s := { s with heap := h1, toks := k1 + 1 + 1 }) N1 rfl (.tail _ (.head _)) d2 (sub_int (item_L (s := { s with heap := h1, toks := k1 + 1 + 1 + 1 }) N1 (.tail _ (.tail _ (.tail _ (.tail _ (List.mem_append_left _ b.told))))) (by omega) (by omega) (by omega) (x := .ref (rl.reverse[rl.length - 2 - i]'(by omega)).tA) ?_ ?_)))))))))
  · rw [if_neg (by omega), show (-1 - (1 + (i : Int)) + ((tss rl).length : Int)).toNat = rl.length - 2 - i by omega]
    exact tss_get (by omega)
  refine PyProof.Rows.args_cons (nameX_L (s := { s with heap := h1, toks := k1 + 1 + 1 + 1 }) F1 eR ?_)
  refine PyProof.Rows.args_nil ⟨_, _, _, _, _, _, _, _, _, _, _, _, rfl, F1, N1, .tail _ (.tail _ (.tail _ (.tail _ (List.mem_append_left _ (memR (rl.length - 2 - i) (by omega)))))), .tail _ (.tail _ (.tail _ (.head _))), lenR _ (by omega), lenD _, ?_⟩
  intro h2 r2A k2 z1' z2' z3' F2 N2 n2
  have ed := cat_drop (l := rl.reverse) (i := rl.length - 2 - i) (by omega)
  rw [show rl.length - 2 - i + 1 = rl.length - 1 - i by omega] at ed
  rw [← ed, show rl.length - 2 - i = rl.length - 1 - (i + 1) by omega] at N2
  refine PyProof.Rows.args_nil ⟨_, _, _, _, rfl, F2, N2, fun h3 k3 F3 N3 => ?_⟩
  refine execs_nil_ (hQ h3 k3 r1A r2A z1 z2 z3 z1' z2' z3' F3 (news_sub N3 fun p hp => ?_) (Ne.symm (n1 (c2, o2) (.head _))) (Ne.symm (n2 (c2, o2) (.tail _ (.head _)))) fun p hp => ⟨n1 p (.tail _ (.tail _ (.tail _ (List.mem_append_right _ hp)))), n2 p (.tail _ (.tail _ (.tail _ (.tail _ (List.mem_append_right _ hp)))))⟩)
  rcases List.mem_cons.mp hp with rfl | hp
  · exact .tail _ (.tail _ (.head _))
  rcases List.mem_cons.mp hp with rfl | hp
  · exact .tail _ (.head _)
  rcases List.mem_cons.mp hp with rfl | hp
  · exact .head _
  · exact .tail _ (.tail _ (.tail _ (.tail _ (.tail _ hp))))
end
end Fl
end

section
open PySem.Calls
namespace Fl

def lawB7 : List Stmt := lawBody.drop 7

theorem Base.cons {B : List (Addr × Obj)} {c1 c2 dC PA QA TA : Addr} {o1 : Obj} {ws qs : List Value} {np nq nt : Nat} {ks : List Int} {rl : List Rec} (b : Base B c1 c2 dC PA QA TA o1 ws qs np nq nt ks rl) {x : Addr × Obj} (hx : x.1 ≠ c2) :
    Base (x :: B) c1 c2 dC PA QA TA o1 ws qs np nq nt ks rl :=
  ⟨.tail _ b.hc, b.d1, .tail _ b.hC, b.I, b.len, .tail _ b.parts, .tail _ b.places, .tail _ b.told, fun r hr => ⟨.tail _ (b.recs r hr).1, .tail _ (b.recs r hr).2⟩, (fun p hp => by
    rcases List.mem_cons.mp hp with rfl | hp
    · exact hx
    · exact b.no2 p hp), b.hq, b.ql, b.ok, b.l2, b.l4⟩

section
variable {prog : Program} {w : World} {A : Around} {E : Value → Shared → Prop} {s : Shared} {h₀ : Heap} {L a c1 c2 c3 : Addr} {cd : Value} {m mg mb : Str → Option Value} {news : List (Addr × Obj)} {cn : Str} {cs : Scope} {cl : List (Str × Addr)}

set_option maxHeartbeats 4000000 in
theorem law_s5 {B : List (Addr × Obj)} {dC PA QA TA : Addr} {o1 o2 : Obj} {v2 : Option Value} {ws qs : List Value} {np nq nt : Nat} {ks : List Int} {rl : List Rec} {Q : Flow → Shared → Prop}
    (G : Gl mg mb h₀) (K : FnOk mg h₀ "_law_joined" jnParams jnBody jnScope) (b : Base B c1 c2 dC PA QA TA o1 ws qs np nq nt ks rl) (F : Fr h₀ L s.heap m) (N : News h₀ L s.heap ((c2, o2) :: B)) (d2 : o2.data = .cell v2)
    (eP : m "parts" = some (.ref PA)) (eT : m "told" = some (.ref TA)) (eL : m "left" = some (.ref (rl.reverse[0]'(by have := b.l2; simp; omega)).tA)) (eR : m "right" = some (.ref (rl.reverse[rl.length - 1]'(by have := b.l2; simp; omega)).tA))
    (hQ : ∀ (h' : Heap) (k' : Nat) (lA rA : Addr) (x1 x2 x3 y1 y2 y3 : Tok) (m' : Str → Option Value), Fr h₀ L h' m' → News h₀ L h' ((lA, tupObj (tri (cat rl.reverse) x1 x2 x3)) :: (rA, tupObj (tri (cat rl.reverse) y1 y2 y3)) :: B) →
      lA ≠ c2 → rA ≠ c2 → m' "left" = some (.ref lA) → m' "right" = some (.ref rA) → (∀ y : Str, y ≠ "left" → y ≠ "right" → m' y = m y) →
      wpC (model prog w) (callerA.deeper (lawE L a cd c1 c2 c3)) (execs lawB6 (lawE L a cd c1 c2 c3)) Q { s with heap := h', toks := k' }) :
    wpC (model prog w) (callerA.deeper (lawE L a cd c1 c2 c3)) (execs lawB5 (lawE L a cd c1 c2 c3)) Q s := by
  have l2 := b.l2
  have l4 := b.l4
  have hrl : rl.reverse.length = rl.length := by simp
  have hpl := pss_len (rl := rl)
  have okr : ∀ r ∈ rl.reverse, r.Ok := fun r hr => b.ok r (by simpa using hr)
  have memR : ∀ j (hj : j < rl.reverse.length), ((rl.reverse[j]).tA, tupObj (tri (rl.reverse[j]).rs (rl.reverse[j]).tz (rl.reverse[j]).t1 (rl.reverse[j]).t2)) ∈ B := fun j hj => by
    have hm := List.getElem_mem hj
    rw [← o2_tri (okr _ hm)]
    exact (b.recs _ (by simpa using hm)).2
  have eT1 : cat (rl.reverse.take (0 + 1)) = (rl.reverse[0]'(by omega)).rs := by rw [cat_take (by omega)]; rfl
  have eD1 : cat (rl.reverse.drop (rl.length - 1 - 0)) = (rl.reverse[rl.length - 1]'(by omega)).rs := by
    rw [Nat.sub_zero, cat_drop (by omega), List.drop_of_length_le (by omega)]
    exact List.append_nil _
  obtain ⟨l0, p1, p2, p3, mem1, eL⟩ : ∃ l0 p1 p2 p3, (l0, tupObj (tri (cat (rl.reverse.take (0 + 1))) p1 p2 p3)) ∈ B ∧ m "left" = some (.ref l0) := by
    rw [eT1]; exact ⟨_, _, _, _, memR 0 (by omega), eL⟩
  obtain ⟨r0, p4, p5, p6, mem2, eR⟩ : ∃ l0 p1 p2 p3, (l0, tupObj (tri (cat (rl.reverse.drop (rl.length - 1 - 0))) p1 p2 p3)) ∈ B ∧ m "right" = some (.ref l0) := by
    rw [eD1]; exact ⟨_, _, _, _, memR (rl.length - 1) (by omega), eR⟩
  clear memR eT1 eD1
  show wpC _ _ (execs (_ :: lawB6) _) _ _
  refine execs_cons_ (For_ ?_)
  refine PyProof.Rows.Call_ (nmX_b F G (by decide) (by boot_by_name) (by decide) ?_)
  refine PyProof.Rows.callWith_type1 (PyProof.Rows.args_cons (wpAny_Constant_int (PyProof.Rows.args_cons (PyProof.Rows.Call_ (nmX_b (s := { s with toks := s.toks + 1 }) F G (by decide) (by boot_by_name) (by decide) ?_))))) (by rfl) (plain_cons plain_nil)
  refine PyProof.Rows.callWith_builtin1 (PyProof.Rows.args_cons (nameX_L (s := { s with toks := s.toks + 1 }) F eP (PyProof.Rows.args_nil (PySem.Calls.call_len_list (s := { s with toks := s.toks + 1 }) ⟨_, (N _ (.tail _ b.parts)).1, rfl, _, rfl⟩ (by simp; omega) ?_))))
  refine PyProof.Rows.args_nil (range2_rows (s := { s with toks := s.toks + 1 + 1 + 1 }) F N fun h1 tk1 t1 u1 v1 hR F1 N1 hk => ?_)
  rw [show (((pss rl).toArray.size : Nat) : Int) = (rl.length : Int) by simp [hpl]] at hR
  refine loop_rangeA (s := { s with heap := h1, toks := tk1 }) (n := rl.length - 1) (h₀ := h₀) (m := m) (news := (c2, o2) :: (l0, tupObj (tri (cat (rl.reverse.take (0 + 1))) p1 p2 p3)) :: (r0, tupObj (tri (cat (rl.reverse.drop (rl.length - 1 - 0))) p4 p5 p6)) :: B)
    (fun i m' nx => ∃ lA rA o2 v2 x1 x2 x3 y1 y2 y3, nx = (c2, o2) :: (lA, tupObj (tri (cat (rl.reverse.take (i + 1))) x1 x2 x3)) :: (rA, tupObj (tri (cat (rl.reverse.drop (rl.length - 1 - i))) y1 y2 y3)) :: B ∧ o2.data = .cell v2 ∧ lA ≠ c2 ∧ rA ≠ c2 ∧ m' "left" = some (.ref lA) ∧ m' "right" = some (.ref rA) ∧ ∀ y : Str, y ≠ "left" → y ≠ "right" → m' y = m y)
    rfl hR (small_one (by omega) (by omega) (by omega) (by omega)) (by rw [rangeSize_one, if_pos (by omega)]; omega) F1 (news_sub N1 fun p hp => ?_)
    ⟨l0, r0, o2, v2, p1, p2, p3, p4, p5, p6, rfl, d2, b.no2 _ mem1, b.no2 _ mem2, eL, eR, fun _ _ _ => rfl⟩ ?_ ?_
  · rcases List.mem_cons.mp hp with rfl | hp
    · exact .head _
    rcases List.mem_cons.mp hp with rfl | hp
    · exact .tail _ mem1
    rcases List.mem_cons.mp hp with rfl | hp
    · exact .tail _ mem2
    · exact .tail _ hp
  · rintro i tt m' nx h' tk' it hi ⟨lA, rA, o2', v2', x1, x2, x3, y1, y2, y3, rfl, d2', nl, nr, eL', eR', eo⟩ hn F' N'
    refine wpAny_assign_Name (storeC (keep := (lA, tupObj (tri (cat (rl.reverse.take (i + 1))) x1 x2 x3)) :: (rA, tupObj (tri (cat (rl.reverse.drop (rl.length - 1 - i))) y1 y2 y3)) :: (B ++ [it])) F' N' rfl (.head _) d2' (fun p hp => ⟨.tail _ hp, ?_⟩) fun h2 o2'' F2 N2 d2'' => ?_)
    · rcases List.mem_cons.mp hp with rfl | hp
      · exact nl
      rcases List.mem_cons.mp hp with rfl | hp
      · exact nr
      rcases List.mem_append.mp hp with hp | hp
      · exact b.no2 p hp
      · rw [List.mem_singleton.mp hp]
        exact Ne.symm (hn (c2, o2') (.head _))
    refine turn5 (s := { s with heap := h2, toks := tk' }) (extra := [it]) G K b (by omega) F2 N2 d2'' eL' eR' ((eo "told" (by decide) (by decide)).trans eT) ?_
    intro h3 k3 lA3 rA3 z1 z2 z3 z4 z5 z6 F3 N3 q1 q2 q3
    refine ⟨h3, k3, _, (c2, o2'') :: (lA3, tupObj (tri (cat (rl.reverse.take (i + 2))) z1 z2 z3)) :: (rA3, tupObj (tri (cat (rl.reverse.drop (rl.length - 1 - (i + 1)))) z4 z5 z6)) :: B, rfl, F3, N3, ?_, lA3, rA3, o2'', _, z1, z2, z3, z4, z5, z6, rfl, d2'', q1, q2, rfl, rfl, ?_⟩
    · intro p hp
      rcases List.mem_cons.mp hp with rfl | hp
      · exact hn (c2, o2') (.head _)
      rcases List.mem_cons.mp hp with rfl | hp
      · exact Ne.symm (q3 it (.head _)).1
      rcases List.mem_cons.mp hp with rfl | hp
      · exact Ne.symm (q3 it (.head _)).2
      · exact hn p (.tail _ (.tail _ (.tail _ hp)))
    · intro y h1 h2
      show (if y = Str.ofString "left" then _ else if y = Str.ofString "right" then _ else m' y) = m y
      rw [if_neg h1, if_neg h2]
      exact eo y h1 h2
  · rintro m' nx h' tk' ⟨lA, rA, o2', v2', x1, x2, x3, y1, y2, y3, rfl, d2', nl, nr, eL', eR', eo⟩ F' N'
    rw [show rl.length - 1 + 1 = rl.length by omega, show rl.length - 1 - (rl.length - 1) = 0 by omega, List.drop_zero, List.take_of_length_le (by omega)] at N'
    exact hQ h' tk' lA rA x1 x2 x3 y1 y2 y3 m' F' (news_tail N') nl nr eL' eR' eo
end
end Fl
end

section
open PySem.Calls
namespace Fl

section
variable {prog : Program} {w : World} {A : Around} {E : Value → Shared → Prop} {s : Shared} {h₀ : Heap} {L a c1 c2 c3 : Addr} {cd : Value} {m mg mb : Str → Option Value} {news : List (Addr × Obj)} {cn : Str} {cs : Scope} {cl : List (Str × Addr)}

theorem cat_oct {l : List Rec} (h : ∀ r ∈ l, r.Ok) : ∀ x ∈ cat l, 0 ≤ x ∧ x < 256 := by
  intro x hx
  obtain ⟨r, hr, hx⟩ := List.mem_flatMap.mp hx
  exact (h r hr).oct x hx

theorem law_s6 {B : List (Addr × Obj)} {dC PA QA TA wA : Addr} {o1 : Obj} {ws qs : List Value} {np nq nt n0 : Nat} {ks : List Int} {rl : List Rec} {Q : Flow → Shared → Prop}
    (b : Base B c1 c2 dC PA QA TA o1 ws qs np nq nt ks rl) (F : Fr h₀ L s.heap m) (N : News h₀ L s.heap ((wA, W.listOf [].toArray n0) :: B))
    (eP : m "parts" = some (.ref PA)) (eW : m "row" = some (.ref wA))
    (hQ : ∀ (h' : Heap) (k' : Nat) (wA : Addr) (wl : List Value) (n0 : Nat) (m' : Str → Option Value), Fr h₀ L h' m' → News h₀ L h' ((wA, W.listOf wl.toArray n0) :: B) → IntsAre wl (cat rl.reverse) →
      m' "row" = some (.ref wA) → (∀ y : Str, y ≠ "part" → y ≠ "row" → m' y = m y) →
      wpC (model prog w) (callerA.deeper (lawE L a cd c1 c2 c3)) (execs lawB7 (lawE L a cd c1 c2 c3)) Q { s with heap := h', toks := k' }) :
    wpC (model prog w) (callerA.deeper (lawE L a cd c1 c2 c3)) (execs lawB6 (lawE L a cd c1 c2 c3)) Q s := by
  have l2 := b.l2
  have l4 := b.l4
  have hrl : rl.reverse.length = rl.length := by simp
  have hpl := pss_len (rl := rl)
  have okr : ∀ r ∈ rl.reverse, r.Ok := fun r hr => b.ok r (by simpa using hr)
  have lenT : ∀ j, (cat (rl.reverse.take j)).length ≤ 64 := fun j => by
    have h1 := cat_len (l := rl.reverse.take j) fun r hr => okr r (List.mem_of_mem_take hr)
    have h2 : (rl.reverse.take j).length ≤ 4 := by rw [List.length_take]; omega
    omega
  show wpC _ _ (execs (_ :: lawB7) _) _ _
  refine execs_cons_ (For_ ?_)
  refine nameX_L F eP ?_
  refine loop_list (h₀ := h₀) (m := m) (vs := pss rl) (news := (wA, W.listOf [].toArray n0) :: B)
    (fun i m' nx => ∃ wA wl n0, nx = (wA, W.listOf wl.toArray n0) :: B ∧ IntsAre wl (cat (rl.reverse.take i)) ∧ m' "row" = some (.ref wA) ∧ ∀ y : Str, y ≠ "part" → y ≠ "row" → m' y = m y)
    rfl rfl rfl F N ⟨wA, [], n0, rfl, .nil, eW, fun _ _ _ => rfl⟩ ?_ ?_ ?_
  · rintro i m' nx h' ⟨wA, wl, n0, rfl, _⟩ F' N'
    exact ⟨_, (N' _ (.tail _ b.parts)).1, rfl, _, rfl⟩
  · rintro i v m' nx h' tk it hv ⟨wA, wl, n0, rfl, hI, eW', eo⟩ hn F' N'
    have hi : i < rl.length := by
      rw [← hpl]; exact (List.getElem?_eq_some_iff.mp hv).1
    have hr := List.getElem_mem (l := rl.reverse) (n := i) (by omega)
    rw [pss_get hi] at hv
    cases hv
    generalize hrr : rl.reverse[i]'(by omega) = r at hr F'
    have hm := b.recs r (by simpa using hr)
    have ok := okr r hr
    have l9 := ok.l9
    unfold Rec.len at l9
    have lT := lenT i
    show wpC _ _ (execs [_] _) _ _
    refine execs_any (wpAny_Assign_Name (wpAny_BinOp (nameX_L F' (v := .ref wA) (by show (if Str.ofString "row" = Str.ofString "part" then _ else _) = _; rw [if_neg (by decide)]; exact eW') (nameX_L F' (v := .ref r.pA) (if_pos rfl)
      (add_lists_ints F' N' ⟨_, (N' _ (.head _)).1, rfl, _, rfl⟩ ⟨_, (N' _ (.tail _ (List.mem_append_left _ hm.1))).1, rfl, _, rfl⟩ hI ok.are (fun h2 F2 N2 hI2 => ?_) (by rw [sizeLine_eq]; omega))))))
    refine storeX_L F2 N2 fun h3 F3 N3 => ?_
    refine execs_nil_ ⟨h3, _, _, (h'.objs.size, W.listOf (wl ++ r.wl).toArray 0) :: B, rfl, F3, news_sub N3 fun p hp => ?_, ?_, h'.objs.size, _, 0, rfl, ?_, rfl, ?_⟩
    · rcases List.mem_cons.mp hp with rfl | hp
      · exact .head _
      · exact .tail _ (.tail _ hp)
    · intro p hp
      rcases List.mem_cons.mp hp with rfl | hp
      · exact Ne.symm (new_ne N' it (.tail _ (List.mem_append_right _ (.head _))))
      · exact hn p (.tail _ hp)
    · rw [cat_take (by omega), hrr]; exact hI2
    · intro y h1 h2
      show (if y = Str.ofString "row" then _ else if y = Str.ofString "part" then _ else m' y) = m y
      rw [if_neg h2, if_neg h1]
      exact eo y h1 h2
  · rintro m' nx h' tk ⟨wA, wl, n0, rfl, hI, eW', eo⟩ F' N'
    rw [hpl, List.take_of_length_le (by omega)] at hI
    exact hQ h' tk wA wl n0 m' F' N' hI eW' eo
end
end Fl
end

section
open PySem.Calls
namespace Fl

theorem cat_rev_cons (r : Rec) (rl : List Rec) : cat (r :: rl).reverse = cat rl.reverse ++ r.rs := by
  rw [List.reverse_cons, cat_append, cat_one]
theorem lens_sum (rl : List Rec) : (lens rl).sum = ((cat rl.reverse).length : Int) := by
  induction rl with
  | nil => rfl
  | cons r rl ih =>
    have e : lens (r :: rl) = lens rl ++ [r.len] := by simp [lens]
    rw [e, List.sum_append, ih, cat_rev_cons, List.length_append]
    unfold Rec.len
    simp
theorem pls_length (rl : List Rec) : (pls rl).length = rl.length := by
  induction rl with
  | nil => rfl
  | cons r rl ih => show (pls rl ++ [_]).length = _; rw [List.length_append, ih]; rfl
/-- each place of the whole row has two zeros -/
theorem pls_ok {rl : List Rec} (h : ∀ r ∈ rl, r.Ok) : ∀ p ∈ pls rl, 0 ≤ p ∧ p + 2 ≤ (cat rl.reverse).length ∧ (cat rl.reverse).getD p.toNat 0 = 0 ∧ (cat rl.reverse).getD (p + 1).toNat 0 = 0 := by
  induction rl with
  | nil => intro p hp; cases hp
  | cons r rl ih =>
    have a := ih fun x hx => h x (.tail _ hx)
    have ok := h r (.head _)
    have p0 := ok.p0
    have p1 := ok.p1
    have z0 := ok.z0
    have z1 := ok.z1
    unfold Rec.len at p1
    intro p hp
    rw [cat_rev_cons, List.length_append]
    rcases List.mem_append.mp hp with hp | hp
    · obtain ⟨q0, q1, q2, q3⟩ := a p hp
      refine ⟨q0, by omega, ?_, ?_⟩
      · rw [List.getD_eq_getElem?_getD, List.getElem?_append_left (by omega), ← List.getD_eq_getElem?_getD]; exact q2
      · rw [List.getD_eq_getElem?_getD, List.getElem?_append_left (by omega), ← List.getD_eq_getElem?_getD]; exact q3
    · rw [List.mem_singleton.mp hp, lens_sum]
      refine ⟨by omega, by omega, ?_, ?_⟩
      · rw [List.getD_eq_getElem?_getD, List.getElem?_append_right (by omega), ← List.getD_eq_getElem?_getD, ← z0]
        congr 1; omega
      · rw [List.getD_eq_getElem?_getD, List.getElem?_append_right (by omega), ← List.getD_eq_getElem?_getD, ← z1]
        congr 1; omega

section
variable {prog : Program} {w : World} {A : Around} {E : Value → Shared → Prop} {s : Shared} {h₀ : Heap} {L a c1 c2 c3 : Addr} {cd : Value} {m mg mb : Str → Option Value} {news : List (Addr × Obj)} {cn : Str} {cs : Scope} {cl : List (Str × Addr)}

/-- a call of the checksum -/
theorem fl_ev {e1 e2 : PySem.Expr} {p1 p4 : Pos} {Q : Value → Shared → Prop} (hg : A.guards = some []) (hh : A.handled = none) (hroom : A.depth < recursionLimit) (G : Gl mg mb h₀) (K : FlOk mg h₀) (F : Fr h₀ L s.heap m)
    (h : wpAny (model prog w) A (spliced (backTo p4 (starEach [e1, e2] (envX cn cs L a cd cl)))) (fun vs s₁ => ∃ v rs PL tp m1 news, vs = [v, .int PL tp] ∧ Fr h₀ L s₁.heap m1 ∧ News h₀ L s₁.heap news ∧ Src s₁.heap v rs ∧ (∀ x ∈ rs, 0 ≤ x ∧ x < 256) ∧ rs.length ≤ 64 ∧ 0 ≤ PL ∧ PL + 2 ≤ rs.length ∧
      ∀ h' t' k', Fr h₀ L h' m1 → News h₀ L h' news → Q (.int (flet rs PL) t') { s₁ with heap := h', toks := k' }) (fun _ _ => False) s)
    (hk : cs.kind = .function := by rfl) (hx : (envX cn cs L a cd cl).kindOf "fletcher_checksum" = some .globalImplicit := by rfl)
    (he1 : starEach [e1, e2] (envX cn cs L a cd cl) = (false, eval e1 (envX cn cs L a cd cl)) :: starEach [e2] (envX cn cs L a cd cl) := by rfl)
    (he2 : starEach [e2] (envX cn cs L a cd cl) = (false, eval e2 (envX cn cs L a cd cl)) :: starEach [] (envX cn cs L a cd cl) := by rfl)
    (hc : eval (.Call (.Name "fletcher_checksum" p1) [e1, e2] [] p4) (envX cn cs L a cd cl) = (do callWith p4 (← eval (.Name "fletcher_checksum" p1) (envX cn cs L a cd cl)) [] (backTo p4 (starEach [e1, e2] (envX cn cs L a cd cl))) []) := by rfl) :
    wpC (model prog w) A (eval (.Call (.Name "fletcher_checksum" p1) [e1, e2] [] p4) (envX cn cs L a cd cl)) Q s := by
  obtain ⟨f, o, pm, code, doc, g1, g2, g3, g4⟩ := K.at'
  refine Fl.Call_ (ldX_global F G g1 ?_ hk hx) hc
  refine callWith_ (.inl rfl) (any (wpAny_mono h (fun vs s₁ h₁ => ?_) fun _ _ e => e)) he1 (plain_cons plain_nil he2)
  obtain ⟨v, rs, PL, tp, m1, news, rfl, F1, N1, S, ho, hlen, q0, q1, hQ⟩ := h₁
  refine ⟨keeper_func (F1.keep _ _ g2) g3, fl_call hg hh hroom (G.base F1) (F1.keep _ _ g2) g3 (g4.keeps F1.keep) S ho hlen q0 q1 fun h' t' k' hk => ?_⟩
  exact hQ h' t' k' (F1.after hk) fun p hp => ⟨hk _ _ (N1 p hp).1, (N1 p hp).2⟩

/-- a call of _law_check -/
theorem ck_ev {e1 e2 e3 e4 : PySem.Expr} {p1 p4 : Pos} {Q : Value → Shared → Prop} (hroom : A.depth < recursionLimit) (G : Gl mg mb h₀) (K : FnOk mg h₀ "_law_check" ckParams ckBody ckScope) (F : Fr h₀ L s.heap m)
    (h : wpAny (model prog w) A (spliced (backTo p4 (starEach [e1, e2, e3, e4] (envX cn cs L a cd cl)))) (fun vs s₁ => ∃ x y n p tx ty tn tp m1 news, vs = [.int x tx, .int y ty, .int n tn, .int p tp] ∧ Fr h₀ L s₁.heap m1 ∧ News h₀ L s₁.heap news ∧ (0 ≤ x ∧ x < 255) ∧ (0 ≤ y ∧ y < 255) ∧ n ≤ 64 ∧ 0 ≤ p ∧ p + 2 ≤ n ∧
      ∀ h' t' k', Fr h₀ L h' m1 → News h₀ L h' news → Q (.int (chk n p x y) t') { s₁ with heap := h', toks := k' }) (fun _ _ => False) s)
    (hk : cs.kind = .function := by rfl) (hx : (envX cn cs L a cd cl).kindOf "_law_check" = some .globalImplicit := by rfl)
    (he1 : starEach [e1, e2, e3, e4] (envX cn cs L a cd cl) = (false, eval e1 (envX cn cs L a cd cl)) :: starEach [e2, e3, e4] (envX cn cs L a cd cl) := by rfl)
    (he2 : starEach [e2, e3, e4] (envX cn cs L a cd cl) = (false, eval e2 (envX cn cs L a cd cl)) :: starEach [e3, e4] (envX cn cs L a cd cl) := by rfl)
    (he3 : starEach [e3, e4] (envX cn cs L a cd cl) = (false, eval e3 (envX cn cs L a cd cl)) :: starEach [e4] (envX cn cs L a cd cl) := by rfl)
    (he4 : starEach [e4] (envX cn cs L a cd cl) = (false, eval e4 (envX cn cs L a cd cl)) :: starEach [] (envX cn cs L a cd cl) := by rfl)
    (hc : eval (.Call (.Name "_law_check" p1) [e1, e2, e3, e4] [] p4) (envX cn cs L a cd cl) = (do callWith p4 (← eval (.Name "_law_check" p1) (envX cn cs L a cd cl)) [] (backTo p4 (starEach [e1, e2, e3, e4] (envX cn cs L a cd cl))) []) := by rfl) :
    wpC (model prog w) A (eval (.Call (.Name "_law_check" p1) [e1, e2, e3, e4] [] p4) (envX cn cs L a cd cl)) Q s := by
  obtain ⟨f, o, pm, code, doc, g1, g2, g3, g4⟩ := K
  refine Fl.Call_ (ldX_global F G g1 ?_ hk hx) hc
  refine callWith_ (.inl rfl) (any (wpAny_mono h (fun vs s₁ h₁ => ?_) fun _ _ e => e)) he1 (plain_cons (plain_cons (plain_cons plain_nil he4) he3) he2)
  obtain ⟨x, y, n, p, tx, ty, tn, tp, m1, news, rfl, F1, N1, hx, hy, hn, q0, q1, hQ⟩ := h₁
  refine ⟨keeper_func (F1.keep _ _ g2) g3, ck_call hroom (G.base F1).nolimit (F1.keep _ _ g2) g3 (g4.keeps F1.keep) hx.1 hx.2 hy.1 hy.2 hn q0 q1 fun h' t' k' hk => ?_⟩
  exact hQ h' t' k' (F1.after hk) fun p hp => ⟨hk _ _ (N1 p hp).1, (N1 p hp).2⟩
end
end Fl
end

section
open PySem.Calls
namespace Fl

def lawB8 : List Stmt := lawBody.drop 8
def lawB9 : List Stmt := lawBody.drop 9

/-- what stands when the row is whole -/
structure Late (h₀ : Heap) (L : Addr) (h : Heap) (m : Str → Option Value) (B : List (Addr × Obj)) (Z : List Int) (wA lA rA QA : Addr) (wl : List Value) (n0 : Nat) (x1 x2 x3 y1 y2 y3 : Tok) : Prop where
  F : Fr h₀ L h m
  N : News h₀ L h ((wA, W.listOf wl.toArray n0) :: (lA, tupObj (tri Z x1 x2 x3)) :: (rA, tupObj (tri Z y1 y2 y3)) :: B)
  I : IntsAre wl Z
  eW : m "row" = some (.ref wA)
  eL : m "left" = some (.ref lA)
  eR : m "right" = some (.ref rA)
  eQ : m "places" = some (.ref QA)

theorem Late.set {h₀ h h' : Heap} {L : Addr} {m : Str → Option Value} {B : List (Addr × Obj)} {Z : List Int} {wA lA rA QA : Addr} {wl : List Value} {n0 : Nat} {x1 x2 x3 y1 y2 y3 : Tok} {x : Str} {v : Value} (l : Late h₀ L h m B Z wA lA rA QA wl n0 x1 x2 x3 y1 y2 y3)
    (F : Fr h₀ L h' (fun y => if y = x then some v else m y)) (N : News h₀ L h' ((wA, W.listOf wl.toArray n0) :: (lA, tupObj (tri Z x1 x2 x3)) :: (rA, tupObj (tri Z y1 y2 y3)) :: B))
    (n1 : Str.ofString "row" ≠ x) (n2 : Str.ofString "left" ≠ x) (n3 : Str.ofString "right" ≠ x) (n4 : Str.ofString "places" ≠ x) : Late h₀ L h' (fun y => if y = x then some v else m y) B Z wA lA rA QA wl n0 x1 x2 x3 y1 y2 y3 :=
  ⟨F, N, l.I, (if_neg n1).trans l.eW, (if_neg n2).trans l.eL, (if_neg n3).trans l.eR, (if_neg n4).trans l.eQ⟩

section
variable {prog : Program} {w : World} {A : Around} {E : Value → Shared → Prop} {s : Shared} {h₀ : Heap} {L a c1 c2 c3 : Addr} {cd : Value} {m mg mb : Str → Option Value} {news : List (Addr × Obj)} {cn : Str} {cs : Scope} {cl : List (Str × Addr)}

theorem law_s7 {B : List (Addr × Obj)} {dC PA QA TA wA lA rA : Addr} {o1 : Obj} {ws qs wl : List Value} {np nq nt n0 : Nat} {ks : List Int} {rl : List Rec} {x1 x2 x3 y1 y2 y3 : Tok} {Q : Flow → Shared → Prop}
    (G : Gl mg mb h₀) (K : FlOk mg h₀) (b : Base B c1 c2 dC PA QA TA o1 ws qs np nq nt ks rl) (l : Late h₀ L s.heap m B (cat rl.reverse) wA lA rA QA wl n0 x1 x2 x3 y1 y2 y3)
    (hQ : ∀ (h' : Heap) (k' : Nat) (m' : Str → Option Value), Late h₀ L h' m' B (cat rl.reverse) wA lA rA QA wl n0 x1 x2 x3 y1 y2 y3 → (∀ y : Str, y ≠ "moved" → m' y = m y) →
      wpC (model prog w) (callerA.deeper (lawE L a cd c1 c2 c3)) (execs lawB9 (lawE L a cd c1 c2 c3)) Q { s with heap := h', toks := k' }) :
    wpC (model prog w) (callerA.deeper (lawE L a cd c1 c2 c3)) (execs lawB7 (lawE L a cd c1 c2 c3)) Q s := by
  have l2 := b.l2
  have l4 := b.l4
  have hql := b.ql
  have hpl := pls_length rl
  have hql' := b.hq.length
  have okr : ∀ r ∈ rl.reverse, r.Ok := fun r hr => b.ok r (by simpa using hr)
  have hoct := cat_oct okr
  have hlen : (cat rl.reverse).length ≤ 64 := by have := cat_len okr; simp at this; omega
  have hpk := pls_ok b.ok
  have hfl : ∀ p ∈ pls rl, flet (cat rl.reverse) p = fletOf (cat rl.reverse).length p (r0 (cat rl.reverse)) (r1 (cat rl.reverse)) := fun p hp => by
    obtain ⟨q0, q1, q2, q3⟩ := hpk p hp
    rw [flet_res q0 (by omega) q2 q3, chk_flet (r0_range _)]
  obtain ⟨p, tp, hp, hpm⟩ : ∃ p t, qs[0]? = some (.int p t) ∧ p ∈ pls rl := by
    have e : qs[0]? = some (qs[0]'(by omega)) := List.getElem?_eq_getElem (by omega)
    obtain ⟨n, t, e1, e2⟩ := b.hq.at _ _ e
    exact ⟨n, t, by rw [e, e1], List.mem_of_getElem? e2⟩
  obtain ⟨q, tq, hq, hqm⟩ : ∃ p t, qs[qs.length - 1]? = some (.int p t) ∧ p ∈ pls rl := by
    have e : qs[qs.length - 1]? = some (qs[qs.length - 1]'(by omega)) := List.getElem?_eq_getElem (by omega)
    obtain ⟨n, t, e1, e2⟩ := b.hq.at _ _ e
    exact ⟨n, t, by rw [e, e1], List.mem_of_getElem? e2⟩
  obtain ⟨p0, p1, _⟩ := hpk p hpm
  obtain ⟨q0, q1, _⟩ := hpk q hqm
  have hmv := moved_law (n := (cat rl.reverse).length) (p := p) (q := q) (r0_range (cat rl.reverse)) (r1_range (cat rl.reverse))
  rw [← hfl p hpm, ← hfl q hqm] at hmv
  have rr := r0_range (cat rl.reverse)
  have room : (callerA.deeper (lawE L a cd c1 c2 c3)).depth < recursionLimit := show callerA.depth + 1 < recursionLimit by decide
  have hmQ : (QA, W.listOf qs.toArray nq) ∈ (wA, W.listOf wl.toArray n0) :: (lA, tupObj (tri (cat rl.reverse) x1 x2 x3)) :: (rA, tupObj (tri (cat rl.reverse) y1 y2 y3)) :: B := .tail _ (.tail _ (.tail _ b.places))
  have F := l.F
  have N := l.N
  show wpC _ _ (execs (_ :: lawB8) _) _ _
  refine execs_cons_ (Fl.Assign_ (Fl.BinOp_ (Fl.BinOp_ (Fl.BinOp_ (fl_ev rfl rfl room G K F ?_)))))
  refine PyProof.Rows.args_cons (nameX_L F l.eW (PyProof.Rows.args_cons (sub_L F N l.eQ hmQ (by omega) (by omega) (by omega) hp fun tk1 => PyProof.Rows.args_nil ?_)))
  refine ⟨_, _, _, _, _, _, rfl, F, N, src_list ⟨_, (N _ (.head _)).1, rfl, _, rfl⟩ l.I hoct (by omega), hoct, hlen, p0, by omega, fun h1 t1 k1 F1 N1 => ?_⟩
  refine any (wpAny_Constant_int (floordiv_int (by decide) ?_ (Or.inl (PyProof.noPylong_small (by decide)))))
  refine Fl.BinOp_ (fl_ev (s := { s with heap := h1, toks := k1 + 1 + 1 }) rfl rfl room G K F1 ?_)
  refine PyProof.Rows.args_cons (nameX_L (s := { s with heap := h1, toks := k1 + 1 + 1 }) F1 l.eW (PyProof.Rows.args_cons (sub_Lneg (s := { s with heap := h1, toks := k1 + 1 + 1 }) F1 N1 l.eQ hmQ (by omega) (by omega) hq fun tk2 => PyProof.Rows.args_nil ?_)))
  refine ⟨_, _, _, _, _, _, rfl, F1, N1, src_list ⟨_, (N1 _ (.head _)).1, rfl, _, rfl⟩ l.I hoct (by omega), hoct, hlen, q0, by omega, fun h2 t2 k2 F2 N2 => ?_⟩
  refine any (wpAny_Constant_int (floordiv_int (by decide) (sub_int ?_) (Or.inl (PyProof.noPylong_small (by decide)))))
  refine any (wpAny_Constant_int (mod_int' (by decide) ?_))
  rw [hmv]
  refine storeX_L (s := { s with heap := h2, toks := k2 + 1 + 1 + 1 + 1 + 1 }) F2 N2 fun h3 F3 N3 => ?_
  have l3 := l.set F3 N3 (by decide) (by decide) (by decide) (by decide)
  show wpC _ _ (execs (_ :: lawB9) _) _ _
  refine execs_cons_ (Fl.If_ (isTrueCompare_ ?_))
  refine any (nameX_L F3 (if_pos rfl) ?_)
  refine any (wpAny_BinOp (wpAny_BinOp (wpAny_BinOp ?_)))
  refine sub_Lneg F3 N3 l3.eQ hmQ (by omega) (by omega) hq fun tk4 => ?_
  refine sub_L (s := { s with heap := h3, toks := tk4 }) F3 N3 l3.eQ hmQ (by omega) (by omega) (by omega) hp fun tk5 => ?_
  refine sub_int ?_
  refine sub_T (s := { s with heap := h3, toks := tk5 + 1 }) (its := tri (cat rl.reverse) x1 x2 x3) (j := 1) F3 N3 l3.eL (.tail _ (.head _)) (by decide) (by decide) rfl rfl fun tk6 => ?_
  refine mul_int ?_ (.of_right (intBits_le_64 (by omega) (by omega)))
  refine wpAny_Constant_int (mod_int' (by decide) (ne_int (wpAny_truthy_bool ?_)))
  have e : (((q - p) * r0 (cat rl.reverse)).fmod 255 != ((q - p) * r0 (cat rl.reverse)).fmod 255) = false := by simp
  rw [e]
  exact execs_nil_ (hQ h3 _ _ l3 fun y hy => if_neg hy)
end
end Fl
end

section
open PySem.Calls
namespace Fl

def lawB10 : List Stmt := lawBody.drop 10

section
variable {prog : Program} {w : World} {A : Around} {E : Value → Shared → Prop} {s : Shared} {h₀ : Heap} {L a c1 c2 c3 : Addr} {cd : Value} {m mg mb : Str → Option Value} {news : List (Addr × Obj)} {cn : Str} {cs : Scope} {cl : List (Str × Addr)}

theorem law_s9 {B : List (Addr × Obj)} {dC PA QA TA wA lA rA : Addr} {o1 : Obj} {ws qs wl : List Value} {np nq nt n0 : Nat} {ks : List Int} {rl : List Rec} {x1 x2 x3 y1 y2 y3 : Tok} {Q : Flow → Shared → Prop}
    (G : Gl mg mb h₀) (K : FlOk mg h₀) (K2 : FnOk mg h₀ "_law_check" ckParams ckBody ckScope) (b : Base B c1 c2 dC PA QA TA o1 ws qs np nq nt ks rl) (l : Late h₀ L s.heap m B (cat rl.reverse) wA lA rA QA wl n0 x1 x2 x3 y1 y2 y3)
    (hQ : ∀ (h' : Heap) (k' : Nat) (m' : Str → Option Value), Late h₀ L h' m' B (cat rl.reverse) wA lA rA QA wl n0 x1 x2 x3 y1 y2 y3 → (∀ y : Str, y ≠ "place" → m' y = m y) →
      wpC (model prog w) (callerA.deeper (lawE L a cd c1 c2 c3)) (execs lawB10 (lawE L a cd c1 c2 c3)) Q { s with heap := h', toks := k' }) :
    wpC (model prog w) (callerA.deeper (lawE L a cd c1 c2 c3)) (execs lawB9 (lawE L a cd c1 c2 c3)) Q s := by
  have l2 := b.l2
  have l4 := b.l4
  have okr : ∀ r ∈ rl.reverse, r.Ok := fun r hr => b.ok r (by simpa using hr)
  have hoct := cat_oct okr
  have hlen : (cat rl.reverse).length ≤ 64 := by have := cat_len okr; simp at this; omega
  have hpk := pls_ok b.ok
  have rr := r0_range (cat rl.reverse)
  have rr1 := r1_range (cat rl.reverse)
  have room : (callerA.deeper (lawE L a cd c1 c2 c3)).depth < recursionLimit := show callerA.depth + 1 < recursionLimit by decide
  show wpC _ _ (execs (_ :: lawB10) _) _ _
  refine execs_cons_ (For_ ?_)
  refine nameX_L l.F l.eQ ?_
  refine loop_list (h₀ := h₀) (m := m) (vs := qs) (news := (wA, W.listOf wl.toArray n0) :: (lA, tupObj (tri (cat rl.reverse) x1 x2 x3)) :: (rA, tupObj (tri (cat rl.reverse) y1 y2 y3)) :: B)
    (fun i m' nx => nx = (wA, W.listOf wl.toArray n0) :: (lA, tupObj (tri (cat rl.reverse) x1 x2 x3)) :: (rA, tupObj (tri (cat rl.reverse) y1 y2 y3)) :: B ∧ ∀ y : Str, y ≠ "place" → m' y = m y)
    rfl rfl rfl l.F l.N ⟨rfl, fun _ _ => rfl⟩ ?_ ?_ ?_
  · rintro i m' nx h' ⟨rfl, _⟩ F' N'
    exact ⟨_, (N' _ (.tail _ (.tail _ (.tail _ b.places)))).1, rfl, _, rfl⟩
  · rintro i v m' nx h' tk it hv ⟨rfl, eo⟩ hn F' N'
    obtain ⟨p, tp, rfl, hp⟩ := b.hq.at _ _ hv
    obtain ⟨p0, p1, p2, p3⟩ := hpk p (List.mem_of_getElem? hp)
    have hfl := flet_res p0 (by omega) p2 p3
    have eW : (fun y => if y = Str.ofString "place" then some (Value.int p tp) else m' y) "row" = some (.ref wA) := (if_neg (by decide)).trans ((eo _ (by decide)).trans l.eW)
    have eL : (fun y => if y = Str.ofString "place" then some (Value.int p tp) else m' y) "left" = some (.ref lA) := (if_neg (by decide)).trans ((eo _ (by decide)).trans l.eL)
    have eP : (fun y => if y = Str.ofString "place" then some (Value.int p tp) else m' y) "place" = some (.int p tp) := if_pos rfl
    have eo2 : ∀ y : Str, y ≠ "place" → (fun y => if y = Str.ofString "place" then some (Value.int p tp) else m' y) y = m y := fun y hy => (if_neg hy).trans (eo y hy)
    revert F' eW eL eP eo2
    generalize (fun y => if y = Str.ofString "place" then some (Value.int p tp) else m' y) = m2
    intro F' eW eL eP eo2
    show wpC _ _ (execs [_] _) _ _
    refine execs_cons_ (Fl.If_ (isTrueCompare_ (fl_ev (s := { s with heap := h', toks := tk }) rfl rfl room G K F' ?_)))
    refine PyProof.Rows.args_cons (nameX_L (s := { s with heap := h', toks := tk }) F' eW (PyProof.Rows.args_cons (nameX_L (s := { s with heap := h', toks := tk }) F' eP (PyProof.Rows.args_nil ?_))))
    refine ⟨_, _, _, _, _, _, rfl, F', N', src_list ⟨_, (N' _ (.head _)).1, rfl, _, rfl⟩ l.I hoct (by omega), hoct, hlen, p0, by omega, fun h1 t1 k1 F1 N1 => ?_⟩
    refine ck_ev (s := { s with heap := h1, toks := k1 }) room G K2 F1 ?_
    refine PyProof.Rows.args_cons (sub_T (s := { s with heap := h1, toks := k1 }) (its := tri (cat rl.reverse) x1 x2 x3) (j := 1) F1 N1 eL (.tail _ (.head _)) (by decide) (by decide) rfl rfl fun tk2 => ?_)
    refine PyProof.Rows.args_cons (sub_T (s := { s with heap := h1, toks := tk2 }) (its := tri (cat rl.reverse) x1 x2 x3) (j := 2) F1 N1 eL (.tail _ (.head _)) (by decide) (by decide) rfl rfl fun tk3 => ?_)
    refine PyProof.Rows.args_cons (sub_T (s := { s with heap := h1, toks := tk3 }) (its := tri (cat rl.reverse) x1 x2 x3) (j := 0) F1 N1 eL (.tail _ (.head _)) (by decide) (by decide) rfl rfl fun tk4 => ?_)
    refine PyProof.Rows.args_cons (nameX_L (s := { s with heap := h1, toks := tk4 }) F1 eP (PyProof.Rows.args_nil ?_))
    refine ⟨_, _, _, _, _, _, _, _, _, _, rfl, F1, N1, rr, rr1, by omega, p0, by omega, fun h2 t2 k2 F2 N2 => ?_⟩
    refine ne_int (wpAny_truthy_bool ?_)
    rw [hfl]
    have e : (chk (cat rl.reverse).length p (r0 (cat rl.reverse)) (r1 (cat rl.reverse)) != chk (cat rl.reverse).length p (r0 (cat rl.reverse)) (r1 (cat rl.reverse))) = false := by simp
    rw [e]
    exact execs_nil_ (execs_nil_ ⟨h2, _, m2, _, rfl, F2, N2, hn, rfl, eo2⟩)
  · rintro m' nx h' tk ⟨rfl, eo⟩ F' N'
    exact hQ h' tk m' ⟨F', N', l.I, (eo _ (by decide)).trans l.eW, (eo _ (by decide)).trans l.eL, (eo _ (by decide)).trans l.eR, (eo _ (by decide)).trans l.eQ⟩ eo
end
end Fl
end

section
open PySem.Calls
namespace Fl

def lawB13 : List Stmt := lawBody.drop 13
def lawB14 : List Stmt := lawBody.drop 14

theorem chk_front {Z : List Int} {o p : Int} (p0 : 0 ≤ p) (p1 : p + 2 ≤ Z.length) (h0 : Z.getD p.toNat 0 = 0) (h1 : Z.getD (p + 1).toNat 0 = 0) :
    flet ([o] ++ Z) (1 + p) = chk ([o] ++ Z).length (1 + p) (r0 ([o] ++ Z)) (r1 ([o] ++ Z)) := by
  refine flet_res (by omega) (by rw [List.length_append]; show _ ≤ ((1 + Z.length : Nat) : Int); omega) ?_ ?_
  · rw [show (1 + p).toNat = p.toNat + 1 by omega]; exact h0
  · rw [show (1 + p + 1).toNat = (p + 1).toNat + 1 by omega]; exact h1
theorem chk_back {Z : List Int} {o p : Int} (p0 : 0 ≤ p) (p1 : p + 2 ≤ Z.length) (h0 : Z.getD p.toNat 0 = 0) (h1 : Z.getD (p + 1).toNat 0 = 0) :
    flet (Z ++ [o]) p = chk (Z ++ [o]).length p (r0 (Z ++ [o])) (r1 (Z ++ [o])) := by
  refine flet_res (by omega) (by rw [List.length_append]; omega) ?_ ?_
  · rw [List.getD_eq_getElem?_getD, List.getElem?_append_left (by omega), ← List.getD_eq_getElem?_getD]; exact h0
  · rw [List.getD_eq_getElem?_getD, List.getElem?_append_left (by omega), ← List.getD_eq_getElem?_getD]; exact h1

section
variable {prog : Program} {w : World} {A : Around} {E : Value → Shared → Prop} {s : Shared} {h₀ : Heap} {L a c1 c2 c3 : Addr} {cd : Value} {m mg mb : Str → Option Value} {news : List (Addr × Obj)} {cn : Str} {cs : Scope} {cl : List (Str × Addr)}

theorem law_s13 {QA wA aA bA : Addr} {qs wl : List Value} {nq n0 : Nat} {Z : List Int} {o p : Int} {to tp x1 x2 x3 y1 y2 y3 : Tok} {Q : Flow → Shared → Prop}
    (G : Gl mg mb h₀) (K : FlOk mg h₀) (K2 : FnOk mg h₀ "_law_check" ckParams ckBody ckScope) (F : Fr h₀ L s.heap m) (N : News h₀ L s.heap news)
    (hW : (wA, W.listOf wl.toArray n0) ∈ news) (hA : (aA, tupObj (tri ([o] ++ Z) x1 x2 x3)) ∈ news) (hB : (bA, tupObj (tri (Z ++ [o]) y1 y2 y3)) ∈ news) (hP : (QA, W.listOf qs.toArray nq) ∈ news)
    (I : IntsAre wl Z) (hoct : ∀ x ∈ Z, 0 ≤ x ∧ x < 256) (hlen : Z.length ≤ 60) (ho : 0 ≤ o ∧ o < 256) (hq0 : 0 < qs.length) (hq1 : qs.length ≤ 100) (hq : qs[0]? = some (.int p tp)) (p0 : 0 ≤ p) (p1 : p + 2 ≤ Z.length) (z0 : Z.getD p.toNat 0 = 0) (z1 : Z.getD (p + 1).toNat 0 = 0)
    (eW : m "row" = some (.ref wA)) (eA : m "ahead" = some (.ref aA)) (eB : m "behind" = some (.ref bA)) (eQ : m "places" = some (.ref QA)) (eO : m "octet" = some (.int o to))
    (hQ : ∀ h' k', (∀ b o, h₀.get? b = some o → h'.get? b = some o) → Q (.ret (.bool true)) { s with heap := h', toks := k' }) :
    wpC (model prog w) (callerA.deeper (lawE L a cd c1 c2 c3)) (execs lawB13 (lawE L a cd c1 c2 c3)) Q s := by
  have room : (callerA.deeper (lawE L a cd c1 c2 c3)).depth < recursionLimit := show callerA.depth + 1 < recursionLimit by decide
  have o1 : ∀ x ∈ [o] ++ Z, 0 ≤ x ∧ x < 256 := by
    intro x hx
    rcases List.mem_append.mp hx with hx | hx
    · rw [List.mem_singleton.mp hx]; exact ho
    · exact hoct x hx
  have o2 : ∀ x ∈ Z ++ [o], 0 ≤ x ∧ x < 256 := by
    intro x hx
    rcases List.mem_append.mp hx with hx | hx
    · exact hoct x hx
    · rw [List.mem_singleton.mp hx]; exact ho
  have n1 : ([o] ++ Z).length = Z.length + 1 := by rw [List.length_append]; show 1 + _ = _; omega
  have n2 : (Z ++ [o]).length = Z.length + 1 := by rw [List.length_append]; rfl
  have a0 := r0_range ([o] ++ Z)
  have a1 := r1_range ([o] ++ Z)
  have b0 := r0_range (Z ++ [o])
  have b1 := r1_range (Z ++ [o])
  show wpC _ _ (execs (_ :: lawB14) _) _ _
  refine execs_cons_ (Fl.If_ (isTrueCompare_ (fl_ev rfl rfl room G K F ?_)))
  refine PyProof.Rows.args_cons (wpAny_BinOp (List_ (PyProof.Rows.args_cons (nameX_L F eO (PyProof.Rows.args_nil (newList_N F N (fun h1 F1 N1 => ?_) (by rw [sizeLine_eq]; show (1 : Nat) ≤ _; omega)))))))
  refine nameX_L (s := { s with heap := h1 }) F1 eW ?_
  refine add_lists_ints (s := { s with heap := h1 }) F1 N1 ⟨_, (N1 _ (.head _)).1, rfl, _, rfl⟩ ⟨_, (N1 _ (.tail _ hW)).1, rfl, _, rfl⟩ (IntsAre.cons o to .nil) I (fun h2 F2 N2 I2 => ?_) (by rw [sizeLine_eq]; show 1 + _ ≤ _; omega)
  refine PyProof.Rows.args_cons (wpAny_BinOp (wpAny_Constant_int (sub_L (s := { s with heap := h2, toks := s.toks + 1 }) F2 N2 eQ (.tail _ (.tail _ hP)) (by omega) (by omega) (by omega) hq fun tk1 => add_int (PyProof.Rows.args_nil ?_))))
  refine ⟨_, _, _, _, _, _, rfl, F2, N2, src_list ⟨_, (N2 _ (.head _)).1, rfl, _, rfl⟩ I2 o1 (by omega), o1, by omega, by omega, by omega, fun h3 t3 k3 F3 N3 => ?_⟩
  refine ck_ev (s := { s with heap := h3, toks := k3 }) room G K2 F3 ?_
  refine PyProof.Rows.args_cons (sub_T (s := { s with heap := h3, toks := k3 }) (its := tri ([o] ++ Z) x1 x2 x3) (j := 1) F3 N3 eA (.tail _ (.tail _ hA)) (by decide) (by decide) rfl rfl fun tk2 => ?_)
  refine PyProof.Rows.args_cons (sub_T (s := { s with heap := h3, toks := tk2 }) (its := tri ([o] ++ Z) x1 x2 x3) (j := 2) F3 N3 eA (.tail _ (.tail _ hA)) (by decide) (by decide) rfl rfl fun tk3 => ?_)
  refine PyProof.Rows.args_cons (sub_T (s := { s with heap := h3, toks := tk3 }) (its := tri ([o] ++ Z) x1 x2 x3) (j := 0) F3 N3 eA (.tail _ (.tail _ hA)) (by decide) (by decide) rfl rfl fun tk4 => ?_)
  refine PyProof.Rows.args_cons (wpAny_BinOp (wpAny_Constant_int (sub_L (s := { s with heap := h3, toks := tk4 + 1 }) F3 N3 eQ (.tail _ (.tail _ hP)) (by omega) (by omega) (by omega) hq fun tk5 => add_int (PyProof.Rows.args_nil ?_))))
  refine ⟨_, _, _, _, _, _, _, _, _, _, rfl, F3, N3, a0, a1, by omega, by omega, by omega, fun h4 t4 k4 F4 N4 => ?_⟩
  refine ne_int (wpAny_truthy_bool ?_)
  rw [chk_front p0 p1 z0 z1]
  have e : ∀ x : Int, (x != x) = false := fun x => by simp
  rw [e]
  refine execs_nil_ ?_
  show wpC _ _ (execs [_] _) _ _
  refine execs_cons_ (Fl.Return_ (Fl.Compare_ (fl_ev (s := { s with heap := h4, toks := k4 }) rfl rfl room G K F4 ?_)))
  refine PyProof.Rows.args_cons (PyProof.Rows.Call_ (nmX_b (s := { s with heap := h4, toks := k4 }) F4 G (by decide) (by boot_by_name) (by decide) ?_))
  refine PyProof.Rows.callWith_type1 (PyProof.Rows.args_cons (wpAny_BinOp (nameX_L (s := { s with heap := h4, toks := k4 }) F4 eW (List_ (PyProof.Rows.args_cons (nameX_L (s := { s with heap := h4, toks := k4 }) F4 eO (PyProof.Rows.args_nil (newList_N (s := { s with heap := h4, toks := k4 }) F4 N4 (fun h5 F5 N5 => ?_) (by rw [sizeLine_eq]; show (1 : Nat) ≤ _; omega))))))))) (by rfl) plain_nil
  refine add_lists_ints (s := { s with heap := h5, toks := k4 }) F5 N5 ⟨_, (N5 _ (.tail _ (.tail _ (.tail _ hW)))).1, rfl, _, rfl⟩ ⟨_, (N5 _ (.head _)).1, rfl, _, rfl⟩ I (IntsAre.cons o to .nil) (fun h6 F6 N6 I6 => ?_) (by rw [sizeLine_eq]; show _ + 1 ≤ _; omega)
  refine PyProof.Rows.args_nil (KBa.make_K (s := { s with heap := h6, toks := k4 }) F6 N6 rfl ⟨_, (N6 _ (.head _)).1, rfl, _, rfl⟩ I6 o2 (by omega) fun h7 t7 k7 F7 N7 _ => ?_)
  refine PyProof.Rows.args_cons (sub_L (s := { s with heap := h7, toks := k7 }) F7 N7 eQ (.tail _ (.tail _ (.tail _ (.tail _ hP)))) (by omega) (by omega) (by omega) hq fun tk8 => PyProof.Rows.args_nil ?_)
  refine ⟨_, _, _, _, _, _, rfl, F7, N7, src_bytes (by omega), o2, by omega, by omega, by omega, fun h8 t8 k8 F8 N8 => ?_⟩
  refine ck_ev (s := { s with heap := h8, toks := k8 }) room G K2 F8 ?_
  refine PyProof.Rows.args_cons (sub_T (s := { s with heap := h8, toks := k8 }) (its := tri (Z ++ [o]) y1 y2 y3) (j := 1) F8 N8 eB (.tail _ (.tail _ (.tail _ (.tail _ hB)))) (by decide) (by decide) rfl rfl fun tk2 => ?_)
  refine PyProof.Rows.args_cons (sub_T (s := { s with heap := h8, toks := tk2 }) (its := tri (Z ++ [o]) y1 y2 y3) (j := 2) F8 N8 eB (.tail _ (.tail _ (.tail _ (.tail _ hB)))) (by decide) (by decide) rfl rfl fun tk3 => ?_)
  refine PyProof.Rows.args_cons (sub_T (s := { s with heap := h8, toks := tk3 }) (its := tri (Z ++ [o]) y1 y2 y3) (j := 0) F8 N8 eB (.tail _ (.tail _ (.tail _ (.tail _ hB)))) (by decide) (by decide) rfl rfl fun tk4 => ?_)
  refine PyProof.Rows.args_cons (sub_L (s := { s with heap := h8, toks := tk4 }) F8 N8 eQ (.tail _ (.tail _ (.tail _ (.tail _ hP)))) (by omega) (by omega) (by omega) hq fun tk9 => PyProof.Rows.args_nil ?_)
  refine ⟨_, _, _, _, _, _, _, _, _, _, rfl, F8, N8, b0, b1, by omega, p0, by omega, fun h9 t9 k9 F9 N9 => ?_⟩
  refine eq_int ?_
  rw [chk_back p0 p1 z0 z1, beq_self_eq_true]
  exact hQ h9 k9 F9.keep
end
end Fl
end

section
open PySem.Calls
namespace Fl

def lawB11 : List Stmt := lawBody.drop 11
def lawB12 : List Stmt := lawBody.drop 12

theorem tri_one {o : Int} {t1 t2 t3 : Tok} : tri [o] t1 t2 t3 = [.int 1 t1, .int (o.fmod 255) t2, .int (o.fmod 255) t3] := by
  unfold tri
  rw [r0_one, r1_one]
  rfl

section
variable {prog : Program} {w : World} {A : Around} {E : Value → Shared → Prop} {s : Shared} {h₀ : Heap} {L a c1 c2 c3 : Addr} {cd : Value} {m mg mb : Str → Option Value} {news : List (Addr × Obj)} {cn : Str} {cs : Scope} {cl : List (Str × Addr)}

/-- the tuple of one octet -/
theorem one_T {p1 p2 p3 p4 p5 p6 p7 p8 : Pos} {k1 k2 k3 k4 : Nat} {o : Int} {to : Tok} {Q : Value → Shared → Prop} (F : Fr h₀ L s.heap m) (N : News h₀ L s.heap news) (eO : m "octet" = some (.int o to))
    (h : ∀ h' tk r t1 t2 t3, Fr h₀ L h' m → News h₀ L h' ((r, tupObj (tri [o] t1 t2 t3)) :: news) → (∀ p ∈ news, p.1 ≠ r) → Q (.ref r) { s with heap := h', toks := tk }) :
    wpAny (model prog w) A (eval (.Tuple [.Constant (.int 1) k1 p1, .BinOp (.Name "octet" p2) .Mod (.Constant (.int 255) k2 p3) p4, .BinOp (.Name "octet" p5) .Mod (.Constant (.int 255) k3 p6) p7] k4 p8) (lawE L a cd c1 c2 c3)) Q E s := by
  refine Tuple_ (PyProof.Rows.args_cons (wpAny_Constant_int ?_))
  refine PyProof.Rows.args_cons (wpAny_BinOp (nameX_L (s := { s with toks := s.toks + 1 }) F eO (wpAny_Constant_int (mod_int' (by decide) ?_))))
  refine PyProof.Rows.args_cons (wpAny_BinOp (nameX_L (s := { s with toks := s.toks + 1 + 1 + 1 }) F eO (wpAny_Constant_int (mod_int' (by decide) (PyProof.Rows.args_nil ?_)))))
  refine newTuple_N (s := { s with toks := s.toks + 1 + 1 + 1 + 1 + 1 }) F N (fun h1 F1 N1 => ?_) (by rw [sizeLine_eq]; show (3 : Nat) ≤ _; omega)
  exact h h1 _ _ _ _ _ F1 (by rw [tri_one]; exact N1) (new_ne N)

theorem law_s10 {B : List (Addr × Obj)} {dC PA QA TA wA lA rA : Addr} {o1 : Obj} {ws qs wl : List Value} {np nq nt n0 : Nat} {ks : List Int} {rl : List Rec} {x1 x2 x3 y1 y2 y3 : Tok} {Q : Flow → Shared → Prop}
    (G : Gl mg mb h₀) (K : FlOk mg h₀) (K2 : FnOk mg h₀ "_law_check" ckParams ckBody ckScope) (K3 : FnOk mg h₀ "_law_joined" jnParams jnBody jnScope) (b : Base B c1 c2 dC PA QA TA o1 ws qs np nq nt ks rl) (l : Late h₀ L s.heap m B (cat rl.reverse) wA lA rA QA wl n0 x1 x2 x3 y1 y2 y3)
    (hQ : ∀ h' k', (∀ b o, h₀.get? b = some o → h'.get? b = some o) → Q (.ret (.bool true)) { s with heap := h', toks := k' }) :
    wpC (model prog w) (callerA.deeper (lawE L a cd c1 c2 c3)) (execs lawB10 (lawE L a cd c1 c2 c3)) Q s := by
  have l2 := b.l2
  have l4 := b.l4
  have hql := b.ql
  have okr : ∀ r ∈ rl.reverse, r.Ok := fun r hr => b.ok r (by simpa using hr)
  have hoct := cat_oct okr
  have hlen : (cat rl.reverse).length ≤ 36 := by have := cat_len okr; simp at this; omega
  have hpk := pls_ok b.ok
  have room : (callerA.deeper (lawE L a cd c1 c2 c3)).depth < recursionLimit := show callerA.depth + 1 < recursionLimit by decide
  have hwl := b.I.length
  have hcl := b.len
  obtain ⟨cv, ct, hc19⟩ : ∃ c t, ws[19]? = some (.int c t) := by
    have e : ws[19]? = some (ws[19]'(by omega)) := List.getElem?_eq_getElem (by omega)
    obtain ⟨n, t, e1, e2⟩ := b.I.at _ _ e
    exact ⟨n, t, by rw [e, e1]⟩
  obtain ⟨p, tp, hp, hpm⟩ : ∃ p t, qs[0]? = some (.int p t) ∧ p ∈ pls rl := by
    have e : qs[0]? = some (qs[0]'(by omega)) := List.getElem?_eq_getElem (by omega)
    obtain ⟨n, t, e1, e2⟩ := b.hq.at _ _ e
    exact ⟨n, t, by rw [e, e1], List.mem_of_getElem? e2⟩
  obtain ⟨p0, p1, p2, p3⟩ := hpk p hpm
  have o0 : 0 ≤ cv.fmod 256 ∧ cv.fmod 256 < 256 := ⟨Int.fmod_nonneg_of_pos _ (by decide), Int.fmod_lt_of_pos _ (by decide)⟩
  generalize cat rl.reverse = Z at *
  have F := l.F
  have N := l.N
  show wpC _ _ (execs (_ :: lawB11) _) _ _
  refine execs_any (wpAny_Assign_Name (wpAny_BinOp (Subscript_ (nameX_C N rfl (.tail _ (.tail _ (.tail _ b.hc))) b.d1 (wpAny_Constant_int (item_L (s := { s with toks := s.toks + 1 }) N (.tail _ (.tail _ (.tail _ b.hC))) (by omega) (by omega) (by omega) (x := .int cv ct) ?_ ?_))))))
  · exact hc19
  refine wpAny_Constant_int (mod_int' (by decide) ?_)
  refine storeX_L (s := { s with toks := s.toks + 1 + 1 + 1 }) F N fun h1 F1 N1 => ?_
  have l1 := l.set F1 N1 (by decide) (by decide) (by decide) (by decide)
  have eO : (fun y => if y = Str.ofString "octet" then some (Value.int (cv.fmod 256) (s.toks + 1 + 1)) else m y) "octet" = some (.int (cv.fmod 256) (s.toks + 1 + 1)) := if_pos rfl
  revert l1 eO
  generalize (fun y => if y = Str.ofString "octet" then some (Value.int (cv.fmod 256) (s.toks + 1 + 1)) else m y) = m1
  generalize cv.fmod 256 = o at *
  intro l1 eO
  clear F1 N1 F N
  have F1 := l1.F
  have N1 := l1.N
  show wpC _ _ (execs (_ :: lawB12) _) _ _
  refine execs_any (assign2 (h₀ := h₀) rfl ?_)
  refine PyProof.Rows.args_cons (one_T (s := { s with heap := h1, toks := s.toks + 1 + 1 + 1 + 1 }) F1 N1 eO fun h2 k2 a1A t1 t2 t3 F2 N2 ne2 => ?_)
  refine PyProof.Rows.args_cons (jn_ev (s := { s with heap := h2, toks := k2 }) room G K3 F2 ?_)
  refine PyProof.Rows.args_cons (nameX_L (s := { s with heap := h2, toks := k2 }) F2 l1.eL ?_)
  refine PyProof.Rows.args_cons (one_T (s := { s with heap := h2, toks := k2 }) F2 N2 eO fun h3 k3 a2A t4 t5 t6 F3 N3 ne3 => PyProof.Rows.args_nil ?_)
  refine ⟨_, _, _, _, _, _, _, _, _, _, _, _, rfl, F3, N3, .tail _ (.tail _ (.tail _ (.head _))), .head _, by omega, by show 1 ≤ 64; omega, fun h4 bA k4 z1 z2 z3 F4 N4 ne4 => ?_⟩
  refine PyProof.Rows.args_nil ⟨_, _, _, _, rfl, F4, N4, fun h5 k5 F5 N5 => ?_⟩
  show wpC _ _ (execs (_ :: lawB13) _) _ _
  have eA : (fun u => if u = Str.ofString "ahead" then some (Value.ref a1A) else if u = Str.ofString "behind" then some (Value.ref bA) else m1 u) "ahead" = some (.ref a1A) := if_pos rfl
  have eB : (fun u => if u = Str.ofString "ahead" then some (Value.ref a1A) else if u = Str.ofString "behind" then some (Value.ref bA) else m1 u) "behind" = some (.ref bA) := (if_neg (by decide)).trans (if_pos rfl)
  have eR : (fun u => if u = Str.ofString "ahead" then some (Value.ref a1A) else if u = Str.ofString "behind" then some (Value.ref bA) else m1 u) "right" = some (.ref rA) := (if_neg (by decide)).trans ((if_neg (by decide)).trans l1.eR)
  have eW : (fun u => if u = Str.ofString "ahead" then some (Value.ref a1A) else if u = Str.ofString "behind" then some (Value.ref bA) else m1 u) "row" = some (.ref wA) := (if_neg (by decide)).trans ((if_neg (by decide)).trans l1.eW)
  have eQ : (fun u => if u = Str.ofString "ahead" then some (Value.ref a1A) else if u = Str.ofString "behind" then some (Value.ref bA) else m1 u) "places" = some (.ref QA) := (if_neg (by decide)).trans ((if_neg (by decide)).trans l1.eQ)
  have eO5 : (fun u => if u = Str.ofString "ahead" then some (Value.ref a1A) else if u = Str.ofString "behind" then some (Value.ref bA) else m1 u) "octet" = some (.int o (s.toks + 1 + 1)) := (if_neg (by decide)).trans ((if_neg (by decide)).trans eO)
  revert F5 eA eB eR eW eQ eO5
  generalize (fun u => if u = Str.ofString "ahead" then some (Value.ref a1A) else if u = Str.ofString "behind" then some (Value.ref bA) else m1 u) = m5
  intro F5 eA eB eR eW eQ eO5
  refine execs_any (wpAny_Assign_Name (jn_ev (s := { s with heap := h5, toks := k5 }) room G K3 F5 ?_))
  refine PyProof.Rows.args_cons (nameX_L (s := { s with heap := h5, toks := k5 }) F5 eA (PyProof.Rows.args_cons (nameX_L (s := { s with heap := h5, toks := k5 }) F5 eR (PyProof.Rows.args_nil ?_))))
  refine ⟨_, _, _, _, _, _, _, _, _, _, _, _, rfl, F5, N5, .tail _ (.tail _ (.head _)), .tail _ (.tail _ (.tail _ (.tail _ (.tail _ (.head _))))), by show 1 ≤ 64; omega, by omega, fun h6 aA k6 z4 z5 z6 F6 N6 ne6 => ?_⟩
  refine storeX_L (s := { s with heap := h6, toks := k6 }) F6 N6 fun h7 F7 N7 => ?_
  refine law_s13 (s := { s with heap := h7, toks := k6 + 1 }) (o := o) (p := p) G K K2 F7 N7 (.tail _ (.tail _ (.tail _ (.tail _ (.head _))))) (.head _) (.tail _ (.head _)) (.tail _ (.tail _ (.tail _ (.tail _ (.tail _ (.tail _ (.tail _ b.places)))))))
    l.I hoct (by omega) o0 (by omega) (by omega) hp p0 p1 p2 p3 ((if_neg (by decide)).trans eW) (if_pos rfl) ((if_neg (by decide)).trans eB) ((if_neg (by decide)).trans eQ) ((if_neg (by decide)).trans eO5) hQ
end
end Fl
end

section
open PySem.Calls
namespace Fl

section
variable {prog : Program} {w : World} {A : Around} {E : Value → Shared → Prop} {s : Shared} {h₀ : Heap} {L a c1 c2 c3 : Addr} {cd : Value} {m mg mb : Str → Option Value} {news : List (Addr × Obj)} {cn : Str} {cs : Scope} {cl : List (Str × Addr)}

theorem law_tail {PA QA TA dC : Addr} {o1 : Obj} {ws : List Value} {ks : List Int} {rl : List Rec} {nx : List (Addr × Obj)} {Q : Flow → Shared → Prop}
    (G : Gl mg mb h₀) (K : FlOk mg h₀) (K2 : FnOk mg h₀ "_law_check" ckParams ckBody ckScope) (K3 : FnOk mg h₀ "_law_joined" jnParams jnBody jnScope)
    (F : Fr h₀ L s.heap m) (N : News h₀ L s.heap nx) (M : Mid c1 c2 c3 dC PA QA TA o1 ws rl m nx) (l2 : 2 ≤ rl.length) (l4 : rl.length ≤ 4) (d1 : o1.data = .cell (some (.ref dC))) (I : IntsAre ws ks) (hk : ks.length = 20)
    (hQ : ∀ h' k', (∀ b o, h₀.get? b = some o → h'.get? b = some o) → Q (.ret (.bool true)) { s with heap := h', toks := k' }) :
    wpC (model prog w) (callerA.deeper (lawE L a cd c1 c2 c3)) (execs lawB4 (lawE L a cd c1 c2 c3)) Q s := by
  obtain ⟨⟨o2, o3, v2, v3, np, nq, nt, qs, hnx, d2, d3, hq, hql⟩, ok, nd, e1, e2, e3⟩ := M
  subst hnx
  have x1 := (List.nodup_cons.mp nd).1
  have x2 := (List.nodup_cons.mp (List.nodup_cons.mp nd).2).1
  have b : Base ((c1, o1) :: (dC, W.listOf ws.toArray 0) :: (PA, W.listOf (pss rl).toArray np) :: (QA, W.listOf qs.toArray nq) :: (TA, W.listOf (tss rl).toArray nt) :: led rl) c1 c2 dC PA QA TA o1 ws qs np nq nt ks rl := by
    refine ⟨.head _, d1, .tail _ (.head _), I, hk, .tail _ (.tail _ (.head _)), .tail _ (.tail _ (.tail _ (.head _))), .tail _ (.tail _ (.tail _ (.tail _ (.head _)))), fun r hr => ?_, fun p hp => ?_, hq, hql, ok, l2, l4⟩
    · exact ⟨.tail _ (.tail _ (.tail _ (.tail _ (.tail _ (led_mem hr).1)))), .tail _ (.tail _ (.tail _ (.tail _ (.tail _ (led_mem hr).2))))⟩
    · rcases List.mem_cons.mp hp with rfl | hp
      · intro q
        exact x1 (by show c1 ∈ c2 :: _; rw [show c1 = c2 from q]; exact .head _)
      · intro q
        exact x2 (List.mem_map.mpr ⟨p, .tail _ hp, q⟩)
  have N1 : News h₀ L s.heap ((c2, o2) :: (c1, o1) :: (dC, W.listOf ws.toArray 0) :: (PA, W.listOf (pss rl).toArray np) :: (QA, W.listOf qs.toArray nq) :: (TA, W.listOf (tss rl).toArray nt) :: led rl) := news_sub N fun p hp => by
    rcases List.mem_cons.mp hp with rfl | hp
    · exact .tail _ (.head _)
    rcases List.mem_cons.mp hp with rfl | hp
    · exact .head _
    · exact .tail _ (.tail _ (.tail _ hp))
  generalize (c1, o1) :: (dC, W.listOf ws.toArray 0) :: (PA, W.listOf (pss rl).toArray np) :: (QA, W.listOf qs.toArray nq) :: (TA, W.listOf (tss rl).toArray nt) :: led rl = B at b N1
  clear N nd x1 x2 hq hql ok d3
  refine law_s4 b F N1 e3 fun h4 k4 wA n0 F4 N4 nw => ?_
  have b4 := b.cons (x := (wA, W.listOf #[] n0)) nw
  refine law_s5 (s := { s with heap := h4, toks := k4 }) G K3 b4 F4 (news_sub N4 fun p hp => ?_) d2 ((if_neg (by decide)).trans ((if_neg (by decide)).trans ((if_neg (by decide)).trans e1))) ((if_neg (by decide)).trans ((if_neg (by decide)).trans ((if_neg (by decide)).trans e3))) (if_pos rfl) ((if_neg (by decide)).trans (if_pos rfl)) ?_
  · rcases List.mem_cons.mp hp with rfl | hp
    · exact .tail _ (.head _)
    rcases List.mem_cons.mp hp with rfl | hp
    · exact .head _
    · exact .tail _ (.tail _ hp)
  intro h5 k5 lA rA x1 x2 x3 y1 y2 y3 m5 F5 N5 nl nr eL5 eR5 eo5
  have eW5 : m5 "row" = some (.ref wA) := (eo5 _ (by decide) (by decide)).trans ((if_neg (by decide)).trans ((if_neg (by decide)).trans (if_pos rfl)))
  have eP5 : m5 "parts" = some (.ref PA) := (eo5 _ (by decide) (by decide)).trans ((if_neg (by decide)).trans ((if_neg (by decide)).trans ((if_neg (by decide)).trans e1)))
  have eQ5 : m5 "places" = some (.ref QA) := (eo5 _ (by decide) (by decide)).trans ((if_neg (by decide)).trans ((if_neg (by decide)).trans ((if_neg (by decide)).trans e2)))
  clear F4 N4 eo5
  have b5 := (b.cons (x := (rA, tupObj (tri (cat rl.reverse) y1 y2 y3))) nr).cons (x := (lA, tupObj (tri (cat rl.reverse) x1 x2 x3))) nl
  refine law_s6 (s := { s with heap := h5, toks := k5 }) (n0 := n0) b5 F5 (news_sub N5 fun p hp => ?_) eP5 eW5 ?_
  · rcases List.mem_cons.mp hp with rfl | hp
    · exact .tail _ (.tail _ (.head _))
    rcases List.mem_cons.mp hp with rfl | hp
    · exact .head _
    rcases List.mem_cons.mp hp with rfl | hp
    · exact .tail _ (.head _)
    · exact .tail _ (.tail _ (.tail _ hp))
  intro h6 k6 wA6 wl n6 m6 F6 N6 I6 eW6 eo6
  have l6 : Late h₀ L h6 m6 B (cat rl.reverse) wA6 lA rA QA wl n6 x1 x2 x3 y1 y2 y3 := ⟨F6, N6, I6, eW6, (eo6 _ (by decide) (by decide)).trans eL5, (eo6 _ (by decide) (by decide)).trans eR5, (eo6 _ (by decide) (by decide)).trans eQ5⟩
  refine law_s7 (s := { s with heap := h6, toks := k6 }) G K b l6 fun h7 k7 m7 l7 _ => ?_
  refine law_s9 (s := { s with heap := h7, toks := k7 }) G K K2 b l7 fun h9 k9 m9 l9 _ => ?_
  exact law_s10 (s := { s with heap := h9, toks := k9 }) G K K2 K3 b l9 hQ
end
end Fl
end

section
open PySem.Calls
namespace Fl

def cellsE : PySem.Expr := match lawBody.drop 1 with
  | .Assign _ e _ :: _ => e
  | _ => .Constant .none 0 ⟨0, 0, 0, 0⟩

/-- the cells are made -/
def CellsEnd (s : Shared) (h₀ : Heap) (L : Addr) (m : Str → Option Value) (nx : List (Addr × Obj)) (v : Value) (s₁ : Shared) : Prop :=
  ∃ dC cs ws h' k', v = .ref dC ∧ s₁ = { s with heap := h', toks := k' } ∧ Fr h₀ L h' m ∧ News h₀ L h' ((dC, W.listOf ws.toArray 0) :: nx) ∧ IntsAre ws cs ∧ cs.length = 20

section
variable {prog : Program} {w : World} {A : Around} {E : Value → Shared → Prop} {s : Shared} {h₀ : Heap} {L a c1 c2 c3 : Addr} {cd : Value} {m mg mb : Str → Option Value} {news : List (Addr × Obj)} {cn : Str} {cs : Scope} {cl : List (Str × Addr)}

local macro_rules | `(tactic| walk_at "eval Name") => `(tactic| (with_unfolding_all refine guardX (by rfl) ?_; k_dflt (refine' nmX_b ?k1 ?k2 ?k3 ?k4 ?k5 ?_; (case k1 => k_asm); (case k2 => k_asm); (case k3 => decide); (case k4 => boot_by_name); (case k5 => decide); k_whole)))

set_option maxHeartbeats 4000000 in
theorem cells_ev {l rA : Addr} {o1 o2 o3 : Obj} {ns rs : List Int} {vs wl : List Value} {n0 : Nat} {u : Str → Option Value}
    (G : Gl mg mb h₀) (X : Frag.In [] h₀) (N' : News h₀ L s.heap [(rA, W.listOf wl.toArray n0), (c1, o1), (c2, o2), (c3, o3)]) (hl : h₀.IsList l vs.toArray) (hi : IntsAre vs ns) (hlen : ns.length ≤ 63) (hI : IntsAre wl rs) (hrl : rs.length = 20)
    (F' : Fr h₀ L s.heap (fun y => if y = Str.ofString "rest" then some (.ref rA) else if y = Str.ofString "script" then some (.ref l) else u y)) :
    wpAny (model prog w) (callerA.deeper (lawE L a cd c1 c2 c3)) (eval cellsE (lawE L a cd c1 c2 c3)) (CellsEnd s h₀ L (fun y => if y = Str.ofString "rest" then some (.ref rA) else if y = Str.ofString "script" then some (.ref l) else u y) [(c1, o1), (c2, o2), (c3, o3)]) (fun _ _ => False) s := by
  obtain ⟨hp, gs, dr, tk, os⟩ := s
  unfold cellsE lawBody defAt PySem.Challenge.pw_bs0025_01
  dsimp only [List.drop]
  unfold lawE lawScope defAt PySem.Challenge.pw_bs0025_01
  dsimp only [List.drop]
  dsimp only at *
  have hwl := hI.length
  iterate 30 (first | walk1 | (dsimp only; walk1))
  rename Fr _ _ _ _ => F5
  rename News _ _ _ _ => N5
  refine kmk_slice_ints (s := ⟨_, _, _, _, _⟩) F5 N5 (vs := wl) (ns := rs) ⟨_, (N5 (rA, W.listOf wl.toArray n0) (by simp)).1, rfl, _, rfl⟩ (IsPart.int _ _) IsPart.none hI (kmk_from hI (by omega)) (List.length_drop ..) (fun D ws h' F6 N6 l1 I6 q1 q2 => ?_) (by with_unfolding_all rfl) (by intro _; with_unfolding_all rfl) (kmk_sz hI (by rw [hrl, sizeLine_eq]; omega))
  k_steps
  rename Fr _ _ _ _ => F2
  rename News _ _ _ _ => N2
  rename IntsAre _ (_ ++ _) => I2
  refine ⟨_, _, _, _, _, rfl, rfl, F2, (fun p hp => N2 p ?_), I2, ?_⟩
  · simp only [List.mem_cons, List.not_mem_nil, or_false] at hp ⊢
    rcases hp with h | h | h | h <;> simp [h]
  rw [List.length_append, List.length_map, List.length_drop, Int.toNat_natCast, List.length_take]
  omega
end
end Fl
end

section
open PySem.Calls
namespace Fl

def lawB1 : List Stmt := lawBody.drop 1
def lawB2 : List Stmt := lawBody.drop 2

theorem fr_chain2 {h₀ h : Heap} {L : Addr} {m : Str → Option Value} {x1 x2 : Str} {v1 v2 : Value} (F : Fr h₀ L h m) (h1 : m x1 = some v1) (h2 : m x2 = some v2) : Fr h₀ L h (fun y => if y = x1 then some v1 else if y = x2 then some v2 else m y) := by
  have e : m = fun y => if y = x1 then some v1 else if y = x2 then some v2 else m y := by
    funext y
    by_cases q : y = x1
    · rw [if_pos q, q, h1]
    rw [if_neg q]
    by_cases q : y = x2
    · rw [if_pos q, q, h2]
    rw [if_neg q]
  rw [← e]; exact F

section
variable {prog : Program} {w : World} {A : Around} {E : Value → Shared → Prop} {s : Shared} {h₀ : Heap} {L a c1 c2 c3 : Addr} {cd : Value} {m mg mb : Str → Option Value} {news : List (Addr × Obj)} {cn : Str} {cs : Scope} {cl : List (Str × Addr)}

theorem swaps_list {es : List PySem.Expr} {p : Pos} {t : Option PySem.Expr} {n : Nat} {env : Env} : swapsWith (.List es p) t n env = pure false := rfl
theorem assignL {M : Model} {x : Str} {pos' pos p : Pos} {es : List PySem.Expr} {env : Env} {Q : Flow → Shared → Prop}
    (h : wpAny M A (spliced (backTo p (starEach es env))) (fun vs s₁ => wpAny M A (newList vs) (fun v s₁ => wpAny M A (storeName env x v) (fun _ => Q .next) E s₁) E s₁) E s) :
    wpAny M A (exec (.Assign [.Name x pos'] (.List es p) pos) env) Q E s := wpAny_Assign_Name (List_ h) swaps_list

def restEs : List PySem.Expr := match lawBody with
  | .Assign _ (.List es _) _ :: _ => es
  | _ => []

def constOf : PySem.Expr → Int × Nat × Pos
  | .Constant (.int i) k p => (i, k, p)
  | _ => (0, 0, ⟨0, 0, 0, 0⟩)
def ofConst (k : Int × Nat × Pos) : PySem.Expr := .Constant (.int k.1) k.2.1 k.2.2

theorem consts_ev {M : Model} {env : Env} {p : Pos} : ∀ (ks : List (Int × Nat × Pos)) {s : Shared} {Q : List Value → Shared → Prop}
    (_ : ∀ vs tk, IntsAre vs (ks.map (·.1)) → Q vs { s with toks := tk }), wpAny M A (spliced (backTo p (starEach (ks.map ofConst) env))) Q E s
  | [], s, Q, h => PyProof.Rows.args_nil (h [] s.toks .nil)
  | (i, k, q) :: ks, s, Q, h => by
    refine PyProof.Rows.args_cons (e := .Constant (.int i) k q) (wpAny_Constant_int (consts_ev ks fun vs tk I => ?_)) rfl
    exact h _ tk (.cons i s.toks I)

theorem restEs_eq : restEs = (restEs.map constOf).map ofConst := by rfl
theorem restEs_ints : (restEs.map constOf).map (·.1) = [1, 5, 3, 200, 7, 255, 0, 12, 9, 99, 1, 31, 254, 4, 60, 2, 128, 17, 40, 3] := by rfl

theorem rest_ev {M : Model} {env : Env} {p : Pos} {es : List PySem.Expr} (he : es = restEs) {Q : List Value → Shared → Prop}
    (h : ∀ vs tk, IntsAre vs [1, 5, 3, 200, 7, 255, 0, 12, 9, 99, 1, 31, 254, 4, 60, 2, 128, 17, 40, 3] → Q vs { s with toks := tk }) : wpAny M A (spliced (backTo p (starEach es env))) Q E s := by
  obtain ⟨ks, e1, e2⟩ : ∃ ks : List (Int × Nat × Pos), es = ks.map ofConst ∧ ks.map (·.1) = [1, 5, 3, 200, 7, 255, 0, 12, 9, 99, 1, 31, 254, 4, 60, 2, 128, 17, 40, 3] := ⟨_, he.trans restEs_eq, restEs_ints⟩
  subst e1
  exact consts_ev ks fun vs tk I => h vs tk (by rw [e2] at I; exact I)

theorem law_s0' {l : Addr} {p1 p2 p3 : Pos} {es : List PySem.Expr} {rest : List Stmt} {Q : Flow → Shared → Prop} (he : es = restEs) (F : Fr h₀ L s.heap m) (N : News h₀ L s.heap news) (eS : m "script" = some (.ref l))
    (hQ : ∀ h' k' rA wl rs n0 m', Fr h₀ L h' m' → News h₀ L h' ((rA, W.listOf wl.toArray n0) :: news) → IntsAre wl rs → rs.length = 20 → m' "rest" = some (.ref rA) → m' "script" = some (.ref l) →
      wpC (model prog w) (callerA.deeper (lawE L a cd c1 c2 c3)) (execs rest (lawE L a cd c1 c2 c3)) Q { s with heap := h', toks := k' }) :
    wpC (model prog w) (callerA.deeper (lawE L a cd c1 c2 c3)) (execs (.Assign [.Name (Str.ofString "rest") p1] (.List es p2) p3 :: rest) (lawE L a cd c1 c2 c3)) Q s := by
  refine execs_any (assignL (rest_ev he fun vs tk I => ?_))
  have hv := I.length
  refine newList_N (s := { s with toks := tk }) F N (fun h1 F1 N1 => ?_) (by rw [hv, sizeLine_eq]; show (20 : Nat) ≤ _; omega)
  refine storeX_L (s := { s with heap := h1, toks := tk }) F1 N1 fun h2 F2 N2 => ?_
  exact hQ h2 _ _ _ _ _ _ F2 N2 I rfl (if_pos rfl) ((if_neg (by decide)).trans eS)

theorem law_body_eq : ∃ p1 p2 p3, lawBody = .Assign [.Name (Str.ofString "rest") p1] (.List restEs p2) p3 :: lawB1 := ⟨_, _, _, rfl⟩

theorem law_s0 {l : Addr} {Q : Flow → Shared → Prop} (F : Fr h₀ L s.heap m) (N : News h₀ L s.heap news) (eS : m "script" = some (.ref l))
    (hQ : ∀ h' k' rA wl rs n0 m', Fr h₀ L h' m' → News h₀ L h' ((rA, W.listOf wl.toArray n0) :: news) → IntsAre wl rs → rs.length = 20 → m' "rest" = some (.ref rA) → m' "script" = some (.ref l) →
      wpC (model prog w) (callerA.deeper (lawE L a cd c1 c2 c3)) (execs lawB1 (lawE L a cd c1 c2 c3)) Q { s with heap := h', toks := k' }) :
    wpC (model prog w) (callerA.deeper (lawE L a cd c1 c2 c3)) (execs lawBody (lawE L a cd c1 c2 c3)) Q s := by
  obtain ⟨p1, p2, p3, e⟩ := law_body_eq
  obtain ⟨es, he⟩ : ∃ es, es = restEs := ⟨_, rfl⟩
  rw [← he] at e
  rw [e]
  exact law_s0' he F N eS hQ

theorem law_s1 {l rA : Addr} {o1 o2 o3 : Obj} {v1 v2 v3 : Option Value} {ns rs : List Int} {vs wl : List Value} {n0 : Nat} {Q : Flow → Shared → Prop}
    (G : Gl mg mb h₀) (X : Frag.In [] h₀) (F : Fr h₀ L s.heap m) (N : News h₀ L s.heap [(rA, W.listOf wl.toArray n0), (c1, o1), (c2, o2), (c3, o3)]) (hl : h₀.IsList l vs.toArray) (hi : IntsAre vs ns) (hlen : ns.length ≤ 63) (hI : IntsAre wl rs) (hrl : rs.length = 20)
    (d1 : o1.data = .cell v1) (d2 : o2.data = .cell v2) (d3 : o3.data = .cell v3) (n12 : c1 ≠ c2) (n13 : c1 ≠ c3) (n23 : c2 ≠ c3) (eR : m "rest" = some (.ref rA)) (eS : m "script" = some (.ref l))
    (hQ : ∀ h' k' dC o1 ws ks m', Fr h₀ L h' m' → News h₀ L h' [(c1, o1), (c2, o2), (c3, o3), (dC, W.listOf ws.toArray 0)] → o1.data = .cell (some (.ref dC)) → IntsAre ws ks → ks.length = 20 → [c1, c2, c3, dC].Nodup →
      wpC (model prog w) (callerA.deeper (lawE L a cd c1 c2 c3)) (execs lawB2 (lawE L a cd c1 c2 c3)) Q { s with heap := h', toks := k' }) :
    wpC (model prog w) (callerA.deeper (lawE L a cd c1 c2 c3)) (execs lawB1 (lawE L a cd c1 c2 c3)) Q s := by
  show wpC _ _ (execs (.Assign [_] cellsE _ :: lawB2) _) _ _
  have F1 := fr_chain2 F eR eS
  refine execs_any (wpAny_Assign_Name (wpAny_mono (cells_ev G X N hl hi hlen hI hrl F1) (fun v s₁ hv => ?_) fun _ _ e => e))
  obtain ⟨dC, ks, ws, h2, k2, rfl, rfl, F2, N2, I2, l2⟩ := hv
  have ne : ∀ (c : Addr) (o : Obj) (v : Option Value), (c, o) ∈ (dC, W.listOf ws.toArray 0) :: [(c1, o1), (c2, o2), (c3, o3)] → o.data = .cell v → dC ≠ c := by
    rintro c o v hm hd rfl
    have e1 := (N2 _ hm).1
    have e2 := (N2 _ (.head _)).1
    rw [e2] at e1
    cases e1
    cases hd
  have q1 := ne c1 o1 v1 (.tail _ (.head _)) d1
  have q2 := ne c2 o2 v2 (.tail _ (.tail _ (.head _))) d2
  have q3 := ne c3 o3 v3 (.tail _ (.tail _ (.tail _ (.head _)))) d3
  refine storeC (s := { s with heap := h2, toks := k2 }) (keep := [(c2, o2), (c3, o3), (dC, W.listOf ws.toArray 0)]) F2 N2 rfl (.tail _ (.head _)) d1 (fun p hp => ?_) fun h3 o1' F3 N3 d1' => ?_
  · rcases List.mem_cons.mp hp with rfl | hp
    · exact ⟨.tail _ (.tail _ (.head _)), Ne.symm n12⟩
    rcases List.mem_cons.mp hp with rfl | hp
    · exact ⟨.tail _ (.tail _ (.tail _ (.head _))), Ne.symm n13⟩
    rw [List.mem_singleton.mp hp]
    exact ⟨.head _, q1⟩
  · exact hQ h3 k2 dC o1' ws ks _ F3 N3 d1' I2 l2 (by simp [n12, n13, n23, Ne.symm q1, Ne.symm q2, Ne.symm q3])

theorem law_s2 {dC : Addr} {o1 o2 o3 : Obj} {ws : List Value} {Q : Flow → Shared → Prop} (F : Fr h₀ L s.heap m) (N : News h₀ L s.heap [(c1, o1), (c2, o2), (c3, o3), (dC, W.listOf ws.toArray 0)]) (hnd : [c1, c2, c3, dC].Nodup)
    (hQ : ∀ (h' : Heap) (k' : Nat) (PA QA TA : Addr) (np nq nt : Nat) (u : Str → Option Value), Fr h₀ L h' (fun y => if y = Str.ofString "parts" then some (.ref PA) else if y = Str.ofString "places" then some (.ref QA) else if y = Str.ofString "told" then some (.ref TA) else u y) →
      News h₀ L h' [(c1, o1), (c2, o2), (c3, o3), (dC, W.listOf ws.toArray 0), (PA, W.listOf #[] np), (QA, W.listOf #[] nq), (TA, W.listOf #[] nt)] → [c1, c2, c3, dC, PA, QA, TA].Nodup →
      wpC (model prog w) (callerA.deeper (lawE L a cd c1 c2 c3)) (execs lawB3 (lawE L a cd c1 c2 c3)) Q { s with heap := h', toks := k' }) :
    wpC (model prog w) (callerA.deeper (lawE L a cd c1 c2 c3)) (execs lawB2 (lawE L a cd c1 c2 c3)) Q s := by
  show wpC _ _ (execs (_ :: lawB3) _) _ _
  refine execs_any (assign3 (h₀ := h₀) rfl ?_)
  refine PyProof.Rows.args_cons (List_ (PyProof.Rows.args_nil (newList_N F N (fun h1 F1 N1 => ?_) (by rw [sizeLine_eq]; show (0 : Nat) ≤ _; omega))))
  refine PyProof.Rows.args_cons (List_ (PyProof.Rows.args_nil (newList_N (s := { s with heap := h1 }) F1 N1 (fun h2 F2 N2 => ?_) (by rw [sizeLine_eq]; show (0 : Nat) ≤ _; omega))))
  refine PyProof.Rows.args_cons (List_ (PyProof.Rows.args_nil (newList_N (s := { s with heap := h2 }) F2 N2 (fun h3 F3 N3 => ?_) (by rw [sizeLine_eq]; show (0 : Nat) ≤ _; omega))))
  have e1 := new_ne N
  have e2 := new_ne N1
  have e3 := new_ne N2
  refine PyProof.Rows.args_nil ⟨_, _, _, _, _, rfl, F3, N3, fun h4 k4 F4 N4 => ?_⟩
  refine hQ h4 k4 s.heap.objs.size h1.objs.size h2.objs.size 0 0 0 _ F4 (news_sub N4 fun p hp => ?_) ?_
  · simp only [List.mem_cons, List.not_mem_nil, or_false] at hp ⊢
    rcases hp with h | h | h | h | h | h | h
    · exact .inr (.inr (.inr (.inl h)))
    · exact .inr (.inr (.inr (.inr (.inl h))))
    · exact .inr (.inr (.inr (.inr (.inr (.inl h)))))
    · exact .inr (.inr (.inr (.inr (.inr (.inr h)))))
    · exact .inr (.inr (.inl h))
    · exact .inr (.inl h)
    · exact .inl h
  · simp only [List.mem_cons, List.not_mem_nil, or_false, forall_eq_or_imp, forall_eq] at e1 e2 e3
    obtain ⟨a1, a2, a3, a4⟩ := e1
    obtain ⟨b0, b1, b2, b3, b4⟩ := e2
    obtain ⟨d00, d0, d1, d2, d3, d4⟩ := e3
    simp only [List.nodup_cons, List.mem_cons, List.not_mem_nil, or_false, not_or, List.nodup_nil, and_true, not_false_eq_true] at hnd ⊢
    obtain ⟨⟨n1, n2, n3⟩, ⟨n4, n5⟩, n6⟩ := hnd
    exact ⟨⟨n1, n2, n3, a1, b1, d1⟩, ⟨n4, n5, a2, b2, d2⟩, ⟨n6, a3, b3, d3⟩, ⟨a4, b4, d4⟩, ⟨b0, d0⟩, d00⟩

theorem law_body1 {l : Addr} {o1 o2 o3 : Obj} {v1 v2 v3 : Option Value} {ns : List Int} {vs : List Value} {Q : Flow → Shared → Prop}
    (G : Gl mg mb h₀) (K : FlOk mg h₀) (K1 : FnOk mg h₀ "_law_sums" smParams smBody smScope) (K2 : FnOk mg h₀ "_law_check" ckParams ckBody ckScope) (K3 : FnOk mg h₀ "_law_joined" jnParams jnBody jnScope) (X : Frag.In [] h₀)
    (F : Fr h₀ L s.heap m) (N : News h₀ L s.heap [(c1, o1), (c2, o2), (c3, o3)]) (hl : h₀.IsList l vs.toArray) (hi : IntsAre vs ns) (hlen : ns.length ≤ 63)
    (d1 : o1.data = .cell v1) (d2 : o2.data = .cell v2) (d3 : o3.data = .cell v3) (n12 : c1 ≠ c2) (n13 : c1 ≠ c3) (n23 : c2 ≠ c3) (eS : m "script" = some (.ref l))
    (hQ : ∀ h' k', (∀ b o, h₀.get? b = some o → h'.get? b = some o) → Q (.ret (.bool true)) { s with heap := h', toks := k' }) :
    wpC (model prog w) (callerA.deeper (lawE L a cd c1 c2 c3)) (execs lawBody (lawE L a cd c1 c2 c3)) Q s := by
  refine @law_s0 prog w s h₀ L a c1 c2 c3 cd m [(c1, o1), (c2, o2), (c3, o3)] l Q F N eS ?_
  intro h1 k1 rA wl rs n0 m1 F1 N1 I1 lr eR eS1
  refine law_s1 (s := { s with heap := h1, toks := k1 }) G X F1 N1 hl hi hlen I1 lr d1 d2 d3 n12 n13 n23 eR eS1 fun h2 k2 dC o1' ws ks m2 F2 N2 d1' I2 l2 hnd => ?_
  refine law_s2 (s := { s with heap := h2, toks := k2 }) F2 N2 hnd fun h3 k3 PA QA TA np nq nt u F3 N3 hnd3 => ?_
  refine law_loop1 (s := { s with heap := h3, toks := k3 }) G K K1 X N3 d1' d2 d3 I2 l2 hnd3 F3 fun h4 k4 rl m4 nx F4 N4 M lo hi => ?_
  exact law_tail (s := { s with heap := h4, toks := k4 }) G K K2 K3 F4 N4 M lo hi d1' I2 l2 hQ
end
end Fl
end

section
open PySem.Calls
namespace Fl

theorem law_cells (n : Nat) : cellsFrom n lawScope.names [] = [(Str.ofString "draw", n + 1 + 1), (Str.ofString "k", n + 1), (Str.ofString "cells", n)] := by rfl

theorem law_call {prog : Program} {w : World} {s : Shared} {mg mb : Str → Option Value} {f l : Addr} {o : Obj} {pm code doc : Value} {ns : List Int} {vs : List Value} {Q : Value → Shared → Prop}
    (G : Gl mg mb s.heap) (K : FlOk mg s.heap) (K1 : FnOk mg s.heap "_law_sums" smParams smBody smScope) (K2 : FnOk mg s.heap "_law_check" ckParams ckBody ckScope) (K3 : FnOk mg s.heap "_law_joined" jnParams jnBody jnScope)
    (ho : s.heap.get? f = some o) (hdat : o.data = .func (docDef "law" lawParams lawBody lawScope pm code doc)) (hcd : s.heap.CodeRec code "law")
    (hl : s.heap.IsList l vs.toArray) (hi : IntsAre vs ns) (hlen : ns.length ≤ 63)
    (hQ : ∀ h' k, (∀ b o, s.heap.get? b = some o → h'.get? b = some o) → Q (.bool true) { s with heap := h', toks := k }) :
    wpC (model prog w) callerA (call (.ref f) [.ref l]) Q s := by
  refine call_ (@code_callC prog w callerA s f o "law" lawParams lawBody lawScope pm code doc [.ref l] [("script", .ref l)] _ (by decide) ho hdat G.nolimit hcd rfl (fun n x hx => ?_) ?_ ?_ rfl rfl rfl)
  · rw [List.mem_singleton.mp hx]
    exact .inl rfl
  · rw [law_cells]; decide
  · intro h₁ tk cells F N C
    rw [law_cells] at C
    cases C with
    | cons a3 C =>
      rename_i o3 _
      cases C with
      | cons a2 C =>
        rename_i o2 _
        cases C with
        | cons a1 C =>
          rename_i o1 _
          cases C
          have e : envOfC "law" lawScope s.heap.objs.size f code = lawE s.heap.objs.size f code (s.heap.objs.size + 1) (s.heap.objs.size + 1 + 1) (s.heap.objs.size + 1 + 1 + 1) := by
            show envX _ _ _ _ _ (cellsFrom _ _ _) = _
            rw [law_cells]
          rw [e] at F ⊢
          have eS : bindL (lawE s.heap.objs.size f code (s.heap.objs.size + 1) (s.heap.objs.size + 1 + 1) (s.heap.objs.size + 1 + 1 + 1)).kindOf [(Str.ofString "script", .ref l)] (fun _ => none) "script" = some (.ref l) := by rfl
          refine @law_body1 prog w { s with heap := h₁, toks := tk } s.heap s.heap.objs.size f (s.heap.objs.size + 1) (s.heap.objs.size + 1 + 1) (s.heap.objs.size + 1 + 1 + 1) code _ mg mb l o1 o2 o3 _ _ _ ns vs _ G K K1 K2 K3 (fun _ _ e => by cases e) F (news_sub N fun p hp => ?_) hl hi hlen a1 a2 a3 (Nat.ne_of_lt (Nat.lt_succ_self _)) (Nat.ne_of_lt (Nat.lt_succ_of_lt (Nat.lt_succ_self _))) (Nat.ne_of_lt (Nat.lt_succ_self _)) eS (fun h' k hk => ⟨_, rfl, hQ h' k hk⟩)
          simp only [List.mem_cons, List.not_mem_nil, or_false] at hp ⊢
          rcases hp with h | h | h <;> simp [h]
end Fl
end

section
open PySem.Calls
namespace FlHead
set_option maxHeartbeats 8000000 in
theorem hold : PySem.Challenge.rw_bs0025_01.Holds := by
  w_on
  o_law
  k_head
  (case hw => w_witness2)
  intro w s₀ s₁ mg mb G Y a o pm cd doc dV kV ho hd hcd hD hmg hgens args vals as hpre hlay hrd hwl hlo
  wrow_args hpre hlay hrd hwl hlo
  rename Heap.IsList _ _ _ => hl
  rename IntsAre _ _ => hI
  rename ¬ (_ < _) => hc
  have e1 : dV = .none := hD.pos.elim (·.2) (fun y => absurd rfl y.1)
  have e2 : kV = .none := hD.kw.elim (·.2) (fun y => absurd rfl y.1)
  subst e1 e2
  have T := G.T
  have GL : Fl.Gl mg mb s₁.heap := by
    refine ⟨T.g, T.b, T.nolimit, T.builtins, ?_, ?_⟩
    · intro x hx
      have hx' := List.contains_iff_mem.mp hx
      simp only [List.mem_cons, List.not_mem_nil, or_false] at hx'
      rcases hx' with rfl | rfl | rfl | rfl | rfl | rfl | rfl <;> exact T.free _ (by decide +kernel) (by decide +kernel) (by decide +kernel) (by decide +kernel) (by decide +kernel)
    · obtain ⟨v, hv, hr⟩ := T.const "_MODX" (.int 4102) (by rfl)
      cases hr s₁.heap with
      | int _ t => exact ⟨t, hv⟩
  have KF : Fl.FlOk mg s₁.heap := by
    obtain ⟨f, o', pm', cd', doc', dV', kV', h1, h2, h3, h4, h5⟩ := G.fn (name := "fletcher_checksum") (d := ⟨"fletcher_checksum", Fl.flParams, Fl.flBody, Fl.flScope, ⟨3, 0, 26, 27⟩⟩) (kw := []) (by rfl)
    have e1 : dV' = .none := h5.pos.elim (·.2) (fun y => absurd rfl y.1)
    have e2 : kV' = .none := h5.kw.elim (·.2) (fun y => absurd rfl y.1)
    subst e1 e2
    exact ⟨f, o', pm', cd', doc', h1, h2, h3, h4⟩
  have K1 : Fl.FnOk mg s₁.heap "_law_sums" Fl.smParams Fl.smBody Fl.smScope := by
    obtain ⟨f, o', pm', cd', doc', dV', kV', h1, h2, h3, h4, h5⟩ := G.fn (name := "_law_sums") (d := ⟨"_law_sums", Fl.smParams, Fl.smBody, Fl.smScope, ⟨28, 0, 35, 65⟩⟩) (kw := []) (by rfl)
    have e1 : dV' = .none := h5.pos.elim (·.2) (fun y => absurd rfl y.1)
    have e2 : kV' = .none := h5.kw.elim (·.2) (fun y => absurd rfl y.1)
    subst e1 e2
    exact ⟨f, o', pm', cd', doc', h1, h2, h3, h4⟩
  have K2 : Fl.FnOk mg s₁.heap "_law_check" Fl.ckParams Fl.ckBody Fl.ckScope := by
    obtain ⟨f, o', pm', cd', doc', dV', kV', h1, h2, h3, h4, h5⟩ := G.fn (name := "_law_check") (d := ⟨"_law_check", Fl.ckParams, Fl.ckBody, Fl.ckScope, ⟨36, 0, 39, 74⟩⟩) (kw := []) (by rfl)
    have e1 : dV' = .none := h5.pos.elim (·.2) (fun y => absurd rfl y.1)
    have e2 : kV' = .none := h5.kw.elim (·.2) (fun y => absurd rfl y.1)
    subst e1 e2
    exact ⟨f, o', pm', cd', doc', h1, h2, h3, h4⟩
  have K3 : Fl.FnOk mg s₁.heap "_law_joined" Fl.jnParams Fl.jnBody Fl.jnScope := by
    obtain ⟨f, o', pm', cd', doc', dV', kV', h1, h2, h3, h4, h5⟩ := G.fn (name := "_law_joined") (d := ⟨"_law_joined", Fl.jnParams, Fl.jnBody, Fl.jnScope, ⟨40, 0, 41, 104⟩⟩) (kw := []) (by rfl)
    have e1 : dV' = .none := h5.pos.elim (·.2) (fun y => absurd rfl y.1)
    have e2 : kV' = .none := h5.kw.elim (·.2) (fun y => absurd rfl y.1)
    subst e1 e2
    exact ⟨f, o', pm', cd', doc', h1, h2, h3, h4⟩
  refine Fl.mono (Fl.law_call (Q := fun v s' => v = .bool true ∧ ∃ h' k, (∀ b o, s₁.heap.get? b = some o → h'.get? b = some o) ∧ s' = { s₁ with heap := h', toks := k }) GL KF K1 K2 K3 ho hd hcd hl hI (by omega) fun h' k hk => ⟨rfl, h', k, hk, rfl⟩) fun v s' hv => ?_
  obtain ⟨rfl, h', k, hk, rfl⟩ := hv
  refine GoodW.toG ⟨.inl ⟨_, .bool true, [], rfl, raisesW_false ?_, .bool true, ?_, unshared_nil⟩, hk, rfl, hgens⟩
  · wrow_none_raised
  · wrow_post
end FlHead
end

set_option maxRecDepth 100000 in
set_option maxHeartbeats 8000000 in
theorem PySem.Challenge.cw_bs0025_01_holds : PySem.Challenge.rw_bs0025_01.Holds := by
  exact FlHead.hold
