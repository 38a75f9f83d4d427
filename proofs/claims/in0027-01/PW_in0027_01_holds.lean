import PyProof.Rows.All
import Wide.All
import OpenK.AllK
import Wide.FinOn
import PySem.Challenge.RW_in0027_01
set_option Elab.async false
set_option linter.all false
set_option maxRecDepth 100000
section PSD
open PySem PySem.W PyProof.Rows PySem.Calls
namespace Mine
noncomputable abbrev PP : Program := PySem.Challenge.pw_in0027_01
theorem sd_a : (sreFenced PP.main && ((moduleNames PP.main.body).isEmpty || lookedIntoSs (moduleNames PP.main.body) PP.main.body)) = true := by kernel_rfl
theorem sd_b : namesResolve PP = true := by kernel_rfl
theorem sd_c : PP.boundNames.all (fun n => !worldNames.contains n) = true := by kernel_rfl
theorem sd_d : noRoadLSs { strict := !(importedModules PP.main.body).all cThrough.contains, foot := none, bare := (["vars", "dir", "locals"] : List Str).filter (readsOut PP PP.main.body) } PP.main.body = true := by kernel_rfl
theorem sd_e : namesMeet PP PP.main.body (fun _ n => attrL n) = true := by kernel_rfl
theorem sd_looks : looksOpen PP = true := by
  unfold looksOpen
  exact look_both (look_both (look_both (look_both sd_a sd_b) sd_c) sd_d) sd_e
theorem sd_part : PySem.Challenge.rw_in0027_01.row.partSaid = true := by
  unfold OpenRow.partSaid
  rw [show looksOpen PySem.Challenge.rw_in0027_01.row.prog = true from sd_looks]
  kernel_rfl
theorem sd_row : PySem.Challenge.rw_in0027_01.row.wellSaid = true := by
  unfold OpenRow.wellSaid
  rw [sd_part]
  kernel_rfl
theorem said_law : PySem.Challenge.rw_in0027_01.wellSaid = true := by
  unfold OpenLaw.wellSaid
  rw [sd_row]
  kernel_rfl
theorem prom_law : PySem.Challenge.rw_in0027_01.row.toRowW.promised := ⟨[ofPy (PyData.list [])], by decide +kernel, by decide +kernel⟩
end Mine
end PSD
section PW0
open PySem PySem.W PyProof.Rows PySem.Calls
open Sem (wp)
namespace Mine
noncomputable def badIds : List String := ["bytearray.__contains__", "bytearray.__mod__", "bytearray.__rmod__", "_struct.pack_into.held", "bytearray.find.held"] ++ Builtin.Bytes.decodersThatHold
noncomputable def badC : Code → Bool
  | .builtin id _ => badIds.contains id
  | _ => false
noncomputable def bad (B : Bool) (c : Code) : Bool := B && badC c
noncomputable def Clean (B : Bool) (Γ : Ctx) : Prop := bad B Γ.code = false ∧ ∀ x ∈ Γ.below, bad B x.1 = false
noncomputable def CleanB (B : Bool) (Γ : Ctx) : Prop := ∀ x ∈ Γ.below, bad B x.1 = false
noncomputable def wpC {α : Type} (B : Bool) (M : Model) (A : Around) (t : Sem α) (Q : α → Shared → Prop) (E : Value → Shared → Prop) (s : Shared) : Prop :=
  ∀ Γ p, Γ.In A → Clean B Γ → wp M Γ t (fun a _ s' => Q a s') (fun e _ s' => E e s') p s
noncomputable def codeC (B : Bool) (M : Model) (A : Around) (c : Code) (R : Result → Shared → Prop) (s : Shared) : Prop :=
  ∀ Γ p, Γ.code = c → Γ.Below A → CleanB B Γ → wpCode M Γ R p s
section
variable {α β : Type} {B : Bool} {M : Model} {A : Around} {E : Value → Shared → Prop} {s : Shared} {env : Env}
theorem wpC_of {t : Sem α} {Q : α → Shared → Prop} (h : wpAny M A t Q E s) : wpC B M A t Q E s := fun Γ p hΓ _ => h Γ p hΓ
theorem codeC_of {c : Code} {R : Result → Shared → Prop} (h : codeAny M A c R s) : codeC B M A c R s := fun Γ p hc hΓ _ => h Γ p hc hΓ
theorem wpAny_of {t : Sem α} {Q : α → Shared → Prop} (h : wpC false M A t Q E s) : wpAny M A t Q E s := fun Γ p hΓ => h Γ p hΓ ⟨rfl, fun _ _ => rfl⟩
theorem codeAny_of {c : Code} {R : Result → Shared → Prop} (h : codeC false M A c R s) : codeAny M A c R s := fun Γ p hc hΓ => h Γ p hc hΓ fun _ _ => rfl
theorem wpC_pure {a : α} {Q : α → Shared → Prop} (h : Q a s) : wpC B M A (pure a) Q E s := fun _ _ _ _ => h
theorem wpC_throw {e : Value} {Q : α → Shared → Prop} (h : E e s) : wpC B M A (throw e : Sem α) Q E s := fun _ _ _ _ => h
theorem wpC_mono {t : Sem α} {Q Q' : α → Shared → Prop} {E' : Value → Shared → Prop} (h : wpC B M A t Q E s)
    (hQ : ∀ a s, Q a s → Q' a s) (hE : ∀ e s, E e s → E' e s) : wpC B M A t Q' E' s :=
  fun Γ p hΓ hc => Sem.wp_mono M Γ t (fun a _ s => hQ a s) (fun e _ s => hE e s) p s (h Γ p hΓ hc)
theorem wpC_bind {m : Sem α} {f : α → Sem β} {Q : β → Shared → Prop} (h : wpC B M A m (fun a s' => wpC B M A (f a) Q E s') E s) :
    wpC B M A (m >>= f) Q E s := fun Γ p hΓ hc => by
  rw [Sem.wp_bind']
  exact Sem.wp_mono M Γ m (fun a p' s' h' => h' Γ p' hΓ hc) (fun _ _ _ h' => h') p s (h Γ p hΓ hc)
theorem wpC_onRaise {m : Sem α} {k : Value → Sem Unit} {Q : α → Shared → Prop}
    (h : wpC B M A m Q (fun e s' => wpC B M A (k e) (fun _ s'' => E e s'') E s') s) : wpC B M A (m.onRaise k) Q E s := fun Γ p hΓ hc => by
  rw [Sem.wp_onRaise]
  exact Sem.wp_mono M Γ m (fun _ _ _ h' => h') (fun e p' s' h' => h' Γ p' hΓ hc) p s (h Γ p hΓ hc)
theorem wpC_point {Q : Unit → Shared → Prop} (h : Q () s) : wpC B M A point Q E s := fun _ _ _ _ => h
theorem wpC_standAt {pos : Pos} {Q : Unit → Shared → Prop} (h : Q () s) : wpC B M A (standAt pos) Q E s := fun _ _ _ _ => h
theorem wpC_of_eq {t : Sem α} {a : α} {Q : α → Shared → Prop} (e : t = pure a) (h : Q a s) : wpC B M A t Q E s := by rw [e]; exact wpC_pure h
theorem codeC_of_tree {c : Code} {R : Result → Shared → Prop} (hb : bad B c = false)
    (h : wpC B M (A.under c) (M.den c) (fun fin s' => match fin with | .done f => R (.ok f) s' | .again c' => c'.quiet = true ∧ codeC B M A c' R s')
      (fun e s' => R (.error e) s') s) : codeC B M A c R s := fun Γ p hc hΓ hcl => by
  rw [wpCode_iff_wp, hc]
  refine Sem.wp_mono M Γ _ (fun fin p' s' h' => ?_) (fun _ _ _ h' => h') p s (h Γ p (hc ▸ hΓ.in) ⟨by rw [hc]; exact hb, hcl⟩)
  cases fin with
  | done f => exact h'
  | again c' => exact ⟨h'.1, h'.2 (Γ.goto c') p' rfl (hΓ.goto c') hcl⟩
theorem wpC_run {c : Code} {h : Option Value} {Q : Flow → Shared → Prop}
    (hc : codeC B M (A.mark h) c (fun r s' => match r with | .ok f => Q f s' | .error e => E e s') s) (hnb : h ≠ some byPass := by intro x; cases x) :
    wpC B M A (run c h) Q E s :=
  fun Γ p hΓ hcl => by
    rw [Sem.wp_run]
    exact hc _ p rfl (hΓ.enter c h p hnb) (fun x hx => by
      rcases List.mem_cons.mp hx with rfl | hx
      · exact hcl.1
      · exact hcl.2 x hx)
theorem wpC_execs_nil {Q : Flow → Shared → Prop} (h : Q .next s) : wpC B M A (execs [] env) Q E s := fun _ _ _ _ => h
theorem wpC_execs_cons {st rest} {Q : Flow → Shared → Prop}
    (h : wpC B M A (exec st env) (fun f s' => match f with | .next => wpC B M A (execs rest env) Q E s' | f => Q f s') E s) :
    wpC B M A (execs (st :: rest) env) Q E s := fun Γ p hΓ hcl => by
  rw [execs_cons, Sem.wp_bind']
  refine Sem.wp_mono M Γ _ (fun f p' s' h' => ?_) (fun _ _ _ h' => h') _ _ (h Γ p hΓ hcl)
  cases f <;> first | exact h' Γ p' hΓ hcl | exact h'
theorem execs_one {st : Stmt} {rest : List Stmt} {Q : Flow → Shared → Prop} (h : wpC B M A (execs [st] env) (fun f s' => match f with | .next => wpC B M A (execs rest env) Q E s' | f => Q f s') E s) : wpC B M A (execs (st :: rest) env) Q E s := by
  intro Γ p hΓ hcl
  have z := h Γ p hΓ hcl
  rw [execs_cons, Sem.wp_bind'] at z ⊢
  refine Sem.wp_mono M Γ _ (fun f p' s' hf => ?_) (fun _ _ _ q => q) _ _ z
  cases f with
  | next => exact hf Γ p' hΓ hcl
  | _ => exact hf
theorem wpC_If {test body orelse pos} {Q : Flow → Shared → Prop}
    (h : wpC B M A (isTrue test env (eval test env)) (fun b s₂ => if b then wpC B M A (execs body env) Q E s₂ else wpC B M A (execs orelse env) Q E s₂) E s) :
    wpC B M A (exec (.If test body orelse pos) env) Q E s := fun Γ p hΓ hcl => by
  simp only [exec_If, Sem.wp_bind', Sem.wp_cmd_standAt]
  refine Sem.wp_mono M Γ _ (fun b p₂ s₂ h₂ => ?_) (fun _ _ _ h' => h') _ _ (h Γ _ hΓ hcl)
  cases b <;> exact h₂ Γ p₂ hΓ hcl
theorem wpC_isTrue_Compare1 {l op r pos whole} {Q : Bool → Shared → Prop}
    (h : wpC B M A (eval l env) (fun a s₁ => wpC B M A (eval r env) (fun b s₂ => wpC B M A (compareOp op a b)
      (fun c s₃ => wpC B M A (truthy c) Q E s₃) E s₂) E s₁) E s)
    (hm : behindInMarks op r = false := by with_unfolding_all rfl) : wpC B M A (isTrue (.Compare l [op] [r] pos) env whole) Q E s := fun Γ p hΓ hcl => by
  simp only [isTrue_Compare1, markedBehindIn_of_false hm, Sem.wp_bind', Sem.wp_holding, Sem.wp_cmd_standAt, Sem.wp_operate]
  exact Sem.wp_mono M Γ _ (fun a p₁ s₁ h₁ => Sem.wp_mono M Γ _ (fun b _ s₂ h₂ => Sem.wp_mono M Γ _ (fun c p₃ s₃ h₃ => h₃ Γ p₃ hΓ hcl)
    (fun _ _ _ h' => h') _ _ (h₂ Γ _ hΓ hcl)) (fun _ _ _ h' => h') _ _ (h₁ Γ p₁ hΓ hcl)) (fun _ _ _ h' => h') _ _ (h Γ p hΓ hcl)
theorem wpC_Return_some {e pos} {Q : Flow → Shared → Prop} (h : wpC B M A (eval e env) (fun v => Q (.ret v)) E s) :
    wpC B M A (exec (.Return (some e) pos) env) Q E s := fun Γ p hΓ hcl => by
  simp only [exec_Return_some, Sem.wp_bind', Sem.wp_cmd_standAt, Sem.wp_pure']; exact h Γ _ hΓ hcl
theorem codeC_loop {c : Code} {R : Result → Shared → Prop} (hq : c.quiet = true) (hb : bad B c = false) (I : Nat → Shared → Prop)
    (turn : ∀ n s, I n s → wpC B M (A.under c) (M.den c)
      (fun fin s' => match fin with | .done f => R (.ok f) s' | .again c' => (c' = c ∧ ∃ m, m < n ∧ I m s') ∨ (c'.quiet = true ∧ codeC B M A c' R s')) (fun e s' => R (.error e) s') s)
    (n : Nat) (h : I n s) : codeC B M A c R s := by
  induction n using Nat.strongRecOn generalizing s with
  | ind n ih =>
    refine codeC_of_tree hb (wpC_mono (turn n s h) (fun fin s' hf => ?_) fun _ _ h' => h')
    cases fin with
    | done f => exact hf
    | again c' =>
      rcases hf with ⟨rfl, m, hm, hI⟩ | hf
      · exact ⟨hq, ih m hm hI⟩
      · exact hf
theorem wpC_runOwn {c : Code} {h : Option Value} {Q : Flow → Shared → Prop}
    (hc : codeC B M (A.mark h) c (fun r s' => match r with | .ok f => Q f s' | .error _ => False) s) (hnb : h ≠ some byPass := by intro x; cases x) :
    wpC B M A (runOwn c env h) Q E s := by
  unfold runOwn
  exact wpC_onRaise (wpC_mono (wpC_run (E := fun _ _ => False) hc hnb) (fun _ _ q => q) fun _ _ q => q.elim)
theorem wpC_While {test body orelse pos} {Q : Flow → Shared → Prop}
    (h : codeC B M A (.whileLoop test body orelse env) (fun r s' => match r with | .ok f => Q f s' | .error _ => False) s) :
    wpC B M A (exec (.While test body orelse pos) env) Q E s := by
  rw [exec_While]; exact wpC_bind (wpC_standAt (wpC_runOwn h))
end
section
variable {α : Type} {B : Bool} {prog : Program} {w : World} {A : Around} {Q : α → Shared → Prop} {E : Value → Shared → Prop} {s : Shared}
theorem x_callC {c : Code} {hd : Option Value} {g : Bool} {l : List Value} {k : Result → Sem α} (hc : codeC B (model prog w) (A.mark hd) c (fun r s' => wpC B (model prog w) A (k r) Q E s') s) (hnb : hd ≠ some byPass) :
    wpC B (model prog w) A (.call c hd g l k) Q E s := fun Γ p hΓ hcl => wpCode_mono (fun _ _ q => q Γ p hΓ hcl) (hc _ p rfl (hΓ.enter c hd p hnb) (fun x hx => by
      rcases List.mem_cons.mp hx with rfl | hx
      · exact hcl.1
      · exact hcl.2 x hx))
theorem x_ruleC {t : String} {k : Unit → Sem α} (h : wpC B (model prog w) A (k ()) Q E s) : wpC B (model prog w) A (.rule t k) Q E s := fun Γ p hΓ hc => h Γ p hΓ hc
theorem x_atC {q : Pos} {k : Unit → Sem α} (h : wpC B (model prog w) A (k ()) Q E s) : wpC B (model prog w) A (.at q k) Q E s := fun Γ _ hΓ hc => h Γ q hΓ hc
theorem x_pointC {l : List Value} {k : Unit → Sem α} (h : wpC B (model prog w) A (k ()) Q E s) : wpC B (model prog w) A (.point l k) Q E s := fun Γ p hΓ hc => h Γ p hΓ hc
theorem x_askC {k : Setting → Sem α} (h : wpC B (model prog w) A (k ⟨prog, w.params⟩) Q E s) : wpC B (model prog w) A (.ask k) Q E s := fun Γ p hΓ hc => h Γ p hΓ hc
theorem x_freshC {k : Tok → Sem α} (h : wpC B (model prog w) A (k s.toks) Q E { s with toks := s.toks + 1 }) : wpC B (model prog w) A (.fresh k) Q E s := fun Γ p hΓ hc => h Γ p hΓ hc
theorem x_loadC {a : Addr} {q : Option Value} {k : Obj → Sem α} {o : Obj} (ho : s.heap.get? a = some o) (h : wpC B (model prog w) A (k o) Q E s) : wpC B (model prog w) A (.load a q k) Q E s :=
  wpC_bind (m := loadPart a q) (f := k) (wpC_of (wpAny_loadPart ho h))
theorem x_codeC {c : Code} {R : Result → Shared → Prop} (hb : bad B c = false) (h : wpC B (model prog w) (A.under c) (denote table c) (fun fin s' => match fin with | .done f => R (.ok f) s' | .again c' => c'.quiet = true ∧ codeC B (model prog w) A c' R s') (fun e s' => R (.error e) s') s) :
    codeC B (model prog w) A c R s := codeC_of_tree hb h
theorem codeC_whileLoop {test body orelse env} {R : Result → Shared → Prop} (I : Nat → Shared → Prop)
    (turn : ∀ n s, I n s →
      wpC B (model prog w) A (isTrue test env (eval test env)) (fun b s₂ =>
        if b then wpC B (model prog w) A (execs body env) (fun f s₃ => match f with
            | .next | .cont => ∃ m, m < n ∧ I m s₃
            | .brk => R (.ok .next) s₃
            | .ret v => R (.ok (.ret v)) s₃) (fun _ _ => False) s₂
        else wpC B (model prog w) A (execs orelse env) (fun f s₃ => R (.ok f) s₃) (fun _ _ => False) s₂)
        (fun _ _ => False) s)
    (n : Nat) (h : I n s) : codeC B (model prog w) A (.whileLoop test body orelse env) R s := by
  refine codeC_loop rfl (by cases B <;> rfl) I (fun n s hI => ?_) n h
  show wpC B _ A ((whileTurn test body orelse env).onRaise (fun x => do noteFrame x env; theTreesLotGoes x)) _ _ s
  refine wpC_onRaise (wpC_mono (E := fun _ _ => False) ?_ (fun _ _ q => q) fun _ _ q => q.elim)
  simp only [whileTurn]
  refine wpC_bind (wpC_mono (turn n s hI) (fun b s₂ h₂ => ?_) fun _ _ h' => h')
  cases b with
  | false =>
    simp only [Bool.false_eq_true, if_false] at h₂ ⊢
    exact wpC_bind (wpC_mono h₂ (fun f s₃ h₃ => wpC_pure h₃) fun _ _ h' => h')
  | true =>
    simp only [if_true] at h₂ ⊢
    refine wpC_bind (wpC_mono h₂ (fun f s₃ h₃ => ?_) fun _ _ h' => h')
    cases f with
    | next => exact wpC_pure (.inl ⟨rfl, h₃⟩)
    | cont => exact wpC_pure (.inl ⟨rfl, h₃⟩)
    | brk => exact wpC_pure h₃
    | ret v => exact wpC_pure h₃
end
end Mine
end PW0
section PS3
open PySem PySem.W PyProof.Rows PySem.Calls
namespace Mine
noncomputable abbrev Cells := List (Addr × Obj)
noncomputable abbrev Sta := Addr → Option Obj
noncomputable def Sta.In (K : Sta) (h : Heap) : Prop := ∀ a o, K a = some o → h.get? a = some o
noncomputable def cmdK {β R : Type} (K : Sta) (g : Setting) (N : Nat) (is : List Nat) (cs : Cells) (n tk : Nat) (ob : List (Addr × Addr)) (no : R) (yes : Sem β → List Nat → Cells → Nat → Nat → List (Addr × Addr) → R) : Sem β → R
  | .rule _ k => yes (k ()) is cs n tk ob
  | .at _ k => yes (k ()) is cs n tk ob
  | .point _ k => yes (k ()) is cs n tk ob
  | .ask k => yes (k g) is cs n tk ob
  | .fresh k => yes (k tk) is cs n (tk + 1) ob
  | .handled own k => match own with
    | false => yes (k none) is cs n tk ob
    | true => no
  | .load a _ k => match is with
    | [] => no
    | i :: is => match i with
      | 0 => match K a with
        | some o => yes (k o) is cs n tk ob
        | none => no
      | i + 1 => match cs[i]? with
        | some p => yes (k p.2) is cs n tk ((a, p.1) :: ob)
        | none => no
  | .loadIfAlive a k => match is with
    | [] => no
    | i :: is => match i with
      | 0 => match K a with
        | some o => yes (k (some o)) is cs n tk ob
        | none => no
      | i + 1 => match cs[i]? with
        | some p => yes (k (some p.2)) is cs n tk ((a, p.1) :: ob)
        | none => no
  | .update a _ f k => match is with
    | [] => no
    | i :: is => match i with
      | 0 => no
      | i + 1 => match cs[i]? with
        | some p => match (f p.2).isFreed with
          | false => yes (k ()) is (cs.set i (p.1, f p.2)) n tk ((a, p.1) :: ob)
          | true => no
        | none => no
  | .alloc o k => match o.isFreed with
    | false => yes (k (N + n)) is (cs ++ [(N + n, o)]) (n + 1) tk ob
    | true => no
  | _ => no
noncomputable def denZ : Code → Sem Fin := PySem.W.ZFast.zw11892475500146522536 PySem.W.ZFast.tableZ
theorem denZ_eq : denote table = denZ := (congrFun PySem.W.ZFast.ze11892475500146522536 table).trans (congrArg PySem.W.ZFast.zw11892475500146522536 PySem.W.ZFast.tableZ_eq)
noncomputable def fb (s : String) : Nat := match s.toByteArray.data.toList with | b :: _ => b.toNat | [] => 0
noncomputable def okC : Code → Bool
  | .builtin id _ => match Nat.beq (fb id) 98 || (Nat.beq (fb id) 95 || Nat.beq (fb id) 99) with
    | false => true
    | true => !(("claim.caller" :: badIds).contains id)
  | _ => true
noncomputable def mkC (fd : FuncData) (env : Env) : Code := match fd.body with
  | .stmts b => .func b env
  | .expr e => .expr e env
noncomputable def entryT (f : Addr) (fd : FuncData) (args : Args) : Sem Env := do
  let v ← PySem.W.ZFast.zw6609576154772507232 fd.code 1
  match v with
  | .str q _ => do
    let b ← PySem.W.ZFast.zw9782568553167038054 fd args
    PySem.W.ZFast.zw11113344188204177931 fd.scope fd.globals fd.closure b (q ++ Str.ofString ".<locals>.") (some f) fd.code none fd.builtins
  | _ => unsupported "entry"
inductive Cur (α : Type) where
  | bot (t : Sem α)
  | nest (u : Sem Fin) (ks : List (Result → Sem Fin)) (kb : Result → Sem α)
  | entry (u : Sem Env) (mk : Env → Code) (ks : List (Result → Sem Fin)) (kb : Result → Sem α)

noncomputable def pop {α : Type} (r : Result) : List (Result → Sem Fin) → (Result → Sem α) → Cur α
  | [], kb => .bot (kb r)
  | k :: ks, kb => .nest (k r) ks kb

noncomputable def goes (c : Code) (is : List Nat) : Bool := match c with
  | .call (.ref _) _ => !is.isEmpty
  | _ => true
structure Res (α : Type) where
  cur : Cur α
  is : List Nat
  cs : Cells
  n : Nat
  tk : Nat
  ob : List (Addr × Addr)
  rm : Nat

noncomputable def into {α : Type} (K : Sta) (is : List Nat) (cs : Cells) (ob : List (Addr × Addr)) (c : Code) (ks : List (Result → Sem Fin)) (kb : Result → Sem α) : Cur α × List Nat × List (Addr × Addr) :=
  match c with
  | .call (.ref f) args => match is with
    | [] => (.nest (denZ c) ks kb, is, ob)
    | i :: r => match (match i with
        | 0 => (K f).map fun o => (o, ob)
        | i + 1 => (cs[i]?).map fun (p : Addr × Obj) => (p.2, (f, p.1) :: ob)) with
      | some (o, ob') => match o.data with
        | .func fd => match fd.scope.isGenerator, fd.scope.isCoroutine, fd.code with
          | false, false, .ref _ => (.entry (entryT f fd args) (mkC fd) ks kb, r, ob')
          | _, _, _ => (.nest (denZ c) ks kb, is, ob)
        | _ => (.nest (denZ c) ks kb, is, ob)
      | none => (.nest (denZ c) ks kb, is, ob)
  | c => (.nest (denZ c) ks kb, is, ob)

noncomputable def intoK {α R : Type} (K : Sta) (is : List Nat) (cs : Cells) (ob : List (Addr × Addr)) (c : Code) (ks : List (Result → Sem Fin)) (kb : Result → Sem α) (yes : Cur α → List Nat → List (Addr × Addr) → R) : R :=
  match c with
  | .call (.ref f) args => match is with
    | [] => yes (.nest (denZ c) ks kb) is ob
    | i :: r => match i with
      | 0 => match K f with
        | some o => match o.data with
          | .func fd => match fd.scope.isGenerator, fd.scope.isCoroutine, fd.code with
            | false, false, .ref _ => yes (.entry (entryT f fd args) (mkC fd) ks kb) r ob
            | _, _, _ => yes (.nest (denZ c) ks kb) is ob
          | _ => yes (.nest (denZ c) ks kb) is ob
        | none => yes (.nest (denZ c) ks kb) is ob
      | i + 1 => match cs[i]? with
        | some p => match p.2.data with
          | .func fd => match fd.scope.isGenerator, fd.scope.isCoroutine, fd.code with
            | false, false, .ref _ => yes (.entry (entryT f fd args) (mkC fd) ks kb) r ((f, p.1) :: ob)
            | _, _, _ => yes (.nest (denZ c) ks kb) is ob
          | _ => yes (.nest (denZ c) ks kb) is ob
        | none => yes (.nest (denZ c) ks kb) is ob
  | c => yes (.nest (denZ c) ks kb) is ob
theorem intoK_eq {α R : Type} (K : Sta) (is : List Nat) (cs : Cells) (ob : List (Addr × Addr)) (c : Code) (ks : List (Result → Sem Fin)) (kb : Result → Sem α) (yes : Cur α → List Nat → List (Addr × Addr) → R) :
    intoK K is cs ob c ks kb yes = yes (into K is cs ob c ks kb).1 (into K is cs ob c ks kb).2.1 (into K is cs ob c ks kb).2.2 := by
  cases c with
  | call f args =>
    cases f with
    | ref a =>
      cases is with
      | nil => rfl
      | cons i r =>
        cases i with
        | zero =>
          simp only [intoK, into]
          cases h : K a with
          | none => rfl
          | some o =>
            simp only [Option.map_some]
            cases o.data <;> try rfl
            simp only
            split <;> rfl
        | succ i =>
          simp only [intoK, into]
          cases h : cs[i]? with
          | none => rfl
          | some p =>
            simp only [Option.map_some]
            cases p.2.data <;> try rfl
            simp only
            split <;> rfl
    | _ => rfl
  | _ => rfl
noncomputable def exK {α : Type} (K : Sta) (g : Setting) (N : Nat) : Nat → Nat → Cur α → List Nat → Cells → Nat → Nat → List (Addr × Addr) → Res α
  | 0, rm, cur, is, cs, n, tk, ob => ⟨cur, is, cs, n, tk, ob, rm⟩
  | m + 1, rm, .bot t, is, cs, n, tk, ob => cmdK K g N is cs n tk ob (match t with
      | .call c none gd l k => match rm with
        | 0 => ⟨.bot (.call c none gd l k), is, cs, n, tk, ob, 0⟩
        | rm + 1 => match okC c && goes c is with
          | true => intoK K is cs ob c [] k fun cur is ob => exK K g N m rm cur is cs n tk ob
          | false => ⟨.bot (.call c none gd l k), is, cs, n, tk, ob, rm + 1⟩
      | t => ⟨.bot t, is, cs, n, tk, ob, rm⟩) (fun t is cs n tk ob => exK K g N m rm (.bot t) is cs n tk ob) t
  | m + 1, rm, .nest u ks kb, is, cs, n, tk, ob => cmdK K g N is cs n tk ob (match u with
      | .pure fin => match fin with
        | .done f => exK K g N m (rm + 1) (pop (.ok f) ks kb) is cs n tk ob
        | .again c' => match c'.quiet && okC c' && goes c' is with
          | true => intoK K is cs ob c' ks kb fun cur is ob => exK K g N m rm cur is cs n tk ob
          | false => ⟨.nest (.pure (.again c')) ks kb, is, cs, n, tk, ob, rm⟩
      | .raise e => exK K g N m (rm + 1) (pop (.error e) ks kb) is cs n tk ob
      | .call c none gd l k => match rm with
        | 0 => ⟨.nest (.call c none gd l k) ks kb, is, cs, n, tk, ob, 0⟩
        | rm + 1 => match okC c && goes c is with
          | true => intoK K is cs ob c (k :: ks) kb fun cur is ob => exK K g N m rm cur is cs n tk ob
          | false => ⟨.nest (.call c none gd l k) ks kb, is, cs, n, tk, ob, rm + 1⟩
      | u => ⟨.nest u ks kb, is, cs, n, tk, ob, rm⟩) (fun t is cs n tk ob => exK K g N m rm (.nest t ks kb) is cs n tk ob) u
  | m + 1, rm, .entry u mk ks kb, is, cs, n, tk, ob => cmdK K g N is cs n tk ob (match u with
      | .pure env => match (mk env).quiet && okC (mk env) with
        | true => exK K g N m rm (.nest (denZ (mk env)) ks kb) is cs n tk ob
        | false => ⟨.entry (.pure env) mk ks kb, is, cs, n, tk, ob, rm⟩
      | u => ⟨.entry u mk ks kb, is, cs, n, tk, ob, rm⟩) (fun t is cs n tk ob => exK K g N m rm (.entry t mk ks kb) is cs n tk ob) u
theorem exK_bot {α : Type} (K : Sta) (g : Setting) (N m rm : Nat) (t : Sem α) (is : List Nat) (cs : Cells) (n tk : Nat) (ob : List (Addr × Addr)) : exK K g N (m + 1) rm (.bot t) is cs n tk ob = cmdK K g N is cs n tk ob (match t with
      | .call c none gd l k => match rm with
        | 0 => ⟨.bot (.call c none gd l k), is, cs, n, tk, ob, 0⟩
        | rm + 1 => match okC c && goes c is with
          | true => intoK K is cs ob c [] k fun cur is ob => exK K g N m rm cur is cs n tk ob
          | false => ⟨.bot (.call c none gd l k), is, cs, n, tk, ob, rm + 1⟩
      | t => ⟨.bot t, is, cs, n, tk, ob, rm⟩) (fun t is cs n tk ob => exK K g N m rm (.bot t) is cs n tk ob) t := rfl
theorem exK_nest {α : Type} (K : Sta) (g : Setting) (N m rm : Nat) (u : Sem Fin) (ks : List (Result → Sem Fin)) (kb : Result → Sem α) (is : List Nat) (cs : Cells) (n tk : Nat) (ob : List (Addr × Addr)) : exK K g N (m + 1) rm (.nest u ks kb) is cs n tk ob = cmdK K g N is cs n tk ob (match u with
      | .pure fin => match fin with
        | .done f => exK K g N m (rm + 1) (pop (.ok f) ks kb) is cs n tk ob
        | .again c' => match c'.quiet && okC c' && goes c' is with
          | true => intoK K is cs ob c' ks kb fun cur is ob => exK K g N m rm cur is cs n tk ob
          | false => ⟨.nest (.pure (.again c')) ks kb, is, cs, n, tk, ob, rm⟩
      | .raise e => exK K g N m (rm + 1) (pop (.error e) ks kb) is cs n tk ob
      | .call c none gd l k => match rm with
        | 0 => ⟨.nest (.call c none gd l k) ks kb, is, cs, n, tk, ob, 0⟩
        | rm + 1 => match okC c && goes c is with
          | true => intoK K is cs ob c (k :: ks) kb fun cur is ob => exK K g N m rm cur is cs n tk ob
          | false => ⟨.nest (.call c none gd l k) ks kb, is, cs, n, tk, ob, rm + 1⟩
      | u => ⟨.nest u ks kb, is, cs, n, tk, ob, rm⟩) (fun t is cs n tk ob => exK K g N m rm (.nest t ks kb) is cs n tk ob) u := rfl
theorem exK_entry {α : Type} (K : Sta) (g : Setting) (N m rm : Nat) (u : Sem Env) (mk : Env → Code) (ks : List (Result → Sem Fin)) (kb : Result → Sem α) (is : List Nat) (cs : Cells) (n tk : Nat) (ob : List (Addr × Addr)) : exK K g N (m + 1) rm (.entry u mk ks kb) is cs n tk ob = cmdK K g N is cs n tk ob (match u with
      | .pure env => match (mk env).quiet && okC (mk env) with
        | true => exK K g N m rm (.nest (denZ (mk env)) ks kb) is cs n tk ob
        | false => ⟨.entry (.pure env) mk ks kb, is, cs, n, tk, ob, rm⟩
      | u => ⟨.entry u mk ks kb, is, cs, n, tk, ob, rm⟩) (fun t is cs n tk ob => exK K g N m rm (.entry t mk ks kb) is cs n tk ob) u := rfl
noncomputable abbrev ex {α : Type} (K : Sta) (g : Setting) (N : Nat) (m rm : Nat) (cur : Cur α) (is : List Nat) (cs : Cells) (n tk : Nat) (ob : List (Addr × Addr)) : Res α := exK K g N m rm cur is cs n tk ob
theorem exK_eq {α : Type} (K : Sta) (g : Setting) (N : Nat) (m rm : Nat) (cur : Cur α) (is : List Nat) (cs : Cells) (n tk : Nat) (ob : List (Addr × Addr)) : exK K g N m rm cur is cs n tk ob = ex K g N m rm cur is cs n tk ob := rfl

structure Hp (K : Sta) (h : Heap) (cs : Cells) : Prop where
  st : K.In h
  ce : ∀ p ∈ cs, h.get? p.1 = some p.2
  nd : (cs.map (·.1)).Nodup
  off : ∀ p ∈ cs, K p.1 = none

noncomputable def Kept (h h' : Heap) (cs : Cells) : Prop := ∀ b o, h.get? b = some o → b ∉ cs.map (·.1) → h'.get? b = some o
theorem Hp.alloc {K : Sta} {h : Heap} {cs : Cells} (H : Hp K h cs) {o : Obj} (hf : o.isFreed = false) : Hp K (h.push o) (cs ++ [(h.objs.size, o)]) := by
  refine ⟨fun a ob e => Heap.get?_push_of_some _ (H.st a ob e), fun p hp => ?_, ?_, fun p hp => ?_⟩
  · rcases List.mem_append.mp hp with hp | hp
    · exact Heap.get?_push_of_some _ (H.ce p hp)
    · obtain rfl := List.mem_singleton.mp hp
      exact Heap.get?_push_size _ hf
  · rw [List.map_append, List.nodup_append]
    refine ⟨H.nd, by simp, ?_⟩
    intro a ha b hb
    obtain ⟨p, hp, rfl⟩ := List.mem_map.mp ha
    simp only [List.map_cons, List.map_nil, List.mem_singleton] at hb
    subst hb
    exact Nat.ne_of_lt (Heap.lt_size (H.ce p hp))
  · rcases List.mem_append.mp hp with hp | hp
    · exact H.off p hp
    · obtain rfl := List.mem_singleton.mp hp
      cases q : K h.objs.size with
      | none => rfl
      | some o' => exact absurd (Heap.lt_size (H.st _ _ q)) (Nat.lt_irrefl _)
theorem map_set_fst (cs : Cells) (i : Nat) (p : Addr × Obj) (o : Obj) (e : cs[i]? = some p) : (cs.set i (p.1, o)).map (·.1) = cs.map (·.1) := by
  rw [List.map_set]
  refine List.ext_getElem? fun j => ?_
  rw [List.getElem?_set]
  split
  · rename_i hij
    subst hij
    rw [List.getElem?_map, e]
    split
    · rfl
    · rename_i h
      obtain ⟨hl, _⟩ := List.getElem?_eq_some_iff.mp e
      rw [List.length_map] at h
      exact absurd hl h
  · rfl
theorem Hp.upd {K : Sta} {h : Heap} {cs : Cells} (H : Hp K h cs) {i : Nat} {p : Addr × Obj} (e : cs[i]? = some p) {f : Obj → Obj} (hf : (f p.2).isFreed = false) :
    Hp K (h.update p.1 f) (cs.set i (p.1, f p.2)) := by
  have hp := List.mem_of_getElem? e
  have ho := H.ce p hp
  have hs : Heap.SameBut p.1 h (h.update p.1 f) := Heap.SameBut.update ..
  have ge : (h.update p.1 f).get? p.1 = some (f p.2) := by first | exact Heap.get?_update_self f ho hf | exact Heap.get?_update_self _ ho hf
  obtain ⟨hl, hge⟩ := List.getElem?_eq_some_iff.mp e
  refine ⟨fun a o q => (hs.2 a fun z => ?_).trans (H.st a o q), fun q hq => ?_, by rw [map_set_fst _ _ _ _ e]; exact H.nd, fun q hq => ?_⟩
  · rw [z] at q; rw [H.off p hp] at q; cases q
  · by_cases hj : q.1 = p.1
    · have hx : (p.1, f p.2) ∈ cs.set i (p.1, f p.2) := List.mem_set hl _
      have : q = (p.1, f p.2) := X.key_unique (by rw [map_set_fst _ _ _ _ e]; exact H.nd) hq hx hj
      subst this; exact ge
    · rcases List.mem_or_eq_of_mem_set hq with hq | rfl
      · exact (hs.2 _ hj).trans (H.ce q hq)
      · exact absurd rfl hj
  · rcases List.mem_or_eq_of_mem_set hq with hq | rfl
    · exact H.off q hq
    · exact H.off p hp
theorem Kept.refl (h : Heap) (cs : Cells) : Kept h h cs := fun _ _ e _ => e

structure Now (K : Sta) (h0 : Heap) (cs0 : Cells) (N : Nat) (h : Heap) (cs : Cells) (n : Nat) : Prop where
  hp : Hp K h cs
  kept : Kept h0 h cs0
  size : h.objs.size = N + n
  low : h0.objs.size ≤ h.objs.size
  new : ∀ p ∈ cs, p.1 ∈ cs0.map (·.1) ∨ h0.objs.size ≤ p.1
theorem Now.start {K : Sta} {h : Heap} {cs : Cells} (H : Hp K h cs) : Now K h cs h.objs.size h cs 0 :=
  ⟨H, Kept.refl _ _, rfl, Nat.le_refl _, fun p hp => .inl (List.mem_map_of_mem hp)⟩
theorem Now.alloc {K : Sta} {h0 : Heap} {cs0 : Cells} {N : Nat} {h : Heap} {cs : Cells} {n : Nat} (W : Now K h0 cs0 N h cs n) {o : Obj} (hf : o.isFreed = false) :
    Now K h0 cs0 N (h.push o) (cs ++ [(N + n, o)]) (n + 1) := by
  rw [← W.size]
  refine ⟨W.hp.alloc hf, fun b ob e hb => Heap.get?_push_of_some _ (W.kept b ob e hb), ?_, ?_, fun p hp => ?_⟩
  · rw [Heap.size_push, W.size, Nat.add_assoc]
  · rw [Heap.size_push]; exact Nat.le_succ_of_le W.low
  · rcases List.mem_append.mp hp with hp | hp
    · exact W.new p hp
    · obtain rfl := List.mem_singleton.mp hp
      exact .inr W.low
theorem Now.upd {K : Sta} {h0 : Heap} {cs0 : Cells} {N : Nat} {h : Heap} {cs : Cells} {n : Nat} (W : Now K h0 cs0 N h cs n) {i : Nat} {p : Addr × Obj} (e : cs[i]? = some p) {f : Obj → Obj} (hf : (f p.2).isFreed = false) :
    Now K h0 cs0 N (h.update p.1 f) (cs.set i (p.1, f p.2)) n := by
  have hs : Heap.SameBut p.1 h (h.update p.1 f) := Heap.SameBut.update ..
  have hp := List.mem_of_getElem? e
  refine ⟨W.hp.upd e hf, fun b ob eb hb => (hs.2 b fun z => ?_).trans (W.kept b ob eb hb), hs.1.trans W.size, Nat.le_trans W.low (Nat.le_of_eq hs.1.symm), fun q hq => ?_⟩
  · subst z
    rcases W.new p hp with h1 | h1
    · exact hb h1
    · exact absurd (Heap.lt_size eb) (Nat.not_lt.mpr h1)
  · rcases List.mem_or_eq_of_mem_set hq with hq | rfl
    · exact W.new q hq
    · exact W.new p hp

section
variable {B : Bool} {prog : Program} {w : World} {K : Sta} {h0 : Heap} {cs0 : Cells} {N : Nat} {gens : Array GenState} {drawn : Drawn} {os : OsState}
inductive CmdR {β R : Type} (K : Sta) (g : Setting) (N : Nat) (is : List Nat) (cs : Cells) (n tk : Nat) (ob : List (Addr × Addr)) (no : R) (yes : Sem β → List Nat → Cells → Nat → Nat → List (Addr × Addr) → R) (t : Sem β) (r : R) : Prop
  | no (e : r = no)
  | yes (t' : Sem β) (is' : List Nat) (cs' : Cells) (n' tk' : Nat) (ob' : List (Addr × Addr)) (e : r = yes t' is' cs' n' tk' ob') (hsub : ∀ p ∈ ob, p ∈ ob')
    (hs : ∀ {B : Bool} {prog : Program} {w : World} {h0 : Heap} {cs0 : Cells} {gens : Array GenState} {drawn : Drawn} {os : OsState} {A : Around} {Q : β → Shared → Prop} {E : Value → Shared → Prop} {h : Heap}, g = ⟨prog, w.params⟩ → A.handled = none → Now K h0 cs0 N h cs n → (∀ p ∈ ob', p.1 = p.2) →
      (∀ h', Now K h0 cs0 N h' cs' n' → wpC B (model prog w) A t' Q E ⟨h', gens, drawn, tk', os⟩) → wpC B (model prog w) A t Q E ⟨h, gens, drawn, tk, os⟩)
theorem cmdK_go {β R : Type} (K : Sta) (g : Setting) (N : Nat) (is : List Nat) (cs : Cells) (n tk : Nat) (ob : List (Addr × Addr)) (no : R) (yes : Sem β → List Nat → Cells → Nat → Nat → List (Addr × Addr) → R) (t : Sem β) : CmdR K g N is cs n tk ob no yes t (cmdK K g N is cs n tk ob no yes t) := by
  cases t
  case rule q k => exact .yes _ _ _ _ _ _ rfl (fun _ h => h) fun e hh W hob next => x_ruleC (next _ W)
  case «at» q k => exact .yes _ _ _ _ _ _ rfl (fun _ h => h) fun e hh W hob next => x_atC (next _ W)
  case point q k => exact .yes _ _ _ _ _ _ rfl (fun _ h => h) fun e hh W hob next => x_pointC (next _ W)
  case ask k => exact .yes _ _ _ _ _ _ rfl (fun _ h => h) fun e hh W hob next => by subst e; exact x_askC (next _ W)
  case fresh k => exact .yes _ _ _ _ _ _ rfl (fun _ h => h) fun {_ _ _ _ _ gens drawn os _ _ _ h} e hh W hob next => x_freshC (s := ⟨h, gens, drawn, tk, os⟩) (next _ W)
  case handled own k =>
    cases own with
    | true => exact .no rfl
    | false =>
      refine .yes _ _ _ _ _ _ rfl (fun _ h => h) fun e hh W hob next => ?_
      refine wpC_bind (m := handled) (f := k) (wpC_of (wpAny_handled ?_))
      rw [hh]; exact next _ W
  case alloc o k =>
    show CmdR K g N is cs n tk ob no yes _ (match o.isFreed with
      | false => yes (k (N + n)) is (cs ++ [(N + n, o)]) (n + 1) tk ob
      | true => no)
    split
    · rename_i hf
      refine .yes _ _ _ _ _ _ rfl (fun _ h => h) fun e hh W hob next => ?_
      have z := next _ (W.alloc hf)
      rw [← W.size] at z
      exact wpC_bind (m := PySem.alloc o) (f := k) (wpC_of <| wpAny_alloc z)
    · exact .no rfl
  case load a q k =>
    cases is with
    | nil => exact .no rfl
    | cons i is =>
      cases i with
      | zero =>
        show CmdR K g N _ cs n tk ob no yes _ (match K a with
          | some o => yes (k o) is cs n tk ob
          | none => no)
        split
        · rename_i o hl
          exact .yes _ _ _ _ _ _ rfl (fun _ h => h) fun {_ _ _ _ _ gens drawn os _ _ _ h} e hh W hob next => x_loadC (s := ⟨h, gens, drawn, tk, os⟩) (W.hp.st _ _ hl) (next _ W)
        · exact .no rfl
      | succ i =>
        show CmdR K g N _ cs n tk ob no yes _ (match cs[i]? with
          | some p => yes (k p.2) is cs n tk ((a, p.1) :: ob)
          | none => no)
        split
        · rename_i p hl
          refine .yes _ _ _ _ _ _ rfl (fun _ h => List.mem_cons_of_mem _ h) fun {_ _ _ _ _ gens drawn os _ _ _ h} e hh W hob next => ?_
          have ha : a = p.1 := hob (a, p.1) (.head _)
          exact x_loadC (s := ⟨h, gens, drawn, tk, os⟩) (by rw [ha]; exact W.hp.ce p (List.mem_of_getElem? hl)) (next _ W)
        · exact .no rfl
  case loadIfAlive a k =>
    cases is with
    | nil => exact .no rfl
    | cons i is =>
      cases i with
      | zero =>
        show CmdR K g N _ cs n tk ob no yes _ (match K a with
          | some o => yes (k (some o)) is cs n tk ob
          | none => no)
        split
        · rename_i o hl
          exact .yes _ _ _ _ _ _ rfl (fun _ h => h) fun {_ _ _ _ _ gens drawn os _ _ _ h} e hh W hob next Γ p hΓ hcl => by
            show Sem.wp _ _ (k (h.get? a)) _ _ _ _
            rw [W.hp.st _ _ hl]; exact next h W Γ p hΓ hcl
        · exact .no rfl
      | succ i =>
        show CmdR K g N _ cs n tk ob no yes _ (match cs[i]? with
          | some p => yes (k (some p.2)) is cs n tk ((a, p.1) :: ob)
          | none => no)
        split
        · rename_i p hl
          refine .yes _ _ _ _ _ _ rfl (fun _ h => List.mem_cons_of_mem _ h) fun {_ _ _ _ _ gens drawn os _ _ _ h} e hh W hob next Γ q hΓ hcl => ?_
          have ha : a = p.1 := hob (a, p.1) (.head _)
          show Sem.wp _ _ (k (h.get? a)) _ _ _ _
          rw [ha, W.hp.ce p (List.mem_of_getElem? hl)]; exact next h W Γ q hΓ hcl
        · exact .no rfl
  case update a q f k =>
    cases is with
    | nil => exact .no rfl
    | cons i is =>
      cases i with
      | zero => exact .no rfl
      | succ i =>
        show CmdR K g N _ cs n tk ob no yes _ (match cs[i]? with
          | some p => match (f p.2).isFreed with
            | false => yes (k ()) is (cs.set i (p.1, f p.2)) n tk ((a, p.1) :: ob)
            | true => no
          | none => no)
        split
        · rename_i p hl
          split
          · rename_i hf
            refine .yes _ _ _ _ _ _ rfl (fun _ h => List.mem_cons_of_mem _ h) fun e hh W hob next => ?_
            have ha : a = p.1 := hob (a, p.1) (.head _)
            subst ha
            exact wpC_bind (m := updatePart p.1 q f) (f := k) (wpC_of <| wpAny_updatePart (W.hp.ce p (List.mem_of_getElem? hl)) (next _ (W.upd hl hf)))
          · exact .no rfl
        · exact .no rfl
  all_goals exact .no rfl


theorem frames_le (c : Code) : c.frames ≤ 3 := by
  cases c with
  | builtin id args =>
    unfold Code.frames PySem.Code.frames.match_1
    have key : ∀ (p : Prop) (i : Decidable p) (a : p → Nat) (b : ¬ p → Nat), (∀ h, a h ≤ 3) → (∀ h, b h ≤ 3) → dite p a b ≤ 3 := fun p i a b h1 h2 => by
      cases i with
      | isTrue h => exact h1 h
      | isFalse h => exact h2 h
    repeat' (refine key _ _ _ _ (fun h => by subst h; exact Nat.le_of_ble_eq_true rfl) fun _ => ?_)
    show ite (Code.isFrame _ = true) 1 0 ≤ 3
    split <;> decide
  | _ => unfold Code.frames PySem.Code.frames.match_1; show ite (Code.isFrame _ = true) 1 0 ≤ 3; split <;> decide
theorem fb_all : ("claim.caller" :: badIds).all (fun id => Nat.beq (fb id) 98 || (Nat.beq (fb id) 95 || Nat.beq (fb id) 99)) = true := by decide +kernel
theorem okC_not {id : String} {args : Args} (h : okC (.builtin id args) = true) : ("claim.caller" :: badIds).contains id = false := by
  cases hk : ("claim.caller" :: badIds).contains id with
  | false => rfl
  | true =>
    have h1 := List.all_eq_true.mp fb_all id (List.contains_iff_mem.mp hk)
    simp only [okC, h1, hk] at h
    cases h
theorem okC_clean {c : Code} (h : okC c = true) : bad B c = false := by
  cases B with
  | false => rfl
  | true =>
    show badC c = false
    unfold badC
    split
    · rename_i id args
      have := okC_not h
      rw [List.contains_cons, Bool.or_eq_false_iff] at this
      exact this.2
    · rfl
theorem okC_weight {c : Code} (h : okC c = true) : c.weight ≤ 5 := by
  have hc : c.isCaller = false := by
    cases q : c.isCaller with
    | false => rfl
    | true =>
      unfold Code.isCaller at q
      split at q
      · have := okC_not h
        rw [List.contains_cons, Bool.or_eq_false_iff] at this
        exact absurd this.1 (by decide)
      · cases q
  have := frames_le c
  unfold Code.weight
  rw [hc]
  simp only [Bool.false_eq_true, if_false]
  split <;> split <;> omega
theorem units_le (c : Code) : c.cUnits ≤ 10 := by
  have := frames_le c
  unfold Code.cUnits
  split <;> omega
theorem under_units (A : Around) (c : Code) : (A.under c).units = A.units + c.cUnits := by
  unfold Around.under; simp
noncomputable def Fit (A : Around) (n : Nat) : Prop := A.depth + 6 * n < recursionLimit ∧ A.units + 11 * n < cLine ∧ A.handled = none
theorem under_depth (A : Around) (c : Code) : (A.under c).depth = A.depth + c.weight := by
  unfold Around.under; simp
theorem Fit.mark {A : Around} {n : Nat} (h : Fit A n) (x : Option Value) (hx : x = none := by rfl) : Fit (A.mark x) n := by subst hx; exact h
theorem Fit.le {A : Around} {n k : Nat} (h : Fit A n) (hk : k ≤ n) : Fit A k := ⟨by have := h.1; omega, by have := h.2.1; omega, h.2.2⟩
theorem Fit.under {A : Around} {n : Nat} (h : Fit A (n + 1)) {c : Code} (hc : c.weight ≤ 5) : Fit (A.under c) n :=
  ⟨by rw [under_depth]; have := h.1; omega, by rw [under_units]; have := h.2.1; have := units_le c; omega, h.2.2⟩

noncomputable def PC (B : Bool) (prog : Program) (w : World) (A : Around) (R : Result → Shared → Prop) : Fin → Shared → Prop := fun fin s' => match fin with
  | .done f => R (.ok f) s'
  | .again c' => c'.quiet = true ∧ codeC B (model prog w) A c' R s'

theorem entry_sound {A' : Around} {P : Fin → Shared → Prop} {E' : Value → Shared → Prop} {s : Shared} {f c : Addr} {args : Args} {o : Obj} {fd : FuncData} (ho : s.heap.get? f = some o) (hd : o.data = .func fd) (hgen : fd.scope.isGenerator = false) (hco : fd.scope.isCoroutine = false) (hcd : fd.code = .ref c)
    (h : wpC B (model prog w) A' (entryT f fd args) (fun env s' => wpC B (model prog w) A' (enterFrame >>= fun _ => again (mkC fd env)) P E' s') E' s) : wpC B (model prog w) A' (callAny (.ref f) args) P E' s := by
  simp only [callAny]
  refine wpC_bind (wpC_of <| wpAny_load ho ?_)
  rw [hd]
  show wpC _ _ _ (callFunction f fd args) _ _ _
  unfold callFunction
  unfold entryT at h
  rw [← PySem.W.ZFast.ze6609576154772507232, ← PySem.W.ZFast.ze9782568553167038054, ← PySem.W.ZFast.ze11113344188204177931, hcd] at h
  rw [hcd]
  intro Γ p hΓ hcl
  have z := h Γ p hΓ hcl
  rw [Sem.wp_bind'] at z
  dsimp only
  rw [Sem.wp_bind']
  refine Sem.wp_mono _ Γ _ (fun v p' s' hv => ?_) (fun _ _ _ q => q) _ _ z
  cases v with
  | str q t =>
    simp only at hv ⊢
    rw [Sem.wp_bind'] at hv
    rw [pure_bind, Sem.wp_bind']
    refine Sem.wp_mono _ Γ _ (fun b p' s' hb => ?_) (fun _ _ _ q => q) _ _ hv
    rw [Sem.wp_bind']
    refine Sem.wp_mono _ Γ _ (fun env p' s' he => ?_) (fun _ _ _ q => q) _ _ hb
    have y := he Γ p' hΓ hcl
    simp only [hgen, hco]
    exact y
  | _ => exact hv.elim

noncomputable def LvOk : Nat → List (Around × Code × (Result → Sem Fin)) → Prop
  | _, [] => True
  | rm, (A', c', _) :: rest => Fit A' (rm + 2) ∧ c'.weight ≤ 5 ∧ LvOk (rm + 1) rest
noncomputable def NestOk (B : Bool) (prog : Program) (w : World) (Rb : Result → Shared → Prop) : List (Around × Code × (Result → Sem Fin)) → Result → Shared → Prop
  | [] => Rb
  | (A', c', k) :: rest => fun r s' => wpC B (model prog w) (A'.under c') (k r) (PC B prog w A' (NestOk B prog w Rb rest)) (fun e s'' => NestOk B prog w Rb rest (.error e) s'') s'
noncomputable def CurOk {α : Type} (B : Bool) (prog : Program) (w : World) (A : Around) (Q : α → Shared → Prop) (E : Value → Shared → Prop) (s : Shared) (rm : Nat) : Cur α → Prop
  | .bot t => Fit A rm → wpC B (model prog w) A t Q E s
  | .nest u ks kb => ∀ (L : List (Around × Code × (Result → Sem Fin))) (A0 : Around) (c0 : Code), ks = L.map (·.2.2) → Fit A0 (rm + 1) → c0.weight ≤ 5 → LvOk rm L → Fit A (rm + L.length + 1) →
      wpC B (model prog w) (A0.under c0) u (PC B prog w A0 (NestOk B prog w (fun r s' => wpC B (model prog w) A (kb r) Q E s') L)) (fun e s' => NestOk B prog w (fun r s' => wpC B (model prog w) A (kb r) Q E s') L (.error e) s') s
  | .entry u mk ks kb => ∀ (L : List (Around × Code × (Result → Sem Fin))) (A0 : Around) (c0 : Code), ks = L.map (·.2.2) → Fit A0 (rm + 1) → c0.weight ≤ 5 → LvOk rm L → Fit A (rm + L.length + 1) →
      wpC B (model prog w) (A0.under c0) u (fun env s' => wpC B (model prog w) (A0.under c0) (enterFrame >>= fun _ => again (mk env)) (PC B prog w A0 (NestOk B prog w (fun r s' => wpC B (model prog w) A (kb r) Q E s') L)) (fun e s' => NestOk B prog w (fun r s' => wpC B (model prog w) A (kb r) Q E s') L (.error e) s') s')
        (fun e s' => NestOk B prog w (fun r s' => wpC B (model prog w) A (kb r) Q E s') L (.error e) s') s
theorem popOk {α : Type} {A : Around} {Q : α → Shared → Prop} {E : Value → Shared → Prop} {s : Shared} {r : Result} {kb : Result → Sem α} {rm : Nat} : ∀ {ks : List (Result → Sem Fin)} (L : List (Around × Code × (Result → Sem Fin))), ks = L.map (·.2.2) →
    LvOk rm L → Fit A (rm + L.length + 1) → CurOk B prog w A Q E s (rm + 1) (pop r ks kb) → NestOk B prog w (fun r s' => wpC B (model prog w) A (kb r) Q E s') L r s
  | _, [], rfl, _, ha, h => h (by simpa using ha)
  | _, (A', c', k) :: L, rfl, hl, ha, h => h L A' c' rfl hl.1 hl.2.1 hl.2.2 (ha.le (by rw [List.length_cons]; omega))

theorem into_ob {α : Type} {is : List Nat} {cs : Cells} {ob : List (Addr × Addr)} {c : Code} {ks : List (Result → Sem Fin)} {kb : Result → Sem α} : ∀ p ∈ ob, p ∈ (into K is cs ob c ks kb).2.2 := by
  intro p hp
  unfold into
  split
  · rename_i f args
    split
    · exact hp
    · rename_i i r
      split
      · rename_i o ob' e
        have : p ∈ ob' := by
          split at e
          · cases hq : K f with
            | none => rw [hq] at e; cases e
            | some o' => rw [hq] at e; cases e; exact hp
          · rename_i i'
            cases hq : cs[i']? with
            | none => rw [hq] at e; cases e
            | some o' => rw [hq] at e; cases e; exact List.mem_cons_of_mem _ hp
        split
        · split
          · exact this
          · exact hp
        · exact hp
      · exact hp
  · exact hp

theorem ex_ob {α : Type} {g : Setting} : ∀ (m rm : Nat) (cur : Cur α) (is : List Nat) (cs : Cells) (n tk : Nat) (ob : List (Addr × Addr)), ∀ p ∈ ob, p ∈ (exK K g N m rm cur is cs n tk ob).ob := by
  intro m
  induction m with
  | zero => intro rm cur is cs n tk ob p hp; exact hp
  | succ m ih =>
    intro rm cur is cs n tk ob p hp
    cases cur with
    | bot t =>
      rw [exK_bot]
      simp only [intoK_eq]
      rcases cmdK_go K g N is cs n tk ob _ _ t with e1 | ⟨t', is', cs', n', tk', ob', e1, hsub, -⟩ <;> rw [e1]
      · split
        · split
          · exact hp
          · split
            · exact ih _ _ _ _ _ _ _ _ (into_ob p hp)
            · exact hp
        · exact hp
      · exact ih _ _ _ _ _ _ _ _ (hsub p hp)
    | nest u ks kb =>
      rw [exK_nest]
      simp only [intoK_eq]
      rcases cmdK_go K g N is cs n tk ob _ _ u with e1 | ⟨t', is', cs', n', tk', ob', e1, hsub, -⟩ <;> rw [e1]
      · split
        · split
          · exact ih _ _ _ _ _ _ _ _ hp
          · split
            · exact ih _ _ _ _ _ _ _ _ (into_ob p hp)
            · exact hp
        · exact ih _ _ _ _ _ _ _ _ hp
        · split
          · exact hp
          · split
            · exact ih _ _ _ _ _ _ _ _ (into_ob p hp)
            · exact hp
        · exact hp
      · exact ih _ _ _ _ _ _ _ _ (hsub p hp)
    | entry u mk ks kb =>
      rw [exK_entry]
      rcases cmdK_go K g N is cs n tk ob _ _ u with e1 | ⟨t', is', cs', n', tk', ob', e1, hsub, -⟩ <;> rw [e1]
      · split
        · split
          · exact ih _ _ _ _ _ _ _ _ hp
          · exact hp
        · exact hp
      · exact ih _ _ _ _ _ _ _ _ (hsub p hp)

theorem into_sound {α : Type} {A : Around} {Q : α → Shared → Prop} {E : Value → Shared → Prop} {is : List Nat} {cs : Cells} {ob : List (Addr × Addr)} {c : Code} {ks : List (Result → Sem Fin)} {kb : Result → Sem α} {h : Heap} {n tk rm : Nat}
    (W : Now K h0 cs0 N h cs n) (hob : ∀ p ∈ (into K is cs ob c ks kb).2.2, p.1 = p.2) (hcw : c.weight ≤ 5) (hbd : bad B c = false)
    (L : List (Around × Code × (Result → Sem Fin))) (A0 : Around) (hL : ks = L.map (·.2.2)) (h1 : Fit A0 (rm + 1)) (h2 : LvOk rm L) (h3 : Fit A (rm + L.length + 1))
    (z : CurOk B prog w A Q E ⟨h, gens, drawn, tk, os⟩ rm (into K is cs ob c ks kb).1) :
    codeC B (model prog w) A0 c (NestOk B prog w (fun r s' => wpC B (model prog w) A (kb r) Q E s') L) ⟨h, gens, drawn, tk, os⟩ := by
  refine x_codeC hbd ?_
  have plain : CurOk B prog w A Q E ⟨h, gens, drawn, tk, os⟩ rm (.nest (denZ c) ks kb) →
      wpC B (model prog w) (A0.under c) (denote table c) (PC B prog w A0 (NestOk B prog w (fun r s' => wpC B (model prog w) A (kb r) Q E s') L)) (fun e s' => NestOk B prog w (fun r s' => wpC B (model prog w) A (kb r) Q E s') L (.error e) s') ⟨h, gens, drawn, tk, os⟩ := by
    intro z; rw [denZ_eq]; exact z L A0 c hL h1 hcw h2 h3
  unfold into at z hob
  split at z
  · rename_i f args
    split at z
    · exact plain z
    · rename_i i r
      split at z
      · rename_i o ob' e
        simp only [e] at hob
        split at z
        · rename_i fd hd
          simp only [hd] at hob
          split at z
          · rename_i c' e1 e2 e3
            simp only [e1, e2, e3] at hob
            have ho : h.get? f = some o := by
              split at e
              · cases hq : K f with
                | none => rw [hq] at e; cases e
                | some o' => rw [hq] at e; cases e; exact W.hp.st _ _ hq
              · rename_i i'
                cases hq : cs[i']? with
                | none => rw [hq] at e; cases e
                | some p =>
                  rw [hq] at e; cases e
                  have := hob (f, p.1) (.head _)
                  have q : f = p.1 := this
                  rw [q]; exact W.hp.ce p (List.mem_of_getElem? hq)
            show wpC _ _ _ (callAny (.ref f) args) _ _ _
            exact entry_sound (s := ⟨h, gens, drawn, tk, os⟩) ho hd e1 e2 e3 (z L A0 _ hL h1 hcw h2 h3)
          · exact plain z
        · exact plain z
      · exact plain z
  · exact plain z

theorem ex_sound (hlim : ∀ h, K.In h → h.NoLimit) {α : Type} {A : Around} {Q : α → Shared → Prop} {E : Value → Shared → Prop} : ∀ (m rm : Nat) (cur : Cur α) (is : List Nat) (cs : Cells) (n tk : Nat) (ob : List (Addr × Addr)) (h : Heap) (r : Res α),
    exK K ⟨prog, w.params⟩ N m rm cur is cs n tk ob = r → (∀ p ∈ r.ob, p.1 = p.2) → Now K h0 cs0 N h cs n →
    (∀ h', Now K h0 cs0 N h' r.cs r.n → CurOk B prog w A Q E ⟨h', gens, drawn, r.tk, os⟩ r.rm r.cur) → CurOk B prog w A Q E ⟨h, gens, drawn, tk, os⟩ rm cur := by
  intro m
  induction m with
  | zero => intro rm cur is cs n tk ob h r e hob W next; subst e; exact next h W
  | succ m ih =>
    intro rm cur is cs n tk ob h r e hob W next
    cases cur with
    | bot t =>
      rw [exK_bot] at e
      simp only [intoK_eq] at e
      rcases cmdK_go K ⟨prog, w.params⟩ N is cs n tk ob _ _ t with e1 | ⟨t', is', cs', n', tk', ob', e1, hsub, hs⟩ <;> rw [e1] at e
      rotate_left
      · intro hA
        exact hs rfl hA.2.2 W (fun p hp => hob p (by rw [← e]; exact ex_ob _ _ _ _ _ _ _ _ p hp)) fun h' W' => ih _ (.bot t') _ _ _ _ _ _ _ e hob W' next hA
      · clear e1
        split at e
        · rename_i c g l k
          split at e
          · subst e; exact next h W
          · rename_i rm'
            split at e
            · rename_i hc
              intro hA
              have z := ih rm' _ _ _ _ _ _ h _ e hob W next
              refine x_callC (s := ⟨h, gens, drawn, tk, os⟩) ?_ (by intro q; cases q)
              refine into_sound W (fun p hp => hob p (by rw [← e]; exact ex_ob _ _ _ _ _ _ _ _ p hp)) (okC_weight (Bool.and_eq_true_iff.mp hc).1) (okC_clean (Bool.and_eq_true_iff.mp hc).1) [] (A.mark none) rfl ?_ trivial ?_ z
              · exact hA.mark none
              · simpa using hA
            · subst e; exact next h W
        · subst e; exact next h W
    | nest u ks kb =>
      rw [exK_nest] at e
      simp only [intoK_eq] at e
      rcases cmdK_go K ⟨prog, w.params⟩ N is cs n tk ob _ _ u with e1 | ⟨t', is', cs', n', tk', ob', e1, hsub, hs⟩ <;> rw [e1] at e
      rotate_left
      · intro L A0 c0 hL h1 hw h2 h3
        exact hs (A := A0.under c0) rfl h1.2.2 W (fun p hp => hob p (by rw [← e]; exact ex_ob _ _ _ _ _ _ _ _ p hp)) fun h' W' => ih _ (.nest t' ks kb) _ _ _ _ _ _ _ e hob W' next L A0 c0 hL h1 hw h2 h3
      · clear e1
        split at e
        · split at e
          · rename_i f
            intro L A0 c0 hL h1 hw h2 h3
            exact wpC_pure (popOk L hL h2 h3 (ih _ _ _ _ _ _ _ h _ e hob W next))
          · rename_i c'
            split at e
            · rename_i hq
              obtain ⟨hq, _⟩ := Bool.and_eq_true_iff.mp hq
              obtain ⟨hq1, hq2⟩ := Bool.and_eq_true_iff.mp hq
              have z := ih rm _ _ _ _ _ _ h _ e hob W next
              intro L A0 c0 hL h1 hw h2 h3
              exact wpC_pure ⟨hq1, into_sound W (fun p hp => hob p (by rw [← e]; exact ex_ob _ _ _ _ _ _ _ _ p hp)) (okC_weight hq2) (okC_clean hq2) L A0 hL h1 h2 h3 z⟩
            · subst e; exact next h W
        · intro L A0 c0 hL h1 hw h2 h3
          exact wpC_throw (popOk L hL h2 h3 (ih _ _ _ _ _ _ _ h _ e hob W next))
        · rename_i c g l k
          split at e
          · subst e; exact next h W
          · rename_i rm'
            split at e
            · rename_i hc
              have z := ih rm' _ _ _ _ _ _ h _ e hob W next
              intro L A0 c0 hL h1 hw h2 h3
              refine x_callC (s := ⟨h, gens, drawn, tk, os⟩) ?_ (by intro q; cases q)
              refine into_sound (L := (A0, c0, k) :: L) W (fun p hp => hob p (by rw [← e]; exact ex_ob _ _ _ _ _ _ _ _ p hp)) (okC_weight (Bool.and_eq_true_iff.mp hc).1) (okC_clean (Bool.and_eq_true_iff.mp hc).1) ((A0.under c0).mark none) (by rw [List.map_cons, hL]) ?_ ?_ ?_ z
              · exact (h1.under hw).mark none
              · exact ⟨h1, hw, h2⟩
              · exact h3.le (by rw [List.length_cons]; omega)
            · subst e; exact next h W
        · subst e; exact next h W
    | entry u mk ks kb =>
      rw [exK_entry] at e
      rcases cmdK_go K ⟨prog, w.params⟩ N is cs n tk ob _ _ u with e1 | ⟨t', is', cs', n', tk', ob', e1, hsub, hs⟩ <;> rw [e1] at e
      rotate_left
      · intro L A0 c0 hL h1 hw h2 h3
        exact hs (A := A0.under c0) rfl h1.2.2 W (fun p hp => hob p (by rw [← e]; exact ex_ob _ _ _ _ _ _ _ _ p hp)) fun h' W' => ih _ (.entry t' mk ks kb) _ _ _ _ _ _ _ e hob W' next L A0 c0 hL h1 hw h2 h3
      · clear e1
        split at e
        · rename_i env
          split at e
          · rename_i hq
            obtain ⟨hq1, hq2⟩ := Bool.and_eq_true_iff.mp hq
            intro L A0 c0 hL h1 hw h2 h3
            have z := ih rm (.nest (denZ (mk env)) ks kb) _ _ _ _ _ h _ e hob W next L A0 (mk env) hL h1 (okC_weight hq2) h2 h3
            refine wpC_pure (wpC_bind (wpC_of <| wpAny_enterFrame (hlim _ W.hp.st) (by have := (h1.under hw).1; omega) (wpC_pure ⟨hq1, x_codeC (okC_clean hq2) ?_⟩)))
            rw [denZ_eq]; exact z
          · subst e; exact next h W
        · subst e; exact next h W

noncomputable def callOf {α : Type} : Cur α → Option Code
  | .bot (.call c none _ _ _) => some c
  | .nest (.call c none _ _ _) _ _ => some c
  | _ => none
noncomputable def contOf {α : Type} (r : Result) : Cur α → Cur α
  | .bot (.call _ none _ _ k) => .bot (k r)
  | .nest (.call _ none _ _ k) ks kb => .nest (k r) ks kb
  | c => c
noncomputable def Ctr (B : Bool) (prog : Program) (w : World) (c : Code) (rm : Nat) (s : Shared) (P : Value → Heap → Prop) : Prop :=
  ∀ (A : Around) (R : Result → Shared → Prop), Fit A rm → (∀ v h' tk', P v h' → R (.ok (.ret v)) { s with heap := h', toks := tk' }) → codeC B (model prog w) A c R s
theorem callOf_is {α : Type} {cur : Cur α} {c : Code} (hc : callOf cur = some c) {P : Cur α → Prop} (h1 : ∀ g l k, P (.bot (.call c none g l k))) (h2 : ∀ g l k ks kb, P (.nest (.call c none g l k) ks kb)) : P cur := by
  cases cur with
  | bot t =>
    cases t with
    | call c h g l k =>
      cases h with
      | none => cases hc; exact h1 g l k
      | some _ => cases hc
    | _ => cases hc
  | nest u ks kb =>
    cases u with
    | call c h g l k =>
      cases h with
      | none => cases hc; exact h2 g l k ks kb
      | some _ => cases hc
    | _ => cases hc
  | entry => cases hc
theorem call_ok {α : Type} {A : Around} {Q : α → Shared → Prop} {E : Value → Shared → Prop} {s : Shared} {rm : Nat} {cur : Cur α} {c : Code} {P : Value → Heap → Prop} (hc : callOf cur = some c) (C : Ctr B prog w c rm s P)
    (next : ∀ v h' tk', P v h' → CurOk B prog w A Q E { s with heap := h', toks := tk' } rm (contOf (.ok (.ret v)) cur)) : CurOk B prog w A Q E s rm cur := by
  revert next
  refine callOf_is hc (P := fun cur => (∀ v h' tk', P v h' → CurOk B prog w A Q E { s with heap := h', toks := tk' } rm (contOf (.ok (.ret v)) cur)) → CurOk B prog w A Q E s rm cur) (fun g l k next hA => ?_) fun g l k ks kb next L A0 c0 hL h1 hw h2 h3 => ?_
  · exact x_callC (C _ _ (hA.mark none) fun v h' tk' hp => next v h' tk' hp hA) (by intro q; cases q)
  · exact x_callC (C _ _ ((h1.under hw).mark none) fun v h' tk' hp => next v h' tk' hp L A0 c0 hL h1 hw h2 h3) (by intro q; cases q)
theorem go_on (hlim : ∀ h, K.In h → h.NoLimit) {α : Type} {A : Around} {Q : α → Shared → Prop} {E : Value → Shared → Prop} {cur : Cur α} {s : Shared} {cs : Cells} (m rm : Nat) (is : List Nat) {r : Res α}
    (H : Hp K s.heap cs) (e : ex K ⟨prog, w.params⟩ s.heap.objs.size m rm cur is cs 0 s.toks [] = r) (hob : ∀ p ∈ r.ob, p.1 = p.2)
    (next : ∀ h', Now K s.heap cs s.heap.objs.size h' r.cs r.n → CurOk B prog w A Q E { s with heap := h', toks := r.tk } r.rm r.cur) : CurOk B prog w A Q E s rm cur :=
  ex_sound hlim (gens := s.gens) (drawn := s.drawn) (os := s.os) m rm cur is cs 0 s.toks [] s.heap _ e hob (Now.start H) next
theorem start_bot {α : Type} {A : Around} {Q : α → Shared → Prop} {E : Value → Shared → Prop} {t : Sem α} {s : Shared} (rm : Nat) (hA : Fit A rm) {tz : Sem α} (hz : t = tz) (h : CurOk B prog w A Q E s rm (.bot tz)) : wpC B (model prog w) A t Q E s := by
  rw [hz]; exact h hA
theorem end_bot {α : Type} {A : Around} {Q : α → Shared → Prop} {E : Value → Shared → Prop} {v : α} {s : Shared} {rm : Nat} (h : Q v s) : CurOk B prog w A Q E s rm (.bot (.pure v)) := fun _ => wpC_pure h

noncomputable def obOf (is : List Nat) (cs : Cells) : List (Addr × Addr) := (is.filterMap fun i => match i with
  | 0 => none
  | i + 1 => (cs[i]?).map fun (p : Addr × Obj) => (p.1, p.1)).reverse
theorem obOf_ok (is : List Nat) (cs : Cells) : ∀ p ∈ obOf is cs, p.1 = p.2 := by
  intro p hp
  unfold obOf at hp
  rw [List.mem_reverse, List.mem_filterMap] at hp
  obtain ⟨i, _, e⟩ := hp
  split at e
  · cases e
  · rename_i k _
    cases q : cs[k]? with
    | none => rw [q] at e; cases e
    | some x => rw [q] at e; cases e; rfl
theorem go_call (hlim : ∀ h, K.In h → h.NoLimit) {α : Type} {A : Around} {Q : α → Shared → Prop} {E : Value → Shared → Prop} {cur : Cur α} {s : Shared} {cs : Cells} (m rm : Nat) (is : List Nat) {c : Code} {cs' : Cells} {n' tk' rm' : Nat} {P : Heap → Value → Heap → Prop}
    (H : Hp K s.heap cs) (e1 : callOf (exK K ⟨prog, w.params⟩ s.heap.objs.size m rm cur is cs 0 s.toks []).cur = some c)
    (e2 : (exK K ⟨prog, w.params⟩ s.heap.objs.size m rm cur is cs 0 s.toks []).cs = cs') (e3 : (exK K ⟨prog, w.params⟩ s.heap.objs.size m rm cur is cs 0 s.toks []).ob = obOf is cs')
    (e4 : (exK K ⟨prog, w.params⟩ s.heap.objs.size m rm cur is cs 0 s.toks []).rm = rm') (e5 : (exK K ⟨prog, w.params⟩ s.heap.objs.size m rm cur is cs 0 s.toks []).n = n') (e6 : (exK K ⟨prog, w.params⟩ s.heap.objs.size m rm cur is cs 0 s.toks []).tk = tk')
    (hC : ∀ h', Now K s.heap cs s.heap.objs.size h' cs' n' → Ctr B prog w c rm' { s with heap := h', toks := tk' } (P h'))
    (next : ∀ h', Now K s.heap cs s.heap.objs.size h' cs' n' → ∀ v h'' tk'', P h' v h'' → CurOk B prog w A Q E { s with heap := h'', toks := tk'' } rm' (contOf (.ok (.ret v)) (exK K ⟨prog, w.params⟩ s.heap.objs.size m rm cur is cs 0 s.toks []).cur)) : CurOk B prog w A Q E s rm cur := by
  rw [exK_eq] at e1 e2 e3 e4 e5 e6
  refine go_on hlim m rm is H rfl (by rw [e3]; exact obOf_ok _ _) fun h' W => ?_
  rw [e2, e5] at W
  rw [e4, e6]
  exact call_ok (s := { s with heap := h', toks := tk' }) e1 (hC h' W) fun v h'' tk'' hp => by rw [← exK_eq]; exact next h' W v h'' tk'' hp
theorem ctr_run {c : Code} {s : Shared} {P : Value → Heap → Prop} {rm : Nat} {is : List Nat} {cs : Cells} (H : Hp K s.heap cs) (hc : okC c = true) (hob : ∀ p ∈ (into (α := Result) K is cs [] c [] (fun r => .pure r)).2.2, p.1 = p.2)
    (run : ∀ (A : Around) (R : Result → Shared → Prop), (∀ v h' tk', P v h' → R (.ok (.ret v)) { s with heap := h', toks := tk' }) → CurOk B prog w A R (fun _ _ => False) s rm (into (α := Result) K is cs [] c [] (fun r => .pure r)).1) : Ctr B prog w c (rm + 2) s P := by
  intro A R hA' hR
  have hA : Fit A (rm + 1) := hA'.le (by omega)
  have hA2 : Fit (A.under (.call .none ⟨[], []⟩)) (rm + 1) := hA'.under (by decide)
  have z := into_sound (gens := s.gens) (drawn := s.drawn) (os := s.os) (tk := s.toks) (A := A.under (.call .none ⟨[], []⟩)) (Q := R) (E := fun _ _ => False) (rm := rm) (Now.start H) hob (okC_weight hc) (okC_clean hc) [] A rfl hA trivial (by simpa using hA2) (run _ R hR)
  exact fun Γ p hc' hΓ hcl => wpCode_mono (fun r s' h => h (Γ.goto (.call .none ⟨[], []⟩)) p ((hΓ.goto (.call .none ⟨[], []⟩)).in) ⟨by cases B <;> rfl, hcl⟩) (z Γ p hc' hΓ hcl)
theorem body_ok {α : Type} {A : Around} {Q : α → Shared → Prop} {E : Value → Shared → Prop} {s : Shared} {rm : Nat} {body : List Stmt} {env : Env} {ks : List (Result → Sem Fin)} {kb : Result → Sem α}
    (h : ∀ A1 : Around, Fit A1 rm → wpC B (model prog w) A1 (execs body env) (fun fl s' => CurOk B prog w A Q E s' (rm + 1) (pop (.ok (.ret (match fl with | .ret v => v | _ => .none))) ks kb)) (fun _ _ => False) s) :
    CurOk B prog w A Q E s rm (.nest (denZ (.func body env)) ks kb) := by
  intro L A0 c0 hL h1 hw h2 h3
  rw [← denZ_eq]
  show wpC _ _ _ (do point; match ← (execs body env).onRaise (leaving env) with | .ret v => ret v | _ => ret .none) _ _ s
  refine wpC_bind (wpC_point (wpC_bind (wpC_onRaise (wpC_mono (h (A0.under c0) (h1.under hw)) (fun f s' h' => ?_) fun _ _ h' => h'.elim))))
  cases f <;> exact wpC_pure (popOk L hL h2 h3 h')
end
noncomputable def plGo : Nat → Nat → List Nat
  | 0, _ => []
  | f + 1, n => match Nat.beq n 1 with
    | true => []
    | false => (n % 64) :: plGo f (n / 64)
noncomputable def pl (n : Nat) : List Nat := plGo 8192 n
end Mine
end PS3
section PC0
open PySem PySem.W PyProof.Rows PySem.Calls
namespace Mine
noncomputable abbrev PG : Program := PySem.Challenge.rw_in0027_01.row.prog
/-! what stands written: the objects that the law's call reads -/
noncomputable def topS (i : Nat) : Stmt := PySem.Challenge.pw_in0027_01.main.body.getD i default
noncomputable def clsS (i j : Nat) : Stmt := match topS i with | .ClassDef _ _ _ b _ _ _ _ _ _ _ => b.getD j default | _ => default
noncomputable def fnD (st : Stmt) (qual : Str) (cl : List (Str × Addr)) (dV kV doc pm : Value) (an : Option Addr) (cd ct : Value) : FuncData := match st with
  | .FunctionDef name args body _ _ _ scope _ _ _ => { name := name, qualname := qual, params := args, body := .stmts body, scope := scope, globals := mainGlobals, closure := cl, defaults := dV, kwdefaults := kV, doc := doc, pyModule := pm, annotations := an, code := cd, closureTuple := ct, builtins := builtinsNs }
  | _ => default
noncomputable def entK (P : Params) (x : Str) (t : Tok) (v : Value) : DictEntry := ⟨PyData.keyHash P x, .str x t, v⟩
noncomputable def o0 (P : Params) : Obj := ⟨(.type "dict"), none, .dict #[entK P (PySem.Str.ofString "__name__") 1 (.str (PySem.Str.ofString "builtins") 160),
    entK P (PySem.Str.ofString "__doc__") 2 (.builtin "builtins.__doc__:str#opaque"),
    entK P (PySem.Str.ofString "__package__") 3 (.builtin "builtins.__package__:str#opaque"),
    entK P (PySem.Str.ofString "__loader__") 4 (.builtin "builtins.__loader__:shared#opaque"),
    entK P (PySem.Str.ofString "__spec__") 5 (.builtin "builtins.__spec__#opaque"),
    entK P (PySem.Str.ofString "__build_class__") 6 (.builtin "__build_class__"),
    entK P (PySem.Str.ofString "__import__") 7 (.builtin "__import__"),
    entK P (PySem.Str.ofString "abs") 8 (.builtin "abs"),
    entK P (PySem.Str.ofString "all") 9 (.builtin "all"),
    entK P (PySem.Str.ofString "any") 10 (.builtin "any"),
    entK P (PySem.Str.ofString "ascii") 11 (.builtin "ascii"),
    entK P (PySem.Str.ofString "bin") 12 (.builtin "bin"),
    entK P (PySem.Str.ofString "breakpoint") 13 (.builtin "breakpoint"),
    entK P (PySem.Str.ofString "callable") 14 (.builtin "callable"),
    entK P (PySem.Str.ofString "chr") 15 (.builtin "chr"),
    entK P (PySem.Str.ofString "compile") 16 (.builtin "compile"),
    entK P (PySem.Str.ofString "delattr") 17 (.builtin "delattr"),
    entK P (PySem.Str.ofString "dir") 18 (.builtin "dir"),
    entK P (PySem.Str.ofString "divmod") 19 (.builtin "divmod"),
    entK P (PySem.Str.ofString "eval") 20 (.builtin "eval"),
    entK P (PySem.Str.ofString "exec") 21 (.builtin "exec"),
    entK P (PySem.Str.ofString "format") 22 (.builtin "format"),
    entK P (PySem.Str.ofString "getattr") 23 (.builtin "getattr"),
    entK P (PySem.Str.ofString "globals") 24 (.builtin "globals"),
    entK P (PySem.Str.ofString "hasattr") 25 (.builtin "hasattr"),
    entK P (PySem.Str.ofString "hash") 26 (.builtin "hash"),
    entK P (PySem.Str.ofString "hex") 27 (.builtin "hex"),
    entK P (PySem.Str.ofString "id") 28 (.builtin "id"),
    entK P (PySem.Str.ofString "input") 29 (.builtin "input"),
    entK P (PySem.Str.ofString "isinstance") 30 (.builtin "isinstance"),
    entK P (PySem.Str.ofString "issubclass") 31 (.builtin "issubclass"),
    entK P (PySem.Str.ofString "iter") 32 (.builtin "iter"),
    entK P (PySem.Str.ofString "aiter") 33 (.builtin "aiter"),
    entK P (PySem.Str.ofString "len") 34 (.builtin "len"),
    entK P (PySem.Str.ofString "locals") 35 (.builtin "locals"),
    entK P (PySem.Str.ofString "max") 36 (.builtin "max"),
    entK P (PySem.Str.ofString "min") 37 (.builtin "min"),
    entK P (PySem.Str.ofString "next") 38 (.builtin "next"),
    entK P (PySem.Str.ofString "anext") 39 (.builtin "anext"),
    entK P (PySem.Str.ofString "oct") 40 (.builtin "oct"),
    entK P (PySem.Str.ofString "ord") 41 (.builtin "ord"),
    entK P (PySem.Str.ofString "pow") 42 (.builtin "pow"),
    entK P (PySem.Str.ofString "print") 43 (.builtin "print"),
    entK P (PySem.Str.ofString "repr") 44 (.builtin "repr"),
    entK P (PySem.Str.ofString "round") 45 (.builtin "round"),
    entK P (PySem.Str.ofString "setattr") 46 (.builtin "setattr"),
    entK P (PySem.Str.ofString "sorted") 47 (.builtin "sorted"),
    entK P (PySem.Str.ofString "sum") 48 (.builtin "sum"),
    entK P (PySem.Str.ofString "vars") 49 (.builtin "vars"),
    entK P (PySem.Str.ofString "None") 50 .none,
    entK P (PySem.Str.ofString "Ellipsis") 51 .ellipsis,
    entK P (PySem.Str.ofString "NotImplemented") 52 .notImplemented,
    entK P (PySem.Str.ofString "False") 53 (.bool false),
    entK P (PySem.Str.ofString "True") 54 (.bool true),
    entK P (PySem.Str.ofString "bool") 55 (.type "bool"),
    entK P (PySem.Str.ofString "memoryview") 56 (.type "memoryview"),
    entK P (PySem.Str.ofString "bytearray") 57 (.type "bytearray"),
    entK P (PySem.Str.ofString "bytes") 58 (.type "bytes"),
    entK P (PySem.Str.ofString "classmethod") 59 (.type "classmethod"),
    entK P (PySem.Str.ofString "complex") 60 (.type "complex"),
    entK P (PySem.Str.ofString "dict") 61 (.type "dict"),
    entK P (PySem.Str.ofString "enumerate") 62 (.type "enumerate"),
    entK P (PySem.Str.ofString "filter") 63 (.type "filter"),
    entK P (PySem.Str.ofString "float") 64 (.type "float"),
    entK P (PySem.Str.ofString "frozenset") 65 (.type "frozenset"),
    entK P (PySem.Str.ofString "property") 66 (.type "property"),
    entK P (PySem.Str.ofString "int") 67 (.type "int"),
    entK P (PySem.Str.ofString "list") 68 (.type "list"),
    entK P (PySem.Str.ofString "map") 69 (.type "map"),
    entK P (PySem.Str.ofString "object") 70 (.type "object"),
    entK P (PySem.Str.ofString "range") 71 (.type "range"),
    entK P (PySem.Str.ofString "reversed") 72 (.type "reversed"),
    entK P (PySem.Str.ofString "set") 73 (.type "set"),
    entK P (PySem.Str.ofString "slice") 74 (.type "slice"),
    entK P (PySem.Str.ofString "staticmethod") 75 (.type "staticmethod"),
    entK P (PySem.Str.ofString "str") 76 (.type "str"),
    entK P (PySem.Str.ofString "super") 77 (.type "super"),
    entK P (PySem.Str.ofString "tuple") 78 (.type "tuple"),
    entK P (PySem.Str.ofString "type") 79 (.type "type"),
    entK P (PySem.Str.ofString "zip") 80 (.type "zip"),
    entK P (PySem.Str.ofString "__debug__") 81 (.bool true),
    entK P (PySem.Str.ofString "BaseException") 82 (.type "BaseException"),
    entK P (PySem.Str.ofString "BaseExceptionGroup") 83 (.type "BaseExceptionGroup"),
    entK P (PySem.Str.ofString "Exception") 84 (.type "Exception"),
    entK P (PySem.Str.ofString "GeneratorExit") 85 (.type "GeneratorExit"),
    entK P (PySem.Str.ofString "KeyboardInterrupt") 86 (.type "KeyboardInterrupt"),
    entK P (PySem.Str.ofString "SystemExit") 87 (.type "SystemExit"),
    entK P (PySem.Str.ofString "ArithmeticError") 88 (.type "ArithmeticError"),
    entK P (PySem.Str.ofString "AssertionError") 89 (.type "AssertionError"),
    entK P (PySem.Str.ofString "AttributeError") 90 (.type "AttributeError"),
    entK P (PySem.Str.ofString "BufferError") 91 (.type "BufferError"),
    entK P (PySem.Str.ofString "EOFError") 92 (.type "EOFError"),
    entK P (PySem.Str.ofString "ImportError") 93 (.type "ImportError"),
    entK P (PySem.Str.ofString "LookupError") 94 (.type "LookupError"),
    entK P (PySem.Str.ofString "MemoryError") 95 (.type "MemoryError"),
    entK P (PySem.Str.ofString "NameError") 96 (.type "NameError"),
    entK P (PySem.Str.ofString "OSError") 97 (.type "OSError"),
    entK P (PySem.Str.ofString "ReferenceError") 98 (.type "ReferenceError"),
    entK P (PySem.Str.ofString "RuntimeError") 99 (.type "RuntimeError"),
    entK P (PySem.Str.ofString "StopAsyncIteration") 100 (.type "StopAsyncIteration"),
    entK P (PySem.Str.ofString "StopIteration") 101 (.type "StopIteration"),
    entK P (PySem.Str.ofString "SyntaxError") 102 (.type "SyntaxError"),
    entK P (PySem.Str.ofString "SystemError") 103 (.type "SystemError"),
    entK P (PySem.Str.ofString "TypeError") 104 (.type "TypeError"),
    entK P (PySem.Str.ofString "ValueError") 105 (.type "ValueError"),
    entK P (PySem.Str.ofString "Warning") 106 (.type "Warning"),
    entK P (PySem.Str.ofString "FloatingPointError") 107 (.type "FloatingPointError"),
    entK P (PySem.Str.ofString "OverflowError") 108 (.type "OverflowError"),
    entK P (PySem.Str.ofString "ZeroDivisionError") 109 (.type "ZeroDivisionError"),
    entK P (PySem.Str.ofString "BytesWarning") 110 (.type "BytesWarning"),
    entK P (PySem.Str.ofString "DeprecationWarning") 111 (.type "DeprecationWarning"),
    entK P (PySem.Str.ofString "EncodingWarning") 112 (.type "EncodingWarning"),
    entK P (PySem.Str.ofString "FutureWarning") 113 (.type "FutureWarning"),
    entK P (PySem.Str.ofString "ImportWarning") 114 (.type "ImportWarning"),
    entK P (PySem.Str.ofString "PendingDeprecationWarning") 115 (.type "PendingDeprecationWarning"),
    entK P (PySem.Str.ofString "ResourceWarning") 116 (.type "ResourceWarning"),
    entK P (PySem.Str.ofString "RuntimeWarning") 117 (.type "RuntimeWarning"),
    entK P (PySem.Str.ofString "SyntaxWarning") 118 (.type "SyntaxWarning"),
    entK P (PySem.Str.ofString "UnicodeWarning") 119 (.type "UnicodeWarning"),
    entK P (PySem.Str.ofString "UserWarning") 120 (.type "UserWarning"),
    entK P (PySem.Str.ofString "BlockingIOError") 121 (.type "BlockingIOError"),
    entK P (PySem.Str.ofString "ChildProcessError") 122 (.type "ChildProcessError"),
    entK P (PySem.Str.ofString "ConnectionError") 123 (.type "ConnectionError"),
    entK P (PySem.Str.ofString "FileExistsError") 124 (.type "FileExistsError"),
    entK P (PySem.Str.ofString "FileNotFoundError") 125 (.type "FileNotFoundError"),
    entK P (PySem.Str.ofString "InterruptedError") 126 (.type "InterruptedError"),
    entK P (PySem.Str.ofString "IsADirectoryError") 127 (.type "IsADirectoryError"),
    entK P (PySem.Str.ofString "NotADirectoryError") 128 (.type "NotADirectoryError"),
    entK P (PySem.Str.ofString "PermissionError") 129 (.type "PermissionError"),
    entK P (PySem.Str.ofString "ProcessLookupError") 130 (.type "ProcessLookupError"),
    entK P (PySem.Str.ofString "TimeoutError") 131 (.type "TimeoutError"),
    entK P (PySem.Str.ofString "IndentationError") 132 (.type "IndentationError"),
    entK P (PySem.Str.ofString "_IncompleteInputError") 133 (.type "_IncompleteInputError"),
    entK P (PySem.Str.ofString "IndexError") 134 (.type "IndexError"),
    entK P (PySem.Str.ofString "KeyError") 135 (.type "KeyError"),
    entK P (PySem.Str.ofString "ModuleNotFoundError") 136 (.type "ModuleNotFoundError"),
    entK P (PySem.Str.ofString "NotImplementedError") 137 (.type "NotImplementedError"),
    entK P (PySem.Str.ofString "PythonFinalizationError") 138 (.type "PythonFinalizationError"),
    entK P (PySem.Str.ofString "RecursionError") 139 (.type "RecursionError"),
    entK P (PySem.Str.ofString "UnboundLocalError") 140 (.type "UnboundLocalError"),
    entK P (PySem.Str.ofString "UnicodeError") 141 (.type "UnicodeError"),
    entK P (PySem.Str.ofString "BrokenPipeError") 142 (.type "BrokenPipeError"),
    entK P (PySem.Str.ofString "ConnectionAbortedError") 143 (.type "ConnectionAbortedError"),
    entK P (PySem.Str.ofString "ConnectionRefusedError") 144 (.type "ConnectionRefusedError"),
    entK P (PySem.Str.ofString "ConnectionResetError") 145 (.type "ConnectionResetError"),
    entK P (PySem.Str.ofString "TabError") 146 (.type "TabError"),
    entK P (PySem.Str.ofString "UnicodeDecodeError") 147 (.type "UnicodeDecodeError"),
    entK P (PySem.Str.ofString "UnicodeEncodeError") 148 (.type "UnicodeEncodeError"),
    entK P (PySem.Str.ofString "UnicodeTranslateError") 149 (.type "UnicodeTranslateError"),
    entK P (PySem.Str.ofString "ExceptionGroup") 150 (.type "ExceptionGroup"),
    entK P (PySem.Str.ofString "EnvironmentError") 151 (.type "OSError"),
    entK P (PySem.Str.ofString "IOError") 152 (.type "OSError"),
    entK P (PySem.Str.ofString "open") 153 (.builtin "open"),
    entK P (PySem.Str.ofString "quit") 154 (.builtin "builtins.quit#opaque"),
    entK P (PySem.Str.ofString "exit") 155 (.builtin "builtins.exit#opaque"),
    entK P (PySem.Str.ofString "copyright") 156 (.builtin "builtins.copyright#opaque"),
    entK P (PySem.Str.ofString "credits") 157 (.builtin "builtins.credits#opaque"),
    entK P (PySem.Str.ofString "license") 158 (.builtin "builtins.license#opaque"),
    entK P (PySem.Str.ofString "help") 159 (.builtin "builtins.help#opaque")] 159, #[]⟩
noncomputable def o3 (P : Params) : Obj := ⟨(.type "dict"), none, .dict #[entK P (PySem.Str.ofString "__name__") 165 (.str (PySem.Str.ofString "law_in0027_01") 1258),
    entK P (PySem.Str.ofString "__doc__") 166 .none,
    entK P (PySem.Str.ofString "__package__") 167 .none,
    entK P (PySem.Str.ofString "__loader__") 168 (.builtin "__main__.__loader__#opaque"),
    entK P (PySem.Str.ofString "__spec__") 169 .none,
    entK P (PySem.Str.ofString "__annotations__") 170 (.ref 6),
    entK P (PySem.Str.ofString "__builtins__") 171 (.ref 4),
    entK P (PySem.Str.ofString "__file__") 173 (.str (PySem.Str.ofString "/claim/cut.py") 172),
    entK P (PySem.Str.ofString "__cached__") 174 .none,
    entK P (PySem.Str.ofString "_sre") 275 (.ref 12),
    entK P (PySem.Str.ofString "deque") 317 (.type "collections.deque"),
    entK P (PySem.Str.ofString "_wall") 330 (.ref 44),
    entK P (PySem.Str.ofString "_byteswap") 343 (.ref 51),
    entK P (PySem.Str.ofString "_twin_re_1") 383 (.ref 56),
    entK P (PySem.Str.ofString "_whence") 393 (.ref 63),
    entK P (PySem.Str.ofString "_index") 401 (.ref 70),
    entK P (PySem.Str.ofString "UnsupportedOperation") 423 (.ref 80),
    entK P (PySem.Str.ofString "IOBase") 455 (.ref 100),
    entK P (PySem.Str.ofString "BufferedIOBase") 473 (.ref 115),
    entK P (PySem.Str.ofString "TextIOBase") 491 (.ref 127),
    entK P (PySem.Str.ofString "BytesIO") 753 (.ref 357),
    entK P (PySem.Str.ofString "StringIO") 1040 (.ref 604),
    entK P (PySem.Str.ofString "_kind") 1051 (.ref 613),
    entK P (PySem.Str.ofString "_fspath") 1060 (.ref 620),
    entK P (PySem.Str.ofString "_check_arg_types") 1070 (.ref 627),
    entK P (PySem.Str.ofString "isabs") 1077 (.ref 634),
    entK P (PySem.Str.ofString "join") 1088 (.ref 750),
    entK P (PySem.Str.ofString "join_path") 1089 (.ref 641),
    entK P (PySem.Str.ofString "dirname") 1099 (.ref 648),
    entK P (PySem.Str.ofString "shlex") 1240 (.ref 739),
    entK P (PySem.Str.ofString "join_shlex") 1248 (.ref 750),
    entK P (PySem.Str.ofString "_find_unsafe") 1250 (.ref 751),
    entK P (PySem.Str.ofString "quote") 1257 (.ref 758),
    entK P (PySem.Str.ofString "_law_word") 1267 (.ref 765),
    entK P (PySem.Str.ofString "_law_tape") 1282 (.ref 772),
    entK P (PySem.Str.ofString "_law_run") 1288 (.ref 777),
    entK P (PySem.Str.ofString "_law_size") 1294 (.ref 782),
    entK P (PySem.Str.ofString "_law_told") 1300 (.ref 787),
    entK P (PySem.Str.ofString "law") 1306 (.ref 792)] 39, #[]⟩
noncomputable def o739 (P : Params) : Obj := ⟨(.type "type"), none, (.cls { name := (PySem.Str.ofString "shlex"), bases := [(.type "object")], mro := [(.ref 739), (.type "object")], ns := 738, qualname := (PySem.Str.ofString "shlex"), hasDict := true, slotNames := [], subclasses := [], abstract := false, collection := none, hasDel := false }), #[none, none, (some (.str (PySem.Str.ofString "shlex") 1102)), (some (.str (PySem.Str.ofString "shlex") 1110)), (some (.builtin "object.__new__")), (some (.bool true))]⟩
noncomputable def o738 (P : Params) : Obj := ⟨(.type "dict"), none, .dict #[entK P (PySem.Str.ofString "__module__") 1109 (.str (PySem.Str.ofString "cpy313.shlex") 1100),
    entK P (PySem.Str.ofString "__firstlineno__") 1113 (.int 480 1112),
    entK P (PySem.Str.ofString "__init__") 1125 (.ref 663),
    entK P (PySem.Str.ofString "punctuation_chars") 1133 (.ref 671),
    entK P (PySem.Str.ofString "push_token") 1141 (.ref 678),
    entK P (PySem.Str.ofString "push_source") 1150 (.ref 686),
    entK P (PySem.Str.ofString "pop_source") 1157 (.ref 693),
    entK P (PySem.Str.ofString "get_token") 1169 (.ref 700),
    entK P (PySem.Str.ofString "read_token") 1180 (.ref 707),
    entK P (PySem.Str.ofString "sourcehook") 1188 (.ref 714),
    entK P (PySem.Str.ofString "error_leader") 1197 (.ref 722),
    entK P (PySem.Str.ofString "__iter__") 1204 (.ref 729),
    entK P (PySem.Str.ofString "__next__") 1212 (.ref 736),
    entK P (PySem.Str.ofString "__static_attributes__") 1233 (.ref 737),
    entK P (PySem.Str.ofString "__dict__") 1235 (.ref 740),
    entK P (PySem.Str.ofString "__weakref__") 1237 (.ref 741),
    entK P (PySem.Str.ofString "__doc__") 1238 .none] 4, #[]⟩
noncomputable def o2 (P : Params) : Obj := ⟨.none, none, .dict #[entK P (PySem.Str.ofString "\x69mport.loaded._sre") 183 (.bool true),
    entK P (PySem.Str.ofString "class._frozen_importlib.BuiltinImporter") 185 (.ref 14),
    entK P (PySem.Str.ofString "watched.\x69mport") 206 (.ref 18),
    entK P (PySem.Str.ofString "class._frozen_importlib.ModuleSpec") 216 (.ref 22),
    entK P (PySem.Str.ofString "sys.modules.booked-epoch") 245 (.int 4 0),
    entK P (PySem.Str.ofString "\x69mport.later-laid._sre") 270 (.bool true),
    entK P (PySem.Str.ofString "watched.library") 272 (.ref 27),
    entK P (PySem.Str.ofString "watched.library-objects") 0 (.str (PySem.Str.mk #[12, 30]) 0),
    entK P (PySem.Str.ofString "watched.library-deep._sre") 273 (.str (PySem.Str.mk #[4, 0, 0, 11, 4, 0, 0, 11, 4, 0, 0, 3, 4, 0, 0, 11, 8, 4, 100, 105, 99, 116, 2]) 0),
    entK P (PySem.Str.ofString "\x69mport.loaded._collections") 280 (.bool true),
    entK P (PySem.Str.ofString "sys.modules.landed._collections") 294 (.bool true),
    entK P (PySem.Str.ofString "\x69mport.later-laid._collections") 309 (.bool true),
    entK P (PySem.Str.ofString "watched.library-deep._collections") 311 (.str (PySem.Str.mk #[4, 0, 0, 29, 4, 0, 0, 29, 4, 0, 0, 3, 4, 0, 0, 29, 8, 4, 100, 105, 99, 116, 2]) 0),
    entK P (PySem.Str.ofString "type.__subclasses__.OSError.0") 420 (.int 80 0),
    entK P (PySem.Str.ofString "type.__subclasses__.OSError.n") 421 (.int 1 0)] 15, #[]⟩
noncomputable def o772 (P : Params) : Obj := ⟨(.type "function"), none, .func (fnD (topS 31) (PySem.Str.ofString "_law_tape") [] .none .none .none (.str (PySem.Str.ofString "law_in0027_01") 1258) none (.ref 771) .none), #[]⟩
noncomputable def o771 (P : Params) : Obj := ⟨(.type "code"), none, .fields #[(.str (PySem.Str.ofString "_law_tape") 1268), (.str (PySem.Str.ofString "_law_tape") 1269), (.str (PySem.Str.ofString "/claim/cut.py") 1270), (.int 746 0), (.int 3 0), (.int 0 0), (.int 0 0), (.int 3 0), (.ref 766), (.bool true), (.int 318 0), (.ref 767), .none, (.ref 768), (.ref 769), (.ref 770), (.int 1280 0), (.int 746 0), (.str (PySem.Str.ofString "/claim/cut.py") 1281)], #[]⟩
noncomputable def o4 (P : Params) : Obj := ⟨(.type "module"), (some 0), .plain, #[]⟩
noncomputable def o663 (P : Params) : Obj := ⟨(.type "function"), none, .func (fnD (clsS 24 0) (PySem.Str.ofString "shlex.__init__") [] (.ref 656) .none .none (.str (PySem.Str.ofString "cpy313.shlex") 1100) none (.ref 662) .none), #[]⟩
noncomputable def o662 (P : Params) : Obj := ⟨(.type "code"), none, .fields #[(.str (PySem.Str.ofString "__init__") 1114), (.str (PySem.Str.ofString "shlex.__init__") 1115), (.str (PySem.Str.ofString "/claim/cut.py") 1116), (.int 482 0), (.int 5 0), (.int 0 0), (.int 0 0), (.int 3 0), (.ref 657), (.bool true), (.int 318 0), (.ref 658), .none, (.ref 659), (.ref 660), (.ref 661), (.int 1123 0), (.int 482 0), (.str (PySem.Str.ofString "/claim/cut.py") 1124)], #[]⟩
noncomputable def o656 (P : Params) : Obj := ⟨(.type "tuple"), none, .seq #[.none, .none, (.bool false), (.bool false)] 0, #[]⟩
noncomputable def o707 (P : Params) : Obj := ⟨(.type "function"), none, .func (fnD (clsS 24 6) (PySem.Str.ofString "shlex.read_token") [] .none .none .none (.str (PySem.Str.ofString "cpy313.shlex") 1100) none (.ref 706) .none), #[]⟩
noncomputable def o706 (P : Params) : Obj := ⟨(.type "code"), none, .fields #[(.str (PySem.Str.ofString "read_token") 1170), (.str (PySem.Str.ofString "shlex.read_token") 1171), (.str (PySem.Str.ofString "/claim/cut.py") 1172), (.int 577 0), (.int 1 0), (.int 0 0), (.int 0 0), (.int 3 0), (.ref 701), (.bool true), (.int 318 0), (.ref 702), .none, (.ref 703), (.ref 704), (.ref 705), (.int 1178 0), (.int 577 0), (.str (PySem.Str.ofString "/claim/cut.py") 1179)], #[]⟩
noncomputable def o700 (P : Params) : Obj := ⟨(.type "function"), none, .func (fnD (clsS 24 5) (PySem.Str.ofString "shlex.get_token") [] .none .none .none (.str (PySem.Str.ofString "cpy313.shlex") 1100) none (.ref 699) .none), #[]⟩
noncomputable def o699 (P : Params) : Obj := ⟨(.type "code"), none, .fields #[(.str (PySem.Str.ofString "get_token") 1158), (.str (PySem.Str.ofString "shlex.get_token") 1159), (.str (PySem.Str.ofString "/claim/cut.py") 1160), (.int 550 0), (.int 1 0), (.int 0 0), (.int 0 0), (.int 3 0), (.ref 694), (.bool true), (.int 318 0), (.ref 695), .none, (.ref 696), (.ref 697), (.ref 698), (.int 1167 0), (.int 550 0), (.str (PySem.Str.ofString "/claim/cut.py") 1168)], #[]⟩
noncomputable def o671 (P : Params) : Obj := ⟨(.type "property"), none, .fields #[(.ref 670), .none, .none, .none, (.str (PySem.Str.ofString "punctuation_chars") 1133), (.bool false)], #[]⟩
noncomputable def o670 (P : Params) : Obj := ⟨(.type "function"), none, .func (fnD (clsS 24 1) (PySem.Str.ofString "shlex.punctuation_chars") [] .none .none .none (.str (PySem.Str.ofString "cpy313.shlex") 1100) none (.ref 669) .none), #[]⟩
noncomputable def o669 (P : Params) : Obj := ⟨(.type "code"), none, .fields #[(.str (PySem.Str.ofString "punctuation_chars") 1126), (.str (PySem.Str.ofString "shlex.punctuation_chars") 1127), (.str (PySem.Str.ofString "/claim/cut.py") 1128), (.int 523 0), (.int 1 0), (.int 0 0), (.int 0 0), (.int 3 0), (.ref 664), (.bool true), (.int 318 0), (.ref 665), .none, (.ref 666), (.ref 667), (.ref 668), (.int 1130 0), (.int 523 0), (.str (PySem.Str.ofString "/claim/cut.py") 1131)], #[]⟩
noncomputable def o51 (P : Params) : Obj := ⟨(.type "function"), none, .func (fnD (topS 4) (PySem.Str.ofString "_byteswap") [] .none .none .none (.str (PySem.Str.ofString "cpy313.wave") 331) none (.ref 50) .none), #[]⟩
noncomputable def o50 (P : Params) : Obj := ⟨(.type "code"), none, .fields #[(.str (PySem.Str.ofString "_byteswap") 333), (.str (PySem.Str.ofString "_byteswap") 334), (.str (PySem.Str.ofString "/claim/cut.py") 335), (.int 7 0), (.int 2 0), (.int 0 0), (.int 0 0), (.int 3 0), (.ref 45), (.bool true), (.int 318 0), (.ref 46), .none, (.ref 47), (.ref 48), (.ref 49), (.int 341 0), (.int 7 0), (.str (PySem.Str.ofString "/claim/cut.py") 342)], #[]⟩
noncomputable def o758 (P : Params) : Obj := ⟨(.type "function"), none, .func (fnD (topS 28) (PySem.Str.ofString "quote") [] .none .none .none (.str (PySem.Str.ofString "cpy313.shlex") 1100) none (.ref 757) .none), #[]⟩
noncomputable def o757 (P : Params) : Obj := ⟨(.type "code"), none, .fields #[(.str (PySem.Str.ofString "quote") 1251), (.str (PySem.Str.ofString "quote") 1252), (.str (PySem.Str.ofString "/claim/cut.py") 1253), (.int 736 0), (.int 1 0), (.int 0 0), (.int 0 0), (.int 3 0), (.ref 752), (.bool true), (.int 318 0), (.ref 753), .none, (.ref 754), (.ref 755), (.ref 756), (.int 1255 0), (.int 736 0), (.str (PySem.Str.ofString "/claim/cut.py") 1256)], #[]⟩
noncomputable def o750 (P : Params) : Obj := ⟨(.type "function"), none, .func (fnD (topS 25) (PySem.Str.ofString "join") [] .none .none .none (.str (PySem.Str.ofString "cpy313.shlex") 1100) none (.ref 749) .none), #[]⟩
noncomputable def o749 (P : Params) : Obj := ⟨(.type "code"), none, .fields #[(.str (PySem.Str.ofString "join") 1241), (.str (PySem.Str.ofString "join") 1242), (.str (PySem.Str.ofString "/claim/cut.py") 1243), (.int 732 0), (.int 1 0), (.int 0 0), (.int 0 0), (.int 3 0), (.ref 744), (.bool true), (.int 318 0), (.ref 745), .none, (.ref 746), (.ref 747), (.ref 748), (.int 1245 0), (.int 732 0), (.str (PySem.Str.ofString "/claim/cut.py") 1246)], #[]⟩
noncomputable def o751 (P : Params) : Obj := ⟨(.type "builtin_function_or_method"), none, .fields #[(.builtin "re.Pattern.search"), (.ref 56)], #[]⟩
noncomputable def o56 (P : Params) : Obj := ⟨(.type "re.Pattern"), none, .fields #[(.str (PySem.Str.ofString "[^\\w@%+=:,./-]") 345), (.int 256 382), (.int 0 0), .none, .none, (.ref 55), (.int 0 0)], #[]⟩
noncomputable def o55 (P : Params) : Obj := ⟨(.type "tuple"), none, .seq #[(.int 14 0), (.int 17 0), (.int 4 0), (.int 1 0), (.int 1 0), (.int 21 0), (.int 9 0), (.int 0 0), (.int 604043296 0), (.int 1 0), (.int 0 0), (.int 0 0), (.int 0 0), (.int 0 0), (.int 0 0), (.int 8 0), (.int 4 0), (.int 0 0), (.int 13 0), (.int 14 0), (.int 21 0), (.int 9 0), (.int 0 0), (.int 604043296 0), (.int 1 0), (.int 0 0), (.int 0 0), (.int 0 0), (.int 0 0), (.int 0 0), (.int 8 0), (.int 4 0), (.int 0 0), (.int 1 0)] 0, #[]⟩
noncomputable def o765 (P : Params) : Obj := ⟨(.type "function"), none, .func (fnD (topS 30) (PySem.Str.ofString "_law_word") [] .none .none .none (.str (PySem.Str.ofString "law_in0027_01") 1258) none (.ref 764) .none), #[]⟩
noncomputable def o764 (P : Params) : Obj := ⟨(.type "code"), none, .fields #[(.str (PySem.Str.ofString "_law_word") 1260), (.str (PySem.Str.ofString "_law_word") 1261), (.str (PySem.Str.ofString "/claim/cut.py") 1262), (.int 743 0), (.int 1 0), (.int 0 0), (.int 0 0), (.int 3 0), (.ref 759), (.bool true), (.int 318 0), (.ref 760), .none, (.ref 761), (.ref 762), (.ref 763), (.int 1265 0), (.int 743 0), (.str (PySem.Str.ofString "/claim/cut.py") 1266)], #[]⟩
noncomputable def o777 (P : Params) : Obj := ⟨(.type "function"), none, .func (fnD (topS 32) (PySem.Str.ofString "_law_run") [] .none .none .none (.str (PySem.Str.ofString "law_in0027_01") 1258) none (.ref 776) .none), #[]⟩
noncomputable def o776 (P : Params) : Obj := ⟨(.type "code"), none, .fields #[(.str (PySem.Str.ofString "_law_run") 1283), (.str (PySem.Str.ofString "_law_run") 1284), (.str (PySem.Str.ofString "/claim/cut.py") 1285), (.int 757 0), (.int 2 0), (.int 0 0), (.int 0 0), (.int 3 0), (.ref 773), (.bool true), (.int 318 0), (.ref 774), .none, .none, .none, (.ref 775), (.int 1286 0), (.int 757 0), (.str (PySem.Str.ofString "/claim/cut.py") 1287)], #[]⟩
noncomputable def o782 (P : Params) : Obj := ⟨(.type "function"), none, .func (fnD (topS 33) (PySem.Str.ofString "_law_size") [] .none .none .none (.str (PySem.Str.ofString "law_in0027_01") 1258) none (.ref 781) .none), #[]⟩
noncomputable def o781 (P : Params) : Obj := ⟨(.type "code"), none, .fields #[(.str (PySem.Str.ofString "_law_size") 1289), (.str (PySem.Str.ofString "_law_size") 1290), (.str (PySem.Str.ofString "/claim/cut.py") 1291), (.int 769 0), (.int 1 0), (.int 0 0), (.int 0 0), (.int 3 0), (.ref 778), (.bool true), (.int 318 0), (.ref 779), .none, .none, .none, (.ref 780), (.int 1292 0), (.int 769 0), (.str (PySem.Str.ofString "/claim/cut.py") 1293)], #[]⟩
noncomputable def o787 (P : Params) : Obj := ⟨(.type "function"), none, .func (fnD (topS 34) (PySem.Str.ofString "_law_told") [] .none .none .none (.str (PySem.Str.ofString "law_in0027_01") 1258) none (.ref 786) .none), #[]⟩
noncomputable def o786 (P : Params) : Obj := ⟨(.type "code"), none, .fields #[(.str (PySem.Str.ofString "_law_told") 1295), (.str (PySem.Str.ofString "_law_told") 1296), (.str (PySem.Str.ofString "/claim/cut.py") 1297), (.int 774 0), (.int 2 0), (.int 0 0), (.int 0 0), (.int 3 0), (.ref 783), (.bool true), (.int 318 0), (.ref 784), .none, .none, .none, (.ref 785), (.int 1298 0), (.int 774 0), (.str (PySem.Str.ofString "/claim/cut.py") 1299)], #[]⟩
noncomputable def o792 (P : Params) : Obj := ⟨(.type "function"), none, .func (fnD (topS 35) (PySem.Str.ofString "law") [] .none .none .none (.str (PySem.Str.ofString "law_in0027_01") 1258) none (.ref 791) .none), #[]⟩
noncomputable def o791 (P : Params) : Obj := ⟨(.type "code"), none, .fields #[(.str (PySem.Str.ofString "law") 1301), (.str (PySem.Str.ofString "law") 1302), (.str (PySem.Str.ofString "/claim/cut.py") 1303), (.int 783 0), (.int 1 0), (.int 0 0), (.int 0 0), (.int 3 0), (.ref 788), (.bool true), (.int 318 0), (.ref 789), .none, .none, .none, (.ref 790), (.int 1304 0), (.int 783 0), (.str (PySem.Str.ofString "/claim/cut.py") 1305)], #[]⟩
noncomputable def staL : List (Nat × (Params → Obj)) := [(0, o0), (3, o3), (739, o739), (738, o738), (2, o2), (772, o772), (771, o771), (4, o4), (663, o663), (662, o662), (656, o656), (707, o707), (706, o706), (700, o700), (699, o699), (671, o671), (670, o670), (669, o669), (51, o51), (50, o50), (758, o758), (757, o757), (750, o750), (749, o749), (751, o751), (56, o56), (55, o55), (765, o765), (764, o764), (777, o777), (776, o776), (782, o782), (781, o781), (787, o787), (786, o786), (792, o792), (791, o791)]
noncomputable def lookN : List (Nat × (Params → Obj)) → Params → Addr → Option Obj
  | [], _, _ => none
  | p :: r, P, a => match Nat.beq p.1 a with
    | true => some (p.2 P)
    | false => lookN r P a
noncomputable def KK (w : World) : Sta := fun a => lookN staL w.params a
theorem lookN_mem {P : Params} {a : Addr} {o : Obj} : ∀ {l : List (Nat × (Params → Obj))}, lookN l P a = some o → ∃ p ∈ l, p.1 = a ∧ p.2 P = o
  | [], h => nomatch h
  | p :: r, h => by
    unfold lookN at h
    split at h
    · rename_i e; cases h; exact ⟨p, .head _, Nat.eq_of_beq_eq_true e, rfl⟩
    · obtain ⟨q, hq, e⟩ := lookN_mem h; exact ⟨q, .tail _ hq, e⟩
noncomputable def dataOf (K : Sta) (a : Addr) : Data := match K a with | some ⟨_, _, d, _⟩ => d | _ => .plain
noncomputable def entsOf (K : Sta) (a : Addr) : List DictEntry := match dataOf K a with | .dict es _ => es.toList | _ => []
theorem kStat (w : World) : KK w cStatics = some { cls := .none, data := .dict (entsOf (KK w) 2).toArray 15 } := by kernel_rfl
theorem kStatKeys (w : World) : (entsOf (KK w) 2).all (fun e => match e.key with | .str _ _ => true | _ => false) = true := by kernel_rfl
theorem kStatNone (w : World) : nsFind (entsOf (KK w) 2).toArray "sys.recursionlimit" = none := by kernel_rfl
theorem kNoLimit (w : World) : ∀ h, (KK w).In h → h.NoLimit := by
  intro h X
  refine ⟨fun n => nsFind (entsOf (KK w) 2).toArray n, ⟨_, _, _, X _ _ (kStat w), rfl, fun e he => ?_, fun _ => rfl⟩, kStatNone w⟩
  have := List.all_eq_true.mp (kStatKeys w) e (by simpa using he)
  split at this
  · rename_i n t hk; exact ⟨n, t, hk⟩
  · cases this
noncomputable def fdOf (K : Sta) (a : Addr) : FuncData := match K a with | some ⟨_, _, .func fd, _⟩ => fd | _ => default
noncomputable def hashZ (P : Params) (x : Str) : Int := PySem.W.X.condFn Int x.cps.isEmpty 0 (PySem.W.ZFast.zw12210062019545310541 (P.strHash x.cps))
noncomputable def ent (P : Params) (x : Str) (t : Tok) (v : Value) : DictEntry := ⟨hashZ P x, .str x t, v⟩
noncomputable def inst (C : Addr) (dx : Addr) : Obj := ⟨.ref C, some dx, .plain, #[]⟩
noncomputable def dicO (es : List DictEntry) (n : Nat) : Obj := ⟨.type "dict", none, .dict es.toArray n, #[]⟩
noncomputable def frmO (es : List DictEntry) (n : Nat) : Obj := ⟨.type "frame", none, .dict es.toArray n, #[]⟩
noncomputable def lstO (vs : List Value) (n : Nat) : Obj := ⟨.type "list", none, .seq vs.toArray n, #[]⟩
noncomputable def stmtsOf (fd : FuncData) : List Stmt := match fd.body with | .stmts b => b | _ => []
noncomputable def defParams : Stmt → Arguments | .FunctionDef _ a _ _ _ _ _ _ _ _ => a | _ => default
noncomputable def defBody : Stmt → List Stmt | .FunctionDef _ _ b _ _ _ _ _ _ _ => b | _ => []
noncomputable def defScope : Stmt → Scope | .FunctionDef _ _ _ _ _ _ s _ _ _ => s | _ => default
noncomputable def tbO (ps : Array Value) : Obj := ⟨.none, none, .fields ps, #[]⟩
noncomputable def plO : Obj := ⟨.none, none, .fields #[], #[]⟩
end Mine
end PC0
section PTP
open PySem PySem.W PyProof.Rows PySem.Calls
namespace Mine
noncomputable def topRunT (den : Code → Sem PySem.Fin) (p : Program) (w : World) (n₀ : Nat) (ann : Option Value) : Nat → SharedT → Thread → Option SharedT
  | 0, _, _ => none
  | n + 1, s, t => match through t with
    | true => some s
    | false => match stepOk n₀ ann t with
      | false => none
      | true => match stepT den p w s t with
        | some (s', t') => topRunT den p w n₀ ann n s' t'
        | none => none
noncomputable abbrev denF : Code → Sem PySem.Fin := Fast.tw11892475500146522536 Fast.tw14364793385576792824
theorem denF_eq : denote treeTable = denF := congr (congrArg (fun x x_1 => x x_1) Fast.te11892475500146522536) Fast.te14364793385576792824
noncomputable def impRunT (p : Program) (w : World) : Nat → SharedT → Thread → Option SharedT
  | 0, _, _ => none
  | n + 1, s, t => match t.atExitBegin with
    | some [] => some s
    | some (_ :: _) => none
    | none => match Fast.tw10156331382660048174 denF p w s t with
      | some (s', t') => impRunT p w n s' t'
      | none => none
noncomputable def topRunF (p : Program) (w : World) (n₀ : Nat) (ann : Option Value) : Nat → SharedT → Thread → Option SharedT
  | 0, _, _ => none
  | n + 1, s, t => match through t with
    | true => some s
    | false => match Fast.tw6613529449190102663 n₀ ann t with
      | false => none
      | true => match Fast.tw10156331382660048174 denF p w s t with
        | some (s', t') => topRunF p w n₀ ann n s' t'
        | none => none
noncomputable def btOf? : List Obj → Nat → BT → Option BT
  | [], _, t => some t
  | o :: r, n, t => match ((t.ins n o).get n).isSome with
    | true => btOf? r (n + 1) (t.ins n o)
    | false => none
noncomputable def reT (s : Shared) : Option SharedT := (btOf? s.heap.objs.toList 0 .nil).map fun t => ⟨t, s.heap.objs.size, s.heap.life, s.gens, s.drawn, s.toks, s.os⟩
noncomputable def st0 (p : Program) : SharedT := ⟨.nil, 0, (start p).1.heap.life, (start p).1.gens, (start p).1.drawn, (start p).1.toks, (start p).1.os⟩
noncomputable def opT (p : Program) (w : World) (n : Nat) : Option SharedT := ((impRunT (opening p) w n (st0 p) (start (opening p)).2).bind fun s => fenceModules? p s.abs).bind reT
end Mine
end PTP
section PHD1
open PySem PySem.W PyProof.Rows PySem.Calls
set_option maxHeartbeats 0
namespace Mine
theorem stepF (p : Program) (w : World) (s : SharedT) (t : Thread) : Fast.tw10156331382660048174 denF p w s t = stepT (denote treeTable) p w s t := by
  rw [denF_eq]
  exact (congrFun (congrFun (congrFun (congrFun (congrFun Fast.te10156331382660048174 denF) p) w) s) t).symm
theorem stepOkF (n : Nat) (a : Option Value) (t : Thread) : Fast.tw6613529449190102663 n a t = stepOk n a t := (congrFun (congrFun (congrFun Fast.te6613529449190102663 n) a) t).symm
theorem impRunT_of {p : Program} {w : World} : ∀ {n : Nat} {s s' : SharedT} {t : Thread}, impRunT p w n s t = some s' → importEnds treeTable p w n s.abs t = some s'.abs
  | 0, _, _, _, h => by cases h
  | n + 1, s, s', t, h => by
    unfold impRunT at h
    unfold importEnds
    cases ht : t.atExitBegin with
    | some l =>
      rw [ht] at h
      cases l with
      | nil => cases h; rfl
      | cons _ _ => cases h
    | none =>
      rw [ht] at h
      rw [stepF] at h
      cases hs : stepT (denote treeTable) p w s t with
      | none => rw [hs] at h; cases h
      | some r =>
        obtain ⟨s₂, t₂⟩ := r
        rw [hs] at h
        simp only
        rw [stepT_spec hs]
        exact impRunT_of h
theorem topRunF_of {p : Program} {w : World} {n₀ : Nat} {ann : Option Value} : ∀ {n : Nat} {s s' : SharedT} {t : Thread}, topRunF p w n₀ ann n s t = some s' → topRun treeTable p w n₀ ann n s.abs t = some s'.abs
  | 0, _, _, _, h => by cases h
  | n + 1, s, s', t, h => by
    unfold topRunF at h
    unfold topRun
    cases ht : through t with
    | true => rw [ht] at h; cases h; rfl
    | false =>
      rw [ht, stepOkF] at h
      cases hk : stepOk n₀ ann t with
      | false => rw [hk] at h; cases h
      | true =>
        rw [hk, stepF] at h
        cases hs : stepT (denote treeTable) p w s t with
        | none => rw [hs] at h; cases h
        | some r =>
          obtain ⟨s₂, t₂⟩ := r
          rw [hs] at h
          simp only
          rw [stepT_spec hs]
          exact topRunF_of h
theorem btOf_abs {life : Life} : ∀ {l : List Obj} {n : Nat} {t t' : BT}, btOf? l n t = some t' → absHeap t' (n + l.length) life = ⟨(absHeap t n life).objs ++ l.toArray, life⟩
  | [], n, t, t', h => by
    cases h
    simp [absHeap]
  | o :: r, n, t, t', h => by
    unfold btOf? at h
    cases hs : ((t.ins n o).get n).isSome with
    | false => rw [hs] at h; cases h
    | true =>
      rw [hs] at h
      have ih := btOf_abs (life := life) h
      rw [absHeap_ins hs] at ih
      rw [show n + (o :: r).length = n + 1 + r.length by rw [List.length_cons]; omega, ih]
      simp [Heap.push]
theorem reT_abs {s : Shared} {t : SharedT} (h : reT s = some t) : t.abs = s := by
  unfold reT at h
  obtain ⟨b, hb, rfl⟩ := Option.map_eq_some_iff.mp h
  have z := btOf_abs (life := s.heap.life) hb
  show Shared.mk (absHeap b s.heap.objs.size s.heap.life) _ _ _ _ = s
  have e : s.heap.objs.size = 0 + s.heap.objs.toList.length := by simp
  rw [e, z]
  obtain ⟨⟨⟨l⟩, li⟩, g, d, tk, os⟩ := s
  simp [absHeap, BT.list]
theorem opT_of {p : Program} {w : World} {n : Nat} {t : SharedT} (h : opT p w n = some t) : fencedOpening treeTable p w n = some t.abs := by
  unfold opT at h
  obtain ⟨s, h1, h2⟩ := Option.bind_eq_some_iff.mp h
  obtain ⟨s₁, h3, h4⟩ := Option.bind_eq_some_iff.mp h1
  unfold fencedOpening
  rw [show (start (opening p)).1 = (st0 p).abs from rfl, impRunT_of h3, reT_abs h2]
  exact h4
/-! the program's view and what is looked at behind its top -/
noncomputable def keepL : List Nat := [0, 1, 2, 4, 5, 7, 8, 9, 10, 11, 12, 13, 14, 16, 17, 18, 19, 21, 22, 24, 25, 26, 27, 28, 30, 31, 32, 33, 34, 35]
noncomputable def looseN : List Str := ["_twin_re_1", "UnsupportedOperation", "IOBase", "BufferedIOBase", "TextIOBase", "BytesIO", "StringIO", "join_path", "shlex", "join_shlex", "_find_unsafe"]
noncomputable def qq : Program := { PG with main := { PG.main with body := keepL.map topS } }
noncomputable def xt (s : Shared) : Bool := xlAt qq [] s && recOk (PySem.Challenge.rw_in0027_01.row.records) s
noncomputable def look (s : Shared) : List (Option Obj) × Option Obj × Option Obj × Nat := (staL.map fun p => s.heap.get? p.1, s.heap.get? 745, s.heap.get? 767, s.heap.objs.size)
noncomputable def told (w : World) : List (Option Obj) × Option Obj × Option Obj × Nat := (staL.map fun p => some (p.2 w.params), some plO, some plO, 793)
noncomputable def topT (w : World) (t₀ : SharedT) : Option SharedT := match t₀.abs.heap.isNs mainGlobals && t₀.gens.size == 0 with
  | true => (topRunF PG w t₀.n (t₀.abs.heap.nsMap mainGlobals "__annotations__") 6000 t₀ (topStub PG)).bind fun t₁ => match staticsOk (importedModules PG.main.body) t₀.abs.heap t₁.abs.heap && namesBound PG t₁.abs.heap && gensDone t₁.abs && laidKept t₀.abs.heap t₁.abs.heap with
    | true => some t₁
    | false => none
  | false => none
theorem topT_of {w : World} {t₀ t₁ : SharedT} (h : topT w t₀ = some t₁) : topFrom treeTable PG w 6000 t₀.abs = some t₁.abs := by
  unfold topT at h
  unfold topFrom
  cases h1 : (t₀.abs.heap.isNs mainGlobals && t₀.gens.size == 0) with
  | false => rw [h1] at h; cases h
  | true =>
    rw [h1] at h
    obtain ⟨t, h2, h3⟩ := Option.bind_eq_some_iff.mp h
    have h4 := topRunF_of h2
    have e : t₀.abs.heap.objs.size = t₀.n := absHeap_size _ _ _
    have e1 : (t₀.abs.heap.isNs mainGlobals && t₀.abs.gens.size == 0) = true := h1
    rw [e1]
    show ((topRun treeTable PG w t₀.abs.heap.objs.size _ 6000 t₀.abs (topStub PG)).bind _) = _
    rw [e, h4]
    show (match _ with | true => _ | false => _) = _
    split at h3
    · cases h3; rfl
    · cases h3
theorem head_all (w : World) : ((opT PG w 6000).bind (topT w)).map (fun t => (Fast.tw4187177175401517315 qq looseN (importedModules PG.main.body) xt true t.abs, look t.abs)) = some (openGood qq looseN, told w) := by kernel_rfl
theorem left_own : LeftO PG qq looseN xt look told 6000 := fun w => by
  obtain ⟨t₁, h1, h2⟩ := Option.map_eq_some_iff.mp (head_all w)
  obtain ⟨t₀, h3, h4⟩ := Option.bind_eq_some_iff.mp h1
  unfold openEnds
  rw [opT_of h3]
  show (topFrom treeTable PG w 6000 t₀.abs).map _ = _
  rw [topT_of h4]
  have e : openSeen qq looseN (importedModules PG.main.body) xt true t₁.abs = Fast.tw4187177175401517315 qq looseN (importedModules PG.main.body) xt true t₁.abs := congrFun (congrFun (congrFun (congrFun (congrFun (congrFun Fast.te4187177175401517315 qq) looseN) (importedModules PG.main.body)) xt) true) t₁.abs
  show some (openSeen qq looseN (importedModules PG.main.body) xt true t₁.abs, look t₁.abs) = _
  rw [e]
  exact congrArg some h2
end Mine
end PHD1
section PS4
open PySem PySem.W PyProof.Rows PySem.Calls
namespace Mine
noncomputable abbrev execsZ : List Stmt → Env → Sem Flow := PySem.W.ZFast.zw12563942051412417395
noncomputable abbrev evalZ : PySem.Expr → Env → Sem Value := PySem.W.ZFast.zw14044960220447912780
noncomputable abbrev testZ (t : PySem.Expr) (env : Env) : Sem Bool := PySem.W.ZFast.zw15418851999007992765 t env (evalZ t env)
theorem execsZ_eq (b : List Stmt) (env : Env) : execs b env = execsZ b env := congrFun (congrFun PySem.W.ZFast.ze12563942051412417395 b) env
theorem evalZ_eq (e : PySem.Expr) (env : Env) : eval e env = evalZ e env := congrFun (congrFun PySem.W.ZFast.ze14044960220447912780 e) env
theorem testZ_eq (t : PySem.Expr) (env : Env) : isTrue t env (eval t env) = testZ t env := by
  show _ = PySem.W.ZFast.zw15418851999007992765 t env (evalZ t env)
  rw [← evalZ_eq, ← PySem.W.ZFast.ze15418851999007992765]
section
variable {B : Bool} {prog : Program} {w : World} {K : Sta} {A : Around} {E : Value → Shared → Prop} {s : Shared} {env : Env} {cs : Cells}
/-! the parts of a block, by name -/
noncomputable def hdS : List Stmt → Stmt | st :: _ => st | [] => default
noncomputable def ifT : List Stmt → PySem.Expr | .If t _ _ _ :: _ => t | _ => default
noncomputable def ifB : List Stmt → List Stmt | .If _ b _ _ :: _ => b | _ => []
noncomputable def ifE : List Stmt → List Stmt | .If _ _ e _ :: _ => e | _ => []
noncomputable def ifP : List Stmt → Pos | .If _ _ _ p :: _ => p | _ => default
noncomputable def whB : List Stmt → List Stmt | .While _ b _ _ :: _ => b | _ => []
/-! parts of the heap -/
theorem Hp.sub {K : Sta} {h : Heap} {cs cs' : Cells} (H : Hp K h cs) (hs : ∀ p ∈ cs', p ∈ cs) (hn : (cs'.map (·.1)).Nodup) : Hp K h cs' := ⟨H.st, fun p hp => H.ce p (hs p hp), hn, fun p hp => H.off p (hs p hp)⟩
theorem Hp.left {K : Sta} {h : Heap} {a b : Cells} (H : Hp K h (a ++ b)) : Hp K h a := H.sub (fun p hp => List.mem_append_left _ hp) (by have := H.nd; rw [List.map_append, List.nodup_append] at this; exact this.1)
theorem Hp.right {K : Sta} {h : Heap} {a b : Cells} (H : Hp K h (a ++ b)) : Hp K h b := H.sub (fun p hp => List.mem_append_right _ hp) (by have := H.nd; rw [List.map_append, List.nodup_append] at this; exact this.2.1)
theorem Hp.glue {K : Sta} {h h' : Heap} {a b b' : Cells} (H : Hp K h (a ++ b)) (k : Kept h h' b) (H' : Hp K h' b') (e : b'.map (·.1) = b.map (·.1)) : Hp K h' (a ++ b') := by
  have nd := H.nd
  rw [List.map_append, List.nodup_append] at nd
  refine ⟨H'.st, fun p hp => ?_, by rw [List.map_append, e, ← List.map_append]; exact H.nd, fun p hp => ?_⟩
  · rcases List.mem_append.mp hp with hp | hp
    · exact k _ _ (H.ce p (List.mem_append_left _ hp)) fun hb => nd.2.2 _ (List.mem_map_of_mem hp) _ hb rfl
    · exact H'.ce p hp
  · rcases List.mem_append.mp hp with hp | hp
    · exact H.off p (List.mem_append_left _ hp)
    · exact H'.off p hp
theorem Kept.trans {h h' h'' : Heap} {cs cs' : Cells} (k : Kept h h' cs) (k' : Kept h' h'' cs') (e : ∀ b, (∃ o, h.get? b = some o) → b ∈ cs'.map (·.1) → b ∈ cs.map (·.1)) : Kept h h'' cs :=
  fun b o eb hb => k' b o (k b o eb hb) fun hm => hb (e b ⟨o, eb⟩ hm)
theorem Kept.more {h h' : Heap} {cs cs' : Cells} (k : Kept h h' cs) (e : ∀ b ∈ cs.map (·.1), b ∈ cs'.map (·.1)) : Kept h h' cs' := fun b o eb hb => k b o eb fun hm => hb (e b hm)
theorem Ctr.mono {c : Code} {k rm : Nat} {s : Shared} {P : Value → Heap → Prop} (C : Ctr B prog w c k s P) (h : k ≤ rm) : Ctr B prog w c rm s P := fun A R hA hR => C A R (hA.le h) hR
theorem Ctr.weak {c : Code} {rm : Nat} {s : Shared} {P P' : Value → Heap → Prop} (C : Ctr B prog w c rm s P) (h : ∀ v h', P v h' → P' v h') : Ctr B prog w c rm s P' := fun A R hA hR => C A R hA fun v h' tk' hp => hR v h' tk' (h v h' hp)
end
theorem row_world (row : String) (w : World) : ∃ (w0 : World) (b : Bool), w = w0.withFollow row b := ⟨w, _, (World.withFollow_self w row).symm⟩
theorem by_row {P : World → Prop} (row : String) (w : World) (h0 : ∀ w : World, P (w.withFollow row false)) (h1 : ∀ w : World, P (w.withFollow row true)) : P w := by
  obtain ⟨w0, b, rfl⟩ := row_world row w
  cases b
  · exact h0 w0
  · exact h1 w0
@[elab_as_elim] theorem byR {P : World → Prop} (w : World) (h0 : ∀ w : World, P (w.withFollow "special-get-raises" false)) (h1 : ∀ w : World, P (w.withFollow "special-get-raises" true)) : P w := by_row "special-get-raises" w h0 h1
end Mine
end PS4
section PS5
open PySem PySem.W PyProof.Rows PySem.Calls
open PySem.Builtin.Str (occurrences)
namespace Mine
section
variable {B : Bool} {prog : Program} {w : World} {K : Sta}
theorem ctr_meets {T : String} {name : Str} {id : String} {Bi : Builtin} {self : Value} {rest : List Value} {S : PySem.Spec} {s : Shared} {rm : Nat} {P : Value → Heap → Prop} (slot : Slot T name id) (hT : s.TypeIs self T)
    (entry : entryFor table id = some Bi) (args : argsOk id ⟨self :: rest, []⟩) (g : Meets (Bi ⟨self :: rest, []⟩) S)
    (h : ∀ A (R : Result → Shared → Prop), (∀ v h' tk', P v h' → R (.ok (.ret v)) { s with heap := h', toks := tk' }) → S A R s) : Ctr B prog w (.call (.builtin id) ⟨self :: rest, []⟩) rm s P :=
  fun A R _ hR => codeC_of <| codeAny_call_builtin slot.plain entry (slot.check _ _ _ _ _ _ _ _ hT args (g prog w A R s (h A R hR)))
where
  Made_mono : ∀ {m : Made} {Q Q' : Value → Shared → Prop} {s : Shared}, m.post Q s → (∀ v s', Q v s' → Q' v s') → m.post Q' s
  | .val _, _, _, _, h, k => k _ _ h
  | .int _, _, _, _, h, k => k _ _ h
  | .str _, _, _, _, h, k => ⟨h.1, k _ _ h.2⟩
  | .float _, _, _, _, h, k => k _ _ h
  | .bytes _, _, _, _, h, k => ⟨h.1, k _ _ h.2⟩
  | .either _ _, _, _, _, h, k => ⟨Made_mono h.1 k, Made_mono h.2 k⟩
theorem Now.on {h0 : Heap} {cs0 : Cells} {N : Nat} {h : Heap} {cs : Cells} {n : Nat} (W : Now K h0 cs0 N h cs n) {h2 : Heap} (k : Kept h h2 cs) : Kept h0 h2 cs0 :=
  W.kept.trans k fun b ⟨o, eo⟩ hm => by
    obtain ⟨p, hp, rfl⟩ := List.mem_map.mp hm
    rcases W.new p hp with h1 | h1
    · exact h1
    · exact absurd (Heap.lt_size eo) (Nat.not_lt.mpr h1)
theorem nil_str (b : Str) : (⟨#[]⟩ : Str) ++ b = b := by
  obtain ⟨⟨l⟩⟩ := b
  show Str.mk (#[] ++ ⟨l⟩) = _
  simp
theorem str_nil (b : Str) : b ++ (⟨#[]⟩ : Str) = b := by
  obtain ⟨⟨l⟩⟩ := b
  show Str.mk (⟨l⟩ ++ #[]) = _
  simp
noncomputable def tokV : Value → Tok | .str _ t => t | .int _ t => t | .bytes _ t => t | _ => 0
noncomputable def tokD (cs : Cells) (i j : Nat) : Tok := match cs[i]? with
  | some p => match p.2.data with
    | .dict es _ => match es[j]? with
      | some e => tokV e.val
      | none => 0
    | _ => 0
  | none => 0
noncomputable def tokS (cs : Cells) (i j : Nat) : Tok := match cs[i]? with
  | some p => match p.2.data with
    | .seq vs _ => match vs[j]? with
      | some v => tokV v
      | none => 0
    | _ => 0
  | none => 0
theorem go_end (hlim : ∀ h, K.In h → h.NoLimit) {α : Type} {A : Around} {Q : α → Shared → Prop} {E : Value → Shared → Prop} {cur : Cur α} {s : Shared} {cs : Cells} (m rm : Nat) (is : List Nat) {v : α} (C : Cells → Cells) (nn : Nat)
    (H : Hp K s.heap cs) (e1 : (exK K ⟨prog, w.params⟩ s.heap.objs.size m rm cur is cs 0 s.toks []).cur = .bot (.pure v))
    (e3 : (exK K ⟨prog, w.params⟩ s.heap.objs.size m rm cur is cs 0 s.toks []).ob = obOf is (exK K ⟨prog, w.params⟩ s.heap.objs.size m rm cur is cs 0 s.toks []).cs)
    (e2 : (exK K ⟨prog, w.params⟩ s.heap.objs.size m rm cur is cs 0 s.toks []).cs.take nn = C (exK K ⟨prog, w.params⟩ s.heap.objs.size m rm cur is cs 0 s.toks []).cs)
    (next : ∀ h' tk', Hp K h' (C (exK K ⟨prog, w.params⟩ s.heap.objs.size m rm cur is cs 0 s.toks []).cs) → Kept s.heap h' cs → Q v { s with heap := h', toks := tk' }) : CurOk B prog w A Q E s rm cur := by
  have e1' := e1
  rw [exK_eq] at e1 e3
  refine go_on hlim m rm is H rfl (by rw [e3]; exact obOf_ok _ _) fun h' W => ?_
  rw [e1]
  refine end_bot (next _ _ ?_ W.kept)
  rw [← e2, exK_eq]
  exact W.hp.sub (fun p hp => List.mem_of_mem_take hp) (W.hp.nd.sublist ((List.take_sublist _ _).map _))
end
end Mine
end PS5
section PSA
open PySem PySem.W PyProof.Rows PySem.Calls
namespace Mine
structure Rd (γ : Type) where
  rd : Value → Option γ
  va : γ → Value
  is : ∀ v x, rd v = some x → v = va x
structure RdL (γ : Type) where
  rd : List Value → Option γ
  va : γ → List Value
  is : ∀ v x, rd v = some x → v = va x
structure RdO (γ : Type) where
  rd : Obj → Option γ
  va : γ → Obj
  is : ∀ v x, rd v = some x → v = va x
noncomputable def iZ : Rd (Int × Tok) where
  rd := fun v => match v with | .int a t => some (a, t) | _ => none
  va := fun x => .int x.1 x.2
  is := fun v x e => by split at e <;> cases e; rfl
noncomputable def sZ : Rd (Str × Tok) where
  rd := fun v => match v with | .str a t => some (a, t) | _ => none
  va := fun x => .str x.1 x.2
  is := fun v x e => by split at e <;> cases e; rfl
noncomputable def bZ : Rd (Array UInt8 × Tok) where
  rd := fun v => match v with | .bytes a t => some (a, t) | _ => none
  va := fun x => .bytes x.1 x.2
  is := fun v x e => by split at e <;> cases e; rfl
noncomputable def rZ : Rd Addr where
  rd := fun v => match v with | .ref a => some a | _ => none
  va := fun x => .ref x
  is := fun v x e => by split at e <;> cases e; rfl
noncomputable def yZ : Rd String where
  rd := fun v => match v with | .type a => some a | _ => none
  va := fun x => .type x
  is := fun v x e => by split at e <;> cases e; rfl
noncomputable def nZ : Rd Unit where
  rd := fun v => match v with | .none => some () | _ => none
  va := fun _ => .none
  is := fun v x e => by split at e <;> cases e; rfl
noncomputable def aZ : Rd Value := ⟨some, id, fun _ _ e => Option.some.inj e⟩
noncomputable def l0 : RdL Unit where
  rd := fun v => match v with | [] => some () | _ => none
  va := fun _ => []
  is := fun v x e => by cases v <;> cases e; rfl
noncomputable def lc {γ δ : Type} (f : Rd γ) (g : RdL δ) : RdL (γ × δ) where
  rd := fun v => match v with
    | [] => none
    | x :: r => match f.rd x with
      | none => none
      | some y => match g.rd r with
        | none => none
        | some z => some (y, z)
  va := fun x => f.va x.1 :: g.va x.2
  is := fun v x e => by
    cases v with
    | nil => cases e
    | cons a r =>
      simp only at e
      cases h1 : f.rd a with
      | none => rw [h1] at e; cases e
      | some y =>
        rw [h1] at e
        simp only at e
        cases h2 : g.rd r with
        | none => rw [h2] at e; cases e
        | some z =>
          rw [h2] at e
          cases e
          rw [f.is _ _ h1, g.is _ _ h2]
noncomputable def qO : RdO (String × Array Value × Nat) where
  rd := fun o => match o with
    | ⟨.type ty, none, .seq vs n, ⟨[]⟩⟩ => some (ty, vs, n)
    | _ => none
  va := fun x => ⟨.type x.1, none, .seq x.2.1 x.2.2, ⟨[]⟩⟩
  is := fun v x e => by split at e <;> cases e; rfl
noncomputable def yO : RdO (String × Array UInt8 × Nat) where
  rd := fun o => match o with
    | ⟨.type ty, none, .bytearray vs n, ⟨[]⟩⟩ => some (ty, vs, n)
    | _ => none
  va := fun x => ⟨.type x.1, none, .bytearray x.2.1 x.2.2, ⟨[]⟩⟩
  is := fun v x e => by split at e <;> cases e; rfl
noncomputable def gO {γ : Type} (f : RdL γ) : RdO (String × γ) where
  rd := fun o => match o with
    | ⟨.type ty, none, .fields vs, ⟨[]⟩⟩ => match f.rd vs.toList with
      | some x => some (ty, x)
      | none => none
    | _ => none
  va := fun x => ⟨.type x.1, none, .fields ⟨f.va x.2⟩, ⟨[]⟩⟩
  is := fun v x e => by
    split at e
    · rename_i ty vs
      obtain ⟨l⟩ := vs
      cases h : f.rd l with
      | none => rw [h] at e; cases e
      | some y =>
        rw [h] at e
        cases e
        rw [f.is _ _ h]
    · cases e
noncomputable def on {γ δ : Type} (nm : String) (f : RdL γ) (c : Code) (k : γ → Option δ) : Option δ := match c with
  | .call (.builtin id) ⟨vs, []⟩ => match String.decEq id nm with
    | .isTrue _ => match f.rd vs with
      | some x => k x
      | none => none
    | .isFalse _ => none
  | _ => none
theorem on_is {γ δ : Type} {nm : String} {f : RdL γ} {c : Code} {k : γ → Option δ} {r : δ} (e : on nm f c k = some r) : ∃ x, c = .call (.builtin nm) ⟨f.va x, []⟩ ∧ k x = some r := by
  unfold on at e
  split at e
  · rename_i id vs
    split at e
    · rename_i hid _
      subst hid
      cases h : f.rd vs with
      | none => rw [h] at e; cases e
      | some x =>
        rw [h] at e
        rw [f.is _ _ h]
        exact ⟨x, rfl, e⟩
    · cases e
  · cases e
noncomputable def onO {γ δ : Type} (f : RdO γ) (o : Obj) (k : γ → Option δ) : Option δ := match f.rd o with
  | some x => k x
  | none => none
theorem onO_is {γ δ : Type} {f : RdO γ} {o : Obj} {k : γ → Option δ} {r : δ} (e : onO f o k = some r) : ∃ x, o = f.va x ∧ k x = some r := by
  unfold onO at e
  cases h : f.rd o with
  | none => rw [h] at e; cases e
  | some x =>
    rw [h] at e
    exact ⟨x, f.is _ _ h, e⟩
noncomputable def onP {γ δ : Type} (f : RdO γ) (p : Option (Addr × Obj)) (k : Addr × Obj → γ → Option δ) : Option δ := match p with
  | some q => match f.rd q.2 with
    | some x => k q x
    | none => none
  | none => none
theorem onP_is {γ δ : Type} {f : RdO γ} {p : Option (Addr × Obj)} {k : Addr × Obj → γ → Option δ} {r : δ} (e : onP f p k = some r) : ∃ q x, p = some q ∧ q.2 = f.va x ∧ k q x = some r := by
  cases p with
  | none => cases e
  | some q =>
    unfold onP at e
    simp only at e
    cases h : f.rd q.2 with
    | none => rw [h] at e; cases e
    | some x =>
      rw [h] at e
      exact ⟨q, x, rfl, f.is _ _ h, e⟩
theorem on_at {γ δ : Type} {nm : String} {f : RdL γ} {k : γ → Option δ} {x : γ} (h : f.rd (f.va x) = some x) : on nm f (.call (.builtin nm) ⟨f.va x, []⟩) k = k x := by
  unfold on
  simp only
  cases hd : String.decEq nm nm with
  | isTrue _ => simp only [h]
  | isFalse n => exact absurd rfl n
end Mine
end PSA
section PS6
open PySem PySem.W PyProof.Rows PySem.Calls
open PySem.Builtin.Str (occurrences)
namespace Mine
noncomputable def hasS (x : Str) (c : Nat) : Bool := !(occurrences x ⟨#[c]⟩ 0 x.length 1).isEmpty
noncomputable def tokK (cs : Cells) (i j : Nat) : Tok := match cs[i]? with
  | some p => match p.2.data with
    | .dict es _ => match es[j]? with
      | some e => tokV e.key
      | none => 0
    | _ => 0
  | none => 0
structure Ext (B : Bool) where
  val : Code → Option (Addr × Obj) → Nat → Option (Value × Nat × Prop)
  sound : ∀ (c : Code) (p : Option (Addr × Obj)) (v : Value) (tk' : Nat) (P : Prop) (s : Shared), val c p s.toks = some (v, tk', P) → P → (∀ q, p = some q → s.heap.get? q.1 = some q.2) →
    ∀ (prog : Program) (w : World) (A : Around) (R : Result → Shared → Prop), R (.ok (.ret v)) { s with toks := tk' } → codeC B (model prog w) A c R s
structure Act (B : Bool) where
  val : Code → Addr × Obj → Nat → Option (Value × Nat × Prop × Obj)
  live : ∀ (c : Code) (q : Addr × Obj) (tk : Nat) (v : Value) (tk' : Nat) (P : Prop) (o : Obj), val c q tk = some (v, tk', P, o) → o.isFreed = false
  sound : ∀ (c : Code) (q : Addr × Obj) (v : Value) (tk' : Nat) (P : Prop) (o : Obj) (s : Shared), val c q s.toks = some (v, tk', P, o) → P → s.heap.get? q.1 = some q.2 →
    ∀ (prog : Program) (w : World) (A : Around) (R : Result → Shared → Prop), R (.ok (.ret v)) { s with heap := s.heap.update q.1 (fun _ => o), toks := tk' } → codeC B (model prog w) A c R s
noncomputable def len2Of (c : Option Code) : Option (Bool × String × Value) := match c with
  | some (.call (.builtin id) ⟨[v], []⟩) => some (true, id, v)
  | some (.builtin id ⟨[v], []⟩) => some (false, id, v)
  | _ => none
section
variable {B : Bool} {prog : Program} {w : World} {K : Sta} {h0 : Heap} {cs0 : Cells} {N : Nat} {gens : Array GenState} {drawn : Drawn} {os : OsState}
end
end Mine
end PS6
section PS7
open PySem PySem.W PyProof.Rows PySem.Calls
namespace Mine
section
variable {B : Bool} {prog : Program} {w : World} {K : Sta}
noncomputable def retV : Flow → Value | .ret v => v | _ => .none
theorem ctr_def (hlim : ∀ h, K.In h → h.NoLimit) {f : Addr} {args : Args} {s : Shared} {P : Value → Heap → Prop} (m rm i : Nat) (is : List Nat) {cs : Cells} {body : List Stmt} {env : Env} (C : Cells → Cells) (nn : Nat) (H : Hp K s.heap cs)
    (h0 : (into (α := Result) K (i :: is) cs [] (.call (.ref f) args) [] (fun r => .pure r)).2.2 = obOf [i] cs)
    (e : (fun x : Res Result => (x.cur, x.ob, x.cs.take nn, x.rm)) (exK K ⟨prog, w.params⟩ s.heap.objs.size m rm (into (α := Result) K (i :: is) cs [] (.call (.ref f) args) [] (fun r => .pure r)).1 is cs 0 s.toks []) =
      (.nest (denZ (.func body env)) [] (fun r => .pure r), obOf is (exK K ⟨prog, w.params⟩ s.heap.objs.size m rm (into (α := Result) K (i :: is) cs [] (.call (.ref f) args) [] (fun r => .pure r)).1 is cs 0 s.toks []).cs, C (exK K ⟨prog, w.params⟩ s.heap.objs.size m rm (into (α := Result) K (i :: is) cs [] (.call (.ref f) args) [] (fun r => .pure r)).1 is cs 0 s.toks []).cs, rm))
    (hbody : ∀ A1 h' tk' z, Fit A1 rm → Hp K h' (C z) → Kept s.heap h' cs → (∀ h2, Kept h' h2 (C z) → Kept s.heap h2 cs) →
      wpC B (model prog w) A1 (execs body env) (fun fl s' => ∃ h2 tk2, s' = { s with heap := h2, toks := tk2 } ∧ P (retV fl) h2) (fun _ _ => False) { s with heap := h', toks := tk' }) :
    Ctr B prog w (.call (.ref f) args) (rm + 2) s P := by
  refine ctr_run (is := i :: is) H rfl (by rw [h0]; exact obOf_ok _ _) fun A R hR => ?_
  generalize hx : exK K ⟨prog, w.params⟩ s.heap.objs.size m rm (into (α := Result) K (i :: is) cs [] (.call (.ref f) args) [] (fun r => .pure r)).1 is cs 0 s.toks [] = x at e
  simp only [Prod.mk.injEq] at e
  obtain ⟨e1, e2, e3, e4⟩ := e
  refine go_on (r := x) hlim m rm is H (by rw [← exK_eq]; exact hx) (by rw [e2]; exact obOf_ok _ _) fun h' W => ?_
  rw [e1, e4]
  have H' : Hp K h' (C x.cs) := by
    rw [← e3]
    exact W.hp.sub (fun p hp => List.mem_of_mem_take hp) (W.hp.nd.sublist ((List.take_sublist _ _).map _))
  refine body_ok fun A1 hA1 => wpC_mono (hbody A1 h' x.tk x.cs hA1 H' W.kept fun h2 k => W.on (k.more fun b hb => ?_)) (fun fl s' hs => ?_) fun _ _ q => q
  · rw [← e3] at hb
    obtain ⟨p, hp, rfl⟩ := List.mem_map.mp hb
    exact List.mem_map_of_mem (List.mem_of_mem_take hp)
  · obtain ⟨h2, tk2, rfl, hP⟩ := hs
    refine end_bot ?_
    have := hR (retV fl) h2 tk2 hP
    cases fl <;> exact this
theorem Hp.front {h : Heap} {a : Cells} {x : Addr × Obj} (H : Hp K h (a ++ [x])) : Hp K h (x :: a) := by
  refine H.sub (fun p hp => ?_) ?_
  · rcases List.mem_cons.mp hp with rfl | hp
    · exact List.mem_append_right _ (List.mem_singleton.mpr rfl)
    · exact List.mem_append_left _ hp
  · have nd := H.nd
    rw [List.map_append, List.nodup_append] at nd
    rw [List.map_cons, List.nodup_cons]
    exact ⟨fun hm => nd.2.2 _ hm _ (by simp) rfl, nd.1⟩
end
end Mine
end PS7
section PS8
open PySem PySem.W PyProof.Rows PySem.Calls
namespace Mine
noncomputable def mulX {B : Bool} : Ext B where
  val := fun c _ tk => on "int.__mul__" (lc iZ (lc iZ l0)) c fun ((a, _), (b, _), _) => some (.int (a * b) tk, tk + 1, IntMulOk a b)
  sound := fun c p v tk' P s e hP hp prog w A R hR => by
    replace e := on_is e
    obtain ⟨x0, rfl, e⟩ := e
    cases e
    obtain ⟨⟨a, t⟩, ⟨b, u⟩, _⟩ := x0
    exact codeC_of <| codeAny_call_builtin F.slot_int_mul.plain F.entry_int_mul (F.slot_int_mul.check _ _ _ _ _ _ _ _ (typeIs_int _ _ _) (F.args_int_mul_2 _ _) (gives_int_mul a b t u hP prog w A R s hR))
noncomputable def addX {B : Bool} : Ext B where
  val := fun c _ tk => on "int.__add__" (lc iZ (lc iZ l0)) c fun ((a, _), (b, _), _) => some (.int (a + b) tk, tk + 1, True)
  sound := fun c p v tk' P s e hP hp prog w A R hR => by
    replace e := on_is e
    obtain ⟨x0, rfl, e⟩ := e
    cases e
    obtain ⟨⟨a, t⟩, ⟨b, u⟩, _⟩ := x0
    exact codeC_of <| codeAny_call_builtin F.slot_int_add.plain F.entry_int_add (F.slot_int_add.check _ _ _ _ _ _ _ _ (typeIs_int _ _ _) (F.args_int_add_2 _ _) (gives_int_add a b t u prog w A R s hR))
section
variable {B : Bool} {prog : Program} {w : World} {K : Sta}
end
end Mine
end PS8
section PS9
open PySem PySem.W PyProof.Rows PySem.Calls
namespace Mine
theorem upd_const {h : Heap} {a : Addr} {o : Obj} (f : Obj → Obj) (ho : h.get? a = some o) : h.update a f = h.update a (fun _ => f o) := by
  have h1 : h.objs[a]? = some o := by
    exact ((Heap.get?_eq_some h a o).mp ho).1
  obtain ⟨objs, l⟩ := h
  simp only [Heap.update, Heap.mk.injEq, and_true]
  apply Array.ext_getElem?
  intro i
  simp only [Array.getElem?_modify]
  by_cases e : a = i
  · subst e
    simp only at h1
    simp [h1]
  · simp [e]
noncomputable def appendA {B : Bool} : Act B where
  val := fun c q tk => on "list.append" (lc rZ (lc aZ l0)) c fun (a, x, _) => onO qO q.2 fun (ty, vs, n) => some (.none, tk, a = q.1 ∧ ty = "list" ∧ vs.size ≤ sizeLine, ⟨.type ty, none, .seq ⟨vs.toList ++ [x]⟩ (n + 1), ⟨[]⟩⟩)
  live := fun c q tk v tk' P o e => by
    replace e := on_is e
    obtain ⟨x0, rfl, e⟩ := e
    replace e := onO_is e
    obtain ⟨y0, hq2, e⟩ := e
    cases e; rfl
  sound := fun c q v tk' P o s e hP hq prog w A R hR => by
    replace e := on_is e
    obtain ⟨x0, rfl, e⟩ := e
    replace e := onO_is e
    obtain ⟨y0, hq2, e⟩ := e
    cases e
    obtain ⟨a, x, _⟩ := x0
    obtain ⟨ty, vs, n⟩ := y0
    have hq2 : q.2 = ⟨.type ty, none, .seq vs n, ⟨[]⟩⟩ := hq2
    obtain ⟨rfl, rfl, hsz⟩ := hP
    rw [hq2] at hq
    refine codeC_of <| codeAny_call_builtin slot_list_append.plain entry_list_append (slot_list_append.check _ _ _ _ _ _ _ _ ⟨_, hq, rfl⟩ (args_list_append _ _) (list_append q.1 vs n x hsz prog w A R s ⟨hq, ?_⟩))
    have e1 : s.heap.update q.1 (Obj.mapSeq fun x_1 => x_1.push x) = s.heap.update q.1 (fun _ => ⟨.type "list", none, .seq ⟨vs.toList ++ [x]⟩ (n + 1), ⟨[]⟩⟩) := by
      rw [upd_const _ hq]
      congr 1
      funext _
      have e2 : vs.push x = ⟨vs.toList ++ [x]⟩ := by
        obtain ⟨l⟩ := vs
        simp
      simp [Obj.mapSeq, e2]
    rw [e1]
    exact hR
noncomputable def lastX {B : Bool} (v : Value) : Ext B where
  val := fun c p tk => on "list.__getitem__" (lc rZ (lc iZ l0)) c fun (a, (i, _), _) => onP qO p fun q (ty, vs, n) => some (v, tk, a = q.1 ∧ ty = "list" ∧ i = -1 ∧ ∃ xs, vs = ⟨xs ++ [v]⟩)
  sound := fun c p u tk' P s e hP hp prog w A R hR => by
    replace e := on_is e
    obtain ⟨x0, rfl, e⟩ := e
    replace e := onP_is e
    obtain ⟨q, y0, rfl, hq2, e⟩ := e
    cases e
    obtain ⟨a, ⟨i, t⟩, _⟩ := x0
    obtain ⟨ty, vs, n⟩ := y0
    have hq2 : q.2 = ⟨.type ty, none, .seq vs n, ⟨[]⟩⟩ := hq2
    obtain ⟨rfl, rfl, rfl, xs, rfl⟩ := hP
    have ho := hp q rfl
    rw [hq2] at ho
    refine codeC_of <| codeAny_call_builtin slot_list_getitem.plain entry_list_getitem (slot_list_getitem.check _ _ _ _ _ _ _ _ ⟨_, ho, rfl⟩ (args_list_getitem _ _) ?_)
    show wpAny _ _ (Builtin.List.listSubscript? (.int (-1) t) >>= _) _ _ s
    refine wpAny_bind (wpAny_listSubscript_int (fitsIndex_neg (by decide) (by decide)) ?_)
    have hidx : seqIndex? (-1) (⟨xs ++ [v]⟩ : Array Value).size = some xs.length := by
      rw [seqIndex_neg (by decide) (by simp; omega)]
      simp; omega
    show wpAny _ _ ((Builtin.List.listItems (.ref q.1) >>= fun xs => pure ((seqIndex? (Int.negSucc 0) xs.size).bind fun i => xs[i]?.map (i, ·))) >>= _) _ _ s
    refine wpAny_bind (wpAny_bind ?_)
    show wpAny _ _ (seqItems? (.ref q.1) >>= _) _ _ s
    refine wpAny_bind (wpAny_seqItems ho rfl (wpAny_pure (wpAny_pure ?_)))
    have hidx' : seqIndex? (Int.negSucc 0) (⟨xs ++ [v]⟩ : Array Value).size = some xs.length := hidx
    rw [hidx']
    have hx : (⟨xs ++ [v]⟩ : Array Value)[xs.length]? = some v := by simp
    simp only [Option.bind_some, hx, Option.map_some]
    first | exact wpAny_pure hR | exact wpAny_bind (wpAny_pure (wpAny_pure hR)) | exact hR
end Mine
end PS9
section PS10
open PySem PySem.W PyProof.Rows PySem.Calls
namespace Mine
structure Ans (B : Bool) where
  ans : List Nat → Code → Cells → Addr → Nat → Tok × Nat → Option (Result × Nat × Cells × Nat × Prop)
  sound : ∀ {prog : Program} {w : World} {K : Sta} {h0 : Heap} {cs0 : Cells} {N : Nat} {gens : Array GenState} {drawn : Drawn} {os : OsState} (hlim : ∀ h, K.In h → h.NoLimit) (js : List Nat) (c : Code) (h : Heap) (cs : Cells) (n tk : Nat) (A : Around) (R : Result → Shared → Prop),
    Now K h0 cs0 N h cs n → Fit A 4 →
    (∀ o, ∃ r tk' cs' n' P, ans js c cs (N + n) tk o = some (r, tk', cs', n', P) ∧ P ∧ ∀ h', Now K h0 cs0 N h' cs' (n + n') → R r ⟨h', gens, drawn, tk', os⟩) →
    codeC B (model prog w) A c R ⟨h, gens, drawn, tk, os⟩
noncomputable def ansOf {B : Bool} (val : List Nat → Code → Cells → Addr → Nat → Option (Result × Nat × Cells × Nat × Prop))
    (sound : ∀ {prog : Program} {w : World} {K : Sta} {h0 : Heap} {cs0 : Cells} {N : Nat} {gens : Array GenState} {drawn : Drawn} {os : OsState} (js : List Nat) (c : Code) (h : Heap) (cs : Cells) (n tk : Nat) (A : Around) (R : Result → Shared → Prop) (r : Result) (tk' : Nat) (cs' : Cells) (n' : Nat) (P : Prop),
      Now K h0 cs0 N h cs n → Fit A 4 → val js c cs (N + n) tk = some (r, tk', cs', n', P) → P → (∀ h', Now K h0 cs0 N h' cs' (n + n') → R r ⟨h', gens, drawn, tk', os⟩) → codeC B (model prog w) A c R ⟨h, gens, drawn, tk, os⟩) : Ans B where
  ans := fun js c cs nx tk _ => val js c cs nx tk
  sound := fun _ js c h cs n tk A R W hA H => by
    obtain ⟨r, tk', cs', n', P, e, hP, next⟩ := H (0, 0)
    exact sound js c h cs n tk A R r tk' cs' n' P W hA e hP next
noncomputable def exO {α : Type} {B : Bool} (K : Sta) (g : Setting) (N : Nat) : List (Nat × List Nat × Ans B) → Nat → Nat → Cur α → List Nat → Cells → Nat → Nat → List (Addr × Addr) → (Nat → Tok × Nat) → List Prop → Res α × List Prop
  | [], m, rm, cur, is, cs, n, tk, ob, o, ps => (exK K g N m rm cur is cs n tk ob, ps)
  | (m1, js, a) :: rest, m, rm, cur, is, cs, n, tk, ob, o, ps => match exK K g N m1 rm cur is cs n tk ob with
    | ⟨cur, is, cs, n, tk, ob, rm⟩ => match callOf cur with
      | some c => match a.ans js c cs (N + n) tk (o 0) with
        | some (r, tk', cs', n', P) => exO K g N rest m rm (contOf r cur) is cs' (n + n') tk' ob (fun i => o (i + 1)) ((P ∧ Nat.ble 4 rm = true) :: ps)
        | none => (⟨cur, is, cs, n, tk, ob, rm⟩, False :: ps)
      | none => (⟨cur, is, cs, n, tk, ob, rm⟩, False :: ps)
theorem exO_cons {α : Type} {B : Bool} (K : Sta) (g : Setting) (N m1 : Nat) (js : List Nat) (a : Ans B) (rest : List (Nat × List Nat × Ans B)) (m rm : Nat) (cur : Cur α) (is : List Nat) (cs : Cells) (n tk : Nat) (ob : List (Addr × Addr)) (o : Nat → Tok × Nat) (ps : List Prop) :
    exO K g N ((m1, js, a) :: rest) m rm cur is cs n tk ob o ps = match exK K g N m1 rm cur is cs n tk ob with
      | ⟨cur, is, cs, n, tk, ob, rm⟩ => match callOf cur with
        | some c => match a.ans js c cs (N + n) tk (o 0) with
          | some (r, tk', cs', n', P) => exO K g N rest m rm (contOf r cur) is cs' (n + n') tk' ob (fun i => o (i + 1)) ((P ∧ Nat.ble 4 rm = true) :: ps)
          | none => (⟨cur, is, cs, n, tk, ob, rm⟩, False :: ps)
        | none => (⟨cur, is, cs, n, tk, ob, rm⟩, False :: ps) := rfl
section
variable {B : Bool} {prog : Program} {w : World} {K : Sta} {h0 : Heap} {cs0 : Cells} {N : Nat} {gens : Array GenState} {drawn : Drawn} {os : OsState}
theorem call_res {α : Type} {A : Around} {Q : α → Shared → Prop} {E : Value → Shared → Prop} {s : Shared} {rm k : Nat} {cur : Cur α} {c : Code} {C : Result → Shared → Prop} (hk : k ≤ rm) (hc : callOf cur = some c) (H : ∀ (A : Around) (R : Result → Shared → Prop), Fit A k → (∀ r s2, C r s2 → R r s2) → codeC B (model prog w) A c R s)
    (next : ∀ r s2, C r s2 → CurOk B prog w A Q E s2 rm (contOf r cur)) : CurOk B prog w A Q E s rm cur := by
  revert next
  refine callOf_is hc (P := fun cur => (∀ r s2, C r s2 → CurOk B prog w A Q E s2 rm (contOf r cur)) → CurOk B prog w A Q E s rm cur) (fun g l kk next hA => ?_) fun g l kk ks kb next L A0 c0 hL h1 hw h2 h3 => ?_
  · exact x_callC (H _ _ ((hA.le hk).mark none) fun r s2 h => next r s2 h hA) (by intro q; cases q)
  · exact x_callC (H _ _ (((h1.under hw).le hk).mark none) fun r s2 h => next r s2 h L A0 c0 hL h1 hw h2 h3) (by intro q; cases q)
theorem exO_ob {α : Type} {g : Setting} : ∀ (sch : List (Nat × List Nat × Ans B)) (m rm : Nat) (cur : Cur α) (is : List Nat) (cs : Cells) (n tk : Nat) (ob : List (Addr × Addr)) (o : Nat → Tok × Nat) (ps : List Prop),
    (∀ p ∈ ob, p ∈ (exO K g N sch m rm cur is cs n tk ob o ps).1.ob) ∧ ∀ a ∈ ps, a ∈ (exO K g N sch m rm cur is cs n tk ob o ps).2 := by
  intro sch
  induction sch with
  | nil =>
    intro m rm cur is cs n tk ob o ps
    exact ⟨fun p hp => by show p ∈ (exK K g N m rm cur is cs n tk ob).ob; rw [exK_eq]; exact ex_ob _ _ _ _ _ _ _ _ p hp, fun a ha => ha⟩
  | cons x rest ih =>
    intro m rm cur is cs n tk ob o ps
    obtain ⟨m1, js, a⟩ := x
    have hob : ∀ p ∈ ob, p ∈ (exK K g N m1 rm cur is cs n tk ob).ob := fun p hp => by rw [exK_eq]; exact ex_ob _ _ _ _ _ _ _ _ p hp
    simp only [exO_cons]
    split
    · split
      · exact ⟨fun p hp => (ih ..).1 p (hob p hp), fun a ha => (ih ..).2 a (List.mem_cons_of_mem _ ha)⟩
      · exact ⟨fun p hp => hob p hp, fun a ha => List.mem_cons_of_mem _ ha⟩
    · exact ⟨fun p hp => hob p hp, fun a ha => List.mem_cons_of_mem _ ha⟩
noncomputable def consO (x : Tok × Nat) (o : Nat → Tok × Nat) : Nat → Tok × Nat | 0 => x | i + 1 => o i
theorem exO_sound (hlim : ∀ h, K.In h → h.NoLimit) {α : Type} {A : Around} {Q : α → Shared → Prop} {E : Value → Shared → Prop} : ∀ (sch : List (Nat × List Nat × Ans B)) (m rm : Nat) (cur : Cur α) (is : List Nat) (cs : Cells) (n tk : Nat) (ob : List (Addr × Addr)) (ps : List Prop) (h : Heap),
    (∀ o, (∀ p ∈ (exO K ⟨prog, w.params⟩ N sch m rm cur is cs n tk ob o ps).1.ob, p.1 = p.2) ∧ (∀ p ∈ (exO K ⟨prog, w.params⟩ N sch m rm cur is cs n tk ob o ps).2, p)) → Now K h0 cs0 N h cs n →
    (∀ o h', Now K h0 cs0 N h' (exO K ⟨prog, w.params⟩ N sch m rm cur is cs n tk ob o ps).1.cs (exO K ⟨prog, w.params⟩ N sch m rm cur is cs n tk ob o ps).1.n →
      CurOk B prog w A Q E ⟨h', gens, drawn, (exO K ⟨prog, w.params⟩ N sch m rm cur is cs n tk ob o ps).1.tk, os⟩ (exO K ⟨prog, w.params⟩ N sch m rm cur is cs n tk ob o ps).1.rm (exO K ⟨prog, w.params⟩ N sch m rm cur is cs n tk ob o ps).1.cur) →
    CurOk B prog w A Q E ⟨h, gens, drawn, tk, os⟩ rm cur := by
  intro sch
  induction sch with
  | nil =>
    intro m rm cur is cs n tk ob ps h ho W next
    have hob := (ho fun _ => (0, 0)).1
    refine ex_sound hlim m rm cur is cs n tk ob h _ (exK_eq ..).symm hob W (next fun _ => (0, 0))
  | cons x rest ih =>
    intro m rm cur is cs n tk ob ps h ho W next
    obtain ⟨m1, js, a⟩ := x
    have hob1 : ∀ p ∈ (exK K ⟨prog, w.params⟩ N m1 rm cur is cs n tk ob).ob, p.1 = p.2 := fun p hp => by
      refine (ho fun _ => (0, 0)).1 p ?_
      simp only [exO_cons]
      split
      · split
        · exact (exO_ob rest ..).1 p hp
        · exact hp
      · exact hp
    refine ex_sound hlim m1 rm cur is cs n tk ob h _ (exK_eq ..).symm hob1 W fun h' W' => ?_
    simp only [exO_cons] at ho next
    generalize exK K ⟨prog, w.params⟩ N m1 rm cur is cs n tk ob = x at ho next W' hob1 ⊢
    cases hc : callOf x.cur with
    | none =>
      rw [hc] at ho
      exact absurd ((ho fun _ => (0, 0)).2 False (.head _)) id
    | some c =>
      simp only [hc] at ho next
      have hsome : ∀ o : Tok × Nat, ∃ r tk' cs' n' P, a.ans js c x.cs (N + x.n) x.tk o = some (r, tk', cs', n', P) ∧ (P ∧ Nat.ble 4 x.rm = true) := fun o => by
        have h1 := ho fun _ => o
        cases ha : a.ans js c x.cs (N + x.n) x.tk o with
        | none =>
          rw [ha] at h1
          exact absurd (h1.2 False (.head _)) id
        | some y =>
          obtain ⟨r, tk', cs', n', P⟩ := y
          rw [ha] at h1
          exact ⟨r, tk', cs', n', P, rfl, h1.2 _ ((exO_ob rest ..).2 _ (.head _))⟩
      have hrm : 4 ≤ x.rm := by
        obtain ⟨_, _, _, _, _, _, _, hb⟩ := hsome (0, 0)
        exact Nat.le_of_ble_eq_true hb
      refine call_res (k := 4) hrm hc (C := fun r s2 => ∃ o tk' cs' n' P h2, a.ans js c x.cs (N + x.n) x.tk o = some (r, tk', cs', n', P) ∧ Now K h0 cs0 N h2 cs' (x.n + n') ∧ s2 = ⟨h2, gens, drawn, tk', os⟩) (fun A1 R hA1 hR => ?_) ?_
      · refine a.sound hlim js c h' x.cs x.n x.tk A1 R W' hA1 fun o => ?_
        obtain ⟨r, tk', cs', n', P, ha, hP, _⟩ := hsome o
        exact ⟨r, tk', cs', n', P, ha, hP, fun h2 W2 => hR _ _ ⟨o, tk', cs', n', P, h2, ha, W2, rfl⟩⟩
      · rintro r s2 ⟨o1, tk', cs', n', P, h2, ha, W2, rfl⟩
        refine ih m x.rm (contOf r x.cur) x.is cs' (x.n + n') tk' x.ob ((P ∧ Nat.ble 4 x.rm = true) :: ps) h2 (fun o => ?_) W2 (fun o h3 W3 => ?_)
        · have h1 := ho (consO o1 o)
          rw [show consO o1 o 0 = o1 from rfl, ha] at h1
          exact h1
        · have h1 := next (consO o1 o) h3
          rw [show consO o1 o 0 = o1 from rfl, ha] at h1
          exact h1 W3
theorem go_o (hlim : ∀ h, K.In h → h.NoLimit) {α : Type} {A : Around} {Q : α → Shared → Prop} {E : Value → Shared → Prop} {cur : Cur α} {s : Shared} {cs : Cells} (sch : List (Nat × List Nat × Ans B)) (m rm : Nat) (is : List Nat) (v : (Nat → Tok × Nat) → α) (ps : (Nat → Tok × Nat) → List Prop) (C : (Nat → Tok × Nat) → Cells → Cells) (nn : Nat)
    (H : Hp K s.heap cs) (e : ∀ o, (fun x : Res α × List Prop => (x.1.cur, x.1.ob, x.1.cs.take nn, x.2)) (exO K ⟨prog, w.params⟩ s.heap.objs.size sch m rm cur is cs 0 s.toks [] o []) = (.bot (.pure (v o)), obOf is (exO K ⟨prog, w.params⟩ s.heap.objs.size sch m rm cur is cs 0 s.toks [] o []).1.cs, C o (exO K ⟨prog, w.params⟩ s.heap.objs.size sch m rm cur is cs 0 s.toks [] o []).1.cs, ps o))
    (hp : ∀ o, ∀ p ∈ ps o, p)
    (next : ∀ h' tk' o z, Hp K h' (C o z) → Kept s.heap h' cs → (∀ h2, Kept h' h2 (C o z) → Kept s.heap h2 cs) → Q (v o) { s with heap := h', toks := tk' }) : CurOk B prog w A Q E s rm cur := by
  simp only [Prod.mk.injEq] at e
  refine exO_sound hlim (gens := s.gens) (drawn := s.drawn) (os := s.os) sch m rm cur is cs 0 s.toks [] [] s.heap (fun o => ?_) (Now.start H) fun o h' W => ?_
  · obtain ⟨e1, e2, e3, e4⟩ := e o
    exact ⟨by rw [e2]; exact obOf_ok _ _, by rw [e4]; exact hp o⟩
  · obtain ⟨e1, e2, e3, e4⟩ := e o
    rw [e1]
    refine end_bot (next _ _ o (exO K ⟨prog, w.params⟩ s.heap.objs.size sch m rm cur is cs 0 s.toks [] o []).1.cs ?_ W.kept fun h2 k => W.on (k.more fun b hb => ?_))
    · rw [← e3]
      exact W.hp.sub (fun p hp => List.mem_of_mem_take hp) (W.hp.nd.sublist ((List.take_sublist _ _).map _))
    · rw [← e3] at hb
      obtain ⟨p, hp, rfl⟩ := List.mem_map.mp hb
      exact List.mem_map_of_mem (List.mem_of_mem_take hp)
end
end Mine
end PS10
section PS11
open PySem PySem.W PyProof.Rows PySem.Calls
open Sem (wp)
namespace Mine
theorem ba_newCall (a : Value) : checkBuiltinCall "bytearray.__new__" ⟨[.type "bytearray", a], []⟩ = pure () := by kernel_rfl
theorem ba_look_release : typeLookup (.type "bytearray") "__release_buffer__" = pure (some (.builtin "bytearray.__release_buffer__")) := by rw [typeLookup_type, builtinLookup_eq_fast]; kernel_rfl
theorem ba_bind (v : Value) : Builtin.Bytes.bindOptional "bytearray.__init__" "bytearray" ["source", "encoding", "errors"] [v] [] = pure [some v, none, none] := by kernel_rfl
theorem ba_slot_init : Slot "bytearray" "__init__" "bytearray.__init__" :=
  .of (owner := "bytearray") (n := "__init__") (by rw [typeLookup_type, builtinLookup_eq_fast]; kernel_rfl) (by decide +kernel) (by decide +kernel) (by decide +kernel)
    (by first | exact .inl (by decide +kernel) | exact .inr (by decide +kernel)) (by rw [isSubtype_type]; kernel_rfl)
theorem ba_args_init (a b : Value) : argsOk "bytearray.__init__" ⟨[a, b], []⟩ := by
  unfold argsOk; rw [signature?_of (id := "bytearray.__init__") (n := ['_', '_', 't', 'i', 'n', 'i', '_', '_']) (o := ['y', 'a', 'r', 'r', 'a', 'e', 't', 'y', 'b']) (by kernel_rfl) (rows := Manifest.sig_bytearray) (by kernel_rfl)]; kernel_rfl
theorem ba_plain_new : plainId "bytearray.__new__" = true := by decide +kernel
theorem ba_plain_init : plainId "bytearray.__init__" = true := by decide +kernel
theorem ba_entry_new : entryFor table "bytearray.__new__" = some Builtin.«list.__new__» := entryFor_alias (id' := "list.__new__") (by rw [fastTable_eq_tree]; kernel_rfl) (by kernel_rfl) (by kernel_rfl) (by rw [fastTable_eq_tree]; kernel_rfl)
theorem ba_entry_init : entryFor table "bytearray.__init__" = some Builtin.«bytearray.__init__» := entryFor_of_tree (by kernel_rfl)
theorem ba_sub : isSubtype (.type "bytearray") (.type "bytearray") = pure true := by rw [isSubtype_type]; kernel_rfl
set_option maxRecDepth 1000000 in
set_option maxHeartbeats 4000000 in
theorem ba_owner : ("bytearray.__new__".splitOn ".__new__").headD "" = "bytearray" := by simp +decide [String.splitOn, String.splitOnAux]
section
variable {prog : Program} {w : World} {A : Around} {E : Value → Shared → Prop} {s : Shared} {R : Result → Shared → Prop}
theorem code_ba_new (a : Value) (h : R (.ok (.ret (.ref s.heap.objs.size))) { s with heap := s.heap.push { cls := .type "bytearray", data := .bytearray #[] } }) :
    codeAny (model prog w) A (.call (.builtin "bytearray.__new__") ⟨[.type "bytearray", a], []⟩) R s := by
  refine codeAny_of_tree ?_
  show wpAny _ A.in1 (do checkBuiltinCall "bytearray.__new__" ⟨[.type "bytearray", a], []⟩; again (.builtin "bytearray.__new__" ⟨[.type "bytearray", a], []⟩)) _ _ s
  refine wpAny_bind (wpAny_of_eq (ba_newCall a) (wpAny_pure ⟨plainId_quiet ba_plain_new _, codeAny_builtin_stack ba_entry_new rfl fun p st => ?_⟩))
  rw [Around.under_plainId ba_plain_new _]
  have hsub := ba_sub
  have hown := ba_owner
  obtain ⟨hp, g, d, tk, os⟩ := s
  simp only [hown]
  wp_walk
  exact h
end
section
variable {prog : Program} {w : World} {A : Around} {E : Value → Shared → Prop} {s : Shared} {R : Result → Shared → Prop}
theorem exported_clean {self : Value} {Q : Bool → Shared → Prop} (h : Q false s) : wpC true (model prog w) A (Builtin.Bytes.exported self) Q E s := fun Γ p hΓ hcl => by
  unfold Builtin.Bytes.exported
  show Q (((Γ.code, p) :: Γ.below).any _) s
  have fin : ∀ b, b = false → Q b s := fun b e => by rw [e]; exact h
  apply fin
  rw [List.any_eq_false]
  intro x hx
  have hb : badC x.1 = false := by
    rcases List.mem_cons.mp hx with rfl | hx
    · exact hcl.1
    · exact hcl.2 x hx
  obtain ⟨c, q⟩ := x
  simp only at hb
  cases c with
  | builtin id args =>
    have hb' : badIds.contains id = false := hb
    have hn : ∀ y ∈ badIds, id ≠ y := fun y hy e => by
      subst e
      rw [List.contains_iff_mem.mpr hy] at hb'
      cases hb'
    rw [Bool.not_eq_true]
    unfold PySem.Builtin.Bytes.exported.match_1
    refine (dif_neg (hn _ (by decide))).trans ?_
    refine (dif_neg (hn _ (by decide))).trans ?_
    refine (dif_neg (hn _ (by decide))).trans ?_
    refine (dif_neg (hn _ (by decide))).trans ?_
    refine (dif_neg (hn _ (by decide))).trans ?_
    obtain ⟨pos, kw⟩ := args
    cases pos with
    | nil => rfl
    | cons v l =>
      show (Builtin.Bytes.sameRef v self && Builtin.Bytes.decodersThatHold.contains id) = false
      rw [Bool.and_eq_false_iff]
      right
      cases hd : Builtin.Bytes.decodersThatHold.contains id with
      | false => rfl
      | true =>
        have hm := List.contains_iff_mem.mp hd
        exact absurd rfl (hn id (List.mem_append_right _ hm))
  | _ => exact Bool.false_ne_true
theorem codeC_call_builtin {B : Bool} {id : String} {args : Args} {b : Builtin} (hq : plainId id = true) (hok : bad B (.builtin id args) = false) (hb : entryFor table id = some b)
    (h : wpC B (model prog w) A.in1 (checkBuiltinCall id args) (fun _ s₁ => wpC B (model prog w) A.in1 (b args)
      (fun fin s' => match fin with | .done f => R (.ok f) s' | .again c' => c'.quiet = true ∧ codeC B (model prog w) A c' R s') (fun e s' => R (.error e) s') s₁)
      (fun e s' => R (.error e) s') s) : codeC B (model prog w) A (.call (.builtin id) args) R s := by
  refine codeC_of_tree (by cases B <;> rfl) ?_
  show wpC B _ A.in1 (do checkBuiltinCall id args; again (.builtin id args)) _ _ s
  refine wpC_bind (wpC_mono h (fun _ s₁ h₁ => wpC_pure (And.intro (plainId_quiet hq args) (codeC_of_tree hok ?_))) fun _ _ h' => h')
  show wpC B _ _ (match entryFor table id with | some b => b args | none => unsupported ((withoutEnding? id "#data").getD id)) _ _ s₁
  rw [hb, Around.under_plainId hq args]; exact h₁
theorem ownRelease_ba {M : Model} {a : Addr} {Q : Bool → Shared → Prop} (hT : s.TypeIs (.ref a) "bytearray") (h : Q false s) : wpAny M A (Builtin.Bytes.ownRelease (.ref a)) Q E s := by
  have key : ∀ x : String, x = "bytearray" → wpAny M A (isInstance (.ref a) (.type x)) (fun b s' => b = true ∧ s' = s) E s := fun x hx => by
    subst hx
    exact wpAny_isInstance hT ba_sub ⟨rfl, rfl⟩
  unfold Builtin.Bytes.ownRelease
  refine wpAny_bind ?_
  unfold Builtin.Bytes.slotIsOwn
  refine wpAny_bind (wpAny_specialOf hT ba_look_release ?_)
  dsimp only
  split
  · rename_i hx
    exact absurd hx (by decide +kernel)
  · refine wpAny_mono (key _ (by decide +kernel)) (fun b s' hb => ?_) fun _ _ e => e
    obtain ⟨rfl, rfl⟩ := hb
    exact wpAny_pure h
theorem write_ba {M : Model} {a : Addr} {b : Array UInt8} {n : Nat} {Q : Unit → Shared → Prop} (f : Array UInt8 → Array UInt8) (ho : s.heap.get? a = some ⟨.type "bytearray", none, .bytearray b n, #[]⟩) (hz : (f b).size ≤ sizeLine)
    (h : Q () { s with heap := s.heap.update a (fun _ => ⟨.type "bytearray", none, .bytearray (f b) n, #[]⟩) }) : wpAny M A (Builtin.Bytes.write (.ref a) f) Q E s := by
  show wpAny M A (updateBytearray a f) Q E s
  unfold updateBytearray
  refine wpAny_bind (wpAny_load ho ?_)
  show wpAny _ _ (update a (Obj.mapBytearray f) >>= fun _ => lookBehind a) _ _ _
  refine wpAny_bind (wpAny_update ho ?_)
  have e1 : s.heap.update a (Obj.mapBytearray f) = s.heap.update a (fun _ => ⟨.type "bytearray", none, .bytearray (f b) n, #[]⟩) := upd_const _ ho
  rw [e1]
  refine wpAny_lookBehind (Heap.get?_update_self _ ho rfl) ?_ h
  show (if (f b).size > sizeLine then some "bytearray:memory" else none) = none
  rw [if_neg (by omega)]
theorem ba_index : typeLookup (.type "int") "__index__" = pure (some (.builtin "int.__index__")) := by rw [typeLookup_type, builtinLookup_eq_fast]; kernel_rfl
theorem upd_upd {h : Heap} {a : Addr} {o o' : Obj} (ho : h.get? a = some o) (hf : o'.isFreed = false) {o'' : Obj} : (h.update a (fun _ => o')).update a (fun _ => o'') = h.update a (fun _ => o'') := by
  obtain ⟨objs, l⟩ := h
  simp only [Heap.update, Heap.mk.injEq, and_true]
  apply Array.ext_getElem?
  intro i
  simp only [Array.getElem?_modify]
  by_cases e : a = i
  · subst e
    simp only [if_true]
    cases objs[a]? <;> rfl
  · simp [e]
set_option maxHeartbeats 1000000 in
theorem code_ba_init {a : Addr} {n : Nat} {t : Tok} (ho : s.heap.get? a = some ⟨.type "bytearray", none, .bytearray #[] 0, #[]⟩) (hn : n ≤ sizeLine)
    (h : R (.ok (.ret .none)) { s with heap := s.heap.update a (fun _ => ⟨.type "bytearray", none, .bytearray (Array.replicate n 0) 0, #[]⟩) }) :
    codeC true (model prog w) A (.call (.builtin "bytearray.__init__") ⟨[.ref a, .int (Int.ofNat n) t], []⟩) R s := by
  have hT : s.TypeIs (.ref a) "bytearray" := ⟨_, ho, rfl⟩
  refine codeC_call_builtin ba_plain_init (show badIds.contains "bytearray.__init__" = false by decide) ba_entry_init (wpC_of (ba_slot_init.check _ _ _ _ _ _ _ _ hT (ba_args_init _ _) ?_))
  unfold Builtin.«bytearray.__init__»
  refine wpC_bind (wpC_of (ownRelease_ba hT ?_))
  show wpC _ _ _ (Builtin.Bytes.bindOptional "bytearray.__init__" "bytearray" ["source", "encoding", "errors"] [.int (Int.ofNat n) t] [] >>= _) _ _ _
  refine wpC_bind (wpC_of_eq (ba_bind _) ?_)
  refine wpC_bind (wpC_of_eq (a := ()) rfl ?_)
  refine wpC_bind (wpC_of_eq (a := ()) rfl ?_)
  refine wpC_bind (wpC_bind (exported_clean ?_))
  refine wpC_of ?_
  show wpAny _ _ (Builtin.Bytes.exportsOf (.ref a) >>= fun k => pure (decide (k > 0))) _ _ _
  refine wpAny_bind ?_
  unfold Builtin.Bytes.exportsOf
  refine wpAny_bind (wpAny_load ho (wpAny_pure (wpAny_pure ?_)))
  refine wpC_of ?_
  show wpAny _ _ (Builtin.Bytes.write (.ref a) (fun _ => #[]) >>= _) _ _ _
  refine wpAny_bind (write_ba _ ho (Nat.zero_le _) ?_)
  have ho1 : (s.heap.update a (fun _ => ⟨.type "bytearray", none, .bytearray #[] 0, #[]⟩)).get? a = some ⟨.type "bytearray", none, .bytearray #[] 0, #[]⟩ := Heap.get?_update_self _ ho rfl
  have e0 : asStr? (.int (Int.ofNat n) t) = pure none := rfl
  have e1 : specialOf (.int (Int.ofNat n) t) (Str.ofString "__index__") = pure (some (.builtin "int.__index__")) := ba_index
  have e2 : asIndex (.int (Int.ofNat n) t) = pure (Int.ofNat n) := rfl
  have e3 : (pure (Int.ofNat n) : Sem Int).attempt = pure (.ok (Int.ofNat n)) := rfl
  have hz : n < 2 ^ 62 := Nat.lt_of_le_of_lt hn (by decide)
  have e4 : Builtin.Bytes.fitsIndex (Int.ofNat n) = true := by
    unfold Builtin.Bytes.fitsIndex
    rw [Bool.and_eq_true]
    exact ⟨decide_eq_true (by show (-(2 ^ 63) : Int) ≤ (n : Int); omega), decide_eq_true (by show (n : Int) < 2 ^ 63; omega)⟩
  have e5 : ¬ (Int.ofNat n < 0) := by show ¬ (n : Int) < 0; omega
  have e6 : (Int.ofNat n == 2 ^ 63 - 1) = false := by rw [beq_eq_false_iff_ne]; show (n : Int) ≠ 2 ^ 63 - 1; omega
  have e7 : Builtin.Bytes.tooLong (Int.ofNat n).toNat = false := by show Builtin.Bytes.tooLong n = false; unfold Builtin.Bytes.tooLong; exact decide_eq_false (by omega)
  simp only [e0, e1, e2, e3, e4, e5, e6, e7, pure_bind, Option.isSome_none, Bool.false_eq_true, ↓reduceIte, Option.isSome_some, Bool.not_true]
  refine wpAny_bind (wpAny_rule ?_)
  have fin : ∀ h', h' = s.heap.update a (fun _ => ⟨.type "bytearray", none, .bytearray (Array.replicate n 0) 0, #[]⟩) → R (.ok (.ret .none)) { s with heap := h' } := fun h' e => by rw [e]; exact h
  by_cases h0 : n = 0
  · subst h0
    rw [if_neg (by decide)]
    exact wpAny_pure (fin _ rfl)
  · rw [if_pos (by show (n : Int) > 0; omega)]
    refine wpAny_bind (write_ba _ ho1 (by show (Array.replicate n (0 : UInt8)).size ≤ sizeLine; rw [Array.size_replicate]; exact hn) ?_)
    exact wpAny_pure (fin _ (upd_upd ho rfl))
end
end Mine
end PS11
section PS12
open PySem PySem.W PyProof.Rows PySem.Calls
open PySem.Builtin.Str (occurrences)
namespace Mine
noncomputable def fstC (js : List Nat) (cs : Cells) : Option (Addr × Obj) := match js with
  | [] => none
  | j :: _ => cs[j]?
theorem fstC_ok {js : List Nat} {cs : Cells} {K : Sta} {h : Heap} (H : Hp K h cs) : ∀ q, fstC js cs = some q → h.get? q.1 = some q.2 := by
  intro q hq
  unfold fstC at hq
  split at hq
  · cases hq
  · exact H.ce q (List.mem_of_getElem? hq)
noncomputable def extA {B : Bool} (F : Ext B) : Ans B := ansOf
  (fun js c cs nx tk => match F.val c (fstC js cs) tk with
    | some (v, tk', P) => some (.ok (.ret v), tk', cs, 0, P)
    | none => none)
  (fun {prog w K h0 cs0 N gens drawn os} js c h cs n tk A R r tk' cs' n' P W hA e hP next => by
    cases hv : F.val c (fstC js cs) tk with
    | none => rw [hv] at e; cases e
    | some x =>
      obtain ⟨v, tk2, P2⟩ := x
      rw [hv] at e
      cases e
      exact F.sound c _ v _ _ ⟨h, _, _, tk, _⟩ hv hP (fstC_ok W.hp) _ _ _ _ (next h W))
noncomputable def actA {B : Bool} (F : Act B) : Ans B := ansOf
  (fun js c cs nx tk => match js with
    | [] => none
    | j :: _ => match cs[j]? with
      | none => none
      | some q => match F.val c q tk with
        | some (v, tk', P, ob) => some (.ok (.ret v), tk', cs.set j (q.1, ob), 0, P)
        | none => none)
  (fun {prog w K h0 cs0 N gens drawn os} js c h cs n tk A R r tk' cs' n' P W hA e hP next => by
    cases js with
    | nil => cases e
    | cons j js =>
      simp only at e
      cases hq : cs[j]? with
      | none => rw [hq] at e; cases e
      | some q =>
        rw [hq] at e
        simp only at e
        cases hv : F.val c q tk with
        | none => rw [hv] at e; cases e
        | some x =>
          obtain ⟨v, tk2, P2, ob⟩ := x
          rw [hv] at e
          cases e
          exact F.sound c q v _ _ ob ⟨h, _, _, tk, _⟩ hv hP (W.hp.ce q (List.mem_of_getElem? hq)) _ _ _ _ (next _ (W.upd hq (f := fun _ => ob) (F.live c q tk v tk' P ob hv))))
structure OrV (B : Bool) where
  val : Code → Option (Addr × Obj) → Tok → Option (Value × Prop)
  sound : ∀ (c : Code) (p : Option (Addr × Obj)) (s : Shared), (∀ q, p = some q → s.heap.get? q.1 = some q.2) → (∀ t, ∃ v P, val c p t = some (v, P) ∧ P) →
    ∀ (prog : Program) (w : World) (A : Around) (R : Result → Shared → Prop), Fit A 4 → (∀ t tk' v P, val c p t = some (v, P) → R (.ok (.ret v)) { s with toks := tk' }) → codeC B (model prog w) A c R s
noncomputable def orA {B : Bool} (F : OrV B) : Ans B where
  ans := fun js c cs nx tk o => match F.val c (fstC js cs) o.1 with
    | some (v, P) => some (.ok (.ret v), o.2, cs, 0, P)
    | none => none
  sound := fun {prog w K h0 cs0 N gens drawn os} hlim js c h cs n tk A R W hA H => by
    refine F.sound c (fstC js cs) ⟨h, gens, drawn, tk, os⟩ (fstC_ok W.hp) (fun t => ?_) _ _ _ _ hA fun t tk' v P hv => ?_
    · obtain ⟨r, tk', cs', n', P, e, hP, next⟩ := H (t, 0)
      cases hv : F.val c (fstC js cs) t with
      | none => simp only [hv] at e; cases e
      | some x =>
        obtain ⟨v, P2⟩ := x
        simp only [hv] at e
        cases e
        exact ⟨v, P, rfl, hP⟩
    · obtain ⟨r, tk2, cs', n', P2, e, hP, next⟩ := H (t, tk')
      simp only [hv] at e
      cases e
      exact next h W
structure NewA (B : Bool) where
  val : Code → Option (Addr × Obj) → Option (Obj × Prop)
  live : ∀ c p o P, val c p = some (o, P) → o.isFreed = false
  sound : ∀ (c : Code) (p : Option (Addr × Obj)) (o : Obj) (P : Prop) (s : Shared), (∀ q, p = some q → s.heap.get? q.1 = some q.2) → val c p = some (o, P) → P →
    ∀ (prog : Program) (w : World) (A : Around) (R : Result → Shared → Prop), Fit A 4 → R (.ok (.ret (.ref s.heap.objs.size))) { s with heap := s.heap.push o } → codeC B (model prog w) A c R s
noncomputable def newA {B : Bool} (F : NewA B) : Ans B := ansOf
  (fun js c cs nx tk => match F.val c (fstC js cs) with
    | some (ob, P) => some (.ok (.ret (.ref nx)), tk, cs ++ [(nx, ob)], 1, P)
    | none => none)
  (fun {prog w K h0 cs0 N gens drawn os} js c h cs n tk A R r tk' cs' n' P W hA e hP next => by
    cases hv : F.val c (fstC js cs) with
    | none => rw [hv] at e; cases e
    | some x =>
      obtain ⟨ob, P2⟩ := x
      rw [hv] at e
      cases e
      refine F.sound c (fstC js cs) ob P ⟨h, gens, drawn, tk, os⟩ (fstC_ok W.hp) hv hP _ _ _ _ hA ?_
      have z := next _ (W.alloc (F.live _ _ _ _ hv))
      rw [← W.size] at z
      exact z)
end Mine
end PS12
section PS13
open PySem PySem.W PyProof.Rows PySem.Calls
namespace Mine
theorem ba_slot_setitem : Slot "bytearray" "__setitem__" "bytearray.__setitem__" :=
  .of (owner := "bytearray") (n := "__setitem__") (by rw [typeLookup_type, builtinLookup_eq_fast]; kernel_rfl) (by decide +kernel) (by decide +kernel) (by decide +kernel)
    (by first | exact .inl (by decide +kernel) | exact .inr (by decide +kernel)) (by rw [isSubtype_type]; kernel_rfl)
theorem ba_args_setitem (a b c : Value) : argsOk "bytearray.__setitem__" ⟨[a, b, c], []⟩ := by
  unfold argsOk; rw [signature?_of (id := "bytearray.__setitem__") (n := ['_', '_', 'm', 'e', 't', 'i', 't', 'e', 's', '_', '_']) (o := ['y', 'a', 'r', 'r', 'a', 'e', 't', 'y', 'b']) (by kernel_rfl) (rows := Manifest.sig_bytearray) (by kernel_rfl)]; kernel_rfl
theorem ba_entry_setitem : entryFor table "bytearray.__setitem__" = some Builtin.«bytearray.__setitem__» := entryFor_of_tree (by kernel_rfl)
theorem ba_look_buffer : typeLookup (.type "bytearray") "__buffer__" = pure (some (.builtin "bytearray.__buffer__")) := by rw [typeLookup_type, builtinLookup_eq_fast]; kernel_rfl
theorem ba_no_bytes : typeLookup (.type "bytearray") "__bytes__" = pure none := by rw [typeLookup_type, builtinLookup_eq_fast]; kernel_rfl
theorem ba_no_index : typeLookup (.type "bytearray") "__index__" = pure none := by rw [typeLookup_type, builtinLookup_eq_fast]; kernel_rfl
theorem fits_nat {i : Int} {n : Nat} (h0 : 0 ≤ i) (h1 : i < (n : Int)) (hn : n ≤ sizeLine) : Builtin.Bytes.fitsIndex i = true := by
  rw [sizeLine_eq] at hn
  unfold Builtin.Bytes.fitsIndex
  rw [Bool.and_eq_true]
  exact ⟨decide_eq_true (by omega), decide_eq_true (by omega)⟩
section
variable {prog : Program} {w : World} {A : Around} {E : Value → Shared → Prop} {s : Shared} {R : Result → Shared → Prop}
theorem payload_ba {M : Model} {a : Addr} {b : Array UInt8} {n : Nat} {Q : Array UInt8 → Shared → Prop} (ho : s.heap.get? a = some ⟨.type "bytearray", none, .bytearray b n, #[]⟩) (h : Q b s) : wpAny M A (Builtin.Bytes.payload (.ref a)) Q E s := by
  unfold Builtin.Bytes.payload Builtin.Bytes.payload?
  refine wpAny_bind (wpAny_bind (wpAny_load ho ?_))
  exact wpAny_pure (wpAny_pure h)
theorem code_ba_set {a : Addr} {b : Array UInt8} {n : Nat} {i v : Int} {t u : Tok} (ho : s.heap.get? a = some ⟨.type "bytearray", none, .bytearray b n, #[]⟩) (hb : b.size ≤ sizeLine) (h0 : 0 ≤ i) (h1 : i < (b.size : Int)) (v0 : 0 ≤ v) (v1 : v < 256)
    (h : R (.ok (.ret .none)) { s with heap := s.heap.update a (fun _ => ⟨.type "bytearray", none, .bytearray (b.setIfInBounds i.toNat v.toNat.toUInt8) n, #[]⟩) }) :
    codeAny (model prog w) A (.call (.builtin "bytearray.__setitem__") ⟨[.ref a, .int i t, .int v u], []⟩) R s := by
  have hT : s.TypeIs (.ref a) "bytearray" := ⟨_, ho, rfl⟩
  refine codeAny_call_builtin ba_slot_setitem.plain ba_entry_setitem (ba_slot_setitem.check _ _ _ _ _ _ _ _ hT (ba_args_setitem _ _ _) ?_)
  have e1 : Builtin.Bytes.subscript? (.int i t) = pure (some i) := by
    unfold Builtin.Bytes.subscript?
    rw [show specialOf (.int i t) (Str.ofString "__index__") = pure (some (.builtin "int.__index__")) from ba_index]
    rw [show asIndex (.int i t) = pure i from rfl]
    simp only [pure_bind, fits_nat h0 h1 hb, Option.isNone_some, Bool.false_eq_true, ↓reduceIte, Bool.not_true]
  have e2 : Builtin.Bytes.byteValue (.int v u) = pure v.toNat.toUInt8 := by
    unfold Builtin.Bytes.byteValue
    rw [show asIndex (.int v u) = pure v from rfl]
    simp only [pure_bind]
    rw [if_neg (by simp only [Bool.or_eq_true, decide_eq_true_eq, not_or]; omega)]
  unfold Builtin.«bytearray.__setitem__»
  show wpAny _ _ (Builtin.Bytes.subscript? (.int i t) >>= _) _ _ _
  refine wpAny_bind (wpAny_of_eq e1 ?_)
  show wpAny _ _ (Builtin.Bytes.byteValue (.int v u) >>= _) _ _ _
  refine wpAny_bind (wpAny_of_eq e2 ?_)
  show wpAny _ _ (Builtin.Bytes.payload (.ref a) >>= _) _ _ _
  refine wpAny_bind (payload_ba ho ?_)
  have hk : seqIndex? i b.size = some i.toNat := seqIndex_of h0 h1
  rw [hk]
  refine wpAny_bind (write_ba _ ho (by rw [Array.size_setIfInBounds]; exact hb) ?_)
  exact wpAny_pure h
end
noncomputable def baNewX {B : Bool} : NewA B where
  val := fun c p => on "bytearray.__new__" (lc yZ (lc iZ l0)) c fun (ty, (i, t), _) => some (⟨.type "bytearray", none, .bytearray #[] 0, #[]⟩, ty = "bytearray")
  live := fun c p o P e => by
    replace e := on_is e
    obtain ⟨x0, rfl, e⟩ := e
    cases e; rfl
  sound := fun c p o P s hp e hP prog w A R hA hR => by
    replace e := on_is e
    obtain ⟨x0, rfl, e⟩ := e
    cases e
    obtain ⟨ty, ⟨i, t⟩, _⟩ := x0
    subst hP
    exact codeC_of (code_ba_new _ hR)
noncomputable def baInitX : Act true where
  val := fun c q tk => on "bytearray.__init__" (lc rZ (lc iZ l0)) c fun (a, (i, t), _) => match q.2 with
        | ⟨.type ty, none, .bytearray ⟨[]⟩ 0, ⟨[]⟩⟩ => some (.none, tk, a = q.1 ∧ ty = "bytearray" ∧ 0 ≤ i ∧ i.toNat ≤ sizeLine, ⟨.type "bytearray", none, .bytearray (Array.replicate i.toNat 0) 0, #[]⟩)
        | _ => none
  live := fun c q tk v tk' P o e => by
    replace e := on_is e
    obtain ⟨x0, rfl, e⟩ := e
    simp only at e
    split at e
    · cases e; rfl
    · cases e
  sound := fun c q v tk' P o s e hP hq prog w A R hR => by
    replace e := on_is e
    obtain ⟨x0, rfl, e⟩ := e
    obtain ⟨a, ⟨i, t⟩, _⟩ := x0
    simp only at e
    split at e
    · rename_i ty hq2
      cases e
      obtain ⟨rfl, rfl, h0, h1⟩ := hP
      rw [hq2] at hq
      obtain ⟨n, rfl⟩ := Int.eq_ofNat_of_zero_le h0
      exact code_ba_init hq h1 hR
    · cases e
noncomputable def baSetX {B : Bool} : Act B where
  val := fun c q tk => on "bytearray.__setitem__" (lc rZ (lc iZ (lc iZ l0))) c fun (a, (i, t), (v, u), _) => onO yO q.2 fun (ty, b, n) => some (.none, tk, a = q.1 ∧ ty = "bytearray" ∧ (0 ≤ i ∧ i < (b.size : Int)) ∧ (0 ≤ v ∧ v < 256) ∧ b.size ≤ sizeLine, ⟨.type "bytearray", none, .bytearray (b.setIfInBounds i.toNat v.toNat.toUInt8) n, #[]⟩)
  live := fun c q tk v tk' P o e => by
    replace e := on_is e
    obtain ⟨x0, rfl, e⟩ := e
    replace e := onO_is e
    obtain ⟨y0, hq2, e⟩ := e
    cases e; rfl
  sound := fun c q v tk' P o s e hP hq prog w A R hR => by
    replace e := on_is e
    obtain ⟨x0, rfl, e⟩ := e
    replace e := onO_is e
    obtain ⟨y0, hq2, e⟩ := e
    cases e
    obtain ⟨a, ⟨i, t⟩, ⟨v, u⟩, _⟩ := x0
    obtain ⟨ty, b, n⟩ := y0
    have hq2 : q.2 = ⟨.type ty, none, .bytearray b n, ⟨[]⟩⟩ := hq2
    obtain ⟨rfl, rfl, ⟨h0, h1⟩, ⟨v0, v1⟩, hb⟩ := hP
    rw [hq2] at hq
    exact codeC_of (code_ba_set hq hb h0 h1 v0 v1 hR)
noncomputable def byItemX {B : Bool} : Ext B where
  val := fun c p tk => on "bytes.__getitem__" (lc bZ (lc iZ l0)) c fun ((b, t), (i, u), _) => some (.int (Int.ofNat (b.getD i.toNat 0).toNat) tk, tk + 1, (0 ≤ i ∧ i < (b.size : Int)) ∧ b.size ≤ sizeLine)
  sound := fun c p v tk' P s e hP hp prog w A R hR => by
    replace e := on_is e
    obtain ⟨x0, rfl, e⟩ := e
    cases e
    obtain ⟨⟨b, t⟩, ⟨i, u⟩, _⟩ := x0
    obtain ⟨⟨h0, h1⟩, hb⟩ : (0 ≤ i ∧ i < (b.size : Int)) ∧ b.size ≤ sizeLine := hP
    have hk : (seqIndex? i b.size).bind (b[·]?) = some (b.getD i.toNat 0) := by
      rw [seqIndex_of h0 h1]
      simp only [Option.bind_some]
      rw [Array.getD_eq_getD_getElem?]
      have : i.toNat < b.size := by omega
      simp [this]
    exact codeC_of (codeAny_call_builtin FB.slot_bytes_getitem.plain FB.entry_bytes_getitem (FB.slot_bytes_getitem.check _ _ _ _ _ _ _ _ (show s.TypeIs (.bytes b t) "bytes" from rfl) (FB.args_bytes_getitem_2 _ _) (gives_bytes_getitem b i t u _ (fits_nat h0 h1 hb) hk prog w A R s hR)))
noncomputable def rgNewX {B : Bool} : NewA B where
  val := fun c p => on "range.__new__" (lc yZ (lc iZ (lc iZ (lc iZ l0)))) c fun (ty, (a, t), (b, u), (d, v), _) => some (⟨.type "range", none, .fields #[.int a t, .int b u, .int d v], #[]⟩, ty = "range" ∧ d ≠ 0 ∧ Builtin.divisionGoesByPylong (b - a) d = false)
  live := fun c p o P e => by
    replace e := on_is e
    obtain ⟨x0, rfl, e⟩ := e
    cases e; rfl
  sound := fun c p o P s hp e hP prog w A R hA hR => by
    replace e := on_is e
    obtain ⟨x0, rfl, e⟩ := e
    cases e
    obtain ⟨ty, ⟨a, t⟩, ⟨b, u⟩, ⟨d, v⟩, _⟩ := x0
    obtain ⟨rfl, hd, hpl⟩ := hP
    refine codeC_of (codeAny_call_builtin (by decide +kernel) F.entry_range_new (wpAny_of_eq (F.newCall_range_3 _ _ _) ?_))
    exact AutoRange.range___new___type_int_int_int_1 a b d t u v F.called_range.sub (by simpa using hd) prog w A R s ⟨hpl, hR⟩
noncomputable def rgIterX {B : Bool} : NewA B where
  val := fun c p => on "range.__iter__" (lc rZ l0) c fun (r, _) => onP (gO (lc iZ (lc iZ (lc iZ l0)))) p fun q (ty, (a, t), (b, u), (d, v), _) => some (⟨.type "range_iterator", none, .fields #[.int a 0, .int (Builtin.Range.rangeSize a b d) 0, .int d 0], #[]⟩, r = q.1 ∧ ty = "range" ∧ Builtin.Range.small a b d = true)
  live := fun c p o P e => by
    replace e := on_is e
    obtain ⟨x0, rfl, e⟩ := e
    replace e := onP_is e
    obtain ⟨q, y0, rfl, hq2, e⟩ := e
    cases e; rfl
  sound := fun c p o P s hp e hP prog w A R hA hR => by
    replace e := on_is e
    obtain ⟨x0, rfl, e⟩ := e
    replace e := onP_is e
    obtain ⟨q, y0, rfl, hq2, e⟩ := e
    cases e
    obtain ⟨r, _⟩ := x0
    obtain ⟨ty, ⟨a, t⟩, ⟨b, u⟩, ⟨d, v⟩, _⟩ := y0
    have hq2 : q.2 = ⟨.type ty, none, .fields ⟨[.int a t, .int b u, .int d v]⟩, ⟨[]⟩⟩ := hq2
    obtain ⟨rfl, rfl, hsm⟩ := hP
    have ho := hp q rfl
    rw [hq2] at ho
    have hT : s.TypeIs (.ref q.1) "range" := ⟨_, ho, rfl⟩
    have hsm' := hsm
    unfold Builtin.Range.small at hsm'
    refine codeC_of (codeAny_call_builtin F.slot_range_iter.plain F.entry_range_iter (F.slot_range_iter.check _ _ _ _ _ _ _ _ hT (F.args_range_iter_1 _)
      (AutoRange.range___iter___range_1 q.1 a b d t u v (by simp [hsm']) prog w A R s ⟨ho, ?_⟩)))
    simp only [hsm', if_true]
    exact hR
noncomputable def rgNextX {B : Bool} : Act B where
  val := fun c q tk => on "range_iterator.__next__" (lc rZ l0) c fun (a, _) => onO (gO (lc iZ (lc iZ (lc iZ l0)))) q.2 fun (ty, (x, t), (l, u), (d, v), _) => some (.int x tk, tk + 1, a = q.1 ∧ ty = "range_iterator" ∧ 0 < l ∧ t = 0 ∧ u = 0 ∧ v = 0, ⟨.type "range_iterator", none, .fields #[.int (x + d) 0, .int (l - 1) 0, .int d 0], #[]⟩)
  live := fun c q tk v tk' P o e => by
    replace e := on_is e
    obtain ⟨x0, rfl, e⟩ := e
    replace e := onO_is e
    obtain ⟨y0, hq2, e⟩ := e
    cases e; rfl
  sound := fun c q v tk' P o s e hP hq prog w A R hR => by
    replace e := on_is e
    obtain ⟨x0, rfl, e⟩ := e
    replace e := onO_is e
    obtain ⟨y0, hq2, e⟩ := e
    cases e
    obtain ⟨a, _⟩ := x0
    obtain ⟨ty, ⟨x, t⟩, ⟨l, u⟩, ⟨d, v⟩, _⟩ := y0
    have hq2 : q.2 = ⟨.type ty, none, .fields ⟨[.int x t, .int l u, .int d v]⟩, ⟨[]⟩⟩ := hq2
    obtain ⟨rfl, rfl, hl, rfl, rfl, rfl⟩ := hP
    have hl : 0 < l := hl
    rw [hq2] at hq
    have hT : s.TypeIs (.ref q.1) "range_iterator" := ⟨_, hq, rfl⟩
    refine codeC_of (codeAny_call_builtin F.slot_range_iterator_next.plain F.entry_range_iterator_next (F.slot_range_iterator_next.check _ _ _ _ _ _ _ _ hT (F.args_range_iterator_next_1 _)
      (AutoRange.range_iterator___next___range_iterator_1 q.1 x l d (by omega) prog w A R s ⟨hq, ?_⟩)))
    have e1 : s.heap.update q.1 (Obj.mapFields fun x_1 => x_1.setIfInBounds 0 (rawInt (x + d))) = s.heap.update q.1 (fun _ => ⟨.type "range_iterator", none, .fields #[.int (x + d) 0, .int l 0, .int d 0], #[]⟩) := upd_const _ hq
    have hq1 : (s.heap.update q.1 (fun _ => ⟨.type "range_iterator", none, .fields #[.int (x + d) 0, .int l 0, .int d 0], #[]⟩)).get? q.1 = some ⟨.type "range_iterator", none, .fields #[.int (x + d) 0, .int l 0, .int d 0], #[]⟩ := Heap.get?_update_self _ hq rfl
    rw [e1, upd_const _ hq1, upd_upd hq rfl]
    exact hR
end Mine
end PS13
section PS14
open PySem PySem.W PyProof.Rows PySem.Calls
namespace Mine
noncomputable def lenAt (v : Value) (p : Option (Addr × Obj)) : Option (Nat × Prop) := match v with
  | .bytes b _ => some (b.size, b.size ≤ sizeLine)
  | .str x _ => some (x.length, x.length ≤ sizeLine)
  | .ref a => match p with
    | some q => match q.2 with
      | ⟨.type ty, none, .seq vs n, ⟨[]⟩⟩ => some (vs.size, a = q.1 ∧ ty = "list" ∧ vs.size ≤ sizeLine)
      | _ => none
    | none => none
  | _ => none
noncomputable def lenX {B : Bool} : Ext B where
  val := fun c p tk => match len2Of (some c) with
    | some (_, id, v) => match String.decEq id "len" with
      | .isTrue _ => match lenAt v p with
        | some (n, P) => some (.int (Int.ofNat n) (tk + 1), tk + 1 + 1, P)
        | none => none
      | .isFalse _ => none
    | none => none
  sound := fun c p v tk' P s e hP hp prog w A R hR => by
    cases h2 : len2Of (some c) with
    | none => rw [h2] at e; cases e
    | some x =>
      obtain ⟨cl, id, u⟩ := x
      rw [h2] at e
      simp only at e
      split at e
      · rename_i hid _
        subst hid
        cases hl : lenAt u p with
        | none => rw [hl] at e; cases e
        | some y =>
          obtain ⟨n, P2⟩ := y
          rw [hl] at e
          cases e
          have key : n ≤ sizeLine ∧ wpAny (model prog w) A.in1 (callSpecial? u (Str.ofString "__len__")) (fun o s' => o = some (.int (Int.ofNat n) s.toks) ∧ s' = { s with toks := s.toks + 1 }) (fun e s' => R (.error e) s') s := by
            unfold lenAt at hl
            split at hl
            · cases hl
              exact ⟨hP, wpAny_callSpecial?_slot (name := Str.ofString "__len__") (show s.TypeIs (.bytes _ _) "bytes" from rfl) FB.slot_bytes_len (call_gives FB.slot_bytes_len (show s.TypeIs (.bytes _ _) "bytes" from rfl) FB.entry_bytes_len (FB.args_bytes_len_1 _) (gives_bytes_len _ _) ⟨rfl, rfl⟩)⟩
            · cases hl
              exact ⟨hP, wpAny_callSpecial?_slot (name := Str.ofString "__len__") (typeIs_str _ _ _) F.slot_str_len (call_gives F.slot_str_len (typeIs_str _ _ _) F.entry_str_len (F.args_str_len_1 _) (gives_str_len _ _) ⟨rfl, rfl⟩)⟩
            · split at hl
              · rename_i a q
                split at hl
                · rename_i ty vs k hq2
                  cases hl
                  obtain ⟨rfl, rfl, hz⟩ := hP
                  have ho := hp q rfl
                  rw [hq2] at ho
                  exact ⟨hz, wpAny_callSpecial?_slot (name := Str.ofString "__len__") (show s.TypeIs (.ref q.1) "list" from ⟨_, ho, rfl⟩) slot_list_len (call_meets slot_list_len (show s.TypeIs (.ref q.1) "list" from ⟨_, ho, rfl⟩) entry_list_len (args_list_len _) (AutoListH.list___len___list_0 q.1 vs k) ⟨ho, rfl, rfl⟩)⟩
                · cases hl
              · cases hl
            · cases hl
          obtain ⟨hz, hq⟩ := key
          have body : wpAny (model prog w) A.in1 (Builtin.«len» ⟨[u], []⟩) (fun fin s' => ∃ x, fin = .done (.ret x) ∧ R (.ok (.ret x)) s') (fun e s' => R (.error e) s') s := by
            unfold Builtin.«len»
            refine wpAny_bind (m := oneArg "len" _) (wpAny_pure ?_)
            refine wpAny_bind (wpAny_mono hq (fun o s' ho => ?_) fun _ _ e => e)
            obtain ⟨rfl, rfl⟩ := ho
            show wpAny _ _ _ _ _ { s with toks := s.toks + 1 }
            refine wpAny_bind (wpAny_holding (wpAny_pure ?_))
            refine wpAny_bind (wpAny_letGo ?_)
            show wpAny _ _ (if (n : Int) < 0 then _ else _) _ _ _
            rw [if_neg (by omega)]
            show wpAny _ _ (if (n : Int) ≥ 2 ^ 63 then _ else _) _ _ _
            rw [if_neg (by unfold sizeLine at hz; omega)]
            exact wpAny_bind (wpAny_mkInt (wpAny_pure ⟨_, rfl, hR⟩))
          have hfin := wpAny_mono body (Q' := fun fin s' => match fin with | .done f => R (.ok f) s' | .again c' => c'.quiet = true ∧ codeAny (model prog w) A c' R s') (fun fin s' h' => by obtain ⟨v, rfl, hv⟩ := h'; exact hv) fun _ _ e => e
          unfold len2Of at h2
          split at h2
          · rename_i id u' hc
            cases h2
            cases hc
            refine codeC_of <| codeAny_call_builtin plain_len entry_len ?_
            simp only [checkBuiltinCall, kind_len]
            cases hsig : Manifest.signature? "len" with
            | none => exact wpAny_pure hfin
            | some sig =>
              have ha := args_len1 u
              simp only [argsOk, hsig] at ha
              have h2 : Bind.checkArgs "len" sig ⟨[u], []⟩ = pure () := ha
              show wpAny _ _ (Bind.checkArgs "len" sig ⟨[u], []⟩) _ _ s
              rw [h2]; exact wpAny_pure hfin
          · rename_i id u' hc
            cases h2
            cases hc
            refine codeC_of <| codeAny_builtin entry_len ?_
            rw [Around.under_plainId plain_len _]
            exact hfin
          · cases h2
      · cases e
noncomputable def addSX {B : Bool} : OrV B where
  val := fun c p t' => on "str.__add__" (lc sZ (lc sZ l0)) c fun ((a, t), (b, u), _) => some (.str (a ++ b) t', (a ++ b).length ≤ sizeLine)
  sound := fun c p s hp h prog w A R hA hR => by
    have h0 := h 0
    obtain ⟨v, P, e, hP⟩ := h0
    replace e := on_is e
    obtain ⟨x0, rfl, e⟩ := e
    cases e
    obtain ⟨⟨a, t⟩, ⟨b, u⟩, _⟩ := x0
    refine codeC_of (codeAny_call_builtin F.slot_str_add.plain F.entry_str_add (F.slot_str_add.check _ _ _ _ _ _ _ _ (typeIs_str _ _ _) (F.args_str_add_2 _ _) (gives_str_add a b t u |>.meets prog w A R s ?_)))
    have fin : ∀ t' tk', R (.ok (.ret (.str (a ++ b) t'))) { s with toks := tk' } := fun t' tk' => hR t' tk' _ ((a ++ b).length ≤ sizeLine) (on_at rfl)
    split
    · rename_i h0
      have : a = ⟨#[]⟩ := by
        obtain ⟨⟨l⟩⟩ := a
        cases l with
        | nil => rfl
        | cons v l => simp [Str.length] at h0
      subst this
      have := fin u s.toks
      rw [nil_str] at this
      exact this
    · split
      · rename_i h0
        have : b = ⟨#[]⟩ := by
          obtain ⟨⟨l⟩⟩ := b
          cases l with
          | nil => rfl
          | cons v l => simp [Str.length] at h0
        subst this
        have := fin t s.toks
        rw [str_nil] at this
        exact this
      · exact ⟨hP, fin _ _⟩
noncomputable def subX {B : Bool} : Ext B where
  val := fun c _ tk => on "int.__sub__" (lc iZ (lc iZ l0)) c fun ((a, _), (b, _), _) => some (.int (a - b) tk, tk + 1, True)
  sound := fun c p v tk' P s e hP hp prog w A R hR => by
    replace e := on_is e
    obtain ⟨x0, rfl, e⟩ := e
    cases e
    obtain ⟨⟨a, t⟩, ⟨b, u⟩, _⟩ := x0
    exact codeC_of <| codeAny_call_builtin F.slot_int_sub.plain F.entry_int_sub (F.slot_int_sub.check _ _ _ _ _ _ _ _ (typeIs_int _ _ _) (F.args_int_sub_2 _ _) (gives_int_sub a b t u prog w A R s hR))
end Mine
end PS14
section PS15
open PySem PySem.W PyProof.Rows PySem.Calls
namespace Mine
noncomputable def CtrF (B : Bool) (prog : Program) (w : World) (c : Code) (rm : Nat) (s : Shared) (P : Flow → Heap → Prop) : Prop :=
  ∀ (A : Around) (R : Result → Shared → Prop), Fit A rm → (∀ f h' tk', P f h' → R (.ok f) { s with heap := h', toks := tk' }) → codeC B (model prog w) A c R s
section
variable {B : Bool} {prog : Program} {w : World} {K : Sta}
theorem Ctr.toF {c : Code} {rm : Nat} {s : Shared} {P : Value → Heap → Prop} (C : Ctr B prog w c rm s P) : CtrF B prog w c rm s (fun f h => ∃ v, f = .ret v ∧ P v h) :=
  fun A R hA hR => C A R hA fun v h' tk' hp => hR _ _ _ ⟨v, rfl, hp⟩
theorem CtrF.mono {c : Code} {k rm : Nat} {s : Shared} {P : Flow → Heap → Prop} (C : CtrF B prog w c k s P) (h : k ≤ rm) : CtrF B prog w c rm s P := fun A R hA hR => C A R (hA.le h) hR
theorem callF_ok {α : Type} {A : Around} {Q : α → Shared → Prop} {E : Value → Shared → Prop} {s : Shared} {rm : Nat} {cur : Cur α} {c : Code} {P : Flow → Heap → Prop} (hc : callOf cur = some c) (C : CtrF B prog w c rm s P)
    (next : ∀ f h' tk', P f h' → CurOk B prog w A Q E { s with heap := h', toks := tk' } rm (contOf (.ok f) cur)) : CurOk B prog w A Q E s rm cur := by
  refine call_res (k := rm) (C := fun r s2 => ∃ f h' tk', r = .ok f ∧ s2 = { s with heap := h', toks := tk' } ∧ P f h') (Nat.le_refl _) hc (fun A1 R hA1 hR => C A1 R hA1 fun f h' tk' hp => hR _ _ ⟨f, h', tk', rfl, rfl, hp⟩) ?_
  rintro r s2 ⟨f, h', tk', rfl, rfl, hp⟩
  exact next f h' tk' hp
theorem ctr_loop {c : Code} {s : Shared} {P : Flow → Heap → Prop} (hq : c.quiet = true) (hok : okC c = true) (rm : Nat) (I : Nat → Heap → Prop)
    (turn : ∀ n h tk A, Fit A rm → I n h → wpC B (model prog w) A (denZ c) (fun fin s' => ∃ h' tk', s' = { s with heap := h', toks := tk' } ∧ match fin with
      | .done f => P f h'
      | .again c' => (c' = c ∧ ∃ m, m < n ∧ I m h') ∨ ∃ env, c' = .block [] env ∧ P .next h') (fun _ _ => False) { s with heap := h, toks := tk })
    (n : Nat) (h0 : I n s.heap) : CtrF B prog w c (rm + 1) s P := by
  intro A R hA hR
  refine codeC_loop hq (okC_clean hok) (fun n s' => ∃ h tk, s' = { s with heap := h, toks := tk } ∧ I n h) ?_ n ⟨s.heap, s.toks, rfl, h0⟩
  rintro n s' ⟨h, tk, rfl, hI⟩
  show wpC B _ _ (denote table c) _ _ _
  rw [denZ_eq]
  refine wpC_mono (turn n h tk (A.under c) (hA.under (okC_weight hok)) hI) (fun fin s2 hs => ?_) fun _ _ e => e.elim
  obtain ⟨h', tk', rfl, hm⟩ := hs
  cases fin with
  | done f => exact hR f h' tk' hm
  | again c' =>
    rcases hm with ⟨rfl, m, hm, hI'⟩ | ⟨env, rfl, hP⟩
    · exact .inl ⟨rfl, m, hm, h', tk', rfl, hI'⟩
    · exact .inr ⟨rfl, codeC_of (codeAny_block (wpAny_execs_nil (hR _ _ _ hP)))⟩
theorem go_oc (hlim : ∀ h, K.In h → h.NoLimit) {α : Type} {A : Around} {Q : α → Shared → Prop} {E : Value → Shared → Prop} {cur : Cur α} {s : Shared} {cs : Cells} (sch : List (Nat × List Nat × Ans B)) (m rm : Nat) (is : List Nat) (c : (Nat → Tok × Nat) → Code) (ps : (Nat → Tok × Nat) → List Prop) (C : (Nat → Tok × Nat) → Cells → Cells) (nn rm' : Nat)
    (H : Hp K s.heap cs) (e : ∀ o, (fun x : Res α × List Prop => (callOf x.1.cur, x.1.ob, x.1.cs.take nn, x.2, x.1.rm)) (exO K ⟨prog, w.params⟩ s.heap.objs.size sch m rm cur is cs 0 s.toks [] o []) = (some (c o), obOf is (exO K ⟨prog, w.params⟩ s.heap.objs.size sch m rm cur is cs 0 s.toks [] o []).1.cs, C o (exO K ⟨prog, w.params⟩ s.heap.objs.size sch m rm cur is cs 0 s.toks [] o []).1.cs, ps o, rm'))
    (hp : ∀ o, ∀ p ∈ ps o, p)
    (next : ∀ h' tk' o z, Hp K h' (C o z) → Kept s.heap h' cs → (∀ h2, Kept h' h2 (C o z) → Kept s.heap h2 cs) → callOf (exO K ⟨prog, w.params⟩ s.heap.objs.size sch m rm cur is cs 0 s.toks [] o []).1.cur = some (c o) →
      CurOk B prog w A Q E { s with heap := h', toks := tk' } rm' (exO K ⟨prog, w.params⟩ s.heap.objs.size sch m rm cur is cs 0 s.toks [] o []).1.cur) : CurOk B prog w A Q E s rm cur := by
  simp only [Prod.mk.injEq] at e
  refine exO_sound hlim (gens := s.gens) (drawn := s.drawn) (os := s.os) sch m rm cur is cs 0 s.toks [] [] s.heap (fun o => ?_) (Now.start H) fun o h' W => ?_
  · obtain ⟨e1, e2, e3, e4, e5⟩ := e o
    exact ⟨by rw [e2]; exact obOf_ok _ _, by rw [e4]; exact hp o⟩
  · obtain ⟨e1, e2, e3, e4, e5⟩ := e o
    rw [e5]
    refine next _ _ o (exO K ⟨prog, w.params⟩ s.heap.objs.size sch m rm cur is cs 0 s.toks [] o []).1.cs ?_ W.kept (fun h2 k => W.on (k.more fun b hb => ?_)) e1
    · rw [← e3]
      exact W.hp.sub (fun p hp => List.mem_of_mem_take hp) (W.hp.nd.sublist ((List.take_sublist _ _).map _))
    · rw [← e3] at hb
      obtain ⟨p, hp, rfl⟩ := List.mem_map.mp hb
      exact List.mem_map_of_mem (List.mem_of_mem_take hp)
end
noncomputable def forC (st : Stmt) (it : Value) (env : Env) : Code := match st with
  | .For t _ b o _ => .forLoop t it b o env
  | _ => default
end Mine
end PS15
section PS16
open PySem PySem.W PyProof.Rows PySem.Calls
namespace Mine
section
variable {prog : Program} {w : World} {A : Around} {E : Value → Shared → Prop} {s : Shared} {R : Result → Shared → Prop}
theorem slotIsOwn_ba {M : Model} {a : Addr} {Q : Bool → Shared → Prop} (hT : s.TypeIs (.ref a) "bytearray") (h : Q true s) : wpAny M A (Builtin.Bytes.slotIsOwn (.ref a) "__buffer__") Q E s := by
  have key : ∀ x : String, x = "bytearray" → wpAny M A (isInstance (.ref a) (.type x)) (fun b s' => b = true ∧ s' = s) E s := fun x hx => by
    subst hx
    exact wpAny_isInstance hT ba_sub ⟨rfl, rfl⟩
  unfold Builtin.Bytes.slotIsOwn
  refine wpAny_bind (wpAny_specialOf hT ba_look_buffer ?_)
  dsimp only
  split
  · rename_i hx
    exact absurd hx (by decide +kernel)
  · refine wpAny_mono (key _ (by decide +kernel)) (fun b s' hb => ?_) fun _ _ e => e
    obtain ⟨rfl, rfl⟩ := hb
    exact h
theorem buffer_ba {M : Model} {a : Addr} {b : Array UInt8} {n : Nat} {id : String} {Q : Option (Array UInt8) → Shared → Prop} (ho : s.heap.get? a = some ⟨.type "bytearray", none, .bytearray b n, #[]⟩) (h : Q (some b) s) : wpAny M A (Builtin.Bytes.buffer? id (.ref a) true) Q E s := by
  have hT : s.TypeIs (.ref a) "bytearray" := ⟨_, ho, rfl⟩
  unfold Builtin.Bytes.buffer?
  refine wpAny_bind (wpAny_specialOf hT ba_look_buffer ?_)
  refine wpAny_bind (slotIsOwn_ba hT ?_)
  refine bm_if_false rfl ?_
  refine wpAny_bind (wpAny_specialOf hT ba_look_buffer ?_)
  refine wpAny_bind (ownRelease_ba hT ?_)
  refine bm_if_false rfl ?_
  refine wpAny_bind (payload_ba ho ?_)
  exact wpAny_pure h
theorem code_by_new {a : Addr} {b : Array UInt8} {n : Nat} (ho : s.heap.get? a = some ⟨.type "bytearray", none, .bytearray b n, #[]⟩) (hb : b.size ≤ sizeLine) (h : R (.ok (.ret (.bytes b s.toks))) { s with toks := s.toks + 1 }) :
    codeAny (model prog w) A (.call (.builtin "bytes.__new__") ⟨[.type "bytes", .ref a], []⟩) R s := by
  have hT : s.TypeIs (.ref a) "bytearray" := ⟨_, ho, rfl⟩
  refine codeAny_of_tree ?_
  show wpAny _ A.in1 (do checkBuiltinCall "bytes.__new__" ⟨[.type "bytes", .ref a], []⟩; again (.builtin "bytes.__new__" ⟨[.type "bytes", .ref a], []⟩)) _ _ s
  refine wpAny_bind (wpAny_of_eq (F.bm_newCall _) (wpAny_pure ⟨plainId_quiet F.bm_plain _, codeAny_builtin F.bm_entry ?_⟩))
  rw [Around.under_plainId F.bm_plain _]
  unfold Builtin.«bytes.__new__»
  refine wpAny_bind (wpAny_of_eq (a := true) rfl ?_)
  refine bm_if_false rfl ?_
  refine wpAny_bind (wpAny_of_eq F.bm_sub ?_)
  refine bm_if_false rfl ?_
  refine wpAny_bind (wpAny_of_eq (F.bm_bind _) ?_)
  refine wpAny_bind (wpAny_of_eq (a := ()) rfl ?_)
  refine wpAny_bind (wpAny_of_eq (a := ()) rfl ?_)
  refine bm_if_false rfl ?_
  refine wpAny_bind (wpAny_specialOf hT ba_no_bytes ?_)
  refine wpAny_bind (wpAny_bind ?_)
  show wpAny _ _ (load a >>= _) _ _ _
  refine wpAny_bind (wpAny_load ho ?_)
  refine wpAny_pure (wpAny_pure ?_)
  refine bm_if_false rfl ?_
  refine wpAny_bind (wpAny_specialOf hT ba_no_index ?_)
  refine bm_if_true rfl ?_
  refine wpAny_bind ?_
  refine buffer_ba ho ?_
  refine wpAny_bind (wpAny_rule ?_)
  refine wpAny_bind (wpAny_mkBytes ?_ hb)
  show wpAny _ _ (if (Value.type "bytes" == Value.type "bytes") = true then _ else _) _ _ _
  first
    | exact bm_if_true (by decide) (wpAny_pure h)
    | exact bm_if_true (by decide) (wpAny_bind (wpAny_pure (wpAny_pure h)))
end
noncomputable def byNewX {B : Bool} : Ext B where
  val := fun c p tk => on "bytes.__new__" (lc yZ (lc rZ l0)) c fun (ty, a, _) => onP yO p fun q (ty2, b, n) => some (.bytes b tk, tk + 1, a = q.1 ∧ ty = "bytes" ∧ ty2 = "bytearray" ∧ b.size ≤ sizeLine)
  sound := fun c p v tk' P s e hP hp prog w A R hR => by
    replace e := on_is e
    obtain ⟨x0, rfl, e⟩ := e
    replace e := onP_is e
    obtain ⟨q, y0, rfl, hq2, e⟩ := e
    cases e
    obtain ⟨ty, a, _⟩ := x0
    obtain ⟨ty2, b, n⟩ := y0
    have hq2 : q.2 = ⟨.type ty2, none, .bytearray b n, ⟨[]⟩⟩ := hq2
    obtain ⟨rfl, rfl, rfl, hb⟩ := hP
    have ho := hp q rfl
    rw [hq2] at ho
    exact codeC_of (code_by_new ho hb hR)
end Mine
end PS16
section PS17
open PySem PySem.W PyProof.Rows PySem.Calls
namespace Mine
section
variable {B : Bool} {prog : Program} {w : World} {A : Around} {E : Value → Shared → Prop} {s : Shared} {R : Result → Shared → Prop}
theorem code_fn {id : String} {Bi : Builtin} {args : Args} {S : PySem.Spec} (hk : builtinKind id = none) (plain : plainId id = true) (entry : entryFor table id = some Bi) (ha : argsOk id args) (g : Meets (Bi args) S) (h : S A R s) :
    codeAny (model prog w) A (.call (.builtin id) args) R s := by
  refine codeAny_call_builtin plain entry ?_
  have z := g prog w A R s h
  simp only [checkBuiltinCall, hk]
  cases hsig : Manifest.signature? id with
  | none => exact wpAny_pure z
  | some sig =>
    simp only [argsOk, hsig] at ha
    have h2 : Bind.checkArgs id sig args = pure () := ha
    show wpAny _ _ (Bind.checkArgs id sig args) _ _ s
    rw [h2]; exact wpAny_pure z
end
theorem Hp.stays {K : Sta} {h h' : Heap} {cs : Cells} (H : Hp K h cs) (k : Kept h h' []) : Hp K h' cs :=
  ⟨fun a o e => k a o (H.st a o e) List.not_mem_nil, fun p hp => k _ _ (H.ce p hp) List.not_mem_nil, H.nd, H.off⟩
theorem Kept.all {h h' : Heap} {cs : Cells} (k : Kept h h' []) : Kept h h' cs := fun b o e _ => k b o e List.not_mem_nil
section
variable {B : Bool} {prog : Program} {w : World} {K : Sta}
theorem ctr_runF {c : Code} {s : Shared} {P : Flow → Heap → Prop} {rm : Nat} {is : List Nat} {cs : Cells} (H : Hp K s.heap cs) (hc : okC c = true) (hob : ∀ p ∈ (into (α := Result) K is cs [] c [] (fun r => .pure r)).2.2, p.1 = p.2)
    (run : ∀ (A : Around) (R : Result → Shared → Prop), (∀ f h' tk', P f h' → R (.ok f) { s with heap := h', toks := tk' }) → CurOk B prog w A R (fun _ _ => False) s rm (into (α := Result) K is cs [] c [] (fun r => .pure r)).1) : CtrF B prog w c (rm + 2) s P := by
  intro A R hA' hR
  have hA : Fit A (rm + 1) := hA'.le (by omega)
  have hA2 : Fit (A.under (.call .none ⟨[], []⟩)) (rm + 1) := hA'.under (by decide)
  have z := into_sound (gens := s.gens) (drawn := s.drawn) (os := s.os) (tk := s.toks) (A := A.under (.call .none ⟨[], []⟩)) (Q := R) (E := fun _ _ => False) (rm := rm) (Now.start H) hob (okC_weight hc) (okC_clean hc) [] A rfl hA trivial (by simpa using hA2) (run _ R hR)
  exact fun Γ p hc' hΓ hcl => wpCode_mono (fun r s' h => h (Γ.goto (.call .none ⟨[], []⟩)) p ((hΓ.goto (.call .none ⟨[], []⟩)).in) ⟨by cases B <;> rfl, hcl⟩) (z Γ p hc' hΓ hcl)
end
theorem Kept.below {K : Sta} {h h' : Heap} {cs cs' : Cells} (k : Kept h h' cs) (H : Hp K h' cs') (e : cs'.map (·.1) = cs.map (·.1)) {b : Addr} {o : Obj} (eo : h.get? b = some o) : b < h'.objs.size := by
  by_cases hb : b ∈ cs.map (·.1)
  · rw [← e] at hb
    obtain ⟨p, hp, rfl⟩ := List.mem_map.mp hb
    exact Heap.lt_size (H.ce p hp)
  · exact Heap.lt_size (k b o eo hb)
noncomputable def chrX {B : Bool} : Ext B where
  val := fun c p tk => on "chr" (lc iZ l0) c fun ((i, t), _) => some (.str ⟨#[i.toNat]⟩ tk, tk + 1, 0 ≤ i ∧ i ≤ 1114111)
  sound := fun c p v tk' P s e hP hp prog w A R hR => by
    replace e := on_is e
    obtain ⟨x0, rfl, e⟩ := e
    cases e
    obtain ⟨⟨i, t⟩, _⟩ := x0
    have hP : 0 ≤ i ∧ i ≤ 1114111 := hP
    refine codeC_of (code_fn F.kind_chr F.plain_chr F.entry_chr (F.args_chr1 _) (gives_chr i t ?_).meets ⟨by show 1 ≤ sizeLine; decide, hR⟩)
    rw [Bool.or_eq_false_iff]
    exact ⟨decide_eq_false (by omega), decide_eq_false (by omega)⟩
end Mine
end PS17
section PS18
open PySem PySem.W PyProof.Rows PySem.Calls
namespace Mine
noncomputable def lst2 (js : List Nat) (cs : Cells) : Option (Nat × (Addr × String × List Value × Nat) × (Addr × String × List Value × Nat)) :=
  onP qO cs[js.headD 0]? fun q (t1, xs, n1) => onP qO cs[js.tail.headD 0]? fun q2 (t2, ys, n2) => some (js.headD 0, (q.1, t1, xs.toList, n1), (q2.1, t2, ys.toList, n2))
theorem lst2_is {js : List Nat} {cs : Cells} {j1 : Nat} {a1 a2 : Addr} {t1 t2 : String} {xs ys : List Value} {n1 n2 : Nat} (e : lst2 js cs = some (j1, (a1, t1, xs, n1), (a2, t2, ys, n2))) :
    cs[j1]? = some (a1, (⟨.type t1, none, .seq ⟨xs⟩ n1, #[]⟩ : Obj)) ∧ ∃ j2 : Nat, cs[j2]? = some (a2, (⟨.type t2, none, .seq ⟨ys⟩ n2, #[]⟩ : Obj)) := by
  replace e := onP_is e
  obtain ⟨⟨b1, o1⟩, y0, h1, hq, e⟩ := e
  replace e := onP_is e
  obtain ⟨⟨b2, o2⟩, z0, h2, hq2, e⟩ := e
  cases hq
  cases hq2
  cases e
  exact ⟨h1, _, h2⟩
noncomputable def extendA {B : Bool} : Ans B := ansOf
  (fun js c cs nx tk => on "list.extend" (lc rZ (lc rZ l0)) c fun (a, b, _) => (lst2 js cs).bind fun (j1, (a1, t1, xs, n1), (a2, t2, ys, n2)) => some (.ok (.ret .none), tk, cs.set j1 (a1, ⟨.type "list", none, .seq ⟨xs ++ ys⟩ (if (xs ++ ys).length == xs.length then n1 else n1 + 1), #[]⟩), 0,
            a = a1 ∧ b = a2 ∧ t1 = "list" ∧ t2 = "list" ∧ xs.length + ys.length ≤ sizeLine))
  (fun {prog w K h0 cs0 N gens drawn os} js c h cs n tk A R r tk' cs' n' P W hA e hP next => by
    replace e := on_is e
    obtain ⟨x0, rfl, e⟩ := e
    replace e := Option.bind_eq_some_iff.mp e
    obtain ⟨w0, hl, e⟩ := e
    cases e
    obtain ⟨j1, ⟨a1, t1, xs, n1⟩, a2, t2, ys, n2⟩ := w0
    obtain ⟨a, b, _⟩ := x0
    obtain ⟨rfl, rfl, rfl, rfl, hz⟩ := hP
    have hz : xs.length + ys.length ≤ sizeLine := hz
    obtain ⟨h1, j2, h2⟩ := lst2_is hl
    have g1 := W.hp.ce _ (List.mem_of_getElem? h1)
    have g2 := W.hp.ce _ (List.mem_of_getElem? h2)
    refine codeC_of (codeAny_call_builtin F.slot_list_extend.plain F.entry_list_extend (F.slot_list_extend.check _ _ _ _ _ _ _ _ (show (⟨h, gens, drawn, tk, os⟩ : Shared).TypeIs (.ref a) "list" from ⟨_, g1, rfl⟩) (F.args_list_extend_2 _ _)
      (AutoSeq1.list_extend_list_list_0 a ⟨xs⟩ n1 b ⟨ys⟩ n2 (by
        show ¬ ((!(⟨xs⟩ : Array Value).isEmpty && Builtin.List.listTooLong (xs.length + ys.length)) = true)
        unfold Builtin.List.listTooLong
        rw [decide_eq_false (show ¬ xs.length + ys.length > sizeLine by omega)]
        simp) (by show xs.length ≤ sizeLine; omega) (by show xs.length + ys.length ≤ sizeLine + 1; omega) prog w A R ⟨h, gens, drawn, tk, os⟩ ⟨g1, g2, ?_⟩)))
    have z := next _ (W.upd h1 (f := fun _ => ⟨.type "list", none, .seq ⟨xs ++ ys⟩ (if (xs ++ ys).length == xs.length then n1 else n1 + 1), #[]⟩) rfl)
    have e1 : h.update a (Obj.mapSeq fun x => x ++ (⟨ys⟩ : Array Value)) = h.update a (fun _ => ⟨.type "list", none, .seq ⟨xs ++ ys⟩ (if (xs ++ ys).length == xs.length then n1 else n1 + 1), #[]⟩) := by
      rw [upd_const _ g1]
      congr 1
      funext _
      have e2 : (⟨xs⟩ : Array Value) ++ (⟨ys⟩ : Array Value) = ⟨xs ++ ys⟩ := by simp
      show Obj.mapSeq _ ⟨.type "list", none, .seq ⟨xs⟩ n1, #[]⟩ = _
      simp only [Obj.mapSeq, e2]
      rfl
    show R _ ⟨h.update a _, gens, drawn, tk, os⟩
    rw [e1]
    exact z)
noncomputable def addLA {B : Bool} : Ans B := ansOf
  (fun js c cs nx tk => on "list.__add__" (lc rZ (lc rZ l0)) c fun (a, b, _) => (lst2 js cs).bind fun (j1, (a1, t1, xs, n1), (a2, t2, ys, n2)) => some (.ok (.ret (.ref nx)), tk, cs ++ [(nx, ⟨.type "list", none, .seq ⟨xs ++ ys⟩ 0, #[]⟩)], 1,
            a = a1 ∧ b = a2 ∧ t1 = "list" ∧ t2 = "list" ∧ xs.length + ys.length ≤ sizeLine))
  (fun {prog w K h0 cs0 N gens drawn os} js c h cs n tk A R r tk' cs' n' P W hA e hP next => by
    replace e := on_is e
    obtain ⟨x0, rfl, e⟩ := e
    replace e := Option.bind_eq_some_iff.mp e
    obtain ⟨w0, hl, e⟩ := e
    cases e
    obtain ⟨j1, ⟨a1, t1, xs, n1⟩, a2, t2, ys, n2⟩ := w0
    obtain ⟨a, b, _⟩ := x0
    obtain ⟨rfl, rfl, rfl, rfl, hz⟩ := hP
    have hz : xs.length + ys.length ≤ sizeLine := hz
    obtain ⟨h1, j2, h2⟩ := lst2_is hl
    have g1 := W.hp.ce _ (List.mem_of_getElem? h1)
    have g2 := W.hp.ce _ (List.mem_of_getElem? h2)
    refine codeC_of (codeAny_call_builtin F.slot_list_add.plain F.entry_list_add (F.slot_list_add.check _ _ _ _ _ _ _ _ (show (⟨h, gens, drawn, tk, os⟩ : Shared).TypeIs (.ref a) "list" from ⟨_, g1, rfl⟩) (F.args_list_add_2 _ _)
      (AutoSeq1.list___add___list_list_0 a ⟨xs⟩ n1 b ⟨ys⟩ n2 (by show xs.length + ys.length ≤ sizeLine; exact hz) prog w A R ⟨h, gens, drawn, tk, os⟩ ⟨g1, g2, ?_⟩)))
    have z := next _ (W.alloc (o := ⟨.type "list", none, .seq ⟨xs ++ ys⟩ 0, #[]⟩) rfl)
    rw [← W.size] at z
    have e2 : (⟨xs⟩ : Array Value) ++ (⟨ys⟩ : Array Value) = ⟨xs ++ ys⟩ := by simp
    show R _ ⟨h.push ⟨.type "list", none, .seq ((⟨xs⟩ : Array Value) ++ (⟨ys⟩ : Array Value)) 0, #[]⟩, gens, drawn, tk, os⟩
    rw [e2]
    exact z)
end Mine
end PS18
section PS19
open PySem PySem.W PyProof.Rows PySem.Calls
namespace Mine
noncomputable def modX {B : Bool} : Ext B where
  val := fun c _ tk => on "int.__mod__" (lc iZ (lc iZ l0)) c fun ((a, _), (b, _), _) => some (.int (a.fmod b) tk, tk + 1, b ≠ 0)
  sound := fun c p v tk' P s e hP hp prog w A R hR => by
    replace e := on_is e
    obtain ⟨x0, rfl, e⟩ := e
    cases e
    obtain ⟨⟨a, t⟩, ⟨b, u⟩, _⟩ := x0
    exact codeC_of <| codeAny_call_builtin F.slot_int_mod.plain F.entry_int_mod (F.slot_int_mod.check _ _ _ _ _ _ _ _ (typeIs_int _ _ _) (F.args_int_mod_2 _ _) (AutoIntG6.int___mod___int_int_1 a t b u (by simpa using hP) prog w A R s hR))
noncomputable def fdivX {B : Bool} : Ext B where
  val := fun c _ tk => on "int.__floordiv__" (lc iZ (lc iZ l0)) c fun ((a, _), (b, _), _) => some (.int (a.fdiv b) tk, tk + 1, b ≠ 0 ∧ Builtin.divisionGoesByPylong a b = false)
  sound := fun c p v tk' P s e hP hp prog w A R hR => by
    replace e := on_is e
    obtain ⟨x0, rfl, e⟩ := e
    cases e
    obtain ⟨⟨a, t⟩, ⟨b, u⟩, _⟩ := x0
    exact codeC_of <| codeAny_call_builtin F.slot_int_floordiv.plain F.entry_int_floordiv (F.slot_int_floordiv.check _ _ _ _ _ _ _ _ (typeIs_int _ _ _) (F.args_int_floordiv_2 _ _) (AutoIntG4.int___floordiv___int_int_1 a t b u (by simpa using hP.1) (by rw [hP.2]; exact Bool.false_ne_true) prog w A R s hR))
noncomputable def negX {B : Bool} : Ext B where
  val := fun c _ tk => on "int.__neg__" (lc iZ l0) c fun ((a, _), _) => some (.int (-a) tk, tk + 1, True)
  sound := fun c p v tk' P s e hP hp prog w A R hR => by
    replace e := on_is e
    obtain ⟨x0, rfl, e⟩ := e
    cases e
    obtain ⟨⟨a, t⟩, _⟩ := x0
    exact codeC_of <| codeAny_call_builtin F.slot_int_neg.plain F.entry_int_neg (F.slot_int_neg.check _ _ _ _ _ _ _ _ (typeIs_int _ _ _) (F.args_int_neg_1 _) (gives_int_neg a t prog w A R s hR))
theorem code_list_item {prog : Program} {w : World} {A : Around} {R : Result → Shared → Prop} {s : Shared} {a : Addr} {vs : List Value} {n : Nat} {i : Int} {t : Tok} {v : Value} (ho : s.heap.get? a = some ⟨.type "list", none, .seq ⟨vs⟩ n, #[]⟩) (h0 : 0 ≤ i) (hz : i < 2 ^ 62) (hv : vs[i.toNat]? = some v) (hR : R (.ok (.ret v)) s) :
    codeAny (model prog w) A (.call (.builtin "list.__getitem__") ⟨[.ref a, .int i t], []⟩) R s := by
  have hlt : i.toNat < vs.length := (List.getElem?_eq_some_iff.mp hv).1
  refine codeAny_call_builtin slot_list_getitem.plain entry_list_getitem (slot_list_getitem.check _ _ _ _ _ _ _ _ ⟨_, ho, rfl⟩ (args_list_getitem _ _) ?_)
  show wpAny _ _ (Builtin.List.listSubscript? (.int i t) >>= _) _ _ s
  refine wpAny_bind (wpAny_listSubscript_int (fitsIndex_of h0 (by omega)) ?_)
  clear hz
  obtain ⟨j, rfl⟩ := Int.eq_ofNat_of_zero_le h0
  have hx : (⟨vs⟩ : Array Value)[j]? = some v := by simpa using hv
  show wpAny _ _ ((seqItemAt a j >>= fun r => pure (r.map (j, ·))) >>= _) _ _ s
  refine wpAny_bind (wpAny_bind (wpAny_seqItemAt ho rfl (wpAny_pure ?_)))
  rw [hx]
  first
    | exact wpAny_bind (wpAny_pure (wpAny_pure hR))
    | exact wpAny_pure hR
noncomputable def pickX {B : Bool} (a : Str) : Ext B where
  val := fun c p tk => on "list.__getitem__" (lc rZ (lc iZ l0)) c fun (r, (i, _), _) => onP qO p fun q (ty, ⟨vs⟩, n) => some (.str a (tokV (vs.getD i.toNat .none)), tk, r = q.1 ∧ ty = "list" ∧ 0 ≤ i ∧ i < 2 ^ 62 ∧ vs[i.toNat]? = some (.str a (tokV (vs.getD i.toNat .none))))
  sound := fun c p u tk' P s e hP hp prog w A R hR => by
    replace e := on_is e
    obtain ⟨x0, rfl, e⟩ := e
    replace e := onP_is e
    obtain ⟨q, y0, rfl, hq2, e⟩ := e
    cases e
    obtain ⟨r, ⟨i, t⟩, _⟩ := x0
    obtain ⟨ty, ⟨vs⟩, n⟩ := y0
    have hq2 : q.2 = ⟨.type ty, none, .seq ⟨vs⟩ n, ⟨[]⟩⟩ := hq2
    obtain ⟨rfl, rfl, h0, hz, hv⟩ := hP
    have ho := hp q rfl
    rw [hq2] at ho
    exact codeC_of (code_list_item ho h0 hz hv hR)
end Mine
end PS19
section PS20
open PySem PySem.W PyProof.Rows PySem.Calls
namespace Mine
noncomputable def tyS (asc : Bool) : String := match asc with | true => "str_ascii_iterator" | false => "str_iterator"
noncomputable def fldO (ty : String) (vs : List Value) : Obj := ⟨.type ty, none, .fields ⟨vs⟩, #[]⟩
noncomputable def tupE : Obj := ⟨.type "tuple", none, .seq #[] 0, #[]⟩
noncomputable def stopO (t : Addr) : Obj := ⟨.type "StopIteration", none, .fields #[.ref t, .none, .none, .none, .bool false, .none], #[]⟩
theorem stop_wp {α : Type} {M : Model} {A : Around} {E : Value → Shared → Prop} {s : Shared} {Q : α → Shared → Prop} (hh : A.handled = none) (h : E (.ref (s.heap.objs.size + 1)) { s with heap := (s.heap.push tupE).push (stopO s.heap.objs.size) }) :
    wpAny M A (do raiseNew (← newExc (.type "StopIteration") [])) Q E s := by
  show wpAny _ _ (newExc (.type "StopIteration") [] >>= _) _ _ _
  refine wpAny_bind ?_
  simp only [newExc, newTuple]
  refine wpAny_bind (wpAny_newObj_type ?_ (by size_fits))
  refine wpAny_bind (m := firstArgMember _ _) (wpAny_of_eq (a := Value.none) (by first | rfl | (simp only [firstArgMember]; rfl)) ?_)
  refine wpAny_newObj_type ?_ (by size_fits)
  simp only [raiseNew]
  refine wpAny_bind (wpAny_handled ?_)
  rw [hh]
  refine wpAny_bind (wpAny_pure (wpAny_throw ?_))
  rw [Heap.size_push]
  exact h
section
variable {prog : Program} {w : World} {A : Around} {R : Result → Shared → Prop} {s : Shared}
theorem set_fld {M : Model} {E : Value → Shared → Prop} {a : Addr} {ty : String} {vs : List Value} {i : Nat} {v : Value} {Q : Unit → Shared → Prop} (ho : s.heap.get? a = some (fldO ty vs)) (hi : i < vs.length)
    (h : Q () { s with heap := s.heap.update a (fun _ => fldO ty (vs.set i v)) }) : wpAny M A (setField (.ref a) i v) Q E s := by
  refine wpAny_setField ho rfl (by show i < vs.length; exact hi) ?_
  have e : s.heap.update a (Obj.mapFields fun x => x.setIfInBounds i v) = s.heap.update a (fun _ => fldO ty (vs.set i v)) := by
    rw [upd_const _ ho]
    congr 1
    funext _
    simp [fldO, Obj.mapFields]
  first
    | (rw [e]; exact h)
    | (rw [← e] at h; exact h)
theorem code_str_next {asc : Bool} {a : Addr} {x : Str} {t : Tok} {i : Int} {c : Nat} (ho : s.heap.get? a = some (fldO (tyS asc) [.str x t, .int i 0])) (hx : x.cps[i.toNat]? = some c)
    (h : R (.ok (.ret (.str ⟨#[c]⟩ s.toks))) { s with heap := s.heap.update a (fun _ => fldO (tyS asc) [.str x t, .int (i + 1) 0]), toks := s.toks + 1 }) :
    codeAny (model prog w) A (.call (.builtin (tyS asc ++ ".__next__")) ⟨[.ref a], []⟩) R s := by
  have fin : ∀ A' : Around, wpAny (model prog w) A' (do
      match (x.cps[i.toNat]?) with
      | some c => setField (.ref a) 1 (rawInt (i + 1)); retStr ⟨#[c]⟩
      | none => unsupported "") (fun fin s' => match fin with | .done f => R (.ok f) s' | .again c' => c'.quiet = true ∧ codeAny (model prog w) A c' R s') (fun e s' => R (.error e) s') s := fun A' => by
    rw [hx]
    refine wpAny_bind (set_fld ho (by simp) ?_)
    exact wpAny_bind (wpAny_mkStr (wpAny_pure h) (by show 1 ≤ sizeLine; decide))
  cases asc with
  | true =>
    refine codeAny_call_builtin F.slot_str_ascii_iterator_next.plain F.entry_str_ascii_iterator_next (F.slot_str_ascii_iterator_next.check _ _ _ _ _ _ _ _ ⟨_, ho, rfl⟩ (F.args_str_ascii_iterator_next_1 _) ?_)
    show wpAny _ _ (field (.ref a) 0 >>= _) _ _ s
    refine wpAny_bind (wpAny_field ho rfl (x := .str x t) rfl ?_)
    show wpAny _ _ (field (.ref a) 1 >>= _) _ _ s
    refine wpAny_bind (wpAny_field ho rfl (x := .int i 0) rfl ?_)
    have z := fin A.in1
    rw [hx] at z
    simp only [hx]
    exact z
  | false =>
    refine codeAny_call_builtin F.slot_str_iterator_next.plain F.entry_str_iterator_next (F.slot_str_iterator_next.check _ _ _ _ _ _ _ _ ⟨_, ho, rfl⟩ (F.args_str_iterator_next_1 _) ?_)
    show wpAny _ _ (field (.ref a) 0 >>= _) _ _ s
    refine wpAny_bind (wpAny_field ho rfl (x := .str x t) rfl ?_)
    show wpAny _ _ (field (.ref a) 1 >>= _) _ _ s
    refine wpAny_bind (wpAny_field ho rfl (x := .int i 0) rfl ?_)
    have z := fin A.in1
    rw [hx] at z
    simp only [hx]
    exact z
theorem code_str_stop {asc : Bool} {a : Addr} {x : Str} {t : Tok} {i : Int} (hh : A.handled = none) (ho : s.heap.get? a = some (fldO (tyS asc) [.str x t, .int i 0])) (hx : x.cps[i.toNat]? = none)
    (h : R (.error (.ref (s.heap.objs.size + 1))) { s with heap := ((s.heap.update a (fun _ => fldO (tyS asc) [.none, .int i 0])).push tupE).push (stopO s.heap.objs.size) }) :
    codeAny (model prog w) A (.call (.builtin (tyS asc ++ ".__next__")) ⟨[.ref a], []⟩) R s := by
  have hsz : ∀ o, (s.heap.update a (fun _ => o)).objs.size = s.heap.objs.size := fun o => (Heap.SameBut.update (a := a) (h := s.heap) (f := fun _ => o)).1
  have fin : ∀ A' : Around, A'.handled = none → wpAny (model prog w) A' (do
      setField (.ref a) 0 .none
      letGo [.str x t]
      (do raiseNew (← newExc (.type "StopIteration") [])  : Sem PySem.Fin)) (fun fin s' => match fin with | .done f => R (.ok f) s' | .again c' => c'.quiet = true ∧ codeAny (model prog w) A c' R s') (fun e s' => R (.error e) s') s := fun A' hh' => by
    refine wpAny_bind (set_fld ho (by simp) (wpAny_bind (wpAny_letGo (stop_wp hh' ?_))))
    show R (.error (.ref ((s.heap.update a (fun _ => fldO (tyS asc) [.none, .int i 0])).objs.size + 1))) { s with heap := ((s.heap.update a (fun _ => fldO (tyS asc) [.none, .int i 0])).push tupE).push (stopO (s.heap.update a (fun _ => fldO (tyS asc) [.none, .int i 0])).objs.size) }
    rw [hsz]
    exact h
  cases asc with
  | true =>
    refine codeAny_call_builtin F.slot_str_ascii_iterator_next.plain F.entry_str_ascii_iterator_next (F.slot_str_ascii_iterator_next.check _ _ _ _ _ _ _ _ ⟨_, ho, rfl⟩ (F.args_str_ascii_iterator_next_1 _) ?_)
    show wpAny _ _ (field (.ref a) 0 >>= _) _ _ s
    refine wpAny_bind (wpAny_field ho rfl (x := .str x t) rfl ?_)
    show wpAny _ _ (field (.ref a) 1 >>= _) _ _ s
    refine wpAny_bind (wpAny_field ho rfl (x := .int i 0) rfl ?_)
    simp only [hx]
    exact wpAny_bind (wpAny_rule (fin A.in1 hh))
  | false =>
    refine codeAny_call_builtin F.slot_str_iterator_next.plain F.entry_str_iterator_next (F.slot_str_iterator_next.check _ _ _ _ _ _ _ _ ⟨_, ho, rfl⟩ (F.args_str_iterator_next_1 _) ?_)
    show wpAny _ _ (field (.ref a) 0 >>= _) _ _ s
    refine wpAny_bind (wpAny_field ho rfl (x := .str x t) rfl ?_)
    show wpAny _ _ (field (.ref a) 1 >>= _) _ _ s
    refine wpAny_bind (wpAny_field ho rfl (x := .int i 0) rfl ?_)
    simp only [hx]
    exact wpAny_bind (wpAny_rule (fin A.in1 hh))
theorem code_lst_next {a l : Addr} {vs : List Value} {n : Nat} {i : Int} {v : Value} (ho : s.heap.get? a = some (fldO "list_iterator" [.ref l, .int i 0])) (hl : s.heap.get? l = some ⟨.type "list", none, .seq ⟨vs⟩ n, #[]⟩) (hx : vs[i.toNat]? = some v)
    (h : R (.ok (.ret v)) { s with heap := s.heap.update a (fun _ => fldO "list_iterator" [.ref l, .int (i + 1) 0]) }) :
    codeAny (model prog w) A (.call (.builtin "list_iterator.__next__") ⟨[.ref a], []⟩) R s := by
  refine codeAny_call_builtin slot_listiter_next.plain entry_listiter_next (slot_listiter_next.check _ _ _ _ _ _ _ _ ⟨_, ho, rfl⟩ (args_listiter_next _) ?_)
  show wpAny _ _ (field (.ref a) 0 >>= _) _ _ s
  refine wpAny_bind (wpAny_field ho rfl (x := .ref l) rfl ?_)
  show wpAny _ _ (if (Value.ref l == Value.none) = true then _ else _) _ _ s
  rw [if_neg (show ¬ ((Value.ref l == Value.none) = true) from Bool.false_ne_true)]
  show wpAny _ _ (field (.ref a) 1 >>= _) _ _ s
  refine wpAny_bind (wpAny_field ho rfl (x := .int i 0) rfl ?_)
  show wpAny _ _ (seqItems? (.ref l) >>= _) _ _ s
  refine wpAny_bind (wpAny_seqItems hl rfl ?_)
  have hx' : (⟨vs⟩ : Array Value)[i.toNat]? = some v := by simpa using hx
  simp only [hx']
  exact wpAny_bind (set_fld ho (by simp) (wpAny_pure h))
theorem code_lst_stop {a l : Addr} {vs : List Value} {n : Nat} {i : Int} (hh : A.handled = none) (ho : s.heap.get? a = some (fldO "list_iterator" [.ref l, .int i 0])) (hl : s.heap.get? l = some ⟨.type "list", none, .seq ⟨vs⟩ n, #[]⟩) (hx : vs[i.toNat]? = none)
    (h : R (.error (.ref (s.heap.objs.size + 1))) { s with heap := ((s.heap.update a (fun _ => fldO "list_iterator" [.none, .int i 0])).push tupE).push (stopO s.heap.objs.size) }) :
    codeAny (model prog w) A (.call (.builtin "list_iterator.__next__") ⟨[.ref a], []⟩) R s := by
  have hsz : ∀ o, (s.heap.update a (fun _ => o)).objs.size = s.heap.objs.size := fun o => (Heap.SameBut.update (a := a) (h := s.heap) (f := fun _ => o)).1
  refine codeAny_call_builtin slot_listiter_next.plain entry_listiter_next (slot_listiter_next.check _ _ _ _ _ _ _ _ ⟨_, ho, rfl⟩ (args_listiter_next _) ?_)
  show wpAny _ _ (field (.ref a) 0 >>= _) _ _ s
  refine wpAny_bind (wpAny_field ho rfl (x := .ref l) rfl ?_)
  show wpAny _ _ (if (Value.ref l == Value.none) = true then _ else _) _ _ s
  rw [if_neg (show ¬ ((Value.ref l == Value.none) = true) from Bool.false_ne_true)]
  show wpAny _ _ (field (.ref a) 1 >>= _) _ _ s
  refine wpAny_bind (wpAny_field ho rfl (x := .int i 0) rfl ?_)
  show wpAny _ _ (seqItems? (.ref l) >>= _) _ _ s
  refine wpAny_bind (wpAny_seqItems hl rfl ?_)
  have hx' : (⟨vs⟩ : Array Value)[i.toNat]? = none := by simpa using hx
  simp only [hx']
  refine wpAny_bind (wpAny_rule (wpAny_bind (set_fld ho (by simp) ?_)))
  unfold Builtin.SmallTypes.stopIteration
  refine stop_wp hh ?_
  show R (.error (.ref ((s.heap.update a (fun _ => fldO "list_iterator" [.none, .int i 0])).objs.size + 1))) { s with heap := ((s.heap.update a (fun _ => fldO "list_iterator" [.none, .int i 0])).push tupE).push (stopO (s.heap.update a (fun _ => fldO "list_iterator" [.none, .int i 0])).objs.size) }
  rw [hsz]
  exact h
end
end Mine
end PS20
section PS21
open PySem PySem.W PyProof.Rows PySem.Calls
namespace Mine
noncomputable def strIterX {B : Bool} (asc : Bool) : NewA B where
  val := fun c p => on "str.__iter__" (lc sZ l0) c fun ((x, t), _) => some (fldO (tyS asc) [.str x t, .int 0 0], x.cps.all (· < 128) = asc)
  live := fun c p o P e => by
    replace e := on_is e
    obtain ⟨x0, rfl, e⟩ := e
    cases e; rfl
  sound := fun c p o P s hp e hP prog w A R hA hR => by
    replace e := on_is e
    obtain ⟨x0, rfl, e⟩ := e
    cases e
    obtain ⟨⟨x, t⟩, _⟩ := x0
    refine codeC_of (codeAny_call_builtin F.slot_str_iter.plain F.entry_str_iter (F.slot_str_iter.check _ _ _ _ _ _ _ _ (typeIs_str s x t) (F.args_str_iter_1 _) ?_))
    show wpAny _ _ (do ret (← newFields (if (true && x.cps.all (· < 128)) = true then "str_ascii_iterator" else "str_iterator") [.str x t, rawInt 0])) _ _ s
    have e1 : (if (true && x.cps.all (· < 128)) = true then "str_ascii_iterator" else "str_iterator") = tyS asc := by
      rw [Bool.true_and, hP]
      cases asc <;> rfl
    rw [e1]
    exact wpAny_bind (wpAny_newObj_type (wpAny_pure hR))
noncomputable def strNextX {B : Bool} (asc : Bool) (k : Nat) : Act B where
  val := fun c q tk => on (tyS asc ++ ".__next__") (lc rZ l0) c fun (a, _) => onO (gO (lc sZ (lc iZ l0))) q.2 fun (ty, (x, t), (i, u), _) => some (.str ⟨#[k]⟩ tk, tk + 1, a = q.1 ∧ ty = tyS asc ∧ u = 0 ∧ x.cps[i.toNat]? = some k, fldO (tyS asc) [.str x t, .int (i + 1) 0])
  live := fun c q tk v tk' P o e => by
    replace e := on_is e
    obtain ⟨x0, rfl, e⟩ := e
    replace e := onO_is e
    obtain ⟨y0, hq2, e⟩ := e
    cases e; rfl
  sound := fun c q v tk' P o s e hP hq prog w A R hR => by
    replace e := on_is e
    obtain ⟨x0, rfl, e⟩ := e
    replace e := onO_is e
    obtain ⟨y0, hq2, e⟩ := e
    cases e
    obtain ⟨a, _⟩ := x0
    obtain ⟨ty, ⟨x, t⟩, ⟨i, u⟩, _⟩ := y0
    have hq2 : q.2 = ⟨.type ty, none, .fields ⟨[.str x t, .int i u]⟩, ⟨[]⟩⟩ := hq2
    obtain ⟨rfl, rfl, rfl, hx⟩ := hP
    rw [hq2] at hq
    exact codeC_of (code_str_next hq hx hR)
noncomputable def strStopA {B : Bool} (asc : Bool) : Ans B := ansOf
  (fun js c cs nx tk => on (tyS asc ++ ".__next__") (lc rZ l0) c fun (a, _) => onP (gO (lc sZ (lc iZ l0))) cs[js.headD 0]? fun q (ty, (x, _), (i, u), _) =>
    some (.error (.ref (nx + 1)), tk, cs.set (js.headD 0) (q.1, fldO (tyS asc) [.none, .int i 0]) ++ [(nx, tupE)] ++ [(nx + 1, stopO nx)], 2, a = q.1 ∧ ty = tyS asc ∧ u = 0 ∧ x.cps[i.toNat]? = none))
  (fun {prog w K h0 cs0 N gens drawn os} js c h cs n tk A R r tk' cs' n' P W hA e hP next => by
    replace e := on_is e
    obtain ⟨x0, rfl, e⟩ := e
    replace e := onP_is e
    obtain ⟨⟨a1, o1⟩, y0, hj, hq2, e⟩ := e
    cases hq2
    cases e
    obtain ⟨ty, ⟨x, t⟩, ⟨i, u⟩, _⟩ := y0
    obtain ⟨a, _⟩ := x0
    obtain ⟨rfl, rfl, rfl, hx⟩ := hP
    have g1 := W.hp.ce _ (List.mem_of_getElem? hj)
    have W1 := W.upd hj (f := fun _ => fldO (tyS asc) [.none, .int i 0]) rfl
    have W2 := W1.alloc (o := tupE) rfl
    have W3 := W2.alloc (o := stopO (N + n)) rfl
    refine codeC_of (code_str_stop (s := ⟨h, gens, drawn, tk, os⟩) hA.2.2 g1 hx ?_)
    have z := next _ W3
    rw [← W.size] at z
    exact z)
noncomputable def lstNextA {B : Bool} (v : Value) : Ans B := ansOf
  (fun js c cs nx tk => on "list_iterator.__next__" (lc rZ l0) c fun (a, _) => onP (gO (lc rZ (lc iZ l0))) cs[js.headD 0]? fun q (t1, l, (i, u), _) => onP qO cs[js.tail.headD 0]? fun q2 (t2, vs, _) =>
    some (.ok (.ret v), tk, cs.set (js.headD 0) (q.1, fldO "list_iterator" [.ref l, .int (i + 1) 0]), 0, (a = q.1 ∧ t1 = "list_iterator" ∧ u = 0 ∧ l = q2.1 ∧ t2 = "list") ∧ vs.toList[i.toNat]? = some v))
  (fun {prog w K h0 cs0 N gens drawn os} js c h cs n tk A R r tk' cs' n' P W hA e hP next => by
    replace e := on_is e
    obtain ⟨x0, rfl, e⟩ := e
    replace e := onP_is e
    obtain ⟨⟨a1, o1⟩, y0, hj, hq, e⟩ := e
    replace e := onP_is e
    obtain ⟨⟨a2, o2⟩, z0, hj2, hq2, e⟩ := e
    cases hq
    cases hq2
    cases e
    obtain ⟨t1, l, ⟨i, u⟩, _⟩ := y0
    obtain ⟨t2, ⟨vs⟩, n2⟩ := z0
    obtain ⟨a, _⟩ := x0
    obtain ⟨⟨rfl, rfl, rfl, rfl, rfl⟩, hx⟩ := hP
    have g1 := W.hp.ce _ (List.mem_of_getElem? hj)
    have g2 := W.hp.ce _ (List.mem_of_getElem? hj2)
    have W1 := W.upd hj (f := fun _ => fldO "list_iterator" [.ref l, .int (i + 1) 0]) rfl
    exact codeC_of (code_lst_next (s := ⟨h, gens, drawn, tk, os⟩) g1 g2 hx (next _ W1)))
noncomputable def lstStopA {B : Bool} : Ans B := ansOf
  (fun js c cs nx tk => on "list_iterator.__next__" (lc rZ l0) c fun (a, _) => onP (gO (lc rZ (lc iZ l0))) cs[js.headD 0]? fun q (t1, l, (i, u), _) => onP qO cs[js.tail.headD 0]? fun q2 (t2, vs, _) =>
    some (.error (.ref (nx + 1)), tk, cs.set (js.headD 0) (q.1, fldO "list_iterator" [.none, .int i 0]) ++ [(nx, tupE)] ++ [(nx + 1, stopO nx)], 2, (a = q.1 ∧ t1 = "list_iterator" ∧ u = 0 ∧ l = q2.1 ∧ t2 = "list") ∧ vs.toList[i.toNat]? = none))
  (fun {prog w K h0 cs0 N gens drawn os} js c h cs n tk A R r tk' cs' n' P W hA e hP next => by
    replace e := on_is e
    obtain ⟨x0, rfl, e⟩ := e
    replace e := onP_is e
    obtain ⟨⟨a1, o1⟩, y0, hj, hq, e⟩ := e
    replace e := onP_is e
    obtain ⟨⟨a2, o2⟩, z0, hj2, hq2, e⟩ := e
    cases hq
    cases hq2
    cases e
    obtain ⟨t1, l, ⟨i, u⟩, _⟩ := y0
    obtain ⟨t2, ⟨vs⟩, n2⟩ := z0
    obtain ⟨a, _⟩ := x0
    obtain ⟨⟨rfl, rfl, rfl, rfl, rfl⟩, hx⟩ := hP
    have g1 := W.hp.ce _ (List.mem_of_getElem? hj)
    have g2 := W.hp.ce _ (List.mem_of_getElem? hj2)
    have W1 := W.upd hj (f := fun _ => fldO "list_iterator" [.none, .int i 0]) rfl
    have W2 := W1.alloc (o := tupE) rfl
    have W3 := W2.alloc (o := stopO (N + n)) rfl
    refine codeC_of (code_lst_stop (s := ⟨h, gens, drawn, tk, os⟩) hA.2.2 g1 g2 hx ?_)
    have z := next _ W3
    rw [← W.size] at z
    exact z)
end Mine
end PS21
section PS22
open PySem PySem.W PyProof.Rows PySem.Calls
open PySem.Builtin.Str (occurrences)
namespace Mine
noncomputable def eqSX {B : Bool} (r : Bool) : Ext B where
  val := fun c p tk => on "str.__eq__" (lc sZ (lc sZ l0)) c fun ((a, t), (b, u), _) => some (.bool r, tk, (a.cps.toList == b.cps.toList) = r)
  sound := fun c p v tk' P s e hP hp prog w A R hR => by
    replace e := on_is e
    obtain ⟨x0, rfl, e⟩ := e
    cases e
    obtain ⟨⟨a, t⟩, ⟨b, u⟩, _⟩ := x0
    exact codeC_of <| codeAny_call_builtin F.slot_str_eq.plain F.entry_str_eq (F.slot_str_eq.check _ _ _ _ _ _ _ _ (typeIs_str _ _ _) (F.args_str_eq_2 _ _) (gives_str_eq a b t u prog w A R s (by rw [hP]; exact hR)))
noncomputable def neSX {B : Bool} (r : Bool) : Ext B where
  val := fun c p tk => on "str.__ne__" (lc sZ (lc sZ l0)) c fun ((a, t), (b, u), _) => some (.bool r, tk, (a.cps.toList != b.cps.toList) = r)
  sound := fun c p v tk' P s e hP hp prog w A R hR => by
    replace e := on_is e
    obtain ⟨x0, rfl, e⟩ := e
    cases e
    obtain ⟨⟨a, t⟩, ⟨b, u⟩, _⟩ := x0
    exact codeC_of <| codeAny_call_builtin F.slot_str_ne.plain F.entry_str_ne (F.slot_str_ne.check _ _ _ _ _ _ _ _ (typeIs_str _ _ _) (F.args_str_ne_2 _ _) (gives_str_ne a b t u prog w A R s (by
      show R (.ok (.ret (.bool (a.cps.toList != b.cps.toList)))) s
      rw [hP]; exact hR)))
noncomputable def hasSX {B : Bool} (r : Bool) : Ext B where
  val := fun c p tk => on "str.__contains__" (lc sZ (lc sZ l0)) c fun ((a, t), (b, u), _) => some (.bool r, tk, (!(occurrences a b 0 a.length 1).isEmpty) = r)
  sound := fun c p v tk' P s e hP hp prog w A R hR => by
    replace e := on_is e
    obtain ⟨x0, rfl, e⟩ := e
    cases e
    obtain ⟨⟨a, t⟩, ⟨b, u⟩, _⟩ := x0
    exact codeC_of <| codeAny_call_builtin F.slot_str_contains.plain F.entry_str_contains (F.slot_str_contains.check _ _ _ _ _ _ _ _ (typeIs_str _ _ _) (F.args_str_contains_2 _ _) (gives_str_contains a b t u prog w A R s (by rw [hP]; exact hR)))
end Mine
end PS22
section PS23
open PySem PySem.W PyProof.Rows PySem.Calls
namespace Mine
section
variable {B : Bool} {prog : Program} {w : World} {K : Sta}
theorem ctr_again {c c' : Code} {s : Shared} {P : Flow → Heap → Prop} (rm : Nat) (hok : okC c = true) (hq : c'.quiet = true)
    (run : ∀ A, Fit A rm → wpC B (model prog w) A (denZ c) (fun fin s' => fin = .again c' ∧ ∃ h' tk', s' = { s with heap := h', toks := tk' } ∧ CtrF B prog w c' (rm + 1) s' P) (fun _ _ => False) s) : CtrF B prog w c (rm + 1) s P := by
  intro A R hA hR
  refine codeC_of_tree (okC_clean hok) ?_
  show wpC B _ _ (denote table c) _ _ _
  rw [denZ_eq]
  refine wpC_mono (run (A.under c) (hA.under (okC_weight hok))) (fun fin s2 hs => ?_) fun _ _ e => e.elim
  obtain ⟨rfl, h', tk', rfl, C⟩ := hs
  exact ⟨hq, C A R hA fun f h2 tk2 hp => hR f h2 tk2 hp⟩
end
noncomputable def lcScope : PySem.Expr → Scope | .ListComp _ _ s _ => s | _ => default
noncomputable def lcEnv2 (e : PySem.Expr) (env : Env) (cells : List (Str × Addr)) (a : Addr) : Env :=
  { scope := { lcScope e with names := (lcScope e).names.map fun (n, k) => if (k == .free && env.scope.kind == .function && env.kindOf n == some .cell) then (n, .cell) else (n, k) }, locals := a, globals := env.globals, cells := cells, qual := env.qual, func := none, code := env.code, frame := env.frame, builtins := env.builtins }
noncomputable def cmpL2 : PySem.Expr → PySem.Expr | .Compare l _ _ _ => l | e => e
noncomputable def retE : Stmt → PySem.Expr | .Return (some e) _ => e | _ => default
noncomputable def binR : PySem.Expr → PySem.Expr | .BinOp _ _ r _ => r | e => e
noncomputable def binL : PySem.Expr → PySem.Expr | .BinOp l _ _ _ => l | e => e
noncomputable def bopV2 : PySem.Expr → List PySem.Expr | .BoolOp _ vs _ => vs | _ => []
end Mine
end PS23
section PS24
open PySem PySem.W PyProof.Rows PySem.Calls
open PySem.Builtin.Str (occurrences)
namespace Mine
noncomputable def CtrS (B : Bool) (prog : Program) (w : World) (c : Code) (rm : Nat) (s : Shared) (P : Flow → Shared → Prop) : Prop :=
  ∀ (A : Around) (R : Result → Shared → Prop), Fit A rm → (∀ f s', P f s' → R (.ok f) s') → codeC B (model prog w) A c R s
section
variable {B : Bool} {prog : Program} {w : World} {K : Sta}
theorem CtrS.mono {c : Code} {k rm : Nat} {s : Shared} {P : Flow → Shared → Prop} (C : CtrS B prog w c k s P) (h : k ≤ rm) : CtrS B prog w c rm s P := fun A R hA hR => C A R (hA.le h) hR
theorem callS_ok {α : Type} {A : Around} {Q : α → Shared → Prop} {E : Value → Shared → Prop} {s : Shared} {rm : Nat} {cur : Cur α} {c : Code} {P : Flow → Shared → Prop} (hc : callOf cur = some c) (C : CtrS B prog w c rm s P)
    (next : ∀ f s2, P f s2 → CurOk B prog w A Q E s2 rm (contOf (.ok f) cur)) : CurOk B prog w A Q E s rm cur := by
  refine call_res (k := rm) (C := fun r s2 => ∃ f, r = .ok f ∧ P f s2) (Nat.le_refl _) hc (fun A1 R hA1 hR => C A1 R hA1 fun f s' hp => hR _ _ ⟨f, rfl, hp⟩) ?_
  rintro r s2 ⟨f, rfl, hp⟩
  exact next f s2 hp
theorem ctrS_run {c : Code} {s : Shared} {P : Flow → Shared → Prop} {rm : Nat} {is : List Nat} {cs : Cells} (H : Hp K s.heap cs) (hc : okC c = true) (hob : ∀ p ∈ (into (α := Result) K is cs [] c [] (fun r => .pure r)).2.2, p.1 = p.2)
    (run : ∀ (A : Around) (R : Result → Shared → Prop), (∀ f s', P f s' → R (.ok f) s') → CurOk B prog w A R (fun _ _ => False) s rm (into (α := Result) K is cs [] c [] (fun r => .pure r)).1) : CtrS B prog w c (rm + 2) s P := by
  intro A R hA' hR
  have hA : Fit A (rm + 1) := hA'.le (by omega)
  have hA2 : Fit (A.under (.call .none ⟨[], []⟩)) (rm + 1) := hA'.under (by decide)
  have z := into_sound (gens := s.gens) (drawn := s.drawn) (os := s.os) (tk := s.toks) (A := A.under (.call .none ⟨[], []⟩)) (Q := R) (E := fun _ _ => False) (rm := rm) (Now.start H) hob (okC_weight hc) (okC_clean hc) [] A rfl hA trivial (by simpa using hA2) (run _ R hR)
  exact fun Γ p hc' hΓ hcl => wpCode_mono (fun r s' h => h (Γ.goto (.call .none ⟨[], []⟩)) p ((hΓ.goto (.call .none ⟨[], []⟩)).in) ⟨by cases B <;> rfl, hcl⟩) (z Γ p hc' hΓ hcl)
theorem ctrS_def (hlim : ∀ h, K.In h → h.NoLimit) {f : Addr} {args : Args} {s : Shared} {P : Flow → Shared → Prop} (m rm i : Nat) (is : List Nat) {cs : Cells} {body : List Stmt} {env : Env} (C : Cells → Cells) (nn : Nat) (H : Hp K s.heap cs)
    (h0 : (into (α := Result) K (i :: is) cs [] (.call (.ref f) args) [] (fun r => .pure r)).2.2 = obOf [i] cs)
    (e : (fun x : Res Result => (x.cur, x.ob, x.cs.take nn, x.rm)) (exK K ⟨prog, w.params⟩ s.heap.objs.size m rm (into (α := Result) K (i :: is) cs [] (.call (.ref f) args) [] (fun r => .pure r)).1 is cs 0 s.toks []) =
      (.nest (denZ (.func body env)) [] (fun r => .pure r), obOf is (exK K ⟨prog, w.params⟩ s.heap.objs.size m rm (into (α := Result) K (i :: is) cs [] (.call (.ref f) args) [] (fun r => .pure r)).1 is cs 0 s.toks []).cs, C (exK K ⟨prog, w.params⟩ s.heap.objs.size m rm (into (α := Result) K (i :: is) cs [] (.call (.ref f) args) [] (fun r => .pure r)).1 is cs 0 s.toks []).cs, rm))
    (hbody : ∀ A1 h' tk' z, Fit A1 rm → Hp K h' (C z) → Kept s.heap h' cs → (∀ h2, Kept h' h2 (C z) → Kept s.heap h2 cs) →
      wpC B (model prog w) A1 (execs body env) (fun fl s' => P (.ret (retV fl)) s') (fun _ _ => False) { s with heap := h', toks := tk' }) :
    CtrS B prog w (.call (.ref f) args) (rm + 2) s P := by
  refine ctrS_run (is := i :: is) H rfl (by rw [h0]; exact obOf_ok _ _) fun A R hR => ?_
  generalize hx : exK K ⟨prog, w.params⟩ s.heap.objs.size m rm (into (α := Result) K (i :: is) cs [] (.call (.ref f) args) [] (fun r => .pure r)).1 is cs 0 s.toks [] = x at e
  simp only [Prod.mk.injEq] at e
  obtain ⟨e1, e2, e3, e4⟩ := e
  refine go_on (r := x) hlim m rm is H (by rw [← exK_eq]; exact hx) (by rw [e2]; exact obOf_ok _ _) fun h' W => ?_
  rw [e1, e4]
  have H' : Hp K h' (C x.cs) := by
    rw [← e3]
    exact W.hp.sub (fun p hp => List.mem_of_mem_take hp) (W.hp.nd.sublist ((List.take_sublist _ _).map _))
  refine body_ok fun A1 hA1 => wpC_mono (hbody A1 h' x.tk x.cs hA1 H' W.kept fun h2 k => W.on (k.more fun b hb => ?_)) (fun fl s' hs => ?_) fun _ _ q => q
  · rw [← e3] at hb
    obtain ⟨p, hp, rfl⟩ := List.mem_map.mp hb
    exact List.mem_map_of_mem (List.mem_of_mem_take hp)
  · refine end_bot ?_
    have := hR (.ret (retV fl)) s' hs
    cases fl <;> exact this
end
noncomputable def replX {B : Bool} : OrV B where
  val := fun c p t' => on "str.replace" (lc sZ (lc sZ (lc sZ l0))) c fun ((x, t), (y, u), (z, v), _) => some (.str (Txt.replace x y z) t', u ≠ 0 ∧ v ≠ 0 ∧ u ≠ v ∧ (y == z) = false ∧ x.length + (x.length + 1) * z.length ≤ 16777216)
  sound := fun c p s hp h prog w A R hA hR => by
    have h0 := h 0
    obtain ⟨v, P, e, hP⟩ := h0
    replace e := on_is e
    obtain ⟨x0, rfl, e⟩ := e
    cases e
    obtain ⟨⟨x, t⟩, ⟨y, u⟩, ⟨z, v⟩, _⟩ := x0
    obtain ⟨hu, hv, huv, hyz, hb⟩ : u ≠ 0 ∧ v ≠ 0 ∧ u ≠ v ∧ (y == z) = false ∧ x.length + (x.length + 1) * z.length ≤ 16777216 := hP
    have e : (2 : Nat) ^ 24 = 16777216 := by decide
    have hl : Builtin.Str.tooLong (x.length + (occurrences x y 0 x.length (x.length + 1)).length * z.length) = false := by
      have h1 := StrLaws.occ_length_le x y 0 x.length (x.length + 1)
      have h2 : (occurrences x y 0 x.length (x.length + 1)).length * z.length ≤ (x.length + 1) * z.length := Nat.mul_le_mul_right _ h1
      unfold Builtin.Str.tooLong sizeLine
      exact decide_eq_false (by omega)
    have fin : ∀ t' tk', R (.ok (.ret (.str (Txt.replace x y z) t'))) { s with toks := tk' } := fun t' tk' => hR t' tk' _ (u ≠ 0 ∧ v ≠ 0 ∧ u ≠ v ∧ (y == z) = false ∧ x.length + (x.length + 1) * z.length ≤ 16777216) (on_at rfl)
    refine codeC_of (codeAny_call_builtin F.slot_str_replace.plain F.entry_str_replace (F.slot_str_replace.check _ _ _ _ _ _ _ _ (typeIs_str _ _ _) (F.args_str_replace_3 _ _ _) (gives_str_replace x y z t u v (fun _ => ⟨by simp [hu, hv], by simp [huv], hyz, hl⟩) |>.meets prog w A R s ?_)))
    unfold Txt.replace at fin
    cases hc : ((occurrences x y 0 x.length (x.length + 1)).isEmpty || (y.length == 0 && z.length == 0))
    · rw [hc] at fin
      simp only [Bool.false_eq_true, if_false] at fin ⊢
      exact ⟨fits_replaced y hb, fin _ _⟩
    · rw [hc] at fin
      simp only [if_true] at fin ⊢
      exact fin t s.toks
end Mine
end PS24
section PS25
open PySem PySem.W PyProof.Rows PySem.Calls
namespace Mine
section
variable {B : Bool} {prog : Program} {w : World} {K : Sta}
end
end Mine
end PS25
section PS26
open PySem PySem.W PyProof.Rows PySem.Calls
namespace Mine
theorem foldl_rep (c : Nat) : ∀ (n : Nat) (a : Array Nat), ((List.replicate n (#[c] : Array Nat)).foldl (· ++ ·) a).toList = a.toList ++ List.replicate n c
  | 0, a => by simp
  | n + 1, a => by
    rw [List.replicate_succ, List.foldl_cons, foldl_rep c n, Array.toList_append, List.replicate_succ]
    simp
noncomputable def mulSX {B : Bool} : OrV B where
  val := fun c p t' => on "str.__mul__" (lc sZ (lc iZ l0)) c fun ((x, t), (n, u), _) => some (.str ⟨⟨List.replicate n.toNat (x.cps.toList.headD 0)⟩⟩ t', x.cps.toList = [x.cps.toList.headD 0] ∧ 0 ≤ n ∧ n ≤ 1000)
  sound := fun c p s hp h prog w A R hA hR => by
    have h0 := h 0
    obtain ⟨v, P, e, hP⟩ := h0
    replace e := on_is e
    obtain ⟨x0, rfl, e⟩ := e
    cases e
    obtain ⟨⟨x, t⟩, ⟨n, u⟩, _⟩ := x0
    obtain ⟨hx, hn0, hn1⟩ : x.cps.toList = [x.cps.toList.headD 0] ∧ 0 ≤ n ∧ n ≤ 1000 := hP
    have fin : ∀ t' tk', R (.ok (.ret (.str ⟨⟨List.replicate n.toNat (x.cps.toList.headD 0)⟩⟩ t'))) { s with toks := tk' } := fun t' tk' => hR t' tk' _ (x.cps.toList = [x.cps.toList.headD 0] ∧ 0 ≤ n ∧ n ≤ 1000) (on_at rfl)
    obtain ⟨⟨l⟩⟩ := x
    generalize hc : (⟨⟨l⟩⟩ : Str).cps.toList.headD 0 = c0 at hx fin
    have hl : l = [c0] := hx
    subst hl
    have h63 : (2 : Int) ^ 63 = 9223372036854775808 := by decide
    have hr : (decide (n < -(2 ^ 63 : Int)) || decide (n ≥ 2 ^ 63)) = false := by
      rw [h63]; simp only [Bool.or_eq_false_iff, decide_eq_false_iff_not]; omega
    have hlen : (⟨⟨[c0]⟩⟩ : Str).length = 1 := rfl
    refine codeC_of (codeAny_call_builtin F.slot_str_mul.plain F.entry_str_mul (F.slot_str_mul.check _ _ _ _ _ _ _ _ (typeIs_str _ _ _) (F.args_str_mul_2 _ _) (gives_str_mul ⟨⟨[c0]⟩⟩ n t u hr (fun h1 h2 => ?_) (fun h1 h2 => ?_) |>.meets prog w A R s ?_)))
    · rw [hlen, h63]
      have : 1 ≤ (9223372036854775808 - 1) / n := by
        refine Int.le_ediv_of_mul_le (by omega) (by omega)
      show ¬ ((1 : Int) > _)
      omega
    · rw [hlen]
      unfold Builtin.Str.tooLong sizeLine
      simp only [decide_eq_false_iff_not]
      omega
    · by_cases h1 : n < 1
      · rw [if_pos h1]
        have : n.toNat = 0 := by omega
        rw [this] at fin
        exact ⟨by show 0 ≤ _; exact Nat.zero_le _, fin _ _⟩
      · rw [if_neg h1]
        by_cases h2 : n = 1
        · subst h2
          exact fin t s.toks
        · have hb : (n == 1 || (⟨⟨[c0]⟩⟩ : Str).length == 0) = false := by
            rw [hlen]; simp [h2]
          rw [hb]
          have e : (⟨(List.replicate n.toNat (⟨⟨[c0]⟩⟩ : Str).cps).foldl (· ++ ·) #[]⟩ : Str) = ⟨⟨List.replicate n.toNat c0⟩⟩ := by
            have := foldl_rep c0 n.toNat #[]
            have h3 : (⟨⟨[c0]⟩⟩ : Str).cps = #[c0] := rfl
            rw [h3]
            generalize (List.replicate n.toNat #[c0]).foldl (· ++ ·) #[] = z at this ⊢
            cases z
            simp only [List.nil_append] at this
            rw [this]
          simp only [Bool.false_eq_true, if_false]
          rw [e]
          refine ⟨?_, fin _ _⟩
          show (List.replicate n.toNat c0).length ≤ _
          rw [List.length_replicate]
          unfold sizeLine; omega
theorem hpKeep {K : Sta} {h h' : Heap} {a b : Cells} (H : Hp K h (a ++ b)) (k : Kept h h' b) : Hp K h' a := by
  have nd := H.nd
  refine ⟨fun x o e => k x o (H.st x o e) fun hb => ?_, fun p hp => k _ _ (H.ce p (List.mem_append_left _ hp)) fun hb => ?_, H.left.nd, H.left.off⟩
  · obtain ⟨q, hq, rfl⟩ := List.mem_map.mp hb
    have := H.off q (List.mem_append_right _ hq)
    rw [this] at e; cases e
  · rw [List.map_append, List.nodup_append] at nd
    exact nd.2.2 _ (List.mem_map_of_mem hp) _ hb rfl
end Mine
end PS26
section PS27
open PySem PySem.W PyProof.Rows PySem.Calls
namespace Mine
theorem preSum_take (ns : List Int) : ∀ j, j ≤ ns.length → preSum (fun i => ns.getD i 0) j = (ns.take j).sum
  | 0, _ => by simp [preSum]
  | j + 1, h => by
    have hj : j < ns.length := h
    show preSum (fun i => ns.getD i 0) j + ns.getD j 0 = _
    have e : ns.take (j + 1) = ns.take j ++ [ns[j]] := by rw [List.take_add_one, List.getElem?_eq_getElem hj]; rfl
    rw [preSum_take ns j (by omega), e, List.sum_append, List.getD_eq_getElem?_getD, List.getElem?_eq_getElem hj]
    simp
theorem sum_ctr {B : Bool} {prog : Program} {w : World} {K : Sta} {a : Addr} {vs : List Value} {n : Nat} {ns : List Int} {s : Shared} {cs : Cells} (H : Hp K s.heap ((a, ⟨.type "list", none, .seq vs.toArray n, #[]⟩) :: cs)) (hl : vs.length = ns.length) (hi : ∀ (i : Nat) (m : Int), ns[i]? = some m → ∃ t, vs[i]? = some (.int m t)) :
    Ctr B prog w (.call (.builtin "sum") ⟨[.ref a], []⟩) 10 s (fun v h' => (∃ t, v = .int ns.sum t) ∧ Kept s.heap h' []) := by
  intro A R hA hR
  have hh : A.handled = none := hA.2.2
  have ho := H.ce (a, ⟨.type "list", none, .seq vs.toArray n, #[]⟩) (List.mem_cons_self ..)
  have hl0 : s.heap.IsList a vs.toArray := ⟨_, ho, rfl, n, rfl⟩
  have hlt : a < s.heap.objs.size := Heap.lt_size ho
  refine codeC_of (codeAny_mono (R := fun r s' => match r with | .ok (.ret v) => (∃ h' k, s' = { s with heap := h', toks := k } ∧ (∃ t, v = .int ns.sum t) ∧ Kept s.heap h' []) | .ok _ => False | .error e => False) ?_ fun r s' hr => ?_)
  · refine codeAny_call_builtin F.plain_sum F.entry_sum ?_
    have hc : wpAny (model prog w) A.in1 (Builtin.«sum» ⟨[.ref a], []⟩) (fun fin s' => match fin with
      | .done f => (match (Except.ok f : Result) with | .ok (.ret v) => (∃ h' k, s' = { s with heap := h', toks := k } ∧ (∃ t, v = .int ns.sum t) ∧ Kept s.heap h' []) | .ok _ => False | .error e => False)
      | .again c' => c'.quiet = true ∧ codeAny (model prog w) A c' (fun r s' => match r with | .ok (.ret v) => (∃ h' k, s' = { s with heap := h', toks := k } ∧ (∃ t, v = .int ns.sum t) ∧ Kept s.heap h' []) | .ok _ => False | .error e => False) s') (fun _ _ => False) s := by
      unfold Builtin.«sum»
      simp only [List.length_cons, List.length_nil]
      rw [if_neg (by decide)]
      refine wpAny_bind (wpAny_of_eq (show Builtin.Builtins.bindParams "sum" ["start"] 0 { } = pure [none] from rfl) ?_)
      refine wpAny_bind (wpAny_pyIter_list hl0 ?_)
      refine wpAny_bind (wpAny_mkInt ?_)
      refine wpAny_bind (wpAny_pure ?_)
      simp only [List.forIn_cons, List.forIn_nil]
      refine wpAny_bind (wpAny_bind (wpAny_bind (wpAny_isInstance (T := "int") (b := false) (typeIs_int _ _ _) PySem.sub_int_str ?_)))
      simp only [Bool.false_eq_true, if_false]
      refine wpAny_pure (wpAny_bind (wpAny_bind (wpAny_isInstance (T := "int") (b := false) (typeIs_int _ _ _) PySem.sub_int_bytes ?_)))
      simp only [Bool.false_eq_true, if_false]
      refine wpAny_pure (wpAny_bind (wpAny_bind (wpAny_isInstance (T := "int") (b := false) (typeIs_int _ _ _) PySem.sub_int_bytearray ?_)))
      simp only [Bool.false_eq_true, if_false]
      refine wpAny_pure (wpAny_pure ?_)
      refine wpAny_bind (wpAny_newObj_type ?_)
      have hfp : ∀ b ∈ [s.heap.objs.size, a], b < (s.heap.push { cls := .type "list_iterator", data := .fields #[.ref a, .int 0 0] }).objs.size := fun b hb => by
        rw [Heap.size_push]
        rcases List.mem_cons.mp hb with rfl | hb
        · exact Nat.lt_succ_self _
        · rw [List.mem_singleton.mp hb]; exact Nat.lt_succ_of_lt hlt
      have hSf : (s.heap.push { cls := .type "list_iterator", data := .fields #[.ref a, .int 0 0] }).objs.size ∉ [s.heap.objs.size, a] := fun hm => Nat.lt_irrefl _ (hfp _ hm)
      refine wpAny_pure ⟨plainId_quiet F.plain_sum_loop _, codeAny_sum_loopG (Walks.list (A := A.in1) hh s.heap.objs.size a (Nat.ne_of_lt hlt) vs.toArray) (fun i => ns.getD i 0) (fun i v hv => ?_) _ hSf vs.toArray.size 0 _ _ 0 0 (Or.inl rfl) rfl (Nat.zero_le _)
        ⟨⟨_, Heap.get?_push_of_some _ (Heap.get?_push_size _ rfl), rfl, rfl⟩, (hl0.push _).push _⟩ (Heap.get?_push_size _ rfl) fun h' tk t' hk => ?_⟩
      · have hv' : vs[i]? = some v := by simpa using hv
        have hi' : i < ns.length := by rw [← hl]; exact (List.getElem?_eq_some_iff.mp hv').1
        obtain ⟨t, ht⟩ := hi i _ (List.getElem?_eq_getElem hi')
        rw [hv'] at ht
        exact ⟨t, by rw [Option.some.inj ht, List.getD_eq_getElem?_getD, List.getElem?_eq_getElem hi']; rfl⟩
      · refine ⟨h', tk, rfl, ⟨t', ?_⟩, fun b o e _ => ?_⟩
        · show Value.int (preSum _ vs.toArray.size) _ = _
          rw [show vs.toArray.size = ns.length by simp [hl], preSum_take ns _ (Nat.le_refl _), List.take_length]
        · have hb := Heap.lt_size e
          refine hk b o (fun hm => ?_) (fun hm => ?_) (Heap.get?_push_of_some _ (Heap.get?_push_of_some _ e))
          · rw [List.mem_singleton.mp hm] at hb; exact Nat.lt_irrefl _ hb
          · rw [hm] at hb
            exact Nat.lt_irrefl _ (Nat.lt_trans (Nat.lt_succ_self _) (by rw [Heap.size_push] at hb; exact hb))
    simp only [checkBuiltinCall, F.kind_sum]
    have ha := F.args_sum1 (.ref a)
    cases hsig : Manifest.signature? "sum" with
    | none => exact wpAny_pure hc
    | some sig =>
      simp only [argsOk, hsig] at ha
      have h2 : Bind.checkArgs "sum" sig ⟨[.ref a], []⟩ = pure () := ha
      show wpAny _ A.in1 (Bind.checkArgs "sum" sig ⟨[.ref a], []⟩) _ _ s
      rw [h2]; exact wpAny_pure hc
  · cases r with
    | error e => exact hr.elim
    | ok f => cases f with
      | ret v =>
        obtain ⟨h', k, rfl, hp⟩ := hr
        exact hR _ _ _ hp
      | _ => exact hr.elim
end Mine
end PS27
section PS28
open PySem PySem.W PyProof.Rows PySem.Calls
namespace Mine
theorem min_ctr {B : Bool} {prog : Program} {w : World} {a b : Int} {t u : Tok} {s : Shared} :
    Ctr B prog w (.call (.builtin "min") ⟨[.int a t, .int b u], []⟩) 10 s (fun v h' => v = (if b < a then .int b u else .int a t) ∧ Kept s.heap h' []) := by
  intro A R hA hR
  have hh : A.handled = none := hA.2.2
  have hname : (toString "min" ++ toString ".loop" : String) = "min.loop" := by decide
  refine codeC_of (codeAny_mono (R := fun r s' => match r with | .ok (.ret v) => (∃ h' k, s' = { s with heap := h', toks := k } ∧ v = (if b < a then .int b u else .int a t) ∧ Kept s.heap h' []) | .ok _ => False | .error e => False) ?_ fun r s' hr => ?_)
  · refine codeAny_call_builtin F.plain_min F.entry_min ?_
    have hT : (s.heap.push { cls := .type "tuple", data := .seq #[.int a t, .int b u] }).IsTuple s.heap.objs.size (intItems #[(a, t), (b, u)]) := ⟨_, Heap.get?_push_size _ rfl, rfl, 0, by simp [intItems]⟩
    have hsz : (s.heap.push { cls := .type "tuple", data := .seq #[.int a t, .int b u] }).objs.size = s.heap.objs.size + 1 := Heap.size_push ..
    have hc : wpAny (model prog w) A.in1 (Builtin.«min» ⟨[.int a t, .int b u], []⟩) (fun fin s' => match fin with
      | .done f => (match (Except.ok f : Result) with | .ok (.ret v) => (∃ h' k, s' = { s with heap := h', toks := k } ∧ v = (if b < a then .int b u else .int a t) ∧ Kept s.heap h' []) | .ok _ => False | .error e => False)
      | .again c' => c'.quiet = true ∧ codeAny (model prog w) A c' (fun r s' => match r with | .ok (.ret v) => (∃ h' k, s' = { s with heap := h', toks := k } ∧ v = (if b < a then .int b u else .int a t) ∧ Kept s.heap h' []) | .ok _ => False | .error e => False) s') (fun _ _ => False) s := by
      show wpAny _ A.in1 (Builtin.Builtins.bindParams "min" ["key", "default"] 0 ⟨[], []⟩ >>= _) _ _ s
      refine wpAny_bind (wpAny_of_eq (show Builtin.Builtins.bindParams "min" ["key", "default"] 0 ⟨[], []⟩ = pure [none, none] from rfl) ?_)
      show wpAny _ A.in1 (newTuple [.int a t, .int b u] >>= _) _ _ s
      refine wpAny_bind (wpAny_newObj_type ?_)
      refine wpAny_bind (wpAny_pyIter_tuple hT ?_)
      refine wpAny_bind (wpAny_newObj_type ?_)
      have hfp : ∀ c ∈ [(s.heap.push { cls := .type "tuple", data := .seq #[.int a t, .int b u] }).objs.size, s.heap.objs.size], c < ((s.heap.push { cls := .type "tuple", data := .seq #[.int a t, .int b u] }).push { cls := .type "tuple_iterator", data := .fields #[.ref s.heap.objs.size, .int 0 0] }).objs.size := fun c hc => by
        rw [Heap.size_push, hsz]
        rcases List.mem_cons.mp hc with rfl | hc
        · rw [hsz]; exact Nat.lt_succ_self _
        · rw [List.mem_singleton.mp hc]; exact Nat.lt_succ_of_lt (Nat.lt_succ_self _)
      have hSf := fun hm => Nat.lt_irrefl _ (hfp _ hm)
      rw [hname]
      have W := Walks.tuple (prog := prog) (w := w) (A := A.in1) hh (s.heap.push { cls := .type "tuple", data := .seq #[.int a t, .int b u] }).objs.size s.heap.objs.size (by rw [hsz]; exact Nat.ne_of_lt (Nat.lt_succ_self _)) (intItems #[(a, t), (b, u)])
      refine wpAny_pure ⟨plainId_quiet F.plain_min_loop _, codeAny_min_loop_first W _ (CmpOf.ints_lt (numAt #[(a, t), (b, u)]) (fun _ _ => intItems_at)) _ hSf (by simp [intItems]) (W.frame _ _ _ ⟨⟨_, Heap.get?_push_size _ rfl, rfl, rfl⟩, hT.push _⟩ fun b _ o e => Heap.get?_push_of_some _ e) (Heap.get?_push_size _ rfl) fun v h' tk hP hk => ?_⟩
      refine ⟨h', tk, rfl, ?_, fun x o e _ => ?_⟩
      · have hP' : (intItems #[(a, t), (b, u)])[argBest (fun i j => decide (numAt #[(a, t), (b, u)] i < numAt #[(a, t), (b, u)] j)) 1]? = some v := by
          have hsz2 : (intItems #[(a, t), (b, u)]).size - 1 = 1 := by simp [intItems]
          rw [← hsz2]; exact hP
        by_cases hba : b < a
        · have e : argBest (fun i j => decide (numAt #[(a, t), (b, u)] i < numAt #[(a, t), (b, u)] j)) 1 = 1 := by simp [argBest, numAt, hba]
          rw [e] at hP'
          simpa [intItems, hba] using hP'.symm
        · have e : argBest (fun i j => decide (numAt #[(a, t), (b, u)] i < numAt #[(a, t), (b, u)] j)) 1 = 0 := by simp [argBest, numAt, hba]
          rw [e] at hP'
          simpa [intItems, hba] using hP'.symm
      · have hb := Heap.lt_size e
        refine hk x o (fun hm => ?_) (fun hm => ?_) (Heap.get?_push_of_some _ (Heap.get?_push_of_some _ (Heap.get?_push_of_some _ e)))
        · rw [List.mem_singleton.mp hm, hsz] at hb; exact absurd hb (Nat.not_lt.mpr (Nat.le_succ _))
        · rw [hm, Heap.size_push, hsz] at hb; exact absurd hb (Nat.not_lt.mpr (Nat.le_trans (Nat.le_succ _) (Nat.le_succ _)))
    simp only [checkBuiltinCall, F.kind_min]
    have ha := F.args_min2 (.int a t) (.int b u)
    cases hsig : Manifest.signature? "min" with
    | none => exact wpAny_pure hc
    | some sig =>
      simp only [argsOk, hsig] at ha
      have h2 : Bind.checkArgs "min" sig ⟨[.int a t, .int b u], []⟩ = pure () := ha
      show wpAny _ A.in1 (Bind.checkArgs "min" sig ⟨[.int a t, .int b u], []⟩) _ _ s
      rw [h2]; exact wpAny_pure hc
  · cases r with
    | error e => exact hr.elim
    | ok f => cases f with
      | ret v =>
        obtain ⟨h', k, rfl, hp, hk⟩ := hr
        exact hR _ _ _ ⟨hp, hk⟩
      | _ => exact hr.elim
end Mine
end PS28
section PS29
open PySem PySem.W PyProof.Rows PySem.Calls
namespace Mine
theorem slice_ctr {B : Bool} {prog : Program} {w : World} {l sl : Addr} {vs : List Value} {n : Nat} {m : Int} {t : Tok} {s : Shared} (ho : s.heap.get? l = some ⟨.type "list", none, .seq vs.toArray n, #[]⟩) (hsl : s.heap.get? sl = some ⟨.type "slice", none, .fields #[.none, .int m t, .none], #[]⟩) (hz : vs.length ≤ sizeLine) :
    Ctr B prog w (.call (.builtin "list.__getitem__") ⟨[.ref l, .ref sl], []⟩) 10 s (fun v h' => v = .ref s.heap.objs.size ∧ h' = s.heap.push { cls := .type "list", data := .seq (slicePick vs.toArray none (some m) none) }) := by
  intro A R hA hR
  have hl : s.heap.IsList l vs.toArray := ⟨_, ho, rfl, n, rfl⟩
  have hs : s.heap.IsSliceOf sl .none (.int m t) .none := ⟨_, hsl, rfl, rfl⟩
  have hTs : s.TypeIs (.ref sl) "slice" := ⟨_, hsl, rfl⟩
  refine codeC_of (codeAny_call_builtin slot_list_getitem.plain entry_list_getitem (slot_list_getitem.check _ _ _ _ _ _ _ _ hl.typeIs (args_list_getitem _ _) ?_))
  show wpAny _ _ (Builtin.List.listSubscript? (.ref sl) >>= _) _ _ s
  refine wpAny_bind ?_
  unfold Builtin.List.listSubscript?
  refine wpAny_bind (wpAny_specialOf hTs slice_no_index ?_)
  simp only [Option.isNone_none, if_true]
  refine wpAny_pure ?_
  show wpAny _ _ (typeOf (.ref sl) >>= _) _ _ s
  refine wpAny_bind (wpAny_typeOf hTs ?_)
  rw [if_neg (by decide)]
  rw [PySem.listSliceParts_eq]
  have hstep : ¬ ((rawPart none == rawInt 0) = true) := Bool.false_ne_true
  refine wpAny_bind (wpAny_bind (wpAny_field hsl rfl (x := .none) rfl (wpAny_bind (wpAny_listPart IsPart.none ?_))))
  rw [if_neg hstep]
  refine wpAny_bind (wpAny_field hsl rfl (x := .none) rfl (wpAny_bind (wpAny_listPart IsPart.none ?_)))
  refine wpAny_bind (wpAny_field hsl rfl (x := .int m t) rfl (wpAny_bind (wpAny_listPart (IsPart.int m t) (wpAny_pure ?_))))
  refine wpAny_bind (m := Builtin.List.listItems (.ref l)) ?_
  unfold Builtin.List.listItems
  refine wpAny_bind (wpAny_seqItems ho rfl (wpAny_pure ?_))
  refine wpAny_bind (wpAny_of_eq (sliceIndices_raw none (some m) none vs.toArray.size (by simp)) ?_)
  refine wpAny_bind (wpAny_newObj_type (wpAny_pure (hR _ _ s.toks ⟨rfl, rfl⟩)) (Nat.le_trans (slicePick_size_le vs.toArray none (some m) none) (by simpa using hz)))
end Mine
end PS29
section PD0
open PySem PySem.W PyProof.Rows PySem.Calls
namespace Mine
variable {B : Bool}
noncomputable def wordC : Str := "abcdfeghijklmnopqrstuvwxyzABCDEFGHIJKLMNOPQRSTUVWXYZ0123456789_ßàáâãäåæçèéêëìíîïðñòóôõöøùúûüýþÿÀÁÂÃÄÅÆÇÈÉÊËÌÍÎÏÐÑÒÓÔÕÖØÙÚÛÜÝÞ"
noncomputable def lexL (P : Params) (k : Nat → Tok) (tape pb fs : Addr) (com : Value) (wss : Bool) (st ln tok : Value) : List DictEntry := [
 ent P "instream" (k 0) (.ref tape), ent P "infile" (k 1) .none, ent P "posix" (k 2) (.bool true), ent P "eof" (k 3) .none,
 ent P "commenters" (k 4) com, ent P "wordchars" (k 5) (.str wordC (k 6)), ent P "whitespace" (k 7) (.str " \t\r\n" (k 8)), ent P "whitespace_split" (k 9) (.bool wss),
 ent P "quotes" (k 10) (.str "'\"" (k 11)), ent P "escape" (k 12) (.str "\\" (k 13)), ent P "escapedquotes" (k 14) (.str "\"" (k 15)), ent P "state" (k 16) st,
 ent P "pushback" (k 17) (.ref pb), ent P "lineno" (k 18) ln, ent P "debug" (k 19) (.int 0 (k 20)), ent P "token" (k 21) tok, ent P "filestack" (k 22) (.ref fs), ent P "source" (k 23) .none, ent P "_punctuation_chars" (k 24) (.str "" (k 25))]
noncomputable def deqO : Obj := ⟨.type "collections.deque", none, .fields #[.none, .int 0 0], #[]⟩
noncomputable def rdStmt (w : World) : Stmt := (stmtsOf (fdOf (KK w) 772)).getD 1 default
structure RdVars where
  name : Str
  qual : Str
  doc : Value
  pm : Value
  an : Option Addr
  ct : Value
noncomputable def rdO (w : World) (cd oc wi ta wa : Addr) (z : RdVars) : Obj := ⟨.type "function", none, .func { name := z.name, qualname := z.qual, params := defParams (rdStmt w), body := .stmts (defBody (rdStmt w)), scope := defScope (rdStmt w), globals := mainGlobals, closure := [("width", wi), ("waiting", wa), ("taken", ta), ("octets", oc)], defaults := .none, kwdefaults := .none, doc := z.doc, pyModule := z.pm, annotations := z.an, code := .ref cd, closureTuple := z.ct, builtins := builtinsNs }, #[]⟩
noncomputable def cdO (v0 : Value) (q : Str) (t : Tok) (rest : List Value) : Obj := ⟨.type "code", none, .fields ⟨v0 :: .str q t :: rest⟩, #[]⟩
noncomputable def celO (v : Value) : Obj := ⟨.type "cell", none, .cell (some v), #[]⟩
noncomputable def frA (P : Params) (k : Nat → Tok) (x : Addr) (q : Bool) : Obj := frmO [ent P "self" (k 0) (.ref x), ent P "quoted" (k 1) (.bool q), ent P "escapedstate" (k 2) (.str " " (k 3))] 3
noncomputable def frB (P : Params) (k : Nat → Tok) (x : Addr) (q : Bool) (nc : Value) : Obj := frmO [ent P "self" (k 0) (.ref x), ent P "quoted" (k 1) (.bool q), ent P "escapedstate" (k 2) (.str " " (k 3)), ent P "nextchar" (k 4) nc] 4
noncomputable def frC (P : Params) (k : Nat → Tok) (x : Addr) (q : Bool) : Option Value → Obj | none => frA P k x q | some nc => frB P k x q nc
noncomputable def rtEnv (w : World) (L : Addr) : Env := { scope := (fdOf (KK w) 707).scope, locals := L, globals := mainGlobals, cells := [], qual := "shlex.read_token.<locals>.", func := some 707, code := .ref 706, frame := some L, builtins := builtinsNs }
noncomputable def rtW (w : World) : List Stmt := whB ((stmtsOf (fdOf (KK w) 707)).drop 2)
structure Tp where
  rd : Addr
  cd : Addr
  oc : Addr
  wi : Addr
  ta : Addr
  wa : Addr
  tl : Addr
  wl : Addr
  z : RdVars
  v0 : Value
  q : Str
  tq : Tok
  rest : List Value
  t1 : Tok
  t2 : Tok
  k : Nat
  oct : Array UInt8
  cs : List Nat
noncomputable def tpC (w : World) (T : Tp) (ts vs : List Value) (nt nw : Nat) : Cells := [(T.rd, rdO w T.cd T.oc T.wi T.ta T.wa T.z), (T.cd, cdO T.v0 T.q T.tq T.rest), (T.oc, celO (.bytes T.oct T.t1)), (T.wi, celO (.int (T.k : Nat) T.t2)), (T.ta, celO (.ref T.tl)), (T.wa, celO (.ref T.wl)), (T.tl, lstO ts nt), (T.wl, lstO vs nw)]
noncomputable def blocks (k p : Nat) : Nat := (p + k - 1) / k
structure TpAt (T : Tp) (p : Nat) (ts vs : List Value) : Prop where
  num : ts.length = blocks T.k p
  wait : ∃ tk : List Tok, tk.length = blocks T.k p * T.k - p ∧ vs = List.zipWith (fun c t => Value.str ⟨#[c]⟩ t) ((T.cs.drop p).take (blocks T.k p * T.k - p)) tk
noncomputable def ReadCtr (B : Bool) (w : World) (T : Tp) : Prop := ∀ (s : Shared) (p : Nat) (ts vs : List Value) (nt nw : Nat) (u : Tok), Hp (KK w) s.heap (tpC w T ts vs nt nw) → TpAt T p ts vs → p ≤ T.cs.length →
  Ctr B PG w (.call (.ref T.rd) ⟨[.int 1 u], []⟩) 30 s (fun v h' => ∃ ts' vs' nt' nw', Hp (KK w) h' (tpC w T ts' vs' nt' nw') ∧ Kept s.heap h' (tpC w T ts vs nt nw) ∧
    ((∃ (hp : p < T.cs.length), TpAt T (p + 1) ts' vs' ∧ ∃ t, v = .str ⟨#[T.cs[p]]⟩ t) ∨ (p = T.cs.length ∧ TpAt T p ts' vs' ∧ ∃ t, v = .str ⟨#[]⟩ t)))
structure Lx where
  x : Addr
  dx : Addr
  tp : Addr
  td : Addr
  pb : Addr
  fs : Addr
  kd : Nat → Tok
  fd : FuncData
  kt : Tok
  com : Tok
noncomputable def lxC (w : World) (X : Lx) (rd : Addr) (st ln tok : Value) : Cells := [(X.x, inst 739 X.dx), (X.dx, dicO (lexL w.params X.kd X.tp X.pb X.fs (.str "" X.com) true st ln tok) 19), (X.tp, ⟨.type "function", some X.td, .func X.fd, #[]⟩), (X.td, dicO [ent w.params "read" X.kt (.ref rd)] 1)]
end Mine
end PD0
section PS30
open PySem PySem.W PyProof.Rows PySem.Calls
namespace Mine
noncomputable def okP (P : Prop) : Prop := P ∧ true = true
noncomputable def tupX {B : Bool} (r : Bool) : Ext B where
  val := fun c p tk => on "tuple.__contains__" (lc rZ (lc sZ l0)) c fun (a, (b, _), _) => onP qO p fun q (ty, vs, _) => ((lc sZ (lc sZ l0)).rd vs.toList).bind fun ((x, _), (y, _), _) =>
    some (.bool r, tk, a = q.1 ∧ ty = "tuple" ∧ (x.cps.toList == b.cps.toList || y.cps.toList == b.cps.toList) = r)
  sound := fun c p v tk' P s e hP hp prog w A R hR => by
    replace e := on_is e
    obtain ⟨x0, rfl, e⟩ := e
    replace e := onP_is e
    obtain ⟨q, y0, rfl, hq2, e⟩ := e
    replace e := Option.bind_eq_some_iff.mp e
    obtain ⟨z0, hz, e⟩ := e
    cases e
    obtain ⟨a, ⟨b, u⟩, _⟩ := x0
    obtain ⟨ty, ⟨l⟩, n⟩ := y0
    obtain ⟨⟨x, t1⟩, ⟨y, t2⟩, _⟩ := z0
    have hl : l = [.str x t1, .str y t2] := (lc sZ (lc sZ l0)).is _ _ hz
    subst hl
    obtain ⟨rfl, rfl, hr⟩ := hP
    have ho := hp q rfl
    rw [hq2] at ho
    refine codeC_of <| codeAny_call_builtin F.slot_tuple_contains.plain F.entry_tuple_contains (F.slot_tuple_contains.check _ _ _ _ _ _ _ _ ⟨_, ho, rfl⟩ (F.args_tuple_contains_2 _ _) (SeqAt.tuple_containsAt q.1 _ _ _ _ (.str b u) (fun v => match v with | .str z _ => z.cps.toList == b.cps.toList | _ => false) prog w A R s ⟨ho, fun v hv => ?_, ?_⟩))
    · simp only [List.mem_toArray, List.mem_cons, List.not_mem_nil, or_false] at hv
      rcases hv with rfl | rfl
      · exact (SeqRoads2.EqGives.str _ _ _ _).at _ _
      · exact (SeqRoads2.EqGives.str _ _ _ _).at _ _
    · rw [← hr] at hR
      have hR' : R (.ok (.ret (.bool (x.cps.toList == b.cps.toList || y.cps.toList == b.cps.toList)))) s := hR
      simpa using hR'
theorem onP_at {γ δ : Type} {f : RdO γ} {q : Addr × Obj} {k : Addr × Obj → γ → Option δ} {x : γ} (e : q.2 = f.va x) (h : f.rd (f.va x) = some x) : onP f (some q) k = k q x := by
  unfold onP
  simp only [e, h]
theorem slc_code {B : Bool} {prog : Program} {w : World} {A : Around} {R : Result → Shared → Prop} {s : Shared} {b : Array UInt8} {a : Addr} {lo hi : Int} {t u1 u2 : Tok} (ho : s.heap.get? a = some ⟨.type "slice", none, .fields ⟨[.int lo u1, .int hi u2, .none]⟩, #[]⟩)
    (hsz : (KBy.picked b (some lo) (some hi)).size ≤ sizeLine) (hA : Fit A 4) (fin : ∀ t' tk', R (.ok (.ret (.bytes (KBy.picked b (some lo) (some hi)) t'))) { s with toks := tk' }) :
    codeC B (model prog w) A (.call (.builtin "bytes.__getitem__") ⟨[.bytes b t, .ref a], []⟩) R s :=
  ctr_meets (B := B) (prog := prog) (w := w) (s := s) (P := fun v h => (∃ t', v = .bytes (KBy.picked b (some lo) (some hi)) t') ∧ h = s.heap) FB.slot_bytes_getitem (show s.TypeIs (.bytes _ t) "bytes" from rfl) FB.entry_bytes_getitem (FB.args_bytes_getitem_2 _ _) (KBc.meets_slice2 _ t _ (.int _ _) (.int _ _)) (fun A R hR => ⟨⟨_, ho, rfl, rfl⟩, hsz, fun t' k => hR _ _ _ ⟨⟨t', rfl⟩, rfl⟩⟩) A R hA (fun v h' tk' hp => by
      obtain ⟨⟨t', rfl⟩, rfl⟩ := hp
      exact fin t' tk')
noncomputable def slcX {B : Bool} : OrV B where
  val := fun c p t' => on "bytes.__getitem__" (lc bZ (lc rZ l0)) c fun ((b, _), a, _) => onP (gO (lc iZ (lc iZ (lc nZ l0)))) p fun q (ty, (lo, _), (hi, _), _) =>
    some (.bytes (KBy.picked b (some lo) (some hi)) t', a = q.1 ∧ ty = "slice" ∧ (KBy.picked b (some lo) (some hi)).size ≤ sizeLine)
  sound := fun c p s hp h prog w A R hA hR => by
    have h0 := h 0
    obtain ⟨v, P, e, hP⟩ := h0
    clear h
    replace e := on_is e
    obtain ⟨x0, rfl, e⟩ := e
    replace e := onP_is e
    obtain ⟨q, y0, rfl, hq2, e⟩ := e
    cases e
    obtain ⟨⟨b, t⟩, a, _⟩ := x0
    obtain ⟨ty, ⟨lo, u1⟩, ⟨hi, u2⟩, u3⟩ := y0
    obtain ⟨rfl, rfl, hsz⟩ := hP
    have hr : (gO (lc iZ (lc iZ (lc nZ l0)))).rd ((gO (lc iZ (lc iZ (lc nZ l0)))).va ("slice", (lo, u1), (hi, u2), u3)) = some ("slice", (lo, u1), (hi, u2), u3) := rfl
    have fin : ∀ t' tk', R (.ok (.ret (.bytes (KBy.picked b (some lo) (some hi)) t'))) { s with toks := tk' } := fun t' tk' => by
      refine hR t' tk' (.bytes (KBy.picked b (some lo) (some hi)) t') (q.1 = q.1 ∧ "slice" = "slice" ∧ (KBy.picked b (some lo) (some hi)).size ≤ sizeLine) ?_
      rw [on_at rfl]
      dsimp only
      rw [onP_at hq2 hr]
    exact slc_code (u1 := u1) (u2 := u2) (t := t) (by rw [← show q.2 = ⟨.type "slice", none, .fields ⟨[.int lo u1, .int hi u2, .none]⟩, #[]⟩ from hq2]; exact hp q rfl) hsz hA fin
end Mine
end PS30
section PBS
open PySem PySem.W PyProof.Rows PySem.Calls
set_option maxHeartbeats 0
namespace Mine
noncomputable def valD (cs : Cells) (i j : Nat) : Value := match cs[i]? with
  | some p => match p.2.data with
    | .dict es _ => match es[j]? with
      | some e => e.val
      | none => .none
    | _ => .none
  | none => .none
noncomputable def bsB (w : World) : List Stmt := stmtsOf (fdOf (KK w) 51)
noncomputable def bsEnv (w : World) (L : Addr) : Env := { scope := (fdOf (KK w) 51).scope, locals := L, globals := mainGlobals, cells := [], qual := "_byteswap.<locals>.", func := some 51, code := .ref 50, frame := some L, builtins := builtinsNs }
noncomputable def bsF (P : Params) (kk : Nat → Tok) (b : Array UInt8) (t : Tok) (k : Int) (u : Tok) (S : Addr) : Option (Value × Value) → Obj
  | none => frmO [ent P "data" (kk 0) (.bytes b t), ent P "width" (kk 1) (.int k u), ent P "swapped_data" (kk 2) (.ref S)] 3
  | some (i, j) => frmO [ent P "data" (kk 0) (.bytes b t), ent P "width" (kk 1) (.int k u), ent P "swapped_data" (kk 2) (.ref S), ent P "i" (kk 3) i, ent P "j" (kk 4) j] 5
noncomputable def rgIt (x l d : Int) : Obj := ⟨.type "range_iterator", none, .fields #[.int x 0, .int l 0, .int d 0], #[]⟩
noncomputable def baO (a : Array UInt8) : Obj := ⟨.type "bytearray", none, .bytearray a 0, #[]⟩
noncomputable def bsC (w : World) (L S I : Addr) (kk : Nat → Tok) (b : Array UInt8) (t : Tok) (k : Int) (u : Tok) (ij : Option (Value × Value)) (a : Array UInt8) (x l : Int) : Cells := [(L, bsF w.params kk b t k u S ij), (S, baO a), (I, rgIt x l k)]
noncomputable def bsLp (w : World) (L I : Addr) : Code := forC ((bsB w).getD 1 default) (.ref I) (bsEnv w L)
noncomputable def bsV (b : Array UInt8) (x : Int) (j : Nat) : Int := Int.ofNat (b.getD (x + Int.ofNat j).toNat 0).toNat
noncomputable def bsI (x : Int) (k j : Nat) : Int := x + Int.ofNat k - 1 - Int.ofNat j
noncomputable def bsArr (a b : Array UInt8) (x : Int) (k : Nat) : Nat → Array UInt8
  | 0 => a
  | j + 1 => (bsArr a b x k j).setIfInBounds (bsI x k j).toNat (bsV b x j).toNat.toUInt8
noncomputable def bsPs (S : Addr) (a b : Array UInt8) (x : Int) (k : Nat) (r : List Prop) : Nat → List Prop
  | 0 => r
  | j + 1 => okP (S = S ∧ "bytearray" = "bytearray" ∧ (0 ≤ bsI x k j ∧ bsI x k j < ((bsArr a b x k j).size : Int)) ∧ (0 ≤ bsV b x j ∧ bsV b x j < 256) ∧ (bsArr a b x k j).size ≤ sizeLine) :: okP True :: okP True :: okP True ::
      okP ((0 ≤ x + Int.ofNat j ∧ x + Int.ofNat j < (b.size : Int)) ∧ b.size ≤ sizeLine) :: okP True :: bsPs S a b x k r j
theorem bsArr_size (a b : Array UInt8) (x : Int) (k : Nat) : ∀ j, (bsArr a b x k j).size = a.size
  | 0 => rfl
  | j + 1 => by rw [bsArr, Array.size_setIfInBounds, bsArr_size a b x k j]
theorem bsPs_ok {S : Addr} {a b : Array UInt8} {x : Int} {k : Nat} {r : List Prop} (hx : 0 ≤ x) (hxl : x + (k : Int) ≤ (b.size : Int)) (ha : a.size = b.size) (hb : b.size ≤ sizeLine) (hr : ∀ p ∈ r, p) : ∀ j, j ≤ k → ∀ p ∈ bsPs S a b x k r j, p
  | 0, _, p, hp => hr p hp
  | j + 1, hj, p, hp => by
    simp only [bsPs, List.mem_cons] at hp
    have hI : bsI x k j = x + (k : Int) - 1 - (j : Int) := rfl
    have hV := (b.getD (x + Int.ofNat j).toNat 0).toNat_lt
    have e1 : x + Int.ofNat j = x + (j : Int) := rfl
    rcases hp with rfl | rfl | rfl | rfl | rfl | rfl | hp
    · refine ⟨⟨trivial, trivial, ⟨?_, ?_⟩, ⟨?_, ?_⟩, ?_⟩, rfl⟩
      · rw [hI]; omega
      · rw [hI, bsArr_size, ha]; omega
      · show (0 : Int) ≤ ((b.getD (x + Int.ofNat j).toNat 0).toNat : Int); omega
      · show ((b.getD (x + Int.ofNat j).toNat 0).toNat : Int) < 256; omega
      · rw [bsArr_size, ha]; exact hb
    · exact ⟨trivial, rfl⟩
    · exact ⟨trivial, rfl⟩
    · exact ⟨trivial, rfl⟩
    · exact ⟨⟨⟨by rw [e1]; omega, by rw [e1]; omega⟩, hb⟩, rfl⟩
    · exact ⟨trivial, rfl⟩
    · exact bsPs_ok hx hxl ha hb hr j (by omega) p hp

theorem bs2n {w : World} {L S I : Addr} {kk : Nat → Tok} {b : Array UInt8} {t u : Tok} {iv jv : Value} {a : Array UInt8} {x l : Int} {A : Around} {Q : PySem.Fin → Shared → Prop} {E : Value → Shared → Prop} {s : Shared} (H : Hp (KK w) s.heap (bsC w L S I kk b t (Int.ofNat 2) u (none) a x l)) (hA : Fit A 12) (hx : 0 ≤ x) (hxl : x + (2 : Int) ≤ (b.size : Int)) (ha : a.size = b.size) (hb : b.size ≤ sizeLine) (hl : 0 < l)
  (next : ∀ h' tk' kk' ij', Hp (KK w) h' (bsC w L S I kk' b t (Int.ofNat 2) u ij' (bsArr a b x 2 2) (x + Int.ofNat 2) (l - 1)) → Kept s.heap h' (bsC w L S I kk b t (Int.ofNat 2) u (none) a x l) → Q (.again (bsLp w L I)) { s with heap := h', toks := tk' }) :
  wpC true (model PG w) A (denZ (bsLp w L I)) Q E s := by
  have hp : ∀ p ∈ bsPs S a b x 2 [okP (I = I ∧ "range_iterator" = "range_iterator" ∧ 0 < l ∧ 0 = 0 ∧ 0 = 0 ∧ 0 = 0)] 2, p := bsPs_ok hx hxl ha hb (fun p hp => by rw [List.mem_singleton.mp hp]; exact ⟨⟨rfl, rfl, hl, rfl, rfl, rfl⟩, rfl⟩) 2 (Nat.le_refl _)
  refine start_bot 12 hA rfl ?_
  exact go_o (kNoLimit _) ([(2, [2], (actA rgNextX)), (75, [], (extA addX)), (1, [], (extA byItemX)), (7, [], (extA addX)), (2, [], (extA subX)), (3, [], (extA subX)), (3, [1], (actA baSetX)), (30, [], (extA addX)), (1, [], (extA byItemX)), (7, [], (extA addX)), (2, [], (extA subX)), (3, [], (extA subX)), (3, [1], (actA baSetX))]) 17 12 (pl 0x47145145142081041041041041145145145145142081041041041041145145145145145104104104104104040001043) (fun _ => .again (bsLp _ L I)) (fun _ => bsPs S a b x 2 [okP (I = I ∧ "range_iterator" = "range_iterator" ∧ 0 < l ∧ 0 = 0 ∧ 0 = 0 ∧ 0 = 0)] 2)
    (fun o z => bsC w L S I (fun i => match i with | 0 => tokK z 0 0 | 1 => tokK z 0 1 | 2 => tokK z 0 2 | 3 => tokK z 0 3 | _ => tokK z 0 4) b t (Int.ofNat 2) u (some (valD z 0 3, valD z 0 4)) (bsArr a b x 2 2) (x + Int.ofNat 2) (l - 1)) 3 H (by exact byR w (fun w o => by kernel_rfl) (fun w o => by kernel_rfl)) (fun o => hp) (fun h' tk' o z H' k' _ => next h' tk' _ _ H' k')
theorem bs2s {w : World} {L S I : Addr} {kk : Nat → Tok} {b : Array UInt8} {t u : Tok} {iv jv : Value} {a : Array UInt8} {x l : Int} {A : Around} {Q : PySem.Fin → Shared → Prop} {E : Value → Shared → Prop} {s : Shared} (H : Hp (KK w) s.heap (bsC w L S I kk b t (Int.ofNat 2) u (some (iv, jv)) a x l)) (hA : Fit A 12) (hx : 0 ≤ x) (hxl : x + (2 : Int) ≤ (b.size : Int)) (ha : a.size = b.size) (hb : b.size ≤ sizeLine) (hl : 0 < l)
  (next : ∀ h' tk' kk' ij', Hp (KK w) h' (bsC w L S I kk' b t (Int.ofNat 2) u ij' (bsArr a b x 2 2) (x + Int.ofNat 2) (l - 1)) → Kept s.heap h' (bsC w L S I kk b t (Int.ofNat 2) u (some (iv, jv)) a x l) → Q (.again (bsLp w L I)) { s with heap := h', toks := tk' }) :
  wpC true (model PG w) A (denZ (bsLp w L I)) Q E s := by
  have hp : ∀ p ∈ bsPs S a b x 2 [okP (I = I ∧ "range_iterator" = "range_iterator" ∧ 0 < l ∧ 0 = 0 ∧ 0 = 0 ∧ 0 = 0)] 2, p := bsPs_ok hx hxl ha hb (fun p hp => by rw [List.mem_singleton.mp hp]; exact ⟨⟨rfl, rfl, hl, rfl, rfl, rfl⟩, rfl⟩) 2 (Nat.le_refl _)
  refine start_bot 12 hA rfl ?_
  exact go_o (kNoLimit _) ([(2, [2], (actA rgNextX)), (75, [], (extA addX)), (1, [], (extA byItemX)), (7, [], (extA addX)), (2, [], (extA subX)), (3, [], (extA subX)), (3, [1], (actA baSetX)), (30, [], (extA addX)), (1, [], (extA byItemX)), (7, [], (extA addX)), (2, [], (extA subX)), (3, [], (extA subX)), (3, [1], (actA baSetX))]) 17 12 (pl 0x47145145142081041041041041145145145145142081041041041041145145145145145104104104104104040001043) (fun _ => .again (bsLp _ L I)) (fun _ => bsPs S a b x 2 [okP (I = I ∧ "range_iterator" = "range_iterator" ∧ 0 < l ∧ 0 = 0 ∧ 0 = 0 ∧ 0 = 0)] 2)
    (fun o z => bsC w L S I (fun i => match i with | 0 => tokK z 0 0 | 1 => tokK z 0 1 | 2 => tokK z 0 2 | 3 => tokK z 0 3 | _ => tokK z 0 4) b t (Int.ofNat 2) u (some (valD z 0 3, valD z 0 4)) (bsArr a b x 2 2) (x + Int.ofNat 2) (l - 1)) 3 H (by exact byR w (fun w o => by kernel_rfl) (fun w o => by kernel_rfl)) (fun o => hp) (fun h' tk' o z H' k' _ => next h' tk' _ _ H' k')
theorem bs3n {w : World} {L S I : Addr} {kk : Nat → Tok} {b : Array UInt8} {t u : Tok} {iv jv : Value} {a : Array UInt8} {x l : Int} {A : Around} {Q : PySem.Fin → Shared → Prop} {E : Value → Shared → Prop} {s : Shared} (H : Hp (KK w) s.heap (bsC w L S I kk b t (Int.ofNat 3) u (none) a x l)) (hA : Fit A 12) (hx : 0 ≤ x) (hxl : x + (3 : Int) ≤ (b.size : Int)) (ha : a.size = b.size) (hb : b.size ≤ sizeLine) (hl : 0 < l)
  (next : ∀ h' tk' kk' ij', Hp (KK w) h' (bsC w L S I kk' b t (Int.ofNat 3) u ij' (bsArr a b x 3 3) (x + Int.ofNat 3) (l - 1)) → Kept s.heap h' (bsC w L S I kk b t (Int.ofNat 3) u (none) a x l) → Q (.again (bsLp w L I)) { s with heap := h', toks := tk' }) :
  wpC true (model PG w) A (denZ (bsLp w L I)) Q E s := by
  have hp : ∀ p ∈ bsPs S a b x 3 [okP (I = I ∧ "range_iterator" = "range_iterator" ∧ 0 < l ∧ 0 = 0 ∧ 0 = 0 ∧ 0 = 0)] 3, p := bsPs_ok hx hxl ha hb (fun p hp => by rw [List.mem_singleton.mp hp]; exact ⟨⟨rfl, rfl, hl, rfl, rfl, rfl⟩, rfl⟩) 3 (Nat.le_refl _)
  refine start_bot 12 hA rfl ?_
  exact go_o (kNoLimit _) ([(2, [2], (actA rgNextX)), (75, [], (extA addX)), (1, [], (extA byItemX)), (7, [], (extA addX)), (2, [], (extA subX)), (3, [], (extA subX)), (3, [1], (actA baSetX)), (30, [], (extA addX)), (1, [], (extA byItemX)), (7, [], (extA addX)), (2, [], (extA subX)), (3, [], (extA subX)), (3, [1], (actA baSetX)), (30, [], (extA addX)), (1, [], (extA byItemX)), (7, [], (extA addX)), (2, [], (extA subX)), (3, [], (extA subX)), (3, [1], (actA baSetX))]) 17 12 (pl 0x47145145142081041041041041145145145145142081041041041041145145145145142081041041041041145145145145145104104104104104040001043) (fun _ => .again (bsLp _ L I)) (fun _ => bsPs S a b x 3 [okP (I = I ∧ "range_iterator" = "range_iterator" ∧ 0 < l ∧ 0 = 0 ∧ 0 = 0 ∧ 0 = 0)] 3)
    (fun o z => bsC w L S I (fun i => match i with | 0 => tokK z 0 0 | 1 => tokK z 0 1 | 2 => tokK z 0 2 | 3 => tokK z 0 3 | _ => tokK z 0 4) b t (Int.ofNat 3) u (some (valD z 0 3, valD z 0 4)) (bsArr a b x 3 3) (x + Int.ofNat 3) (l - 1)) 3 H (by exact byR w (fun w o => by kernel_rfl) (fun w o => by kernel_rfl)) (fun o => hp) (fun h' tk' o z H' k' _ => next h' tk' _ _ H' k')
theorem bs3s {w : World} {L S I : Addr} {kk : Nat → Tok} {b : Array UInt8} {t u : Tok} {iv jv : Value} {a : Array UInt8} {x l : Int} {A : Around} {Q : PySem.Fin → Shared → Prop} {E : Value → Shared → Prop} {s : Shared} (H : Hp (KK w) s.heap (bsC w L S I kk b t (Int.ofNat 3) u (some (iv, jv)) a x l)) (hA : Fit A 12) (hx : 0 ≤ x) (hxl : x + (3 : Int) ≤ (b.size : Int)) (ha : a.size = b.size) (hb : b.size ≤ sizeLine) (hl : 0 < l)
  (next : ∀ h' tk' kk' ij', Hp (KK w) h' (bsC w L S I kk' b t (Int.ofNat 3) u ij' (bsArr a b x 3 3) (x + Int.ofNat 3) (l - 1)) → Kept s.heap h' (bsC w L S I kk b t (Int.ofNat 3) u (some (iv, jv)) a x l) → Q (.again (bsLp w L I)) { s with heap := h', toks := tk' }) :
  wpC true (model PG w) A (denZ (bsLp w L I)) Q E s := by
  have hp : ∀ p ∈ bsPs S a b x 3 [okP (I = I ∧ "range_iterator" = "range_iterator" ∧ 0 < l ∧ 0 = 0 ∧ 0 = 0 ∧ 0 = 0)] 3, p := bsPs_ok hx hxl ha hb (fun p hp => by rw [List.mem_singleton.mp hp]; exact ⟨⟨rfl, rfl, hl, rfl, rfl, rfl⟩, rfl⟩) 3 (Nat.le_refl _)
  refine start_bot 12 hA rfl ?_
  exact go_o (kNoLimit _) ([(2, [2], (actA rgNextX)), (75, [], (extA addX)), (1, [], (extA byItemX)), (7, [], (extA addX)), (2, [], (extA subX)), (3, [], (extA subX)), (3, [1], (actA baSetX)), (30, [], (extA addX)), (1, [], (extA byItemX)), (7, [], (extA addX)), (2, [], (extA subX)), (3, [], (extA subX)), (3, [1], (actA baSetX)), (30, [], (extA addX)), (1, [], (extA byItemX)), (7, [], (extA addX)), (2, [], (extA subX)), (3, [], (extA subX)), (3, [1], (actA baSetX))]) 17 12 (pl 0x47145145142081041041041041145145145145142081041041041041145145145145142081041041041041145145145145145104104104104104040001043) (fun _ => .again (bsLp _ L I)) (fun _ => bsPs S a b x 3 [okP (I = I ∧ "range_iterator" = "range_iterator" ∧ 0 < l ∧ 0 = 0 ∧ 0 = 0 ∧ 0 = 0)] 3)
    (fun o z => bsC w L S I (fun i => match i with | 0 => tokK z 0 0 | 1 => tokK z 0 1 | 2 => tokK z 0 2 | 3 => tokK z 0 3 | _ => tokK z 0 4) b t (Int.ofNat 3) u (some (valD z 0 3, valD z 0 4)) (bsArr a b x 3 3) (x + Int.ofNat 3) (l - 1)) 3 H (by exact byR w (fun w o => by kernel_rfl) (fun w o => by kernel_rfl)) (fun o => hp) (fun h' tk' o z H' k' _ => next h' tk' _ _ H' k')
theorem bs4n {w : World} {L S I : Addr} {kk : Nat → Tok} {b : Array UInt8} {t u : Tok} {iv jv : Value} {a : Array UInt8} {x l : Int} {A : Around} {Q : PySem.Fin → Shared → Prop} {E : Value → Shared → Prop} {s : Shared} (H : Hp (KK w) s.heap (bsC w L S I kk b t (Int.ofNat 4) u (none) a x l)) (hA : Fit A 12) (hx : 0 ≤ x) (hxl : x + (4 : Int) ≤ (b.size : Int)) (ha : a.size = b.size) (hb : b.size ≤ sizeLine) (hl : 0 < l)
  (next : ∀ h' tk' kk' ij', Hp (KK w) h' (bsC w L S I kk' b t (Int.ofNat 4) u ij' (bsArr a b x 4 4) (x + Int.ofNat 4) (l - 1)) → Kept s.heap h' (bsC w L S I kk b t (Int.ofNat 4) u (none) a x l) → Q (.again (bsLp w L I)) { s with heap := h', toks := tk' }) :
  wpC true (model PG w) A (denZ (bsLp w L I)) Q E s := by
  have hp : ∀ p ∈ bsPs S a b x 4 [okP (I = I ∧ "range_iterator" = "range_iterator" ∧ 0 < l ∧ 0 = 0 ∧ 0 = 0 ∧ 0 = 0)] 4, p := bsPs_ok hx hxl ha hb (fun p hp => by rw [List.mem_singleton.mp hp]; exact ⟨⟨rfl, rfl, hl, rfl, rfl, rfl⟩, rfl⟩) 4 (Nat.le_refl _)
  refine start_bot 12 hA rfl ?_
  exact go_o (kNoLimit _) ([(2, [2], (actA rgNextX)), (75, [], (extA addX)), (1, [], (extA byItemX)), (7, [], (extA addX)), (2, [], (extA subX)), (3, [], (extA subX)), (3, [1], (actA baSetX)), (30, [], (extA addX)), (1, [], (extA byItemX)), (7, [], (extA addX)), (2, [], (extA subX)), (3, [], (extA subX)), (3, [1], (actA baSetX)), (30, [], (extA addX)), (1, [], (extA byItemX)), (7, [], (extA addX)), (2, [], (extA subX)), (3, [], (extA subX)), (3, [1], (actA baSetX)), (30, [], (extA addX)), (1, [], (extA byItemX)), (7, [], (extA addX)), (2, [], (extA subX)), (3, [], (extA subX)), (3, [1], (actA baSetX))]) 17 12 (pl 0x47145145142081041041041041145145145145142081041041041041145145145145142081041041041041145145145145142081041041041041145145145145145104104104104104040001043) (fun _ => .again (bsLp _ L I)) (fun _ => bsPs S a b x 4 [okP (I = I ∧ "range_iterator" = "range_iterator" ∧ 0 < l ∧ 0 = 0 ∧ 0 = 0 ∧ 0 = 0)] 4)
    (fun o z => bsC w L S I (fun i => match i with | 0 => tokK z 0 0 | 1 => tokK z 0 1 | 2 => tokK z 0 2 | 3 => tokK z 0 3 | _ => tokK z 0 4) b t (Int.ofNat 4) u (some (valD z 0 3, valD z 0 4)) (bsArr a b x 4 4) (x + Int.ofNat 4) (l - 1)) 3 H (by exact byR w (fun w o => by kernel_rfl) (fun w o => by kernel_rfl)) (fun o => hp) (fun h' tk' o z H' k' _ => next h' tk' _ _ H' k')
theorem bs4s {w : World} {L S I : Addr} {kk : Nat → Tok} {b : Array UInt8} {t u : Tok} {iv jv : Value} {a : Array UInt8} {x l : Int} {A : Around} {Q : PySem.Fin → Shared → Prop} {E : Value → Shared → Prop} {s : Shared} (H : Hp (KK w) s.heap (bsC w L S I kk b t (Int.ofNat 4) u (some (iv, jv)) a x l)) (hA : Fit A 12) (hx : 0 ≤ x) (hxl : x + (4 : Int) ≤ (b.size : Int)) (ha : a.size = b.size) (hb : b.size ≤ sizeLine) (hl : 0 < l)
  (next : ∀ h' tk' kk' ij', Hp (KK w) h' (bsC w L S I kk' b t (Int.ofNat 4) u ij' (bsArr a b x 4 4) (x + Int.ofNat 4) (l - 1)) → Kept s.heap h' (bsC w L S I kk b t (Int.ofNat 4) u (some (iv, jv)) a x l) → Q (.again (bsLp w L I)) { s with heap := h', toks := tk' }) :
  wpC true (model PG w) A (denZ (bsLp w L I)) Q E s := by
  have hp : ∀ p ∈ bsPs S a b x 4 [okP (I = I ∧ "range_iterator" = "range_iterator" ∧ 0 < l ∧ 0 = 0 ∧ 0 = 0 ∧ 0 = 0)] 4, p := bsPs_ok hx hxl ha hb (fun p hp => by rw [List.mem_singleton.mp hp]; exact ⟨⟨rfl, rfl, hl, rfl, rfl, rfl⟩, rfl⟩) 4 (Nat.le_refl _)
  refine start_bot 12 hA rfl ?_
  exact go_o (kNoLimit _) ([(2, [2], (actA rgNextX)), (75, [], (extA addX)), (1, [], (extA byItemX)), (7, [], (extA addX)), (2, [], (extA subX)), (3, [], (extA subX)), (3, [1], (actA baSetX)), (30, [], (extA addX)), (1, [], (extA byItemX)), (7, [], (extA addX)), (2, [], (extA subX)), (3, [], (extA subX)), (3, [1], (actA baSetX)), (30, [], (extA addX)), (1, [], (extA byItemX)), (7, [], (extA addX)), (2, [], (extA subX)), (3, [], (extA subX)), (3, [1], (actA baSetX)), (30, [], (extA addX)), (1, [], (extA byItemX)), (7, [], (extA addX)), (2, [], (extA subX)), (3, [], (extA subX)), (3, [1], (actA baSetX))]) 17 12 (pl 0x47145145142081041041041041145145145145142081041041041041145145145145142081041041041041145145145145142081041041041041145145145145145104104104104104040001043) (fun _ => .again (bsLp _ L I)) (fun _ => bsPs S a b x 4 [okP (I = I ∧ "range_iterator" = "range_iterator" ∧ 0 < l ∧ 0 = 0 ∧ 0 = 0 ∧ 0 = 0)] 4)
    (fun o z => bsC w L S I (fun i => match i with | 0 => tokK z 0 0 | 1 => tokK z 0 1 | 2 => tokK z 0 2 | 3 => tokK z 0 3 | _ => tokK z 0 4) b t (Int.ofNat 4) u (some (valD z 0 3, valD z 0 4)) (bsArr a b x 4 4) (x + Int.ofNat 4) (l - 1)) 3 H (by exact byR w (fun w o => by kernel_rfl) (fun w o => by kernel_rfl)) (fun o => hp) (fun h' tk' o z H' k' _ => next h' tk' _ _ H' k')
theorem bs5n {w : World} {L S I : Addr} {kk : Nat → Tok} {b : Array UInt8} {t u : Tok} {iv jv : Value} {a : Array UInt8} {x l : Int} {A : Around} {Q : PySem.Fin → Shared → Prop} {E : Value → Shared → Prop} {s : Shared} (H : Hp (KK w) s.heap (bsC w L S I kk b t (Int.ofNat 5) u (none) a x l)) (hA : Fit A 12) (hx : 0 ≤ x) (hxl : x + (5 : Int) ≤ (b.size : Int)) (ha : a.size = b.size) (hb : b.size ≤ sizeLine) (hl : 0 < l)
  (next : ∀ h' tk' kk' ij', Hp (KK w) h' (bsC w L S I kk' b t (Int.ofNat 5) u ij' (bsArr a b x 5 5) (x + Int.ofNat 5) (l - 1)) → Kept s.heap h' (bsC w L S I kk b t (Int.ofNat 5) u (none) a x l) → Q (.again (bsLp w L I)) { s with heap := h', toks := tk' }) :
  wpC true (model PG w) A (denZ (bsLp w L I)) Q E s := by
  have hp : ∀ p ∈ bsPs S a b x 5 [okP (I = I ∧ "range_iterator" = "range_iterator" ∧ 0 < l ∧ 0 = 0 ∧ 0 = 0 ∧ 0 = 0)] 5, p := bsPs_ok hx hxl ha hb (fun p hp => by rw [List.mem_singleton.mp hp]; exact ⟨⟨rfl, rfl, hl, rfl, rfl, rfl⟩, rfl⟩) 5 (Nat.le_refl _)
  refine start_bot 12 hA rfl ?_
  exact go_o (kNoLimit _) ([(2, [2], (actA rgNextX)), (75, [], (extA addX)), (1, [], (extA byItemX)), (7, [], (extA addX)), (2, [], (extA subX)), (3, [], (extA subX)), (3, [1], (actA baSetX)), (30, [], (extA addX)), (1, [], (extA byItemX)), (7, [], (extA addX)), (2, [], (extA subX)), (3, [], (extA subX)), (3, [1], (actA baSetX)), (30, [], (extA addX)), (1, [], (extA byItemX)), (7, [], (extA addX)), (2, [], (extA subX)), (3, [], (extA subX)), (3, [1], (actA baSetX)), (30, [], (extA addX)), (1, [], (extA byItemX)), (7, [], (extA addX)), (2, [], (extA subX)), (3, [], (extA subX)), (3, [1], (actA baSetX)), (30, [], (extA addX)), (1, [], (extA byItemX)), (7, [], (extA addX)), (2, [], (extA subX)), (3, [], (extA subX)), (3, [1], (actA baSetX))]) 17 12 (pl 0x47145145142081041041041041145145145145142081041041041041145145145145142081041041041041145145145145142081041041041041145145145145142081041041041041145145145145145104104104104104040001043) (fun _ => .again (bsLp _ L I)) (fun _ => bsPs S a b x 5 [okP (I = I ∧ "range_iterator" = "range_iterator" ∧ 0 < l ∧ 0 = 0 ∧ 0 = 0 ∧ 0 = 0)] 5)
    (fun o z => bsC w L S I (fun i => match i with | 0 => tokK z 0 0 | 1 => tokK z 0 1 | 2 => tokK z 0 2 | 3 => tokK z 0 3 | _ => tokK z 0 4) b t (Int.ofNat 5) u (some (valD z 0 3, valD z 0 4)) (bsArr a b x 5 5) (x + Int.ofNat 5) (l - 1)) 3 H (by exact byR w (fun w o => by kernel_rfl) (fun w o => by kernel_rfl)) (fun o => hp) (fun h' tk' o z H' k' _ => next h' tk' _ _ H' k')
theorem bs5s {w : World} {L S I : Addr} {kk : Nat → Tok} {b : Array UInt8} {t u : Tok} {iv jv : Value} {a : Array UInt8} {x l : Int} {A : Around} {Q : PySem.Fin → Shared → Prop} {E : Value → Shared → Prop} {s : Shared} (H : Hp (KK w) s.heap (bsC w L S I kk b t (Int.ofNat 5) u (some (iv, jv)) a x l)) (hA : Fit A 12) (hx : 0 ≤ x) (hxl : x + (5 : Int) ≤ (b.size : Int)) (ha : a.size = b.size) (hb : b.size ≤ sizeLine) (hl : 0 < l)
  (next : ∀ h' tk' kk' ij', Hp (KK w) h' (bsC w L S I kk' b t (Int.ofNat 5) u ij' (bsArr a b x 5 5) (x + Int.ofNat 5) (l - 1)) → Kept s.heap h' (bsC w L S I kk b t (Int.ofNat 5) u (some (iv, jv)) a x l) → Q (.again (bsLp w L I)) { s with heap := h', toks := tk' }) :
  wpC true (model PG w) A (denZ (bsLp w L I)) Q E s := by
  have hp : ∀ p ∈ bsPs S a b x 5 [okP (I = I ∧ "range_iterator" = "range_iterator" ∧ 0 < l ∧ 0 = 0 ∧ 0 = 0 ∧ 0 = 0)] 5, p := bsPs_ok hx hxl ha hb (fun p hp => by rw [List.mem_singleton.mp hp]; exact ⟨⟨rfl, rfl, hl, rfl, rfl, rfl⟩, rfl⟩) 5 (Nat.le_refl _)
  refine start_bot 12 hA rfl ?_
  exact go_o (kNoLimit _) ([(2, [2], (actA rgNextX)), (75, [], (extA addX)), (1, [], (extA byItemX)), (7, [], (extA addX)), (2, [], (extA subX)), (3, [], (extA subX)), (3, [1], (actA baSetX)), (30, [], (extA addX)), (1, [], (extA byItemX)), (7, [], (extA addX)), (2, [], (extA subX)), (3, [], (extA subX)), (3, [1], (actA baSetX)), (30, [], (extA addX)), (1, [], (extA byItemX)), (7, [], (extA addX)), (2, [], (extA subX)), (3, [], (extA subX)), (3, [1], (actA baSetX)), (30, [], (extA addX)), (1, [], (extA byItemX)), (7, [], (extA addX)), (2, [], (extA subX)), (3, [], (extA subX)), (3, [1], (actA baSetX)), (30, [], (extA addX)), (1, [], (extA byItemX)), (7, [], (extA addX)), (2, [], (extA subX)), (3, [], (extA subX)), (3, [1], (actA baSetX))]) 17 12 (pl 0x47145145142081041041041041145145145145142081041041041041145145145145142081041041041041145145145145142081041041041041145145145145142081041041041041145145145145145104104104104104040001043) (fun _ => .again (bsLp _ L I)) (fun _ => bsPs S a b x 5 [okP (I = I ∧ "range_iterator" = "range_iterator" ∧ 0 < l ∧ 0 = 0 ∧ 0 = 0 ∧ 0 = 0)] 5)
    (fun o z => bsC w L S I (fun i => match i with | 0 => tokK z 0 0 | 1 => tokK z 0 1 | 2 => tokK z 0 2 | 3 => tokK z 0 3 | _ => tokK z 0 4) b t (Int.ofNat 5) u (some (valD z 0 3, valD z 0 4)) (bsArr a b x 5 5) (x + Int.ofNat 5) (l - 1)) 3 H (by exact byR w (fun w o => by kernel_rfl) (fun w o => by kernel_rfl)) (fun o => hp) (fun h' tk' o z H' k' _ => next h' tk' _ _ H' k')
end Mine
end PBS
section PLW
open PySem PySem.W PyProof.Rows PySem.Calls
set_option maxHeartbeats 0
namespace Mine
noncomputable def pieceS (x : Int) : Nat → List Nat
  | 0 => [] | 1 => [97] | 2 => [39] | 3 => [32] | 4 => [34] | 5 => [92] | 6 => [35, 55] | _ => [((x.fdiv 64).fmod 256).toNat]
noncomputable def wordS (x : Int) : List Nat := pieceS x (x.fmod 8).toNat ++ pieceS x ((x.fdiv 8).fmod 8).toNat
theorem fmod_range (x : Int) {m : Int} (hm : 0 < m) : 0 ≤ x.fmod m ∧ x.fmod m < m := ⟨Int.fmod_nonneg_of_pos x hm, Int.fmod_lt_of_pos x hm⟩
theorem pieceS_ok (x : Int) (j : Nat) : (∀ c ∈ pieceS x j, c < 256) ∧ (pieceS x j).length ≤ 2 := by
  have h := fmod_range (x.fdiv 64) (m := 256) (by decide)
  unfold pieceS
  split <;> simp
  omega
theorem wordS_ok (x : Int) : (∀ c ∈ wordS x, c < 256) ∧ (wordS x).length ≤ 4 := by
  have h1 := pieceS_ok x (x.fmod 8).toNat
  have h2 := pieceS_ok x ((x.fdiv 8).fmod 8).toNat
  unfold wordS
  refine ⟨fun c hc => ?_, by rw [List.length_append]; omega⟩
  rcases List.mem_append.mp hc with hc | hc
  · exact h1.1 c hc
  · exact h2.1 c hc
noncomputable def lwL (tk : Tok) (x : Int) : List Value := [.str "" tk, .str "a" (tk + 1), .str "'" (tk + 2), .str " " (tk + 3), .str "\"" (tk + 4), .str "\\" (tk + 5), .str "#7" (tk + 6), .str ⟨#[((x.fdiv 64).fmod 256).toNat]⟩ (tk + 11)]
theorem pick_ok (tk : Tok) (x : Int) {i : Int} (h : 0 ≤ i ∧ i < 8) : (lwL tk x)[i.toNat]? = some (.str ⟨⟨pieceS x i.toNat⟩⟩ (tokV ((lwL tk x).getD i.toNat .none))) := by
  obtain ⟨j, rfl⟩ := Int.eq_ofNat_of_zero_le h.1
  have hj : j < 8 := by omega
  show (lwL tk x)[j]? = some (.str ⟨⟨pieceS x j⟩⟩ (tokV ((lwL tk x).getD j .none)))
  match j, hj with
  | 0, _ => kernel_rfl
  | 1, _ => kernel_rfl
  | 2, _ => kernel_rfl
  | 3, _ => kernel_rfl
  | 4, _ => kernel_rfl
  | 5, _ => kernel_rfl
  | 6, _ => kernel_rfl
  | 7, _ => kernel_rfl
  | _ + 8, h => exact absurd h (by omega)
noncomputable def lwB (w : World) : List Stmt := stmtsOf (fdOf (KK w) 765)
noncomputable def lwEnv (w : World) (L : Addr) : Env := { scope := (fdOf (KK w) 765).scope, locals := L, globals := mainGlobals, cells := [], qual := "_law_word.<locals>.", func := some 765, code := .ref 764, frame := some L, builtins := builtinsNs }
noncomputable def lwF0 (P : Params) (k1 : Tok) (x : Int) (t : Tok) : Obj := frmO [ent P "x" k1 (.int x t)] 1
noncomputable def lwP (S : Addr) (tk : Tok) (x : Int) : List Prop := [okP (((⟨⟨pieceS x (x.fmod 8).toNat⟩⟩ : Str) ++ ⟨⟨pieceS x ((x.fdiv 8).fmod 8).toNat⟩⟩).length ≤ sizeLine),
  okP (S = S ∧ "list" = "list" ∧ 0 ≤ (x.fdiv 8).fmod 8 ∧ (x.fdiv 8).fmod 8 < 2 ^ 62 ∧ (lwL tk x)[((x.fdiv 8).fmod 8).toNat]? = some (.str ⟨⟨pieceS x ((x.fdiv 8).fmod 8).toNat⟩⟩ (tokV ((lwL tk x).getD ((x.fdiv 8).fmod 8).toNat .none)))),
  okP ((8 : Int) ≠ 0), okP ((8 : Int) ≠ 0 ∧ Builtin.divisionGoesByPylong x 8 = false),
  okP (S = S ∧ "list" = "list" ∧ 0 ≤ x.fmod 8 ∧ x.fmod 8 < 2 ^ 62 ∧ (lwL tk x)[(x.fmod 8).toNat]? = some (.str ⟨⟨pieceS x (x.fmod 8).toNat⟩⟩ (tokV ((lwL tk x).getD (x.fmod 8).toNat .none)))),
  okP ((8 : Int) ≠ 0), okP (0 ≤ (x.fdiv 64).fmod 256 ∧ (x.fdiv 64).fmod 256 ≤ 1114111), okP ((256 : Int) ≠ 0), okP ((64 : Int) ≠ 0 ∧ Builtin.divisionGoesByPylong x 64 = false)]
theorem str_app (a b : List Nat) : (⟨⟨a⟩⟩ : Str) ++ ⟨⟨b⟩⟩ = ⟨⟨a ++ b⟩⟩ := by
  show Str.mk _ = _
  simp
theorem lwP_ok (S : Addr) (tk : Tok) (x : Int) : ∀ p ∈ lwP S tk x, p := by
  have h8 := fmod_range x (m := 8) (by decide)
  have h88 := fmod_range (x.fdiv 8) (m := 8) (by decide)
  have h256 := fmod_range (x.fdiv 64) (m := 256) (by decide)
  have np8 : Builtin.divisionGoesByPylong x 8 = false := PyProof.noPylong_of_log2 (by decide +kernel)
  have np64 : Builtin.divisionGoesByPylong x 64 = false := PyProof.noPylong_of_log2 (by decide +kernel)
  intro p hp
  simp only [lwP, List.mem_cons, List.not_mem_nil, or_false] at hp
  rcases hp with rfl | rfl | rfl | rfl | rfl | rfl | rfl | rfl | rfl
  · refine ⟨?_, rfl⟩
    rw [str_app]
    show (wordS x).length ≤ _
    have := (wordS_ok x).2
    unfold sizeLine
    omega
  · exact ⟨⟨trivial, trivial, h88.1, by omega, pick_ok tk x h88⟩, rfl⟩
  · exact ⟨by decide, rfl⟩
  · exact ⟨⟨by decide, np8⟩, rfl⟩
  · exact ⟨⟨trivial, trivial, h8.1, by omega, pick_ok tk x h8⟩, rfl⟩
  · exact ⟨by decide, rfl⟩
  · exact ⟨⟨h256.1, by omega⟩, rfl⟩
  · exact ⟨by decide, rfl⟩
  · exact ⟨⟨by decide, np64⟩, rfl⟩
theorem lw_ctr {B : Bool} {w : World} {x : Int} {t : Tok} {s : Shared} {cs : Cells} (H : Hp (KK w) s.heap cs) :
  Ctr B PG w (.call (.ref 765) ⟨[.int x t], []⟩) 14 s (fun v h' => (∃ t', v = .str ⟨⟨wordS x⟩⟩ t') ∧ Kept s.heap h' []) := by
  have H0 : Hp (KK w) s.heap [] := H.sub (fun p hp => absurd hp List.not_mem_nil) List.nodup_nil
  refine ctr_def (kNoLimit w) 7 12 0 (pl 0x1041000).tail (body := lwB w) (env := lwEnv w (s.heap.objs.size + 0)) (fun z => [(s.heap.objs.size + 0, lwF0 w.params (tokK z 0 0) x t)]) 1 H0 (by kernel_rfl) (by kernel_rfl) fun A1 h1 tk1 z hA1 H1 k1 k1' => ?_
  generalize tokK z 0 0 = c0 at H1 k1'
  generalize hL : s.heap.objs.size + 0 = L at H1 k1' ⊢
  refine start_bot 12 hA1 (execsZ_eq _ _) ?_
  exact go_o (kNoLimit _) ([(16, [], (extA fdivX)), (2, [], (extA modX)), (1, [], (extA chrX)), (16, [], (extA modX)), (4, [1], (extA (pickX ⟨⟨pieceS x (x.fmod 8).toNat⟩⟩))), (6, [], (extA fdivX)), (2, [], (extA modX)), (4, [1], (extA (pickX ⟨⟨pieceS x ((x.fdiv 8).fmod 8).toNat⟩⟩))), (2, [], (orA addSX))]) 0 12 (pl 0x42082041082081041041000) (fun o => .ret (.str (⟨⟨pieceS x (x.fmod 8).toNat⟩⟩ ++ ⟨⟨pieceS x ((x.fdiv 8).fmod 8).toNat⟩⟩) (o 8).1)) (fun o => lwP (h1.objs.size + 0) tk1 x) (fun o z => []) 0 H1 (by exact byR w (fun w o => by kernel_rfl) (fun w o => by kernel_rfl)) (fun o => lwP_ok _ _ _)
    (fun h' tk' o z H' k' _ => ⟨h', tk', rfl, ⟨_, by rw [str_app]; rfl⟩, k1' _ k'⟩)
end Mine
end PLW
section PRD
open PySem PySem.W PyProof.Rows PySem.Calls
set_option maxHeartbeats 0
namespace Mine
variable {B : Bool}
noncomputable def rdB (w : World) : List Stmt := defBody (rdStmt w)
noncomputable def rdEnv (w : World) (T : Tp) (L : Addr) : Env := { scope := defScope (rdStmt w), locals := L, globals := mainGlobals, cells := [("width", T.wi), ("waiting", T.wa), ("taken", T.ta), ("octets", T.oc)], qual := T.q ++ ".<locals>.", func := some T.rd, code := .ref T.cd, frame := some L, builtins := builtinsNs }
noncomputable def rdFr (P : Params) (k1 k2 : Tok) : Obj := frmO [ent P "size" k1 (.int 1 k2)] 1
noncomputable def bopV : PySem.Expr → List PySem.Expr | .BoolOp _ vs _ => vs | _ => []
noncomputable def bopP : PySem.Expr → Pos | .BoolOp _ _ p => p | _ => default
noncomputable def cmpL : PySem.Expr → PySem.Expr | .Compare l _ _ _ => l | e => e
noncomputable def cmpR : PySem.Expr → PySem.Expr | .Compare _ _ [r] _ => r | e => e
noncomputable def cmpP : PySem.Expr → Pos | .Compare _ _ _ p => p | _ => default
noncomputable def rdT1 (w : World) : PySem.Expr := (bopV (ifT (rdB w))).getD 0 default
noncomputable def rdT2 (w : World) : PySem.Expr := (bopV (ifT (rdB w))).getD 1 default
noncomputable def rdC (w : World) (T : Tp) (L : Addr) (k1 k2 : Tok) (ts vs : List Value) (nt nw : Nat) : Cells := (L, rdFr w.params k1 k2) :: tpC w T ts vs nt nw
section
variable {w : World} {T : Tp} {L : Addr} {k1 k2 : Tok} {ts vs : List Value} {nt nw : Nat} {A : Around} {Q : Flow → Shared → Prop} {E : Value → Shared → Prop} {s : Shared}
theorem rd_first {Q : Bool → Shared → Prop} {whole : Sem Value} (H : Hp (KK w) s.heap (rdC w T L k1 k2 ts vs nt nw)) (hA : Fit A 12)
  (next : ∀ h' tk', Hp (KK w) h' (rdC w T L k1 k2 ts vs nt nw) → Kept s.heap h' (rdC w T L k1 k2 ts vs nt nw) → Q vs.isEmpty { s with heap := h', toks := tk' }) :
  wpC B (model PG w) A (isTrue (rdT1 w) (rdEnv w T L) whole) Q E s := by
  rw [show rdT1 w = .Compare (cmpL (rdT1 w)) [.Eq] [cmpR (rdT1 w)] (cmpP (rdT1 w)) by kernel_rfl]
  refine wpC_isTrue_Compare1 ?_ (by kernel_rfl)
  refine start_bot 12 hA (evalZ_eq _ _) ?_
  refine go_end (kNoLimit w) 2 12 (pl 0x47) (v := .ref T.wl) (fun _ => rdC w T L k1 k2 ts vs nt nw) 9 H (by kernel_rfl) (by kernel_rfl) (by kernel_rfl) fun h1 tk1 H1 c1 => ?_
  refine start_bot 12 hA (evalZ_eq _ _) ?_
  refine go_end (kNoLimit w) 2 12 (pl 0x1) (v := .ref (h1.objs.size + 0)) (fun _ => rdC w T L k1 k2 ts vs nt nw ++ [(h1.objs.size + 0, lstO [] 0)]) 10 H1 (by kernel_rfl) (by kernel_rfl) (by kernel_rfl) fun h2 tk2 H2 c2 => ?_
  have a1 : h2.get? T.wl = some (lstO vs nw) := H2.ce (T.wl, lstO vs nw) (List.mem_of_getElem? (i := 8) rfl)
  have a2 : h2.get? (h1.objs.size + 0) = some (lstO [] 0) := H2.ce (h1.objs.size + 0, lstO [] 0) (List.mem_of_getElem? (i := 9) rfl)
  have hu : A.units < cLine := by have := hA.2; omega
  have fin : ∀ b, b = vs.isEmpty → wpC B (model PG w) A (truthy (.bool b)) Q E { s with heap := h2, toks := tk2 } := fun b hb => by
    subst hb
    exact wpC_of <| wpAny_truthy_bool (next h2 tk2 H2.left (c1.trans c2 fun b _ hb => hb))
  cases vs with
  | nil => exact wpC_of <| SeqAt.eq_listAt (items := #[]) (items2 := #[]) (e := fun _ => true) ⟨_, a1, rfl, nw, rfl⟩ ⟨_, a2, rfl, 0, rfl⟩ rfl hu (fun j h => absurd h (Nat.not_lt_zero j)) (fin _ rfl)
  | cons v vs => exact wpC_of <| SeqAt.eq_list_lengthsAt (items := ⟨v :: vs⟩) (items2 := #[]) ⟨_, a1, rfl, nw, rfl⟩ ⟨_, a2, rfl, 0, rfl⟩ (by simp) hu (fin _ rfl)
theorem mul_ok5 {k : Nat} (hk : k ≤ 5) (i : Int) : IntMulOk i (k : Int) := by
  apply IntMulOk.of_right
  revert hk
  revert k
  decide +kernel
theorem rd_second {Q : Bool → Shared → Prop} (H : Hp (KK w) s.heap (rdC w T L k1 k2 ts vs nt nw)) (hA : Fit A 12) (hts : ts.length ≤ sizeLine) (hoc : T.oct.size ≤ sizeLine) (hk : T.k ≤ 5)
  (next : ∀ h' tk', Hp (KK w) h' (rdC w T L k1 k2 ts vs nt nw) → Kept s.heap h' (rdC w T L k1 k2 ts vs nt nw) → Q (decide (ts.length * T.k < T.oct.size)) { s with heap := h', toks := tk' }) :
  wpC B (model PG w) A (isTrue (rdT2 w) (rdEnv w T L) (eval (rdT2 w) (rdEnv w T L))) Q E s := by
  refine start_bot 12 hA (testZ_eq _ _) ?_
  have hm := mul_ok5 hk (Int.ofNat ts.length)
  have hv : @decide (Int.ofNat ts.length * (T.k : Int) < Int.ofNat T.oct.size) (PySem.W.Z.ltZ _ _) = decide (ts.length * T.k < T.oct.size) := by
    have : (Int.ofNat ts.length * (T.k : Int) < Int.ofNat T.oct.size) = (ts.length * T.k < T.oct.size) := by
      show ((ts.length : Int) * (T.k : Int) < (T.oct.size : Int)) = _
      rw [← Int.natCast_mul, Int.ofNat_lt]
    exact (@decide_eq_decide _ _ (PySem.W.Z.ltZ _ _) _).mpr (iff_of_eq this)
  rw [← hv] at next
  exact go_o (kNoLimit _) [(6, [7], (extA lenX)), (4, [], (extA mulX)), (6, [], (extA lenX))] 6 12 (pl 0x44000146000) (fun _ => @decide (Int.ofNat ts.length * (T.k : Int) < Int.ofNat T.oct.size) (PySem.W.Z.ltZ _ _)) (fun _ => [okP (T.oct.size ≤ sizeLine), okP (IntMulOk (Int.ofNat ts.length) (T.k : Int)), okP (T.tl = T.tl ∧ "list" = "list" ∧ (⟨ts⟩ : Array Value).size ≤ sizeLine)]) (fun _ _ => rdC w T L k1 k2 ts vs nt nw) 9 H (by exact byR w (fun w o => by kernel_rfl) (fun w o => by kernel_rfl)) (fun o p hp => by
    simp only [List.mem_cons, List.not_mem_nil, or_false] at hp
    rcases hp with rfl | rfl | rfl
    · exact ⟨hoc, rfl⟩
    · exact ⟨hm, rfl⟩
    · exact ⟨⟨by trivial, by trivial, hts⟩, rfl⟩) (fun h' tk' o z H' k' _ => next h' tk' H' k')
end
end Mine
end PRD
section PRE
open PySem PySem.W PyProof.Rows PySem.Calls
set_option maxHeartbeats 0
namespace Mine
variable {B : Bool}
noncomputable def seqN (cs : Cells) (i : Nat) : Nat := match cs[i]? with
  | some p => match p.2.data with
    | .seq _ n => n
    | _ => 0
  | none => 0
theorem and2 {M : Model} {A : Around} {E : Value → Shared → Prop} {s : Shared} {env : Env} {t1 t2 : PySem.Expr} {Q : Bool → Shared → Prop}
  (h : wpC B M A (isTrue t1 env (eval t1 env)) (fun b s₁ => if b then wpC B M A (isTrue t2 env (eval t2 env)) Q E s₁ else Q false s₁) E s) : wpC B M A (allTrue .And [t1, t2] env) Q E s := by
  simp only [allTrue]
  refine wpC_bind (wpC_mono h (fun b s₁ h₁ => ?_) fun _ _ e => e)
  cases b with
  | false => exact wpC_pure h₁
  | true =>
    refine wpC_bind (wpC_mono h₁ (fun b2 s₂ h₂ => ?_) fun _ _ e => e)
    cases b2 <;> exact wpC_pure h₂
section
variable {w : World} {T : Tp} {L : Addr} {k1 k2 : Tok} {ts vs : List Value} {nt nw : Nat} {A : Around} {Q : Flow → Shared → Prop} {E : Value → Shared → Prop} {s : Shared}
theorem rd_ret0 (H : Hp (KK w) s.heap (rdC w T L k1 k2 ts [] nt nw)) (hA : Fit A 12)
  (next : ∀ h' tk' t', Hp (KK w) h' (rdC w T L k1 k2 ts [] nt nw) → Kept s.heap h' (rdC w T L k1 k2 ts [] nt nw) → Q (.ret (.str ⟨#[]⟩ t')) { s with heap := h', toks := tk' }) :
  wpC B (model PG w) A (execs (rdB w).tail (rdEnv w T L)) Q E s := by
  refine start_bot 12 hA (execsZ_eq _ _) ?_
  exact go_end (kNoLimit _) 18 12 (pl 0x1249249247) (v := .ret (.str ⟨#[]⟩ (s.toks + 2))) (fun _ => rdC _ T L k1 k2 ts [] nt nw) 9 H (by kernel_rfl) (by kernel_rfl) (by kernel_rfl) (fun h' tk' H' k' => next h' tk' _ H' k')
theorem rd_ret1 {x : Str} {t : Tok} (H : Hp (KK w) s.heap (rdC w T L k1 k2 ts [.str x t] nt nw)) (hA : Fit A 12)
  (next : ∀ h' tk' nw', Hp (KK w) h' (rdC w T L k1 k2 ts [] nt nw') → Kept s.heap h' (rdC w T L k1 k2 ts [.str x t] nt nw) → Q (.ret (.str x t)) { s with heap := h', toks := tk' }) :
  wpC B (model PG w) A (execs (rdB w).tail (rdEnv w T L)) Q E s := by
  refine start_bot 12 hA (execsZ_eq _ _) ?_
  exact go_end (kNoLimit w) 36 12 (pl 0x1249249249249247249249247) (v := .ret (.str x t)) (fun z => rdC w T L k1 k2 ts [] nt (seqN z 8)) 9 H (by kernel_rfl) (by kernel_rfl) (by kernel_rfl) (fun h' tk' H' k' => next h' tk' _ H' k')
theorem rd_ret2 {x : Str} {t : Tok} {a : Value} (H : Hp (KK w) s.heap (rdC w T L k1 k2 ts [.str x t, a] nt nw)) (hA : Fit A 12)
  (next : ∀ h' tk' nw', Hp (KK w) h' (rdC w T L k1 k2 ts [a] nt nw') → Kept s.heap h' (rdC w T L k1 k2 ts [.str x t, a] nt nw) → Q (.ret (.str x t)) { s with heap := h', toks := tk' }) :
  wpC B (model PG w) A (execs (rdB w).tail (rdEnv w T L)) Q E s := by
  refine start_bot 12 hA (execsZ_eq _ _) ?_
  exact go_end (kNoLimit w) 36 12 (pl 0x1249249249249247249249247) (v := .ret (.str x t)) (fun z => rdC w T L k1 k2 ts [a] nt (seqN z 8)) 9 H (by kernel_rfl) (by kernel_rfl) (by kernel_rfl) (fun h' tk' H' k' => next h' tk' _ H' k')
theorem rd_ret3 {x : Str} {t : Tok} {a b : Value} (H : Hp (KK w) s.heap (rdC w T L k1 k2 ts [.str x t, a, b] nt nw)) (hA : Fit A 12)
  (next : ∀ h' tk' nw', Hp (KK w) h' (rdC w T L k1 k2 ts [a, b] nt nw') → Kept s.heap h' (rdC w T L k1 k2 ts [.str x t, a, b] nt nw) → Q (.ret (.str x t)) { s with heap := h', toks := tk' }) :
  wpC B (model PG w) A (execs (rdB w).tail (rdEnv w T L)) Q E s := by
  refine start_bot 12 hA (execsZ_eq _ _) ?_
  exact go_end (kNoLimit w) 36 12 (pl 0x1249249249249247249249247) (v := .ret (.str x t)) (fun z => rdC w T L k1 k2 ts [a, b] nt (seqN z 8)) 9 H (by kernel_rfl) (by kernel_rfl) (by kernel_rfl) (fun h' tk' H' k' => next h' tk' _ H' k')
theorem rd_ret4 {x : Str} {t : Tok} {a b c : Value} (H : Hp (KK w) s.heap (rdC w T L k1 k2 ts [.str x t, a, b, c] nt nw)) (hA : Fit A 12)
  (next : ∀ h' tk' nw', Hp (KK w) h' (rdC w T L k1 k2 ts [a, b, c] nt nw') → Kept s.heap h' (rdC w T L k1 k2 ts [.str x t, a, b, c] nt nw) → Q (.ret (.str x t)) { s with heap := h', toks := tk' }) :
  wpC B (model PG w) A (execs (rdB w).tail (rdEnv w T L)) Q E s := by
  refine start_bot 12 hA (execsZ_eq _ _) ?_
  exact go_end (kNoLimit w) 36 12 (pl 0x1249249249249247249249247) (v := .ret (.str x t)) (fun z => rdC w T L k1 k2 ts [a, b, c] nt (seqN z 8)) 9 H (by kernel_rfl) (by kernel_rfl) (by kernel_rfl) (fun h' tk' H' k' => next h' tk' _ H' k')
theorem rd_ret5 {x : Str} {t : Tok} {a b c d : Value} (H : Hp (KK w) s.heap (rdC w T L k1 k2 ts [.str x t, a, b, c, d] nt nw)) (hA : Fit A 12)
  (next : ∀ h' tk' nw', Hp (KK w) h' (rdC w T L k1 k2 ts [a, b, c, d] nt nw') → Kept s.heap h' (rdC w T L k1 k2 ts [.str x t, a, b, c, d] nt nw) → Q (.ret (.str x t)) { s with heap := h', toks := tk' }) :
  wpC B (model PG w) A (execs (rdB w).tail (rdEnv w T L)) Q E s := by
  refine start_bot 12 hA (execsZ_eq _ _) ?_
  exact go_end (kNoLimit w) 36 12 (pl 0x1249249249249247249249247) (v := .ret (.str x t)) (fun z => rdC w T L k1 k2 ts [a, b, c, d] nt (seqN z 8)) 9 H (by kernel_rfl) (by kernel_rfl) (by kernel_rfl) (fun h' tk' H' k' => next h' tk' _ H' k')
end
end Mine
end PRE
section PRF
open PySem PySem.W PyProof.Rows PySem.Calls
set_option maxHeartbeats 0
namespace Mine
variable {B : Bool}
section
variable {w : World} {T : Tp} {L : Addr} {k1 k2 : Tok} {ts vs : List Value} {nt nw : Nat} {A : Around} {Q : Flow → Shared → Prop} {E : Value → Shared → Prop} {s : Shared}
noncomputable def blk (T : Tp) (n : Nat) : Array UInt8 := KBy.picked T.oct (some (Int.ofNat n * (T.k : Int))) (some ((Int.ofNat n + 1) * (T.k : Int)))
theorem rf_take {rest : List Stmt} (H : Hp (KK w) s.heap (rdC w T L k1 k2 ts [] nt nw)) (hA : Fit A 12) (hts : ts.length ≤ sizeLine) (hoc : T.oct.size ≤ sizeLine) (hk : T.k ≤ 5)
  (next : ∀ h' tk' t', Hp (KK w) h' (rdC w T L k1 k2 (ts ++ [.bytes (blk T ts.length) t']) [] (nt + 1) nw) → Kept s.heap h' (rdC w T L k1 k2 ts [] nt nw) → wpC B (model PG w) A (execs rest (rdEnv w T L)) Q E { s with heap := h', toks := tk' }) :
  wpC B (model PG w) A (execs (hdS (ifB (rdB w)) :: rest) (rdEnv w T L)) Q E s := by
  have hm := mul_ok5 hk
  have hsz : (blk T ts.length).size ≤ sizeLine := Nat.le_trans (KBc.size_picked_le _ _ _) hoc
  refine execs_one (start_bot 12 hA (execsZ_eq _ _) ?_)
  exact go_o (kNoLimit _) [(17, [7], (extA lenX)), (4, [], (extA mulX)), (6, [7], (extA lenX)), (3, [], (extA addX)), (3, [], (extA mulX)), (2, [9], (orA slcX)), (1, [7], (actA appendA))] 1 12 (pl 0x1146000146000108208206) (fun _ => .next)
    (fun o => [okP (T.tl = T.tl ∧ "list" = "list" ∧ (⟨ts⟩ : Array Value).size ≤ sizeLine), okP (s.heap.objs.size + 0 = s.heap.objs.size + 0 ∧ "slice" = "slice" ∧ (blk T ts.length).size ≤ sizeLine), okP (IntMulOk (Int.ofNat ts.length + 1) (T.k : Int)), okP True, okP (T.tl = T.tl ∧ "list" = "list" ∧ (⟨ts⟩ : Array Value).size ≤ sizeLine), okP (IntMulOk (Int.ofNat ts.length) (T.k : Int)), okP (T.tl = T.tl ∧ "list" = "list" ∧ (⟨ts⟩ : Array Value).size ≤ sizeLine)])
    (fun o z => rdC w T L k1 k2 (ts ++ [.bytes (blk T ts.length) (o 5).1]) [] (nt + 1) nw) 9 H (by exact byR w (fun w o => by kernel_rfl) (fun w o => by kernel_rfl)) (fun o p hp => by
      simp only [List.mem_cons, List.not_mem_nil, or_false] at hp
      rcases hp with rfl | rfl | rfl | rfl | rfl | rfl | rfl
      · exact ⟨⟨by trivial, by trivial, hts⟩, rfl⟩
      · exact ⟨⟨by trivial, by trivial, hsz⟩, rfl⟩
      · exact ⟨hm _, rfl⟩
      · exact ⟨trivial, rfl⟩
      · exact ⟨⟨by trivial, by trivial, hts⟩, rfl⟩
      · exact ⟨hm _, rfl⟩
      · exact ⟨⟨by trivial, by trivial, hts⟩, rfl⟩) (fun h' tk' o z H' k' _ => next h' tk' (o 5).1 H' k')
end
end Mine
end PRF
section PBT
open PySem PySem.W PyProof.Rows PySem.Calls
set_option maxHeartbeats 0
namespace Mine
noncomputable def rev (k p : Nat) : Nat := p / k * k + (k - 1 - p % k)
noncomputable def swapB (k : Nat) (b : Array UInt8) : Array UInt8 := ((List.range b.size).map fun p => b.getD (rev k p) 0).toArray
theorem swapB_size (k : Nat) (b : Array UInt8) : (swapB k b).size = b.size := by simp [swapB]
noncomputable def DoneTo (k : Nat) (a b : Array UInt8) (x : Nat) : Prop := ∀ p, p < x → a[p]? = some (b.getD (rev k p) 0)
theorem bsArr_get (a b : Array UInt8) (x k : Nat) (hx : x + k ≤ a.size) : ∀ j, j ≤ k → ∀ p, (bsArr a b (x : Int) k j)[p]? = if x + k - j ≤ p ∧ p < x + k then some (b.getD (x + (x + k - 1 - p)) 0) else a[p]?
  | 0, _, p => by
    rw [if_neg (by omega)]; rfl
  | j + 1, hj, p => by
    have ih := bsArr_get a b x k hx j (by omega) p
    have hI : (bsI (x : Int) k j).toNat = x + k - 1 - j := by unfold bsI; show ((x : Int) + (k : Int) - 1 - (j : Int)).toNat = _; omega
    have hV : (bsV b (x : Int) j).toNat.toUInt8 = b.getD (x + j) 0 := by
      unfold bsV
      have e : ((x : Int) + Int.ofNat j).toNat = x + j := by show ((x : Int) + (j : Int)).toNat = _; omega
      rw [e]
      show (b.getD (x + j) 0).toNat.toUInt8 = _
      simp
    rw [bsArr, hI, hV, Array.getElem?_setIfInBounds, bsArr_size]
    by_cases hp : x + k - 1 - j = p
    · rw [if_pos hp, if_pos (by omega), if_pos (by omega)]
      rw [show x + k - 1 - p = j by omega]
    · rw [if_neg hp, ih]
      by_cases h2 : x + k - j ≤ p ∧ p < x + k
      · rw [if_pos h2, if_pos (by omega)]
      · rw [if_neg h2, if_neg (by omega)]
theorem done_turn {k : Nat} {a b : Array UInt8} {q : Nat} (hk : 0 < k) (hx : q * k + k ≤ a.size) (h : DoneTo k a b (q * k)) : DoneTo k (bsArr a b ((q * k : Nat) : Int) k k) b (q * k + k) := by
  intro p hp
  rw [bsArr_get a b (q * k) k hx k (Nat.le_refl _)]
  by_cases h1 : q * k + k - k ≤ p ∧ p < q * k + k
  · rw [if_pos h1]
    congr 2
    obtain ⟨d, rfl⟩ : ∃ d, p = q * k + d := ⟨p - q * k, by omega⟩
    have hd : d < k := by omega
    unfold rev
    rw [Nat.mul_comm q k, Nat.mul_add_div hk, Nat.mul_add_mod, Nat.div_eq_of_lt hd, Nat.mod_eq_of_lt hd, Nat.add_zero, Nat.mul_comm k q]
    omega
  · rw [if_neg h1]
    exact h p (by omega)
theorem done_all {k : Nat} {a b : Array UInt8} (hs : a.size = b.size) (h : DoneTo k a b b.size) : a = swapB k b := by
  apply Array.ext_getElem?
  intro p
  by_cases hp : p < b.size
  · rw [h p hp]
    simp [swapB, hp]
  · rw [Array.getElem?_eq_none (by omega), Array.getElem?_eq_none (by rw [swapB_size]; omega)]
noncomputable def bsF0 (P : Params) (k1 k2 : Tok) (b : Array UInt8) (t : Tok) (k : Int) (u : Tok) : Obj := frmO [ent P "data" k1 (.bytes b t), ent P "width" k2 (.int k u)] 2
section
variable {w : World} {L S I : Addr} {kk : Nat → Tok} {b : Array UInt8} {t u : Tok} {a : Array UInt8} {x : Int} {k : Int} {A : Around} {Q : PySem.Fin → Shared → Prop} {E : Value → Shared → Prop} {s : Shared}
theorem bs_end {ij : Option (Value × Value)} (H : Hp (KK w) s.heap (bsC w L S I kk b t k u ij a x 0)) (hA : Fit A 12)
  (next : ∀ h' tk', Hp (KK w) h' (bsC w L S I kk b t k u ij a x 0) → Kept s.heap h' (bsC w L S I kk b t k u ij a x 0) → Q (.again (.block [] (bsEnv w L))) { s with heap := h', toks := tk' }) : wpC true (model PG w) A (denZ (bsLp w L I)) Q E s := by
  refine start_bot 12 hA rfl ?_
  rcases ij with _ | ⟨i, j⟩
  all_goals
    exact go_o (B := true) (kNoLimit _) [] 14 12 (pl 0x11430c30c3) (fun _ => .again (.block [] (bsEnv _ L))) (fun _ => []) (fun o z => bsC _ L S I kk b t k u _ a x 0) 3 H (by exact byR w (fun w o => by kernel_rfl) (fun w o => by kernel_rfl)) (fun o p hp => absurd hp List.not_mem_nil) (fun h' tk' o z H' k' _ => next h' tk' H' k')
end
inductive BsI (w : World) (L S I : Addr) (b : Array UInt8) (t u : Tok) (k m : Nat) (h0 : Heap) (C0 : Cells) (n : Nat) (h : Heap) : Prop
  | mk (kk' : Nat → Tok) (ij : Option (Value × Value)) (a : Array UInt8) (q : Nat) (hn : n = m - q) (hq : q ≤ m) (ha : a.size = b.size) (hd : DoneTo k a b (q * k)) (H : Hp (KK w) h (bsC w L S I kk' b t (Int.ofNat k) u ij a ((q * k : Nat) : Int) (((m - q : Nat) : Nat) : Int))) (kp : Kept h0 h C0)
inductive BsPost (w : World) (L S I : Addr) (b : Array UInt8) (t u : Tok) (k : Nat) (h0 : Heap) (C0 : Cells) (f : Flow) (h : Heap) : Prop
  | mk (hf : f = .next) (kk' : Nat → Tok) (ij : Option (Value × Value)) (H : Hp (KK w) h (bsC w L S I kk' b t (Int.ofNat k) u ij (swapB k b) (Int.ofNat b.size) 0)) (kp : Kept h0 h C0)
theorem bs_loop {w : World} {L S I : Addr} {kk : Nat → Tok} {b : Array UInt8} {t u : Tok} {k m : Nat} {s : Shared} (hk : k = 2 ∨ k = 3 ∨ k = 4 ∨ k = 5) (hm : b.size = m * k) (hb : b.size ≤ sizeLine)
  (H : Hp (KK w) s.heap (bsC w L S I kk b t (Int.ofNat k) u none (Array.replicate b.size 0) 0 (Int.ofNat m))) :
  CtrF true PG w (bsLp w L I) 13 s (BsPost w L S I b t u k s.heap (bsC w L S I kk b t (Int.ofNat k) u none (Array.replicate b.size 0) 0 (Int.ofNat m))) := by
  have hk0 : 0 < k := by omega
  refine ctr_loop (s := s) rfl rfl 12 (BsI w L S I b t u k m s.heap (bsC w L S I kk b t (Int.ofNat k) u none (Array.replicate b.size 0) 0 (Int.ofNat m))) ?_ m
    ⟨kk, none, _, 0, rfl, Nat.zero_le _, Array.size_replicate, fun p hp => by omega, by rw [Nat.zero_mul]; exact H, Kept.refl _ _⟩
  rintro n h tk A hA ⟨kk1, ij, a, q, rfl, hq, ha, hd, H1, k1⟩
  by_cases hlt : q < m
  · have hx : (q * k + k) ≤ b.size := by
      rw [hm, ← Nat.succ_mul]
      exact Nat.mul_le_mul_right k hlt
    have fin : ∀ h' tk' kk' ij', Hp (KK w) h' (bsC w L S I kk' b t (Int.ofNat k) u ij' (bsArr a b ((q * k : Nat) : Int) k k) (((q * k : Nat) : Int) + Int.ofNat k) ((((m - q : Nat) : Nat) : Int) - 1)) → Kept h h' (bsC w L S I kk1 b t (Int.ofNat k) u ij a ((q * k : Nat) : Int) (((m - q : Nat) : Nat) : Int)) →
        ∃ h2 tk2, ({ s with heap := h', toks := tk' } : Shared) = { s with heap := h2, toks := tk2 } ∧ ((bsLp w L I = bsLp w L I ∧ ∃ m', m' < m - q ∧ BsI w L S I b t u k m s.heap (bsC w L S I kk b t (Int.ofNat k) u none (Array.replicate b.size 0) 0 (Int.ofNat m)) m' h2) ∨
          ∃ env, bsLp w L I = .block [] env ∧ BsPost w L S I b t u k s.heap (bsC w L S I kk b t (Int.ofNat k) u none (Array.replicate b.size 0) 0 (Int.ofNat m)) .next h2) := by
      intro h' tk' kk' ij' H' k'
      refine ⟨h', tk', rfl, .inl ⟨rfl, m - (q + 1), by omega, kk', ij', bsArr a b ((q * k : Nat) : Int) k k, q + 1, rfl, hlt, by rw [bsArr_size]; exact ha, ?_, ?_, ?_⟩⟩
      · rw [Nat.succ_mul]
        exact done_turn hk0 (by omega) hd
      · have e1 : ((q * k : Nat) : Int) + Int.ofNat k = (((q + 1) * k : Nat) : Int) := by
          rw [Nat.succ_mul]; show ((q * k : Nat) : Int) + (k : Int) = _; omega
        have e2 : (((m - q : Nat) : Nat) : Int) - 1 = (((m - (q + 1) : Nat) : Nat) : Int) := by omega
        rw [← e1, ← e2]
        exact H'
      · exact k1.trans k' fun b _ hb => hb
    have hx0 : (0 : Int) ≤ ((q * k : Nat) : Int) := Int.natCast_nonneg _
    have hxl : ((q * k : Nat) : Int) + (k : Int) ≤ (b.size : Int) := by omega
    have hl0 : (0 : Int) < (((m - q : Nat) : Nat) : Int) := by omega
    rcases hk with rfl | rfl | rfl | rfl <;> rcases ij with _ | ⟨i, j⟩
    · exact bs2n (iv := .none) (jv := .none) (s := { s with heap := h, toks := tk }) H1 hA hx0 hxl ha hb hl0 fin
    · exact bs2s (s := { s with heap := h, toks := tk }) H1 hA hx0 hxl ha hb hl0 fin
    · exact bs3n (iv := .none) (jv := .none) (s := { s with heap := h, toks := tk }) H1 hA hx0 hxl ha hb hl0 fin
    · exact bs3s (s := { s with heap := h, toks := tk }) H1 hA hx0 hxl ha hb hl0 fin
    · exact bs4n (iv := .none) (jv := .none) (s := { s with heap := h, toks := tk }) H1 hA hx0 hxl ha hb hl0 fin
    · exact bs4s (s := { s with heap := h, toks := tk }) H1 hA hx0 hxl ha hb hl0 fin
    · exact bs5n (iv := .none) (jv := .none) (s := { s with heap := h, toks := tk }) H1 hA hx0 hxl ha hb hl0 fin
    · exact bs5s (s := { s with heap := h, toks := tk }) H1 hA hx0 hxl ha hb hl0 fin
  · have hqm : q = m := by omega
    subst hqm
    rw [Nat.sub_self] at H1
    refine bs_end (s := { s with heap := h, toks := tk }) H1 hA fun h' tk' H' k' => ⟨h', tk', rfl, .inr ⟨_, rfl, rfl, kk1, ij, ?_, k1.trans k' fun b _ hb => hb⟩⟩
    rw [← hm] at H' hd
    rw [← done_all ha hd]
    exact H'


theorem ediv_le {n k : Nat} (hk : 0 < k) : (((n : Int) - 0 - 1) / (k : Int)) ≤ (n : Int) := by
  have h1 : ((n : Int) - 0 - 1) / (k : Int) ≤ ((n : Int)) / (k : Int) := Int.ediv_le_ediv (by omega) (by omega)
  have h2 : ((n : Int)) / (k : Int) = ((n / k : Nat) : Int) := rfl
  have h3 := Nat.div_le_self n k
  omega
theorem small_range {n k : Nat} (hk : 0 < k) (hk5 : k ≤ 5) (hn : n ≤ sizeLine) : Builtin.Range.small 0 (Int.ofNat n) (Int.ofNat k) = true := by
  rw [sizeLine_eq] at hn
  have hs : Builtin.Range.rangeSize 0 (Int.ofNat n) (Int.ofNat k) = if (0 : Int) < (n : Int) then ((n : Int) - 0 - 1) / (k : Int) + 1 else 0 := by
    unfold Builtin.Range.rangeSize
    rw [if_pos (show (Int.ofNat k) > 0 by show (k : Int) > 0; omega)]
    rfl
  have hd := ediv_le (n := n) hk
  have hkc : Int.ofNat k = (k : Int) := rfl
  have hnc : Int.ofNat n = (n : Int) := rfl
  have hr : 0 ≤ Builtin.Range.rangeSize 0 (Int.ofNat n) (Int.ofNat k) ∧ Builtin.Range.rangeSize 0 (Int.ofNat n) (Int.ofNat k) ≤ (n : Int) + 1 := by
    rw [hs]
    by_cases hn0 : (0 : Int) < (n : Int)
    · rw [if_pos hn0]
      have : 0 ≤ ((n : Int) - 0 - 1) / (k : Int) := Int.ediv_nonneg (by omega) (by omega)
      omega
    · rw [if_neg hn0]; omega
  unfold Builtin.Range.small
  generalize Builtin.Range.rangeSize 0 (Int.ofNat n) (Int.ofNat k) = r at hr
  simp only [Builtin.Range.rangeFitsLong, hkc, hnc, Bool.and_eq_true, Bool.or_eq_true, decide_eq_true_eq, beq_iff_eq]
  rw [if_pos (show (k : Int) > 0 by omega)]
  simp only [decide_eq_true_eq, Bool.and_eq_true]
  omega
theorem range_full {k m : Nat} (hk : 0 < k) : Builtin.Range.rangeSize 0 (Int.ofNat (m * k)) (Int.ofNat k) = Int.ofNat m := by
  unfold Builtin.Range.rangeSize
  rw [if_pos (show (Int.ofNat k) > 0 by show (k : Int) > 0; omega)]
  show (if (0 : Int) < ((m * k : Nat) : Int) then (((m * k : Nat) : Int) - 0 - 1) / (k : Int) + 1 else 0) = (m : Int)
  cases m with
  | zero => rw [Nat.zero_mul]; rfl
  | succ m =>
    have h1 : 0 < (m + 1) * k := Nat.mul_pos (by omega) hk
    rw [if_pos (by omega)]
    have e : (((m + 1) * k : Nat) : Int) - 0 - 1 = ((k - 1 : Nat) : Int) + (m : Int) * (k : Int) := by
      rw [Nat.succ_mul, Int.natCast_add, Int.natCast_mul]; omega
    rw [e, Int.add_mul_ediv_right _ _ (by omega), Int.ediv_eq_zero_of_lt (by omega) (by omega)]
    omega
theorem noPylong5 (x : Int) {k : Nat} (hk5 : k ≤ 5) : Builtin.divisionGoesByPylong x (Int.ofNat k) = false := by
  apply PyProof.noPylong_of_log2
  revert hk5
  revert k
  decide +kernel
noncomputable def tokF (cs : Cells) (i j : Nat) : Tok := match cs[i]? with
  | some p => match p.2.data with
    | .fields vs => match vs[j]? with
      | some v => tokV v
      | none => 0
    | _ => 0
  | none => 0
noncomputable def bsMp (L : Addr) (N : Nat) (b : Array UInt8) (k : Nat) : List Prop := [okP (N + 1 = N + 1 ∧ "range" = "range" ∧ Builtin.Range.small 0 (Int.ofNat b.size) (Int.ofNat k) = true),
  okP ("range" = "range" ∧ Int.ofNat k ≠ 0 ∧ Builtin.divisionGoesByPylong (Int.ofNat b.size - 0) (Int.ofNat k) = false), okP (b.size ≤ sizeLine),
  okP (N + 0 = N + 0 ∧ "bytearray" = "bytearray" ∧ 0 ≤ Int.ofNat b.size ∧ (Int.ofNat b.size).toNat ≤ sizeLine), okP ("bytearray" = "bytearray"), okP (b.size ≤ sizeLine)]
theorem bs_ctr {w : World} {b : Array UInt8} {t u : Tok} {k m : Nat} {s : Shared} {cs : Cells} (hk : k = 2 ∨ k = 3 ∨ k = 4 ∨ k = 5) (hm : b.size = m * k) (hb : b.size ≤ sizeLine) (H : Hp (KK w) s.heap cs) :
  Ctr true PG w (.call (.ref 51) ⟨[.bytes b t, .int (Int.ofNat k) u], []⟩) 18 s (fun v h' => (∃ t', v = .bytes (swapB k b) t') ∧ Kept s.heap h' []) := by
  have H0 : Hp (KK w) s.heap [] := H.sub (fun p hp => absurd hp List.not_mem_nil) List.nodup_nil
  refine ctr_def (kNoLimit w) 11 16 0 (pl 0x1041041000).tail (body := bsB w) (env := bsEnv w (s.heap.objs.size + 0)) (fun z => [(s.heap.objs.size + 0, bsF0 w.params (tokK z 0 0) (tokK z 0 1) b t (Int.ofNat k) u)]) 1 H0 (by kernel_rfl) (by kernel_rfl) fun A1 h1 tk1 z hA1 H1 k1 k1' => ?_
  generalize tokK z 0 0 = c0 at H1 k1'
  generalize tokK z 0 1 = c1 at H1 k1'
  generalize hL : s.heap.objs.size + 0 = L at H1 k1' ⊢
  have k2' : ∀ h2, Kept h1 h2 [(L, bsF0 w.params c0 c1 b t (Int.ofNat k) u)] → Kept s.heap h2 [] := k1'
  clear k1'
  have hk0 : 0 < k := by omega
  have hk5 : k ≤ 5 := by omega
  have hP : ∀ o : Nat → Tok × Nat, ∀ p ∈ bsMp L h1.objs.size b k, p := fun o p hp => by
    simp only [bsMp, List.mem_cons, List.not_mem_nil, or_false] at hp
    rcases hp with rfl | rfl | rfl | rfl | rfl | rfl
    · exact ⟨⟨trivial, trivial, small_range hk0 hk5 hb⟩, rfl⟩
    · exact ⟨⟨trivial, by show ¬ ((k : Int) = 0); omega, noPylong5 _ hk5⟩, rfl⟩
    · exact ⟨hb, rfl⟩
    · exact ⟨⟨trivial, trivial, Int.natCast_nonneg _, hb⟩, rfl⟩
    · exact ⟨trivial, rfl⟩
    · exact ⟨hb, rfl⟩
  refine start_bot 16 hA1 (execsZ_eq _ _) ?_
  refine go_oc (kNoLimit _) [(10, [], (extA lenX)), (4, [], (newA baNewX)), (2, [1], (actA baInitX)), (20, [], (extA lenX)), (6, [], (newA rgNewX)), (13, [2], (newA rgIterX))] 1 16 (pl 0x11030c30c30c1040000001042081000000) (fun _ => bsLp w L (h1.objs.size + 2)) (fun _ => bsMp L h1.objs.size b k)
    (fun o z => [(L, bsF w.params (fun i => tokK z 0 i) b t (Int.ofNat k) u (h1.objs.size + 0) none), (h1.objs.size + 0, baO (Array.replicate b.size 0)), (h1.objs.size + 1, ⟨.type "range", none, .fields #[.int 0 (tokF z 2 0), .int (Int.ofNat b.size) (tokF z 2 1), .int (Int.ofNat k) u], #[]⟩), (h1.objs.size + 2, rgIt 0 (Builtin.Range.rangeSize 0 (Int.ofNat b.size) (Int.ofNat k)) (Int.ofNat k))]) 4 16 H1 (by exact byR w (fun w o => by kernel_rfl) (fun w o => by kernel_rfl)) hP fun h2 tk2 o z H2 k2 k3 hc => ?_
  have H3 := Hp.sub (cs' := bsC w L (h1.objs.size + 0) (h1.objs.size + 2) (fun i => tokK z 0 i) b t (Int.ofNat k) u none (Array.replicate b.size 0) 0 (Int.ofNat m)) H2 (fun p hp => by
    rw [hm, range_full hk0, ← hm]
    simp only [bsC, List.mem_cons, List.not_mem_nil, or_false] at hp ⊢
    rcases hp with rfl | rfl | rfl
    · exact .inl rfl
    · exact .inr (.inl rfl)
    · exact .inr (.inr (.inr rfl))) (by
    have := H2.nd
    simp only [bsC, List.map_cons, List.map_nil, List.nodup_cons, List.mem_cons, List.not_mem_nil, or_false, not_or, not_false_eq_true, and_true, List.nodup_nil] at this ⊢
    exact ⟨⟨this.1.1, this.1.2.2⟩, this.2.1.2⟩)
  have k4 : ∀ h4, Kept h2 h4 (bsC w L (h1.objs.size + 0) (h1.objs.size + 2) (fun i => tokK z 0 i) b t (Int.ofNat k) u none (Array.replicate b.size 0) 0 (Int.ofNat m)) → Kept s.heap h4 [] := fun h4 k => k2' _ (k3 _ (k.more fun b hb => by
    simp only [bsC, List.map_cons, List.map_nil, List.mem_cons, List.not_mem_nil, or_false] at hb ⊢
    rcases hb with rfl | rfl | rfl
    · exact .inl rfl
    · exact .inr (.inl rfl)
    · exact .inr (.inr (.inr rfl))))
  refine callF_ok hc (CtrF.mono (bs_loop hk hm hb H3) (by omega)) fun f h5 tk5 hf => ?_
  obtain ⟨rfl, kk', ij, H5, k5⟩ := hf
  clear hc
  rcases ij with _ | ⟨i, j⟩
  · exact go_o (kNoLimit _) [(9, [1], (extA byNewX))] 5 16 (pl 0x41000) (fun _ => .ret (.bytes (swapB k b) tk5)) (fun _ => [okP (h1.objs.size + 0 = h1.objs.size + 0 ∧ "bytes" = "bytes" ∧ "bytearray" = "bytearray" ∧ (swapB k b).size ≤ sizeLine)]) (fun o z => []) 0 H5 (by exact byR w (fun w o => by kernel_rfl) (fun w o => by kernel_rfl))
      (fun o p hp => by rw [List.mem_singleton.mp hp]; exact ⟨⟨rfl, rfl, rfl, by rw [swapB_size]; exact hb⟩, rfl⟩) (fun h6 tk6 o z H6 k6 _ => ⟨h6, tk6, rfl, ⟨_, rfl⟩, k4 _ (k5.trans k6 fun b _ hb => hb)⟩)
  · exact go_o (kNoLimit _) [(9, [1], (extA byNewX))] 5 16 (pl 0x41000) (fun _ => .ret (.bytes (swapB k b) tk5)) (fun _ => [okP (h1.objs.size + 0 = h1.objs.size + 0 ∧ "bytes" = "bytes" ∧ "bytearray" = "bytearray" ∧ (swapB k b).size ≤ sizeLine)]) (fun o z => []) 0 H5 (by exact byR w (fun w o => by kernel_rfl) (fun w o => by kernel_rfl))
      (fun o p hp => by rw [List.mem_singleton.mp hp]; exact ⟨⟨rfl, rfl, rfl, by rw [swapB_size]; exact hb⟩, rfl⟩) (fun h6 tk6 o z H6 k6 _ => ⟨h6, tk6, rfl, ⟨_, rfl⟩, k4 _ (k5.trans k6 fun b _ hb => hb)⟩)
end Mine
end PBT
section PRG
open PySem PySem.W PyProof.Rows PySem.Calls
set_option maxHeartbeats 0
namespace Mine
noncomputable def callA : PySem.Expr → List PySem.Expr | .Call _ a _ _ => a | _ => []
noncomputable def exprS : Stmt → PySem.Expr | .Expr e _ => e | _ => default
noncomputable def lcEnv (e : PySem.Expr) (env : Env) (cells : List (Str × Addr)) (a : Addr) : Env := { scope := lcScope e, locals := a, globals := env.globals, cells := cells, qual := env.qual, func := none, code := env.code, frame := env.frame, builtins := env.builtins }
noncomputable def rdE (w : World) : PySem.Expr := (callA (exprS (hdS (ifB (rdB w)).tail))).getD 0 default
noncomputable def rdLc (w : World) (T : Tp) (L I C F : Addr) : Code := .compStart (rdE w) 0 (.ref I) (.ref C) (lcEnv (rdE w) (rdEnv w T L) [] F)
noncomputable def byIt (b : Array UInt8) (t : Tok) : Obj := ⟨.type "bytes_iterator", none, .fields #[.bytes b t, .int 0 0], #[]⟩
noncomputable def dicE : Obj := ⟨.type "dict", none, .dict #[] 0, #[]⟩
noncomputable def octD (P : Params) (k : Tok) (v : Value) (n : Nat) : Obj := ⟨.type "dict", none, .dict #[ent P "octet" k v] n, #[]⟩
noncomputable def objZ (cs : Cells) (i : Nat) : Obj := match cs[i]? with | some p => p.2 | none => default
noncomputable def epZ (cs : Cells) (i : Nat) : Nat := match cs[i]? with
  | some p => match p.2.data with
    | .dict _ n => n
    | _ => 0
  | none => 0
noncomputable def sgn (cs : List Nat) (ts : List Tok) : List Value := List.zipWith (fun c t => Value.str ⟨#[c]⟩ t) cs ts
inductive RcPost (w : World) (I C F : Addr) (cs : List Nat) (h0 : Heap) (cs0 : Cells) (f : Flow) (h : Heap) : Prop
  | mk (hf : f = .next) (it : Obj) (ts : List Tok) (n : Nat) (k : Tok) (v : Value) (ep : Nat) (hl : ts.length = cs.length) (H : Hp (KK w) h [(I, it), (C, lstO (sgn cs ts) n), (F, octD w.params k v ep)]) (q : Kept h0 h cs0)
theorem u8_ok (c : UInt8) : okP (0 ≤ Int.ofNat c.toNat ∧ Int.ofNat c.toNat ≤ 1114111) := by
  have := c.toNat_lt
  exact ⟨⟨Int.natCast_nonneg _, by show ((c.toNat : Nat) : Int) ≤ 1114111; omega⟩, rfl⟩

theorem rc2 {w : World} {T : Tp} {L I C F : Addr} {t : Tok} {s : Shared} {c0 c1 : UInt8} (H : Hp (KK w) s.heap [(I, byIt ⟨[c0, c1]⟩ t), (C, lstO [] 0), (F, dicE)]) :
  CtrF true PG w (rdLc w T L I C F) 14 s (RcPost w I C F [c0.toNat, c1.toNat] s.heap [(I, byIt ⟨[c0, c1]⟩ t), (C, lstO [] 0), (F, dicE)]) := by
  have hp : ∀ p ∈ [okP (0 ≤ Int.ofNat c1.toNat ∧ Int.ofNat c1.toNat ≤ 1114111), okP (0 ≤ Int.ofNat c0.toNat ∧ Int.ofNat c0.toNat ≤ 1114111)], p := fun p hp => by
    simp only [List.mem_cons, List.not_mem_nil, or_false] at hp
    rcases hp with rfl | rfl <;> exact u8_ok _
  refine ctr_runF (is := []) H rfl (fun p hp => by cases hp) fun A R hR => ?_
  obtain ⟨w, b2, rfl⟩ := row_world "comprehension-iter-twice" w
  cases b2
  · skip
    exact go_o (kNoLimit _) ([(36, [], (extA chrX)), (33, [], (extA chrX))]) 25 12 (pl 0x450410410410820820c00030c10410410420820830000c3041041041041041) (fun _ => .ok .next) (fun _ => [okP (0 ≤ Int.ofNat c1.toNat ∧ Int.ofNat c1.toNat ≤ 1114111), okP (0 ≤ Int.ofNat c0.toNat ∧ Int.ofNat c0.toNat ≤ 1114111)])
      (fun o z => [(I, objZ z 0), (C, lstO (sgn [c0.toNat, c1.toNat] [tokS z 1 0, tokS z 1 1]) (seqN z 1)), (F, octD (w.withFollow "comprehension-iter-twice" false).params (tokK z 2 0) (valD z 2 0) (epZ z 2))]) 3 H (by exact byR w (fun w o => by kernel_rfl) (fun w o => by kernel_rfl)) (fun o => hp) (fun h' tk' o z H' k' _ => hR _ h' tk' ⟨rfl, objZ z 0, [tokS z 1 0, tokS z 1 1], seqN z 1, tokK z 2 0, valD z 2 0, epZ z 2, rfl, H', k'⟩)
  · skip
    exact go_o (kNoLimit _) ([(26, [], (extA chrX)), (33, [], (extA chrX))]) 25 12 (pl 0x450410410410820820c00030c10410410420820830000c3041041041) (fun _ => .ok .next) (fun _ => [okP (0 ≤ Int.ofNat c1.toNat ∧ Int.ofNat c1.toNat ≤ 1114111), okP (0 ≤ Int.ofNat c0.toNat ∧ Int.ofNat c0.toNat ≤ 1114111)])
      (fun o z => [(I, objZ z 0), (C, lstO (sgn [c0.toNat, c1.toNat] [tokS z 1 0, tokS z 1 1]) (seqN z 1)), (F, octD (w.withFollow "comprehension-iter-twice" true).params (tokK z 2 0) (valD z 2 0) (epZ z 2))]) 3 H (by exact byR w (fun w o => by kernel_rfl) (fun w o => by kernel_rfl)) (fun o => hp) (fun h' tk' o z H' k' _ => hR _ h' tk' ⟨rfl, objZ z 0, [tokS z 1 0, tokS z 1 1], seqN z 1, tokK z 2 0, valD z 2 0, epZ z 2, rfl, H', k'⟩)
theorem rc3 {w : World} {T : Tp} {L I C F : Addr} {t : Tok} {s : Shared} {c0 c1 c2 : UInt8} (H : Hp (KK w) s.heap [(I, byIt ⟨[c0, c1, c2]⟩ t), (C, lstO [] 0), (F, dicE)]) :
  CtrF true PG w (rdLc w T L I C F) 14 s (RcPost w I C F [c0.toNat, c1.toNat, c2.toNat] s.heap [(I, byIt ⟨[c0, c1, c2]⟩ t), (C, lstO [] 0), (F, dicE)]) := by
  have hp : ∀ p ∈ [okP (0 ≤ Int.ofNat c2.toNat ∧ Int.ofNat c2.toNat ≤ 1114111), okP (0 ≤ Int.ofNat c1.toNat ∧ Int.ofNat c1.toNat ≤ 1114111), okP (0 ≤ Int.ofNat c0.toNat ∧ Int.ofNat c0.toNat ≤ 1114111)], p := fun p hp => by
    simp only [List.mem_cons, List.not_mem_nil, or_false] at hp
    rcases hp with rfl | rfl | rfl <;> exact u8_ok _
  refine ctr_runF (is := []) H rfl (fun p hp => by cases hp) fun A R hR => ?_
  obtain ⟨w, b2, rfl⟩ := row_world "comprehension-iter-twice" w
  cases b2
  · skip
    exact go_o (kNoLimit _) ([(36, [], (extA chrX)), (33, [], (extA chrX)), (33, [], (extA chrX))]) 25 12 (pl 0x11410410410420820830000c30410410410820820c00030c10410410420820830000c3041041041041041) (fun _ => .ok .next) (fun _ => [okP (0 ≤ Int.ofNat c2.toNat ∧ Int.ofNat c2.toNat ≤ 1114111), okP (0 ≤ Int.ofNat c1.toNat ∧ Int.ofNat c1.toNat ≤ 1114111), okP (0 ≤ Int.ofNat c0.toNat ∧ Int.ofNat c0.toNat ≤ 1114111)])
      (fun o z => [(I, objZ z 0), (C, lstO (sgn [c0.toNat, c1.toNat, c2.toNat] [tokS z 1 0, tokS z 1 1, tokS z 1 2]) (seqN z 1)), (F, octD (w.withFollow "comprehension-iter-twice" false).params (tokK z 2 0) (valD z 2 0) (epZ z 2))]) 3 H (by exact byR w (fun w o => by kernel_rfl) (fun w o => by kernel_rfl)) (fun o => hp) (fun h' tk' o z H' k' _ => hR _ h' tk' ⟨rfl, objZ z 0, [tokS z 1 0, tokS z 1 1, tokS z 1 2], seqN z 1, tokK z 2 0, valD z 2 0, epZ z 2, rfl, H', k'⟩)
  · skip
    exact go_o (kNoLimit _) ([(26, [], (extA chrX)), (33, [], (extA chrX)), (33, [], (extA chrX))]) 25 12 (pl 0x11410410410420820830000c30410410410820820c00030c10410410420820830000c3041041041) (fun _ => .ok .next) (fun _ => [okP (0 ≤ Int.ofNat c2.toNat ∧ Int.ofNat c2.toNat ≤ 1114111), okP (0 ≤ Int.ofNat c1.toNat ∧ Int.ofNat c1.toNat ≤ 1114111), okP (0 ≤ Int.ofNat c0.toNat ∧ Int.ofNat c0.toNat ≤ 1114111)])
      (fun o z => [(I, objZ z 0), (C, lstO (sgn [c0.toNat, c1.toNat, c2.toNat] [tokS z 1 0, tokS z 1 1, tokS z 1 2]) (seqN z 1)), (F, octD (w.withFollow "comprehension-iter-twice" true).params (tokK z 2 0) (valD z 2 0) (epZ z 2))]) 3 H (by exact byR w (fun w o => by kernel_rfl) (fun w o => by kernel_rfl)) (fun o => hp) (fun h' tk' o z H' k' _ => hR _ h' tk' ⟨rfl, objZ z 0, [tokS z 1 0, tokS z 1 1, tokS z 1 2], seqN z 1, tokK z 2 0, valD z 2 0, epZ z 2, rfl, H', k'⟩)
theorem rc4 {w : World} {T : Tp} {L I C F : Addr} {t : Tok} {s : Shared} {c0 c1 c2 c3 : UInt8} (H : Hp (KK w) s.heap [(I, byIt ⟨[c0, c1, c2, c3]⟩ t), (C, lstO [] 0), (F, dicE)]) :
  CtrF true PG w (rdLc w T L I C F) 14 s (RcPost w I C F [c0.toNat, c1.toNat, c2.toNat, c3.toNat] s.heap [(I, byIt ⟨[c0, c1, c2, c3]⟩ t), (C, lstO [] 0), (F, dicE)]) := by
  have hp : ∀ p ∈ [okP (0 ≤ Int.ofNat c3.toNat ∧ Int.ofNat c3.toNat ≤ 1114111), okP (0 ≤ Int.ofNat c2.toNat ∧ Int.ofNat c2.toNat ≤ 1114111), okP (0 ≤ Int.ofNat c1.toNat ∧ Int.ofNat c1.toNat ≤ 1114111), okP (0 ≤ Int.ofNat c0.toNat ∧ Int.ofNat c0.toNat ≤ 1114111)], p := fun p hp => by
    simp only [List.mem_cons, List.not_mem_nil, or_false] at hp
    rcases hp with rfl | rfl | rfl | rfl <;> exact u8_ok _
  refine ctr_runF (is := []) H rfl (fun p hp => by cases hp) fun A R hR => ?_
  obtain ⟨w, b2, rfl⟩ := row_world "comprehension-iter-twice" w
  cases b2
  · skip
    exact go_o (kNoLimit _) ([(36, [], (extA chrX)), (33, [], (extA chrX)), (33, [], (extA chrX)), (33, [], (extA chrX))]) 25 12 (pl 0x450410410410820820c00030c10410410420820830000c30410410410820820c00030c10410410420820830000c3041041041041041) (fun _ => .ok .next) (fun _ => [okP (0 ≤ Int.ofNat c3.toNat ∧ Int.ofNat c3.toNat ≤ 1114111), okP (0 ≤ Int.ofNat c2.toNat ∧ Int.ofNat c2.toNat ≤ 1114111), okP (0 ≤ Int.ofNat c1.toNat ∧ Int.ofNat c1.toNat ≤ 1114111), okP (0 ≤ Int.ofNat c0.toNat ∧ Int.ofNat c0.toNat ≤ 1114111)])
      (fun o z => [(I, objZ z 0), (C, lstO (sgn [c0.toNat, c1.toNat, c2.toNat, c3.toNat] [tokS z 1 0, tokS z 1 1, tokS z 1 2, tokS z 1 3]) (seqN z 1)), (F, octD (w.withFollow "comprehension-iter-twice" false).params (tokK z 2 0) (valD z 2 0) (epZ z 2))]) 3 H (by exact byR w (fun w o => by kernel_rfl) (fun w o => by kernel_rfl)) (fun o => hp) (fun h' tk' o z H' k' _ => hR _ h' tk' ⟨rfl, objZ z 0, [tokS z 1 0, tokS z 1 1, tokS z 1 2, tokS z 1 3], seqN z 1, tokK z 2 0, valD z 2 0, epZ z 2, rfl, H', k'⟩)
  · skip
    exact go_o (kNoLimit _) ([(26, [], (extA chrX)), (33, [], (extA chrX)), (33, [], (extA chrX)), (33, [], (extA chrX))]) 25 12 (pl 0x450410410410820820c00030c10410410420820830000c30410410410820820c00030c10410410420820830000c3041041041) (fun _ => .ok .next) (fun _ => [okP (0 ≤ Int.ofNat c3.toNat ∧ Int.ofNat c3.toNat ≤ 1114111), okP (0 ≤ Int.ofNat c2.toNat ∧ Int.ofNat c2.toNat ≤ 1114111), okP (0 ≤ Int.ofNat c1.toNat ∧ Int.ofNat c1.toNat ≤ 1114111), okP (0 ≤ Int.ofNat c0.toNat ∧ Int.ofNat c0.toNat ≤ 1114111)])
      (fun o z => [(I, objZ z 0), (C, lstO (sgn [c0.toNat, c1.toNat, c2.toNat, c3.toNat] [tokS z 1 0, tokS z 1 1, tokS z 1 2, tokS z 1 3]) (seqN z 1)), (F, octD (w.withFollow "comprehension-iter-twice" true).params (tokK z 2 0) (valD z 2 0) (epZ z 2))]) 3 H (by exact byR w (fun w o => by kernel_rfl) (fun w o => by kernel_rfl)) (fun o => hp) (fun h' tk' o z H' k' _ => hR _ h' tk' ⟨rfl, objZ z 0, [tokS z 1 0, tokS z 1 1, tokS z 1 2, tokS z 1 3], seqN z 1, tokK z 2 0, valD z 2 0, epZ z 2, rfl, H', k'⟩)
theorem rc5 {w : World} {T : Tp} {L I C F : Addr} {t : Tok} {s : Shared} {c0 c1 c2 c3 c4 : UInt8} (H : Hp (KK w) s.heap [(I, byIt ⟨[c0, c1, c2, c3, c4]⟩ t), (C, lstO [] 0), (F, dicE)]) :
  CtrF true PG w (rdLc w T L I C F) 14 s (RcPost w I C F [c0.toNat, c1.toNat, c2.toNat, c3.toNat, c4.toNat] s.heap [(I, byIt ⟨[c0, c1, c2, c3, c4]⟩ t), (C, lstO [] 0), (F, dicE)]) := by
  have hp : ∀ p ∈ [okP (0 ≤ Int.ofNat c4.toNat ∧ Int.ofNat c4.toNat ≤ 1114111), okP (0 ≤ Int.ofNat c3.toNat ∧ Int.ofNat c3.toNat ≤ 1114111), okP (0 ≤ Int.ofNat c2.toNat ∧ Int.ofNat c2.toNat ≤ 1114111), okP (0 ≤ Int.ofNat c1.toNat ∧ Int.ofNat c1.toNat ≤ 1114111), okP (0 ≤ Int.ofNat c0.toNat ∧ Int.ofNat c0.toNat ≤ 1114111)], p := fun p hp => by
    simp only [List.mem_cons, List.not_mem_nil, or_false] at hp
    rcases hp with rfl | rfl | rfl | rfl | rfl <;> exact u8_ok _
  refine ctr_runF (is := []) H rfl (fun p hp => by cases hp) fun A R hR => ?_
  obtain ⟨w, b2, rfl⟩ := row_world "comprehension-iter-twice" w
  cases b2
  · skip
    exact go_o (kNoLimit _) ([(36, [], (extA chrX)), (33, [], (extA chrX)), (33, [], (extA chrX)), (33, [], (extA chrX)), (33, [], (extA chrX))]) 25 12 (pl 0x11410410410420820830000c30410410410820820c00030c10410410420820830000c30410410410820820c00030c10410410420820830000c3041041041041041) (fun _ => .ok .next) (fun _ => [okP (0 ≤ Int.ofNat c4.toNat ∧ Int.ofNat c4.toNat ≤ 1114111), okP (0 ≤ Int.ofNat c3.toNat ∧ Int.ofNat c3.toNat ≤ 1114111), okP (0 ≤ Int.ofNat c2.toNat ∧ Int.ofNat c2.toNat ≤ 1114111), okP (0 ≤ Int.ofNat c1.toNat ∧ Int.ofNat c1.toNat ≤ 1114111), okP (0 ≤ Int.ofNat c0.toNat ∧ Int.ofNat c0.toNat ≤ 1114111)])
      (fun o z => [(I, objZ z 0), (C, lstO (sgn [c0.toNat, c1.toNat, c2.toNat, c3.toNat, c4.toNat] [tokS z 1 0, tokS z 1 1, tokS z 1 2, tokS z 1 3, tokS z 1 4]) (seqN z 1)), (F, octD (w.withFollow "comprehension-iter-twice" false).params (tokK z 2 0) (valD z 2 0) (epZ z 2))]) 3 H (by exact byR w (fun w o => by kernel_rfl) (fun w o => by kernel_rfl)) (fun o => hp) (fun h' tk' o z H' k' _ => hR _ h' tk' ⟨rfl, objZ z 0, [tokS z 1 0, tokS z 1 1, tokS z 1 2, tokS z 1 3, tokS z 1 4], seqN z 1, tokK z 2 0, valD z 2 0, epZ z 2, rfl, H', k'⟩)
  · skip
    exact go_o (kNoLimit _) ([(26, [], (extA chrX)), (33, [], (extA chrX)), (33, [], (extA chrX)), (33, [], (extA chrX)), (33, [], (extA chrX))]) 25 12 (pl 0x11410410410420820830000c30410410410820820c00030c10410410420820830000c30410410410820820c00030c10410410420820830000c3041041041) (fun _ => .ok .next) (fun _ => [okP (0 ≤ Int.ofNat c4.toNat ∧ Int.ofNat c4.toNat ≤ 1114111), okP (0 ≤ Int.ofNat c3.toNat ∧ Int.ofNat c3.toNat ≤ 1114111), okP (0 ≤ Int.ofNat c2.toNat ∧ Int.ofNat c2.toNat ≤ 1114111), okP (0 ≤ Int.ofNat c1.toNat ∧ Int.ofNat c1.toNat ≤ 1114111), okP (0 ≤ Int.ofNat c0.toNat ∧ Int.ofNat c0.toNat ≤ 1114111)])
      (fun o z => [(I, objZ z 0), (C, lstO (sgn [c0.toNat, c1.toNat, c2.toNat, c3.toNat, c4.toNat] [tokS z 1 0, tokS z 1 1, tokS z 1 2, tokS z 1 3, tokS z 1 4]) (seqN z 1)), (F, octD (w.withFollow "comprehension-iter-twice" true).params (tokK z 2 0) (valD z 2 0) (epZ z 2))]) 3 H (by exact byR w (fun w o => by kernel_rfl) (fun w o => by kernel_rfl)) (fun o => hp) (fun h' tk' o z H' k' _ => hR _ h' tk' ⟨rfl, objZ z 0, [tokS z 1 0, tokS z 1 1, tokS z 1 2, tokS z 1 3, tokS z 1 4], seqN z 1, tokK z 2 0, valD z 2 0, epZ z 2, rfl, H', k'⟩)
end Mine
end PRG
section PLC1
open PySem PySem.W PyProof.Rows PySem.Calls
open PySem.Builtin.Str (occurrences)
set_option maxHeartbeats 0
namespace Mine
variable {B : Bool}
noncomputable def lsB (w : World) : List Stmt := stmtsOf (fdOf (KK w) 782)
noncomputable def lsEnv (w : World) (L c : Addr) : Env := { scope := (fdOf (KK w) 782).scope, locals := L, globals := mainGlobals, cells := [("safe", c)], qual := "_law_size.<locals>.", func := some 782, code := .ref 781, frame := some L, builtins := builtinsNs }
noncomputable def safeV : Str := "abcdefghijklmnopqrstuvwxyzABCDEFGHIJKLMNOPQRSTUVWXYZ0123456789_@%+=:,./-"
noncomputable def sgD (P : Params) (k : Tok) (e : Nat) : Option Value → Obj
  | none => ⟨.type "dict", none, .dict #[] e, #[]⟩
  | some v => ⟨.type "dict", none, .dict #[ent P "sign" k v] e, #[]⟩
noncomputable def lsE1 (w : World) : PySem.Expr := cmpL2 ((bopV2 (ifT (lsB w).tail)).getD 1 default)
noncomputable def lsE2 (w : World) : PySem.Expr := (callA (binR (binR (retE ((lsB w).getD 2 default))))).getD 0 default

noncomputable def c1C (w : World) (asc : Bool) (I C F c : Addr) (x : Str) (t : Tok) (i : Int) (vs : List Value) (n : Nat) (k : Tok) (e : Nat) (ov : Option Value) (ts : Tok) : Cells := [(I, fldO (tyS asc) [.str x t, .int i 0]), (C, lstO vs n), (F, sgD w.params k e ov), (c, celO (.str safeV ts))]
noncomputable def c1Lp (w : World) (L c : Addr) (I C F : Addr) : Code := .compLoop (lsE1 w) 0 (.ref I) (.ref C) (lcEnv2 (lsE1 w) (lsEnv w L c) [("safe", c)] F)
noncomputable def c1St (w : World) (L c : Addr) (I C F : Addr) : Code := .compStart (lsE1 w) 0 (.ref I) (.ref C) (lcEnv2 (lsE1 w) (lsEnv w L c) [("safe", c)] F)
theorem c1_tnt {w : World} {L c I C F : Addr} {x : Str} {t k ts : Tok} {i : Int} {vs : List Value} {n e ch : Nat} {v : Value} {s : Shared} {A : Around} {Q : PySem.Fin → Shared → Prop} {E : Value → Shared → Prop} (H : Hp (KK w) s.heap (c1C w true I C F c x t i vs n k e none ts)) (hA : Fit A 12) (hx : x.cps[i.toNat]? = some ch) (hr : hasS safeV ch = true) (hz : vs.length ≤ sizeLine)
  (next : ∀ h' tk' (tt : Tok) k' e' n', Hp (KK w) h' (c1C w true I C F c x t (i + 1) vs n' k' e' (some (.str ⟨#[ch]⟩ s.toks)) ts) → Kept s.heap h' (c1C w true I C F c x t i vs n k e none ts) → Q (.again (c1Lp w L c I C F)) { s with heap := h', toks := tk' }) :
  wpC B (model PG w) A (denZ (c1Lp w L c I C F)) Q E s := by
  have hp : ∀ p ∈ [okP ((!(occurrences safeV ⟨#[ch]⟩ 0 safeV.length 1).isEmpty) = true), okP (I = I ∧ tyS true = tyS true ∧ 0 = 0 ∧ x.cps[i.toNat]? = some ch)], p := fun p hp => by
    simp only [List.mem_cons, List.not_mem_nil, or_false] at hp
    rcases hp with rfl | rfl
    · exact ⟨hr, rfl⟩
    · exact ⟨⟨trivial, trivial, trivial, hx⟩, rfl⟩
  refine start_bot 12 hA rfl ?_
  exact go_o (kNoLimit _) ([(2, [0], (actA (strNextX true ch))), (12, [], (extA (hasSX true)))]) 0 12 (pl 0x440c30c1) (fun _ => .again (c1Lp _ L c I C F)) (fun _ => [okP ((!(occurrences safeV ⟨#[ch]⟩ 0 safeV.length 1).isEmpty) = true), okP (I = I ∧ tyS true = tyS true ∧ 0 = 0 ∧ x.cps[i.toNat]? = some ch)]) (fun o z => c1C w true I C F c x t (i + 1) vs (seqN z 1) (tokK z 2 0) (epZ z 2) (some (.str ⟨#[ch]⟩ s.toks)) ts) 4 H (fun o => by kernel_rfl) (fun o => hp) (fun h' tk' o z H' k' _ => next h' tk' 0 _ _ _ H' k')
theorem c1_tnf {w : World} {L c I C F : Addr} {x : Str} {t k ts : Tok} {i : Int} {vs : List Value} {n e ch : Nat} {v : Value} {s : Shared} {A : Around} {Q : PySem.Fin → Shared → Prop} {E : Value → Shared → Prop} (H : Hp (KK w) s.heap (c1C w true I C F c x t i vs n k e none ts)) (hA : Fit A 12) (hx : x.cps[i.toNat]? = some ch) (hr : hasS safeV ch = false) (hz : vs.length ≤ sizeLine)
  (next : ∀ h' tk' (tt : Tok) k' e' n', Hp (KK w) h' (c1C w true I C F c x t (i + 1) (vs ++ [.str ⟨#[ch]⟩ tt]) n' k' e' (some (.str ⟨#[ch]⟩ s.toks)) ts) → Kept s.heap h' (c1C w true I C F c x t i vs n k e none ts) → Q (.again (c1Lp w L c I C F)) { s with heap := h', toks := tk' }) :
  wpC B (model PG w) A (denZ (c1Lp w L c I C F)) Q E s := by
  have hp : ∀ p ∈ [okP (C = C ∧ "list" = "list" ∧ (⟨vs⟩ : Array Value).size ≤ sizeLine), okP ((!(occurrences safeV ⟨#[ch]⟩ 0 safeV.length 1).isEmpty) = false), okP (I = I ∧ tyS true = tyS true ∧ 0 = 0 ∧ x.cps[i.toNat]? = some ch)], p := fun p hp => by
    simp only [List.mem_cons, List.not_mem_nil, or_false] at hp
    rcases hp with rfl | rfl | rfl
    · exact ⟨⟨trivial, trivial, hz⟩, rfl⟩
    · exact ⟨hr, rfl⟩
    · exact ⟨⟨trivial, trivial, trivial, hx⟩, rfl⟩
  refine start_bot 12 hA rfl ?_
  exact go_o (kNoLimit _) ([(2, [0], (actA (strNextX true ch))), (12, [], (extA (hasSX false))), (2, [1], (actA appendA))]) 0 12 (pl 0x10c40c30c1) (fun _ => .again (c1Lp _ L c I C F)) (fun _ => [okP (C = C ∧ "list" = "list" ∧ (⟨vs⟩ : Array Value).size ≤ sizeLine), okP ((!(occurrences safeV ⟨#[ch]⟩ 0 safeV.length 1).isEmpty) = false), okP (I = I ∧ tyS true = tyS true ∧ 0 = 0 ∧ x.cps[i.toNat]? = some ch)]) (fun o z => c1C w true I C F c x t (i + 1) (vs ++ [.str ⟨#[ch]⟩ s.toks]) (seqN z 1) (tokK z 2 0) (epZ z 2) (some (.str ⟨#[ch]⟩ s.toks)) ts) 4 H (fun o => by kernel_rfl) (fun o => hp) (fun h' tk' o z H' k' _ => next h' tk' s.toks _ _ _ H' k')
theorem c1_tne {w : World} {L c I C F : Addr} {x : Str} {t k ts : Tok} {i : Int} {vs : List Value} {n e : Nat} {v : Value} {s : Shared} {A : Around} {Q : PySem.Fin → Shared → Prop} {E : Value → Shared → Prop} (H : Hp (KK w) s.heap (c1C w true I C F c x t i vs n k e none ts)) (hA : Fit A 12) (hx : x.cps[i.toNat]? = none)
  (next : ∀ h' tk', Hp (KK w) h' [(I, fldO (tyS true) [.none, .int i 0]), (C, lstO vs n), (F, sgD w.params k e none), (c, celO (.str safeV ts))] → Kept s.heap h' (c1C w true I C F c x t i vs n k e none ts) → Q (.done .next) { s with heap := h', toks := tk' }) :
  wpC B (model PG w) A (denZ (c1Lp w L c I C F)) Q E s := by
  refine start_bot 12 hA rfl ?_
  exact go_o (kNoLimit _) ([(2, [0], (strStopA true))]) 1 12 (pl 0x1181) (fun _ => .done .next) (fun _ => [okP (I = I ∧ tyS true = tyS true ∧ 0 = 0 ∧ x.cps[i.toNat]? = none)]) (fun o z => [(I, fldO (tyS true) [.none, .int i 0]), (C, lstO vs n), (F, sgD w.params k e none), (c, celO (.str safeV ts))]) 4 H (fun o => by kernel_rfl) (fun o p hp => by rw [List.mem_singleton.mp hp]; exact ⟨⟨rfl, rfl, rfl, hx⟩, rfl⟩) (fun h' tk' o z H' k' _ => next h' tk' H' k')
theorem c1_tst {w : World} {L c I C F : Addr} {x : Str} {t k ts : Tok} {i : Int} {vs : List Value} {n e ch : Nat} {v : Value} {s : Shared} {A : Around} {Q : PySem.Fin → Shared → Prop} {E : Value → Shared → Prop} (H : Hp (KK w) s.heap (c1C w true I C F c x t i vs n k e (some v) ts)) (hA : Fit A 12) (hx : x.cps[i.toNat]? = some ch) (hr : hasS safeV ch = true) (hz : vs.length ≤ sizeLine)
  (next : ∀ h' tk' (tt : Tok) k' e' n', Hp (KK w) h' (c1C w true I C F c x t (i + 1) vs n' k' e' (some (.str ⟨#[ch]⟩ s.toks)) ts) → Kept s.heap h' (c1C w true I C F c x t i vs n k e (some v) ts) → Q (.again (c1Lp w L c I C F)) { s with heap := h', toks := tk' }) :
  wpC B (model PG w) A (denZ (c1Lp w L c I C F)) Q E s := by
  have hp : ∀ p ∈ [okP ((!(occurrences safeV ⟨#[ch]⟩ 0 safeV.length 1).isEmpty) = true), okP (I = I ∧ tyS true = tyS true ∧ 0 = 0 ∧ x.cps[i.toNat]? = some ch)], p := fun p hp => by
    simp only [List.mem_cons, List.not_mem_nil, or_false] at hp
    rcases hp with rfl | rfl
    · exact ⟨hr, rfl⟩
    · exact ⟨⟨trivial, trivial, trivial, hx⟩, rfl⟩
  refine start_bot 12 hA rfl ?_
  exact go_o (kNoLimit _) ([(2, [0], (actA (strNextX true ch))), (12, [], (extA (hasSX true)))]) 0 12 (pl 0x440c30c1) (fun _ => .again (c1Lp _ L c I C F)) (fun _ => [okP ((!(occurrences safeV ⟨#[ch]⟩ 0 safeV.length 1).isEmpty) = true), okP (I = I ∧ tyS true = tyS true ∧ 0 = 0 ∧ x.cps[i.toNat]? = some ch)]) (fun o z => c1C w true I C F c x t (i + 1) vs (seqN z 1) (tokK z 2 0) (epZ z 2) (some (.str ⟨#[ch]⟩ s.toks)) ts) 4 H (fun o => by kernel_rfl) (fun o => hp) (fun h' tk' o z H' k' _ => next h' tk' 0 _ _ _ H' k')
theorem c1_tsf {w : World} {L c I C F : Addr} {x : Str} {t k ts : Tok} {i : Int} {vs : List Value} {n e ch : Nat} {v : Value} {s : Shared} {A : Around} {Q : PySem.Fin → Shared → Prop} {E : Value → Shared → Prop} (H : Hp (KK w) s.heap (c1C w true I C F c x t i vs n k e (some v) ts)) (hA : Fit A 12) (hx : x.cps[i.toNat]? = some ch) (hr : hasS safeV ch = false) (hz : vs.length ≤ sizeLine)
  (next : ∀ h' tk' (tt : Tok) k' e' n', Hp (KK w) h' (c1C w true I C F c x t (i + 1) (vs ++ [.str ⟨#[ch]⟩ tt]) n' k' e' (some (.str ⟨#[ch]⟩ s.toks)) ts) → Kept s.heap h' (c1C w true I C F c x t i vs n k e (some v) ts) → Q (.again (c1Lp w L c I C F)) { s with heap := h', toks := tk' }) :
  wpC B (model PG w) A (denZ (c1Lp w L c I C F)) Q E s := by
  have hp : ∀ p ∈ [okP (C = C ∧ "list" = "list" ∧ (⟨vs⟩ : Array Value).size ≤ sizeLine), okP ((!(occurrences safeV ⟨#[ch]⟩ 0 safeV.length 1).isEmpty) = false), okP (I = I ∧ tyS true = tyS true ∧ 0 = 0 ∧ x.cps[i.toNat]? = some ch)], p := fun p hp => by
    simp only [List.mem_cons, List.not_mem_nil, or_false] at hp
    rcases hp with rfl | rfl | rfl
    · exact ⟨⟨trivial, trivial, hz⟩, rfl⟩
    · exact ⟨hr, rfl⟩
    · exact ⟨⟨trivial, trivial, trivial, hx⟩, rfl⟩
  refine start_bot 12 hA rfl ?_
  exact go_o (kNoLimit _) ([(2, [0], (actA (strNextX true ch))), (12, [], (extA (hasSX false))), (2, [1], (actA appendA))]) 0 12 (pl 0x10c40c30c1) (fun _ => .again (c1Lp _ L c I C F)) (fun _ => [okP (C = C ∧ "list" = "list" ∧ (⟨vs⟩ : Array Value).size ≤ sizeLine), okP ((!(occurrences safeV ⟨#[ch]⟩ 0 safeV.length 1).isEmpty) = false), okP (I = I ∧ tyS true = tyS true ∧ 0 = 0 ∧ x.cps[i.toNat]? = some ch)]) (fun o z => c1C w true I C F c x t (i + 1) (vs ++ [.str ⟨#[ch]⟩ s.toks]) (seqN z 1) (tokK z 2 0) (epZ z 2) (some (.str ⟨#[ch]⟩ s.toks)) ts) 4 H (fun o => by kernel_rfl) (fun o => hp) (fun h' tk' o z H' k' _ => next h' tk' s.toks _ _ _ H' k')
theorem c1_tse {w : World} {L c I C F : Addr} {x : Str} {t k ts : Tok} {i : Int} {vs : List Value} {n e : Nat} {v : Value} {s : Shared} {A : Around} {Q : PySem.Fin → Shared → Prop} {E : Value → Shared → Prop} (H : Hp (KK w) s.heap (c1C w true I C F c x t i vs n k e (some v) ts)) (hA : Fit A 12) (hx : x.cps[i.toNat]? = none)
  (next : ∀ h' tk', Hp (KK w) h' [(I, fldO (tyS true) [.none, .int i 0]), (C, lstO vs n), (F, sgD w.params k e (some v)), (c, celO (.str safeV ts))] → Kept s.heap h' (c1C w true I C F c x t i vs n k e (some v) ts) → Q (.done .next) { s with heap := h', toks := tk' }) :
  wpC B (model PG w) A (denZ (c1Lp w L c I C F)) Q E s := by
  refine start_bot 12 hA rfl ?_
  exact go_o (kNoLimit _) ([(2, [0], (strStopA true))]) 1 12 (pl 0x1181) (fun _ => .done .next) (fun _ => [okP (I = I ∧ tyS true = tyS true ∧ 0 = 0 ∧ x.cps[i.toNat]? = none)]) (fun o z => [(I, fldO (tyS true) [.none, .int i 0]), (C, lstO vs n), (F, sgD w.params k e (some v)), (c, celO (.str safeV ts))]) 4 H (fun o => by kernel_rfl) (fun o p hp => by rw [List.mem_singleton.mp hp]; exact ⟨⟨rfl, rfl, rfl, hx⟩, rfl⟩) (fun h' tk' o z H' k' _ => next h' tk' H' k')
theorem c1_fnt {w : World} {L c I C F : Addr} {x : Str} {t k ts : Tok} {i : Int} {vs : List Value} {n e ch : Nat} {v : Value} {s : Shared} {A : Around} {Q : PySem.Fin → Shared → Prop} {E : Value → Shared → Prop} (H : Hp (KK w) s.heap (c1C w false I C F c x t i vs n k e none ts)) (hA : Fit A 12) (hx : x.cps[i.toNat]? = some ch) (hr : hasS safeV ch = true) (hz : vs.length ≤ sizeLine)
  (next : ∀ h' tk' (tt : Tok) k' e' n', Hp (KK w) h' (c1C w false I C F c x t (i + 1) vs n' k' e' (some (.str ⟨#[ch]⟩ s.toks)) ts) → Kept s.heap h' (c1C w false I C F c x t i vs n k e none ts) → Q (.again (c1Lp w L c I C F)) { s with heap := h', toks := tk' }) :
  wpC B (model PG w) A (denZ (c1Lp w L c I C F)) Q E s := by
  have hp : ∀ p ∈ [okP ((!(occurrences safeV ⟨#[ch]⟩ 0 safeV.length 1).isEmpty) = true), okP (I = I ∧ tyS false = tyS false ∧ 0 = 0 ∧ x.cps[i.toNat]? = some ch)], p := fun p hp => by
    simp only [List.mem_cons, List.not_mem_nil, or_false] at hp
    rcases hp with rfl | rfl
    · exact ⟨hr, rfl⟩
    · exact ⟨⟨trivial, trivial, trivial, hx⟩, rfl⟩
  refine start_bot 12 hA rfl ?_
  exact go_o (kNoLimit _) ([(2, [0], (actA (strNextX false ch))), (12, [], (extA (hasSX true)))]) 0 12 (pl 0x440c30c1) (fun _ => .again (c1Lp _ L c I C F)) (fun _ => [okP ((!(occurrences safeV ⟨#[ch]⟩ 0 safeV.length 1).isEmpty) = true), okP (I = I ∧ tyS false = tyS false ∧ 0 = 0 ∧ x.cps[i.toNat]? = some ch)]) (fun o z => c1C w false I C F c x t (i + 1) vs (seqN z 1) (tokK z 2 0) (epZ z 2) (some (.str ⟨#[ch]⟩ s.toks)) ts) 4 H (fun o => by kernel_rfl) (fun o => hp) (fun h' tk' o z H' k' _ => next h' tk' 0 _ _ _ H' k')
theorem c1_fnf {w : World} {L c I C F : Addr} {x : Str} {t k ts : Tok} {i : Int} {vs : List Value} {n e ch : Nat} {v : Value} {s : Shared} {A : Around} {Q : PySem.Fin → Shared → Prop} {E : Value → Shared → Prop} (H : Hp (KK w) s.heap (c1C w false I C F c x t i vs n k e none ts)) (hA : Fit A 12) (hx : x.cps[i.toNat]? = some ch) (hr : hasS safeV ch = false) (hz : vs.length ≤ sizeLine)
  (next : ∀ h' tk' (tt : Tok) k' e' n', Hp (KK w) h' (c1C w false I C F c x t (i + 1) (vs ++ [.str ⟨#[ch]⟩ tt]) n' k' e' (some (.str ⟨#[ch]⟩ s.toks)) ts) → Kept s.heap h' (c1C w false I C F c x t i vs n k e none ts) → Q (.again (c1Lp w L c I C F)) { s with heap := h', toks := tk' }) :
  wpC B (model PG w) A (denZ (c1Lp w L c I C F)) Q E s := by
  have hp : ∀ p ∈ [okP (C = C ∧ "list" = "list" ∧ (⟨vs⟩ : Array Value).size ≤ sizeLine), okP ((!(occurrences safeV ⟨#[ch]⟩ 0 safeV.length 1).isEmpty) = false), okP (I = I ∧ tyS false = tyS false ∧ 0 = 0 ∧ x.cps[i.toNat]? = some ch)], p := fun p hp => by
    simp only [List.mem_cons, List.not_mem_nil, or_false] at hp
    rcases hp with rfl | rfl | rfl
    · exact ⟨⟨trivial, trivial, hz⟩, rfl⟩
    · exact ⟨hr, rfl⟩
    · exact ⟨⟨trivial, trivial, trivial, hx⟩, rfl⟩
  refine start_bot 12 hA rfl ?_
  exact go_o (kNoLimit _) ([(2, [0], (actA (strNextX false ch))), (12, [], (extA (hasSX false))), (2, [1], (actA appendA))]) 0 12 (pl 0x10c40c30c1) (fun _ => .again (c1Lp _ L c I C F)) (fun _ => [okP (C = C ∧ "list" = "list" ∧ (⟨vs⟩ : Array Value).size ≤ sizeLine), okP ((!(occurrences safeV ⟨#[ch]⟩ 0 safeV.length 1).isEmpty) = false), okP (I = I ∧ tyS false = tyS false ∧ 0 = 0 ∧ x.cps[i.toNat]? = some ch)]) (fun o z => c1C w false I C F c x t (i + 1) (vs ++ [.str ⟨#[ch]⟩ s.toks]) (seqN z 1) (tokK z 2 0) (epZ z 2) (some (.str ⟨#[ch]⟩ s.toks)) ts) 4 H (fun o => by kernel_rfl) (fun o => hp) (fun h' tk' o z H' k' _ => next h' tk' s.toks _ _ _ H' k')
theorem c1_fne {w : World} {L c I C F : Addr} {x : Str} {t k ts : Tok} {i : Int} {vs : List Value} {n e : Nat} {v : Value} {s : Shared} {A : Around} {Q : PySem.Fin → Shared → Prop} {E : Value → Shared → Prop} (H : Hp (KK w) s.heap (c1C w false I C F c x t i vs n k e none ts)) (hA : Fit A 12) (hx : x.cps[i.toNat]? = none)
  (next : ∀ h' tk', Hp (KK w) h' [(I, fldO (tyS false) [.none, .int i 0]), (C, lstO vs n), (F, sgD w.params k e none), (c, celO (.str safeV ts))] → Kept s.heap h' (c1C w false I C F c x t i vs n k e none ts) → Q (.done .next) { s with heap := h', toks := tk' }) :
  wpC B (model PG w) A (denZ (c1Lp w L c I C F)) Q E s := by
  refine start_bot 12 hA rfl ?_
  exact go_o (kNoLimit _) ([(2, [0], (strStopA false))]) 1 12 (pl 0x1181) (fun _ => .done .next) (fun _ => [okP (I = I ∧ tyS false = tyS false ∧ 0 = 0 ∧ x.cps[i.toNat]? = none)]) (fun o z => [(I, fldO (tyS false) [.none, .int i 0]), (C, lstO vs n), (F, sgD w.params k e none), (c, celO (.str safeV ts))]) 4 H (fun o => by kernel_rfl) (fun o p hp => by rw [List.mem_singleton.mp hp]; exact ⟨⟨rfl, rfl, rfl, hx⟩, rfl⟩) (fun h' tk' o z H' k' _ => next h' tk' H' k')
theorem c1_fst {w : World} {L c I C F : Addr} {x : Str} {t k ts : Tok} {i : Int} {vs : List Value} {n e ch : Nat} {v : Value} {s : Shared} {A : Around} {Q : PySem.Fin → Shared → Prop} {E : Value → Shared → Prop} (H : Hp (KK w) s.heap (c1C w false I C F c x t i vs n k e (some v) ts)) (hA : Fit A 12) (hx : x.cps[i.toNat]? = some ch) (hr : hasS safeV ch = true) (hz : vs.length ≤ sizeLine)
  (next : ∀ h' tk' (tt : Tok) k' e' n', Hp (KK w) h' (c1C w false I C F c x t (i + 1) vs n' k' e' (some (.str ⟨#[ch]⟩ s.toks)) ts) → Kept s.heap h' (c1C w false I C F c x t i vs n k e (some v) ts) → Q (.again (c1Lp w L c I C F)) { s with heap := h', toks := tk' }) :
  wpC B (model PG w) A (denZ (c1Lp w L c I C F)) Q E s := by
  have hp : ∀ p ∈ [okP ((!(occurrences safeV ⟨#[ch]⟩ 0 safeV.length 1).isEmpty) = true), okP (I = I ∧ tyS false = tyS false ∧ 0 = 0 ∧ x.cps[i.toNat]? = some ch)], p := fun p hp => by
    simp only [List.mem_cons, List.not_mem_nil, or_false] at hp
    rcases hp with rfl | rfl
    · exact ⟨hr, rfl⟩
    · exact ⟨⟨trivial, trivial, trivial, hx⟩, rfl⟩
  refine start_bot 12 hA rfl ?_
  exact go_o (kNoLimit _) ([(2, [0], (actA (strNextX false ch))), (12, [], (extA (hasSX true)))]) 0 12 (pl 0x440c30c1) (fun _ => .again (c1Lp _ L c I C F)) (fun _ => [okP ((!(occurrences safeV ⟨#[ch]⟩ 0 safeV.length 1).isEmpty) = true), okP (I = I ∧ tyS false = tyS false ∧ 0 = 0 ∧ x.cps[i.toNat]? = some ch)]) (fun o z => c1C w false I C F c x t (i + 1) vs (seqN z 1) (tokK z 2 0) (epZ z 2) (some (.str ⟨#[ch]⟩ s.toks)) ts) 4 H (fun o => by kernel_rfl) (fun o => hp) (fun h' tk' o z H' k' _ => next h' tk' 0 _ _ _ H' k')
theorem c1_fsf {w : World} {L c I C F : Addr} {x : Str} {t k ts : Tok} {i : Int} {vs : List Value} {n e ch : Nat} {v : Value} {s : Shared} {A : Around} {Q : PySem.Fin → Shared → Prop} {E : Value → Shared → Prop} (H : Hp (KK w) s.heap (c1C w false I C F c x t i vs n k e (some v) ts)) (hA : Fit A 12) (hx : x.cps[i.toNat]? = some ch) (hr : hasS safeV ch = false) (hz : vs.length ≤ sizeLine)
  (next : ∀ h' tk' (tt : Tok) k' e' n', Hp (KK w) h' (c1C w false I C F c x t (i + 1) (vs ++ [.str ⟨#[ch]⟩ tt]) n' k' e' (some (.str ⟨#[ch]⟩ s.toks)) ts) → Kept s.heap h' (c1C w false I C F c x t i vs n k e (some v) ts) → Q (.again (c1Lp w L c I C F)) { s with heap := h', toks := tk' }) :
  wpC B (model PG w) A (denZ (c1Lp w L c I C F)) Q E s := by
  have hp : ∀ p ∈ [okP (C = C ∧ "list" = "list" ∧ (⟨vs⟩ : Array Value).size ≤ sizeLine), okP ((!(occurrences safeV ⟨#[ch]⟩ 0 safeV.length 1).isEmpty) = false), okP (I = I ∧ tyS false = tyS false ∧ 0 = 0 ∧ x.cps[i.toNat]? = some ch)], p := fun p hp => by
    simp only [List.mem_cons, List.not_mem_nil, or_false] at hp
    rcases hp with rfl | rfl | rfl
    · exact ⟨⟨trivial, trivial, hz⟩, rfl⟩
    · exact ⟨hr, rfl⟩
    · exact ⟨⟨trivial, trivial, trivial, hx⟩, rfl⟩
  refine start_bot 12 hA rfl ?_
  exact go_o (kNoLimit _) ([(2, [0], (actA (strNextX false ch))), (12, [], (extA (hasSX false))), (2, [1], (actA appendA))]) 0 12 (pl 0x10c40c30c1) (fun _ => .again (c1Lp _ L c I C F)) (fun _ => [okP (C = C ∧ "list" = "list" ∧ (⟨vs⟩ : Array Value).size ≤ sizeLine), okP ((!(occurrences safeV ⟨#[ch]⟩ 0 safeV.length 1).isEmpty) = false), okP (I = I ∧ tyS false = tyS false ∧ 0 = 0 ∧ x.cps[i.toNat]? = some ch)]) (fun o z => c1C w false I C F c x t (i + 1) (vs ++ [.str ⟨#[ch]⟩ s.toks]) (seqN z 1) (tokK z 2 0) (epZ z 2) (some (.str ⟨#[ch]⟩ s.toks)) ts) 4 H (fun o => by kernel_rfl) (fun o => hp) (fun h' tk' o z H' k' _ => next h' tk' s.toks _ _ _ H' k')
theorem c1_fse {w : World} {L c I C F : Addr} {x : Str} {t k ts : Tok} {i : Int} {vs : List Value} {n e : Nat} {v : Value} {s : Shared} {A : Around} {Q : PySem.Fin → Shared → Prop} {E : Value → Shared → Prop} (H : Hp (KK w) s.heap (c1C w false I C F c x t i vs n k e (some v) ts)) (hA : Fit A 12) (hx : x.cps[i.toNat]? = none)
  (next : ∀ h' tk', Hp (KK w) h' [(I, fldO (tyS false) [.none, .int i 0]), (C, lstO vs n), (F, sgD w.params k e (some v)), (c, celO (.str safeV ts))] → Kept s.heap h' (c1C w false I C F c x t i vs n k e (some v) ts) → Q (.done .next) { s with heap := h', toks := tk' }) :
  wpC B (model PG w) A (denZ (c1Lp w L c I C F)) Q E s := by
  refine start_bot 12 hA rfl ?_
  exact go_o (kNoLimit _) ([(2, [0], (strStopA false))]) 1 12 (pl 0x1181) (fun _ => .done .next) (fun _ => [okP (I = I ∧ tyS false = tyS false ∧ 0 = 0 ∧ x.cps[i.toNat]? = none)]) (fun o z => [(I, fldO (tyS false) [.none, .int i 0]), (C, lstO vs n), (F, sgD w.params k e (some v)), (c, celO (.str safeV ts))]) 4 H (fun o => by kernel_rfl) (fun o p hp => by rw [List.mem_singleton.mp hp]; exact ⟨⟨rfl, rfl, rfl, hx⟩, rfl⟩) (fun h' tk' o z H' k' _ => next h' tk' H' k')
inductive c1Post (w : World) (I C F c : Addr) (ts : Tok) (l : List Nat) (h0 : Heap) (cs0 : Cells) (f : Flow) (h : Heap) : Prop
  | mk (hf : f = .next) (it : Obj) (vs : List Value) (n : Nat) (k : Tok) (e : Nat) (ov : Option Value) (hl : vs.length = (l.filter fun ch => !hasS safeV ch).length) (H : Hp (KK w) h [(I, it), (C, lstO vs n), (F, sgD w.params k e ov), (c, celO (.str safeV ts))]) (q : Kept h0 h cs0)
inductive c1I (w : World) (asc : Bool) (I C F c : Addr) (t ts : Tok) (l : List Nat) (h0 : Heap) (cs0 : Cells) (m : Nat) (h : Heap) : Prop
  | mk (j : Nat) (vs : List Value) (n : Nat) (k : Tok) (e : Nat) (ov : Option Value) (hm : m = l.length - j) (hj : j ≤ l.length) (hl : vs.length = ((l.take j).filter fun ch => !hasS safeV ch).length) (H : Hp (KK w) h (c1C w asc I C F c ⟨⟨l⟩⟩ t ((j : Nat) : Int) vs n k e ov ts)) (q : Kept h0 h cs0)
theorem c1_loop {w : World} {asc : Bool} {L c I C F : Addr} {l : List Nat} {t k ts : Tok} {e : Nat} {s : Shared} (hl : l.length ≤ sizeLine) (H : Hp (KK w) s.heap (c1C w asc I C F c ⟨⟨l⟩⟩ t 0 [] 0 k e none ts)) :
  CtrF B PG w (c1Lp w L c I C F) 13 s (c1Post w I C F c ts l s.heap (c1C w asc I C F c ⟨⟨l⟩⟩ t 0 [] 0 k e none ts)) := by
  refine ctr_loop (s := s) rfl rfl 12 (c1I w asc I C F c t ts l s.heap (c1C w asc I C F c ⟨⟨l⟩⟩ t 0 [] 0 k e none ts)) ?_ l.length
    ⟨0, [], 0, k, e, none, rfl, Nat.zero_le _, rfl, H, Kept.refl _ _⟩
  rintro m h tk A hA ⟨j, vs, n, k1, e1, ov, rfl, hj, hg, H1, q1⟩
  have hvl : vs.length ≤ sizeLine := by rw [hg]; exact Nat.le_trans (List.length_filter_le _ _) (by rw [List.length_take]; omega)
  by_cases hlt : j < l.length
  · have hx : (⟨⟨l⟩⟩ : Str).cps[(((j : Nat) : Int)).toNat]? = some l[j] := by simp [hlt]
    have htk : l.take (j + 1) = l.take j ++ [l[j]] := by rw [List.take_add_one, List.getElem?_eq_getElem hlt]; rfl
    cases hr : hasS safeV l[j] with
    | false =>
      have hg2 : vs.length + 1 = ((l.take (j + 1)).filter fun ch => !hasS safeV ch).length := by
        rw [htk, List.filter_append, List.length_append, hg]
        simp only [List.filter_cons, List.filter_nil, hr, Bool.not_false, Bool.not_true, ↓reduceIte, Bool.false_eq_true, List.length_cons, List.length_nil, Nat.add_zero, Nat.zero_add]
      cases asc <;> rcases ov with _ | v
      · exact c1_fnf (v := .none) (s := { s with heap := h, toks := tk }) H1 hA hx hr hvl fun h' tk' tt k' e' n' H' k2 => ⟨h', tk', rfl, .inl ⟨rfl, l.length - (j + 1), by omega, j + 1, _, n', k', e', _, rfl, hlt, by rw [← hg2, List.length_append]; rfl, H', q1.trans k2 fun b _ hb => hb⟩⟩
      · exact c1_fsf (s := { s with heap := h, toks := tk }) H1 hA hx hr hvl fun h' tk' tt k' e' n' H' k2 => ⟨h', tk', rfl, .inl ⟨rfl, l.length - (j + 1), by omega, j + 1, _, n', k', e', _, rfl, hlt, by rw [← hg2, List.length_append]; rfl, H', q1.trans k2 fun b _ hb => hb⟩⟩
      · exact c1_tnf (v := .none) (s := { s with heap := h, toks := tk }) H1 hA hx hr hvl fun h' tk' tt k' e' n' H' k2 => ⟨h', tk', rfl, .inl ⟨rfl, l.length - (j + 1), by omega, j + 1, _, n', k', e', _, rfl, hlt, by rw [← hg2, List.length_append]; rfl, H', q1.trans k2 fun b _ hb => hb⟩⟩
      · exact c1_tsf (s := { s with heap := h, toks := tk }) H1 hA hx hr hvl fun h' tk' tt k' e' n' H' k2 => ⟨h', tk', rfl, .inl ⟨rfl, l.length - (j + 1), by omega, j + 1, _, n', k', e', _, rfl, hlt, by rw [← hg2, List.length_append]; rfl, H', q1.trans k2 fun b _ hb => hb⟩⟩
    | true =>
      have hg2 : vs.length = ((l.take (j + 1)).filter fun ch => !hasS safeV ch).length := by
        rw [htk, List.filter_append, List.length_append, hg]
        simp only [List.filter_cons, List.filter_nil, hr, Bool.not_false, Bool.not_true, ↓reduceIte, Bool.false_eq_true, List.length_cons, List.length_nil, Nat.add_zero, Nat.zero_add]
      cases asc <;> rcases ov with _ | v
      · exact c1_fnt (v := .none) (s := { s with heap := h, toks := tk }) H1 hA hx hr hvl fun h' tk' tt k' e' n' H' k2 => ⟨h', tk', rfl, .inl ⟨rfl, l.length - (j + 1), by omega, j + 1, _, n', k', e', _, rfl, hlt, hg2, H', q1.trans k2 fun b _ hb => hb⟩⟩
      · exact c1_fst (s := { s with heap := h, toks := tk }) H1 hA hx hr hvl fun h' tk' tt k' e' n' H' k2 => ⟨h', tk', rfl, .inl ⟨rfl, l.length - (j + 1), by omega, j + 1, _, n', k', e', _, rfl, hlt, hg2, H', q1.trans k2 fun b _ hb => hb⟩⟩
      · exact c1_tnt (v := .none) (s := { s with heap := h, toks := tk }) H1 hA hx hr hvl fun h' tk' tt k' e' n' H' k2 => ⟨h', tk', rfl, .inl ⟨rfl, l.length - (j + 1), by omega, j + 1, _, n', k', e', _, rfl, hlt, hg2, H', q1.trans k2 fun b _ hb => hb⟩⟩
      · exact c1_tst (s := { s with heap := h, toks := tk }) H1 hA hx hr hvl fun h' tk' tt k' e' n' H' k2 => ⟨h', tk', rfl, .inl ⟨rfl, l.length - (j + 1), by omega, j + 1, _, n', k', e', _, rfl, hlt, hg2, H', q1.trans k2 fun b _ hb => hb⟩⟩
  · have hjl : j = l.length := by omega
    subst hjl
    rw [List.take_length] at hg
    have hx : (⟨⟨l⟩⟩ : Str).cps[(((l.length : Nat) : Int)).toNat]? = none := by simp
    cases asc <;> rcases ov with _ | v
    · exact c1_fne (v := .none) (s := { s with heap := h, toks := tk }) H1 hA hx fun h' tk' H' k' => ⟨h', tk', rfl, rfl, _, _, _, _, _, _, hg, H', q1.trans k' fun b _ hb => hb⟩
    · exact c1_fse (s := { s with heap := h, toks := tk }) H1 hA hx fun h' tk' H' k' => ⟨h', tk', rfl, rfl, _, _, _, _, _, _, hg, H', q1.trans k' fun b _ hb => hb⟩
    · exact c1_tne (v := .none) (s := { s with heap := h, toks := tk }) H1 hA hx fun h' tk' H' k' => ⟨h', tk', rfl, rfl, _, _, _, _, _, _, hg, H', q1.trans k' fun b _ hb => hb⟩
    · exact c1_tse (s := { s with heap := h, toks := tk }) H1 hA hx fun h' tk' H' k' => ⟨h', tk', rfl, rfl, _, _, _, _, _, _, hg, H', q1.trans k' fun b _ hb => hb⟩
theorem c1_ctr {w : World} {asc : Bool} {L c I C F : Addr} {l : List Nat} {t k ts : Tok} {e : Nat} {s : Shared} (hl : l.length ≤ sizeLine) (H : Hp (KK w) s.heap (c1C w asc I C F c ⟨⟨l⟩⟩ t 0 [] 0 k e none ts)) :
  CtrF B PG w (c1St w L c I C F) 13 s (c1Post w I C F c ts l s.heap (c1C w asc I C F c ⟨⟨l⟩⟩ t 0 [] 0 k e none ts)) := by
  refine ctr_again (c' := c1Lp w L c I C F) 12 rfl rfl fun A hA => ?_
  have fin : ∀ h' tk', Hp (KK w) h' (c1C w asc I C F c ⟨⟨l⟩⟩ t 0 [] 0 k e none ts) → Kept s.heap h' (c1C w asc I C F c ⟨⟨l⟩⟩ t 0 [] 0 k e none ts) →
      (PySem.Fin.again (c1Lp w L c I C F) = .again (c1Lp w L c I C F) ∧ ∃ h2 tk2, ({ s with heap := h', toks := tk' } : Shared) = { s with heap := h2, toks := tk2 } ∧ CtrF B PG w (c1Lp w L c I C F) 13 { s with heap := h', toks := tk' } (c1Post w I C F c ts l s.heap (c1C w asc I C F c ⟨⟨l⟩⟩ t 0 [] 0 k e none ts))) := fun h' tk' H' k' =>
    ⟨rfl, h', tk', rfl, fun A R hA hR => c1_loop (s := { s with heap := h', toks := tk' }) hl H' A R hA fun f h2 tk2 ⟨e0, it, vs, n, k1, e1, ov, hg, H2, k2⟩ => hR f h2 tk2 ⟨e0, it, vs, n, k1, e1, ov, hg, H2, k'.trans k2 fun b _ hb => hb⟩⟩
  refine start_bot 12 hA rfl ?_
  obtain ⟨w, b2, rfl⟩ := row_world "comprehension-iter-twice" w
  cases asc <;> cases b2
  · skip
    exact go_o (kNoLimit _) [] 11 12 (pl 0x1041041) (fun _ => .again (c1Lp _ L c I C F)) (fun _ => []) (fun o z => c1C (w.withFollow "comprehension-iter-twice" false) false I C F c ⟨⟨l⟩⟩ t 0 [] 0 k e none ts) 4 H (by exact byR w (fun w o => by kernel_rfl) (fun w o => by kernel_rfl)) (fun o p hp => absurd hp List.not_mem_nil) (fun h' tk' o z H' k' _ => fin h' tk' H' k')
  · skip
    exact go_o (kNoLimit _) [] 1 12 (pl 0x1) (fun _ => .again (c1Lp _ L c I C F)) (fun _ => []) (fun o z => c1C (w.withFollow "comprehension-iter-twice" true) false I C F c ⟨⟨l⟩⟩ t 0 [] 0 k e none ts) 4 H (by exact byR w (fun w o => by kernel_rfl) (fun w o => by kernel_rfl)) (fun o p hp => absurd hp List.not_mem_nil) (fun h' tk' o z H' k' _ => fin h' tk' H' k')
  · skip
    exact go_o (kNoLimit _) [] 11 12 (pl 0x1041041) (fun _ => .again (c1Lp _ L c I C F)) (fun _ => []) (fun o z => c1C (w.withFollow "comprehension-iter-twice" false) true I C F c ⟨⟨l⟩⟩ t 0 [] 0 k e none ts) 4 H (by exact byR w (fun w o => by kernel_rfl) (fun w o => by kernel_rfl)) (fun o p hp => absurd hp List.not_mem_nil) (fun h' tk' o z H' k' _ => fin h' tk' H' k')
  · skip
    exact go_o (kNoLimit _) [] 1 12 (pl 0x1) (fun _ => .again (c1Lp _ L c I C F)) (fun _ => []) (fun o z => c1C (w.withFollow "comprehension-iter-twice" true) true I C F c ⟨⟨l⟩⟩ t 0 [] 0 k e none ts) 4 H (by exact byR w (fun w o => by kernel_rfl) (fun w o => by kernel_rfl)) (fun o p hp => absurd hp List.not_mem_nil) (fun h' tk' o z H' k' _ => fin h' tk' H' k')
noncomputable def c2C (w : World) (asc : Bool) (I C F : Addr) (x : Str) (t : Tok) (i : Int) (vs : List Value) (n : Nat) (k : Tok) (e : Nat) (ov : Option Value) : Cells := [(I, fldO (tyS asc) [.str x t, .int i 0]), (C, lstO vs n), (F, sgD w.params k e ov)]
noncomputable def c2Lp (w : World) (L c : Addr) (I C F : Addr) : Code := .compLoop (lsE2 w) 0 (.ref I) (.ref C) (lcEnv2 (lsE2 w) (lsEnv w L c) [] F)
noncomputable def c2St (w : World) (L c : Addr) (I C F : Addr) : Code := .compStart (lsE2 w) 0 (.ref I) (.ref C) (lcEnv2 (lsE2 w) (lsEnv w L c) [] F)
theorem c2_tnt {w : World} {L c I C F : Addr} {x : Str} {t k : Tok} {i : Int} {vs : List Value} {n e ch : Nat} {v : Value} {s : Shared} {A : Around} {Q : PySem.Fin → Shared → Prop} {E : Value → Shared → Prop} (H : Hp (KK w) s.heap (c2C w true I C F x t i vs n k e none)) (hA : Fit A 12) (hx : x.cps[i.toNat]? = some ch) (hr : ([ch] == [39]) = true) (hz : vs.length ≤ sizeLine)
  (next : ∀ h' tk' (tt : Tok) k' e' n', Hp (KK w) h' (c2C w true I C F x t (i + 1) (vs ++ [.str ⟨#[ch]⟩ tt]) n' k' e' (some (.str ⟨#[ch]⟩ s.toks))) → Kept s.heap h' (c2C w true I C F x t i vs n k e none) → Q (.again (c2Lp w L c I C F)) { s with heap := h', toks := tk' }) :
  wpC B (model PG w) A (denZ (c2Lp w L c I C F)) Q E s := by
  have hp : ∀ p ∈ [okP (C = C ∧ "list" = "list" ∧ (⟨vs⟩ : Array Value).size ≤ sizeLine), okP (((⟨#[ch]⟩ : Str).cps.toList == (Str.ofString "'").cps.toList) = true), okP (I = I ∧ tyS true = tyS true ∧ 0 = 0 ∧ x.cps[i.toNat]? = some ch)], p := fun p hp => by
    simp only [List.mem_cons, List.not_mem_nil, or_false] at hp
    rcases hp with rfl | rfl | rfl
    · exact ⟨⟨trivial, trivial, hz⟩, rfl⟩
    · exact ⟨hr, rfl⟩
    · exact ⟨⟨trivial, trivial, trivial, hx⟩, rfl⟩
  refine start_bot 12 hA rfl ?_
  exact go_o (kNoLimit _) ([(2, [0], (actA (strNextX true ch))), (12, [], (extA (eqSX true))), (2, [1], (actA appendA))]) 0 12 (pl 0x430c30c1) (fun _ => .again (c2Lp _ L c I C F)) (fun _ => [okP (C = C ∧ "list" = "list" ∧ (⟨vs⟩ : Array Value).size ≤ sizeLine), okP (((⟨#[ch]⟩ : Str).cps.toList == (Str.ofString "'").cps.toList) = true), okP (I = I ∧ tyS true = tyS true ∧ 0 = 0 ∧ x.cps[i.toNat]? = some ch)]) (fun o z => c2C w true I C F x t (i + 1) (vs ++ [.str ⟨#[ch]⟩ s.toks]) (seqN z 1) (tokK z 2 0) (epZ z 2) (some (.str ⟨#[ch]⟩ s.toks))) 3 H (by exact byR w (fun w o => by kernel_rfl) (fun w o => by kernel_rfl)) (fun o => hp) (fun h' tk' o z H' k' _ => next h' tk' s.toks _ _ _ H' k')
theorem c2_tnf {w : World} {L c I C F : Addr} {x : Str} {t k : Tok} {i : Int} {vs : List Value} {n e ch : Nat} {v : Value} {s : Shared} {A : Around} {Q : PySem.Fin → Shared → Prop} {E : Value → Shared → Prop} (H : Hp (KK w) s.heap (c2C w true I C F x t i vs n k e none)) (hA : Fit A 12) (hx : x.cps[i.toNat]? = some ch) (hr : ([ch] == [39]) = false) (hz : vs.length ≤ sizeLine)
  (next : ∀ h' tk' (tt : Tok) k' e' n', Hp (KK w) h' (c2C w true I C F x t (i + 1) vs n' k' e' (some (.str ⟨#[ch]⟩ s.toks))) → Kept s.heap h' (c2C w true I C F x t i vs n k e none) → Q (.again (c2Lp w L c I C F)) { s with heap := h', toks := tk' }) :
  wpC B (model PG w) A (denZ (c2Lp w L c I C F)) Q E s := by
  have hp : ∀ p ∈ [okP (((⟨#[ch]⟩ : Str).cps.toList == (Str.ofString "'").cps.toList) = false), okP (I = I ∧ tyS true = tyS true ∧ 0 = 0 ∧ x.cps[i.toNat]? = some ch)], p := fun p hp => by
    simp only [List.mem_cons, List.not_mem_nil, or_false] at hp
    rcases hp with rfl | rfl
    · exact ⟨hr, rfl⟩
    · exact ⟨⟨trivial, trivial, trivial, hx⟩, rfl⟩
  refine start_bot 12 hA rfl ?_
  exact go_o (kNoLimit _) ([(2, [0], (actA (strNextX true ch))), (12, [], (extA (eqSX false)))]) 0 12 (pl 0x10c30c1) (fun _ => .again (c2Lp _ L c I C F)) (fun _ => [okP (((⟨#[ch]⟩ : Str).cps.toList == (Str.ofString "'").cps.toList) = false), okP (I = I ∧ tyS true = tyS true ∧ 0 = 0 ∧ x.cps[i.toNat]? = some ch)]) (fun o z => c2C w true I C F x t (i + 1) vs (seqN z 1) (tokK z 2 0) (epZ z 2) (some (.str ⟨#[ch]⟩ s.toks))) 3 H (by exact byR w (fun w o => by kernel_rfl) (fun w o => by kernel_rfl)) (fun o => hp) (fun h' tk' o z H' k' _ => next h' tk' 0 _ _ _ H' k')
theorem c2_tne {w : World} {L c I C F : Addr} {x : Str} {t k : Tok} {i : Int} {vs : List Value} {n e : Nat} {v : Value} {s : Shared} {A : Around} {Q : PySem.Fin → Shared → Prop} {E : Value → Shared → Prop} (H : Hp (KK w) s.heap (c2C w true I C F x t i vs n k e none)) (hA : Fit A 12) (hx : x.cps[i.toNat]? = none)
  (next : ∀ h' tk', Hp (KK w) h' [(I, fldO (tyS true) [.none, .int i 0]), (C, lstO vs n), (F, sgD w.params k e none)] → Kept s.heap h' (c2C w true I C F x t i vs n k e none) → Q (.done .next) { s with heap := h', toks := tk' }) :
  wpC B (model PG w) A (denZ (c2Lp w L c I C F)) Q E s := by
  refine start_bot 12 hA rfl ?_
  exact go_o (kNoLimit _) ([(2, [0], (strStopA true))]) 1 12 (pl 0x1141) (fun _ => .done .next) (fun _ => [okP (I = I ∧ tyS true = tyS true ∧ 0 = 0 ∧ x.cps[i.toNat]? = none)]) (fun o z => [(I, fldO (tyS true) [.none, .int i 0]), (C, lstO vs n), (F, sgD w.params k e none)]) 3 H (fun o => by kernel_rfl) (fun o p hp => by rw [List.mem_singleton.mp hp]; exact ⟨⟨rfl, rfl, rfl, hx⟩, rfl⟩) (fun h' tk' o z H' k' _ => next h' tk' H' k')
theorem c2_tst {w : World} {L c I C F : Addr} {x : Str} {t k : Tok} {i : Int} {vs : List Value} {n e ch : Nat} {v : Value} {s : Shared} {A : Around} {Q : PySem.Fin → Shared → Prop} {E : Value → Shared → Prop} (H : Hp (KK w) s.heap (c2C w true I C F x t i vs n k e (some v))) (hA : Fit A 12) (hx : x.cps[i.toNat]? = some ch) (hr : ([ch] == [39]) = true) (hz : vs.length ≤ sizeLine)
  (next : ∀ h' tk' (tt : Tok) k' e' n', Hp (KK w) h' (c2C w true I C F x t (i + 1) (vs ++ [.str ⟨#[ch]⟩ tt]) n' k' e' (some (.str ⟨#[ch]⟩ s.toks))) → Kept s.heap h' (c2C w true I C F x t i vs n k e (some v)) → Q (.again (c2Lp w L c I C F)) { s with heap := h', toks := tk' }) :
  wpC B (model PG w) A (denZ (c2Lp w L c I C F)) Q E s := by
  have hp : ∀ p ∈ [okP (C = C ∧ "list" = "list" ∧ (⟨vs⟩ : Array Value).size ≤ sizeLine), okP (((⟨#[ch]⟩ : Str).cps.toList == (Str.ofString "'").cps.toList) = true), okP (I = I ∧ tyS true = tyS true ∧ 0 = 0 ∧ x.cps[i.toNat]? = some ch)], p := fun p hp => by
    simp only [List.mem_cons, List.not_mem_nil, or_false] at hp
    rcases hp with rfl | rfl | rfl
    · exact ⟨⟨trivial, trivial, hz⟩, rfl⟩
    · exact ⟨hr, rfl⟩
    · exact ⟨⟨trivial, trivial, trivial, hx⟩, rfl⟩
  refine start_bot 12 hA rfl ?_
  exact go_o (kNoLimit _) ([(2, [0], (actA (strNextX true ch))), (12, [], (extA (eqSX true))), (2, [1], (actA appendA))]) 0 12 (pl 0x430c30c1) (fun _ => .again (c2Lp _ L c I C F)) (fun _ => [okP (C = C ∧ "list" = "list" ∧ (⟨vs⟩ : Array Value).size ≤ sizeLine), okP (((⟨#[ch]⟩ : Str).cps.toList == (Str.ofString "'").cps.toList) = true), okP (I = I ∧ tyS true = tyS true ∧ 0 = 0 ∧ x.cps[i.toNat]? = some ch)]) (fun o z => c2C w true I C F x t (i + 1) (vs ++ [.str ⟨#[ch]⟩ s.toks]) (seqN z 1) (tokK z 2 0) (epZ z 2) (some (.str ⟨#[ch]⟩ s.toks))) 3 H (by exact byR w (fun w o => by kernel_rfl) (fun w o => by kernel_rfl)) (fun o => hp) (fun h' tk' o z H' k' _ => next h' tk' s.toks _ _ _ H' k')
theorem c2_tsf {w : World} {L c I C F : Addr} {x : Str} {t k : Tok} {i : Int} {vs : List Value} {n e ch : Nat} {v : Value} {s : Shared} {A : Around} {Q : PySem.Fin → Shared → Prop} {E : Value → Shared → Prop} (H : Hp (KK w) s.heap (c2C w true I C F x t i vs n k e (some v))) (hA : Fit A 12) (hx : x.cps[i.toNat]? = some ch) (hr : ([ch] == [39]) = false) (hz : vs.length ≤ sizeLine)
  (next : ∀ h' tk' (tt : Tok) k' e' n', Hp (KK w) h' (c2C w true I C F x t (i + 1) vs n' k' e' (some (.str ⟨#[ch]⟩ s.toks))) → Kept s.heap h' (c2C w true I C F x t i vs n k e (some v)) → Q (.again (c2Lp w L c I C F)) { s with heap := h', toks := tk' }) :
  wpC B (model PG w) A (denZ (c2Lp w L c I C F)) Q E s := by
  have hp : ∀ p ∈ [okP (((⟨#[ch]⟩ : Str).cps.toList == (Str.ofString "'").cps.toList) = false), okP (I = I ∧ tyS true = tyS true ∧ 0 = 0 ∧ x.cps[i.toNat]? = some ch)], p := fun p hp => by
    simp only [List.mem_cons, List.not_mem_nil, or_false] at hp
    rcases hp with rfl | rfl
    · exact ⟨hr, rfl⟩
    · exact ⟨⟨trivial, trivial, trivial, hx⟩, rfl⟩
  refine start_bot 12 hA rfl ?_
  exact go_o (kNoLimit _) ([(2, [0], (actA (strNextX true ch))), (12, [], (extA (eqSX false)))]) 0 12 (pl 0x10c30c1) (fun _ => .again (c2Lp _ L c I C F)) (fun _ => [okP (((⟨#[ch]⟩ : Str).cps.toList == (Str.ofString "'").cps.toList) = false), okP (I = I ∧ tyS true = tyS true ∧ 0 = 0 ∧ x.cps[i.toNat]? = some ch)]) (fun o z => c2C w true I C F x t (i + 1) vs (seqN z 1) (tokK z 2 0) (epZ z 2) (some (.str ⟨#[ch]⟩ s.toks))) 3 H (by exact byR w (fun w o => by kernel_rfl) (fun w o => by kernel_rfl)) (fun o => hp) (fun h' tk' o z H' k' _ => next h' tk' 0 _ _ _ H' k')
theorem c2_tse {w : World} {L c I C F : Addr} {x : Str} {t k : Tok} {i : Int} {vs : List Value} {n e : Nat} {v : Value} {s : Shared} {A : Around} {Q : PySem.Fin → Shared → Prop} {E : Value → Shared → Prop} (H : Hp (KK w) s.heap (c2C w true I C F x t i vs n k e (some v))) (hA : Fit A 12) (hx : x.cps[i.toNat]? = none)
  (next : ∀ h' tk', Hp (KK w) h' [(I, fldO (tyS true) [.none, .int i 0]), (C, lstO vs n), (F, sgD w.params k e (some v))] → Kept s.heap h' (c2C w true I C F x t i vs n k e (some v)) → Q (.done .next) { s with heap := h', toks := tk' }) :
  wpC B (model PG w) A (denZ (c2Lp w L c I C F)) Q E s := by
  refine start_bot 12 hA rfl ?_
  exact go_o (kNoLimit _) ([(2, [0], (strStopA true))]) 1 12 (pl 0x1141) (fun _ => .done .next) (fun _ => [okP (I = I ∧ tyS true = tyS true ∧ 0 = 0 ∧ x.cps[i.toNat]? = none)]) (fun o z => [(I, fldO (tyS true) [.none, .int i 0]), (C, lstO vs n), (F, sgD w.params k e (some v))]) 3 H (fun o => by kernel_rfl) (fun o p hp => by rw [List.mem_singleton.mp hp]; exact ⟨⟨rfl, rfl, rfl, hx⟩, rfl⟩) (fun h' tk' o z H' k' _ => next h' tk' H' k')
theorem c2_fnt {w : World} {L c I C F : Addr} {x : Str} {t k : Tok} {i : Int} {vs : List Value} {n e ch : Nat} {v : Value} {s : Shared} {A : Around} {Q : PySem.Fin → Shared → Prop} {E : Value → Shared → Prop} (H : Hp (KK w) s.heap (c2C w false I C F x t i vs n k e none)) (hA : Fit A 12) (hx : x.cps[i.toNat]? = some ch) (hr : ([ch] == [39]) = true) (hz : vs.length ≤ sizeLine)
  (next : ∀ h' tk' (tt : Tok) k' e' n', Hp (KK w) h' (c2C w false I C F x t (i + 1) (vs ++ [.str ⟨#[ch]⟩ tt]) n' k' e' (some (.str ⟨#[ch]⟩ s.toks))) → Kept s.heap h' (c2C w false I C F x t i vs n k e none) → Q (.again (c2Lp w L c I C F)) { s with heap := h', toks := tk' }) :
  wpC B (model PG w) A (denZ (c2Lp w L c I C F)) Q E s := by
  have hp : ∀ p ∈ [okP (C = C ∧ "list" = "list" ∧ (⟨vs⟩ : Array Value).size ≤ sizeLine), okP (((⟨#[ch]⟩ : Str).cps.toList == (Str.ofString "'").cps.toList) = true), okP (I = I ∧ tyS false = tyS false ∧ 0 = 0 ∧ x.cps[i.toNat]? = some ch)], p := fun p hp => by
    simp only [List.mem_cons, List.not_mem_nil, or_false] at hp
    rcases hp with rfl | rfl | rfl
    · exact ⟨⟨trivial, trivial, hz⟩, rfl⟩
    · exact ⟨hr, rfl⟩
    · exact ⟨⟨trivial, trivial, trivial, hx⟩, rfl⟩
  refine start_bot 12 hA rfl ?_
  exact go_o (kNoLimit _) ([(2, [0], (actA (strNextX false ch))), (12, [], (extA (eqSX true))), (2, [1], (actA appendA))]) 0 12 (pl 0x430c30c1) (fun _ => .again (c2Lp _ L c I C F)) (fun _ => [okP (C = C ∧ "list" = "list" ∧ (⟨vs⟩ : Array Value).size ≤ sizeLine), okP (((⟨#[ch]⟩ : Str).cps.toList == (Str.ofString "'").cps.toList) = true), okP (I = I ∧ tyS false = tyS false ∧ 0 = 0 ∧ x.cps[i.toNat]? = some ch)]) (fun o z => c2C w false I C F x t (i + 1) (vs ++ [.str ⟨#[ch]⟩ s.toks]) (seqN z 1) (tokK z 2 0) (epZ z 2) (some (.str ⟨#[ch]⟩ s.toks))) 3 H (by exact byR w (fun w o => by kernel_rfl) (fun w o => by kernel_rfl)) (fun o => hp) (fun h' tk' o z H' k' _ => next h' tk' s.toks _ _ _ H' k')
theorem c2_fnf {w : World} {L c I C F : Addr} {x : Str} {t k : Tok} {i : Int} {vs : List Value} {n e ch : Nat} {v : Value} {s : Shared} {A : Around} {Q : PySem.Fin → Shared → Prop} {E : Value → Shared → Prop} (H : Hp (KK w) s.heap (c2C w false I C F x t i vs n k e none)) (hA : Fit A 12) (hx : x.cps[i.toNat]? = some ch) (hr : ([ch] == [39]) = false) (hz : vs.length ≤ sizeLine)
  (next : ∀ h' tk' (tt : Tok) k' e' n', Hp (KK w) h' (c2C w false I C F x t (i + 1) vs n' k' e' (some (.str ⟨#[ch]⟩ s.toks))) → Kept s.heap h' (c2C w false I C F x t i vs n k e none) → Q (.again (c2Lp w L c I C F)) { s with heap := h', toks := tk' }) :
  wpC B (model PG w) A (denZ (c2Lp w L c I C F)) Q E s := by
  have hp : ∀ p ∈ [okP (((⟨#[ch]⟩ : Str).cps.toList == (Str.ofString "'").cps.toList) = false), okP (I = I ∧ tyS false = tyS false ∧ 0 = 0 ∧ x.cps[i.toNat]? = some ch)], p := fun p hp => by
    simp only [List.mem_cons, List.not_mem_nil, or_false] at hp
    rcases hp with rfl | rfl
    · exact ⟨hr, rfl⟩
    · exact ⟨⟨trivial, trivial, trivial, hx⟩, rfl⟩
  refine start_bot 12 hA rfl ?_
  exact go_o (kNoLimit _) ([(2, [0], (actA (strNextX false ch))), (12, [], (extA (eqSX false)))]) 0 12 (pl 0x10c30c1) (fun _ => .again (c2Lp _ L c I C F)) (fun _ => [okP (((⟨#[ch]⟩ : Str).cps.toList == (Str.ofString "'").cps.toList) = false), okP (I = I ∧ tyS false = tyS false ∧ 0 = 0 ∧ x.cps[i.toNat]? = some ch)]) (fun o z => c2C w false I C F x t (i + 1) vs (seqN z 1) (tokK z 2 0) (epZ z 2) (some (.str ⟨#[ch]⟩ s.toks))) 3 H (by exact byR w (fun w o => by kernel_rfl) (fun w o => by kernel_rfl)) (fun o => hp) (fun h' tk' o z H' k' _ => next h' tk' 0 _ _ _ H' k')
theorem c2_fne {w : World} {L c I C F : Addr} {x : Str} {t k : Tok} {i : Int} {vs : List Value} {n e : Nat} {v : Value} {s : Shared} {A : Around} {Q : PySem.Fin → Shared → Prop} {E : Value → Shared → Prop} (H : Hp (KK w) s.heap (c2C w false I C F x t i vs n k e none)) (hA : Fit A 12) (hx : x.cps[i.toNat]? = none)
  (next : ∀ h' tk', Hp (KK w) h' [(I, fldO (tyS false) [.none, .int i 0]), (C, lstO vs n), (F, sgD w.params k e none)] → Kept s.heap h' (c2C w false I C F x t i vs n k e none) → Q (.done .next) { s with heap := h', toks := tk' }) :
  wpC B (model PG w) A (denZ (c2Lp w L c I C F)) Q E s := by
  refine start_bot 12 hA rfl ?_
  exact go_o (kNoLimit _) ([(2, [0], (strStopA false))]) 1 12 (pl 0x1141) (fun _ => .done .next) (fun _ => [okP (I = I ∧ tyS false = tyS false ∧ 0 = 0 ∧ x.cps[i.toNat]? = none)]) (fun o z => [(I, fldO (tyS false) [.none, .int i 0]), (C, lstO vs n), (F, sgD w.params k e none)]) 3 H (fun o => by kernel_rfl) (fun o p hp => by rw [List.mem_singleton.mp hp]; exact ⟨⟨rfl, rfl, rfl, hx⟩, rfl⟩) (fun h' tk' o z H' k' _ => next h' tk' H' k')
theorem c2_fst {w : World} {L c I C F : Addr} {x : Str} {t k : Tok} {i : Int} {vs : List Value} {n e ch : Nat} {v : Value} {s : Shared} {A : Around} {Q : PySem.Fin → Shared → Prop} {E : Value → Shared → Prop} (H : Hp (KK w) s.heap (c2C w false I C F x t i vs n k e (some v))) (hA : Fit A 12) (hx : x.cps[i.toNat]? = some ch) (hr : ([ch] == [39]) = true) (hz : vs.length ≤ sizeLine)
  (next : ∀ h' tk' (tt : Tok) k' e' n', Hp (KK w) h' (c2C w false I C F x t (i + 1) (vs ++ [.str ⟨#[ch]⟩ tt]) n' k' e' (some (.str ⟨#[ch]⟩ s.toks))) → Kept s.heap h' (c2C w false I C F x t i vs n k e (some v)) → Q (.again (c2Lp w L c I C F)) { s with heap := h', toks := tk' }) :
  wpC B (model PG w) A (denZ (c2Lp w L c I C F)) Q E s := by
  have hp : ∀ p ∈ [okP (C = C ∧ "list" = "list" ∧ (⟨vs⟩ : Array Value).size ≤ sizeLine), okP (((⟨#[ch]⟩ : Str).cps.toList == (Str.ofString "'").cps.toList) = true), okP (I = I ∧ tyS false = tyS false ∧ 0 = 0 ∧ x.cps[i.toNat]? = some ch)], p := fun p hp => by
    simp only [List.mem_cons, List.not_mem_nil, or_false] at hp
    rcases hp with rfl | rfl | rfl
    · exact ⟨⟨trivial, trivial, hz⟩, rfl⟩
    · exact ⟨hr, rfl⟩
    · exact ⟨⟨trivial, trivial, trivial, hx⟩, rfl⟩
  refine start_bot 12 hA rfl ?_
  exact go_o (kNoLimit _) ([(2, [0], (actA (strNextX false ch))), (12, [], (extA (eqSX true))), (2, [1], (actA appendA))]) 0 12 (pl 0x430c30c1) (fun _ => .again (c2Lp _ L c I C F)) (fun _ => [okP (C = C ∧ "list" = "list" ∧ (⟨vs⟩ : Array Value).size ≤ sizeLine), okP (((⟨#[ch]⟩ : Str).cps.toList == (Str.ofString "'").cps.toList) = true), okP (I = I ∧ tyS false = tyS false ∧ 0 = 0 ∧ x.cps[i.toNat]? = some ch)]) (fun o z => c2C w false I C F x t (i + 1) (vs ++ [.str ⟨#[ch]⟩ s.toks]) (seqN z 1) (tokK z 2 0) (epZ z 2) (some (.str ⟨#[ch]⟩ s.toks))) 3 H (by exact byR w (fun w o => by kernel_rfl) (fun w o => by kernel_rfl)) (fun o => hp) (fun h' tk' o z H' k' _ => next h' tk' s.toks _ _ _ H' k')
theorem c2_fsf {w : World} {L c I C F : Addr} {x : Str} {t k : Tok} {i : Int} {vs : List Value} {n e ch : Nat} {v : Value} {s : Shared} {A : Around} {Q : PySem.Fin → Shared → Prop} {E : Value → Shared → Prop} (H : Hp (KK w) s.heap (c2C w false I C F x t i vs n k e (some v))) (hA : Fit A 12) (hx : x.cps[i.toNat]? = some ch) (hr : ([ch] == [39]) = false) (hz : vs.length ≤ sizeLine)
  (next : ∀ h' tk' (tt : Tok) k' e' n', Hp (KK w) h' (c2C w false I C F x t (i + 1) vs n' k' e' (some (.str ⟨#[ch]⟩ s.toks))) → Kept s.heap h' (c2C w false I C F x t i vs n k e (some v)) → Q (.again (c2Lp w L c I C F)) { s with heap := h', toks := tk' }) :
  wpC B (model PG w) A (denZ (c2Lp w L c I C F)) Q E s := by
  have hp : ∀ p ∈ [okP (((⟨#[ch]⟩ : Str).cps.toList == (Str.ofString "'").cps.toList) = false), okP (I = I ∧ tyS false = tyS false ∧ 0 = 0 ∧ x.cps[i.toNat]? = some ch)], p := fun p hp => by
    simp only [List.mem_cons, List.not_mem_nil, or_false] at hp
    rcases hp with rfl | rfl
    · exact ⟨hr, rfl⟩
    · exact ⟨⟨trivial, trivial, trivial, hx⟩, rfl⟩
  refine start_bot 12 hA rfl ?_
  exact go_o (kNoLimit _) ([(2, [0], (actA (strNextX false ch))), (12, [], (extA (eqSX false)))]) 0 12 (pl 0x10c30c1) (fun _ => .again (c2Lp _ L c I C F)) (fun _ => [okP (((⟨#[ch]⟩ : Str).cps.toList == (Str.ofString "'").cps.toList) = false), okP (I = I ∧ tyS false = tyS false ∧ 0 = 0 ∧ x.cps[i.toNat]? = some ch)]) (fun o z => c2C w false I C F x t (i + 1) vs (seqN z 1) (tokK z 2 0) (epZ z 2) (some (.str ⟨#[ch]⟩ s.toks))) 3 H (by exact byR w (fun w o => by kernel_rfl) (fun w o => by kernel_rfl)) (fun o => hp) (fun h' tk' o z H' k' _ => next h' tk' 0 _ _ _ H' k')
theorem c2_fse {w : World} {L c I C F : Addr} {x : Str} {t k : Tok} {i : Int} {vs : List Value} {n e : Nat} {v : Value} {s : Shared} {A : Around} {Q : PySem.Fin → Shared → Prop} {E : Value → Shared → Prop} (H : Hp (KK w) s.heap (c2C w false I C F x t i vs n k e (some v))) (hA : Fit A 12) (hx : x.cps[i.toNat]? = none)
  (next : ∀ h' tk', Hp (KK w) h' [(I, fldO (tyS false) [.none, .int i 0]), (C, lstO vs n), (F, sgD w.params k e (some v))] → Kept s.heap h' (c2C w false I C F x t i vs n k e (some v)) → Q (.done .next) { s with heap := h', toks := tk' }) :
  wpC B (model PG w) A (denZ (c2Lp w L c I C F)) Q E s := by
  refine start_bot 12 hA rfl ?_
  exact go_o (kNoLimit _) ([(2, [0], (strStopA false))]) 1 12 (pl 0x1141) (fun _ => .done .next) (fun _ => [okP (I = I ∧ tyS false = tyS false ∧ 0 = 0 ∧ x.cps[i.toNat]? = none)]) (fun o z => [(I, fldO (tyS false) [.none, .int i 0]), (C, lstO vs n), (F, sgD w.params k e (some v))]) 3 H (fun o => by kernel_rfl) (fun o p hp => by rw [List.mem_singleton.mp hp]; exact ⟨⟨rfl, rfl, rfl, hx⟩, rfl⟩) (fun h' tk' o z H' k' _ => next h' tk' H' k')
inductive c2Post (w : World) (I C F : Addr) (l : List Nat) (h0 : Heap) (cs0 : Cells) (f : Flow) (h : Heap) : Prop
  | mk (hf : f = .next) (it : Obj) (vs : List Value) (n : Nat) (k : Tok) (e : Nat) (ov : Option Value) (hl : vs.length = (l.filter fun ch => [ch] == [39]).length) (H : Hp (KK w) h [(I, it), (C, lstO vs n), (F, sgD w.params k e ov)]) (q : Kept h0 h cs0)
inductive c2I (w : World) (asc : Bool) (I C F : Addr) (t : Tok) (l : List Nat) (h0 : Heap) (cs0 : Cells) (m : Nat) (h : Heap) : Prop
  | mk (j : Nat) (vs : List Value) (n : Nat) (k : Tok) (e : Nat) (ov : Option Value) (hm : m = l.length - j) (hj : j ≤ l.length) (hl : vs.length = ((l.take j).filter fun ch => [ch] == [39]).length) (H : Hp (KK w) h (c2C w asc I C F ⟨⟨l⟩⟩ t ((j : Nat) : Int) vs n k e ov)) (q : Kept h0 h cs0)
theorem c2_loop {w : World} {asc : Bool} {L c I C F : Addr} {l : List Nat} {t k : Tok} {e : Nat} {s : Shared} (hl : l.length ≤ sizeLine) (H : Hp (KK w) s.heap (c2C w asc I C F ⟨⟨l⟩⟩ t 0 [] 0 k e none)) :
  CtrF B PG w (c2Lp w L c I C F) 13 s (c2Post w I C F l s.heap (c2C w asc I C F ⟨⟨l⟩⟩ t 0 [] 0 k e none)) := by
  refine ctr_loop (s := s) rfl rfl 12 (c2I w asc I C F t l s.heap (c2C w asc I C F ⟨⟨l⟩⟩ t 0 [] 0 k e none)) ?_ l.length
    ⟨0, [], 0, k, e, none, rfl, Nat.zero_le _, rfl, H, Kept.refl _ _⟩
  rintro m h tk A hA ⟨j, vs, n, k1, e1, ov, rfl, hj, hg, H1, q1⟩
  have hvl : vs.length ≤ sizeLine := by rw [hg]; exact Nat.le_trans (List.length_filter_le _ _) (by rw [List.length_take]; omega)
  by_cases hlt : j < l.length
  · have hx : (⟨⟨l⟩⟩ : Str).cps[(((j : Nat) : Int)).toNat]? = some l[j] := by simp [hlt]
    have htk : l.take (j + 1) = l.take j ++ [l[j]] := by rw [List.take_add_one, List.getElem?_eq_getElem hlt]; rfl
    cases hr : ([l[j]] == [39]) with
    | false =>
      have hg2 : vs.length = ((l.take (j + 1)).filter fun ch => [ch] == [39]).length := by
        rw [htk, List.filter_append, List.length_append, hg]
        simp only [List.filter_cons, List.filter_nil, hr, Bool.not_false, Bool.not_true, ↓reduceIte, Bool.false_eq_true, List.length_cons, List.length_nil, Nat.add_zero, Nat.zero_add]
      cases asc <;> rcases ov with _ | v
      · exact c2_fnf (v := .none) (s := { s with heap := h, toks := tk }) H1 hA hx hr hvl fun h' tk' tt k' e' n' H' k2 => ⟨h', tk', rfl, .inl ⟨rfl, l.length - (j + 1), by omega, j + 1, _, n', k', e', _, rfl, hlt, hg2, H', q1.trans k2 fun b _ hb => hb⟩⟩
      · exact c2_fsf (s := { s with heap := h, toks := tk }) H1 hA hx hr hvl fun h' tk' tt k' e' n' H' k2 => ⟨h', tk', rfl, .inl ⟨rfl, l.length - (j + 1), by omega, j + 1, _, n', k', e', _, rfl, hlt, hg2, H', q1.trans k2 fun b _ hb => hb⟩⟩
      · exact c2_tnf (v := .none) (s := { s with heap := h, toks := tk }) H1 hA hx hr hvl fun h' tk' tt k' e' n' H' k2 => ⟨h', tk', rfl, .inl ⟨rfl, l.length - (j + 1), by omega, j + 1, _, n', k', e', _, rfl, hlt, hg2, H', q1.trans k2 fun b _ hb => hb⟩⟩
      · exact c2_tsf (s := { s with heap := h, toks := tk }) H1 hA hx hr hvl fun h' tk' tt k' e' n' H' k2 => ⟨h', tk', rfl, .inl ⟨rfl, l.length - (j + 1), by omega, j + 1, _, n', k', e', _, rfl, hlt, hg2, H', q1.trans k2 fun b _ hb => hb⟩⟩
    | true =>
      have hg2 : vs.length + 1 = ((l.take (j + 1)).filter fun ch => [ch] == [39]).length := by
        rw [htk, List.filter_append, List.length_append, hg]
        simp only [List.filter_cons, List.filter_nil, hr, Bool.not_false, Bool.not_true, ↓reduceIte, Bool.false_eq_true, List.length_cons, List.length_nil, Nat.add_zero, Nat.zero_add]
      cases asc <;> rcases ov with _ | v
      · exact c2_fnt (v := .none) (s := { s with heap := h, toks := tk }) H1 hA hx hr hvl fun h' tk' tt k' e' n' H' k2 => ⟨h', tk', rfl, .inl ⟨rfl, l.length - (j + 1), by omega, j + 1, _, n', k', e', _, rfl, hlt, by rw [← hg2, List.length_append]; rfl, H', q1.trans k2 fun b _ hb => hb⟩⟩
      · exact c2_fst (s := { s with heap := h, toks := tk }) H1 hA hx hr hvl fun h' tk' tt k' e' n' H' k2 => ⟨h', tk', rfl, .inl ⟨rfl, l.length - (j + 1), by omega, j + 1, _, n', k', e', _, rfl, hlt, by rw [← hg2, List.length_append]; rfl, H', q1.trans k2 fun b _ hb => hb⟩⟩
      · exact c2_tnt (v := .none) (s := { s with heap := h, toks := tk }) H1 hA hx hr hvl fun h' tk' tt k' e' n' H' k2 => ⟨h', tk', rfl, .inl ⟨rfl, l.length - (j + 1), by omega, j + 1, _, n', k', e', _, rfl, hlt, by rw [← hg2, List.length_append]; rfl, H', q1.trans k2 fun b _ hb => hb⟩⟩
      · exact c2_tst (s := { s with heap := h, toks := tk }) H1 hA hx hr hvl fun h' tk' tt k' e' n' H' k2 => ⟨h', tk', rfl, .inl ⟨rfl, l.length - (j + 1), by omega, j + 1, _, n', k', e', _, rfl, hlt, by rw [← hg2, List.length_append]; rfl, H', q1.trans k2 fun b _ hb => hb⟩⟩
  · have hjl : j = l.length := by omega
    subst hjl
    rw [List.take_length] at hg
    have hx : (⟨⟨l⟩⟩ : Str).cps[(((l.length : Nat) : Int)).toNat]? = none := by simp
    cases asc <;> rcases ov with _ | v
    · exact c2_fne (v := .none) (s := { s with heap := h, toks := tk }) H1 hA hx fun h' tk' H' k' => ⟨h', tk', rfl, rfl, _, _, _, _, _, _, hg, H', q1.trans k' fun b _ hb => hb⟩
    · exact c2_fse (s := { s with heap := h, toks := tk }) H1 hA hx fun h' tk' H' k' => ⟨h', tk', rfl, rfl, _, _, _, _, _, _, hg, H', q1.trans k' fun b _ hb => hb⟩
    · exact c2_tne (v := .none) (s := { s with heap := h, toks := tk }) H1 hA hx fun h' tk' H' k' => ⟨h', tk', rfl, rfl, _, _, _, _, _, _, hg, H', q1.trans k' fun b _ hb => hb⟩
    · exact c2_tse (s := { s with heap := h, toks := tk }) H1 hA hx fun h' tk' H' k' => ⟨h', tk', rfl, rfl, _, _, _, _, _, _, hg, H', q1.trans k' fun b _ hb => hb⟩
theorem c2_ctr {w : World} {asc : Bool} {L c I C F : Addr} {l : List Nat} {t k : Tok} {e : Nat} {s : Shared} (hl : l.length ≤ sizeLine) (H : Hp (KK w) s.heap (c2C w asc I C F ⟨⟨l⟩⟩ t 0 [] 0 k e none)) :
  CtrF B PG w (c2St w L c I C F) 13 s (c2Post w I C F l s.heap (c2C w asc I C F ⟨⟨l⟩⟩ t 0 [] 0 k e none)) := by
  refine ctr_again (c' := c2Lp w L c I C F) 12 rfl rfl fun A hA => ?_
  have fin : ∀ h' tk', Hp (KK w) h' (c2C w asc I C F ⟨⟨l⟩⟩ t 0 [] 0 k e none) → Kept s.heap h' (c2C w asc I C F ⟨⟨l⟩⟩ t 0 [] 0 k e none) →
      (PySem.Fin.again (c2Lp w L c I C F) = .again (c2Lp w L c I C F) ∧ ∃ h2 tk2, ({ s with heap := h', toks := tk' } : Shared) = { s with heap := h2, toks := tk2 } ∧ CtrF B PG w (c2Lp w L c I C F) 13 { s with heap := h', toks := tk' } (c2Post w I C F l s.heap (c2C w asc I C F ⟨⟨l⟩⟩ t 0 [] 0 k e none))) := fun h' tk' H' k' =>
    ⟨rfl, h', tk', rfl, fun A R hA hR => c2_loop (s := { s with heap := h', toks := tk' }) hl H' A R hA fun f h2 tk2 ⟨e0, it, vs, n, k1, e1, ov, hg, H2, k2⟩ => hR f h2 tk2 ⟨e0, it, vs, n, k1, e1, ov, hg, H2, k'.trans k2 fun b _ hb => hb⟩⟩
  refine start_bot 12 hA rfl ?_
  obtain ⟨w, b2, rfl⟩ := row_world "comprehension-iter-twice" w
  cases asc <;> cases b2
  · skip
    exact go_o (kNoLimit _) [] 11 12 (pl 0x1041041) (fun _ => .again (c2Lp _ L c I C F)) (fun _ => []) (fun o z => c2C (w.withFollow "comprehension-iter-twice" false) false I C F ⟨⟨l⟩⟩ t 0 [] 0 k e none) 3 H (by exact byR w (fun w o => by kernel_rfl) (fun w o => by kernel_rfl)) (fun o p hp => absurd hp List.not_mem_nil) (fun h' tk' o z H' k' _ => fin h' tk' H' k')
  · skip
    exact go_o (kNoLimit _) [] 1 12 (pl 0x1) (fun _ => .again (c2Lp _ L c I C F)) (fun _ => []) (fun o z => c2C (w.withFollow "comprehension-iter-twice" true) false I C F ⟨⟨l⟩⟩ t 0 [] 0 k e none) 3 H (by exact byR w (fun w o => by kernel_rfl) (fun w o => by kernel_rfl)) (fun o p hp => absurd hp List.not_mem_nil) (fun h' tk' o z H' k' _ => fin h' tk' H' k')
  · skip
    exact go_o (kNoLimit _) [] 11 12 (pl 0x1041041) (fun _ => .again (c2Lp _ L c I C F)) (fun _ => []) (fun o z => c2C (w.withFollow "comprehension-iter-twice" false) true I C F ⟨⟨l⟩⟩ t 0 [] 0 k e none) 3 H (by exact byR w (fun w o => by kernel_rfl) (fun w o => by kernel_rfl)) (fun o p hp => absurd hp List.not_mem_nil) (fun h' tk' o z H' k' _ => fin h' tk' H' k')
  · skip
    exact go_o (kNoLimit _) [] 1 12 (pl 0x1) (fun _ => .again (c2Lp _ L c I C F)) (fun _ => []) (fun o z => c2C (w.withFollow "comprehension-iter-twice" true) true I C F ⟨⟨l⟩⟩ t 0 [] 0 k e none) 3 H (by exact byR w (fun w o => by kernel_rfl) (fun w o => by kernel_rfl)) (fun o p hp => absurd hp List.not_mem_nil) (fun h' tk' o z H' k' _ => fin h' tk' H' k')
end Mine
end PLC1
section PLS
open PySem PySem.W PyProof.Rows PySem.Calls
open PySem.Builtin.Str (occurrences)
set_option maxHeartbeats 0
namespace Mine
variable {B : Bool}
noncomputable def lsF0 (P : Params) (k1 : Tok) (l : List Nat) (t : Tok) : Obj := frmO [ent P "word" k1 (.str ⟨⟨l⟩⟩ t)] 1
noncomputable def celN : Obj := ⟨.type "cell", none, .cell none, #[]⟩
noncomputable def sizeW (l : List Nat) : Nat := if l ≠ [] ∧ (l.filter fun ch => !hasS safeV ch) = [] then l.length else l.length + 2 + 4 * (l.filter fun ch => [ch] == [39]).length
noncomputable def lsC (w : World) (L c : Addr) (k1 : Tok) (l : List Nat) (t ts : Tok) : Cells := [(L, lsF0 w.params k1 l t), (c, celO (.str safeV ts))]
section
variable {w : World} {L c : Addr} {k1 : Tok} {l : List Nat} {t ts : Tok} {s : Shared} {A : Around} {Q : Flow → Shared → Prop} {E : Value → Shared → Prop}
/-! cells of a comprehension beside the frame's -/
theorem lsPerm {K : Sta} {h : Heap} {x y a b d : Addr × Obj} (H : Hp K h ([x, y] ++ [a, b, d])) : Hp K h [a, b, d, y] := by
  refine H.sub (fun p hp => ?_) ?_
  · simp only [List.mem_cons, List.not_mem_nil, or_false, List.cons_append, List.nil_append] at hp ⊢
    rcases hp with rfl | rfl | rfl | rfl <;> simp
  · have nd := H.nd
    simp only [List.map_cons, List.map_nil, List.nodup_cons, List.mem_cons, List.not_mem_nil, or_false, not_or, not_false_eq_true, and_true, List.nodup_nil, List.cons_append, List.nil_append] at nd ⊢
    obtain ⟨⟨_, _, _, _⟩, ⟨h5, h6, h7⟩, ⟨h8, h9⟩, h10⟩ := nd
    exact ⟨⟨h8, h9, fun e => h5 e.symm⟩, ⟨h10, fun e => h6 e.symm⟩, fun e => h7 e.symm⟩
theorem lsBack {K : Sta} {h h' : Heap} {x y a b d a' b' d' y' : Addr × Obj} (H : Hp K h ([x, y] ++ [a, b, d])) (k : Kept h h' [a, b, d, y']) (H' : Hp K h' [a', b', d', y]) (ea : a'.1 = a.1 := by rfl) (eb : b'.1 = b.1 := by rfl) (ed : d'.1 = d.1 := by rfl) (ey : y'.1 = y.1 := by rfl) : Hp K h' ([x, y] ++ [a', b', d']) := by
  have nd := H.nd
  refine ⟨H'.st, fun p hp => ?_, ?_, fun p hp => ?_⟩
  · simp only [List.mem_cons, List.not_mem_nil, or_false, List.cons_append, List.nil_append] at hp
    rcases hp with rfl | rfl | rfl | rfl | rfl
    · refine k _ _ (H.ce _ (by simp)) ?_
      simp only [List.map_cons, List.map_nil, List.nodup_cons, List.mem_cons, List.not_mem_nil, or_false, not_or, List.cons_append, List.nil_append] at nd ⊢
      rw [ey]
      exact ⟨nd.1.2.1, nd.1.2.2.1, nd.1.2.2.2, nd.1.1⟩
    · exact H'.ce _ (by simp)
    · exact H'.ce _ (by simp)
    · exact H'.ce _ (by simp)
    · exact H'.ce _ (by simp)
  · simp only [List.map_cons, List.map_nil, List.cons_append, List.nil_append, ea, eb, ed] at nd ⊢
    exact nd
  · simp only [List.mem_cons, List.not_mem_nil, or_false, List.cons_append, List.nil_append] at hp
    rcases hp with rfl | rfl | rfl | rfl | rfl
    · exact H.off _ (by simp)
    · exact H.off _ (by simp)
    · exact H'.off _ (by simp)
    · exact H'.off _ (by simp)
    · exact H'.off _ (by simp)
theorem lsMem {x y a b d y' : Addr × Obj} (ey : y'.1 = y.1 := by rfl) : ∀ q ∈ [a, b, d, y'].map (·.1), q ∈ ([x, y] ++ [a, b, d]).map (·.1) := fun q hq => by
  simp only [List.map_cons, List.map_nil, List.mem_cons, List.not_mem_nil, or_false, List.cons_append, List.nil_append, ey] at hq ⊢
  rcases hq with rfl | rfl | rfl | rfl <;> simp
theorem lsDrop {K : Sta} {h : Heap} {x y a b : Addr × Obj} (H : Hp K h ([x, y] ++ [a, b])) : Hp K h ([x, y] ++ [b]) := by
  refine H.sub (fun p hp => ?_) ?_
  · simp only [List.mem_cons, List.not_mem_nil, or_false, List.cons_append, List.nil_append] at hp ⊢
    rcases hp with rfl | rfl | rfl <;> simp
  · have nd := H.nd
    simp only [List.map_cons, List.map_nil, List.nodup_cons, List.mem_cons, List.not_mem_nil, or_false, not_or, not_false_eq_true, and_true, List.nodup_nil, List.cons_append, List.nil_append] at nd ⊢
    exact ⟨⟨nd.1.1, nd.1.2.2⟩, nd.2.1.2⟩
theorem ls_st1 {rest : List Stmt} (H : Hp (KK w) s.heap [(L, lsF0 w.params k1 l t), (c, celN)]) (hA : Fit A 16)
  (next : ∀ h' tk' ts, Hp (KK w) h' (lsC w L c k1 l t ts) → Kept s.heap h' [(L, lsF0 w.params k1 l t), (c, celN)] → wpC B (model PG w) A (execs rest (lsEnv w L c)) Q E { s with heap := h', toks := tk' }) :
  wpC B (model PG w) A (execs (hdS (lsB w) :: rest) (lsEnv w L c)) Q E s := by
  refine execs_one (start_bot 16 hA (execsZ_eq _ _) ?_)
  exact go_o (kNoLimit _) [] 7 16 (pl 0x1082) (fun _ => .next) (fun _ => []) (fun o z => lsC w L c k1 l t s.toks) 2 H (fun o => by kernel_rfl) (fun o p hp => absurd hp List.not_mem_nil) (fun h' tk' o z H' k' _ => next h' tk' _ H' k')
noncomputable def lsT (w : World) (i : Nat) : PySem.Expr := (bopV2 (ifT (lsB w).tail)).getD i default
theorem ls_t1 {Q : Bool → Shared → Prop} (H : Hp (KK w) s.heap (lsC w L c k1 l t ts)) (hA : Fit A 16)
  (next : ∀ h' tk', Hp (KK w) h' (lsC w L c k1 l t ts) → Kept s.heap h' (lsC w L c k1 l t ts) → Q (!l.isEmpty) { s with heap := h', toks := tk' }) :
  wpC B (model PG w) A (isTrue (lsT w 0) (lsEnv w L c) (eval (lsT w 0) (lsEnv w L c))) Q E s := by
  have hr : ((⟨⟨l⟩⟩ : Str).cps.toList != (Str.ofString "").cps.toList) = !l.isEmpty := by cases l <;> rfl
  refine start_bot 16 hA (testZ_eq _ _) ?_
  exact go_o (kNoLimit _) ([(5, [], (extA (neSX (!l.isEmpty))))]) 0 16 (pl 0x41) (fun _ => !l.isEmpty) (fun _ => [okP (((⟨⟨l⟩⟩ : Str).cps.toList != (Str.ofString "").cps.toList) = !l.isEmpty)]) (fun o z => lsC w L c k1 l t ts) 2 H (by exact byR w (fun w o => by kernel_rfl) (fun w o => by kernel_rfl)) (fun o p hp => by rw [List.mem_singleton.mp hp]; exact ⟨hr, rfl⟩) (fun h' tk' o z H' k' _ => next h' tk' H' k')
theorem asc_is (l : List Nat) : ∃ asc : Bool, (⟨⟨l⟩⟩ : Str).cps.all (· < 128) = asc := ⟨_, rfl⟩
theorem empty_len {α β : Type} {a : List α} {b : List β} (h : a.length = b.length) : a.isEmpty = b.isEmpty := by cases a <;> cases b <;> simp_all
theorem ls_t2 {Q : Bool → Shared → Prop} (hl : l.length ≤ sizeLine) (H : Hp (KK w) s.heap (lsC w L c k1 l t ts)) (hA : Fit A 16)
  (next : ∀ h' tk', Hp (KK w) h' (lsC w L c k1 l t ts) → Kept s.heap h' (lsC w L c k1 l t ts) → Q (l.filter fun ch => !hasS safeV ch).isEmpty { s with heap := h', toks := tk' }) :
  wpC B (model PG w) A (isTrue (lsT w 1) (lsEnv w L c) (eval (lsT w 1) (lsEnv w L c))) Q E s := by
  obtain ⟨asc, hasc⟩ := asc_is l
  have hu : A.units < cLine := by have := hA.2.1; omega
  rw [show lsT w 1 = .Compare (lsE1 w) [.Eq] [cmpR (lsT w 1)] (cmpP (lsT w 1)) by kernel_rfl]
  refine wpC_isTrue_Compare1 ?_ (by kernel_rfl)
  have main : ∀ h1 tk1 a vs n, Hp (KK w) h1 (lsC w L c k1 l t ts ++ [(a, lstO vs n)]) → Kept s.heap h1 (lsC w L c k1 l t ts) → (∀ o, s.heap.get? a ≠ some o) → vs.isEmpty = (l.filter fun ch => !hasS safeV ch).isEmpty →
      wpC B (model PG w) A (eval (cmpR (lsT w 1)) (lsEnv w L c)) (fun b s₂ => wpC B (model PG w) A (compareOp .Eq (.ref a) b) (fun c s₃ => wpC B (model PG w) A (truthy c) Q E s₃) E s₂) E { s with heap := h1, toks := tk1 } := by
    intro h1 tk1 a vs n H1 q1 ha hev
    refine start_bot (s := { s with heap := h1, toks := tk1 }) 16 hA (evalZ_eq _ _) ?_
    refine go_o (s := { s with heap := h1, toks := tk1 }) (kNoLimit _) [] 2 16 (pl 0x1) (fun _ => .ref (h1.objs.size + 0)) (fun _ => []) (fun o z => lsC w L c k1 l t ts ++ [(a, lstO vs n), (h1.objs.size + 0, lstO [] 0)]) 4 H1 (fun o => by kernel_rfl) (fun o p hp => absurd hp List.not_mem_nil) (fun h2 tk2 o z H2 q2 _ => ?_)
    have a1 : h2.get? a = some (lstO vs n) := H2.ce (a, lstO vs n) (List.mem_of_getElem? (i := 2) rfl)
    have a2 : h2.get? (h1.objs.size + 0) = some (lstO [] 0) := H2.ce (h1.objs.size + 0, lstO [] 0) (List.mem_of_getElem? (i := 3) rfl)
    have hq : Q vs.isEmpty { s with heap := h2, toks := tk2 } := by
      rw [hev]
      refine next h2 tk2 H2.left (q1.trans q2 fun b ⟨ob, eo⟩ hb => ?_)
      rw [List.map_append] at hb
      rcases List.mem_append.mp hb with hb | hb
      · exact hb
      · simp only [List.map_cons, List.map_nil, List.mem_cons, List.not_mem_nil, or_false] at hb
        subst hb
        exact absurd eo (ha ob)
    have fin : ∀ b, b = vs.isEmpty → wpC B (model PG w) A (truthy (.bool b)) Q E { s with heap := h2, toks := tk2 } := fun b hb => by
      subst hb
      exact wpC_of (wpAny_truthy_bool hq)
    cases vs with
    | nil => exact wpC_of (SeqAt.eq_listAt (items := #[]) (items2 := #[]) (e := fun _ => true) ⟨_, a1, rfl, n, rfl⟩ ⟨_, a2, rfl, 0, rfl⟩ rfl hu (fun j h => absurd h (Nat.not_lt_zero j)) (fin _ rfl))
    | cons v vs => exact wpC_of (SeqAt.eq_list_lengthsAt (items := ⟨v :: vs⟩) (items2 := #[]) ⟨_, a1, rfl, n, rfl⟩ ⟨_, a2, rfl, 0, rfl⟩ (by simp) hu (fin _ rfl))
  refine start_bot 16 hA (evalZ_eq _ _) ?_
  cases asc
  · skip
    refine go_oc (kNoLimit _) [(4, [], (newA (strIterX false)))] 3 16 (pl 0x10c1) (fun _ => c1St w L c (s.heap.objs.size + 0) (s.heap.objs.size + 1) (s.heap.objs.size + 2)) (fun _ => [okP ((⟨⟨l⟩⟩ : Str).cps.all (· < 128) = false)]) (fun _ z => lsC w L c k1 l t ts ++ [(s.heap.objs.size + 0, fldO (tyS false) [.str ⟨⟨l⟩⟩ t, .int 0 0]), (s.heap.objs.size + 1, lstO [] 0), (s.heap.objs.size + 2, sgD w.params 0 0 none)]) 5 16 H (by exact byR w (fun w o => by kernel_rfl) (fun w o => by kernel_rfl)) (fun o p hp => by rw [List.mem_singleton.mp hp]; exact ⟨hasc, rfl⟩) fun h1 tk1 o1 z1 H1 q1 q1' hc1 => ?_
    have H1' : Hp (KK w) h1 (c1C w false (s.heap.objs.size + 0) (s.heap.objs.size + 1) (s.heap.objs.size + 2) c ⟨⟨l⟩⟩ t 0 [] 0 0 0 none ts) := lsPerm H1
    refine callF_ok hc1 (CtrF.mono (c1_ctr (s := { s with heap := h1, toks := tk1 }) hl H1') (by omega)) fun f h2 tk2 hf => ?_
    obtain ⟨rfl, it, vs, n, k2, e2, ov, hg, H2, q2⟩ := hf
    have H3 : Hp (KK w) h2 (lsC w L c k1 l t ts ++ [(s.heap.objs.size + 0, it), (s.heap.objs.size + 1, lstO vs n), (s.heap.objs.size + 2, sgD w.params k2 e2 ov)]) := lsBack H1 q2 H2
    have K3 : Kept s.heap h2 (lsC w L c k1 l t ts) := q1' _ (q2.more lsMem)
    have hev : vs.isEmpty = (l.filter fun ch => !hasS safeV ch).isEmpty := empty_len hg
    have hfresh : ∀ o, s.heap.get? (s.heap.objs.size + 1) ≠ some o := fun o e => Nat.not_lt.mpr (Nat.le_add_right _ _) (Heap.lt_size e)
    have hnew : ∀ b, (∃ o, s.heap.get? b = some o) → b ∈ (lsC w L c k1 l t ts ++ [(s.heap.objs.size + 0, it), (s.heap.objs.size + 1, lstO vs n), (s.heap.objs.size + 2, sgD w.params k2 e2 ov)]).map (·.1) → b ∈ (lsC w L c k1 l t ts).map (·.1) := fun b ⟨ob, eo⟩ hb => by
      rw [List.map_append] at hb
      rcases List.mem_append.mp hb with hb | hb
      · exact hb
      · exfalso
        have := Heap.lt_size eo
        simp only [List.map_cons, List.map_nil, List.mem_cons, List.not_mem_nil, or_false] at hb
        rcases hb with rfl | rfl | rfl
        · exact Nat.lt_irrefl _ this
        · exact Nat.not_lt.mpr (Nat.le_add_right _ _) this
        · exact Nat.not_lt.mpr (Nat.le_add_right _ _) this
    clear hc1 q1' H1'
    rcases ov with _ | v
    · skip
      exact go_o (s := { s with heap := h2, toks := tk2 }) (kNoLimit _) [] 1 16 (pl 0x45) (fun _ => .ref (s.heap.objs.size + 1)) (fun _ => []) (fun o z => lsC w L c k1 l t ts ++ [(s.heap.objs.size + 0, objZ z 2), (s.heap.objs.size + 1, lstO vs n)]) 4 H3 (by exact byR w (fun w o => by kernel_rfl) (fun w o => by kernel_rfl)) (fun o p hp => absurd hp List.not_mem_nil) (fun h4 tk4 o z H4 k4 _ => main h4 tk4 _ vs n (lsDrop H4) (K3.trans k4 hnew) hfresh hev)
    · skip
      exact go_o (s := { s with heap := h2, toks := tk2 }) (kNoLimit _) [] 5 16 (pl 0x45145) (fun _ => .ref (s.heap.objs.size + 1)) (fun _ => []) (fun o z => lsC w L c k1 l t ts ++ [(s.heap.objs.size + 0, objZ z 2), (s.heap.objs.size + 1, lstO vs n)]) 4 H3 (by exact byR w (fun w o => by kernel_rfl) (fun w o => by kernel_rfl)) (fun o p hp => absurd hp List.not_mem_nil) (fun h4 tk4 o z H4 k4 _ => main h4 tk4 _ vs n (lsDrop H4) (K3.trans k4 hnew) hfresh hev)
  · skip
    refine go_oc (kNoLimit _) [(4, [], (newA (strIterX true)))] 3 16 (pl 0x10c1) (fun _ => c1St w L c (s.heap.objs.size + 0) (s.heap.objs.size + 1) (s.heap.objs.size + 2)) (fun _ => [okP ((⟨⟨l⟩⟩ : Str).cps.all (· < 128) = true)]) (fun _ z => lsC w L c k1 l t ts ++ [(s.heap.objs.size + 0, fldO (tyS true) [.str ⟨⟨l⟩⟩ t, .int 0 0]), (s.heap.objs.size + 1, lstO [] 0), (s.heap.objs.size + 2, sgD w.params 0 0 none)]) 5 16 H (by exact byR w (fun w o => by kernel_rfl) (fun w o => by kernel_rfl)) (fun o p hp => by rw [List.mem_singleton.mp hp]; exact ⟨hasc, rfl⟩) fun h1 tk1 o1 z1 H1 q1 q1' hc1 => ?_
    have H1' : Hp (KK w) h1 (c1C w true (s.heap.objs.size + 0) (s.heap.objs.size + 1) (s.heap.objs.size + 2) c ⟨⟨l⟩⟩ t 0 [] 0 0 0 none ts) := lsPerm H1
    refine callF_ok hc1 (CtrF.mono (c1_ctr (s := { s with heap := h1, toks := tk1 }) hl H1') (by omega)) fun f h2 tk2 hf => ?_
    obtain ⟨rfl, it, vs, n, k2, e2, ov, hg, H2, q2⟩ := hf
    have H3 : Hp (KK w) h2 (lsC w L c k1 l t ts ++ [(s.heap.objs.size + 0, it), (s.heap.objs.size + 1, lstO vs n), (s.heap.objs.size + 2, sgD w.params k2 e2 ov)]) := lsBack H1 q2 H2
    have K3 : Kept s.heap h2 (lsC w L c k1 l t ts) := q1' _ (q2.more lsMem)
    have hev : vs.isEmpty = (l.filter fun ch => !hasS safeV ch).isEmpty := empty_len hg
    have hfresh : ∀ o, s.heap.get? (s.heap.objs.size + 1) ≠ some o := fun o e => Nat.not_lt.mpr (Nat.le_add_right _ _) (Heap.lt_size e)
    have hnew : ∀ b, (∃ o, s.heap.get? b = some o) → b ∈ (lsC w L c k1 l t ts ++ [(s.heap.objs.size + 0, it), (s.heap.objs.size + 1, lstO vs n), (s.heap.objs.size + 2, sgD w.params k2 e2 ov)]).map (·.1) → b ∈ (lsC w L c k1 l t ts).map (·.1) := fun b ⟨ob, eo⟩ hb => by
      rw [List.map_append] at hb
      rcases List.mem_append.mp hb with hb | hb
      · exact hb
      · exfalso
        have := Heap.lt_size eo
        simp only [List.map_cons, List.map_nil, List.mem_cons, List.not_mem_nil, or_false] at hb
        rcases hb with rfl | rfl | rfl
        · exact Nat.lt_irrefl _ this
        · exact Nat.not_lt.mpr (Nat.le_add_right _ _) this
        · exact Nat.not_lt.mpr (Nat.le_add_right _ _) this
    clear hc1 q1' H1'
    rcases ov with _ | v
    · skip
      exact go_o (s := { s with heap := h2, toks := tk2 }) (kNoLimit _) [] 1 16 (pl 0x45) (fun _ => .ref (s.heap.objs.size + 1)) (fun _ => []) (fun o z => lsC w L c k1 l t ts ++ [(s.heap.objs.size + 0, objZ z 2), (s.heap.objs.size + 1, lstO vs n)]) 4 H3 (by exact byR w (fun w o => by kernel_rfl) (fun w o => by kernel_rfl)) (fun o p hp => absurd hp List.not_mem_nil) (fun h4 tk4 o z H4 k4 _ => main h4 tk4 _ vs n (lsDrop H4) (K3.trans k4 hnew) hfresh hev)
    · skip
      exact go_o (s := { s with heap := h2, toks := tk2 }) (kNoLimit _) [] 5 16 (pl 0x45145) (fun _ => .ref (s.heap.objs.size + 1)) (fun _ => []) (fun o z => lsC w L c k1 l t ts ++ [(s.heap.objs.size + 0, objZ z 2), (s.heap.objs.size + 1, lstO vs n)]) 4 H3 (by exact byR w (fun w o => by kernel_rfl) (fun w o => by kernel_rfl)) (fun o p hp => absurd hp List.not_mem_nil) (fun h4 tk4 o z H4 k4 _ => main h4 tk4 _ vs n (lsDrop H4) (K3.trans k4 hnew) hfresh hev)
end
end Mine
end PLS
section PLS3
open PySem PySem.W PyProof.Rows PySem.Calls
open PySem.Builtin.Str (occurrences)
set_option maxHeartbeats 0
namespace Mine
variable {B : Bool}
section
variable {w : World} {L c : Addr} {k1 : Tok} {l : List Nat} {t ts : Tok} {s : Shared} {A : Around} {Q : Flow → Shared → Prop} {E : Value → Shared → Prop}
noncomputable def lsThen (w : World) : List Stmt := match (lsB w).tail with | .If _ b _ _ :: _ => b | _ => []
theorem ls_then (hl : l.length ≤ sizeLine) (H : Hp (KK w) s.heap (lsC w L c k1 l t ts)) (hA : Fit A 16)
  (next : ∀ h' tk' t', Kept s.heap h' (lsC w L c k1 l t ts) → Q (.ret (.int (l.length : Nat) t')) { s with heap := h', toks := tk' }) :
  wpC B (model PG w) A (execs (lsThen w) (lsEnv w L c)) Q E s := by
  refine start_bot 16 hA (execsZ_eq _ _) ?_
  exact go_o (kNoLimit _) ([(7, [], (extA lenX))]) 1 16 (pl 0x41000) (fun o => .ret (.int (l.length : Nat) (s.toks + 1))) (fun _ => [okP (l.length ≤ sizeLine)]) (fun o z => lsC w L c k1 l t ts) 2 H (by exact byR w (fun w o => by kernel_rfl) (fun w o => by kernel_rfl)) (fun o p hp => by rw [List.mem_singleton.mp hp]; exact ⟨hl, rfl⟩) (fun h' tk' o z H' k' _ => next h' tk' _ k')
theorem ok1 {P1 : Prop} (h1 : P1) : ∀ a ∈ [okP P1], a := fun a ha => by
  simp only [List.mem_cons, List.not_mem_nil, or_false] at ha; subst ha; exact ⟨h1, rfl⟩
theorem ok2 {P1 P2 : Prop} (h1 : P1) (h2 : P2) : ∀ a ∈ [okP P1, okP P2], a := fun a ha => by
  rcases List.mem_cons.mp ha with rfl | ha
  · exact ⟨h1, rfl⟩
  · exact ok1 h2 a ha
theorem ok3 {P1 P2 P3 : Prop} (h1 : P1) (h2 : P2) (h3 : P3) : ∀ a ∈ [okP P1, okP P2, okP P3], a := fun a ha => by
  rcases List.mem_cons.mp ha with rfl | ha
  · exact ⟨h1, rfl⟩
  · exact ok2 h2 h3 a ha
theorem hpBack {K : Sta} {h h' : Heap} {a b b' : Cells} (H : Hp K h (a ++ b)) (k : Kept h h' b) (H' : Hp K h' b') (e : b'.map (·.1) = b.map (·.1) := by rfl) : Hp K h' (a ++ b') := by
  have nd := H.nd
  refine ⟨H'.st, fun p hp => ?_, ?_, fun p hp => ?_⟩
  · rcases List.mem_append.mp hp with hp | hp
    · refine k _ _ (H.ce _ (List.mem_append_left _ hp)) fun hb => ?_
      rw [List.map_append, List.nodup_append] at nd
      exact nd.2.2 _ (List.mem_map_of_mem hp) _ hb rfl
    · exact H'.ce _ hp
  · rw [List.map_append] at nd ⊢
    rw [e]; exact nd
  · rcases List.mem_append.mp hp with hp | hp
    · exact H.off _ (List.mem_append_left _ hp)
    · exact H'.off _ hp
theorem memR {a b : Cells} : ∀ q ∈ b.map (·.1), q ∈ (a ++ b).map (·.1) := fun q hq => by
  rw [List.map_append]; exact List.mem_append_right _ hq
theorem newR {h : Heap} {a b : Cells} (hb : ∀ q ∈ b.map (·.1), h.objs.size ≤ q) : ∀ q, (∃ o, h.get? q = some o) → q ∈ (a ++ b).map (·.1) → q ∈ a.map (·.1) := fun q ⟨o, e⟩ hq => by
  rw [List.map_append] at hq
  rcases List.mem_append.mp hq with hq | hq
  · exact hq
  · exact absurd (Heap.lt_size e) (Nat.not_lt.mpr (hb q hq))
theorem new3 {n : Nat} {x y z : Obj} : ∀ q ∈ ([(n + 0, x), (n + 1, y), (n + 2, z)] : Cells).map (·.1), n ≤ q := fun q hq => by
  simp only [List.map_cons, List.map_nil, List.mem_cons, List.not_mem_nil, or_false] at hq
  rcases hq with rfl | rfl | rfl
  · exact Nat.le_refl _
  · exact Nat.le_add_right _ _
  · exact Nat.le_add_right _ _
theorem ls_ret (hl : l.length ≤ sizeLine) (H : Hp (KK w) s.heap (lsC w L c k1 l t ts)) (hA : Fit A 16)
  (next : ∀ h' tk' t', Kept s.heap h' (lsC w L c k1 l t ts) → Q (.ret (.int ((l.length : Int) + 2 + 4 * ((l.filter fun ch => [ch] == [39]).length : Nat)) t')) { s with heap := h', toks := tk' }) :
  wpC B (model PG w) A (execs ((lsB w).drop 2) (lsEnv w L c)) Q E s := by
  obtain ⟨asc, hasc⟩ := asc_is l
  refine start_bot 16 hA (execsZ_eq _ _) ?_
  cases asc
  · skip
    refine go_oc (kNoLimit _) [(7, [], (extA lenX)), (3, [], (extA addX)), (8, [], (newA (strIterX false)))] 3 16 (pl 0x43040001000) (fun _ => c2St w L c (s.heap.objs.size + 0) (s.heap.objs.size + 1) (s.heap.objs.size + 2)) (fun _ => [okP ((⟨⟨l⟩⟩ : Str).cps.all (· < 128) = false), okP True, okP (l.length ≤ sizeLine)]) (fun _ z => lsC w L c k1 l t ts ++ [(s.heap.objs.size + 0, fldO (tyS false) [.str ⟨⟨l⟩⟩ t, .int 0 0]), (s.heap.objs.size + 1, lstO [] 0), (s.heap.objs.size + 2, sgD w.params 0 0 none)]) 5 16 H (by exact byR w (fun w o => by kernel_rfl) (fun w o => by kernel_rfl)) (fun o => ok3 hasc trivial hl) fun h1 tk1 o1 z1 H1 q1 q1' hc1 => ?_
    have H1' : Hp (KK w) h1 (c2C w false (s.heap.objs.size + 0) (s.heap.objs.size + 1) (s.heap.objs.size + 2) ⟨⟨l⟩⟩ t 0 [] 0 0 0 none) := H1.right
    refine callF_ok hc1 (CtrF.mono (c2_ctr (s := { s with heap := h1, toks := tk1 }) hl H1') (by omega)) fun f h2 tk2 hf => ?_
    obtain ⟨rfl, it, vs, n, k2, e2, ov, hg, H2, q2⟩ := hf
    have H3 : Hp (KK w) h2 (lsC w L c k1 l t ts ++ [(s.heap.objs.size + 0, it), (s.heap.objs.size + 1, lstO vs n), (s.heap.objs.size + 2, sgD w.params k2 e2 ov)]) := hpBack H1 q2 H2
    have K3 : Kept s.heap h2 (lsC w L c k1 l t ts) := q1' _ (q2.more memR)
    have hnew := newR (h := s.heap) (a := lsC w L c k1 l t ts) (new3 (n := s.heap.objs.size) (x := it) (y := lstO vs n) (z := sgD w.params k2 e2 ov))
    have hm : IntMulOk 4 (vs.length : Nat) := IntMulOk.of_left (by decide)
    have hvl : vs.length ≤ sizeLine := by rw [hg]; exact Nat.le_trans (List.length_filter_le _ _) hl
    have hval : (l.length : Int) + 2 + 4 * (vs.length : Nat) = (l.length : Int) + 2 + 4 * ((l.filter fun ch => [ch] == [39]).length : Nat) := by rw [hg]
    clear hc1 q1' H1'
    rcases ov with _ | v
    · skip
      exact go_o (s := { s with heap := h2, toks := tk2 }) (kNoLimit _) ([(2, [3], (extA lenX)), (2, [], (extA mulX)), (1, [], (extA addX))]) 0 16 (pl 0x45) (fun o => .ret (.int ((l.length : Int) + 2 + 4 * (vs.length : Nat)) (tk2 + 3))) (fun _ => [okP True, okP (IntMulOk 4 (vs.length : Nat)), okP (s.heap.objs.size + 1 = s.heap.objs.size + 1 ∧ "list" = "list" ∧ vs.length ≤ sizeLine)]) (fun o z => lsC w L c k1 l t ts) 2 H3 (by exact byR w (fun w o => by kernel_rfl) (fun w o => by kernel_rfl)) (fun o => ok3 trivial hm ⟨rfl, rfl, hvl⟩) (fun h4 tk4 o z H4 k4 _ => by rw [hval]; exact next h4 tk4 _ (K3.trans k4 hnew))
    · skip
      exact go_o (s := { s with heap := h2, toks := tk2 }) (kNoLimit _) ([(6, [3], (extA lenX)), (2, [], (extA mulX)), (1, [], (extA addX))]) 0 16 (pl 0x45145) (fun o => .ret (.int ((l.length : Int) + 2 + 4 * (vs.length : Nat)) (tk2 + 3))) (fun _ => [okP True, okP (IntMulOk 4 (vs.length : Nat)), okP (s.heap.objs.size + 1 = s.heap.objs.size + 1 ∧ "list" = "list" ∧ vs.length ≤ sizeLine)]) (fun o z => lsC w L c k1 l t ts) 2 H3 (by exact byR w (fun w o => by kernel_rfl) (fun w o => by kernel_rfl)) (fun o => ok3 trivial hm ⟨rfl, rfl, hvl⟩) (fun h4 tk4 o z H4 k4 _ => by rw [hval]; exact next h4 tk4 _ (K3.trans k4 hnew))
  · skip
    refine go_oc (kNoLimit _) [(7, [], (extA lenX)), (3, [], (extA addX)), (8, [], (newA (strIterX true)))] 3 16 (pl 0x43040001000) (fun _ => c2St w L c (s.heap.objs.size + 0) (s.heap.objs.size + 1) (s.heap.objs.size + 2)) (fun _ => [okP ((⟨⟨l⟩⟩ : Str).cps.all (· < 128) = true), okP True, okP (l.length ≤ sizeLine)]) (fun _ z => lsC w L c k1 l t ts ++ [(s.heap.objs.size + 0, fldO (tyS true) [.str ⟨⟨l⟩⟩ t, .int 0 0]), (s.heap.objs.size + 1, lstO [] 0), (s.heap.objs.size + 2, sgD w.params 0 0 none)]) 5 16 H (by exact byR w (fun w o => by kernel_rfl) (fun w o => by kernel_rfl)) (fun o => ok3 hasc trivial hl) fun h1 tk1 o1 z1 H1 q1 q1' hc1 => ?_
    have H1' : Hp (KK w) h1 (c2C w true (s.heap.objs.size + 0) (s.heap.objs.size + 1) (s.heap.objs.size + 2) ⟨⟨l⟩⟩ t 0 [] 0 0 0 none) := H1.right
    refine callF_ok hc1 (CtrF.mono (c2_ctr (s := { s with heap := h1, toks := tk1 }) hl H1') (by omega)) fun f h2 tk2 hf => ?_
    obtain ⟨rfl, it, vs, n, k2, e2, ov, hg, H2, q2⟩ := hf
    have H3 : Hp (KK w) h2 (lsC w L c k1 l t ts ++ [(s.heap.objs.size + 0, it), (s.heap.objs.size + 1, lstO vs n), (s.heap.objs.size + 2, sgD w.params k2 e2 ov)]) := hpBack H1 q2 H2
    have K3 : Kept s.heap h2 (lsC w L c k1 l t ts) := q1' _ (q2.more memR)
    have hnew := newR (h := s.heap) (a := lsC w L c k1 l t ts) (new3 (n := s.heap.objs.size) (x := it) (y := lstO vs n) (z := sgD w.params k2 e2 ov))
    have hm : IntMulOk 4 (vs.length : Nat) := IntMulOk.of_left (by decide)
    have hvl : vs.length ≤ sizeLine := by rw [hg]; exact Nat.le_trans (List.length_filter_le _ _) hl
    have hval : (l.length : Int) + 2 + 4 * (vs.length : Nat) = (l.length : Int) + 2 + 4 * ((l.filter fun ch => [ch] == [39]).length : Nat) := by rw [hg]
    clear hc1 q1' H1'
    rcases ov with _ | v
    · skip
      exact go_o (s := { s with heap := h2, toks := tk2 }) (kNoLimit _) ([(2, [3], (extA lenX)), (2, [], (extA mulX)), (1, [], (extA addX))]) 0 16 (pl 0x45) (fun o => .ret (.int ((l.length : Int) + 2 + 4 * (vs.length : Nat)) (tk2 + 3))) (fun _ => [okP True, okP (IntMulOk 4 (vs.length : Nat)), okP (s.heap.objs.size + 1 = s.heap.objs.size + 1 ∧ "list" = "list" ∧ vs.length ≤ sizeLine)]) (fun o z => lsC w L c k1 l t ts) 2 H3 (by exact byR w (fun w o => by kernel_rfl) (fun w o => by kernel_rfl)) (fun o => ok3 trivial hm ⟨rfl, rfl, hvl⟩) (fun h4 tk4 o z H4 k4 _ => by rw [hval]; exact next h4 tk4 _ (K3.trans k4 hnew))
    · skip
      exact go_o (s := { s with heap := h2, toks := tk2 }) (kNoLimit _) ([(6, [3], (extA lenX)), (2, [], (extA mulX)), (1, [], (extA addX))]) 0 16 (pl 0x45145) (fun o => .ret (.int ((l.length : Int) + 2 + 4 * (vs.length : Nat)) (tk2 + 3))) (fun _ => [okP True, okP (IntMulOk 4 (vs.length : Nat)), okP (s.heap.objs.size + 1 = s.heap.objs.size + 1 ∧ "list" = "list" ∧ vs.length ≤ sizeLine)]) (fun o z => lsC w L c k1 l t ts) 2 H3 (by exact byR w (fun w o => by kernel_rfl) (fun w o => by kernel_rfl)) (fun o => ok3 trivial hm ⟨rfl, rfl, hvl⟩) (fun h4 tk4 o z H4 k4 _ => by rw [hval]; exact next h4 tk4 _ (K3.trans k4 hnew))
end
end Mine
end PLS3
section PLS4
open PySem PySem.W PyProof.Rows PySem.Calls
open PySem.Builtin.Str (occurrences)
set_option maxHeartbeats 0
namespace Mine
variable {B : Bool}
theorem ls_ctr {w : World} {l : List Nat} {t : Tok} {s : Shared} {cs : Cells} (hl : l.length ≤ sizeLine) (H : Hp (KK w) s.heap cs) :
  Ctr B PG w (.call (.ref 782) ⟨[.str ⟨⟨l⟩⟩ t], []⟩) 18 s (fun v h' => (∃ t', v = .int (sizeW l : Nat) t') ∧ Kept s.heap h' []) := by
  have H0 : Hp (KK w) s.heap [] := H.sub (fun p hp => absurd hp List.not_mem_nil) List.nodup_nil
  refine ctr_def (kNoLimit w) 8 16 0 (pl 0x1041000).tail (body := lsB w) (env := lsEnv w (s.heap.objs.size + 0) (s.heap.objs.size + 1)) (fun z => [(s.heap.objs.size + 0, lsF0 w.params (tokK z 0 0) l t), (s.heap.objs.size + 1, celN)]) 2 H0 (by kernel_rfl) (by kernel_rfl) fun A1 h1 tk1 z hA1 H1 k1 k1' => ?_
  generalize tokK z 0 0 = c0 at H1 k1'
  generalize s.heap.objs.size + 0 = L at H1 k1' ⊢
  generalize s.heap.objs.size + 1 = c at H1 k1' ⊢
  rw [show lsB w = hdS (lsB w) :: (lsB w).tail by kernel_rfl]
  refine ls_st1 (s := { s with heap := h1, toks := tk1 }) H1 hA1 fun h2 tk2 ts H2 q2 => ?_
  have back : ∀ h', Kept h2 h' (lsC w L c c0 l t ts) → Kept s.heap h' [] := fun h' q => k1' _ (q2.trans q fun b _ hb => hb)
  rw [show (lsB w).tail = .If (ifT (lsB w).tail) (lsThen w) [] (ifP (lsB w).tail) :: (lsB w).drop 2 by kernel_rfl]
  refine wpC_execs_cons (wpC_If ?_)
  rw [show ifT (lsB w).tail = .BoolOp .And [lsT w 0, lsT w 1] (bopP (ifT (lsB w).tail)) by kernel_rfl, arm_isTrue_BoolOp]
  have hret : ∀ h4 tk4, Hp (KK w) h4 (lsC w L c c0 l t ts) → Kept h2 h4 (lsC w L c c0 l t ts) → ¬ (l ≠ [] ∧ (l.filter fun ch => !hasS safeV ch) = []) →
      wpC B (model PG w) A1 (execs ((lsB w).drop 2) (lsEnv w L c)) (fun fl s' => ∃ h2 tk2, s' = { s with heap := h2, toks := tk2 } ∧ (∃ t', retV fl = .int (sizeW l : Nat) t') ∧ Kept s.heap h2 []) (fun _ _ => False) { s with heap := h4, toks := tk4 } := fun h4 tk4 H4 q4 hn => by
    refine ls_ret (s := { s with heap := h4, toks := tk4 }) hl H4 hA1 fun h5 tk5 t5 q5 => ⟨h5, tk5, rfl, ⟨t5, ?_⟩, back _ (q4.trans q5 fun b _ hb => hb)⟩
    show Value.int _ _ = _
    rw [sizeW, if_neg hn]
    congr 1
  refine and2 (ls_t1 (s := { s with heap := h2, toks := tk2 }) H2 hA1 fun h3 tk3 H3 q3 => ?_)
  cases l with
  | nil => exact wpC_execs_nil (hret _ _ H3 q3 (fun h => h.1 rfl))
  | cons a l' =>
    generalize hll : a :: l' = l at *
    have hne : l ≠ [] := by rw [← hll]; exact List.cons_ne_nil _ _
    have hie : (!l.isEmpty) = true := by rw [← hll]; rfl
    rw [hie]
    refine ls_t2 (s := { s with heap := h3, toks := tk3 }) hl H3 hA1 fun h4 tk4 H4 q4 => ?_
    have q24 : Kept h2 h4 (lsC w L c c0 l t ts) := q3.trans q4 fun b _ hb => hb
    cases hf : (l.filter fun ch => !hasS safeV ch) with
    | nil =>
      show wpC _ _ _ (execs (lsThen w) _) _ _ _
      refine ls_then (s := { s with heap := h4, toks := tk4 }) hl H4 hA1 fun h5 tk5 t5 q5 => ⟨h5, tk5, rfl, ⟨t5, ?_⟩, back _ (q24.trans q5 fun b _ hb => hb)⟩
      show Value.int _ _ = _
      rw [sizeW, if_pos ⟨hne, hf⟩]
    | cons x xs =>
      exact wpC_execs_nil (hret _ _ H4 q24 (fun h => by rw [hf] at h; exact absurd h.2 (List.cons_ne_nil _ _)))
end Mine
end PLS4
section PS0
open PySem PySem.W PyProof.Rows PySem.Calls
namespace Mine
noncomputable def rdr {α : Type} (g : Setting) : Nat → List Obj → Nat → Sem α → Sem α × List Addr × Nat
  | 0, _, tk, t => (t, [], tk)
  | n + 1, os, tk, .rule _ k => rdr g n os tk (k ())
  | n + 1, os, tk, .at _ k => rdr g n os tk (k ())
  | n + 1, os, tk, .point _ k => rdr g n os tk (k ())
  | n + 1, os, tk, .ask k => rdr g n os tk (k g)
  | n + 1, os, tk, .fresh k => rdr g n os (tk + 1) (k tk)
  | n + 1, o :: r, tk, .load a _ k => ((rdr g n r tk (k o)).1, a :: (rdr g n r tk (k o)).2.1, (rdr g n r tk (k o)).2.2)
  | _ + 1, _, tk, t => (t, [], tk)
noncomputable def AllGet (h : Heap) : List Addr → List Obj → Prop
  | [], _ => True
  | _ :: _, [] => False
  | a :: as, o :: os => h.get? a = some o ∧ AllGet h as os
section
variable {α : Type} {prog : Program} {w : World} {A : Around} {E : Value → Shared → Prop} {s : Shared} {Q : α → Shared → Prop}
theorem rdr_sound0 : ∀ (n : Nat) (os : List Obj) (tk : Nat) (t : Sem α), AllGet s.heap (rdr ⟨prog, w.params⟩ n os tk t).2.1 os →
    wpAny (model prog w) A (rdr ⟨prog, w.params⟩ n os tk t).1 Q E { s with toks := (rdr ⟨prog, w.params⟩ n os tk t).2.2 } → wpAny (model prog w) A t Q E { s with toks := tk }
  | 0, _, _, _, _, h => h
  | n + 1, os, tk, .rule _ k, hg, h => X.x_rule (rdr_sound0 n os tk (k ()) hg h)
  | n + 1, os, tk, .at _ k, hg, h => X.x_at (rdr_sound0 n os tk (k ()) hg h)
  | n + 1, os, tk, .point _ k, hg, h => X.x_point (rdr_sound0 n os tk (k ()) hg h)
  | n + 1, os, tk, .ask k, hg, h => X.x_ask (rdr_sound0 n os tk (k _) hg h)
  | n + 1, os, tk, .fresh k, hg, h => X.x_fresh (s := { s with toks := tk }) (rdr_sound0 n os (tk + 1) (k tk) hg h)
  | n + 1, o :: r, tk, .load a _ k, hg, h => X.x_load (s := { s with toks := tk }) hg.1 (rdr_sound0 n r tk (k o) hg.2 h)
  | n + 1, [], tk, .load a _ k, hg, h => h
  | n + 1, _, tk, .pure _, _, h => h
  | n + 1, _, tk, .raise _, _, h => h
  | n + 1, _, tk, .unsupported _, _, h => h
  | n + 1, _, tk, .finish _, _, h => h
  | n + 1, _, tk, .update .., _, h => h
  | n + 1, _, tk, .alloc .., _, h => h
  | n + 1, _, tk, .loadIfAlive .., _, h => h
  | n + 1, _, tk, .register .., _, h => h
  | n + 1, _, tk, .choose .., _, h => h
  | n + 1, _, tk, .os .., _, h => h
  | n + 1, _, tk, .call .., _, h => h
  | n + 1, _, tk, .handled .., _, h => h
  | n + 1, _, tk, .newGen .., _, h => h
  | n + 1, _, tk, .genState .., _, h => h
  | n + 1, _, tk, .resume .., _, h => h
  | n + 1, _, tk, .yield .., _, h => h
  | n + 1, _, tk, .stack _, _, h => h
  | n + 1, _, tk, .fork .., _, h => h
  | n + 1, _, tk, .thread _, _, h => h
  | n + 1, _, tk, .await .., _, h => h
theorem reads (n : Nat) (os : List Obj) {t t' : Sem α} {as : List Addr} {tk' : Nat} (e : rdr ⟨prog, w.params⟩ n os s.toks t = (t', as, tk')) (hg : AllGet s.heap as os)
    (h : wpAny (model prog w) A t' Q E { s with toks := tk' }) : wpAny (model prog w) A t Q E s :=
  rdr_sound0 (s := s) n os s.toks t (by rw [e]; exact hg) (by rw [e]; exact h)
theorem reads_pure (n : Nat) (os : List Obj) {t : Sem α} {v : α} {as : List Addr} {tk' : Nat} (e : rdr ⟨prog, w.params⟩ n os s.toks t = (.pure v, as, tk')) (hg : AllGet s.heap as os)
    (h : Q v { s with toks := tk' }) : wpAny (model prog w) A t Q E s := reads n os e hg (wpAny_pure h)
end
end Mine
end PS0
section PS1
open PySem PySem.W PyProof.Rows PySem.Calls
namespace Mine
namespace Re
open PySem.Sre
noncomputable def cd : Array Nat := #[14, 17, 4, 1, 1, 21, 9, 0, 604043296, 1, 0, 0, 0, 0, 0, 8, 4, 0, 13, 14, 21, 9, 0, 604043296, 1, 0, 0, 0, 0, 0, 8, 4, 0, 1]
noncomputable def tab (c : Nat) : Bool := decide (c < 256) && (cd.getD (6 + (1 + c / 32)) 0).testBit (c % 32)
noncomputable def tab2 (c : Nat) : Bool := decide (c < 256) && (cd.getD (21 + (1 + c / 32)) 0).testBit (c % 32)
theorem tab_rows : ∀ q, q < 8 → cd.getD (21 + (1 + q)) 0 = cd.getD (6 + (1 + q)) 0 := by decide +kernel
theorem tab2_eq (c : Nat) : tab2 c = tab c := by
  unfold tab tab2
  by_cases h : c < 256
  · rw [tab_rows _ (by omega)]
  · simp [h]
noncomputable def safeC (c : Nat) : Bool := tab c || isWord c
theorem inSet1 (c : Nat) (seen : Sre.Seen) : ∃ s', inSet cd c cd.size 5 true seen = .ok (!safeC c, s') := by
  have e : inSet cd c cd.size 5 true seen = if tab c = true then .ok (false, (seen.add 21).add 9) else
    if ((isWord c != false) = true) then .ok (false, (((seen.add 21).add 9).add 8).add 59) else .ok (true, ((((seen.add 21).add 9).add 8).add 59).add 0) := by kernel_rfl
  rw [e]; unfold safeC
  cases tab c <;> cases isWord c <;> exact ⟨_, rfl⟩
theorem inSet2 (c : Nat) (seen : Sre.Seen) : ∃ s', inSet cd c cd.size 20 true seen = .ok (!safeC c, s') := by
  have e : inSet cd c cd.size 20 true seen = if tab2 c = true then .ok (false, (seen.add 21).add 9) else
    if ((isWord c != false) = true) then .ok (false, (((seen.add 21).add 9).add 8).add 59) else .ok (true, ((((seen.add 21).add 9).add 8).add 59).add 0) := by kernel_rfl
  rw [e, tab2_eq]; unfold safeC
  cases tab c <;> cases isWord c <;> exact ⟨_, rfl⟩
theorem accepts1 (c : Nat) (seen : Sre.Seen) : ∃ s', accepts cd 18 c seen = .ok (!safeC c, s') := inSet2 c seen

theorem admitted_is (m : M) (hc : m.code = cd) : ∀ (fuel s : Nat) (seen : Sre.Seen), m.lim < s + fuel →
    ∃ s', (M.admitted m fuel s seen = .ok (none, s') ∧ ∀ i, s ≤ i → i < m.lim → safeC (m.text.getD i 0) = true) ∨
      (∃ i, s ≤ i ∧ i < m.lim ∧ safeC (m.text.getD i 0) = false ∧ M.admitted m fuel s seen = .ok (some i, s'))
  | 0, s, seen, h => ⟨seen, .inl ⟨rfl, fun i h1 h2 => by omega⟩⟩
  | fuel + 1, s, seen, h => by
    unfold M.admitted
    by_cases hs : s ≥ m.lim
    · rw [if_pos hs]
      exact ⟨seen, .inl ⟨rfl, fun i h1 h2 => by omega⟩⟩
    · rw [if_neg hs, hc]
      obtain ⟨s1, e⟩ := inSet1 (m.text.getD s 0) seen
      rw [e]
      cases hq : safeC (m.text.getD s 0) with
      | false => exact ⟨s1, .inr ⟨s, Nat.le_refl _, by omega, hq, rfl⟩⟩
      | true =>
        obtain ⟨s', r⟩ := admitted_is m hc fuel (s + 1) s1 (by omega)
        refine ⟨s', ?_⟩
        rcases r with ⟨r1, r2⟩ | ⟨i, r1, r2, r3, r4⟩
        · refine .inl ⟨r1, fun i h1 h2 => ?_⟩
          by_cases hi : i = s
          · subst hi; exact hq
          · exact r2 i (by omega) h2
        · exact .inr ⟨i, by omega, r2, r3, r4⟩

noncomputable def m0 (tx : Array Nat) (lim : Nat) : M :=
  { code := cd, text := tx, lim, start := 0, lastStart := lim, pc := 18, pos := 0, handed := 0, marks := Array.replicate 0 none, mustAdvance := false, seen := ({} : Sre.Seen).add 14 }
theorem search_start (tx : Array Nat) (n : Nat) : forSearch cd tx 0 0 (n + 1) false = (m0 tx (n + 1)).attemptFrom 0 true := by kernel_rfl
theorem attempt_is (tx : Array Nat) (lim : Nat) : (m0 tx lim).attemptFrom 0 true = match M.admitted (m0 tx lim) (lim + 1 - 0) 0 (m0 tx lim).seen with
    | .ok (some s, seen) => { m0 tx lim with mustAdvance := false, seen }.attemptAt s true
    | .ok (none, seen) => { m0 tx lim with seen }.say false
    | .error why => (m0 tx lim).stick why := by kernel_rfl
theorem run_none (tx : Array Nat) (lim : Nat) (s' : Sre.Seen) : (M.runFor 4 ({ m0 tx lim with seen := s' }.say false)).outcome = some .failed := by kernel_rfl

theorem step_in (tx : Array Nat) (lim i : Nat) (s' : Sre.Seen) : M.step ({ m0 tx lim with mustAdvance := false, seen := s' }.attemptAt i true) =
    if i ≥ lim then ({ ({ m0 tx lim with mustAdvance := false, seen := s' }.attemptAt i true) with seen := s'.add 13 }).say false else
    match accepts cd 18 (tx.getD i 0) (s'.add 13) with
    | .error why => ({ ({ m0 tx lim with mustAdvance := false, seen := s' }.attemptAt i true) with seen := s'.add 13 }).stick why
    | .ok (false, seen) => { ({ m0 tx lim with mustAdvance := false, seen := s' }.attemptAt i true) with seen }.say false
    | .ok (true, seen) => { ({ m0 tx lim with mustAdvance := false, seen := s' }.attemptAt i true) with seen, pc := 33, pos := i + 1 } := by kernel_rfl
theorem runFor_succ (n : Nat) (m : M) (h : m.outcome = none) : M.runFor (n + 1) m = M.runFor n m.step := by
  show (if m.outcome.isSome then m else M.runFor n m.step) = _
  rw [h]; rfl

theorem search_is (tx : Array Nat) (n : Nat) : ∃ m, M.runFor 4 (forSearch cd tx 0 0 (n + 1) false) = m ∧
    ((m.outcome = some .failed ∧ ∀ i, i < n + 1 → safeC (tx.getD i 0) = true) ∨ (m.outcome = some .matched ∧ ∃ i, i < n + 1 ∧ safeC (tx.getD i 0) = false)) := by
  refine ⟨_, rfl, ?_⟩
  rw [search_start, attempt_is]
  obtain ⟨s', ⟨r1, r2⟩ | ⟨i, _, r2, r3, r4⟩⟩ := admitted_is (m0 tx (n + 1)) rfl (n + 1 + 1 - 0) 0 (m0 tx (n + 1)).seen (by show n + 1 < 0 + (n + 1 + 1 - 0); omega)
  · rw [r1]
    exact .inl ⟨run_none _ _ _, fun i hi => r2 i (Nat.zero_le _) hi⟩
  · rw [r4]
    refine .inr ⟨?_, i, r2, r3⟩
    show (M.runFor (3 + 1) _).outcome = _
    rw [runFor_succ _ _ (by kernel_rfl), step_in, if_neg (by have : i < n + 1 := r2; omega)]
    obtain ⟨s2, e2⟩ := accepts1 (tx.getD i 0) (s'.add 13)
    have r3' : safeC (tx.getD i 0) = false := r3
    rw [e2, r3']
    kernel_rfl
end Re
end Mine
end PS1
section PSR
open PySem PySem.W PyProof.Rows PySem.Calls
namespace Mine
namespace Re
open PySem.Builtin.Re
noncomputable def reObj (w : World) : Obj := (KK w 56).getD default
noncomputable def codeVals : Array Value := cd.map fun n => Value.int (n : Nat) 0
noncomputable def bnd (w : World) : Obj := (KK w 751).getD default
theorem at751 (w : World) : KK w 751 = some (bnd w) := by kernel_rfl
theorem at55 (w : World) : KK w 55 = some { cls := .type "tuple", data := .seq codeVals } := by kernel_rfl
theorem at56 (w : World) : KK w 56 = some (reObj w) := by kernel_rfl
section
variable {prog : Program} {w : World} {M : Model} {A : Around} {E : Value → Shared → Prop} {s : Shared}
theorem drive_at (k : Nat) (m : Sre.M) : reDrive (k + 1) m = (if (m.runFor 4).outcome.isSome then pure (m.runFor 4) else do rule "sre.turn"; reDrive k (m.runFor 4)) := rfl
theorem drive_done {m : Sre.M} {P : Sre.M → Shared → Prop} (h1 : (m.runFor 4).outcome.isSome = true) (h : P (m.runFor 4) s) : wpAny M A (reDrive (2 ^ 64) m) P E s := by
  rw [show (2 ^ 64 : Nat) = 18446744073709551615 + 1 from rfl, drive_at, if_pos h1]
  exact wpAny_pure h
theorem rules_skip (b : Nat → Bool) (t : Nat → String) {Q : PUnit → Shared → Prop} (l : List Nat) (h : Q ⟨⟩ s) :
    wpAny M A (forIn l PUnit.unit fun i _ => if b i = true then (rule (t i) >>= fun _ => pure (ForInStep.yield PUnit.unit)) else pure (ForInStep.yield PUnit.unit)) Q E s := by
  refine wpAny_forIn_list _ (fun _ _ s' => s' = s) Q ?_ ?_ l PUnit.unit rfl
  · intro x rest u s' hs
    subst hs
    split
    · exact wpAny_bind (wpAny_rule (wpAny_pure rfl))
    · exact wpAny_pure rfl
  · intro u s' hs; subst hs; exact h
theorem toEnd {m : Sre.M} {P : Option Sre.M → Shared → Prop} (h1 : (m.runFor 4).outcome = some .failed) (h : P none s) : wpAny M A (reRunToEnd m) P E s := by
  unfold reRunToEnd
  refine wpAny_bind (drive_done (by rw [h1]; rfl) ?_)
  refine wpAny_bind (rules_skip _ _ _ ?_)
  rw [h1]
  exact wpAny_pure h
theorem toEnd2 {m : Sre.M} {P : Option Sre.M → Shared → Prop} (h1 : (m.runFor 4).outcome = some .matched) (h : P (some (m.runFor 4)) s) : wpAny M A (reRunToEnd m) P E s := by
  unfold reRunToEnd
  refine wpAny_bind (drive_done (by rw [h1]; rfl) ?_)
  refine wpAny_bind (rules_skip _ _ _ ?_)
  rw [h1]
  exact wpAny_pure h
theorem newMatch {pat str : Value} {pos lim : Nat} {m : Sre.M} {P : Value → Shared → Prop}
    (h : ∀ a o1 o2, a = s.heap.objs.size + 1 → P (.ref a) { s with heap := (s.heap.push o1).push o2 }) : wpAny M A (reNewMatch pat str 0 pos lim m) P E s := by
  unfold reNewMatch
  simp only [List.range_zero, List.flatMap_nil, List.any_nil, Bool.false_eq_true, if_false]
  refine wpAny_bind (wpAny_newTuple ?_)
  refine wpAny_newObj_type (h _ _ _ ?_) (by size_fits)
  show (s.heap.push _).objs.size = _
  rw [Heap.size_push]
theorem entry_search : entryFor table "re.Pattern.search" = some Builtin.«re.Pattern.search» := entryFor_of_tree (by kernel_rfl)
theorem quiet_search {as : Args} : (Code.builtin "re.Pattern.search" as).quiet = true := Code.quiet_builtin _ (by decide +kernel)
theorem target {x : PySem.Str} {t : Tok} {Q : ReTarget → Shared → Prop} (X : (KK w).In s.heap) (hx : x.cps.size < 2 ^ 62) (h : Q ⟨.ref 56, .str x t, cd, x.cps, 0, 0, 0, x.cps.size⟩ s) :
    wpAny (model prog w) A (reTarget "re.Pattern.search" "search" ⟨[.ref 56, .str x t], []⟩) Q E s := by
  refine reads_pure 300 [reObj w, { cls := .type "tuple", data := .seq codeVals }] (as := [56, 55]) (v := ⟨.ref 56, .str x t, cd, x.cps, 0, 0, min 0 x.cps.size, min 9223372036854775807 x.cps.size⟩) (tk' := s.toks) (by kernel_rfl) ⟨X _ _ (at56 _), X _ _ (at55 _), trivial⟩ ?_
  have e : min 9223372036854775807 x.cps.size = x.cps.size := by omega
  rw [e, Nat.zero_min]; exact h
noncomputable def allSafe (x : PySem.Str) : Bool := x.cps.toList.all safeC
theorem allSafe_iff (x : PySem.Str) : allSafe x = true ↔ ∀ i, i < x.cps.size → safeC (x.cps.getD i 0) = true := by
  unfold allSafe
  rw [List.all_eq_true]
  constructor
  · intro h i hi
    have : x.cps.getD i 0 ∈ x.cps.toList := by
      rw [Array.getD_eq_getD_getElem?, Array.getElem?_eq_getElem hi]
      exact Array.getElem_mem_toList hi
    exact h _ this
  · intro h c hc
    obtain ⟨i, hi, e⟩ := List.getElem_of_mem hc
    have hi' : i < x.cps.size := by simpa using hi
    have := h i hi'
    rw [Array.getD_eq_getD_getElem?, Array.getElem?_eq_getElem hi'] at this
    rw [← e]; simpa using this
theorem tree {x : PySem.Str} {t : Tok} {P : Fin → Shared → Prop} (X : (KK w).In s.heap) (h0 : 0 < x.cps.size) (h1 : x.cps.size < 2 ^ 62)
    (hs : allSafe x = true → P (.done (.ret .none)) s)
    (hu : allSafe x = false → ∀ a o1 o2, a = s.heap.objs.size + 1 → P (.done (.ret (.ref a))) { s with heap := (s.heap.push o1).push o2 }) :
    wpAny (model prog w) A (Builtin.«re.Pattern.search» ⟨[.ref 56, .str x t], []⟩) P E s := by
  unfold Builtin.«re.Pattern.search»
  refine wpAny_bind (target X h1 ?_)
  show wpAny _ _ (reAnswer _ (Sre.forSearch cd x.cps 0 0 x.cps.size false)) _ _ _
  obtain ⟨n, hn⟩ : ∃ n, x.cps.size = n + 1 := ⟨x.cps.size - 1, by omega⟩
  obtain ⟨m, e, hm⟩ := search_is x.cps n
  unfold reAnswer
  rw [hn]
  rcases hm with ⟨h2, h3⟩ | ⟨h2, i, h3, h4⟩
  · exact wpAny_bind (toEnd (by rw [e]; exact h2) (wpAny_pure (hs ((allSafe_iff x).mpr fun i hi => h3 i (by omega)))))
  · have hf : allSafe x = false := by
      cases q : allSafe x with
      | false => rfl
      | true => have := (allSafe_iff x).mp q i (by omega); rw [h4] at this; cases this
    exact wpAny_bind (toEnd2 (by rw [e]; exact h2) (wpAny_bind (newMatch fun a o1 o2 ha => wpAny_pure (hu hf a o1 o2 ha))))
theorem sr_ctr {B : Bool} {x : PySem.Str} {t : Tok} {cs : Cells} (H : Hp (KK w) s.heap cs) (h0 : 0 < x.cps.size) (h1 : x.cps.size < 2 ^ 62) :
    Ctr B prog w (.call (.ref 751) ⟨[.str x t], []⟩) 10 s (fun v h' => (if allSafe x = true then v = .none else ∃ a, v = .ref a) ∧ Kept s.heap h' []) := by
  intro A R hA hR
  have X := H.st
  refine codeC_of (codeAny_of_tree ?_)
  show wpAny _ _ (callAny (.ref 751) ⟨[.str x t], []⟩) _ _ s
  refine reads_pure 300 [bnd w, reObj w, reObj w, reObj w] (as := [751, 56, 56, 56]) (v := .again (.builtin "re.Pattern.search" ⟨[.ref 56, .str x t], []⟩)) (tk' := s.toks) (by kernel_rfl) ⟨X _ _ (at751 _), X _ _ (at56 _), X _ _ (at56 _), X _ _ (at56 _), trivial⟩ ?_
  refine ⟨quiet_search, codeAny_builtin entry_search (tree X h0 h1 (fun e => hR _ _ s.toks ⟨by rw [if_pos e], Kept.refl _ _⟩) fun e a o1 o2 _ => hR _ _ s.toks ⟨by rw [e]; exact ⟨a, rfl⟩, fun b o e _ => Heap.get?_push_of_some _ (Heap.get?_push_of_some _ e)⟩)⟩
end
end Re
end Mine
end PSR
section PQS
open PySem PySem.W PyProof.Rows PySem.Calls
open PySem.Builtin.Str (occurrences)
namespace Mine
noncomputable def subW (c : Nat) (z : List Nat) (l : List Nat) : List Nat := l.flatMap fun k => if k = c then z else [k]
theorem subW_append (c : Nat) (z a b : List Nat) : subW c z (a ++ b) = subW c z a ++ subW c z b := List.flatMap_append ..
theorem subW_free (c : Nat) (z : List Nat) : ∀ l : List Nat, c ∉ l → subW c z l = l
  | [], _ => rfl
  | k :: r, h => by
    have h1 : ¬ k = c := fun e => h (e ▸ List.mem_cons_self ..)
    have ih := subW_free c z r fun m => h (List.mem_cons_of_mem _ m)
    unfold subW at ih ⊢
    rw [List.flatMap_cons, ih, if_neg h1]; rfl
theorem subW_join (c : Nat) (z : List Nat) : ∀ parts : List Str, (∀ p ∈ parts, c ∉ p.cps.toList) → subW c z (Str.join ⟨#[c]⟩ parts).cps.toList = (Str.join ⟨⟨z⟩⟩ parts).cps.toList
  | [], _ => rfl
  | [p], h => subW_free c z _ (h p (List.mem_singleton.mpr rfl))
  | p :: q :: r, h => by
    have ih := subW_join c z (q :: r) fun a ha => h a (List.mem_cons_of_mem _ ha)
    show subW c z (p ++ ⟨#[c]⟩ ++ Str.join ⟨#[c]⟩ (q :: r)).cps.toList = (p ++ ⟨⟨z⟩⟩ ++ Str.join ⟨⟨z⟩⟩ (q :: r)).cps.toList
    simp only [Str.cps_append, Array.toList_append]
    rw [subW_append, subW_append, ih, subW_free c z _ (h p (List.mem_cons_self ..))]
    show p.cps.toList ++ subW c z [c] ++ _ = _
    have : subW c z [c] = z := by unfold subW; simp
    rw [this]
theorem replace_sub (x : Str) (c : Nat) (z : List Nat) : (Txt.replace x ⟨#[c]⟩ ⟨⟨z⟩⟩).cps.toList = subW c z x.cps.toList := by
  rw [StrLaws.replace_one, ← subW_join c z _ (StrLaws.split_free x c), StrLaws.join_split]
noncomputable def quI : List Nat := [39, 34, 39, 34, 39]
noncomputable def quL (l : List Nat) : List Nat := if l = [] then [39, 39] else if l.all Re.safeC = true then l else 39 :: subW 39 quI l ++ [39]
theorem subW_len (l : List Nat) : (subW 39 quI l).length = l.length + 4 * (l.filter fun ch => [ch] == [39]).length := by
  induction l with
  | nil => rfl
  | cons a l ih =>
    unfold subW at ih ⊢
    rw [List.flatMap_cons, List.length_append, ih]
    by_cases h : a = 39
    · subst h
      simp only [↓reduceIte, quI, List.filter_cons, beq_self_eq_true, List.length_cons, List.length_nil]
      omega
    · have : ([a] == [39]) = false := by simp [h]
      simp only [if_neg h, List.filter_cons, this, List.length_cons, List.length_nil, Bool.false_eq_true, ↓reduceIte]
      omega
theorem quote_eq (l : List Nat) (h : l ≠ []) (hs : ¬ Re.allSafe ⟨⟨l⟩⟩ = true) : (Str.ofString "'" ++ Txt.replace ⟨⟨l⟩⟩ (Str.ofString "'") (Str.ofString "'\"'\"'") ++ Str.ofString "'" : Str) = ⟨⟨quL l⟩⟩ := by
  have e : Txt.replace ⟨⟨l⟩⟩ (Str.ofString "'") (Str.ofString "'\"'\"'") = ⟨⟨subW 39 quI l⟩⟩ := by
    have z := replace_sub ⟨⟨l⟩⟩ 39 quI
    have z2 : Txt.replace ⟨⟨l⟩⟩ ⟨#[39]⟩ ⟨⟨quI⟩⟩ = ⟨⟨subW 39 quI l⟩⟩ := by
      cases hh : Txt.replace ⟨⟨l⟩⟩ ⟨#[39]⟩ ⟨⟨quI⟩⟩ with
      | mk a => rw [hh] at z; cases a; exact congrArg (fun q => Str.mk (Array.mk q)) z
    exact z2
  rw [e, show Str.ofString "'" = ⟨⟨[39]⟩⟩ from rfl, str_app, str_app]
  have h2 : ¬ l.all Re.safeC = true := hs
  rw [quL, if_neg h, if_neg h2]
  rfl
end Mine
end PQS
section PQT
open PySem PySem.W PyProof.Rows PySem.Calls
open PySem.Builtin.Str (occurrences)
set_option maxHeartbeats 0
namespace Mine
variable {B : Bool}
noncomputable def quB (w : World) : List Stmt := stmtsOf (fdOf (KK w) 758)
noncomputable def quEnv (w : World) (L : Addr) : Env := { scope := (fdOf (KK w) 758).scope, locals := L, globals := mainGlobals, cells := [], qual := "quote.<locals>.", func := some 758, code := .ref 757, frame := some L, builtins := builtinsNs }
noncomputable def quF0 (P : Params) (k1 : Tok) (x : Str) (t : Tok) : Obj := frmO [ent P "s" k1 (.str x t)] 1
theorem qu_x {w : World} {a : Nat} {l : List Nat} {t k1 : Tok} {L : Addr} {s : Shared} {A : Around} {Q : Flow → Shared → Prop} {E : Value → Shared → Prop} (hl : l.length ≤ 1000) (H : Hp (KK w) s.heap [(L, quF0 w.params k1 ⟨⟨a :: l⟩⟩ t)]) (hA : Fit A 16)
  (next : ∀ h' tk' t', Kept s.heap h' [(L, quF0 w.params k1 ⟨⟨a :: l⟩⟩ t)] → Q (.ret (.str ⟨⟨quL (a :: l)⟩⟩ t')) { s with heap := h', toks := tk' }) : wpC B (model PG w) A (execs (quB w) (quEnv w L)) Q E s := by
  refine start_bot 16 hA (execsZ_eq _ _) ?_
  refine go_oc (kNoLimit _) ([(4, [], (extA lenX))]) 7 16 (pl 0x1001001) (fun _ => .call (.ref 751) ⟨[.str ⟨⟨a :: l⟩⟩ t], []⟩) (fun _ => [okP (l.length + 1 ≤ sizeLine)]) (fun _ z => [(L, quF0 w.params k1 ⟨⟨a :: l⟩⟩ t)]) 1 16 H (fun o => by kernel_rfl) (fun o => ok1 (by unfold sizeLine; omega)) fun h1 tk1 o1 z1 H1 q1 q1' hc1 => ?_
  refine callF_ok hc1 (Ctr.toF ((Re.sr_ctr (s := { s with heap := h1, toks := tk1 }) H1 (by show 0 < l.length + 1; omega) (by show l.length + 1 < _; omega)).mono (by omega))) fun f h2 tk2 hf => ?_
  obtain ⟨v, rfl, hv, q2⟩ := hf
  have H2 : Hp (KK w) h2 [(L, quF0 w.params k1 ⟨⟨a :: l⟩⟩ t)] := H1.stays q2
  have q3 : Kept s.heap h2 [(L, quF0 w.params k1 ⟨⟨a :: l⟩⟩ t)] := q1' _ (q2.more fun b hb => absurd hb List.not_mem_nil)
  clear hc1 q1'
  by_cases hs : Re.allSafe ⟨⟨a :: l⟩⟩ = true
  · rw [if_pos hs] at hv
    subst hv
    refine go_o (s := { s with heap := h2, toks := tk2 }) (kNoLimit _) [] 5 16 (pl 0x41) (fun _ => .ret (.str ⟨⟨a :: l⟩⟩ t)) (fun _ => []) (fun o z => [(L, quF0 w.params k1 ⟨⟨a :: l⟩⟩ t)]) 1 H2 (fun o => by kernel_rfl) (fun o p hp => absurd hp List.not_mem_nil) (fun h4 tk4 o z H4 k4 _ => ?_)
    have := next h4 tk4 t (q3.trans k4 fun b _ hb => hb)
    have hs2 : (a :: l).all Re.safeC = true := hs
    rw [quL, if_neg (List.cons_ne_nil _ _), if_pos hs2] at this
    exact this
  · rw [if_neg hs] at hv
    obtain ⟨r, rfl⟩ := hv
    have hsl := subW_len (a :: l)
    have hfl : ((a :: l).filter fun ch => [ch] == [39]).length ≤ 1001 := Nat.le_trans (List.length_filter_le _ _) (by simp only [List.length_cons]; omega)
    have e := quote_eq (a :: l) (List.cons_ne_nil _ _) hs
    have hq : ¬ (a :: l).all Re.safeC = true := hs
    have hl1 : (Str.ofString "'" ++ Txt.replace ⟨⟨a :: l⟩⟩ (Str.ofString "'") (Str.ofString "'\"'\"'") ++ Str.ofString "'" : Str).length ≤ sizeLine := by
      rw [e, quL, if_neg (List.cons_ne_nil _ _), if_neg hq]
      show (39 :: subW 39 quI (a :: l) ++ [39]).length ≤ _
      simp only [List.length_cons, List.length_append, List.length_nil] at hsl ⊢
      unfold sizeLine
      omega
    have hl2 : (Str.ofString "'" ++ Txt.replace ⟨⟨a :: l⟩⟩ (Str.ofString "'") (Str.ofString "'\"'\"'") : Str).length ≤ sizeLine := by
      refine Nat.le_trans ?_ hl1
      rw [Str.length_append (_ ++ _)]
      exact Nat.le_add_right _ _
    exact go_o (s := { s with heap := h2, toks := tk2 }) (kNoLimit _) ([(11, [], (orA replX)), (3, [], (orA addSX)), (3, [], (orA addSX))]) 0 16 (pl 0x41) (fun o => .ret (.str (Str.ofString "'" ++ Txt.replace ⟨⟨a :: l⟩⟩ (Str.ofString "'") (Str.ofString "'\"'\"'") ++ Str.ofString "'") (o 2).1)) (fun o => [okP ((Str.ofString "'" ++ Txt.replace ⟨⟨a :: l⟩⟩ (Str.ofString "'") (Str.ofString "'\"'\"'") ++ Str.ofString "'" : Str).length ≤ sizeLine), okP ((Str.ofString "'" ++ Txt.replace ⟨⟨a :: l⟩⟩ (Str.ofString "'") (Str.ofString "'\"'\"'") : Str).length ≤ sizeLine), okP (tk2 + 1 ≠ 0 ∧ tk2 + 2 ≠ 0 ∧ tk2 + 1 ≠ tk2 + 2 ∧ (Str.ofString "'" == Str.ofString "'\"'\"'") = false ∧ (l.length + 1) + ((l.length + 1) + 1) * 5 ≤ 16777216)]) (fun o z => [(L, quF0 w.params k1 ⟨⟨a :: l⟩⟩ t)]) 1 H2 (fun o => by kernel_rfl) (fun o => ok3 hl1 hl2 ⟨by omega, by omega, by omega, by decide +kernel, by omega⟩) (fun h4 tk4 o z H4 k4 _ => by rw [e]; exact next h4 tk4 _ (q3.trans k4 fun b _ hb => hb))
theorem qu_e {w : World} {t k1 : Tok} {L : Addr} {s : Shared} {A : Around} {Q : Flow → Shared → Prop} {E : Value → Shared → Prop} (H : Hp (KK w) s.heap [(L, quF0 w.params k1 ⟨⟨[]⟩⟩ t)]) (hA : Fit A 16)
  (next : ∀ h' tk' t', Kept s.heap h' [(L, quF0 w.params k1 ⟨⟨[]⟩⟩ t)] → Q (.ret (.str ⟨⟨quL []⟩⟩ t')) { s with heap := h', toks := tk' }) : wpC B (model PG w) A (execs (quB w) (quEnv w L)) Q E s := by
  refine start_bot 16 hA (execsZ_eq _ _) ?_
  exact go_o (kNoLimit _) ([(4, [], (extA lenX))]) 2 16 (pl 0x41) (fun _ => .ret (.str "''" (s.toks + 2))) (fun _ => [okP (0 ≤ sizeLine)]) (fun o z => [(L, quF0 w.params k1 ⟨⟨[]⟩⟩ t)]) 1 H (fun o => by kernel_rfl) (fun o => ok1 (Nat.zero_le _)) (fun h4 tk4 o z H4 k4 _ => next h4 tk4 _ k4)
theorem qu_ctr {w : World} {l : List Nat} {t : Tok} {s : Shared} {cs : Cells} (hl : l.length ≤ 1000) (H : Hp (KK w) s.heap cs) :
  Ctr B PG w (.call (.ref 758) ⟨[.str ⟨⟨l⟩⟩ t], []⟩) 18 s (fun v h' => (∃ t', v = .str ⟨⟨quL l⟩⟩ t') ∧ Kept s.heap h' []) := by
  have H0 : Hp (KK w) s.heap [] := H.sub (fun p hp => absurd hp List.not_mem_nil) List.nodup_nil
  refine ctr_def (kNoLimit w) 7 16 0 (pl 0x1041000).tail (body := quB w) (env := quEnv w (s.heap.objs.size + 0)) (fun z => [(s.heap.objs.size + 0, quF0 w.params (tokK z 0 0) ⟨⟨l⟩⟩ t)]) 1 H0 (by kernel_rfl) (by kernel_rfl) fun A1 h1 tk1 z hA1 H1 k1 k1' => ?_
  generalize tokK z 0 0 = c0 at H1 k1'
  generalize s.heap.objs.size + 0 = L at H1 k1' ⊢
  cases l with
  | nil => exact qu_e (s := { s with heap := h1, toks := tk1 }) H1 hA1 fun h' tk' t' q => ⟨h', tk', rfl, ⟨t', rfl⟩, k1' _ q⟩
  | cons a l => exact qu_x (s := { s with heap := h1, toks := tk1 }) (by simp only [List.length_cons] at hl; omega) H1 hA1 fun h' tk' t' q => ⟨h', tk', rfl, ⟨t', rfl⟩, k1' _ q⟩
end Mine
end PQT
section PJN
open PySem PySem.W PyProof.Rows PySem.Calls
open PySem.Builtin.Str (occurrences)
set_option maxHeartbeats 0
namespace Mine
variable {B : Bool}
noncomputable def jnB (w : World) : List Stmt := stmtsOf (fdOf (KK w) 750)
noncomputable def jnEnv (w : World) (L : Addr) : Env := { scope := (fdOf (KK w) 750).scope, locals := L, globals := mainGlobals, cells := [], qual := "join.<locals>.", func := some 750, code := .ref 749, frame := some L, builtins := builtinsNs }
noncomputable def jnF0 (P : Params) (k1 : Tok) (W : Addr) : Obj := frmO [ent P "split_command" k1 (.ref W)] 1
noncomputable def retP2 : Stmt → Pos | .Return _ p => p | _ => default
noncomputable def callF2 : PySem.Expr → PySem.Expr | .Call f _ _ _ => f | e => e
noncomputable def callP2 : PySem.Expr → Pos | .Call _ _ _ p => p | _ => default
noncomputable def attO2 : PySem.Expr → PySem.Expr | .Attribute o _ _ => o | e => e
noncomputable def attP2 : PySem.Expr → Pos | .Attribute _ _ p => p | _ => default
noncomputable def namP2 : PySem.Expr → Pos | .Name _ p => p | _ => default
noncomputable def genE2 : PySem.Expr → PySem.Expr | .GeneratorExp e _ _ _ => e | e => e
noncomputable def genI2 : PySem.Expr → PySem.Expr | .GeneratorExp _ (⟨_, i, _, _⟩ :: _) _ _ => i | e => e
noncomputable def genX2 : PySem.Expr → PySem.Expr | .GeneratorExp _ (⟨x, _, _, _⟩ :: _) _ _ => x | e => e
noncomputable def genS2 : PySem.Expr → Scope | .GeneratorExp _ _ s _ => s | _ => default
noncomputable def genP2 : PySem.Expr → Pos | .GeneratorExp _ _ _ p => p | _ => default
noncomputable def jnR (w : World) : PySem.Expr := retE (hdS (jnB w))
noncomputable def jnG (w : World) : PySem.Expr := (callA (jnR w)).getD 0 default
theorem jnB_eq (w : World) : jnB w = [.Return (some (.Call (.Attribute (attO2 (callF2 (jnR w))) "join" (attP2 (callF2 (jnR w)))) [jnG w] [] (callP2 (jnR w)))) (retP2 (hdS (jnB w)))] := by kernel_rfl
theorem jnG_eq (w : World) : jnG w = .GeneratorExp (genE2 (jnG w)) [⟨.Name "arg" (namP2 (genX2 (jnG w))), genI2 (jnG w), [], 0⟩] (genS2 (jnG w)) (genP2 (jnG w)) := by kernel_rfl
theorem jnT_eq (w : World) : genE2 (jnG w) = .Call (.Name "quote" (namP2 (callF2 (genE2 (jnG w))))) [.Name "arg" (namP2 ((callA (genE2 (jnG w))).getD 0 default))] [] (callP2 (genE2 (jnG w))) := by kernel_rfl
noncomputable def jnC (w : World) (L C : Addr) (code : Value) (bi : Addr) : Env := genEnv (genS2 (jnG w)) [] C code bi (jnEnv w L)
theorem Fit.near {A A' : Around} {n : Nat} (h : Fit A (n + 2)) (hh : A'.handled = none) (hd : A'.depth ≤ A.depth + 1) (hu : A'.units ≤ A.units + 8) : Fit A' n :=
  ⟨by have := h.1; omega, by have := h.2.1; omega, hh⟩
theorem jn_quote {w : World} {L C : Addr} {code : Value} {bi : Addr} {A : Around} {E : Value → Shared → Prop} {Q : Value → Shared → Prop} {s : Shared} (X : (KK w).In s.heap) (hA : Fit A 10)
  (next : ∀ h' tk', Kept s.heap h' [] → Q (.ref 758) { s with heap := h', toks := tk' }) : wpAny (model PG w) A (eval (.Name "quote" (namP2 (callF2 (genE2 (jnG w))))) (jnC w L C code bi)) Q E s := by
  have H : Hp (KK w) s.heap [] := ⟨X, fun p hp => absurd hp List.not_mem_nil, List.nodup_nil, fun p hp => absurd hp List.not_mem_nil⟩
  refine wpAny_of (start_bot 10 hA (evalZ_eq _ _) ?_)
  exact go_o (kNoLimit _) [] 2 10 (pl 0x40) (fun _ => .ref 758) (fun _ => []) (fun o z => []) 0 H (fun o => by kernel_rfl) (fun o p hp => absurd hp List.not_mem_nil) (fun h4 tk4 o z H4 k4 _ => next h4 tk4 k4)
noncomputable def jO (w : World) : Obj := (KK w 758).getD default
theorem at758 (w : World) : KK w 758 = some (jO w) := by kernel_rfl
theorem dat758 (w : World) : (jO w).data = .func (fdOf (KK w) 758) := by kernel_rfl
theorem jn_elt {w : World} {L C : Addr} {code : Value} {bi : Addr} {A : Around} {E : Value → Shared → Prop} {s : Shared} {l : List Nat} {t : Tok} {m : Str → Option Value} (X : (KK w).In s.heap) (hA : Fit A 22) (hl : l.length ≤ 1000)
  (hn : s.heap.Ns C m) (hm : m "arg" = some (.str ⟨⟨l⟩⟩ t)) :
  wpAny (model PG w) A (eval (genE2 (jnG w)) (jnC w L C code bi)) (fun y s₃ => (∃ t', y = .str ⟨⟨quL l⟩⟩ t') ∧ Keeps s s₃) E s := by
  rw [jnT_eq]
  refine wpAny_Call_ofName (jn_quote X (hA.le (by omega)) fun h1 tk1 k1 => ?_)
  have X1 : (KK w).In h1 := fun a o e => k1 a o (X a o e) List.not_mem_nil
  have hn1 : h1.Ns C m := hn.at' fun o e => k1 _ o e List.not_mem_nil
  refine callWith_def (o := jO w) (fd := fdOf (KK w) 758) (dat758 w) (args_cons (wpAny_Name (wpAny_loadName_local (by kernel_rfl) (by kernel_rfl) hn1 hm ?_)) (by kernel_rfl)) (by kernel_rfl)
  refine args_nil ⟨X1 _ _ (at758 w), ?_⟩
  have H1 : Hp (KK w) h1 [] := ⟨X1, fun p hp => absurd hp List.not_mem_nil, List.nodup_nil, fun p hp => absurd hp List.not_mem_nil⟩
  refine wpAny_call (codeAny_of (qu_ctr (B := false) (s := { s with heap := h1, toks := tk1 }) hl H1 _ _ ((hA.le (by omega : 18 ≤ 22)).mark none) fun v h2 tk2 hv => ?_))
  obtain ⟨hv, k2⟩ := hv
  exact ⟨hv, h2, tk2, rfl, fun b o e => k2 b o (k1 b o e List.not_mem_nil) List.not_mem_nil⟩
noncomputable def StrsOf (ls : List (List Nat)) (vs : List Value) : Prop := vs.length = ls.length ∧ ∀ (i : Nat) (l : List Nat), ls[i]? = some l → ∃ t, vs[i]? = some (.str ⟨⟨l⟩⟩ t)
noncomputable def jnS (ls : List (List Nat)) : Str := Txt.join " " (ls.map fun l => (⟨⟨quL l⟩⟩ : Str))
noncomputable def fldsOf (o : Obj) : Array Value := match o.data with | .fields vs => vs | _ => #[]
noncomputable def vStrOf : Value → Str | .str x _ => x | _ => ⟨#[]⟩
noncomputable def vStrTk : Value → Tok | .str _ t => t | _ => 0
noncomputable def vIntOf : Value → Int | .int i _ => i | _ => 0
noncomputable def vIntTk : Value → Tok | .int _ t => t | _ => 0
noncomputable def vBoolOf : Value → Bool | .bool b => b | _ => false
theorem ic_of {w : World} {h : Heap} {c P : Addr} {o : Obj} (X : (KK w).In h) (ho : KK w c = some o) (hP : h.get? P = some plO) (hd : o.data = .fields (fldsOf o))
  (h11 : (fldsOf o).getD 11 .none = .ref P) (h18 : (fldsOf o).getD 18 .none = .str (vStrOf ((fldsOf o).getD 18 .none)) (vStrTk ((fldsOf o).getD 18 .none)))
  (h7 : (fldsOf o).getD 7 .none = .int (vIntOf ((fldsOf o).getD 7 .none)) (vIntTk ((fldsOf o).getD 7 .none))) (h9 : (fldsOf o).getD 9 .none = .bool (vBoolOf ((fldsOf o).getD 9 .none)))
  (h10 : (fldsOf o).getD 10 .none = .int (vIntOf ((fldsOf o).getD 10 .none)) (vIntTk ((fldsOf o).getD 10 .none))) (hne : c ≠ P) : h.IsCode c P #[] :=
  ⟨o, fldsOf o, _, _, _, _, _, _, _, plO, X _ _ ho, hd, h11, h18, h7, h9, h10, hP, rfl, trivial, hne⟩
noncomputable def jO2 (w : World) : Obj := (KK w 749).getD default
theorem at749 (w : World) : KK w 749 = some (jO2 w) := by kernel_rfl
theorem Kept.same {K : Sta} {h h' : Heap} {cs : Cells} (k : Kept h h' cs) (H : Hp K h cs) (H' : Hp K h' cs) : Kept h h' [] := fun b o e _ => by
  by_cases hb : b ∈ cs.map (·.1)
  · obtain ⟨p, hp, rfl⟩ := List.mem_map.mp hb
    have e2 := H.ce p hp
    rw [e2] at e; cases e
    exact H'.ce p hp
  · exact k b o e hb
theorem Hp.none {K : Sta} {h : Heap} (X : K.In h) : Hp K h [] := ⟨X, fun p hp => absurd hp List.not_mem_nil, List.nodup_nil, fun p hp => absurd hp List.not_mem_nil⟩
theorem passing_all (n : Nat) : passing (fun _ => true) n 0 = List.range n := by unfold passing; simp
theorem jn_body {w : World} {W L : Addr} {ls : List (List Nat)} {vs : List Value} {n : Nat} {k1 : Tok} {s : Shared} {A : Around} {Q : Flow → Shared → Prop} {E : Value → Shared → Prop}
  (H : Hp (KK w) s.heap [(L, jnF0 w.params k1 W), (W, lstO vs n), (745, plO)]) (hA : Fit A 30) (hls : StrsOf ls vs) (hlen : ∀ l ∈ ls, l.length ≤ 1000) (hn : ls.length ≤ 1000) (hw : (ls.map fun l => (quL l).length).sum + ls.length ≤ 1048576)
  (next : ∀ h' g' tk' t', Kept s.heap h' [(745, plO)] → (∃ ps, h'.get? 745 = some (tbO ps)) → (AllBare s.gens → AllBare g') → Q (.ret (.str (jnS ls) t')) { s with heap := h', gens := g', toks := tk' }) :
  wpC B (model PG w) A (execs (jnB w) (jnEnv w L)) Q E s := by
  rw [jnB_eq]
  refine wpC_execs_cons (wpC_Return_some (wpC_of ?_))
  refine Call_method1 (by kernel_rfl) (by kernel_rfl) (by kernel_rfl) ?_
  refine wpAny_of (start_bot 28 (hA.le (by omega)) (evalZ_eq _ _) ?_)
  refine go_o (kNoLimit _) [] 1 28 (pl 0x1) (fun _ => .str " " s.toks) (fun _ => []) (fun o z => [(L, jnF0 w.params k1 W), (W, lstO vs n), (745, plO)]) 3 H (fun o => by kernel_rfl) (fun o p hp => absurd hp List.not_mem_nil) (fun h1 tk1 o z H1 q1 _ => ?_)
  have K1 : Kept s.heap h1 [] := q1.same H H1
  refine ⟨"str", "str.join", F.plainAttrs_str, F.slot_str_join, by kernel_rfl, typeIs_str _ _ _, (fun a e => nomatch e), ?_⟩
  refine callWith_builtin (by rfl) (evalArgs_plain (spliced_cons ?_))
  rw [jnG_eq]
  refine wpAny_GeneratorExp_walksQD (cl := []) hA.2.2 (by kernel_rfl) (by kernel_rfl) (fun y hy => ?hcell) (by kernel_rfl) (by kernel_rfl) (by kernel_rfl) (by have := hA.1; omega) ?_ ?hs
  case hcell =>
    have h0 : ((genS2 (jnG w)).names.all fun y => !(y.2 == .cell)) = true := by kernel_rfl
    have := List.all_eq_true.mp h0 y hy
    intro e
    rw [e] at this
    exact absurd this (by decide)
  case hs => exact fun x => by kernel_rfl
  refine wpAny_of (start_bot 28 (hA.le (by omega)) (evalZ_eq _ _) ?_)
  refine go_o (s := { s with heap := h1, toks := tk1 }) (kNoLimit _) [] 2 28 (pl 0x41) (fun _ => .ref W) (fun _ => []) (fun o z => [(L, jnF0 w.params k1 W), (W, lstO vs n), (745, plO)]) 3 H1 (fun o => by kernel_rfl) (fun o p hp => absurd hp List.not_mem_nil) (fun h2 tk2 o z H2 q2 _ => ?_)
  have K2 : Kept s.heap h2 [] := K1.trans (q2.same H1 H2) fun b _ hb => hb
  have hW2 : h2.get? W = some (lstO vs n) := H2.ce (W, lstO vs n) (List.mem_of_getElem? (i := 1) rfl)
  have hP2 : h2.get? 745 = some plO := H2.ce (745, plO) (List.mem_of_getElem? (i := 2) rfl)
  have hl2 : h2.IsList W ⟨vs⟩ := ⟨_, hW2, rfl, n, rfl⟩
  refine wpAny_pyIter_list hl2 ?_
  generalize hitO : ({ cls := .type "list_iterator", data := .fields #[.ref W, .int 0 0] } : Obj) = itO
  have hfr : itO.isFreed = false := by subst hitO; rfl
  have k23 : ∀ b o, h2.get? b = some o → (h2.push itO).get? b = some o := fun b o e => Heap.get?_push_of_some _ e
  have hit3 : (h2.push itO).get? h2.objs.size = some itO := Heap.get?_push_size _ hfr
  generalize h2.push itO = h3 at k23 hit3
  have X3 : (KK w).In h3 := fun a o e => k23 _ _ (H2.st a o e)
  refine ⟨kNoLimit w _ X3, ?_⟩
  have hP3 : h3.get? 745 = some plO := k23 _ _ hP2
  have hl3 : h3.IsList W ⟨vs⟩ := ⟨_, k23 _ _ hW2, rfl, n, rfl⟩
  have hWI : W ≠ h2.objs.size := Nat.ne_of_lt (Heap.lt_size hW2)
  have hPI : h2.objs.size ≠ 745 := fun e => Nat.lt_irrefl _ (e ▸ Heap.lt_size hP2)
  have hWP : W ≠ 745 := by
    have nd := H.nd
    simp only [List.map_cons, List.map_nil, List.nodup_cons, List.mem_cons, List.not_mem_nil, or_false, not_or, not_false_eq_true, and_true, List.nodup_nil] at nd
    exact nd.2
  have hIC := ic_of X3 (at749 w) hP3 (by kernel_rfl) (by kernel_rfl) (by kernel_rfl) (by kernel_rfl) (by kernel_rfl) (by kernel_rfl) (by decide)
  refine wpAny_genexprCodeX (c := 749) (P := 745) (ps := #[]) (by kernel_rfl) hIC ⟨?hta, hP3⟩ (by kernel_rfl) ?_
  case hta => exact ⟨jO2 w, fldsOf (jO2 w), X3 _ _ (at749 w), by kernel_rfl, by kernel_rfl, by kernel_rfl⟩
  intro cc h4 tk4 x4 _ _ hc4 _ ht4 _
  obtain ⟨ps', hT4⟩ : ∃ ps', h4.get? 745 = some (tbO ps') := ⟨_, ht4.2⟩
  generalize Value.ref cc = code at *
  have k34 : ∀ b o, b ≠ 745 → h3.get? b = some o → h4.get? b = some o := fun b o hb e => x4 b o hb e
  have K745 : KK w 745 = none := H.off (745, plO) (List.mem_of_getElem? (i := 2) rfl)
  have X4 : (KK w).In h4 := fun a o e => k34 a o (fun hb => by rw [hb, K745] at e; cases e) (X3 a o e)
  refine wpAny_of (start_bot (tz := builtinsFor (jnEnv w L).globals (jnEnv w L).builtins) 28 (hA.le (by omega)) rfl ?_)
  have H4 : Hp (KK w) h4 [] := Hp.none X4
  refine go_o (s := { s with heap := h4, toks := tk4 }) (kNoLimit _) [] 2 28 (pl 0x1000) (fun _ => builtinsNs) (fun _ => []) (fun o z => []) 0 H4 (fun o => by kernel_rfl) (fun o p hp => absurd hp List.not_mem_nil) (fun h5 tk5 o z H5 q5 _ => ?_)
  have k35 : ∀ b o, b ≠ 745 → h3.get? b = some o → h5.get? b = some o := fun b o hb e => q5 b o (k34 b o hb e) List.not_mem_nil
  have X5 : (KK w).In h5 := H5.st
  have hit5 : h5.IsListIter h2.objs.size W 0 := ⟨itO, k35 _ _ hPI hit3, by subst hitO; rfl, by subst hitO; rfl⟩
  have hl5 : h5.IsList W ⟨vs⟩ := ⟨_, k35 _ _ hWP (k23 _ _ hW2), rfl, n, rfl⟩
  have lt5 : ∀ b o, h2.get? b = some o → b < h5.objs.size := fun b o e => by
    by_cases hb : b = 745
    · obtain ⟨o2, _, _, _, _, _, _, _, _, op, _, _, _, _, _, _, _, hop, _⟩ := hc4
      rw [hb]
      exact Heap.lt_size (q5 _ _ hop List.not_mem_nil)
    · exact Heap.lt_size (k35 b o hb (k23 b o e))
  have hI5 : h2.objs.size < h5.objs.size := Heap.lt_size (k35 _ _ hPI hit3)
  have hW5 : W < h5.objs.size := lt5 W _ hW2
  have hvl : vs.length = ls.length := hls.1
  have hKI : KK w h2.objs.size = none := by
    cases e : KK w h2.objs.size with
    | none => rfl
    | some o => exact absurd (Heap.lt_size (H2.st _ _ e)) (Nat.lt_irrefl _)
  refine ⟨h2.objs.size, [h2.objs.size, W], [h2.objs.size], vs.length, (fun i v => (⟨vs⟩ : Array Value)[i]? = some v), (fun i h => h.IsListIter h2.objs.size W i ∧ h.IsList W ⟨vs⟩), (fun _ => true), (fun i y => ∃ l t', ls[i]? = some l ∧ y = .str ⟨⟨quL l⟩⟩ t'), rfl, (fun A' hA' => Walks.list hA' _ _ hWI _), ⟨hit5, hl5⟩, ?_, kNoLimit w _ X5, ?_, ?_, ?_⟩
  · intro b hb
    rcases List.mem_cons.mp hb with rfl | hb
    · exact hI5
    · rw [List.mem_singleton.mp hb]; exact hW5
  · intro hb
    have := List.mem_singleton.mp hb
    rw [← this] at hKI
    exact absurd hKI (by rw [show KK w cStatics = some _ from kStat w]; simp)
  · intro href hk
    have Xh : ∀ {h' : Heap}, (∀ b ∈ List.range h5.objs.size, b ∉ [h2.objs.size] → ∀ o, href.get? b = some o → h'.get? b = some o) → (KK w).In h' := fun hh a o e => by
      refine hh a (List.mem_range.mpr (Heap.lt_size (X5 a o e))) (fun hb => ?_) o (hk _ _ (X5 a o e))
      rw [List.mem_singleton.mp hb, hKI] at e; cases e
    refine ⟨fun A' E' i v s₂ m₂ h1 h2 h3 hP hN hm hk2 => wpAny_pure ⟨rfl, s₂.heap, s₂.toks, rfl, fun b o e => e⟩, fun A' E' i v s₂ m₂ hh hd hu hP _ hN hm hk2 => ?_⟩
    have hi : i < ls.length := by
      have := (List.getElem?_eq_some_iff.mp (show vs[i]? = some v by simpa using hP)).1
      omega
    obtain ⟨t, ht⟩ := hls.2 i _ (List.getElem?_eq_getElem hi)
    have hv : v = .str ⟨⟨ls[i]⟩⟩ t := by
      have h2 : vs[i]? = some v := by simpa using hP
      rw [ht] at h2
      exact (Option.some.inj h2).symm
    subst hv
    exact wpAny_mono (jn_elt (L := L) (C := h5.objs.size) (code := code) (bi := builtinsNs) (Xh hk2) ((hA.le (by omega : 24 ≤ 30)).near hh hd hu) (hlen _ (List.getElem_mem hi)) hN hm) (fun y s₃ hy => ⟨⟨_, hy.1.choose, List.getElem?_eq_getElem hi, hy.1.choose_spec⟩, hy.2⟩) fun _ _ e => e
  · intro a h6 tk6 gs hb ha hsz hk W' hG
    refine spliced_nil ?_
    have hpl : passing (fun _ => true) vs.length 0 = List.range vs.length := passing_all _
    refine SC.joinGen W'.in4_2 (fun i s st => let ⟨o, _, _, ho, hc, _⟩ := st.1; ⟨o, ho, hc⟩) hG ?_ (List.mem_cons_self ..) ?_ ?_ ?_
    · intro b hb
      rw [show ({ s with heap := h6, gens := s.gens.push gs, toks := tk6 } : Shared).heap.objs.size = a + 1 from hsz]
      rcases List.mem_cons.mp hb with rfl | hb
      · exact Nat.lt_succ_self _
      · rcases List.mem_cons.mp hb with rfl | hb
        · exact Nat.lt_succ_of_lt ha
        · exact Nat.lt_succ_of_lt (Nat.lt_trans (List.mem_range.mp hb) ha)
    · rintro i v ⟨j, _, l, t', _, rfl⟩
      exact ⟨_, _, rfl⟩
    · intro s' lt hm hacc
      have hl : lt.map (·.1) = ls.map fun l => (⟨⟨quL l⟩⟩ : Str) := by
        apply List.ext_getElem?
        intro j
        have hsz : lt.length = ls.length := by
          have := hacc.1
          rw [hpl, List.length_range, hvl] at this
          simpa [strValues] using this
        by_cases hj : j < ls.length
        · have hj' : j < lt.length := hsz ▸ hj
          obtain ⟨i, hi, l, t', hl, hv⟩ := hacc.2 j (.str lt[j].1 lt[j].2) (by simp [strValues, List.getElem?_eq_getElem hj'])
          rw [hpl] at hi
          have hij : i = j := by
            rw [List.getElem?_range (by omega)] at hi
            exact (Option.some.inj hi).symm
          subst hij
          injection hv with h1 _
          simp [List.getElem?_eq_getElem hj', hl, h1]
        · rw [List.getElem?_eq_none (by simpa [hsz] using Nat.le_of_not_lt hj), List.getElem?_eq_none (by simpa using Nat.le_of_not_lt hj)]
      refine ⟨?_, fun t' k => ?_⟩
      · rw [hl]
        refine joinOk_of_weight ?_ (by decide +kernel)
        rw [List.map_map, List.length_map]
        exact hw
      · rw [hl]
        have e : ({ s' with toks := k } : Shared) = { s with heap := s'.heap, gens := s'.gens, toks := k } := by
          have h1 := hm.drawn
          have h2 := hm.os
          cases s'
          simp only at h1 h2
          subst h1; subst h2; rfl
        rw [e]
        have k6 : ∀ b o, b < h2.objs.size → h5.get? b = some o → s'.heap.get? b = some o := fun b o hlt eo => by
          refine hm.heap b o (fun hw => ?_) (hk _ _ eo)
          rcases List.mem_cons.mp hw with rfl | hw
          · exact Nat.lt_irrefl _ (Nat.lt_trans hlt hI5)
          · rw [List.mem_singleton.mp hw] at hlt
            exact Nat.lt_irrefl _ hlt
        refine next _ _ _ _ (fun b o eo hb => ?_) ⟨ps', k6 _ _ (Heap.lt_size hP2) (q5 _ _ hT4 List.not_mem_nil)⟩ fun hbr => AllBare.movedS (AllBare.push hbr hb) hm
        have hb7 : b ≠ 745 := fun h => hb (by rw [h]; simp)
        have e2 : h2.get? b = some o := K2 b o eo List.not_mem_nil
        exact k6 _ _ (Heap.lt_size e2) (k35 b o hb7 (k23 _ _ e2))
    · rw [hpl, List.length_range]
      unfold sizeLine; omega
theorem jn_ctr {w : World} {W : Addr} {ls : List (List Nat)} {vs : List Value} {n : Nat} {s : Shared} (H : Hp (KK w) s.heap [(W, lstO vs n), (745, plO)])
  (hls : StrsOf ls vs) (hlen : ∀ l ∈ ls, l.length ≤ 1000) (hn : ls.length ≤ 1000) (hw : (ls.map fun l => (quL l).length).sum + ls.length ≤ 1048576) :
  CtrS B PG w (.call (.ref 750) ⟨[.ref W], []⟩) 32 s (fun f s' => ∃ h g tk t', f = .ret (.str (jnS ls) t') ∧ s' = { s with heap := h, gens := g, toks := tk } ∧ Kept s.heap h [(745, plO)] ∧ (∃ ps, h.get? 745 = some (tbO ps)) ∧ (AllBare s.gens → AllBare g)) := by
  refine ctrS_def (kNoLimit w) 7 30 0 (pl 0x10C3000).tail (body := jnB w) (env := jnEnv w (s.heap.objs.size + 0)) (fun z => [(W, lstO vs n), (745, plO), (s.heap.objs.size + 0, jnF0 w.params (tokK z 2 0) W)]) 3 H (by kernel_rfl) (by kernel_rfl) fun A1 h1 tk1 z hA1 H1 k1 k1' => ?_
  have H2 : Hp (KK w) h1 [(s.heap.objs.size + 0, jnF0 w.params (tokK z 2 0) W), (W, lstO vs n), (745, plO)] := Hp.front (a := [(W, lstO vs n), (745, plO)]) H1
  refine jn_body (s := { s with heap := h1, toks := tk1 }) H2 hA1 hls hlen hn hw fun h' g' tk' t' q hT hBr => ⟨h', g', tk', t', rfl, rfl, ?_, hT, hBr⟩
  have k2 : Kept s.heap h1 [] := k1.same H (H1.left (b := [_]))
  exact fun b o e hb => q b o (k2 b o e List.not_mem_nil) hb
end Mine
end PJN
section PRN
open PySem PySem.W PyProof.Rows PySem.Calls
open PySem.Builtin.Str (occurrences)
set_option maxHeartbeats 0
namespace Mine
variable {B : Bool}
noncomputable def rnB (w : World) : List Stmt := stmtsOf (fdOf (KK w) 777)
noncomputable def rnEnv (w : World) (L : Addr) : Env := { scope := (fdOf (KK w) 777).scope, locals := L, globals := mainGlobals, cells := [], qual := "_law_run.<locals>.", func := some 777, code := .ref 776, frame := some L, builtins := builtinsNs }
noncomputable def rnF0 (P : Params) (kk : Nat → Tok) (W : Addr) (k : Nat) (t : Tok) : List DictEntry := [ent P "words" (kk 0) (.ref W), ent P "width" (kk 1) (.int (k : Nat) t)]
noncomputable def jnL : List (List Nat) → List Nat
  | [] => []
  | [x] => quL x
  | x :: y :: r => quL x ++ 32 :: jnL (y :: r)
theorem join_eq : ∀ ls : List (List Nat), Str.join ⟨⟨[32]⟩⟩ (ls.map fun l => (⟨⟨quL l⟩⟩ : Str)) = ⟨⟨jnL ls⟩⟩
  | [] => rfl
  | [x] => rfl
  | x :: y :: r => by
    have ih := join_eq (y :: r)
    show (⟨⟨quL x⟩⟩ : Str) ++ ⟨⟨[32]⟩⟩ ++ Str.join ⟨⟨[32]⟩⟩ ((y :: r).map fun l => (⟨⟨quL l⟩⟩ : Str)) = _
    rw [ih, str_app, str_app]
    rw [jnL, List.append_assoc]; rfl
theorem jnS_eq (ls : List (List Nat)) : jnS ls = ⟨⟨jnL ls⟩⟩ := by
  unfold jnS Txt.join
  rw [StrLaws.glued_eq_join]
  exact join_eq ls
theorem Kept.part {K : Sta} {h h' : Heap} {a b : Cells} (k : Kept h h' (a ++ b)) (H : Hp K h (a ++ b)) (H' : ∀ p ∈ b, h'.get? p.1 = some p.2) : Kept h h' a := fun x o e hb => by
  by_cases hx : x ∈ b.map (·.1)
  · obtain ⟨p, hp, rfl⟩ := List.mem_map.mp hx
    have e2 := H.ce p (List.mem_append_right _ hp)
    rw [e2] at e; cases e
    exact H' p hp
  · exact k x o e fun hm => by
      rw [List.map_append] at hm
      exact (List.mem_append.mp hm).elim hb hx
noncomputable def padN (k : Nat) (l : List Nat) : Nat := ((-(l.length : Int)).fmod (k : Nat)).toNat
noncomputable def padL (k : Nat) (l : List Nat) : List Nat := l ++ List.replicate (padN k l) 32
theorem ok4 {P1 P2 P3 P4 : Prop} (h1 : P1) (h2 : P2) (h3 : P3) (h4 : P4) : ∀ a ∈ [okP P1, okP P2, okP P3, okP P4], a := fun a ha => by
  rcases List.mem_cons.mp ha with rfl | ha
  · exact ⟨h1, rfl⟩
  · exact ok3 h2 h3 h4 a ha
section
variable {w : World} {W L : Addr} {ls : List (List Nat)} {vs : List Value} {n : Nat} {k : Nat} {kk : Nat → Tok} {t : Tok} {s : Shared} {A : Around} {Q : Flow → Shared → Prop} {E : Value → Shared → Prop}
theorem rn_st1 {rest : List Stmt} (H : Hp (KK w) s.heap [(L, frmO (rnF0 w.params kk W k t) 2), (W, lstO vs n), (745, plO)]) (hA : Fit A 45) (hls : StrsOf ls vs) (hlen : ∀ l ∈ ls, l.length ≤ 1000) (hn : ls.length ≤ 1000) (hw : (ls.map fun l => (quL l).length).sum + ls.length ≤ 1048576)
  (next : ∀ h' g' tk' t2 k2, Hp (KK w) h' [(L, frmO (rnF0 w.params kk W k t ++ [ent w.params "line" k2 (.str ⟨⟨jnL ls⟩⟩ t2)]) 3), (W, lstO vs n)] → Kept s.heap h' [(L, plO), (745, plO)] → (∃ ps, h'.get? 745 = some (tbO ps)) → (AllBare s.gens → AllBare g') → wpC B (model PG w) A (execs rest (rnEnv w L)) Q E { s with heap := h', gens := g', toks := tk' }) :
  wpC B (model PG w) A (execs (hdS (rnB w) :: rest) (rnEnv w L)) Q E s := by
  refine execs_one (start_bot 45 hA (execsZ_eq _ _) ?_)
  refine go_oc (kNoLimit _) [] 7 45 (pl 0x40040) (fun _ => .call (.ref 750) ⟨[.ref W], []⟩) (fun _ => []) (fun _ z => [(L, frmO (rnF0 w.params kk W k t) 2), (W, lstO vs n), (745, plO)]) 3 45 H (fun o => by kernel_rfl) (fun o p hp => absurd hp List.not_mem_nil) fun h1 tk1 o1 z1 H1 q1 q1' hc1 => ?_
  have H1' : Hp (KK w) h1 [(W, lstO vs n), (745, plO)] := H1.right (a := [_])
  refine callS_ok hc1 ((jn_ctr (s := { s with heap := h1, toks := tk1 }) H1' hls hlen hn hw).mono (by omega)) fun f s2 hf => ?_
  obtain ⟨h2, g, tk2, t2, rfl, rfl, q2, ⟨ps, hT⟩, hBr⟩ := hf
  have H2 : Hp (KK w) h2 [(L, frmO (rnF0 w.params kk W k t) 2), (W, lstO vs n)] := hpKeep (b := [_]) H1 q2
  have K2 : Kept s.heap h2 [(745, plO)] := fun b o e hb => q2 b o (q1.same H H1 b o e List.not_mem_nil) hb
  rw [jnS_eq]
  refine go_o (s := { s with heap := h2, gens := g, toks := tk2 }) (kNoLimit _) [] 8 45 (pl 0x1041) (fun _ => .next) (fun _ => []) (fun o z => [(L, frmO (rnF0 w.params kk W k t ++ [ent w.params "line" (tokK z 0 2) (.str ⟨⟨jnL ls⟩⟩ t2)]) 3), (W, lstO vs n)]) 2 H2 (fun o => by kernel_rfl) (fun o p hp => absurd hp List.not_mem_nil) (fun h4 tk4 o z H4 k4 _ => next h4 g tk4 t2 _ H4 (fun b o e hb => ?_) ⟨ps, k4 _ _ hT ?_⟩ hBr)
  · have k5 : Kept h2 h4 [(L, frmO (rnF0 w.params kk W k t) 2)] := Kept.part (b := [_]) k4 H2 fun p hp => H4.ce p (List.mem_cons_of_mem _ hp)
    exact k5 b o (K2 b o e fun hb2 => hb (List.mem_cons_of_mem _ hb2)) fun hb2 => hb (by rw [List.mem_singleton.mp hb2]; exact List.mem_cons_self ..)
  · have nd := H.nd
    simp only [List.map_cons, List.map_nil, List.nodup_cons, List.mem_cons, List.not_mem_nil, or_false, not_or] at nd
    simp only [List.map_cons, List.map_nil, List.mem_cons, List.not_mem_nil, or_false, not_or]
    exact ⟨Ne.symm nd.1.2, Ne.symm nd.2.1⟩
noncomputable def rnF1 (P : Params) (kk : Nat → Tok) (W : Addr) (k : Nat) (t : Tok) (l : List Nat) (t2 : Tok) : List DictEntry := rnF0 P kk W k t ++ [ent P "line" (kk 2) (.str ⟨⟨l⟩⟩ t2)]
theorem rn_st2 {l : List Nat} {t2 : Tok} {e2 : Nat} {rest : List Stmt} (H : Hp (KK w) s.heap [(L, frmO (rnF1 w.params kk W k t l t2) e2)]) (hA : Fit A 45) (hl : l.length ≤ 10000) (hk : k = 2 ∨ k = 3 ∨ k = 4 ∨ k = 5)
  (next : ∀ h' tk' t2' e2', Hp (KK w) h' [(L, frmO (rnF1 w.params kk W k t (padL k l) t2') e2')] → Kept s.heap h' [(L, plO)] → wpC B (model PG w) A (execs rest (rnEnv w L)) Q E { s with heap := h', toks := tk' }) :
  wpC B (model PG w) A (execs (hdS ((rnB w).drop 1) :: rest) (rnEnv w L)) Q E s := by
  refine execs_one (start_bot 45 hA (execsZ_eq _ _) ?_)
  have hr := fmod_range (-(l.length : Int)) (m := (k : Nat)) (by omega)
  have hpad : (⟨⟨l⟩⟩ ++ ⟨⟨List.replicate ((-Int.ofNat (⟨⟨l⟩⟩ : Str).length).fmod (k : Nat)).toNat ((Str.ofString " ").cps.toList.headD 0)⟩⟩ : Str) = ⟨⟨padL k l⟩⟩ := by rw [str_app]; rfl
  have hlen : (⟨⟨padL k l⟩⟩ : Str).length ≤ sizeLine := by
    show (padL k l).length ≤ _
    unfold padL padN sizeLine
    rw [List.length_append, List.length_replicate]
    omega
  refine go_o (kNoLimit _) ([(10, [], (extA lenX)), (2, [], (extA negX)), (3, [], (extA modX)), (6, [], (orA mulSX)), (2, [], (orA addSX))]) 7 45 (pl 0x41041040001) (fun _ => .next) (fun _ => [okP ((⟨⟨l⟩⟩ ++ ⟨⟨List.replicate ((-Int.ofNat (⟨⟨l⟩⟩ : Str).length).fmod (k : Nat)).toNat ((Str.ofString " ").cps.toList.headD 0)⟩⟩ : Str).length ≤ sizeLine), okP ((Str.ofString " ").cps.toList = [(Str.ofString " ").cps.toList.headD 0] ∧ 0 ≤ (-Int.ofNat (⟨⟨l⟩⟩ : Str).length).fmod (k : Nat) ∧ (-Int.ofNat (⟨⟨l⟩⟩ : Str).length).fmod (k : Nat) ≤ 1000), okP ((k : Int) ≠ 0), okP True, okP ((⟨⟨l⟩⟩ : Str).length ≤ sizeLine)])
    (fun o z => [(L, frmO (rnF0 w.params kk W k t ++ [ent w.params "line" (kk 2) (.str (⟨⟨l⟩⟩ ++ ⟨⟨List.replicate ((-Int.ofNat (⟨⟨l⟩⟩ : Str).length).fmod (k : Nat)).toNat ((Str.ofString " ").cps.toList.headD 0)⟩⟩) (o 4).1)]) (epZ z 0))]) 1 H (fun o => by kernel_rfl) (fun o p hp => ?_) (fun h4 tk4 o z H4 k4 _ => ?_)
  · rcases List.mem_cons.mp hp with rfl | hp
    · exact ⟨by rw [hpad]; exact hlen, rfl⟩
    · exact ok4 ⟨by kernel_rfl, hr.1, by have := hr.2; show (-(l.length : Int)).fmod (k : Nat) ≤ 1000; omega⟩ (by omega) trivial (by show l.length ≤ _; unfold sizeLine; omega) p hp
  · rw [hpad] at H4
    exact next h4 tk4 _ _ H4 k4
end
end Mine
end PRN
section PRC3
open PySem PySem.W PyProof.Rows PySem.Calls
open PySem.Builtin.Str (occurrences)
set_option maxHeartbeats 0
namespace Mine
variable {B : Bool}
noncomputable def asgE : Stmt → PySem.Expr | .Assign _ e _ => e | _ => default
noncomputable def rnE3 (w : World) : PySem.Expr := (callA ((callA (asgE (hdS ((rnB w).drop 2)))).getD 0 default)).getD 0 default
noncomputable def ordX {B : Bool} : Ext B where
  val := fun c p tk => on "ord" (lc sZ l0) c fun ((x, t), _) => some (.int (Int.ofNat (x.cps.toList.headD 0)) tk, tk + 1, x.cps.toList = [x.cps.toList.headD 0])
  sound := fun c p v tk' P s e hP hp prog w A R hR => by
    replace e := on_is e
    obtain ⟨x0, rfl, e⟩ := e
    cases e
    obtain ⟨⟨x, t⟩, _⟩ := x0
    obtain ⟨⟨l⟩⟩ := x
    generalize hc : (⟨⟨l⟩⟩ : Str).cps.toList.headD 0 = ch at hP hR
    have hl : l = [ch] := hP
    subst hl
    exact codeC_of (code_fn F.kind_ord F.plain_ord F.entry_ord (F.args_ord1 _) (gives_ord ch t).meets hR)
noncomputable def IntsOf (l : List Nat) (vs : List Value) : Prop := vs.length = l.length ∧ ∀ (i n : Nat), l[i]? = some n → ∃ t, vs[i]? = some (.int (n : Nat) t)
theorem IntsOf.snoc {l : List Nat} {vs : List Value} (h : IntsOf l vs) (n : Nat) (t : Tok) : IntsOf (l ++ [n]) (vs ++ [.int (n : Nat) t]) := by
  refine ⟨by simp [h.1], fun i m hi => ?_⟩
  by_cases hlt : i < l.length
  · rw [List.getElem?_append_left hlt] at hi
    rw [List.getElem?_append_left (by rw [h.1]; exact hlt)]
    exact h.2 i m hi
  · rw [List.getElem?_append_right (by omega)] at hi
    rw [List.getElem?_append_right (by rw [h.1]; omega), h.1]
    have : i - l.length = 0 := by
      cases hh : i - l.length with
      | zero => rfl
      | succ k => rw [hh] at hi; simp at hi
    rw [this] at hi ⊢
    simp only [List.getElem?_cons_zero, Option.some.injEq] at hi ⊢
    exact ⟨t, by rw [hi]⟩
noncomputable def c3C (w : World) (asc : Bool) (I C F : Addr) (x : Str) (t : Tok) (i : Int) (vs : List Value) (n : Nat) (k : Tok) (e : Nat) (ov : Option Value) : Cells := [(I, fldO (tyS asc) [.str x t, .int i 0]), (C, lstO vs n), (F, sgD w.params k e ov)]
noncomputable def c3Lp (w : World) (L : Addr) (I C F : Addr) : Code := .compLoop (rnE3 w) 0 (.ref I) (.ref C) (lcEnv2 (rnE3 w) (rnEnv w L) [] F)
noncomputable def c3St (w : World) (L : Addr) (I C F : Addr) : Code := .compStart (rnE3 w) 0 (.ref I) (.ref C) (lcEnv2 (rnE3 w) (rnEnv w L) [] F)
theorem c3_tnt {w : World} {L I C F : Addr} {x : Str} {t k : Tok} {i : Int} {vs : List Value} {n e ch : Nat} {v : Value} {s : Shared} {A : Around} {Q : PySem.Fin → Shared → Prop} {E : Value → Shared → Prop} (H : Hp (KK w) s.heap (c3C w true I C F x t i vs n k e none)) (hA : Fit A 12) (hx : x.cps[i.toNat]? = some ch) (hz : vs.length ≤ sizeLine)
  (next : ∀ h' tk' (tt : Tok) k' e' n', Hp (KK w) h' (c3C w true I C F x t (i + 1) (vs ++ [.int (ch : Nat) tt]) n' k' e' (some (.str ⟨#[ch]⟩ s.toks))) → Kept s.heap h' (c3C w true I C F x t i vs n k e none) → Q (.again (c3Lp w L I C F)) { s with heap := h', toks := tk' }) :
  wpC B (model PG w) A (denZ (c3Lp w L I C F)) Q E s := by
  refine start_bot 12 hA rfl ?_
  exact go_o (kNoLimit _) ([(2, [0], (actA (strNextX true ch))), (13, [], (extA ordX)), (1, [1], (actA appendA))]) 0 12 (pl 0x10c00030c1) (fun _ => .again (c3Lp w L I C F)) (fun _ => [okP (C = C ∧ "list" = "list" ∧ (⟨vs⟩ : Array Value).size ≤ sizeLine), okP ((⟨#[ch]⟩ : Str).cps.toList = [(⟨#[ch]⟩ : Str).cps.toList.headD 0]), okP (I = I ∧ tyS true = tyS true ∧ 0 = 0 ∧ x.cps[i.toNat]? = some ch)]) (fun o z => c3C w true I C F x t (i + 1) (vs ++ [.int (ch : Nat) (s.toks + 2)]) (seqN z 1) (tokK z 2 0) (epZ z 2) (some (.str ⟨#[ch]⟩ s.toks))) 3 H (fun o => by kernel_rfl) (fun o => ok3 ⟨rfl, rfl, hz⟩ rfl ⟨rfl, rfl, rfl, hx⟩) (fun h' tk' o z H' k' _ => next h' tk' _ _ _ _ H' k')
theorem c3_tne {w : World} {L I C F : Addr} {x : Str} {t k : Tok} {i : Int} {vs : List Value} {n e : Nat} {v : Value} {s : Shared} {A : Around} {Q : PySem.Fin → Shared → Prop} {E : Value → Shared → Prop} (H : Hp (KK w) s.heap (c3C w true I C F x t i vs n k e none)) (hA : Fit A 12) (hx : x.cps[i.toNat]? = none)
  (next : ∀ h' tk', Hp (KK w) h' [(I, fldO (tyS true) [.none, .int i 0]), (C, lstO vs n), (F, sgD w.params k e none)] → Kept s.heap h' (c3C w true I C F x t i vs n k e none) → Q (.done .next) { s with heap := h', toks := tk' }) :
  wpC B (model PG w) A (denZ (c3Lp w L I C F)) Q E s := by
  refine start_bot 12 hA rfl ?_
  exact go_o (kNoLimit _) ([(2, [0], (strStopA true))]) 1 12 (pl 0x1141) (fun _ => .done .next) (fun _ => [okP (I = I ∧ tyS true = tyS true ∧ 0 = 0 ∧ x.cps[i.toNat]? = none)]) (fun o z => [(I, fldO (tyS true) [.none, .int i 0]), (C, lstO vs n), (F, sgD w.params k e none)]) 3 H (fun o => by kernel_rfl) (fun o p hp => by rw [List.mem_singleton.mp hp]; exact ⟨⟨rfl, rfl, rfl, hx⟩, rfl⟩) (fun h' tk' o z H' k' _ => next h' tk' H' k')
theorem c3_tst {w : World} {L I C F : Addr} {x : Str} {t k : Tok} {i : Int} {vs : List Value} {n e ch : Nat} {v : Value} {s : Shared} {A : Around} {Q : PySem.Fin → Shared → Prop} {E : Value → Shared → Prop} (H : Hp (KK w) s.heap (c3C w true I C F x t i vs n k e (some v))) (hA : Fit A 12) (hx : x.cps[i.toNat]? = some ch) (hz : vs.length ≤ sizeLine)
  (next : ∀ h' tk' (tt : Tok) k' e' n', Hp (KK w) h' (c3C w true I C F x t (i + 1) (vs ++ [.int (ch : Nat) tt]) n' k' e' (some (.str ⟨#[ch]⟩ s.toks))) → Kept s.heap h' (c3C w true I C F x t i vs n k e (some v)) → Q (.again (c3Lp w L I C F)) { s with heap := h', toks := tk' }) :
  wpC B (model PG w) A (denZ (c3Lp w L I C F)) Q E s := by
  refine start_bot 12 hA rfl ?_
  exact go_o (kNoLimit _) ([(2, [0], (actA (strNextX true ch))), (13, [], (extA ordX)), (1, [1], (actA appendA))]) 0 12 (pl 0x10c00030c1) (fun _ => .again (c3Lp w L I C F)) (fun _ => [okP (C = C ∧ "list" = "list" ∧ (⟨vs⟩ : Array Value).size ≤ sizeLine), okP ((⟨#[ch]⟩ : Str).cps.toList = [(⟨#[ch]⟩ : Str).cps.toList.headD 0]), okP (I = I ∧ tyS true = tyS true ∧ 0 = 0 ∧ x.cps[i.toNat]? = some ch)]) (fun o z => c3C w true I C F x t (i + 1) (vs ++ [.int (ch : Nat) (s.toks + 2)]) (seqN z 1) (tokK z 2 0) (epZ z 2) (some (.str ⟨#[ch]⟩ s.toks))) 3 H (fun o => by kernel_rfl) (fun o => ok3 ⟨rfl, rfl, hz⟩ rfl ⟨rfl, rfl, rfl, hx⟩) (fun h' tk' o z H' k' _ => next h' tk' _ _ _ _ H' k')
theorem c3_tse {w : World} {L I C F : Addr} {x : Str} {t k : Tok} {i : Int} {vs : List Value} {n e : Nat} {v : Value} {s : Shared} {A : Around} {Q : PySem.Fin → Shared → Prop} {E : Value → Shared → Prop} (H : Hp (KK w) s.heap (c3C w true I C F x t i vs n k e (some v))) (hA : Fit A 12) (hx : x.cps[i.toNat]? = none)
  (next : ∀ h' tk', Hp (KK w) h' [(I, fldO (tyS true) [.none, .int i 0]), (C, lstO vs n), (F, sgD w.params k e (some v))] → Kept s.heap h' (c3C w true I C F x t i vs n k e (some v)) → Q (.done .next) { s with heap := h', toks := tk' }) :
  wpC B (model PG w) A (denZ (c3Lp w L I C F)) Q E s := by
  refine start_bot 12 hA rfl ?_
  exact go_o (kNoLimit _) ([(2, [0], (strStopA true))]) 1 12 (pl 0x1141) (fun _ => .done .next) (fun _ => [okP (I = I ∧ tyS true = tyS true ∧ 0 = 0 ∧ x.cps[i.toNat]? = none)]) (fun o z => [(I, fldO (tyS true) [.none, .int i 0]), (C, lstO vs n), (F, sgD w.params k e (some v))]) 3 H (fun o => by kernel_rfl) (fun o p hp => by rw [List.mem_singleton.mp hp]; exact ⟨⟨rfl, rfl, rfl, hx⟩, rfl⟩) (fun h' tk' o z H' k' _ => next h' tk' H' k')
theorem c3_fnt {w : World} {L I C F : Addr} {x : Str} {t k : Tok} {i : Int} {vs : List Value} {n e ch : Nat} {v : Value} {s : Shared} {A : Around} {Q : PySem.Fin → Shared → Prop} {E : Value → Shared → Prop} (H : Hp (KK w) s.heap (c3C w false I C F x t i vs n k e none)) (hA : Fit A 12) (hx : x.cps[i.toNat]? = some ch) (hz : vs.length ≤ sizeLine)
  (next : ∀ h' tk' (tt : Tok) k' e' n', Hp (KK w) h' (c3C w false I C F x t (i + 1) (vs ++ [.int (ch : Nat) tt]) n' k' e' (some (.str ⟨#[ch]⟩ s.toks))) → Kept s.heap h' (c3C w false I C F x t i vs n k e none) → Q (.again (c3Lp w L I C F)) { s with heap := h', toks := tk' }) :
  wpC B (model PG w) A (denZ (c3Lp w L I C F)) Q E s := by
  refine start_bot 12 hA rfl ?_
  exact go_o (kNoLimit _) ([(2, [0], (actA (strNextX false ch))), (13, [], (extA ordX)), (1, [1], (actA appendA))]) 0 12 (pl 0x10c00030c1) (fun _ => .again (c3Lp w L I C F)) (fun _ => [okP (C = C ∧ "list" = "list" ∧ (⟨vs⟩ : Array Value).size ≤ sizeLine), okP ((⟨#[ch]⟩ : Str).cps.toList = [(⟨#[ch]⟩ : Str).cps.toList.headD 0]), okP (I = I ∧ tyS false = tyS false ∧ 0 = 0 ∧ x.cps[i.toNat]? = some ch)]) (fun o z => c3C w false I C F x t (i + 1) (vs ++ [.int (ch : Nat) (s.toks + 2)]) (seqN z 1) (tokK z 2 0) (epZ z 2) (some (.str ⟨#[ch]⟩ s.toks))) 3 H (fun o => by kernel_rfl) (fun o => ok3 ⟨rfl, rfl, hz⟩ rfl ⟨rfl, rfl, rfl, hx⟩) (fun h' tk' o z H' k' _ => next h' tk' _ _ _ _ H' k')
theorem c3_fne {w : World} {L I C F : Addr} {x : Str} {t k : Tok} {i : Int} {vs : List Value} {n e : Nat} {v : Value} {s : Shared} {A : Around} {Q : PySem.Fin → Shared → Prop} {E : Value → Shared → Prop} (H : Hp (KK w) s.heap (c3C w false I C F x t i vs n k e none)) (hA : Fit A 12) (hx : x.cps[i.toNat]? = none)
  (next : ∀ h' tk', Hp (KK w) h' [(I, fldO (tyS false) [.none, .int i 0]), (C, lstO vs n), (F, sgD w.params k e none)] → Kept s.heap h' (c3C w false I C F x t i vs n k e none) → Q (.done .next) { s with heap := h', toks := tk' }) :
  wpC B (model PG w) A (denZ (c3Lp w L I C F)) Q E s := by
  refine start_bot 12 hA rfl ?_
  exact go_o (kNoLimit _) ([(2, [0], (strStopA false))]) 1 12 (pl 0x1141) (fun _ => .done .next) (fun _ => [okP (I = I ∧ tyS false = tyS false ∧ 0 = 0 ∧ x.cps[i.toNat]? = none)]) (fun o z => [(I, fldO (tyS false) [.none, .int i 0]), (C, lstO vs n), (F, sgD w.params k e none)]) 3 H (fun o => by kernel_rfl) (fun o p hp => by rw [List.mem_singleton.mp hp]; exact ⟨⟨rfl, rfl, rfl, hx⟩, rfl⟩) (fun h' tk' o z H' k' _ => next h' tk' H' k')
theorem c3_fst {w : World} {L I C F : Addr} {x : Str} {t k : Tok} {i : Int} {vs : List Value} {n e ch : Nat} {v : Value} {s : Shared} {A : Around} {Q : PySem.Fin → Shared → Prop} {E : Value → Shared → Prop} (H : Hp (KK w) s.heap (c3C w false I C F x t i vs n k e (some v))) (hA : Fit A 12) (hx : x.cps[i.toNat]? = some ch) (hz : vs.length ≤ sizeLine)
  (next : ∀ h' tk' (tt : Tok) k' e' n', Hp (KK w) h' (c3C w false I C F x t (i + 1) (vs ++ [.int (ch : Nat) tt]) n' k' e' (some (.str ⟨#[ch]⟩ s.toks))) → Kept s.heap h' (c3C w false I C F x t i vs n k e (some v)) → Q (.again (c3Lp w L I C F)) { s with heap := h', toks := tk' }) :
  wpC B (model PG w) A (denZ (c3Lp w L I C F)) Q E s := by
  refine start_bot 12 hA rfl ?_
  exact go_o (kNoLimit _) ([(2, [0], (actA (strNextX false ch))), (13, [], (extA ordX)), (1, [1], (actA appendA))]) 0 12 (pl 0x10c00030c1) (fun _ => .again (c3Lp w L I C F)) (fun _ => [okP (C = C ∧ "list" = "list" ∧ (⟨vs⟩ : Array Value).size ≤ sizeLine), okP ((⟨#[ch]⟩ : Str).cps.toList = [(⟨#[ch]⟩ : Str).cps.toList.headD 0]), okP (I = I ∧ tyS false = tyS false ∧ 0 = 0 ∧ x.cps[i.toNat]? = some ch)]) (fun o z => c3C w false I C F x t (i + 1) (vs ++ [.int (ch : Nat) (s.toks + 2)]) (seqN z 1) (tokK z 2 0) (epZ z 2) (some (.str ⟨#[ch]⟩ s.toks))) 3 H (fun o => by kernel_rfl) (fun o => ok3 ⟨rfl, rfl, hz⟩ rfl ⟨rfl, rfl, rfl, hx⟩) (fun h' tk' o z H' k' _ => next h' tk' _ _ _ _ H' k')
theorem c3_fse {w : World} {L I C F : Addr} {x : Str} {t k : Tok} {i : Int} {vs : List Value} {n e : Nat} {v : Value} {s : Shared} {A : Around} {Q : PySem.Fin → Shared → Prop} {E : Value → Shared → Prop} (H : Hp (KK w) s.heap (c3C w false I C F x t i vs n k e (some v))) (hA : Fit A 12) (hx : x.cps[i.toNat]? = none)
  (next : ∀ h' tk', Hp (KK w) h' [(I, fldO (tyS false) [.none, .int i 0]), (C, lstO vs n), (F, sgD w.params k e (some v))] → Kept s.heap h' (c3C w false I C F x t i vs n k e (some v)) → Q (.done .next) { s with heap := h', toks := tk' }) :
  wpC B (model PG w) A (denZ (c3Lp w L I C F)) Q E s := by
  refine start_bot 12 hA rfl ?_
  exact go_o (kNoLimit _) ([(2, [0], (strStopA false))]) 1 12 (pl 0x1141) (fun _ => .done .next) (fun _ => [okP (I = I ∧ tyS false = tyS false ∧ 0 = 0 ∧ x.cps[i.toNat]? = none)]) (fun o z => [(I, fldO (tyS false) [.none, .int i 0]), (C, lstO vs n), (F, sgD w.params k e (some v))]) 3 H (fun o => by kernel_rfl) (fun o p hp => by rw [List.mem_singleton.mp hp]; exact ⟨⟨rfl, rfl, rfl, hx⟩, rfl⟩) (fun h' tk' o z H' k' _ => next h' tk' H' k')
inductive c3Post (w : World) (I C F : Addr) (l : List Nat) (h0 : Heap) (cs0 : Cells) (f : Flow) (h : Heap) : Prop
  | mk (hf : f = .next) (it : Obj) (vs : List Value) (n : Nat) (k : Tok) (e : Nat) (ov : Option Value) (hl : IntsOf l vs) (H : Hp (KK w) h [(I, it), (C, lstO vs n), (F, sgD w.params k e ov)]) (q : Kept h0 h cs0)
inductive c3I (w : World) (asc : Bool) (I C F : Addr) (t : Tok) (l : List Nat) (h0 : Heap) (cs0 : Cells) (m : Nat) (h : Heap) : Prop
  | mk (j : Nat) (vs : List Value) (n : Nat) (k : Tok) (e : Nat) (ov : Option Value) (hm : m = l.length - j) (hj : j ≤ l.length) (hl : IntsOf (l.take j) vs) (H : Hp (KK w) h (c3C w asc I C F ⟨⟨l⟩⟩ t ((j : Nat) : Int) vs n k e ov)) (q : Kept h0 h cs0)
theorem c3_loop {w : World} {asc : Bool} {L I C F : Addr} {l : List Nat} {t k : Tok} {e : Nat} {s : Shared} (hl : l.length ≤ sizeLine) (H : Hp (KK w) s.heap (c3C w asc I C F ⟨⟨l⟩⟩ t 0 [] 0 k e none)) :
  CtrF B PG w (c3Lp w L I C F) 13 s (c3Post w I C F l s.heap (c3C w asc I C F ⟨⟨l⟩⟩ t 0 [] 0 k e none)) := by
  refine ctr_loop (s := s) rfl rfl 12 (c3I w asc I C F t l s.heap (c3C w asc I C F ⟨⟨l⟩⟩ t 0 [] 0 k e none)) ?_ l.length
    ⟨0, [], 0, k, e, none, rfl, Nat.zero_le _, ⟨rfl, fun i n h => by simp at h⟩, H, Kept.refl _ _⟩
  rintro m h tk A hA ⟨j, vs, n, k1, e1, ov, rfl, hj, hg, H1, q1⟩
  have hvl : vs.length ≤ sizeLine := by rw [hg.1, List.length_take]; omega
  by_cases hlt : j < l.length
  · have hx : (⟨⟨l⟩⟩ : Str).cps[(((j : Nat) : Int)).toNat]? = some l[j] := by simp [hlt]
    have htk : l.take (j + 1) = l.take j ++ [l[j]] := by rw [List.take_add_one, List.getElem?_eq_getElem hlt]; rfl
    have hg2 : ∀ tt : Tok, IntsOf (l.take (j + 1)) (vs ++ [.int (l[j] : Nat) tt]) := fun tt => by rw [htk]; exact hg.snoc _ _
    cases asc <;> rcases ov with _ | v
    · exact c3_fnt (v := .none) (s := { s with heap := h, toks := tk }) H1 hA hx hvl fun h' tk' tt k' e' n' H' k2 => ⟨h', tk', rfl, .inl ⟨rfl, l.length - (j + 1), by omega, j + 1, _, n', k', e', _, rfl, hlt, hg2 tt, H', q1.trans k2 fun b _ hb => hb⟩⟩
    · exact c3_fst (s := { s with heap := h, toks := tk }) H1 hA hx hvl fun h' tk' tt k' e' n' H' k2 => ⟨h', tk', rfl, .inl ⟨rfl, l.length - (j + 1), by omega, j + 1, _, n', k', e', _, rfl, hlt, hg2 tt, H', q1.trans k2 fun b _ hb => hb⟩⟩
    · exact c3_tnt (v := .none) (s := { s with heap := h, toks := tk }) H1 hA hx hvl fun h' tk' tt k' e' n' H' k2 => ⟨h', tk', rfl, .inl ⟨rfl, l.length - (j + 1), by omega, j + 1, _, n', k', e', _, rfl, hlt, hg2 tt, H', q1.trans k2 fun b _ hb => hb⟩⟩
    · exact c3_tst (s := { s with heap := h, toks := tk }) H1 hA hx hvl fun h' tk' tt k' e' n' H' k2 => ⟨h', tk', rfl, .inl ⟨rfl, l.length - (j + 1), by omega, j + 1, _, n', k', e', _, rfl, hlt, hg2 tt, H', q1.trans k2 fun b _ hb => hb⟩⟩
  · have hjl : j = l.length := by omega
    subst hjl
    rw [List.take_length] at hg
    have hx : (⟨⟨l⟩⟩ : Str).cps[(((l.length : Nat) : Int)).toNat]? = none := by simp
    cases asc <;> rcases ov with _ | v
    · exact c3_fne (v := .none) (s := { s with heap := h, toks := tk }) H1 hA hx fun h' tk' H' k' => ⟨h', tk', rfl, rfl, _, _, _, _, _, _, hg, H', q1.trans k' fun b _ hb => hb⟩
    · exact c3_fse (s := { s with heap := h, toks := tk }) H1 hA hx fun h' tk' H' k' => ⟨h', tk', rfl, rfl, _, _, _, _, _, _, hg, H', q1.trans k' fun b _ hb => hb⟩
    · exact c3_tne (v := .none) (s := { s with heap := h, toks := tk }) H1 hA hx fun h' tk' H' k' => ⟨h', tk', rfl, rfl, _, _, _, _, _, _, hg, H', q1.trans k' fun b _ hb => hb⟩
    · exact c3_tse (s := { s with heap := h, toks := tk }) H1 hA hx fun h' tk' H' k' => ⟨h', tk', rfl, rfl, _, _, _, _, _, _, hg, H', q1.trans k' fun b _ hb => hb⟩
theorem c3_ctr {w : World} {asc : Bool} {L I C F : Addr} {l : List Nat} {t k : Tok} {e : Nat} {s : Shared} (hl : l.length ≤ sizeLine) (H : Hp (KK w) s.heap (c3C w asc I C F ⟨⟨l⟩⟩ t 0 [] 0 k e none)) :
  CtrF B PG w (c3St w L I C F) 13 s (c3Post w I C F l s.heap (c3C w asc I C F ⟨⟨l⟩⟩ t 0 [] 0 k e none)) := by
  refine ctr_again (c' := c3Lp w L I C F) 12 rfl rfl fun A hA => ?_
  have fin : ∀ h' tk', Hp (KK w) h' (c3C w asc I C F ⟨⟨l⟩⟩ t 0 [] 0 k e none) → Kept s.heap h' (c3C w asc I C F ⟨⟨l⟩⟩ t 0 [] 0 k e none) →
      (PySem.Fin.again (c3Lp w L I C F) = .again (c3Lp w L I C F) ∧ ∃ h2 tk2, ({ s with heap := h', toks := tk' } : Shared) = { s with heap := h2, toks := tk2 } ∧ CtrF B PG w (c3Lp w L I C F) 13 { s with heap := h', toks := tk' } (c3Post w I C F l s.heap (c3C w asc I C F ⟨⟨l⟩⟩ t 0 [] 0 k e none))) := fun h' tk' H' k' =>
    ⟨rfl, h', tk', rfl, fun A R hA hR => c3_loop (s := { s with heap := h', toks := tk' }) hl H' A R hA fun f h2 tk2 ⟨e0, it, vs, n, k1, e1, ov, hg, H2, k2⟩ => hR f h2 tk2 ⟨e0, it, vs, n, k1, e1, ov, hg, H2, k'.trans k2 fun b _ hb => hb⟩⟩
  refine start_bot 12 hA rfl ?_
  obtain ⟨w, b2, rfl⟩ := row_world "comprehension-iter-twice" w
  cases asc <;> cases b2
  · skip
    exact go_o (kNoLimit _) [] 11 12 (pl 0x1041041) (fun _ => .again (c3Lp _ L I C F)) (fun _ => []) (fun o z => c3C (w.withFollow "comprehension-iter-twice" false) false I C F ⟨⟨l⟩⟩ t 0 [] 0 k e none) 3 H (by exact byR w (fun w o => by kernel_rfl) (fun w o => by kernel_rfl)) (fun o p hp => absurd hp List.not_mem_nil) (fun h' tk' o z H' k' _ => fin h' tk' H' k')
  · skip
    exact go_o (kNoLimit _) [] 1 12 (pl 0x1) (fun _ => .again (c3Lp _ L I C F)) (fun _ => []) (fun o z => c3C (w.withFollow "comprehension-iter-twice" true) false I C F ⟨⟨l⟩⟩ t 0 [] 0 k e none) 3 H (by exact byR w (fun w o => by kernel_rfl) (fun w o => by kernel_rfl)) (fun o p hp => absurd hp List.not_mem_nil) (fun h' tk' o z H' k' _ => fin h' tk' H' k')
  · skip
    exact go_o (kNoLimit _) [] 11 12 (pl 0x1041041) (fun _ => .again (c3Lp _ L I C F)) (fun _ => []) (fun o z => c3C (w.withFollow "comprehension-iter-twice" false) true I C F ⟨⟨l⟩⟩ t 0 [] 0 k e none) 3 H (by exact byR w (fun w o => by kernel_rfl) (fun w o => by kernel_rfl)) (fun o p hp => absurd hp List.not_mem_nil) (fun h' tk' o z H' k' _ => fin h' tk' H' k')
  · skip
    exact go_o (kNoLimit _) [] 1 12 (pl 0x1) (fun _ => .again (c3Lp _ L I C F)) (fun _ => []) (fun o z => c3C (w.withFollow "comprehension-iter-twice" true) true I C F ⟨⟨l⟩⟩ t 0 [] 0 k e none) 3 H (by exact byR w (fun w o => by kernel_rfl) (fun w o => by kernel_rfl)) (fun o p hp => absurd hp List.not_mem_nil) (fun h' tk' o z H' k' _ => fin h' tk' H' k')
end Mine
end PRC3
section PRP
open PySem PySem.W PyProof.Rows PySem.Calls
namespace Mine
noncomputable def octs (l : List Nat) : Array UInt8 := ⟨l.map Nat.toUInt8⟩
theorem octs_size (l : List Nat) : (octs l).size = l.length := by simp [octs]
structure TpOk (T : Tp) (m : Nat) : Prop where
  hk : T.k = 2 ∨ T.k = 3 ∨ T.k = 4 ∨ T.k = 5
  hm : T.cs.length = m * T.k
  oct : T.oct = swapB T.k (octs T.cs)
  h256 : ∀ c ∈ T.cs, c < 256
  hlen : T.cs.length ≤ sizeLine
theorem rev_lt {k p : Nat} (hp : p < k) : rev k p = k - 1 - p := by
  unfold rev
  rw [Nat.div_eq_of_lt hp, Nat.mod_eq_of_lt hp, Nat.zero_mul, Nat.zero_add]
theorem rev_at {k n d : Nat} (hd : d < k) : rev k (n * k + d) = n * k + (k - 1 - d) := by
  unfold rev
  have hk : 0 < k := by omega
  rw [Nat.mul_comm n k, Nat.mul_add_div hk, Nat.mul_add_mod, Nat.div_eq_of_lt hd, Nat.mod_eq_of_lt hd, Nat.add_zero, Nat.mul_comm k n]
theorem swapB_get {k p : Nat} {b : Array UInt8} (hp : p < b.size) : (swapB k b)[p]? = some (b.getD (rev k p) 0) := by
  simp [swapB, hp]
theorem octs_get (l : List Nat) (p : Nat) : (octs l)[p]? = (l[p]?).map Nat.toUInt8 := by simp [octs]
section
variable {T : Tp} {m : Nat}
theorem blk_list (n : Nat) (hn : n * T.k ≤ T.oct.size) (hn2 : (n + 1) * T.k ≤ T.oct.size) : blk T n = ⟨(T.oct.toList.drop (n * T.k)).take T.k⟩ := by
  unfold blk
  rw [KBc.picked_eq]
  have e1 : (Int.ofNat n * (T.k : Int)) = ((n * T.k : Nat) : Int) := by rw [Int.natCast_mul]; rfl
  have e2 : ((Int.ofNat n + 1) * (T.k : Int)) = (((n + 1) * T.k : Nat) : Int) := by rw [Int.natCast_mul]; rfl
  simp only [Option.elim, e1, e2, clipAt_nat]
  rw [Nat.min_eq_left hn, Nat.min_eq_left hn2, Nat.succ_mul, Nat.add_sub_cancel_left]
theorem blk_swap (h : TpOk T m) {n : Nat} (hn : n < m) : (blk T n).size = T.k ∧ swapB T.k (blk T n) = octs ((T.cs.drop (n * T.k)).take T.k) := by
  have hsz : T.oct.size = m * T.k := by rw [h.oct, swapB_size, octs_size, h.hm]
  have h1 : (n + 1) * T.k ≤ m * T.k := Nat.mul_le_mul_right _ hn
  have h2 : n * T.k + T.k ≤ m * T.k := by rw [Nat.succ_mul] at h1; exact h1
  have hb : blk T n = ⟨(T.oct.toList.drop (n * T.k)).take T.k⟩ := blk_list n (by rw [hsz]; omega) (by rw [hsz]; exact h1)
  have hs : (blk T n).size = T.k := by
    rw [hb]
    simp
    omega
  refine ⟨hs, ?_⟩
  apply Array.ext_getElem?
  intro p
  by_cases hp : p < T.k
  · rw [swapB_get (by rw [hs]; exact hp), rev_lt hp, octs_get, Array.getD_eq_getD_getElem?, hb]
    have e1 : (⟨(T.oct.toList.drop (n * T.k)).take T.k⟩ : Array UInt8)[T.k - 1 - p]? = T.oct[n * T.k + (T.k - 1 - p)]? := by
      simp only [List.getElem?_toArray, List.getElem?_take, List.getElem?_drop]
      rw [if_pos (by omega)]
      simp
    rw [e1, h.oct, swapB_get (by rw [octs_size, h.hm]; omega), rev_at (by omega)]
    rw [show T.k - 1 - (T.k - 1 - p) = p by omega, Array.getD_eq_getD_getElem?, octs_get, List.getElem?_take, if_pos hp, List.getElem?_drop]
    have hlt : n * T.k + p < T.cs.length := by rw [h.hm]; omega
    rw [List.getElem?_eq_getElem hlt]
    rfl
  · rw [Array.getElem?_eq_none (by rw [swapB_size, hs]; omega), octs_get, List.getElem?_eq_none (by rw [List.length_take]; omega)]
    rfl
theorem blocks_at (hk : 0 < T.k) (n : Nat) : blocks T.k (n * T.k) = n := by
  unfold blocks
  rw [Nat.div_eq_of_lt_le (k := n)]
  · omega
  · rw [Nat.succ_mul]; omega
end
end Mine
end PRP
section PRN3
open PySem PySem.W PyProof.Rows PySem.Calls
open PySem.Builtin.Str (occurrences)
set_option maxHeartbeats 0
namespace Mine
variable {B : Bool}
theorem IntsOf.are : ∀ (l : List Nat) (vs : List Value), IntsOf l vs → IntsAre vs (l.map Int.ofNat)
  | [], [], _ => .nil
  | [], _ :: _, h => absurd h.1 (by simp)
  | _ :: _, [], h => absurd h.1 (by simp)
  | a :: l, v :: vs, h => by
    obtain ⟨t, e⟩ := h.2 0 a rfl
    simp only [List.getElem?_cons_zero, Option.some.injEq] at e
    subst e
    exact .cons _ t (IntsOf.are l vs ⟨by simpa using h.1, fun i n hi => by simpa using h.2 (i + 1) n (by simpa using hi)⟩)
theorem byteArr_octs (l : List Nat) : byteArr (l.map Int.ofNat) = octs l := by
  unfold byteArr octs
  rw [List.map_map]
  rfl
theorem by_sub {K : Sta} {h : Heap} {a b c : Addr × Obj} (H : Hp K h ([a] ++ [b, c])) : Hp K h (c :: []) := Hp.right (a := [a, b]) H
theorem hnew3 {h : Heap} {a : Cells} {x y z x2 y2 : Addr × Obj} (hn : ∀ q, (∃ o, h.get? q = some o) → q ∈ (a ++ [x, y, z]).map (·.1) → q ∈ a.map (·.1)) (ex : x2.1 = x.1 := by rfl) (ey : y2.1 = y.1 := by rfl) : ∀ q, (∃ o, h.get? q = some o) → q ∈ (a ++ [x2, y2]).map (·.1) → q ∈ a.map (·.1) := fun q hq hm => hn q hq (by
  simp only [List.map_append, List.map_cons, List.map_nil, List.mem_append, List.mem_cons, List.not_mem_nil, or_false, ex, ey] at hm ⊢
  rcases hm with hm | hm | hm
  · exact .inl hm
  · exact .inr (.inl hm)
  · exact .inr (.inr (.inl hm)))
theorem by_ctr {prog : Program} {w : World} {a : Addr} {l : List Nat} {vs : List Value} {n : Nat} {s : Shared} {cs : Cells} (H : Hp (KK w) s.heap ((a, lstO vs n) :: cs)) (hi : IntsOf l vs) (h256 : ∀ c ∈ l, c < 256) (hz : l.length ≤ sizeLine) :
    Ctr B prog w (.call (.builtin "bytes.__new__") ⟨[.type "bytes", .ref a], []⟩) 10 s (fun v h' => (∃ t, v = .bytes (octs l) t) ∧ Kept s.heap h' []) := by
  intro A R hA hR
  have hl : s.heap.IsList a vs.toArray := ⟨_, H.ce (a, lstO vs n) (List.mem_cons_self ..), rfl, n, rfl⟩
  refine codeC_of (codeAny_mono (bm_new (E := fun _ _ => False) (Q := fun v s' => ∃ h' k, s' = { s with heap := h', toks := k } ∧ (∃ t, v = .bytes (octs l) t) ∧ Kept s.heap h' []) hA.2.2 hl hi.are (fun m hm => ?_) (by rw [List.length_map]; exact hz) fun h' t k hk => ⟨h', k, rfl, ⟨t, by rw [byteArr_octs]⟩, fun b o e _ => hk b o e⟩) fun r s' hr => ?_)
  · obtain ⟨c, hc, rfl⟩ := List.mem_map.mp hm
    have := h256 c hc
    exact ⟨Int.natCast_nonneg _, by show (c : Int) < 256; omega⟩
  · cases r with
    | error e => exact hr.elim
    | ok f => cases f with
      | ret v =>
        obtain ⟨h', k, rfl, hp⟩ := hr
        exact hR _ _ _ hp
      | _ => exact hr.elim
section
variable {w : World} {W L : Addr} {k : Nat} {kk : Nat → Tok} {t t2 : Tok} {s : Shared} {A : Around} {Q : Flow → Shared → Prop} {E : Value → Shared → Prop}
noncomputable def rnF2 (P : Params) (kk : Nat → Tok) (W : Addr) (k : Nat) (t : Tok) (l : List Nat) (t2 : Tok) (b : Array UInt8) (t3 : Tok) : List DictEntry := rnF1 P kk W k t l t2 ++ [ent P "octets" (kk 3) (.bytes b t3)]
theorem rn_st3 {l : List Nat} {e2 m : Nat} {rest : List Stmt} (H : Hp (KK w) s.heap [(L, frmO (rnF1 w.params kk W k t l t2) e2)]) (hA : Fit A 45) (hl : l.length ≤ sizeLine) (hk : k = 2 ∨ k = 3 ∨ k = 4 ∨ k = 5) (hm : l.length = m * k) (h256 : ∀ c ∈ l, c < 256)
  (next : ∀ h' tk' t3 e3 k3, Hp (KK w) h' [(L, frmO (rnF1 w.params kk W k t l t2 ++ [ent w.params "octets" k3 (.bytes (swapB k (octs l)) t3)]) e3)] → Kept s.heap h' [(L, plO)] → wpC true (model PG w) A (execs rest (rnEnv w L)) Q E { s with heap := h', toks := tk' }) :
  wpC true (model PG w) A (execs (hdS ((rnB w).drop 2) :: rest) (rnEnv w L)) Q E s := by
  obtain ⟨asc, hasc⟩ := asc_is l
  have hsz : (octs l).size = m * k := by rw [octs_size]; exact hm
  refine execs_one (start_bot 45 hA (execsZ_eq _ _) ?_)
  cases asc
  · skip
    refine go_oc (kNoLimit _) [(10, [], (newA (strIterX false)))] 3 45 (pl 0x42040000) (fun _ => c3St w L (s.heap.objs.size + 0) (s.heap.objs.size + 1) (s.heap.objs.size + 2)) (fun _ => [okP ((⟨⟨l⟩⟩ : Str).cps.all (· < 128) = false)]) (fun _ z => [(L, frmO (rnF1 w.params kk W k t l t2) e2)] ++ [(s.heap.objs.size + 0, fldO (tyS false) [.str ⟨⟨l⟩⟩ t2, .int 0 0]), (s.heap.objs.size + 1, lstO [] 0), (s.heap.objs.size + 2, sgD w.params 0 0 none)]) 4 45 H (by exact byR w (fun w o => by kernel_rfl) (fun w o => by kernel_rfl)) (fun o => ok1 hasc) fun h1 tk1 o1 z1 H1 q1 q1' hc1 => ?_
    have H1' : Hp (KK w) h1 (c3C w false (s.heap.objs.size + 0) (s.heap.objs.size + 1) (s.heap.objs.size + 2) ⟨⟨l⟩⟩ t2 0 [] 0 0 0 none) := H1.right
    refine callF_ok hc1 (CtrF.mono (c3_ctr (s := { s with heap := h1, toks := tk1 }) hl H1') (by omega)) fun f h2 tk2 hf => ?_
    obtain ⟨rfl, it, vs, n, k2, e2', ov, hg, H2, q2⟩ := hf
    have H3 : Hp (KK w) h2 ([(L, frmO (rnF1 w.params kk W k t l t2) e2)] ++ [(s.heap.objs.size + 0, it), (s.heap.objs.size + 1, lstO vs n), (s.heap.objs.size + 2, sgD w.params k2 e2' ov)]) := hpBack H1 q2 H2
    have K3 : Kept s.heap h2 [(L, frmO (rnF1 w.params kk W k t l t2) e2)] := q1' _ (q2.more memR)
    have hnew := newR (h := s.heap) (a := [(L, frmO (rnF1 w.params kk W k t l t2) e2)]) (new3 (n := s.heap.objs.size) (x := it) (y := lstO vs n) (z := sgD w.params k2 e2' ov))
    clear hc1 q1' H1'
    rcases ov with _ | v
    · skip
      refine go_oc (s := { s with heap := h2, toks := tk2 }) (kNoLimit _) [] 4 45 (pl 0x44) (fun _ => .call (.builtin "bytes.__new__") ⟨[.type "bytes", .ref (s.heap.objs.size + 1)], []⟩) (fun _ => []) (fun _ z => [(L, frmO (rnF1 w.params kk W k t l t2) e2)] ++ [(s.heap.objs.size + 0, it), (s.heap.objs.size + 1, lstO vs n)]) 3 44 H3 (by exact byR w (fun w o => by kernel_rfl) (fun w o => by kernel_rfl)) (fun o p hp => absurd hp List.not_mem_nil) fun h3 tk3 o3 z3 H4 q3 q3' hc3 => ?_
      refine callF_ok hc3 (Ctr.toF ((by_ctr (s := { s with heap := h3, toks := tk3 }) (by_sub H4) hg h256 hl).mono (by omega))) fun f h4 tk4 hf => ?_
      obtain ⟨v4, rfl, ⟨t4, rfl⟩, q4⟩ := hf
      have H5 : Hp (KK w) h4 ([(L, frmO (rnF1 w.params kk W k t l t2) e2)] ++ [(s.heap.objs.size + 0, it), (s.heap.objs.size + 1, lstO vs n)]) := H4.stays q4
      have K5 : Kept s.heap h4 [(L, frmO (rnF1 w.params kk W k t l t2) e2)] := K3.trans (q3' _ (q4.more fun b hb => absurd hb List.not_mem_nil)) hnew
      clear hc3 q3'
      refine go_oc (s := { s with heap := h4, toks := tk4 }) (kNoLimit _) [] 9 44 (pl 0x1001) (fun _ => .call (.ref 51) ⟨[.bytes (octs l) t4, .int (Int.ofNat k) t], []⟩) (fun _ => []) (fun _ z => [(L, frmO (rnF1 w.params kk W k t l t2) e2)]) 1 45 H5 (by exact byR w (fun w o => by kernel_rfl) (fun w o => by kernel_rfl)) (fun o p hp => absurd hp List.not_mem_nil) fun h5 tk5 o5 z5 H6 q5 q5' hc5 => ?_
      refine callF_ok hc5 (Ctr.toF ((bs_ctr (s := { s with heap := h5, toks := tk5 }) hk hsz (by rw [octs_size]; exact hl) H6).mono (by omega))) fun f h6 tk6 hf => ?_
      obtain ⟨v6, rfl, ⟨t6, rfl⟩, q6⟩ := hf
      have H7 : Hp (KK w) h6 [(L, frmO (rnF1 w.params kk W k t l t2) e2)] := H6.stays q6
      have K7 : Kept s.heap h6 [(L, frmO (rnF1 w.params kk W k t l t2) e2)] := K5.trans (q5' _ (q6.more fun b hb => absurd hb List.not_mem_nil)) (hnew3 hnew)
      clear hc5 q5'
      exact go_o (s := { s with heap := h6, toks := tk6 }) (kNoLimit _) [] 8 45 (pl 0x1041) (fun _ => .next) (fun _ => []) (fun o z => [(L, frmO (rnF1 w.params kk W k t l t2 ++ [ent w.params "octets" (tokK z 0 3) (.bytes (swapB k (octs l)) t6)]) (epZ z 0))]) 1 H7 (by exact byR w (fun w o => by kernel_rfl) (fun w o => by kernel_rfl)) (fun o p hp => absurd hp List.not_mem_nil) (fun h8 tk8 o z H8 k8 _ => next h8 tk8 _ _ _ H8 (K7.trans k8 fun b _ hb => hb))
    · skip
      refine go_oc (s := { s with heap := h2, toks := tk2 }) (kNoLimit _) [] 8 45 (pl 0x44104) (fun _ => .call (.builtin "bytes.__new__") ⟨[.type "bytes", .ref (s.heap.objs.size + 1)], []⟩) (fun _ => []) (fun _ z => [(L, frmO (rnF1 w.params kk W k t l t2) e2)] ++ [(s.heap.objs.size + 0, it), (s.heap.objs.size + 1, lstO vs n)]) 3 44 H3 (by exact byR w (fun w o => by kernel_rfl) (fun w o => by kernel_rfl)) (fun o p hp => absurd hp List.not_mem_nil) fun h3 tk3 o3 z3 H4 q3 q3' hc3 => ?_
      refine callF_ok hc3 (Ctr.toF ((by_ctr (s := { s with heap := h3, toks := tk3 }) (by_sub H4) hg h256 hl).mono (by omega))) fun f h4 tk4 hf => ?_
      obtain ⟨v4, rfl, ⟨t4, rfl⟩, q4⟩ := hf
      have H5 : Hp (KK w) h4 ([(L, frmO (rnF1 w.params kk W k t l t2) e2)] ++ [(s.heap.objs.size + 0, it), (s.heap.objs.size + 1, lstO vs n)]) := H4.stays q4
      have K5 : Kept s.heap h4 [(L, frmO (rnF1 w.params kk W k t l t2) e2)] := K3.trans (q3' _ (q4.more fun b hb => absurd hb List.not_mem_nil)) hnew
      clear hc3 q3'
      refine go_oc (s := { s with heap := h4, toks := tk4 }) (kNoLimit _) [] 9 44 (pl 0x1001) (fun _ => .call (.ref 51) ⟨[.bytes (octs l) t4, .int (Int.ofNat k) t], []⟩) (fun _ => []) (fun _ z => [(L, frmO (rnF1 w.params kk W k t l t2) e2)]) 1 45 H5 (by exact byR w (fun w o => by kernel_rfl) (fun w o => by kernel_rfl)) (fun o p hp => absurd hp List.not_mem_nil) fun h5 tk5 o5 z5 H6 q5 q5' hc5 => ?_
      refine callF_ok hc5 (Ctr.toF ((bs_ctr (s := { s with heap := h5, toks := tk5 }) hk hsz (by rw [octs_size]; exact hl) H6).mono (by omega))) fun f h6 tk6 hf => ?_
      obtain ⟨v6, rfl, ⟨t6, rfl⟩, q6⟩ := hf
      have H7 : Hp (KK w) h6 [(L, frmO (rnF1 w.params kk W k t l t2) e2)] := H6.stays q6
      have K7 : Kept s.heap h6 [(L, frmO (rnF1 w.params kk W k t l t2) e2)] := K5.trans (q5' _ (q6.more fun b hb => absurd hb List.not_mem_nil)) (hnew3 hnew)
      clear hc5 q5'
      exact go_o (s := { s with heap := h6, toks := tk6 }) (kNoLimit _) [] 8 45 (pl 0x1041) (fun _ => .next) (fun _ => []) (fun o z => [(L, frmO (rnF1 w.params kk W k t l t2 ++ [ent w.params "octets" (tokK z 0 3) (.bytes (swapB k (octs l)) t6)]) (epZ z 0))]) 1 H7 (by exact byR w (fun w o => by kernel_rfl) (fun w o => by kernel_rfl)) (fun o p hp => absurd hp List.not_mem_nil) (fun h8 tk8 o z H8 k8 _ => next h8 tk8 _ _ _ H8 (K7.trans k8 fun b _ hb => hb))
  · skip
    refine go_oc (kNoLimit _) [(10, [], (newA (strIterX true)))] 3 45 (pl 0x42040000) (fun _ => c3St w L (s.heap.objs.size + 0) (s.heap.objs.size + 1) (s.heap.objs.size + 2)) (fun _ => [okP ((⟨⟨l⟩⟩ : Str).cps.all (· < 128) = true)]) (fun _ z => [(L, frmO (rnF1 w.params kk W k t l t2) e2)] ++ [(s.heap.objs.size + 0, fldO (tyS true) [.str ⟨⟨l⟩⟩ t2, .int 0 0]), (s.heap.objs.size + 1, lstO [] 0), (s.heap.objs.size + 2, sgD w.params 0 0 none)]) 4 45 H (by exact byR w (fun w o => by kernel_rfl) (fun w o => by kernel_rfl)) (fun o => ok1 hasc) fun h1 tk1 o1 z1 H1 q1 q1' hc1 => ?_
    have H1' : Hp (KK w) h1 (c3C w true (s.heap.objs.size + 0) (s.heap.objs.size + 1) (s.heap.objs.size + 2) ⟨⟨l⟩⟩ t2 0 [] 0 0 0 none) := H1.right
    refine callF_ok hc1 (CtrF.mono (c3_ctr (s := { s with heap := h1, toks := tk1 }) hl H1') (by omega)) fun f h2 tk2 hf => ?_
    obtain ⟨rfl, it, vs, n, k2, e2', ov, hg, H2, q2⟩ := hf
    have H3 : Hp (KK w) h2 ([(L, frmO (rnF1 w.params kk W k t l t2) e2)] ++ [(s.heap.objs.size + 0, it), (s.heap.objs.size + 1, lstO vs n), (s.heap.objs.size + 2, sgD w.params k2 e2' ov)]) := hpBack H1 q2 H2
    have K3 : Kept s.heap h2 [(L, frmO (rnF1 w.params kk W k t l t2) e2)] := q1' _ (q2.more memR)
    have hnew := newR (h := s.heap) (a := [(L, frmO (rnF1 w.params kk W k t l t2) e2)]) (new3 (n := s.heap.objs.size) (x := it) (y := lstO vs n) (z := sgD w.params k2 e2' ov))
    clear hc1 q1' H1'
    rcases ov with _ | v
    · skip
      refine go_oc (s := { s with heap := h2, toks := tk2 }) (kNoLimit _) [] 4 45 (pl 0x44) (fun _ => .call (.builtin "bytes.__new__") ⟨[.type "bytes", .ref (s.heap.objs.size + 1)], []⟩) (fun _ => []) (fun _ z => [(L, frmO (rnF1 w.params kk W k t l t2) e2)] ++ [(s.heap.objs.size + 0, it), (s.heap.objs.size + 1, lstO vs n)]) 3 44 H3 (by exact byR w (fun w o => by kernel_rfl) (fun w o => by kernel_rfl)) (fun o p hp => absurd hp List.not_mem_nil) fun h3 tk3 o3 z3 H4 q3 q3' hc3 => ?_
      refine callF_ok hc3 (Ctr.toF ((by_ctr (s := { s with heap := h3, toks := tk3 }) (by_sub H4) hg h256 hl).mono (by omega))) fun f h4 tk4 hf => ?_
      obtain ⟨v4, rfl, ⟨t4, rfl⟩, q4⟩ := hf
      have H5 : Hp (KK w) h4 ([(L, frmO (rnF1 w.params kk W k t l t2) e2)] ++ [(s.heap.objs.size + 0, it), (s.heap.objs.size + 1, lstO vs n)]) := H4.stays q4
      have K5 : Kept s.heap h4 [(L, frmO (rnF1 w.params kk W k t l t2) e2)] := K3.trans (q3' _ (q4.more fun b hb => absurd hb List.not_mem_nil)) hnew
      clear hc3 q3'
      refine go_oc (s := { s with heap := h4, toks := tk4 }) (kNoLimit _) [] 9 44 (pl 0x1001) (fun _ => .call (.ref 51) ⟨[.bytes (octs l) t4, .int (Int.ofNat k) t], []⟩) (fun _ => []) (fun _ z => [(L, frmO (rnF1 w.params kk W k t l t2) e2)]) 1 45 H5 (by exact byR w (fun w o => by kernel_rfl) (fun w o => by kernel_rfl)) (fun o p hp => absurd hp List.not_mem_nil) fun h5 tk5 o5 z5 H6 q5 q5' hc5 => ?_
      refine callF_ok hc5 (Ctr.toF ((bs_ctr (s := { s with heap := h5, toks := tk5 }) hk hsz (by rw [octs_size]; exact hl) H6).mono (by omega))) fun f h6 tk6 hf => ?_
      obtain ⟨v6, rfl, ⟨t6, rfl⟩, q6⟩ := hf
      have H7 : Hp (KK w) h6 [(L, frmO (rnF1 w.params kk W k t l t2) e2)] := H6.stays q6
      have K7 : Kept s.heap h6 [(L, frmO (rnF1 w.params kk W k t l t2) e2)] := K5.trans (q5' _ (q6.more fun b hb => absurd hb List.not_mem_nil)) (hnew3 hnew)
      clear hc5 q5'
      exact go_o (s := { s with heap := h6, toks := tk6 }) (kNoLimit _) [] 8 45 (pl 0x1041) (fun _ => .next) (fun _ => []) (fun o z => [(L, frmO (rnF1 w.params kk W k t l t2 ++ [ent w.params "octets" (tokK z 0 3) (.bytes (swapB k (octs l)) t6)]) (epZ z 0))]) 1 H7 (by exact byR w (fun w o => by kernel_rfl) (fun w o => by kernel_rfl)) (fun o p hp => absurd hp List.not_mem_nil) (fun h8 tk8 o z H8 k8 _ => next h8 tk8 _ _ _ H8 (K7.trans k8 fun b _ hb => hb))
    · skip
      refine go_oc (s := { s with heap := h2, toks := tk2 }) (kNoLimit _) [] 8 45 (pl 0x44104) (fun _ => .call (.builtin "bytes.__new__") ⟨[.type "bytes", .ref (s.heap.objs.size + 1)], []⟩) (fun _ => []) (fun _ z => [(L, frmO (rnF1 w.params kk W k t l t2) e2)] ++ [(s.heap.objs.size + 0, it), (s.heap.objs.size + 1, lstO vs n)]) 3 44 H3 (by exact byR w (fun w o => by kernel_rfl) (fun w o => by kernel_rfl)) (fun o p hp => absurd hp List.not_mem_nil) fun h3 tk3 o3 z3 H4 q3 q3' hc3 => ?_
      refine callF_ok hc3 (Ctr.toF ((by_ctr (s := { s with heap := h3, toks := tk3 }) (by_sub H4) hg h256 hl).mono (by omega))) fun f h4 tk4 hf => ?_
      obtain ⟨v4, rfl, ⟨t4, rfl⟩, q4⟩ := hf
      have H5 : Hp (KK w) h4 ([(L, frmO (rnF1 w.params kk W k t l t2) e2)] ++ [(s.heap.objs.size + 0, it), (s.heap.objs.size + 1, lstO vs n)]) := H4.stays q4
      have K5 : Kept s.heap h4 [(L, frmO (rnF1 w.params kk W k t l t2) e2)] := K3.trans (q3' _ (q4.more fun b hb => absurd hb List.not_mem_nil)) hnew
      clear hc3 q3'
      refine go_oc (s := { s with heap := h4, toks := tk4 }) (kNoLimit _) [] 9 44 (pl 0x1001) (fun _ => .call (.ref 51) ⟨[.bytes (octs l) t4, .int (Int.ofNat k) t], []⟩) (fun _ => []) (fun _ z => [(L, frmO (rnF1 w.params kk W k t l t2) e2)]) 1 45 H5 (by exact byR w (fun w o => by kernel_rfl) (fun w o => by kernel_rfl)) (fun o p hp => absurd hp List.not_mem_nil) fun h5 tk5 o5 z5 H6 q5 q5' hc5 => ?_
      refine callF_ok hc5 (Ctr.toF ((bs_ctr (s := { s with heap := h5, toks := tk5 }) hk hsz (by rw [octs_size]; exact hl) H6).mono (by omega))) fun f h6 tk6 hf => ?_
      obtain ⟨v6, rfl, ⟨t6, rfl⟩, q6⟩ := hf
      have H7 : Hp (KK w) h6 [(L, frmO (rnF1 w.params kk W k t l t2) e2)] := H6.stays q6
      have K7 : Kept s.heap h6 [(L, frmO (rnF1 w.params kk W k t l t2) e2)] := K5.trans (q5' _ (q6.more fun b hb => absurd hb List.not_mem_nil)) (hnew3 hnew)
      clear hc5 q5'
      exact go_o (s := { s with heap := h6, toks := tk6 }) (kNoLimit _) [] 8 45 (pl 0x1041) (fun _ => .next) (fun _ => []) (fun o z => [(L, frmO (rnF1 w.params kk W k t l t2 ++ [ent w.params "octets" (tokK z 0 3) (.bytes (swapB k (octs l)) t6)]) (epZ z 0))]) 1 H7 (by exact byR w (fun w o => by kernel_rfl) (fun w o => by kernel_rfl)) (fun o p hp => absurd hp List.not_mem_nil) (fun h8 tk8 o z H8 k8 _ => next h8 tk8 _ _ _ H8 (K7.trans k8 fun b _ hb => hb))
end
end Mine
end PRN3
section PTN
open PySem PySem.W PyProof.Rows PySem.Calls
open PySem.Builtin.Str (occurrences)
set_option maxHeartbeats 0
namespace Mine
variable {B : Bool}
noncomputable def tnC (w : World) (X : Lx) (T : Tp) (L : Addr) (kf : Nat → Tok) (q : Bool) (nc st ln tok : Value) (ts vs : List Value) (nt nw : Nat) : Cells := (L, frB w.params kf X.x q nc) :: lxC w X T.rd st ln tok ++ tpC w T ts vs nt nw
structure SafeS (c : Nat) : Prop where
  nl : ([c] == [10]) = false
  sp : hasS " \t\r\n" c = false
  co : hasS "" c = false
  qu : hasS "'\"" c = false
  es : hasS "\\" c = false
structure InApo (c : Nat) : Prop where
  nl : ([c] == [10]) = false
  ap : ([c] == [39]) = false
  es : hasS "\\" c = false

theorem tn_bl_sp {w : World} {T : Tp} {X : Lx} {L : Addr} {kf : Nat → Tok} {t t1 t2 t3 : Tok} {ln : Nat}     {A : Around} {E : Value → Shared → Prop} {Q : Flow → Shared → Prop} {s : Shared} {ts vs : List Value} {nt nw : Nat}
  (H : Hp (KK w) s.heap (tnC w X T L kf false (.str ⟨#[32]⟩ t) (.str " " t1) (.int (Int.ofNat ln) t2) (.str ⟨⟨[]⟩⟩ t3) ts vs nt nw)) (hA : Fit A 34) 
  (next : ∀ h' tk' (t1' t2' t3' : Tok), Hp (KK w) h' (tnC w X T L kf false (.str ⟨#[32]⟩ t) (.str " " t1) (.int (Int.ofNat ln) t2) (.str ⟨⟨[]⟩⟩ t3) ts vs nt nw) → Kept s.heap h' (tnC w X T L kf false (.str ⟨#[32]⟩ t) (.str " " t1) (.int (Int.ofNat ln) t2) (.str ⟨⟨[]⟩⟩ t3) ts vs nt nw) → Q .cont { s with heap := h', toks := tk' }) :
  wpC B (model PG w) A (execs (rtW w).tail (rtEnv w L)) Q E s := by
  refine start_bot 18 (hA.le (by omega)) (execsZ_eq _ _) ?_
  exact go_o (kNoLimit _) [] 199 18 (pl 0x410c00820000020000020430020800000800000810c00820000020000020430020800000800000810410c00820000020000020430020800000800000810c0082000002000002041) (fun _ => .cont) (fun _ => []) (fun o z => (tnC _ X T L kf false (.str ⟨#[32]⟩ t) (.str " " t1) (.int (Int.ofNat ln) t2) (.str ⟨⟨[]⟩⟩ t3) ts vs nt nw)) 13 H (by exact byR w (fun w o => by kernel_rfl) (fun w o => by kernel_rfl)) (fun o p hp => absurd hp List.not_mem_nil) (fun h' tk' o z H' k' _ => next h' tk' 0 0 0 H' k')
theorem tn_bl_wd {w : World} {T : Tp} {X : Lx} {L : Addr} {kf : Nat → Tok} {t t1 t2 t3 : Tok} {ln : Nat}   {c : Nat}  {A : Around} {E : Value → Shared → Prop} {Q : Flow → Shared → Prop} {s : Shared} {ts vs : List Value} {nt nw : Nat}
  (H : Hp (KK w) s.heap (tnC w X T L kf false (.str ⟨#[c]⟩ t) (.str " " t1) (.int (Int.ofNat ln) t2) (.str ⟨⟨[]⟩⟩ t3) ts vs nt nw)) (hA : Fit A 34) (hc : SafeS c) (hw : hasS wordC c = true)
  (next : ∀ h' tk' (t1' t2' t3' : Tok), Hp (KK w) h' (tnC w X T L kf false (.str ⟨#[c]⟩ t) (.str "a" t1') (.int (Int.ofNat ln) t2) (.str ⟨#[c]⟩ t) ts vs nt nw) → Kept s.heap h' (tnC w X T L kf false (.str ⟨#[c]⟩ t) (.str " " t1) (.int (Int.ofNat ln) t2) (.str ⟨⟨[]⟩⟩ t3) ts vs nt nw) → Q .next { s with heap := h', toks := tk' }) :
  wpC B (model PG w) A (execs (rtW w).tail (rtEnv w L)) Q E s := by
  refine start_bot 18 (hA.le (by omega)) (execsZ_eq _ _) ?_
  exact go_o (kNoLimit _) [(6, [], (extA (eqSX false))), (108, [], (extA (hasSX false))), (23, [], (extA (hasSX false))), (43, [], (extA (hasSX false))), (23, [], (extA (hasSX true)))] 57 18 (pl 0x430c30020000020020020000020430c30020000020020020000020410c00820000020000020410c00820000020000020410c00820000020000020430020800000800000810430020800000800000810410c00820000020000020430020800000800000810c0082000002000002041) (fun _ => .next) (fun _ => [okP (hasS wordC c = true), okP (hasS "\\" c = false), okP (hasS "" c = false), okP (hasS " \t\r\n" c = false), okP (((⟨#[c]⟩ : Str).cps.toList == ("\n" : Str).cps.toList) = false)]) (fun o z => (tnC _ X T L kf false (.str ⟨#[c]⟩ t) (.str "a" (tokD z 2 11)) (.int (Int.ofNat ln) t2) (.str ⟨#[c]⟩ t) ts vs nt nw)) 13 H (by exact byR w (fun w o => by kernel_rfl) (fun w o => by kernel_rfl)) (fun o p hp => by simp only [List.mem_cons, List.not_mem_nil, or_false] at hp; rcases hp with rfl | rfl | rfl | rfl | rfl; exact ⟨hw, rfl⟩; exact ⟨hc.es, rfl⟩; exact ⟨hc.co, rfl⟩; exact ⟨hc.sp, rfl⟩; exact ⟨hc.nl, rfl⟩) (fun h' tk' o z H' k' _ => next h' tk' _ 0 0 H' k')
theorem tn_bl_ot {w : World} {T : Tp} {X : Lx} {L : Addr} {kf : Nat → Tok} {t t1 t2 t3 : Tok} {ln : Nat}   {c : Nat}  {A : Around} {E : Value → Shared → Prop} {Q : Flow → Shared → Prop} {s : Shared} {ts vs : List Value} {nt nw : Nat}
  (H : Hp (KK w) s.heap (tnC w X T L kf false (.str ⟨#[c]⟩ t) (.str " " t1) (.int (Int.ofNat ln) t2) (.str ⟨⟨[]⟩⟩ t3) ts vs nt nw)) (hA : Fit A 34) (hc : SafeS c) (hw : hasS wordC c = false)
  (next : ∀ h' tk' (t1' t2' t3' : Tok), Hp (KK w) h' (tnC w X T L kf false (.str ⟨#[c]⟩ t) (.str "a" t1') (.int (Int.ofNat ln) t2) (.str ⟨#[c]⟩ t) ts vs nt nw) → Kept s.heap h' (tnC w X T L kf false (.str ⟨#[c]⟩ t) (.str " " t1) (.int (Int.ofNat ln) t2) (.str ⟨⟨[]⟩⟩ t3) ts vs nt nw) → Q .next { s with heap := h', toks := tk' }) :
  wpC B (model PG w) A (execs (rtW w).tail (rtEnv w L)) Q E s := by
  refine start_bot 18 (hA.le (by omega)) (execsZ_eq _ _) ?_
  exact go_o (kNoLimit _) [(6, [], (extA (eqSX false))), (108, [], (extA (hasSX false))), (23, [], (extA (hasSX false))), (43, [], (extA (hasSX false))), (23, [], (extA (hasSX false))), (58, [], (extA (hasSX false))), (23, [], (extA (hasSX false)))] 78 18 (pl 0x10c30c00800000800800800000810c30c00800000800800800000810430020800000800000810c00820000020000020410c008200000200000238e3800000000000000000020000020410c00820000020000020410c00820000020000020410c00820000020000020430020800000800000810430020800000800000810410c00820000020000020430020800000800000810c0082000002000002041) (fun _ => .next) (fun _ => [okP (hasS "'\"" c = false), okP (hasS "" c = false), okP (hasS wordC c = false), okP (hasS "\\" c = false), okP (hasS "" c = false), okP (hasS " \t\r\n" c = false), okP (((⟨#[c]⟩ : Str).cps.toList == ("\n" : Str).cps.toList) = false)]) (fun o z => (tnC _ X T L kf false (.str ⟨#[c]⟩ t) (.str "a" (tokD z 2 11)) (.int (Int.ofNat ln) t2) (.str ⟨#[c]⟩ t) ts vs nt nw)) 13 H (by exact byR w (fun w o => by kernel_rfl) (fun w o => by kernel_rfl)) (fun o p hp => by simp only [List.mem_cons, List.not_mem_nil, or_false] at hp; rcases hp with rfl | rfl | rfl | rfl | rfl | rfl | rfl; exact ⟨hc.qu, rfl⟩; exact ⟨hc.co, rfl⟩; exact ⟨hw, rfl⟩; exact ⟨hc.es, rfl⟩; exact ⟨hc.co, rfl⟩; exact ⟨hc.sp, rfl⟩; exact ⟨hc.nl, rfl⟩) (fun h' tk' o z H' k' _ => next h' tk' _ 0 0 H' k')
theorem tn_bl_ap {w : World} {T : Tp} {X : Lx} {L : Addr} {kf : Nat → Tok} {t t1 t2 t3 : Tok} {ln : Nat}     {A : Around} {E : Value → Shared → Prop} {Q : Flow → Shared → Prop} {s : Shared} {ts vs : List Value} {nt nw : Nat}
  (H : Hp (KK w) s.heap (tnC w X T L kf false (.str ⟨#[39]⟩ t) (.str " " t1) (.int (Int.ofNat ln) t2) (.str ⟨⟨[]⟩⟩ t3) ts vs nt nw)) (hA : Fit A 34) 
  (next : ∀ h' tk' (t1' t2' t3' : Tok), Hp (KK w) h' (tnC w X T L kf false (.str ⟨#[39]⟩ t) (.str ⟨#[39]⟩ t) (.int (Int.ofNat ln) t2) (.str ⟨⟨[]⟩⟩ t3) ts vs nt nw) → Kept s.heap h' (tnC w X T L kf false (.str ⟨#[39]⟩ t) (.str " " t1) (.int (Int.ofNat ln) t2) (.str ⟨⟨[]⟩⟩ t3) ts vs nt nw) → Q .next { s with heap := h', toks := tk' }) :
  wpC B (model PG w) A (execs (rtW w).tail (rtEnv w L)) Q E s := by
  refine start_bot 18 (hA.le (by omega)) (execsZ_eq _ _) ?_
  exact go_o (kNoLimit _) [] 355 18 (pl 0x10c30c00800000800800800000810430020800000800000810c00820000020000020410c008200000200000238e3800000000000000000020000020410c00820000020000020410c00820000020000020410c00820000020000020430020800000800000810430020800000800000810410c00820000020000020430020800000800000810c0082000002000002041) (fun _ => .next) (fun _ => []) (fun o z => (tnC _ X T L kf false (.str ⟨#[39]⟩ t) (.str ⟨#[39]⟩ t) (.int (Int.ofNat ln) t2) (.str ⟨⟨[]⟩⟩ t3) ts vs nt nw)) 13 H (by exact byR w (fun w o => by kernel_rfl) (fun w o => by kernel_rfl)) (fun o p hp => absurd hp List.not_mem_nil) (fun h' tk' o z H' k' _ => next h' tk' 0 0 0 H' k')
theorem tn_bl_no {w : World} {T : Tp} {X : Lx} {L : Addr} {kf : Nat → Tok} {t t1 t2 t3 : Tok} {ln : Nat}     {A : Around} {E : Value → Shared → Prop} {Q : Flow → Shared → Prop} {s : Shared} {ts vs : List Value} {nt nw : Nat}
  (H : Hp (KK w) s.heap (tnC w X T L kf false (.str ⟨#[]⟩ t) (.str " " t1) (.int (Int.ofNat ln) t2) (.str ⟨⟨[]⟩⟩ t3) ts vs nt nw)) (hA : Fit A 34) 
  (next : ∀ h' tk' (t1' t2' t3' : Tok), Hp (KK w) h' (tnC w X T L kf false (.str ⟨#[]⟩ t) (.none) (.int (Int.ofNat ln) t2) (.str ⟨⟨[]⟩⟩ t3) ts vs nt nw) → Kept s.heap h' (tnC w X T L kf false (.str ⟨#[]⟩ t) (.str " " t1) (.int (Int.ofNat ln) t2) (.str ⟨⟨[]⟩⟩ t3) ts vs nt nw) → Q .brk { s with heap := h', toks := tk' }) :
  wpC B (model PG w) A (execs (rtW w).tail (rtEnv w L)) Q E s := by
  refine start_bot 18 (hA.le (by omega)) (execsZ_eq _ _) ?_
  exact go_o (kNoLimit _) [] 122 18 (pl 0x430c30020000020020020000020410c00820000020000020430020800000800000810c0082000002000002041) (fun _ => .brk) (fun _ => []) (fun o z => (tnC _ X T L kf false (.str ⟨#[]⟩ t) (.none) (.int (Int.ofNat ln) t2) (.str ⟨⟨[]⟩⟩ t3) ts vs nt nw)) 13 H (by exact byR w (fun w o => by kernel_rfl) (fun w o => by kernel_rfl)) (fun o p hp => absurd hp List.not_mem_nil) (fun h' tk' o z H' k' _ => next h' tk' 0 0 0 H' k')
theorem tn_wd_sp1 {w : World} {T : Tp} {X : Lx} {L : Addr} {kf : Nat → Tok} {t t1 t2 t3 : Tok} {ln : Nat} {q : Bool}  {v : Nat} {l : List Nat} {A : Around} {E : Value → Shared → Prop} {Q : Flow → Shared → Prop} {s : Shared} {ts vs : List Value} {nt nw : Nat}
  (H : Hp (KK w) s.heap (tnC w X T L kf q (.str ⟨#[32]⟩ t) (.str "a" t1) (.int (Int.ofNat ln) t2) (.str ⟨⟨v :: l⟩⟩ t3) ts vs nt nw)) (hA : Fit A 34) (hl : (⟨⟨v :: l⟩⟩ : Str).length ≤ sizeLine)
  (next : ∀ h' tk' (t1' t2' t3' : Tok), Hp (KK w) h' (tnC w X T L kf q (.str ⟨#[32]⟩ t) (.str " " t1') (.int (Int.ofNat ln) t2) (.str ⟨⟨v :: l⟩⟩ t3) ts vs nt nw) → Kept s.heap h' (tnC w X T L kf q (.str ⟨#[32]⟩ t) (.str "a" t1) (.int (Int.ofNat ln) t2) (.str ⟨⟨v :: l⟩⟩ t3) ts vs nt nw) → Q .brk { s with heap := h', toks := tk' }) :
  wpC B (model PG w) A (execs (rtW w).tail (rtEnv w L)) Q E s := by
  refine start_bot 18 (hA.le (by omega)) (execsZ_eq _ _) ?_
  exact go_o (kNoLimit _) [(195, [13], (extA (tupX true))), (113, [], (extA lenX))] 1 18 (pl 0x10c00820000020000020430c30020000020020020000020430020800000800000810c008200000200000204104e3830020800000800000810c00820000020000020430020800000800000810c00820000020000020430020800000800000810c00820000020000020430020800000800000810c0082000002000002041) (fun _ => .brk) (fun _ => [okP ((⟨⟨v :: l⟩⟩ : Str).length ≤ sizeLine), okP (s.heap.objs.size + 0 = s.heap.objs.size + 0 ∧ "tuple" = "tuple" ∧ (("a" : Str).cps.toList == ("a" : Str).cps.toList || ("c" : Str).cps.toList == ("a" : Str).cps.toList) = true)]) (fun o z => (tnC _ X T L kf q (.str ⟨#[32]⟩ t) (.str " " (tokD z 2 11)) (.int (Int.ofNat ln) t2) (.str ⟨⟨v :: l⟩⟩ t3) ts vs nt nw)) 13 H (by exact byR w (fun w o => by kernel_rfl) (fun w o => by kernel_rfl)) (fun o p hp => by simp only [List.mem_cons, List.not_mem_nil, or_false] at hp; rcases hp with rfl | rfl; exact ⟨hl, rfl⟩; exact ⟨⟨by trivial, by trivial, by trivial⟩, rfl⟩) (fun h' tk' o z H' k' _ => next h' tk' _ 0 0 H' k')
theorem tn_wd_sp2 {w : World} {T : Tp} {X : Lx} {L : Addr} {kf : Nat → Tok} {t t1 t2 t3 : Tok} {ln : Nat}     {A : Around} {E : Value → Shared → Prop} {Q : Flow → Shared → Prop} {s : Shared} {ts vs : List Value} {nt nw : Nat}
  (H : Hp (KK w) s.heap (tnC w X T L kf true (.str ⟨#[32]⟩ t) (.str "a" t1) (.int (Int.ofNat ln) t2) (.str ⟨⟨[]⟩⟩ t3) ts vs nt nw)) (hA : Fit A 34) 
  (next : ∀ h' tk' (t1' t2' t3' : Tok), Hp (KK w) h' (tnC w X T L kf true (.str ⟨#[32]⟩ t) (.str " " t1') (.int (Int.ofNat ln) t2) (.str ⟨⟨[]⟩⟩ t3) ts vs nt nw) → Kept s.heap h' (tnC w X T L kf true (.str ⟨#[32]⟩ t) (.str "a" t1) (.int (Int.ofNat ln) t2) (.str ⟨⟨[]⟩⟩ t3) ts vs nt nw) → Q .brk { s with heap := h', toks := tk' }) :
  wpC B (model PG w) A (execs (rtW w).tail (rtEnv w L)) Q E s := by
  refine start_bot 18 (hA.le (by omega)) (execsZ_eq _ _) ?_
  exact go_o (kNoLimit _) [(195, [13], (extA (tupX true)))] 145 18 (pl 0x10430020800000800000810c00820000020000020430c30020000020020020000020430020800000800000810c008200000200000204104e3830020800000800000810c00820000020000020430020800000800000810c00820000020000020430020800000800000810c00820000020000020430020800000800000810c0082000002000002041) (fun _ => .brk) (fun _ => [okP (s.heap.objs.size + 0 = s.heap.objs.size + 0 ∧ "tuple" = "tuple" ∧ (("a" : Str).cps.toList == ("a" : Str).cps.toList || ("c" : Str).cps.toList == ("a" : Str).cps.toList) = true)]) (fun o z => (tnC _ X T L kf true (.str ⟨#[32]⟩ t) (.str " " (tokD z 2 11)) (.int (Int.ofNat ln) t2) (.str ⟨⟨[]⟩⟩ t3) ts vs nt nw)) 13 H (by exact byR w (fun w o => by kernel_rfl) (fun w o => by kernel_rfl)) (fun o p hp => by simp only [List.mem_cons, List.not_mem_nil, or_false] at hp; rcases hp with rfl; exact ⟨⟨by trivial, by trivial, by trivial⟩, rfl⟩) (fun h' tk' o z H' k' _ => next h' tk' _ 0 0 H' k')
theorem tn_wd_wd {w : World} {T : Tp} {X : Lx} {L : Addr} {kf : Nat → Tok} {t t1 t2 t3 : Tok} {ln : Nat} {q : Bool} {tk : Str} {c : Nat}  {A : Around} {E : Value → Shared → Prop} {Q : Flow → Shared → Prop} {s : Shared} {ts vs : List Value} {nt nw : Nat}
  (H : Hp (KK w) s.heap (tnC w X T L kf q (.str ⟨#[c]⟩ t) (.str "a" t1) (.int (Int.ofNat ln) t2) (.str tk t3) ts vs nt nw)) (hA : Fit A 34) (hc : SafeS c) (hw : hasS wordC c = true) (hl : (tk ++ ⟨#[c]⟩).length ≤ sizeLine)
  (next : ∀ h' tk' (t1' t2' t3' : Tok), Hp (KK w) h' (tnC w X T L kf q (.str ⟨#[c]⟩ t) (.str "a" t1) (.int (Int.ofNat ln) t2) (.str (tk ++ ⟨#[c]⟩) t3') ts vs nt nw) → Kept s.heap h' (tnC w X T L kf q (.str ⟨#[c]⟩ t) (.str "a" t1) (.int (Int.ofNat ln) t2) (.str tk t3) ts vs nt nw) → Q .next { s with heap := h', toks := tk' }) :
  wpC B (model PG w) A (execs (rtW w).tail (rtEnv w L)) Q E s := by
  refine start_bot 18 (hA.le (by omega)) (execsZ_eq _ _) ?_
  exact go_o (kNoLimit _) [(6, [], (extA (eqSX false))), (186, [13], (extA (tupX true))), (35, [], (extA (hasSX false))), (23, [], (extA (hasSX false))), (69, [], (extA (hasSX false))), (43, [], (extA (hasSX false))), (23, [], (extA (hasSX true))), (24, [], (orA addSX))] 24 18 (pl 0x10c30c00800000800800800000810c00820000020000020430020800000800000810430020800000800000810430020800000800000810c00820000020000020410c00820000020000020430020800000800000810c00820000020000020410c008200000200000204104e3830020800000800000810c00820000020000020430020800000800000810c00820000020000020430020800000800000810c00820000020000020430020800000800000810c0082000002000002041) (fun _ => .next) (fun _ => [okP ((tk ++ ⟨#[c]⟩).length ≤ sizeLine), okP (hasS wordC c = true), okP (hasS "\\" c = false), okP (hasS "'\"" c = false), okP (hasS "" c = false), okP (hasS " \t\r\n" c = false), okP (s.heap.objs.size + 0 = s.heap.objs.size + 0 ∧ "tuple" = "tuple" ∧ (("a" : Str).cps.toList == ("a" : Str).cps.toList || ("c" : Str).cps.toList == ("a" : Str).cps.toList) = true), okP (((⟨#[c]⟩ : Str).cps.toList == ("\n" : Str).cps.toList) = false)]) (fun o z => (tnC _ X T L kf q (.str ⟨#[c]⟩ t) (.str "a" t1) (.int (Int.ofNat ln) t2) (.str (tk ++ ⟨#[c]⟩) (o 7).1) ts vs nt nw)) 13 H (by exact byR w (fun w o => by kernel_rfl) (fun w o => by kernel_rfl)) (fun o p hp => by simp only [List.mem_cons, List.not_mem_nil, or_false] at hp; rcases hp with rfl | rfl | rfl | rfl | rfl | rfl | rfl | rfl; exact ⟨hl, rfl⟩; exact ⟨hw, rfl⟩; exact ⟨hc.es, rfl⟩; exact ⟨hc.qu, rfl⟩; exact ⟨hc.co, rfl⟩; exact ⟨hc.sp, rfl⟩; exact ⟨⟨by trivial, by trivial, by trivial⟩, rfl⟩; exact ⟨hc.nl, rfl⟩) (fun h' tk' o z H' k' _ => next h' tk' 0 0 (o 7).1 H' k')
theorem tn_wd_ot {w : World} {T : Tp} {X : Lx} {L : Addr} {kf : Nat → Tok} {t t1 t2 t3 : Tok} {ln : Nat} {q : Bool} {tk : Str} {c : Nat}  {A : Around} {E : Value → Shared → Prop} {Q : Flow → Shared → Prop} {s : Shared} {ts vs : List Value} {nt nw : Nat}
  (H : Hp (KK w) s.heap (tnC w X T L kf q (.str ⟨#[c]⟩ t) (.str "a" t1) (.int (Int.ofNat ln) t2) (.str tk t3) ts vs nt nw)) (hA : Fit A 34) (hc : SafeS c) (hw : hasS wordC c = false) (hl : (tk ++ ⟨#[c]⟩).length ≤ sizeLine)
  (next : ∀ h' tk' (t1' t2' t3' : Tok), Hp (KK w) h' (tnC w X T L kf q (.str ⟨#[c]⟩ t) (.str "a" t1) (.int (Int.ofNat ln) t2) (.str (tk ++ ⟨#[c]⟩) t3') ts vs nt nw) → Kept s.heap h' (tnC w X T L kf q (.str ⟨#[c]⟩ t) (.str "a" t1) (.int (Int.ofNat ln) t2) (.str tk t3) ts vs nt nw) → Q .next { s with heap := h', toks := tk' }) :
  wpC B (model PG w) A (execs (rtW w).tail (rtEnv w L)) Q E s := by
  refine start_bot 18 (hA.le (by omega)) (execsZ_eq _ _) ?_
  exact go_o (kNoLimit _) [(6, [], (extA (eqSX false))), (186, [13], (extA (tupX true))), (35, [], (extA (hasSX false))), (23, [], (extA (hasSX false))), (69, [], (extA (hasSX false))), (43, [], (extA (hasSX false))), (23, [], (extA (hasSX false))), (22, [], (extA (hasSX false))), (77, [], (extA (hasSX false))), (24, [], (orA addSX))] 24 18 (pl 0x430c30020000020020020000020430020800000800000810c00820000020000023cf3c00000000000000000020000020410c00820000020000020430020800000800000810430020800000800000810430020800000800000810430020800000800000810c00820000020000020410c00820000020000020430020800000800000810c00820000020000020410c008200000200000204104e3830020800000800000810c00820000020000020430020800000800000810c00820000020000020430020800000800000810c00820000020000020430020800000800000810c0082000002000002041) (fun _ => .next) (fun _ => [okP ((tk ++ ⟨#[c]⟩).length ≤ sizeLine), okP (hasS "" c = false), okP (hasS "'\"" c = false), okP (hasS wordC c = false), okP (hasS "\\" c = false), okP (hasS "'\"" c = false), okP (hasS "" c = false), okP (hasS " \t\r\n" c = false), okP (s.heap.objs.size + 0 = s.heap.objs.size + 0 ∧ "tuple" = "tuple" ∧ (("a" : Str).cps.toList == ("a" : Str).cps.toList || ("c" : Str).cps.toList == ("a" : Str).cps.toList) = true), okP (((⟨#[c]⟩ : Str).cps.toList == ("\n" : Str).cps.toList) = false)]) (fun o z => (tnC _ X T L kf q (.str ⟨#[c]⟩ t) (.str "a" t1) (.int (Int.ofNat ln) t2) (.str (tk ++ ⟨#[c]⟩) (o 9).1) ts vs nt nw)) 13 H (by exact byR w (fun w o => by kernel_rfl) (fun w o => by kernel_rfl)) (fun o p hp => by simp only [List.mem_cons, List.not_mem_nil, or_false] at hp; rcases hp with rfl | rfl | rfl | rfl | rfl | rfl | rfl | rfl | rfl | rfl; exact ⟨hl, rfl⟩; exact ⟨hc.co, rfl⟩; exact ⟨hc.qu, rfl⟩; exact ⟨hw, rfl⟩; exact ⟨hc.es, rfl⟩; exact ⟨hc.qu, rfl⟩; exact ⟨hc.co, rfl⟩; exact ⟨hc.sp, rfl⟩; exact ⟨⟨by trivial, by trivial, by trivial⟩, rfl⟩; exact ⟨hc.nl, rfl⟩) (fun h' tk' o z H' k' _ => next h' tk' 0 0 (o 9).1 H' k')
theorem tn_wd_ap {w : World} {T : Tp} {X : Lx} {L : Addr} {kf : Nat → Tok} {t t1 t2 t3 : Tok} {ln : Nat} {q : Bool} {tk : Str}   {A : Around} {E : Value → Shared → Prop} {Q : Flow → Shared → Prop} {s : Shared} {ts vs : List Value} {nt nw : Nat}
  (H : Hp (KK w) s.heap (tnC w X T L kf q (.str ⟨#[39]⟩ t) (.str "a" t1) (.int (Int.ofNat ln) t2) (.str tk t3) ts vs nt nw)) (hA : Fit A 34) 
  (next : ∀ h' tk' (t1' t2' t3' : Tok), Hp (KK w) h' (tnC w X T L kf q (.str ⟨#[39]⟩ t) (.str ⟨#[39]⟩ t) (.int (Int.ofNat ln) t2) (.str tk t3) ts vs nt nw) → Kept s.heap h' (tnC w X T L kf q (.str ⟨#[39]⟩ t) (.str "a" t1) (.int (Int.ofNat ln) t2) (.str tk t3) ts vs nt nw) → Q .next { s with heap := h', toks := tk' }) :
  wpC B (model PG w) A (execs (rtW w).tail (rtEnv w L)) Q E s := by
  refine start_bot 18 (hA.le (by omega)) (execsZ_eq _ _) ?_
  exact go_o (kNoLimit _) [(195, [13], (extA (tupX true)))] 165 18 (pl 0x430c30020000020020020000020410c00820000020000020410c00820000020000020430020800000800000810c00820000020000020410c008200000200000204104e3830020800000800000810c00820000020000020430020800000800000810c00820000020000020430020800000800000810c00820000020000020430020800000800000810c0082000002000002041) (fun _ => .next) (fun _ => [okP (s.heap.objs.size + 0 = s.heap.objs.size + 0 ∧ "tuple" = "tuple" ∧ (("a" : Str).cps.toList == ("a" : Str).cps.toList || ("c" : Str).cps.toList == ("a" : Str).cps.toList) = true)]) (fun o z => (tnC _ X T L kf q (.str ⟨#[39]⟩ t) (.str ⟨#[39]⟩ t) (.int (Int.ofNat ln) t2) (.str tk t3) ts vs nt nw)) 13 H (by exact byR w (fun w o => by kernel_rfl) (fun w o => by kernel_rfl)) (fun o p hp => by simp only [List.mem_cons, List.not_mem_nil, or_false] at hp; rcases hp with rfl; exact ⟨⟨by trivial, by trivial, by trivial⟩, rfl⟩) (fun h' tk' o z H' k' _ => next h' tk' 0 0 0 H' k')
theorem tn_wd_qu {w : World} {T : Tp} {X : Lx} {L : Addr} {kf : Nat → Tok} {t t1 t2 t3 : Tok} {ln : Nat} {q : Bool} {tk : Str}   {A : Around} {E : Value → Shared → Prop} {Q : Flow → Shared → Prop} {s : Shared} {ts vs : List Value} {nt nw : Nat}
  (H : Hp (KK w) s.heap (tnC w X T L kf q (.str ⟨#[34]⟩ t) (.str "a" t1) (.int (Int.ofNat ln) t2) (.str tk t3) ts vs nt nw)) (hA : Fit A 34) 
  (next : ∀ h' tk' (t1' t2' t3' : Tok), Hp (KK w) h' (tnC w X T L kf q (.str ⟨#[34]⟩ t) (.str ⟨#[34]⟩ t) (.int (Int.ofNat ln) t2) (.str tk t3) ts vs nt nw) → Kept s.heap h' (tnC w X T L kf q (.str ⟨#[34]⟩ t) (.str "a" t1) (.int (Int.ofNat ln) t2) (.str tk t3) ts vs nt nw) → Q .next { s with heap := h', toks := tk' }) :
  wpC B (model PG w) A (execs (rtW w).tail (rtEnv w L)) Q E s := by
  refine start_bot 18 (hA.le (by omega)) (execsZ_eq _ _) ?_
  exact go_o (kNoLimit _) [(195, [13], (extA (tupX true)))] 165 18 (pl 0x430c30020000020020020000020410c00820000020000020410c00820000020000020430020800000800000810c00820000020000020410c008200000200000204104e3830020800000800000810c00820000020000020430020800000800000810c00820000020000020430020800000800000810c00820000020000020430020800000800000810c0082000002000002041) (fun _ => .next) (fun _ => [okP (s.heap.objs.size + 0 = s.heap.objs.size + 0 ∧ "tuple" = "tuple" ∧ (("a" : Str).cps.toList == ("a" : Str).cps.toList || ("c" : Str).cps.toList == ("a" : Str).cps.toList) = true)]) (fun o z => (tnC _ X T L kf q (.str ⟨#[34]⟩ t) (.str ⟨#[34]⟩ t) (.int (Int.ofNat ln) t2) (.str tk t3) ts vs nt nw)) 13 H (by exact byR w (fun w o => by kernel_rfl) (fun w o => by kernel_rfl)) (fun o p hp => by simp only [List.mem_cons, List.not_mem_nil, or_false] at hp; rcases hp with rfl; exact ⟨⟨by trivial, by trivial, by trivial⟩, rfl⟩) (fun h' tk' o z H' k' _ => next h' tk' 0 0 0 H' k')
theorem tn_wd_no {w : World} {T : Tp} {X : Lx} {L : Addr} {kf : Nat → Tok} {t t1 t2 t3 : Tok} {ln : Nat} {q : Bool} {tk : Str}   {A : Around} {E : Value → Shared → Prop} {Q : Flow → Shared → Prop} {s : Shared} {ts vs : List Value} {nt nw : Nat}
  (H : Hp (KK w) s.heap (tnC w X T L kf q (.str ⟨#[]⟩ t) (.str "a" t1) (.int (Int.ofNat ln) t2) (.str tk t3) ts vs nt nw)) (hA : Fit A 34) 
  (next : ∀ h' tk' (t1' t2' t3' : Tok), Hp (KK w) h' (tnC w X T L kf q (.str ⟨#[]⟩ t) (.none) (.int (Int.ofNat ln) t2) (.str tk t3) ts vs nt nw) → Kept s.heap h' (tnC w X T L kf q (.str ⟨#[]⟩ t) (.str "a" t1) (.int (Int.ofNat ln) t2) (.str tk t3) ts vs nt nw) → Q .brk { s with heap := h', toks := tk' }) :
  wpC B (model PG w) A (execs (rtW w).tail (rtEnv w L)) Q E s := by
  refine start_bot 18 (hA.le (by omega)) (execsZ_eq _ _) ?_
  exact go_o (kNoLimit _) [(195, [13], (extA (tupX true)))] 40 18 (pl 0x10c30c008000008008008000008104e3830020800000800000810c00820000020000020430020800000800000810c00820000020000020430020800000800000810c00820000020000020430020800000800000810c0082000002000002041) (fun _ => .brk) (fun _ => [okP (s.heap.objs.size + 0 = s.heap.objs.size + 0 ∧ "tuple" = "tuple" ∧ (("a" : Str).cps.toList == ("a" : Str).cps.toList || ("c" : Str).cps.toList == ("a" : Str).cps.toList) = true)]) (fun o z => (tnC _ X T L kf q (.str ⟨#[]⟩ t) (.none) (.int (Int.ofNat ln) t2) (.str tk t3) ts vs nt nw)) 13 H (by exact byR w (fun w o => by kernel_rfl) (fun w o => by kernel_rfl)) (fun o p hp => by simp only [List.mem_cons, List.not_mem_nil, or_false] at hp; rcases hp with rfl; exact ⟨⟨by trivial, by trivial, by trivial⟩, rfl⟩) (fun h' tk' o z H' k' _ => next h' tk' 0 0 0 H' k')
theorem tn_ap_ap {w : World} {T : Tp} {X : Lx} {L : Addr} {kf : Nat → Tok} {t t1 t2 t3 : Tok} {ln : Nat} {q : Bool} {tk : Str}   {A : Around} {E : Value → Shared → Prop} {Q : Flow → Shared → Prop} {s : Shared} {ts vs : List Value} {nt nw : Nat}
  (H : Hp (KK w) s.heap (tnC w X T L kf q (.str ⟨#[39]⟩ t) (.str ⟨#[39]⟩ t1) (.int (Int.ofNat ln) t2) (.str tk t3) ts vs nt nw)) (hA : Fit A 34) 
  (next : ∀ h' tk' (t1' t2' t3' : Tok), Hp (KK w) h' (tnC w X T L kf true (.str ⟨#[39]⟩ t) (.str "a" t1') (.int (Int.ofNat ln) t2) (.str tk t3) ts vs nt nw) → Kept s.heap h' (tnC w X T L kf q (.str ⟨#[39]⟩ t) (.str ⟨#[39]⟩ t1) (.int (Int.ofNat ln) t2) (.str tk t3) ts vs nt nw) → Q .next { s with heap := h', toks := tk' }) :
  wpC B (model PG w) A (execs (rtW w).tail (rtEnv w L)) Q E s := by
  refine start_bot 18 (hA.le (by omega)) (execsZ_eq _ _) ?_
  exact go_o (kNoLimit _) [] 221 18 (pl 0x10c30c00800000800800800000810c00820000020000020430020800000800000810410410c00820000020000020430020800000800000810c00820000020000020430020800000800000810c0082000002000002041) (fun _ => .next) (fun _ => []) (fun o z => (tnC _ X T L kf true (.str ⟨#[39]⟩ t) (.str "a" (tokD z 2 11)) (.int (Int.ofNat ln) t2) (.str tk t3) ts vs nt nw)) 13 H (by exact byR w (fun w o => by kernel_rfl) (fun w o => by kernel_rfl)) (fun o p hp => absurd hp List.not_mem_nil) (fun h' tk' o z H' k' _ => next h' tk' _ 0 0 H' k')
theorem tn_ap_nl {w : World} {T : Tp} {X : Lx} {L : Addr} {kf : Nat → Tok} {t t1 t2 t3 : Tok} {ln : Nat} {q : Bool} {tk : Str}   {A : Around} {E : Value → Shared → Prop} {Q : Flow → Shared → Prop} {s : Shared} {ts vs : List Value} {nt nw : Nat}
  (H : Hp (KK w) s.heap (tnC w X T L kf q (.str ⟨#[10]⟩ t) (.str ⟨#[39]⟩ t1) (.int (Int.ofNat ln) t2) (.str tk t3) ts vs nt nw)) (hA : Fit A 34) (hl : (tk ++ ⟨#[10]⟩).length ≤ sizeLine)
  (next : ∀ h' tk' (t1' t2' t3' : Tok), Hp (KK w) h' (tnC w X T L kf true (.str ⟨#[10]⟩ t) (.str ⟨#[39]⟩ t1) (.int (Int.ofNat (ln + 1)) t2') (.str (tk ++ ⟨#[10]⟩) t3') ts vs nt nw) → Kept s.heap h' (tnC w X T L kf q (.str ⟨#[10]⟩ t) (.str ⟨#[39]⟩ t1) (.int (Int.ofNat ln) t2) (.str tk t3) ts vs nt nw) → Q .next { s with heap := h', toks := tk' }) :
  wpC B (model PG w) A (execs (rtW w).tail (rtEnv w L)) Q E s := by
  refine start_bot 18 (hA.le (by omega)) (execsZ_eq _ _) ?_
  exact go_o (kNoLimit _) [(292, [], (orA addSX))] 24 18 (pl 0x430c30020000020020020000020430020800000800000810c00820000020000020410c00820000020000020430020800000800000810410410c00820000020000020430020800000800000810c00820000020000020430020800000800000810c00820000020000020430c30020000020020020000020c0082000002000002041) (fun _ => .next) (fun _ => [okP ((tk ++ ⟨#[10]⟩).length ≤ sizeLine)]) (fun o z => (tnC _ X T L kf true (.str ⟨#[10]⟩ t) (.str ⟨#[39]⟩ t1) (.int (Int.ofNat (ln + 1)) (tokD z 2 13)) (.str (tk ++ ⟨#[10]⟩) (o 0).1) ts vs nt nw)) 13 H (by exact byR w (fun w o => by kernel_rfl) (fun w o => by kernel_rfl)) (fun o p hp => by simp only [List.mem_cons, List.not_mem_nil, or_false] at hp; rcases hp with rfl; exact ⟨hl, rfl⟩) (fun h' tk' o z H' k' _ => next h' tk' 0 _ (o 0).1 H' k')
theorem tn_ap_bs {w : World} {T : Tp} {X : Lx} {L : Addr} {kf : Nat → Tok} {t t1 t2 t3 : Tok} {ln : Nat} {q : Bool} {tk : Str}   {A : Around} {E : Value → Shared → Prop} {Q : Flow → Shared → Prop} {s : Shared} {ts vs : List Value} {nt nw : Nat}
  (H : Hp (KK w) s.heap (tnC w X T L kf q (.str ⟨#[92]⟩ t) (.str ⟨#[39]⟩ t1) (.int (Int.ofNat ln) t2) (.str tk t3) ts vs nt nw)) (hA : Fit A 34) (hl : (tk ++ ⟨#[92]⟩).length ≤ sizeLine)
  (next : ∀ h' tk' (t1' t2' t3' : Tok), Hp (KK w) h' (tnC w X T L kf true (.str ⟨#[92]⟩ t) (.str ⟨#[39]⟩ t1) (.int (Int.ofNat ln) t2) (.str (tk ++ ⟨#[92]⟩) t3') ts vs nt nw) → Kept s.heap h' (tnC w X T L kf q (.str ⟨#[92]⟩ t) (.str ⟨#[39]⟩ t1) (.int (Int.ofNat ln) t2) (.str tk t3) ts vs nt nw) → Q .next { s with heap := h', toks := tk' }) :
  wpC B (model PG w) A (execs (rtW w).tail (rtEnv w L)) Q E s := by
  refine start_bot 18 (hA.le (by omega)) (execsZ_eq _ _) ?_
  exact go_o (kNoLimit _) [(284, [], (orA addSX))] 24 18 (pl 0x430c30020000020020020000020430020800000800000810c00820000020000020430020800000800000810c00820000020000020410c00820000020000020430020800000800000810410410c00820000020000020430020800000800000810c00820000020000020430020800000800000810c0082000002000002041) (fun _ => .next) (fun _ => [okP ((tk ++ ⟨#[92]⟩).length ≤ sizeLine)]) (fun o z => (tnC _ X T L kf true (.str ⟨#[92]⟩ t) (.str ⟨#[39]⟩ t1) (.int (Int.ofNat ln) t2) (.str (tk ++ ⟨#[92]⟩) (o 0).1) ts vs nt nw)) 13 H (by exact byR w (fun w o => by kernel_rfl) (fun w o => by kernel_rfl)) (fun o p hp => by simp only [List.mem_cons, List.not_mem_nil, or_false] at hp; rcases hp with rfl; exact ⟨hl, rfl⟩) (fun h' tk' o z H' k' _ => next h' tk' 0 0 (o 0).1 H' k')
theorem tn_ap_ot {w : World} {T : Tp} {X : Lx} {L : Addr} {kf : Nat → Tok} {t t1 t2 t3 : Tok} {ln : Nat} {q : Bool} {tk : Str} {c : Nat}  {A : Around} {E : Value → Shared → Prop} {Q : Flow → Shared → Prop} {s : Shared} {ts vs : List Value} {nt nw : Nat}
  (H : Hp (KK w) s.heap (tnC w X T L kf q (.str ⟨#[c]⟩ t) (.str ⟨#[39]⟩ t1) (.int (Int.ofNat ln) t2) (.str tk t3) ts vs nt nw)) (hA : Fit A 34) (hc : InApo c) (hl : (tk ++ ⟨#[c]⟩).length ≤ sizeLine)
  (next : ∀ h' tk' (t1' t2' t3' : Tok), Hp (KK w) h' (tnC w X T L kf true (.str ⟨#[c]⟩ t) (.str ⟨#[39]⟩ t1) (.int (Int.ofNat ln) t2) (.str (tk ++ ⟨#[c]⟩) t3') ts vs nt nw) → Kept s.heap h' (tnC w X T L kf q (.str ⟨#[c]⟩ t) (.str ⟨#[39]⟩ t1) (.int (Int.ofNat ln) t2) (.str tk t3) ts vs nt nw) → Q .next { s with heap := h', toks := tk' }) :
  wpC B (model PG w) A (execs (rtW w).tail (rtEnv w L)) Q E s := by
  refine start_bot 18 (hA.le (by omega)) (execsZ_eq _ _) ?_
  exact go_o (kNoLimit _) [(6, [], (extA (eqSX false))), (160, [], (extA (eqSX false))), (43, [], (extA (hasSX false))), (24, [], (orA addSX))] 24 18 (pl 0x430c30020000020020020000020430020800000800000810c00820000020000020410c00820000020000020430020800000800000810410410c00820000020000020430020800000800000810c00820000020000020430020800000800000810c0082000002000002041) (fun _ => .next) (fun _ => [okP ((tk ++ ⟨#[c]⟩).length ≤ sizeLine), okP (hasS "\\" c = false), okP (((⟨#[c]⟩ : Str).cps.toList == (⟨#[39]⟩ : Str).cps.toList) = false), okP (((⟨#[c]⟩ : Str).cps.toList == ("\n" : Str).cps.toList) = false)]) (fun o z => (tnC _ X T L kf true (.str ⟨#[c]⟩ t) (.str ⟨#[39]⟩ t1) (.int (Int.ofNat ln) t2) (.str (tk ++ ⟨#[c]⟩) (o 3).1) ts vs nt nw)) 13 H (by exact byR w (fun w o => by kernel_rfl) (fun w o => by kernel_rfl)) (fun o p hp => by simp only [List.mem_cons, List.not_mem_nil, or_false] at hp; rcases hp with rfl | rfl | rfl | rfl; exact ⟨hl, rfl⟩; exact ⟨hc.es, rfl⟩; exact ⟨hc.ap, rfl⟩; exact ⟨hc.nl, rfl⟩) (fun h' tk' o z H' k' _ => next h' tk' 0 0 (o 3).1 H' k')
theorem tn_qu_qu {w : World} {T : Tp} {X : Lx} {L : Addr} {kf : Nat → Tok} {t t1 t2 t3 : Tok} {ln : Nat} {q : Bool} {tk : Str}   {A : Around} {E : Value → Shared → Prop} {Q : Flow → Shared → Prop} {s : Shared} {ts vs : List Value} {nt nw : Nat}
  (H : Hp (KK w) s.heap (tnC w X T L kf q (.str ⟨#[34]⟩ t) (.str ⟨#[34]⟩ t1) (.int (Int.ofNat ln) t2) (.str tk t3) ts vs nt nw)) (hA : Fit A 34) 
  (next : ∀ h' tk' (t1' t2' t3' : Tok), Hp (KK w) h' (tnC w X T L kf true (.str ⟨#[34]⟩ t) (.str "a" t1') (.int (Int.ofNat ln) t2) (.str tk t3) ts vs nt nw) → Kept s.heap h' (tnC w X T L kf q (.str ⟨#[34]⟩ t) (.str ⟨#[34]⟩ t1) (.int (Int.ofNat ln) t2) (.str tk t3) ts vs nt nw) → Q .next { s with heap := h', toks := tk' }) :
  wpC B (model PG w) A (execs (rtW w).tail (rtEnv w L)) Q E s := by
  refine start_bot 18 (hA.le (by omega)) (execsZ_eq _ _) ?_
  exact go_o (kNoLimit _) [] 221 18 (pl 0x10c30c00800000800800800000810c00820000020000020430020800000800000810410410c00820000020000020430020800000800000810c00820000020000020430020800000800000810c0082000002000002041) (fun _ => .next) (fun _ => []) (fun o z => (tnC _ X T L kf true (.str ⟨#[34]⟩ t) (.str "a" (tokD z 2 11)) (.int (Int.ofNat ln) t2) (.str tk t3) ts vs nt nw)) 13 H (by exact byR w (fun w o => by kernel_rfl) (fun w o => by kernel_rfl)) (fun o p hp => absurd hp List.not_mem_nil) (fun h' tk' o z H' k' _ => next h' tk' _ 0 0 H' k')
theorem tn_qu_ap {w : World} {T : Tp} {X : Lx} {L : Addr} {kf : Nat → Tok} {t t1 t2 t3 : Tok} {ln : Nat} {q : Bool} {tk : Str}   {A : Around} {E : Value → Shared → Prop} {Q : Flow → Shared → Prop} {s : Shared} {ts vs : List Value} {nt nw : Nat}
  (H : Hp (KK w) s.heap (tnC w X T L kf q (.str ⟨#[39]⟩ t) (.str ⟨#[34]⟩ t1) (.int (Int.ofNat ln) t2) (.str tk t3) ts vs nt nw)) (hA : Fit A 34) (hl : (tk ++ ⟨#[39]⟩).length ≤ sizeLine)
  (next : ∀ h' tk' (t1' t2' t3' : Tok), Hp (KK w) h' (tnC w X T L kf true (.str ⟨#[39]⟩ t) (.str ⟨#[34]⟩ t1) (.int (Int.ofNat ln) t2) (.str (tk ++ ⟨#[39]⟩) t3') ts vs nt nw) → Kept s.heap h' (tnC w X T L kf q (.str ⟨#[39]⟩ t) (.str ⟨#[34]⟩ t1) (.int (Int.ofNat ln) t2) (.str tk t3) ts vs nt nw) → Q .next { s with heap := h', toks := tk' }) :
  wpC B (model PG w) A (execs (rtW w).tail (rtEnv w L)) Q E s := by
  refine start_bot 18 (hA.le (by omega)) (execsZ_eq _ _) ?_
  exact go_o (kNoLimit _) [(242, [], (orA addSX))] 24 18 (pl 0x430c30020000020020020000020430020800000800000810c00820000020000020410c00820000020000020430020800000800000810410410c00820000020000020430020800000800000810c00820000020000020430020800000800000810c0082000002000002041) (fun _ => .next) (fun _ => [okP ((tk ++ ⟨#[39]⟩).length ≤ sizeLine)]) (fun o z => (tnC _ X T L kf true (.str ⟨#[39]⟩ t) (.str ⟨#[34]⟩ t1) (.int (Int.ofNat ln) t2) (.str (tk ++ ⟨#[39]⟩) (o 0).1) ts vs nt nw)) 13 H (by exact byR w (fun w o => by kernel_rfl) (fun w o => by kernel_rfl)) (fun o p hp => by simp only [List.mem_cons, List.not_mem_nil, or_false] at hp; rcases hp with rfl; exact ⟨hl, rfl⟩) (fun h' tk' o z H' k' _ => next h' tk' 0 0 (o 0).1 H' k')
theorem tn_no_no {w : World} {T : Tp} {X : Lx} {L : Addr} {kf : Nat → Tok} {t t1 t2 t3 : Tok} {ln : Nat} {q : Bool} {tk : Str}   {A : Around} {E : Value → Shared → Prop} {Q : Flow → Shared → Prop} {s : Shared} {ts vs : List Value} {nt nw : Nat}
  (H : Hp (KK w) s.heap (tnC w X T L kf q (.str ⟨#[]⟩ t) (.none) (.int (Int.ofNat ln) t2) (.str tk t3) ts vs nt nw)) (hA : Fit A 34) 
  (next : ∀ h' tk' (t1' t2' t3' : Tok), Hp (KK w) h' (tnC w X T L kf q (.str ⟨#[]⟩ t) (.none) (.int (Int.ofNat ln) t2) (.str ⟨⟨[]⟩⟩ t3') ts vs nt nw) → Kept s.heap h' (tnC w X T L kf q (.str ⟨#[]⟩ t) (.none) (.int (Int.ofNat ln) t2) (.str tk t3) ts vs nt nw) → Q .brk { s with heap := h', toks := tk' }) :
  wpC B (model PG w) A (execs (rtW w).tail (rtEnv w L)) Q E s := by
  refine start_bot 18 (hA.le (by omega)) (execsZ_eq _ _) ?_
  exact go_o (kNoLimit _) [] 85 18 (pl 0x430c30020000020020020000020430020800000800000810c0082000002000002041) (fun _ => .brk) (fun _ => []) (fun o z => (tnC _ X T L kf q (.str ⟨#[]⟩ t) (.none) (.int (Int.ofNat ln) t2) (.str ⟨⟨[]⟩⟩ (tokD z 2 15)) ts vs nt nw)) 13 H (by exact byR w (fun w o => by kernel_rfl) (fun w o => by kernel_rfl)) (fun o p hp => absurd hp List.not_mem_nil) (fun h' tk' o z H' k' _ => next h' tk' 0 0 _ H' k')
end Mine
end PTN
section PF2
open PySem PySem.W PyProof.Rows PySem.Calls
set_option maxHeartbeats 0
namespace Mine
variable {B : Bool}
noncomputable def hdC (w : World) (X : Lx) (T : Tp) (L : Addr) (kf : Nat → Tok) (q : Bool) (o : Option Value) (st ln tok : Value) (ts vs : List Value) (nt nw : Nat) : Cells := (L, frC w.params kf X.x q o) :: lxC w X T.rd st ln tok ++ tpC w T ts vs nt nw
theorem turn_read {w : World} {T : Tp} (hR : ReadCtr B w T) {X : Lx} {L : Addr} {kf : Nat → Tok} {st ln tok : Value} {q : Bool} {o : Option Value} {A : Around} {Q : Flow → Shared → Prop} {E : Value → Shared → Prop} {s : Shared} {p : Nat} {ts vs : List Value} {nt nw : Nat}
  (H : Hp (KK w) s.heap (hdC w X T L kf q o st ln tok ts vs nt nw)) (hA : Fit A 34) (hT : TpAt T p ts vs) (hp : p ≤ T.cs.length)
  (next : ∀ h' tk' ts' vs' nt' nw' kf' nc t, Hp (KK w) h' (tnC w X T L kf' q (.str nc t) st ln tok ts' vs' nt' nw') → Kept s.heap h' (hdC w X T L kf q o st ln tok ts vs nt nw) →
    ((∃ (hp : p < T.cs.length), TpAt T (p + 1) ts' vs' ∧ nc = ⟨#[T.cs[p]]⟩) ∨ (p = T.cs.length ∧ TpAt T p ts' vs' ∧ nc = ⟨#[]⟩)) →
    wpC B (model PG w) A (execs (rtW w).tail (rtEnv w L)) Q E { s with heap := h', toks := tk' }) :
  wpC B (model PG w) A (execs (rtW w) (rtEnv w L)) Q E s := by
  rw [show rtW w = hdS (rtW w) :: (rtW w).tail by kernel_rfl]
  refine execs_one (start_bot 34 hA (execsZ_eq _ _) ?_)
  cases o with
  | none =>
    refine go_call (kNoLimit w) 400 34 (pl 0x11851041041041040c008200000200000204300208000008000008e38e000000000000000000080000081) (c := .call (.ref T.rd) ⟨[.int 1 (s.toks + 7)], []⟩) (cs' := hdC w X T L kf q none st ln tok ts vs nt nw ++ [(s.heap.objs.size + 0, frmO [ent w.params "self" (s.toks + 1) (.ref X.x)] 1)]) (n' := 1) (tk' := s.toks + 8) (rm' := 34)
      (P := fun h' v h'' => ∃ ts' vs' nt' nw', Hp (KK w) h'' (tpC w T ts' vs' nt' nw') ∧ Kept h' h'' (tpC w T ts vs nt nw) ∧
        ((∃ (hp : p < T.cs.length), TpAt T (p + 1) ts' vs' ∧ ∃ t, v = .str ⟨#[T.cs[p]]⟩ t) ∨ (p = T.cs.length ∧ TpAt T p ts' vs' ∧ ∃ t, v = .str ⟨#[]⟩ t)))
      H (by kernel_rfl) (by kernel_rfl) (by kernel_rfl) (by kernel_rfl) (by kernel_rfl) (by kernel_rfl) ?_ ?_
    · intro h' W
      exact (hR _ p ts vs nt nw _ (Hp.right (a := _ :: lxC w X T.rd st ln tok) W.hp.left) hT hp).mono (by decide)
    · rintro h' W v h'' tk'' ⟨ts', vs', nt', nw', H', k', hv⟩
      have H2 : Hp (KK w) h'' (hdC w X T L kf q none st ln tok ts' vs' nt' nw') := Hp.glue (a := _ :: lxC w X T.rd st ln tok) W.hp.left k' H' rfl
      have kA : Kept s.heap h'' (hdC w X T L kf q none st ln tok ts vs nt nw) := W.on (k'.more fun b hb => by
        rw [List.map_append]
        refine List.mem_append_left _ ?_
        show b ∈ ((_ :: lxC w X T.rd st ln tok) ++ tpC w T ts vs nt nw).map (·.1)
        rw [List.map_append]
        exact List.mem_append_right _ hb)
      obtain ⟨nc, t, rfl⟩ : ∃ nc t, v = .str nc t := by
        rcases hv with ⟨_, _, t, e⟩ | ⟨_, _, t, e⟩ <;> exact ⟨_, _, e⟩
      refine go_end (kNoLimit w) 8 _ (pl 0x1041) (v := Flow.next) (C := fun z => tnC w X T L (fun i => if i = 4 then tokK z 0 3 else kf i) q (.str nc t) st ln tok ts' vs' nt' nw') 13 H2 (by kernel_rfl) (by kernel_rfl) (by kernel_rfl) fun h3 tk3 H3 k3 => ?_
      refine next h3 tk3 ts' vs' nt' nw' _ nc t H3 (kA.trans k3 fun b _ hb => hb) ?_
      rcases hv with ⟨hp, a, t, e⟩ | ⟨hp, a, t, e⟩
      · cases e; exact .inl ⟨hp, a, rfl⟩
      · cases e; exact .inr ⟨hp, a, rfl⟩
  | some nc0 =>
    refine go_call (kNoLimit w) 400 34 (pl 0x11851041041041040c008200000200000204300208000008000008e38e000000000000000000080000081) (c := .call (.ref T.rd) ⟨[.int 1 (s.toks + 7)], []⟩) (cs' := hdC w X T L kf q (some nc0) st ln tok ts vs nt nw ++ [(s.heap.objs.size + 0, frmO [ent w.params "self" (s.toks + 1) (.ref X.x)] 1)]) (n' := 1) (tk' := s.toks + 8) (rm' := 34)
      (P := fun h' v h'' => ∃ ts' vs' nt' nw', Hp (KK w) h'' (tpC w T ts' vs' nt' nw') ∧ Kept h' h'' (tpC w T ts vs nt nw) ∧
        ((∃ (hp : p < T.cs.length), TpAt T (p + 1) ts' vs' ∧ ∃ t, v = .str ⟨#[T.cs[p]]⟩ t) ∨ (p = T.cs.length ∧ TpAt T p ts' vs' ∧ ∃ t, v = .str ⟨#[]⟩ t)))
      H (by kernel_rfl) (by kernel_rfl) (by kernel_rfl) (by kernel_rfl) (by kernel_rfl) (by kernel_rfl) ?_ ?_
    · intro h' W
      exact (hR _ p ts vs nt nw _ (Hp.right (a := _ :: lxC w X T.rd st ln tok) W.hp.left) hT hp).mono (by decide)
    · rintro h' W v h'' tk'' ⟨ts', vs', nt', nw', H', k', hv⟩
      have H2 : Hp (KK w) h'' (hdC w X T L kf q (some nc0) st ln tok ts' vs' nt' nw') := Hp.glue (a := _ :: lxC w X T.rd st ln tok) W.hp.left k' H' rfl
      have kA : Kept s.heap h'' (hdC w X T L kf q (some nc0) st ln tok ts vs nt nw) := W.on (k'.more fun b hb => by
        rw [List.map_append]
        refine List.mem_append_left _ ?_
        show b ∈ ((_ :: lxC w X T.rd st ln tok) ++ tpC w T ts vs nt nw).map (·.1)
        rw [List.map_append]
        exact List.mem_append_right _ hb)
      obtain ⟨nc, t, rfl⟩ : ∃ nc t, v = .str nc t := by
        rcases hv with ⟨_, _, t, e⟩ | ⟨_, _, t, e⟩ <;> exact ⟨_, _, e⟩
      refine go_end (kNoLimit w) 8 _ (pl 0x1041) (v := Flow.next) (C := fun z => tnC w X T L (fun i => if i = 4 then tokK z 0 3 else kf i) q (.str nc t) st ln tok ts' vs' nt' nw') 13 H2 (by kernel_rfl) (by kernel_rfl) (by kernel_rfl) fun h3 tk3 H3 k3 => ?_
      refine next h3 tk3 ts' vs' nt' nw' _ nc t H3 (kA.trans k3 fun b _ hb => hb) ?_
      rcases hv with ⟨hp, a, t, e⟩ | ⟨hp, a, t, e⟩
      · cases e; exact .inl ⟨hp, a, rfl⟩
      · cases e; exact .inr ⟨hp, a, rfl⟩
end Mine
end PF2
section PRT
open PySem PySem.W PyProof.Rows PySem.Calls
open PySem.Builtin.Str (occurrences)
set_option maxHeartbeats 0
namespace Mine
variable {B : Bool}
inductive Ls where
  | bl | wd | ap | qu | no
noncomputable def Ls.val : Ls → Tok → Value
  | .bl, t => .str " " t
  | .wd, t => .str "a" t
  | .ap, t => .str ⟨#[39]⟩ t
  | .qu, t => .str ⟨#[34]⟩ t
  | .no, _ => .none
noncomputable def safeL : List Nat := [97, 98, 99, 100, 101, 102, 103, 104, 105, 106, 107, 108, 109, 110, 111, 112, 113, 114, 115, 116, 117, 118, 119, 120, 121, 122, 65, 66, 67, 68, 69, 70, 71, 72, 73, 74, 75, 76, 77, 78, 79, 80, 81, 82, 83, 84, 85, 86, 87, 88, 89, 90, 48, 49, 50, 51, 52, 53, 54, 55, 56, 57, 95, 64, 37, 43, 61, 58, 44, 46, 47, 45]
noncomputable def scan : List Nat → Bool → Ls → List Nat → Option (Bool × Ls × List Nat × List Nat)
  | [], q, .bl, tok => if tok = [] ∧ q = false then some (q, .no, tok, []) else none
  | [], q, .wd, tok => some (q, .no, tok, [])
  | [], q, .no, _ => some (q, .no, [], [])
  | [], _, .ap, _ => none
  | [], _, .qu, _ => none
  | c :: r, q, .bl, tok => if tok = [] ∧ q = false then (if c = 32 then scan r q .bl tok else if c = 39 then scan r q .ap tok else if c ∈ safeL then scan r q .wd [c] else none) else none
  | c :: r, q, .wd, tok => if c = 32 then (if tok = [] ∧ q = false then none else some (q, .bl, tok, r)) else if c = 39 then scan r q .ap tok else if c = 34 then scan r q .qu tok else if c ∈ safeL then scan r q .wd (tok ++ [c]) else none
  | c :: r, q, .ap, tok => if c = 39 then scan r true .wd tok else scan r true .ap (tok ++ [c])
  | c :: r, q, .qu, tok => if c = 34 then scan r true .wd tok else if c = 39 then scan r true .qu (tok ++ [39]) else none
  | _ :: _, _, .no, _ => none
theorem app_str (l : List Nat) (c : Nat) : (⟨⟨l⟩⟩ : Str) ++ ⟨#[c]⟩ = ⟨⟨l ++ [c]⟩⟩ := by
  show Str.mk _ = _
  simp
theorem safe_all : (safeL.all fun c => !([c] == [10]) && !hasS " \t\r\n" c && !hasS "" c && !hasS "'\"" c && !hasS "\\" c) = true := by decide +kernel
theorem safe_is {c : Nat} (h : c ∈ safeL) : SafeS c := by
  have := List.all_eq_true.mp safe_all c h
  simp only [Bool.and_eq_true, Bool.not_eq_true'] at this
  exact ⟨this.1.1.1.1, this.1.1.1.2, this.1.1.2, this.1.2, this.2⟩
theorem apo_all : ((List.range 256).all fun c => c == 10 || c == 39 || c == 92 || (!([c] == [10]) && !([c] == [39]) && !hasS "\\" c)) = true := by decide +kernel
theorem apo_is {c : Nat} (h : c < 256) (h1 : c ≠ 10) (h2 : c ≠ 39) (h3 : c ≠ 92) : InApo c := by
  have := List.all_eq_true.mp apo_all c (List.mem_range.mpr h)
  simp only [Bool.or_eq_true, beq_iff_eq, h1, h2, h3, false_or, Bool.and_eq_true, Bool.not_eq_true'] at this
  exact ⟨this.1.1, this.1.2, this.2⟩
noncomputable def whT : List Stmt → PySem.Expr | .While t _ _ _ :: _ => t | _ => default
noncomputable def whE : List Stmt → List Stmt | .While _ _ e _ :: _ => e | _ => []
noncomputable def whP : List Stmt → Pos | .While _ _ _ p :: _ => p | _ => default
noncomputable def rtLp (w : World) : List Stmt := (stmtsOf (fdOf (KK w) 707)).drop 2
theorem drop_cons {l : List Nat} {p : Nat} (h : p < l.length) : l.drop p = l[p] :: l.drop (p + 1) := List.drop_eq_getElem_cons h
inductive RtI (w : World) (T : Tp) (X : Lx) (L : Addr) (s : Shared) (C0 : Cells) (q' : Bool) (st' : Ls) (tok' rest : List Nat) (n : Nat) (s' : Shared) : Prop
  | mk (h' : Heap) (tk' p : Nat) (q : Bool) (st : Ls) (tok : List Nat) (ln : Nat) (kf : Nat → Tok) (o : Option Value) (t1 t2 t3 : Tok) (ts vs : List Value) (nt nw : Nat) (e : s' = { s with heap := h', toks := tk' }) (hn : n = T.cs.length - p) (hp : p ≤ T.cs.length)
    (H : Hp (KK w) h' (hdC w X T L kf q o (Ls.val st t1) (.int (Int.ofNat ln) t2) (.str ⟨⟨tok⟩⟩ t3) ts vs nt nw)) (hT : TpAt T p ts vs) (hs : scan (T.cs.drop p) q st tok = some (q', st', tok', rest)) (hk : Kept s.heap h' C0) (hl : tok.length + (T.cs.length - p) ≤ sizeLine)
theorem rt_loop {w : World} {T : Tp} (hR : ReadCtr B w T) {X : Lx} {L : Addr} {kf : Nat → Tok} {A : Around} {Q : Flow → Shared → Prop} {s : Shared} {p : Nat} {ts vs : List Value} {nt nw : Nat} {st : Ls} {t1 t2 t3 : Tok} {ln : Nat} {q' : Bool} {st' : Ls} {tok' rest : List Nat}
  (H : Hp (KK w) s.heap (hdC w X T L kf false none (st.val t1) (.int (Int.ofNat ln) t2) (.str ⟨⟨[]⟩⟩ t3) ts vs nt nw)) (hA : Fit A 34) (hT : TpAt T p ts vs) (hp : p ≤ T.cs.length)
  (h256 : ∀ c ∈ T.cs, c < 256) (hlen : T.cs.length ≤ sizeLine) (hs : scan (T.cs.drop p) false st [] = some (q', st', tok', rest))
  (next : ∀ h' tk' ts' vs' nt' nw' kf' nc t t1' t2' t3' ln' p', Hp (KK w) h' (tnC w X T L kf' q' (.str nc t) (st'.val t1') (.int (Int.ofNat ln') t2') (.str ⟨⟨tok'⟩⟩ t3') ts' vs' nt' nw') →
    Kept s.heap h' (hdC w X T L kf false none (st.val t1) (.int (Int.ofNat ln) t2) (.str ⟨⟨[]⟩⟩ t3) ts vs nt nw) → TpAt T p' ts' vs' → p' ≤ T.cs.length → T.cs.drop p' = rest → Q .next { s with heap := h', toks := tk' }) :
  wpC B (model PG w) A (exec (.While (whT (rtLp w)) (rtW w) (whE (rtLp w)) (whP (rtLp w))) (rtEnv w L)) Q (fun _ _ => False) s := by
  refine wpC_While (codeC_whileLoop (RtI w T X L s (hdC w X T L kf false none (st.val t1) (.int (Int.ofNat ln) t2) (.str ⟨⟨[]⟩⟩ t3) ts vs nt nw) q' st' tok' rest) ?_ (T.cs.length - p)
    ⟨s.heap, s.toks, p, false, st, [], ln, kf, none, t1, t2, t3, ts, vs, nt, nw, rfl, rfl, hp, H, hT, hs, Kept.refl _ _, by simp; omega⟩)
  clear hs hT hp H
  rintro n s' ⟨h1, tk1, p, q, st1, tok, ln, kf, o, t1, t2, t3, ts, vs, nt, nw, rfl, hn, hp, H, hT, hs, hk, hl⟩
  refine start_bot 18 (hA.le (by omega)) (testZ_eq _ _) ?_
  refine go_end (kNoLimit w) 20 18 (pl 0x1) (v := true) (C := fun _ => hdC w X T L kf q o (Ls.val st1 t1) (.int (Int.ofNat ln) t2) (.str ⟨⟨tok⟩⟩ t3) ts vs nt nw) 13 H (by kernel_rfl) (by kernel_rfl) (by kernel_rfl) fun h2 tk2 H2 k2 => ?_
  rw [if_pos rfl]
  refine turn_read hR H2 hA hT hp fun h3 tk3 ts3 vs3 nt3 nw3 kf3 nc t H3 k3 hv => ?_
  have K3 : Kept s.heap h3 (hdC w X T L kf false none (st.val t1) (.int (Int.ofNat ln) t2) (.str ⟨⟨[]⟩⟩ t3) ts vs nt nw) := (hk.trans k2 fun b _ hb => hb).trans k3 fun b _ hb => hb
  have K4 : ∀ h4, Kept h3 h4 (tnC w X T L kf3 q (.str nc t) (st1.val t1) (.int (Int.ofNat ln) t2) (.str ⟨⟨tok⟩⟩ t3) ts3 vs3 nt3 nw3) → Kept s.heap h4 (hdC w X T L kf false none (st.val t1) (.int (Int.ofNat ln) t2) (.str ⟨⟨[]⟩⟩ t3) ts vs nt nw) := fun h4 k => K3.trans k fun b _ hb => hb
  rcases hv with ⟨hp1, hT3, rfl⟩ | ⟨hpe, hT3, rfl⟩
  · rw [drop_cons hp1] at hs
    have hc := h256 _ (List.getElem_mem hp1)
    have hr : T.cs.drop (p + 1) = T.cs.drop (p + 1) := rfl
    generalize T.cs[p] = c at hs H3 K4 hc
    have ha : ((⟨⟨tok⟩⟩ : Str) ++ ⟨#[c]⟩).length ≤ sizeLine := by rw [app_str]; show (tok ++ [c]).length ≤ _; rw [List.length_append]; simp only [List.length_cons, List.length_nil]; omega
    cases st1 with
    | bl =>
      simp only [scan] at hs
      split at hs
      · rename_i h0
        obtain ⟨rfl, rfl⟩ := h0
        split at hs
        · rename_i h32
          subst h32
          refine tn_bl_sp H3 hA fun h4 tk4 a b d H4 k4 => ?_
          exact ⟨T.cs.length - (p + 1), by omega, h4, tk4, p + 1, false, Ls.bl, [], ln, kf3, some _, t1, t2, t3, ts3, vs3, nt3, nw3, rfl, rfl, hp1, H4, hT3, hs, K4 h4 k4, by (try simp only [List.length_append, List.length_cons, List.length_nil] at hl ⊢); omega⟩
        · split at hs
          · rename_i h39
            subst h39
            refine tn_bl_ap H3 hA fun h4 tk4 a b d H4 k4 => ?_
            exact ⟨T.cs.length - (p + 1), by omega, h4, tk4, p + 1, false, Ls.ap, [], ln, kf3, some _, t, t2, t3, ts3, vs3, nt3, nw3, rfl, rfl, hp1, H4, hT3, hs, K4 h4 k4, by (try simp only [List.length_append, List.length_cons, List.length_nil] at hl ⊢); omega⟩
          · split at hs
            · rename_i hsafe
              cases hw : hasS wordC c with
              | true =>
                refine tn_bl_wd H3 hA (safe_is hsafe) hw fun h4 tk4 a b d H4 k4 => ?_
                exact ⟨T.cs.length - (p + 1), by omega, h4, tk4, p + 1, false, Ls.wd, [c], ln, kf3, some _, a, t2, t, ts3, vs3, nt3, nw3, rfl, rfl, hp1, H4, hT3, hs, K4 h4 k4, by (try simp only [List.length_append, List.length_cons, List.length_nil] at hl ⊢); omega⟩
              | false =>
                refine tn_bl_ot H3 hA (safe_is hsafe) hw fun h4 tk4 a b d H4 k4 => ?_
                exact ⟨T.cs.length - (p + 1), by omega, h4, tk4, p + 1, false, Ls.wd, [c], ln, kf3, some _, a, t2, t, ts3, vs3, nt3, nw3, rfl, rfl, hp1, H4, hT3, hs, K4 h4 k4, by (try simp only [List.length_append, List.length_cons, List.length_nil] at hl ⊢); omega⟩
            · cases hs
      · cases hs
    | wd =>
      simp only [scan] at hs
      split at hs
      · rename_i h32
        subst h32
        split at hs
        · cases hs
        · rename_i h0
          cases hs
          cases tok' with
          | nil =>
            have hq : q' = true := by
              cases q' with
              | true => rfl
              | false => exact absurd ⟨rfl, rfl⟩ h0
            subst hq
            refine tn_wd_sp2 H3 hA fun h4 tk4 a b d H4 k4 => ?_
            exact next h4 tk4 ts3 vs3 nt3 nw3 kf3 _ t a t2 t3 ln (p + 1) H4 (K4 h4 k4) hT3 hp1 rfl
          | cons v l =>
            refine tn_wd_sp1 H3 hA (by show (v :: l).length ≤ sizeLine; omega) fun h4 tk4 a b d H4 k4 => ?_
            exact next h4 tk4 ts3 vs3 nt3 nw3 kf3 _ t a t2 t3 ln (p + 1) H4 (K4 h4 k4) hT3 hp1 rfl
      · split at hs
        · rename_i h39
          subst h39
          refine tn_wd_ap H3 hA fun h4 tk4 a b d H4 k4 => ?_
          exact ⟨T.cs.length - (p + 1), by omega, h4, tk4, p + 1, q, Ls.ap, tok, ln, kf3, some _, t, t2, t3, ts3, vs3, nt3, nw3, rfl, rfl, hp1, H4, hT3, hs, K4 h4 k4, by (try simp only [List.length_append, List.length_cons, List.length_nil] at hl ⊢); omega⟩
        · split at hs
          · rename_i h34
            subst h34
            refine tn_wd_qu H3 hA fun h4 tk4 a b d H4 k4 => ?_
            exact ⟨T.cs.length - (p + 1), by omega, h4, tk4, p + 1, q, Ls.qu, tok, ln, kf3, some _, t, t2, t3, ts3, vs3, nt3, nw3, rfl, rfl, hp1, H4, hT3, hs, K4 h4 k4, by (try simp only [List.length_append, List.length_cons, List.length_nil] at hl ⊢); omega⟩
          · split at hs
            · rename_i hsafe
              cases hw : hasS wordC c with
              | true =>
                refine tn_wd_wd H3 hA (safe_is hsafe) hw ha fun h4 tk4 a b d H4 k4 => ?_
                rw [app_str] at H4
                exact ⟨T.cs.length - (p + 1), by omega, h4, tk4, p + 1, q, Ls.wd, (tok ++ [c]), ln, kf3, some _, t1, t2, d, ts3, vs3, nt3, nw3, rfl, rfl, hp1, H4, hT3, hs, K4 h4 k4, by (try simp only [List.length_append, List.length_cons, List.length_nil] at hl ⊢); omega⟩
              | false =>
                refine tn_wd_ot H3 hA (safe_is hsafe) hw ha fun h4 tk4 a b d H4 k4 => ?_
                rw [app_str] at H4
                exact ⟨T.cs.length - (p + 1), by omega, h4, tk4, p + 1, q, Ls.wd, (tok ++ [c]), ln, kf3, some _, t1, t2, d, ts3, vs3, nt3, nw3, rfl, rfl, hp1, H4, hT3, hs, K4 h4 k4, by (try simp only [List.length_append, List.length_cons, List.length_nil] at hl ⊢); omega⟩
            · cases hs
    | ap =>
      simp only [scan] at hs
      split at hs
      · rename_i h39
        subst h39
        refine tn_ap_ap H3 hA fun h4 tk4 a b d H4 k4 => ?_
        exact ⟨T.cs.length - (p + 1), by omega, h4, tk4, p + 1, true, Ls.wd, tok, ln, kf3, some _, a, t2, t3, ts3, vs3, nt3, nw3, rfl, rfl, hp1, H4, hT3, hs, K4 h4 k4, by (try simp only [List.length_append, List.length_cons, List.length_nil] at hl ⊢); omega⟩
      · rename_i h39
        by_cases h10 : c = 10
        · subst h10
          refine tn_ap_nl H3 hA ha fun h4 tk4 a b d H4 k4 => ?_
          rw [app_str] at H4
          exact ⟨T.cs.length - (p + 1), by omega, h4, tk4, p + 1, true, Ls.ap, (tok ++ [10]), ln + 1, kf3, some _, t1, b, d, ts3, vs3, nt3, nw3, rfl, rfl, hp1, H4, hT3, hs, K4 h4 k4, by (try simp only [List.length_append, List.length_cons, List.length_nil] at hl ⊢); omega⟩
        · by_cases h92 : c = 92
          · subst h92
            refine tn_ap_bs H3 hA ha fun h4 tk4 a b d H4 k4 => ?_
            rw [app_str] at H4
            exact ⟨T.cs.length - (p + 1), by omega, h4, tk4, p + 1, true, Ls.ap, (tok ++ [92]), ln, kf3, some _, t1, t2, d, ts3, vs3, nt3, nw3, rfl, rfl, hp1, H4, hT3, hs, K4 h4 k4, by (try simp only [List.length_append, List.length_cons, List.length_nil] at hl ⊢); omega⟩
          · refine tn_ap_ot H3 hA (apo_is hc h10 h39 h92) ha fun h4 tk4 a b d H4 k4 => ?_
            rw [app_str] at H4
            exact ⟨T.cs.length - (p + 1), by omega, h4, tk4, p + 1, true, Ls.ap, (tok ++ [c]), ln, kf3, some _, t1, t2, d, ts3, vs3, nt3, nw3, rfl, rfl, hp1, H4, hT3, hs, K4 h4 k4, by (try simp only [List.length_append, List.length_cons, List.length_nil] at hl ⊢); omega⟩
    | qu =>
      simp only [scan] at hs
      split at hs
      · rename_i h34
        subst h34
        refine tn_qu_qu H3 hA fun h4 tk4 a b d H4 k4 => ?_
        exact ⟨T.cs.length - (p + 1), by omega, h4, tk4, p + 1, true, Ls.wd, tok, ln, kf3, some _, a, t2, t3, ts3, vs3, nt3, nw3, rfl, rfl, hp1, H4, hT3, hs, K4 h4 k4, by (try simp only [List.length_append, List.length_cons, List.length_nil] at hl ⊢); omega⟩
      · split at hs
        · rename_i h39
          subst h39
          refine tn_qu_ap H3 hA ha fun h4 tk4 a b d H4 k4 => ?_
          rw [app_str] at H4
          exact ⟨T.cs.length - (p + 1), by omega, h4, tk4, p + 1, true, Ls.qu, (tok ++ [39]), ln, kf3, some _, t1, t2, d, ts3, vs3, nt3, nw3, rfl, rfl, hp1, H4, hT3, hs, K4 h4 k4, by (try simp only [List.length_append, List.length_cons, List.length_nil] at hl ⊢); omega⟩
        · cases hs
    | no => simp only [scan] at hs; cases hs
  · have hd : T.cs.drop p = [] := by rw [hpe]; exact List.drop_length
    rw [hd] at hs
    cases st1 with
    | bl =>
      simp only [scan] at hs
      split at hs
      · rename_i h0
        obtain ⟨rfl, rfl⟩ := h0
        cases hs
        refine tn_bl_no H3 hA fun h4 tk4 a b d H4 k4 => ?_
        exact next h4 tk4 ts3 vs3 nt3 nw3 kf3 _ t 0 t2 t3 ln p H4 (K4 h4 k4) hT3 hp hd
      · cases hs
    | wd =>
      simp only [scan] at hs
      cases hs
      refine tn_wd_no H3 hA fun h4 tk4 a b d H4 k4 => ?_
      exact next h4 tk4 ts3 vs3 nt3 nw3 kf3 _ t 0 t2 t3 ln p H4 (K4 h4 k4) hT3 hp hd
    | no =>
      simp only [scan] at hs
      cases hs
      refine tn_no_no (t1 := 0) H3 hA fun h4 tk4 a b d H4 k4 => ?_
      exact next h4 tk4 ts3 vs3 nt3 nw3 kf3 _ t 0 t2 d ln p H4 (K4 h4 k4) hT3 hp hd
    | ap => simp only [scan] at hs; cases hs
    | qu => simp only [scan] at hs; cases hs
end Mine
end PRT
section PRC
open PySem PySem.W PyProof.Rows PySem.Calls
set_option maxHeartbeats 0
namespace Mine
variable {B : Bool}
theorem Hp.tl {K : Sta} {h : Heap} {x : Addr × Obj} {a : Cells} (H : Hp K h (x :: a)) : Hp K h a := H.sub (fun p hp => List.mem_cons_of_mem _ hp) (List.nodup_cons.mp H.nd).2
noncomputable def lxT (w : World) (X : Lx) (T : Tp) (st ln tok : Value) (ts vs : List Value) (nt nw : Nat) : Cells := lxC w X T.rd st ln tok ++ tpC w T ts vs nt nw
noncomputable def rtVal (q : Bool) (tok : List Nat) (t : Tok) : Value := if tok = [] ∧ q = false then .none else .str ⟨⟨tok⟩⟩ t
noncomputable def rtB (w : World) : List Stmt := stmtsOf (fdOf (KK w) 707)
inductive RtPost (w : World) (X : Lx) (T : Tp) (q' : Bool) (st' : Ls) (tok' rest : List Nat) (h0 : Heap) (cs0 : Cells) (v : Value) (h' : Heap) : Prop
  | mk (ts' vs' : List Value) (nt' nw' : Nat) (t t1 t2 t3 : Tok) (ln p' : Nat) (H : Hp (KK w) h' (lxT w X T (Ls.val st' t1) (.int (Int.ofNat ln) t2) (.str ⟨⟨[]⟩⟩ t3) ts' vs' nt' nw')) (q : Kept h0 h' cs0) (hT : TpAt T p' ts' vs') (hp : p' ≤ T.cs.length) (hr : T.cs.drop p' = rest) (hv : v = rtVal q' tok' t)
theorem rt_tail {w : World} {T : Tp} {X : Lx} {L : Addr} {kf : Nat → Tok} {A : Around} {Q : Flow → Shared → Prop} {E : Value → Shared → Prop} {s : Shared} {nc : Str} {t t1 t2 t3 : Tok} {ln : Nat} {ts vs : List Value} {nt nw : Nat} {q : Bool} {st : Ls} {tok : List Nat}
  (H : Hp (KK w) s.heap (tnC w X T L kf q (.str nc t) (st.val t1) (.int (Int.ofNat ln) t2) (.str ⟨⟨tok⟩⟩ t3) ts vs nt nw)) (hA : Fit A 34)
  (next : ∀ h' tk' t3' t', Hp (KK w) h' (lxT w X T (st.val t1) (.int (Int.ofNat ln) t2) (.str ⟨⟨[]⟩⟩ t3') ts vs nt nw) → Kept s.heap h' (tnC w X T L kf q (.str nc t) (st.val t1) (.int (Int.ofNat ln) t2) (.str ⟨⟨tok⟩⟩ t3) ts vs nt nw) → Q (.ret (rtVal q tok t')) { s with heap := h', toks := tk' }) :
  wpC B (model PG w) A (execs ((rtB w).drop 3) (rtEnv w L)) Q E s := by
  refine start_bot 18 (hA.le (by omega)) (execsZ_eq _ _) ?_
  cases tok with
  | nil =>
    cases q with
    | true =>
      exact go_end (kNoLimit _) 108 18 (pl 0x410c00820000020000020410c00820000020000020430c3002000002002002000002041043002080000080000081) (v := .ret (.str ⟨⟨[]⟩⟩ t3)) (C := fun z => ((z.getD 0 default).1, (z.getD 0 default).2) :: lxT _ X T (st.val t1) (.int (Int.ofNat ln) t2) (.str ⟨⟨[]⟩⟩ (tokD z 2 15)) ts vs nt nw) 13 H (by exact byR w (fun w => by kernel_rfl) (fun w => by kernel_rfl)) (by exact byR w (fun w => by kernel_rfl) (fun w => by kernel_rfl)) (by exact byR w (fun w => by kernel_rfl) (fun w => by kernel_rfl)) (fun h' tk' H' k' => next h' tk' _ t3 (Hp.tl H') k')
    | false =>
      exact go_end (kNoLimit _) 124 18 (pl 0x10430020800000800000810410410c00820000020000020430c3002000002002002000002041043002080000080000081) (v := .ret .none) (C := fun z => ((z.getD 0 default).1, (z.getD 0 default).2) :: lxT _ X T (st.val t1) (.int (Int.ofNat ln) t2) (.str ⟨⟨[]⟩⟩ (tokD z 2 15)) ts vs nt nw) 13 H (by exact byR w (fun w => by kernel_rfl) (fun w => by kernel_rfl)) (by exact byR w (fun w => by kernel_rfl) (fun w => by kernel_rfl)) (by exact byR w (fun w => by kernel_rfl) (fun w => by kernel_rfl)) (fun h' tk' H' k' => next h' tk' _ 0 (Hp.tl H') k')
  | cons v l =>
    cases q with
    | true =>
      exact go_end (kNoLimit _) 108 18 (pl 0x410c00820000020000020410c00820000020000020430c3002000002002002000002041043002080000080000081) (v := .ret (.str ⟨⟨v :: l⟩⟩ t3)) (C := fun z => ((z.getD 0 default).1, (z.getD 0 default).2) :: lxT _ X T (st.val t1) (.int (Int.ofNat ln) t2) (.str ⟨⟨[]⟩⟩ (tokD z 2 15)) ts vs nt nw) 13 H (by exact byR w (fun w => by kernel_rfl) (fun w => by kernel_rfl)) (by exact byR w (fun w => by kernel_rfl) (fun w => by kernel_rfl)) (by exact byR w (fun w => by kernel_rfl) (fun w => by kernel_rfl)) (fun h' tk' H' k' => next h' tk' _ t3 (Hp.tl H') k')
    | false =>
      exact go_end (kNoLimit _) 116 18 (pl 0x10430020800000800000810410c00820000020000020430c3002000002002002000002041043002080000080000081) (v := .ret (.str ⟨⟨v :: l⟩⟩ t3)) (C := fun z => ((z.getD 0 default).1, (z.getD 0 default).2) :: lxT _ X T (st.val t1) (.int (Int.ofNat ln) t2) (.str ⟨⟨[]⟩⟩ (tokD z 2 15)) ts vs nt nw) 13 H (by exact byR w (fun w => by kernel_rfl) (fun w => by kernel_rfl)) (by exact byR w (fun w => by kernel_rfl) (fun w => by kernel_rfl)) (by exact byR w (fun w => by kernel_rfl) (fun w => by kernel_rfl)) (fun h' tk' H' k' => next h' tk' _ t3 (Hp.tl H') k')
theorem rt_ctr {w : World} {T : Tp} (hR : ReadCtr B w T) {X : Lx} {s : Shared} {p : Nat} {ts vs : List Value} {nt nw : Nat} {st : Ls} {t1 t2 t3 : Tok} {ln : Nat} {q' : Bool} {st' : Ls} {tok' rest : List Nat}
  (H : Hp (KK w) s.heap (lxT w X T (st.val t1) (.int (Int.ofNat ln) t2) (.str ⟨⟨[]⟩⟩ t3) ts vs nt nw)) (hT : TpAt T p ts vs) (hp : p ≤ T.cs.length)
  (h256 : ∀ c ∈ T.cs, c < 256) (hlen : T.cs.length ≤ sizeLine) (hs : scan (T.cs.drop p) false st [] = some (q', st', tok', rest)) :
  Ctr B PG w (.call (.ref 707) ⟨[.ref X.x], []⟩) 36 s (RtPost w X T q' st' tok' rest s.heap (lxT w X T (st.val t1) (.int (Int.ofNat ln) t2) (.str ⟨⟨[]⟩⟩ t3) ts vs nt nw)) := by
  refine ctr_def (kNoLimit w) 7 34 0 (pl 0x134d000).tail (body := rtB w) (env := rtEnv w (s.heap.objs.size + 0)) (fun z => lxT w X T (st.val t1) (.int (Int.ofNat ln) t2) (.str ⟨⟨[]⟩⟩ t3) ts vs nt nw ++ [(s.heap.objs.size + 0, frmO [ent w.params "self" (tokK z 12 0) (.ref X.x)] 1)]) 13 H (by kernel_rfl) (by kernel_rfl) fun A1 h1 tk1 z hA1 H1 k1 k1' => ?_
  rw [show rtB w = hdS (rtB w) :: hdS (rtB w).tail :: .While (whT (rtLp w)) (rtW w) (whE (rtLp w)) (whP (rtLp w)) :: (rtB w).drop 3 by kernel_rfl]
  have H2 := H1.front
  generalize hL : s.heap.objs.size + 0 = L at H2
  refine execs_one (start_bot 18 (hA1.le (by omega)) (execsZ_eq _ _) ?_)
  refine go_end (kNoLimit w) 8 18 (pl 0x1041) (v := Flow.next) (fun z => (L, frmO [ent w.params "self" (tokK z 0 0) (.ref X.x), ent w.params "quoted" (tokK z 0 1) (.bool false)] 2) :: lxT w X T (st.val t1) (.int (Int.ofNat ln) t2) (.str ⟨⟨[]⟩⟩ t3) ts vs nt nw) 13 H2 (by kernel_rfl) (by kernel_rfl) (by kernel_rfl) fun h2 tk2 H3 k3 => ?_
  refine execs_one (start_bot 18 (hA1.le (by omega)) (execsZ_eq _ _) ?_)
  refine go_end (kNoLimit w) 9 18 (pl 0x1041) (v := Flow.next) (fun z => hdC w X T L (fun i => match i with | 0 => tokK z 0 0 | 1 => tokK z 0 1 | 2 => tokK z 0 2 | _ => tokD z 0 2) false none (st.val t1) (.int (Int.ofNat ln) t2) (.str ⟨⟨[]⟩⟩ t3) ts vs nt nw) 13 H3 (by kernel_rfl) (by kernel_rfl) (by kernel_rfl) fun h3 tk3 H4 k4 => ?_
  have kB : ∀ h, Kept h1 h (lxT w X T (st.val t1) (.int (Int.ofNat ln) t2) (.str ⟨⟨[]⟩⟩ t3) ts vs nt nw ++ [(L, celO .none)]) → Kept s.heap h (lxT w X T (st.val t1) (.int (Int.ofNat ln) t2) (.str ⟨⟨[]⟩⟩ t3) ts vs nt nw) := fun h k => k1' h (k.more fun b hb => by
    rw [← hL] at hb
    rw [List.map_append] at hb ⊢
    exact hb)
  refine wpC_execs_cons (rt_loop hR H4 hA1 hT hp h256 hlen hs fun h4 tk4 ts4 vs4 nt4 nw4 kf4 nc t a1 a2 a3 ln4 p4 H5 k5 hT4 hp4 hr4 => ?_)
  refine rt_tail H5 hA1 fun h5 tk5 b3 tt H6 k6 => ?_
  refine ⟨h5, tk5, rfl, ts4, vs4, nt4, nw4, tt, a1, a2, b3, ln4, p4, H6, kB _ ?_, hT4, hp4, hr4, rfl⟩
  have e1 : ∀ b, b ∈ ((L, celO Value.none) :: lxT w X T (st.val t1) (.int (Int.ofNat ln) t2) (.str ⟨⟨[]⟩⟩ t3) ts vs nt nw).map (·.1) → b ∈ (lxT w X T (st.val t1) (.int (Int.ofNat ln) t2) (.str ⟨⟨[]⟩⟩ t3) ts vs nt nw ++ [(L, celO .none)]).map (·.1) := fun b hb => by
    rw [List.map_append]
    rcases List.mem_cons.mp hb with rfl | hb
    · exact List.mem_append_right _ (by simp)
    · exact List.mem_append_left _ hb
  exact (((k3.trans k4 fun b _ hb => hb).trans k5 fun b _ hb => hb).trans k6 fun b _ hb => hb).more e1
end Mine
end PRC
section PGT
open PySem PySem.W PyProof.Rows PySem.Calls
set_option maxHeartbeats 0
namespace Mine
variable {B : Bool}
noncomputable def lxA (w : World) (X : Lx) (T : Tp) (st ln tok : Value) (ts vs : List Value) (nt nw : Nat) : Cells := (X.pb, deqO) :: (X.fs, deqO) :: lxT w X T st ln tok ts vs nt nw
noncomputable def gtB (w : World) : List Stmt := stmtsOf (fdOf (KK w) 700)
noncomputable def gtEnv (w : World) (L : Addr) : Env := { scope := (fdOf (KK w) 700).scope, locals := L, globals := mainGlobals, cells := [], qual := "shlex.get_token.<locals>.", func := some 700, code := .ref 699, frame := some L, builtins := builtinsNs }
inductive GtPost (w : World) (X : Lx) (T : Tp) (q' : Bool) (st' : Ls) (tok' rest : List Nat) (h0 : Heap) (cs0 : Cells) (v : Value) (h' : Heap) : Prop
  | mk (ts' vs' : List Value) (nt' nw' : Nat) (t t1 t2 t3 : Tok) (ln p' : Nat) (H : Hp (KK w) h' (lxA w X T (Ls.val st' t1) (.int (Int.ofNat ln) t2) (.str ⟨⟨[]⟩⟩ t3) ts' vs' nt' nw')) (q : Kept h0 h' cs0) (hT : TpAt T p' ts' vs') (hp : p' ≤ T.cs.length) (hr : T.cs.drop p' = rest) (hv : v = rtVal q' tok' t)
theorem gt_ctr {w : World} {T : Tp} (hR : ReadCtr B w T) {X : Lx} {s : Shared} {p : Nat} {ts vs : List Value} {nt nw : Nat} {st : Ls} {t1 t2 t3 : Tok} {ln : Nat} {q' : Bool} {st' : Ls} {tok' rest : List Nat}
  (H : Hp (KK w) s.heap (lxA w X T (st.val t1) (.int (Int.ofNat ln) t2) (.str ⟨⟨[]⟩⟩ t3) ts vs nt nw)) (hT : TpAt T p ts vs) (hp : p ≤ T.cs.length)
  (h256 : ∀ c ∈ T.cs, c < 256) (hlen : T.cs.length ≤ sizeLine) (hs : scan (T.cs.drop p) false st [] = some (q', st', tok', rest)) :
  Ctr B PG w (.call (.ref 700) ⟨[.ref X.x], []⟩) 38 s (GtPost w X T q' st' tok' rest s.heap (lxA w X T (st.val t1) (.int (Int.ofNat ln) t2) (.str ⟨⟨[]⟩⟩ t3) ts vs nt nw)) := by
  refine ctr_def (kNoLimit _) 7 36 0 (pl 0x13cf000).tail (body := gtB w) (env := gtEnv w (s.heap.objs.size + 0)) (fun z => lxA w X T (st.val t1) (.int (Int.ofNat ln) t2) (.str ⟨⟨[]⟩⟩ t3) ts vs nt nw ++ [(s.heap.objs.size + 0, frmO [ent w.params "self" (tokK z 14 0) (.ref X.x)] 1)]) 15 H (by kernel_rfl) (by kernel_rfl) fun A1 h1 tk1 z hA1 H1 k1 k1' => ?_
  have H2 := H1.front
  generalize hL : s.heap.objs.size + 0 = L at H2
  have kB : ∀ h, Kept h1 h ((L, celO .none) :: lxA w X T (st.val t1) (.int (Int.ofNat ln) t2) (.str ⟨⟨[]⟩⟩ t3) ts vs nt nw) → Kept s.heap h (lxA w X T (st.val t1) (.int (Int.ofNat ln) t2) (.str ⟨⟨[]⟩⟩ t3) ts vs nt nw) := fun h k => k1' h (k.more fun b hb => by
    rw [← hL] at hb
    rw [List.map_append]
    rcases List.mem_cons.mp hb with rfl | hb
    · exact List.mem_append_right _ (by simp)
    · exact List.mem_append_left _ hb)
  refine start_bot 36 hA1 (execsZ_eq _ _) ?_
  refine go_call (kNoLimit _) 56 36 (pl 0x40144000000100000100000101082082085004100000100000101) (c := .call (.ref 707) ⟨[.ref X.x], []⟩) (cs' := (L, frmO [ent w.params "self" (tokK z 14 0) (.ref X.x)] 1) :: lxA w X T (st.val t1) (.int (Int.ofNat ln) t2) (.str ⟨⟨[]⟩⟩ t3) ts vs nt nw) (n' := 0) (tk' := tk1 + 3) (rm' := 36)
    (P := fun h' v h'' => RtPost w X T q' st' tok' rest h' (lxT w X T (st.val t1) (.int (Int.ofNat ln) t2) (.str ⟨⟨[]⟩⟩ t3) ts vs nt nw) v h'')
    H2 (by exact byR w (fun w => by kernel_rfl) (fun w => by kernel_rfl)) (by exact byR w (fun w => by kernel_rfl) (fun w => by kernel_rfl)) (by exact byR w (fun w => by kernel_rfl) (fun w => by kernel_rfl)) (by exact byR w (fun w => by kernel_rfl) (fun w => by kernel_rfl)) (by exact byR w (fun w => by kernel_rfl) (fun w => by kernel_rfl)) (by exact byR w (fun w => by kernel_rfl) (fun w => by kernel_rfl)) ?_ ?_
  · intro h' W
    exact rt_ctr hR (Hp.right (a := [(L, _), (X.pb, deqO), (X.fs, deqO)]) W.hp) hT hp h256 hlen hs
  · rintro h' W v h'' tk'' ⟨ts', vs', nt', nw', t, a1, a2, a3, ln', p', H', k', hT', hp', hr', hv⟩
    have H3 := Hp.glue (a := [(L, _), (X.pb, deqO), (X.fs, deqO)]) (b := lxT w X T (st.val t1) (.int (Int.ofNat ln) t2) (.str ⟨⟨[]⟩⟩ t3) ts vs nt nw) W.hp k' H' rfl
    have k3 := W.on (k'.more fun b hb => List.mem_cons_of_mem _ (List.mem_cons_of_mem _ (List.mem_cons_of_mem _ hb)))
    have k4 := kB _ k3
    by_cases h0 : tok' = [] ∧ q' = false
    · have hv' : v = .none := by rw [hv]; exact if_pos h0
      subst hv'
      refine go_end (kNoLimit _) 112 _ (pl 0x11401040000040000040430c30c3140104000004000004045004100000100000101045004100000100000101041) (v := .ret .none) (fun z => ((z.getD 0 default).1, (z.getD 0 default).2) :: lxA w X T (Ls.val st' a1) (.int (Int.ofNat ln') a2) (.str ⟨⟨[]⟩⟩ a3) ts' vs' nt' nw') 15 H3 (by exact byR w (fun w => by kernel_rfl) (fun w => by kernel_rfl)) (by exact byR w (fun w => by kernel_rfl) (fun w => by kernel_rfl)) (by exact byR w (fun w => by kernel_rfl) (fun w => by kernel_rfl)) fun h4 tk4 H4 k5 => ?_
      exact ⟨h4, tk4, rfl, ts', vs', nt', nw', t, a1, a2, a3, ln', p', H4.tl, kB _ (k3.trans k5 fun b _ hb => hb), hT', hp', hr', hv⟩
    · have hv' : v = .str ⟨⟨tok'⟩⟩ t := by rw [hv]; exact if_neg h0
      rw [hv']
      refine go_end (kNoLimit _) 93 _ (pl 0x41140104000004000004045004100000100000101045004100000100000101041) (v := .ret (.str ⟨⟨tok'⟩⟩ t)) (fun z => ((z.getD 0 default).1, (z.getD 0 default).2) :: lxA w X T (Ls.val st' a1) (.int (Int.ofNat ln') a2) (.str ⟨⟨[]⟩⟩ a3) ts' vs' nt' nw') 15 H3 (by exact byR w (fun w => by kernel_rfl) (fun w => by kernel_rfl)) (by exact byR w (fun w => by kernel_rfl) (fun w => by kernel_rfl)) (by exact byR w (fun w => by kernel_rfl) (fun w => by kernel_rfl)) fun h4 tk4 H4 k5 => ?_
      exact ⟨h4, tk4, rfl, ts', vs', nt', nw', t, a1, a2, a3, ln', p', H4.tl, kB _ (k3.trans k5 fun b _ hb => hb), hT', hp', hr', by rw [← hv']; exact hv⟩
end Mine
end PGT
section PPK
open PySem PySem.W PyProof.Rows PySem.Calls
namespace Mine
theorem Hp.pick {K : Sta} {h : Heap} {cs : Cells} (H : Hp K h cs) : ∀ js : List Nat, js.Nodup → Hp K h (js.filterMap fun j => cs[j]?) := fun js hn => by
  refine H.sub (fun p hp => ?_) ?_
  · obtain ⟨j, _, e⟩ := List.mem_filterMap.mp hp
    exact List.mem_of_getElem? e
  · induction js with
    | nil => exact List.nodup_nil
    | cons j js ih =>
      rw [List.nodup_cons] at hn
      have ih := ih hn.2
      cases hj : cs[j]? with
      | none => rw [List.filterMap_cons_none hj]; exact ih
      | some p =>
        rw [List.filterMap_cons_some hj, List.map_cons, List.nodup_cons]
        refine ⟨fun hm => ?_, ih⟩
        obtain ⟨q, hq, e⟩ := List.mem_map.mp hm
        obtain ⟨i, hi, ei⟩ := List.mem_filterMap.mp hq
        have nd := H.nd
        have hj1 : (cs.map (·.1))[j]? = some p.1 := by rw [List.getElem?_map, hj]; rfl
        have hi1 : (cs.map (·.1))[i]? = some p.1 := by rw [List.getElem?_map, ei]; exact congrArg some e
        obtain ⟨lj, ej⟩ := List.getElem?_eq_some_iff.mp hj1
        obtain ⟨li, ei2⟩ := List.getElem?_eq_some_iff.mp hi1
        have : j = i := by
          rcases Nat.lt_trichotomy j i with hlt | rfl | hlt
          · exact absurd (ej.trans ei2.symm) (List.pairwise_iff_getElem.mp nd j i lj li hlt)
          · rfl
          · exact absurd (ei2.trans ej.symm) (List.pairwise_iff_getElem.mp nd i j li lj hlt)
        exact hn.1 (this ▸ hi)
theorem Hp.picked {K : Sta} {h : Heap} {cs cs' : Cells} (H : Hp K h cs) (js : List Nat) (hn : js.Nodup) (e : (js.filterMap fun j => cs[j]?) = cs') : Hp K h cs' := e ▸ H.pick js hn
theorem Hp.frame {K : Sta} {h h' : Heap} {cs cs' ex : Cells} (H : Hp K h (cs ++ ex)) (H' : Hp K h' cs') (k : Kept h h' cs) (hf : ∀ p ∈ cs', p.1 ∈ cs.map (·.1) ∨ ∀ o, h.get? p.1 ≠ some o) : Hp K h' (cs' ++ ex) := by
  have nd := H.nd
  rw [List.map_append, List.nodup_append] at nd
  refine ⟨H'.st, fun p hp => ?_, ?_, fun p hp => ?_⟩
  · rcases List.mem_append.mp hp with hp | hp
    · exact H'.ce _ hp
    · exact k _ _ (H.ce _ (List.mem_append_right _ hp)) fun hb => nd.2.2 _ hb _ (List.mem_map_of_mem hp) rfl
  · rw [List.map_append, List.nodup_append]
    refine ⟨H'.nd, nd.2.1, fun a ha b hb e => ?_⟩
    subst e
    obtain ⟨p, hp, rfl⟩ := List.mem_map.mp ha
    rcases hf p hp with h1 | h1
    · exact nd.2.2 _ h1 _ hb rfl
    · obtain ⟨q, hq, e⟩ := List.mem_map.mp hb
      exact h1 q.2 (e ▸ H.ce q (List.mem_append_right _ hq))
  · rcases List.mem_append.mp hp with hp | hp
    · exact H'.off _ hp
    · exact H.off _ (List.mem_append_right _ hp)
theorem Hp.frame1 {K : Sta} {h h' : Heap} {cs cs' ex : Cells} (H : Hp K h (cs ++ ex)) (H' : Hp K h' cs') (k : Kept h h' cs) (e : cs'.map (·.1) = cs.map (·.1) := by rfl) : Hp K h' (cs' ++ ex) :=
  H.frame H' k fun p hp => .inl (e ▸ List.mem_map_of_mem hp)
end Mine
end PPK
section PRN4
open PySem PySem.W PyProof.Rows PySem.Calls
open PySem.Builtin.Str (occurrences)
set_option maxHeartbeats 0
namespace Mine
variable {B : Bool}
section
variable {w : World} {W L : Addr} {k : Nat} {kk : Nat → Tok} {t t2 t3 : Tok} {b : Array UInt8} {s : Shared} {A : Around} {Q : Flow → Shared → Prop} {E : Value → Shared → Prop}
theorem rn_st4 {l : List Nat} {e2 : Nat} {rest : List Stmt} (H : Hp (KK w) s.heap [(L, frmO (rnF2 w.params kk W k t l t2 b t3) e2)]) (hA : Fit A 45)
  (next : ∀ h' tk' T e3 k3, (∀ o, s.heap.get? T ≠ some o) → Hp (KK w) h' [(L, frmO (rnF2 w.params kk W k t l t2 b t3 ++ [ent w.params "taken" k3 (.ref T)]) e3), (T, lstO [] 0)] → Kept s.heap h' [(L, plO)] → wpC true (model PG w) A (execs rest (rnEnv w L)) Q E { s with heap := h', toks := tk' }) :
  wpC true (model PG w) A (execs (hdS ((rnB w).drop 3) :: rest) (rnEnv w L)) Q E s := by
  refine execs_one (start_bot 45 hA (execsZ_eq _ _) ?_)
  exact go_o (kNoLimit _) [] 10 45 (pl 0x1041) (fun _ => .next) (fun _ => []) (fun o z => [(L, frmO (rnF2 w.params kk W k t l t2 b t3 ++ [ent w.params "taken" (tokK z 0 4) (.ref (s.heap.objs.size + 0))]) (epZ z 0)), (s.heap.objs.size + 0, lstO [] 0)]) 2 H (fun o => by kernel_rfl) (fun o p hp => absurd hp List.not_mem_nil) (fun h8 tk8 o z H8 k8 _ => next h8 tk8 _ _ _ (fun o e => Nat.lt_irrefl _ (Heap.lt_size e)) H8 k8)
noncomputable def rnF3 (P : Params) (kk : Nat → Tok) (W : Addr) (k : Nat) (t : Tok) (l : List Nat) (t2 : Tok) (b : Array UInt8) (t3 : Tok) (T : Addr) : List DictEntry := rnF2 P kk W k t l t2 b t3 ++ [ent P "taken" (kk 4) (.ref T)]
noncomputable def initK (t : Nat) (i : Nat) : Tok := t + ([7, 9, 11, 13, 16, 19, 23, 28, 26, 30, 33, 31, 36, 34, 39, 37, 42, 44, 47, 50, 48, 53, 55, 57, 61, 58].getD i 0)
noncomputable def fldZ (z : Cells) (i j : Nat) : Value := match objZ z i with | ⟨_, _, .fields ⟨vs⟩, _⟩ => vs.getD j .none | _ => .none
noncomputable def fldR (z : Cells) (i : Nat) : List Value := match objZ z i with | ⟨_, _, .fields ⟨vs⟩, _⟩ => vs.drop 2 | _ => []
noncomputable def tblZ (z : Cells) (i : Nat) : Array Value := match objZ z i with | ⟨_, _, .fields vs, _⟩ => vs | _ => #[]
noncomputable def fdZ (z : Cells) (i : Nat) : FuncData := match objZ z i with | ⟨_, _, .func fd, _⟩ => fd | _ => default
noncomputable def rdZ (z : Cells) (i : Nat) : RdVars := ⟨(fdZ z i).name, (fdZ z i).qualname, (fdZ z i).doc, (fdZ z i).pyModule, (fdZ z i).annotations, (fdZ z i).closureTuple⟩
noncomputable def lxB (w : World) (X : Lx) (T : Tp) (com : Value) (wss : Bool) (st ln tok : Value) : Cells := [(X.pb, deqO), (X.fs, deqO), (X.x, inst 739 X.dx), (X.dx, dicO (lexL w.params X.kd X.tp X.pb X.fs com wss st ln tok) 19), (X.tp, ⟨.type "function", some X.td, .func X.fd, #[]⟩), (X.td, dicO [ent w.params "read" X.kt (.ref T.rd)] 1)] ++ tpC w T [] [] 0 0
theorem rn_st5 {l : List Nat} {e2 : Nat} {T : Addr} {rest : List Stmt} (H : Hp (KK w) s.heap [(L, frmO (rnF3 w.params kk W k t l t2 b t3 T) e2), (T, lstO [] 0), (767, plO)]) (hA : Fit A 45)
  (next : ∀ h' tk' (X : Lx) (tp : Tp) e3 k3 t4 lt nt tt, tp.oct = b → tp.k = k → tp.cs = l → tp.tl = T → (∀ p ∈ lxB w X tp (.str "#" t4) false (.str " " lt) (.int 1 nt) (.str "" tt), p.1 = T ∨ ∀ o, s.heap.get? p.1 ≠ some o) → Hp (KK w) h' ((L, frmO (rnF3 w.params kk W k t l t2 b t3 T ++ [ent w.params "lexer" k3 (.ref X.x)]) e3) :: lxB w X tp (.str "#" t4) false (.str " " lt) (.int 1 nt) (.str "" tt)) → Kept s.heap h' [(L, plO), (T, plO), (767, plO)] → (∃ ps, h'.get? 767 = some (tbO ps)) → wpC true (model PG w) A (execs rest (rnEnv w L)) Q E { s with heap := h', toks := tk' }) :
  wpC true (model PG w) A (execs (hdS ((rnB w).drop 4) :: rest) (rnEnv w L)) Q E s := by
  refine execs_one (start_bot 45 hA (execsZ_eq _ _) ?_)
  refine go_o (kNoLimit _) [] 916 45 (pl 0x4105a61860064000064064064000065a69a69a61860064000064064064000065a61860064000064064064000065a71c71c71c01861801900001901901900001969861801900001901901900001969861801900001901901900001969861801900001901901900001969b6db6db6c061860064000064064064000065a61860064000064064064000065a61860064000064064064000065a61860064000064064064000065a61860064000064064064000065a61860064000064064064000065a61860064000064064064000065801964000064000065a60065900001900001969861801900001901901900001969861801900001901901900001969861801900001901901900001969a61860064000064064064000065a69861801900001901901900001969a61860064000064064064000065a69a59659659658001a00069a69a69a69a69a0000000000190190000000000000000000000000000000000000000001175d75965965961041040000030c30c01040000030c30c02081c7186145000001041000) (fun _ => .next) (fun _ => []) (fun o z => [(L, frmO (rnF3 w.params kk W k t l t2 b t3 T ++ [ent w.params "lexer" (s.toks + 82) (.ref (s.heap.objs.size + 21))]) (epZ z 0)), (T, lstO [] 0), (767, tbO (tblZ z 2)), ((s.heap.objs.size + 0), objZ z 3), ((s.heap.objs.size + 1), celO (.bytes b t3)), ((s.heap.objs.size + 2), celO (.int (k : Nat) t)), ((s.heap.objs.size + 3), celO (.ref T)), ((s.heap.objs.size + 4), celO (.ref (s.heap.objs.size + 5))), ((s.heap.objs.size + 5), lstO [] 0), ((s.heap.objs.size + 6), objZ z 9), ((s.heap.objs.size + 7), objZ z 10), ((s.heap.objs.size + 8), objZ z 11), ((s.heap.objs.size + 9), objZ z 12), ((s.heap.objs.size + 10), cdO (fldZ z 13 0) (vStrOf (fldZ z 13 1)) (vStrTk (fldZ z 13 1)) (fldR z 13)), ((s.heap.objs.size + 11), rdO w (s.heap.objs.size + 10) (s.heap.objs.size + 1) (s.heap.objs.size + 2) (s.heap.objs.size + 3) (s.heap.objs.size + 4) (rdZ z 14)), ((s.heap.objs.size + 12), objZ z 15), ((s.heap.objs.size + 13), objZ z 16), ((s.heap.objs.size + 14), objZ z 17), ((s.heap.objs.size + 15), objZ z 18), ((s.heap.objs.size + 16), objZ z 19), ((s.heap.objs.size + 17), objZ z 20), ((s.heap.objs.size + 18), ⟨.type "function", some (s.heap.objs.size + 19), .func (fdZ z 21), #[]⟩), ((s.heap.objs.size + 19), dicO [ent w.params "read" (s.toks + 17) (.ref (s.heap.objs.size + 11))] 1), ((s.heap.objs.size + 20), dicO (lexL w.params (initK (s.toks + 18)) (s.heap.objs.size + 18) (s.heap.objs.size + 23) (s.heap.objs.size + 24) (.str "#" (s.toks + 32)) false (.str " " (s.toks + 58)) (.int 1 (s.toks + 63)) (.str "" (s.toks + 69))) 19), ((s.heap.objs.size + 21), inst 739 (s.heap.objs.size + 20)), ((s.heap.objs.size + 22), objZ z 25), ((s.heap.objs.size + 23), deqO), ((s.heap.objs.size + 24), deqO)]) 28 H (fun o => by kernel_rfl) (fun o p hp => absurd hp List.not_mem_nil) (fun h8 tk8 o z H8 k8 _ => ?_)
  refine next h8 tk8 ⟨s.heap.objs.size + 21, s.heap.objs.size + 20, s.heap.objs.size + 18, s.heap.objs.size + 19, s.heap.objs.size + 23, s.heap.objs.size + 24, initK (s.toks + 18), fdZ z 21, s.toks + 17, 0⟩
    ⟨s.heap.objs.size + 11, s.heap.objs.size + 10, s.heap.objs.size + 1, s.heap.objs.size + 2, s.heap.objs.size + 3, s.heap.objs.size + 4, T, s.heap.objs.size + 5, rdZ z 14, fldZ z 13 0, vStrOf (fldZ z 13 1), vStrTk (fldZ z 13 1), fldR z 13, t3, t, k, b, l⟩
    _ _ _ _ _ _ rfl rfl rfl rfl (fun p hp => ?_) (H8.picked [0, 26, 27, 24, 23, 21, 22, 14, 13, 4, 5, 6, 7, 1, 8] (by decide) rfl) k8 ⟨_, H8.ce (767, tbO (tblZ z 2)) (List.mem_of_getElem? (i := 2) rfl)⟩
  simp only [lxB, tpC, List.cons_append, List.nil_append, List.mem_cons, List.not_mem_nil, or_false] at hp
  rcases hp with rfl | rfl | rfl | rfl | rfl | rfl | rfl | rfl | rfl | rfl | rfl | rfl | rfl | rfl <;> first | exact .inl rfl | exact .inr fun o e => Nat.not_lt.mpr (Nat.le_add_right _ _) (Heap.lt_size e)
end
end Mine
end PRN4
section PRN5
open PySem PySem.W PyProof.Rows PySem.Calls
open PySem.Builtin.Str (occurrences)
set_option maxHeartbeats 0
namespace Mine
variable {B : Bool}
section
variable {w : World} {W L : Addr} {k : Nat} {kk : Nat → Tok} {t t2 t3 : Tok} {b : Array UInt8} {s : Shared} {A : Around} {Q : Flow → Shared → Prop} {E : Value → Shared → Prop}
noncomputable def rnF4 (P : Params) (kk : Nat → Tok) (W : Addr) (k : Nat) (t : Tok) (l : List Nat) (t2 : Tok) (b : Array UInt8) (t3 : Tok) (T x : Addr) : List DictEntry := rnF3 P kk W k t l t2 b t3 T ++ [ent P "lexer" (kk 5) (.ref x)]
theorem rn_st6 {l : List Nat} {e2 : Nat} {T : Addr} {X : Lx} {tp : Tp} {t4 lt nt tt : Tok} {rest : List Stmt} (H : Hp (KK w) s.heap ((L, frmO (rnF4 w.params kk W k t l t2 b t3 T X.x) e2) :: lxB w X tp (.str "#" t4) false (.str " " lt) (.int 1 nt) (.str "" tt))) (hA : Fit A 45)
  (next : ∀ h' tk' cm, Hp (KK w) h' ((L, frmO (rnF4 w.params kk W k t l t2 b t3 T X.x) e2) :: lxA w { X with com := cm } tp (.str " " lt) (.int 1 nt) (.str ⟨⟨[]⟩⟩ tt) [] [] 0 0) → Kept s.heap h' ((L, frmO (rnF4 w.params kk W k t l t2 b t3 T X.x) e2) :: lxB w X tp (.str "#" t4) false (.str " " lt) (.int 1 nt) (.str "" tt)) → wpC true (model PG w) A (execs rest (rnEnv w L)) Q E { s with heap := h', toks := tk' }) :
  wpC true (model PG w) A (execs (((rnB w).drop 5).take 2 ++ rest) (rnEnv w L)) Q E s := by
  have e : ((rnB w).drop 5).take 2 ++ rest = hdS ((rnB w).drop 5) :: hdS ((rnB w).drop 6) :: rest := by
    rw [show ((rnB w).drop 5).take 2 = [hdS ((rnB w).drop 5), hdS ((rnB w).drop 6)] by kernel_rfl]; rfl
  rw [e]
  refine execs_one (start_bot 45 hA (execsZ_eq _ _) ?_)
  refine go_o (kNoLimit _) [] 27 45 (pl 0x1145140100000100100100000101) (fun _ => .next) (fun _ => []) (fun o z => (L, frmO (rnF4 w.params kk W k t l t2 b t3 T X.x) e2) :: lxB w X tp (.str "#" t4) true (.str " " lt) (.int 1 nt) (.str "" tt)) 15 H (fun o => by kernel_rfl) (fun o p hp => absurd hp List.not_mem_nil) (fun h1 tk1 o z H1 k1 _ => ?_)
  refine execs_one (start_bot (s := { s with heap := h1, toks := tk1 }) 45 hA (execsZ_eq _ _) ?_)
  refine go_o (s := { s with heap := h1, toks := tk1 }) (kNoLimit _) [] 28 45 (pl 0x1145140100000100100100000101) (fun _ => .next) (fun _ => []) (fun o z => (L, frmO (rnF4 w.params kk W k t l t2 b t3 T X.x) e2) :: lxB w X tp (.str "" tk1) true (.str " " lt) (.int 1 nt) (.str "" tt)) 15 H1 (fun o => by kernel_rfl) (fun o p hp => absurd hp List.not_mem_nil) (fun h2 tk2 o z H2 k2 _ => ?_)
  exact next h2 tk2 tk1 H2 (k1.trans k2 fun b _ hb => hb)
end
end Mine
end PRN5
section PRN6
open PySem PySem.W PyProof.Rows PySem.Calls
open PySem.Builtin.Str (occurrences)
set_option maxHeartbeats 0
namespace Mine
variable {B : Bool}
section
variable {w : World} {W L : Addr} {k : Nat} {kk : Nat → Tok} {t t2 t3 : Tok} {b : Array UInt8} {s : Shared} {A : Around} {Q : Flow → Shared → Prop} {E : Value → Shared → Prop}
noncomputable def rnF5 (P : Params) (kk : Nat → Tok) (W : Addr) (k : Nat) (t : Tok) (l : List Nat) (t2 : Tok) (b : Array UInt8) (t3 : Tok) (T x G : Addr) : Option Value → List DictEntry
  | none => rnF4 P kk W k t l t2 b t3 T x ++ [ent P "log" (kk 6) (.ref G)]
  | some v => rnF4 P kk W k t l t2 b t3 T x ++ [ent P "log" (kk 6) (.ref G), ent P "word" (kk 7) v]
noncomputable def rnC (w : World) (L G I V : Addr) (kk : Nat → Tok) (W : Addr) (k : Nat) (t : Tok) (l : List Nat) (t2 : Tok) (b : Array UInt8) (t3 : Tok) (ov : Option Value) (e2 : Nat) (gs : List Value) (ng : Nat) (us : List Value) (i : Int) (X : Lx) (tp : Tp) (st : Value) (ln : Nat) (lt tt : Tok) (ts vs : List Value) (nt nw : Nat) : Cells :=
  [(L, frmO (rnF5 w.params kk W k t l t2 b t3 tp.tl X.x G ov) e2), (G, lstO gs ng), (I, fldO "list_iterator" [.ref V, .int i 0]), (V, lstO us 0)] ++ lxA w X tp st (.int (ln : Nat) lt) (.str ⟨⟨[]⟩⟩ tt) ts vs nt nw
end
end Mine
end PRN6
section PRN7
open PySem PySem.W PyProof.Rows PySem.Calls
open PySem.Builtin.Str (occurrences)
set_option maxHeartbeats 0
namespace Mine
variable {B : Bool}
noncomputable def rnLp (w : World) (L I : Addr) : Code := forC ((rnB w).getD 8 default) (.ref I) (rnEnv w L)
noncomputable def tupO (vs : List Value) : Obj := ⟨.type "tuple", none, .seq vs.toArray 0, #[]⟩
noncomputable def tokQ (cs : Cells) (i j : Nat) : Tok := match objZ cs i with | ⟨_, _, .seq ⟨vs⟩ _, _⟩ => tokV (vs.getD j .none) | _ => 0
theorem Kept.still {K : Sta} {h h' : Heap} {cs cs' : Cells} (k : Kept h h' cs) (H : Hp K h cs) (H' : Hp K h' cs') {x : Addr} {o : Obj} (e : h.get? x = some o) (hs : ∀ q ∈ cs.map (·.1), q ∈ cs'.map (·.1) := by intro q hq; exact hq) : ∃ o2, h'.get? x = some o2 := by
  by_cases hb : x ∈ cs.map (·.1)
  · obtain ⟨p, hp, rfl⟩ := List.mem_map.mp (hs _ hb)
    exact ⟨_, H'.ce p hp⟩
  · exact ⟨_, k _ _ e hb⟩
section
variable {w : World} {W L G I V : Addr} {k : Nat} {kk : Nat → Tok} {t t2 t3 : Tok} {b : Array UInt8} {s : Shared} {A : Around} {Q : PySem.Fin → Shared → Prop} {E : Value → Shared → Prop} {l : List Nat} {X : Lx} {tp : Tp} {ln : Nat} {lt tt t1 : Tok} {e2 ng nt nw : Nat} {gs us ts vs : List Value} {i : Int} {st : Ls}
theorem rn_tns {xv : Str} {tv : Tok} {u : Value} {q' : Bool} {st' : Ls} {tok' rest : List Nat} {p : Nat} (hR : ReadCtr true w tp)
  (H : Hp (KK w) s.heap (rnC w L G I V kk W k t l t2 b t3 none e2 gs ng us i X tp (st.val t1) ln lt tt ts vs nt nw)) (hA : Fit A 42) (hT : TpAt tp p ts vs) (hp : p ≤ tp.cs.length)
  (h256 : ∀ c ∈ tp.cs, c < 256) (hlen : tp.cs.length ≤ sizeLine) (hs : scan (tp.cs.drop p) false st [] = some (q', st', tok', rest)) (hv : us[i.toNat]? = some (.str xv tv)) (hgz : gs.length ≤ sizeLine) (hq : ¬ (tok' = [] ∧ q' = false)) (htl : ∀ p', p' ≤ tp.cs.length → blocks tp.k p' ≤ sizeLine)
  (next : ∀ h' tk' p' k7 e3 ng' st1 ln' lt' tt' ts' vs' nt' nw' U ut (wt : Tok), (∀ o, s.heap.get? U ≠ some o) → Hp (KK w) h' (rnC w L G I V (fun j => if j = 7 then k7 else kk j) W k t l t2 b t3 (some (.str xv tv)) e3 (gs ++ [.ref U]) ng' us (i + 1) X tp (st'.val st1) ln' lt' tt' ts' vs' nt' nw') → h'.get? U = some (tupO [(.str ⟨⟨tok'⟩⟩ wt), .int ts'.length ut]) → Kept s.heap h' (rnC w L G I V kk W k t l t2 b t3 none e2 gs ng us i X tp (st.val t1) ln lt tt ts vs nt nw) → TpAt tp p' ts' vs' → p' ≤ tp.cs.length → tp.cs.drop p' = rest → Q (.again (rnLp w L I)) { s with heap := h', toks := tk' }) :
  wpC true (model PG w) A (denZ (rnLp w L I)) Q E s := by
  refine start_bot 42 hA rfl ?_
  refine go_oc (kNoLimit _) ([(2, [2, 3], (lstNextA (.str xv tv)))]) 38 42 (pl 0x402070000001c00001c00001c1082082041043) (fun _ => .call (.ref 700) ⟨[.ref X.x], []⟩) (fun _ => [okP ((I = I ∧ "list_iterator" = "list_iterator" ∧ 0 = 0 ∧ V = V ∧ "list" = "list") ∧ us[i.toNat]? = some (.str xv tv))]) (fun _ z => [(L, frmO (rnF5 w.params (fun j => if j = 7 then tokK z 0 7 else kk j) W k t l t2 b t3 tp.tl X.x G (some (.str xv tv))) (epZ z 0)), (G, lstO gs ng), (I, fldO "list_iterator" [.ref V, .int (i + 1) 0]), (V, lstO us 0)] ++ lxA w X tp (st.val t1) (.int (ln : Nat) lt) (.str ⟨⟨[]⟩⟩ tt) ts vs nt nw) 18 42 H (by exact byR w (fun w o => by kernel_rfl) (fun w o => by kernel_rfl)) (fun o => ok1 ⟨⟨rfl, rfl, rfl, rfl, rfl⟩, hv⟩) fun h1 tk1 o1 z H1 q1 q1' hc1 => ?_
  generalize tokK z 0 7 = k7 at H1 q1 q1'
  generalize epZ z 0 = e3 at H1 q1 q1'
  refine callF_ok hc1 (Ctr.toF ((gt_ctr (s := { s with heap := h1, toks := tk1 }) hR H1.right hT hp h256 hlen hs).mono (by omega))) fun f h2 tk2 hf => ?_
  obtain ⟨v2, rfl, ts', vs', nt', nw', wt, st1, lt', tt', ln', p', H2, q2, hT', hp', hd', rfl⟩ := hf
  have H3 : Hp (KK w) h2 ([(L, frmO (rnF5 w.params (fun j => if j = 7 then k7 else kk j) W k t l t2 b t3 tp.tl X.x G (some (.str xv tv))) e3), (G, lstO gs ng), (I, fldO "list_iterator" [.ref V, .int (i + 1) 0]), (V, lstO us 0)] ++ lxA w X tp (st'.val st1) (.int (Int.ofNat ln') lt') (.str ⟨⟨[]⟩⟩ tt') ts' vs' nt' nw') := hpBack H1 q2 H2
  have K3 := q1' _ (q2.more memR)
  have htz : ts'.length ≤ sizeLine := by
    rw [hT'.num]
    exact htl p' hp'
  have hfr : ∀ o, h2.get? (h2.objs.size + 0) ≠ some o := fun o e => Nat.lt_irrefl _ (Heap.lt_size e)
  have K3' : ∀ x o, s.heap.get? x = some o → ∃ o2, h2.get? x = some o2 := fun x o e => K3.still H H3 e
  clear hc1 q1'
  rw [rtVal, if_neg hq]
  refine go_o (s := { s with heap := h2, toks := tk2 }) (kNoLimit _) ([(7, [16], (extA lenX)), (3, [1, 18], (actA appendA))]) 1 42 (pl 0x41000) (fun _ => .again (rnLp w L I)) (fun _ => [okP (G = G ∧ "list" = "list" ∧ gs.length ≤ sizeLine), okP (tp.tl = tp.tl ∧ "list" = "list" ∧ ts'.length ≤ sizeLine)]) (fun o z => rnC w L G I V (fun j => if j = 7 then k7 else kk j) W k t l t2 b t3 (some (.str xv tv)) e3 (gs ++ [.ref (h2.objs.size + 0)]) (seqN z 1) us (i + 1) X tp (st'.val st1) ln' lt' tt' ts' vs' nt' nw' ++ [(h2.objs.size + 0, tupO [(.str ⟨⟨tok'⟩⟩ wt), .int (ts'.length : Nat) (tokQ z 18 1)])]) 19 H3 (by exact byR w (fun w o => by kernel_rfl) (fun w o => by kernel_rfl)) (fun o => ok2 ⟨rfl, rfl, hgz⟩ ⟨rfl, rfl, htz⟩) (fun h4 tk4 o z H4 k4 _ => ?_)
  exact next h4 tk4 p' k7 e3 _ st1 ln' lt' tt' ts' vs' nt' _ _ _ wt (fun o e => (K3' _ _ e).elim fun o2 e2 => hfr o2 e2) H4.left (H4.right.ce _ (List.mem_cons_self ..)) (K3.trans k4 fun b _ hb => hb) hT' hp' hd'
theorem rn_tss {xv : Str} {tv : Tok} {u : Value} {q' : Bool} {st' : Ls} {tok' rest : List Nat} {p : Nat} (hR : ReadCtr true w tp)
  (H : Hp (KK w) s.heap (rnC w L G I V kk W k t l t2 b t3 (some u) e2 gs ng us i X tp (st.val t1) ln lt tt ts vs nt nw)) (hA : Fit A 42) (hT : TpAt tp p ts vs) (hp : p ≤ tp.cs.length)
  (h256 : ∀ c ∈ tp.cs, c < 256) (hlen : tp.cs.length ≤ sizeLine) (hs : scan (tp.cs.drop p) false st [] = some (q', st', tok', rest)) (hv : us[i.toNat]? = some (.str xv tv)) (hgz : gs.length ≤ sizeLine) (hq : ¬ (tok' = [] ∧ q' = false)) (htl : ∀ p', p' ≤ tp.cs.length → blocks tp.k p' ≤ sizeLine)
  (next : ∀ h' tk' p' k7 e3 ng' st1 ln' lt' tt' ts' vs' nt' nw' U ut (wt : Tok), (∀ o, s.heap.get? U ≠ some o) → Hp (KK w) h' (rnC w L G I V (fun j => if j = 7 then k7 else kk j) W k t l t2 b t3 (some (.str xv tv)) e3 (gs ++ [.ref U]) ng' us (i + 1) X tp (st'.val st1) ln' lt' tt' ts' vs' nt' nw') → h'.get? U = some (tupO [(.str ⟨⟨tok'⟩⟩ wt), .int ts'.length ut]) → Kept s.heap h' (rnC w L G I V kk W k t l t2 b t3 (some u) e2 gs ng us i X tp (st.val t1) ln lt tt ts vs nt nw) → TpAt tp p' ts' vs' → p' ≤ tp.cs.length → tp.cs.drop p' = rest → Q (.again (rnLp w L I)) { s with heap := h', toks := tk' }) :
  wpC true (model PG w) A (denZ (rnLp w L I)) Q E s := by
  refine start_bot 42 hA rfl ?_
  refine go_oc (kNoLimit _) ([(2, [2, 3], (lstNextA (.str xv tv)))]) 38 42 (pl 0x402070000001c00001c00001c1082082041043) (fun _ => .call (.ref 700) ⟨[.ref X.x], []⟩) (fun _ => [okP ((I = I ∧ "list_iterator" = "list_iterator" ∧ 0 = 0 ∧ V = V ∧ "list" = "list") ∧ us[i.toNat]? = some (.str xv tv))]) (fun _ z => [(L, frmO (rnF5 w.params (fun j => if j = 7 then tokK z 0 7 else kk j) W k t l t2 b t3 tp.tl X.x G (some (.str xv tv))) (epZ z 0)), (G, lstO gs ng), (I, fldO "list_iterator" [.ref V, .int (i + 1) 0]), (V, lstO us 0)] ++ lxA w X tp (st.val t1) (.int (ln : Nat) lt) (.str ⟨⟨[]⟩⟩ tt) ts vs nt nw) 18 42 H (by exact byR w (fun w o => by kernel_rfl) (fun w o => by kernel_rfl)) (fun o => ok1 ⟨⟨rfl, rfl, rfl, rfl, rfl⟩, hv⟩) fun h1 tk1 o1 z H1 q1 q1' hc1 => ?_
  generalize tokK z 0 7 = k7 at H1 q1 q1'
  generalize epZ z 0 = e3 at H1 q1 q1'
  refine callF_ok hc1 (Ctr.toF ((gt_ctr (s := { s with heap := h1, toks := tk1 }) hR H1.right hT hp h256 hlen hs).mono (by omega))) fun f h2 tk2 hf => ?_
  obtain ⟨v2, rfl, ts', vs', nt', nw', wt, st1, lt', tt', ln', p', H2, q2, hT', hp', hd', rfl⟩ := hf
  have H3 : Hp (KK w) h2 ([(L, frmO (rnF5 w.params (fun j => if j = 7 then k7 else kk j) W k t l t2 b t3 tp.tl X.x G (some (.str xv tv))) e3), (G, lstO gs ng), (I, fldO "list_iterator" [.ref V, .int (i + 1) 0]), (V, lstO us 0)] ++ lxA w X tp (st'.val st1) (.int (Int.ofNat ln') lt') (.str ⟨⟨[]⟩⟩ tt') ts' vs' nt' nw') := hpBack H1 q2 H2
  have K3 := q1' _ (q2.more memR)
  have htz : ts'.length ≤ sizeLine := by
    rw [hT'.num]
    exact htl p' hp'
  have hfr : ∀ o, h2.get? (h2.objs.size + 0) ≠ some o := fun o e => Nat.lt_irrefl _ (Heap.lt_size e)
  have K3' : ∀ x o, s.heap.get? x = some o → ∃ o2, h2.get? x = some o2 := fun x o e => K3.still H H3 e
  clear hc1 q1'
  rw [rtVal, if_neg hq]
  refine go_o (s := { s with heap := h2, toks := tk2 }) (kNoLimit _) ([(7, [16], (extA lenX)), (3, [1, 18], (actA appendA))]) 1 42 (pl 0x41000) (fun _ => .again (rnLp w L I)) (fun _ => [okP (G = G ∧ "list" = "list" ∧ gs.length ≤ sizeLine), okP (tp.tl = tp.tl ∧ "list" = "list" ∧ ts'.length ≤ sizeLine)]) (fun o z => rnC w L G I V (fun j => if j = 7 then k7 else kk j) W k t l t2 b t3 (some (.str xv tv)) e3 (gs ++ [.ref (h2.objs.size + 0)]) (seqN z 1) us (i + 1) X tp (st'.val st1) ln' lt' tt' ts' vs' nt' nw' ++ [(h2.objs.size + 0, tupO [(.str ⟨⟨tok'⟩⟩ wt), .int (ts'.length : Nat) (tokQ z 18 1)])]) 19 H3 (by exact byR w (fun w o => by kernel_rfl) (fun w o => by kernel_rfl)) (fun o => ok2 ⟨rfl, rfl, hgz⟩ ⟨rfl, rfl, htz⟩) (fun h4 tk4 o z H4 k4 _ => ?_)
  exact next h4 tk4 p' k7 e3 _ st1 ln' lt' tt' ts' vs' nt' _ _ _ wt (fun o e => (K3' _ _ e).elim fun o2 e2 => hfr o2 e2) H4.left (H4.right.ce _ (List.mem_cons_self ..)) (K3.trans k4 fun b _ hb => hb) hT' hp' hd'
theorem rn_tsn  {u : Value} {q' : Bool} {st' : Ls} {tok' rest : List Nat} {p : Nat} (hR : ReadCtr true w tp)
  (H : Hp (KK w) s.heap (rnC w L G I V kk W k t l t2 b t3 (some u) e2 gs ng us i X tp (st.val t1) ln lt tt ts vs nt nw)) (hA : Fit A 42) (hT : TpAt tp p ts vs) (hp : p ≤ tp.cs.length)
  (h256 : ∀ c ∈ tp.cs, c < 256) (hlen : tp.cs.length ≤ sizeLine) (hs : scan (tp.cs.drop p) false st [] = some (q', st', tok', rest)) (hv : us[i.toNat]? = some .none) (hgz : gs.length ≤ sizeLine) (hq : (tok' = [] ∧ q' = false)) (htl : ∀ p', p' ≤ tp.cs.length → blocks tp.k p' ≤ sizeLine)
  (next : ∀ h' tk' p' k7 e3 ng' st1 ln' lt' tt' ts' vs' nt' nw' U ut (wt : Tok), (∀ o, s.heap.get? U ≠ some o) → Hp (KK w) h' (rnC w L G I V (fun j => if j = 7 then k7 else kk j) W k t l t2 b t3 (some .none) e3 (gs ++ [.ref U]) ng' us (i + 1) X tp (st'.val st1) ln' lt' tt' ts' vs' nt' nw') → h'.get? U = some (tupO [.none, .int ts'.length ut]) → Kept s.heap h' (rnC w L G I V kk W k t l t2 b t3 (some u) e2 gs ng us i X tp (st.val t1) ln lt tt ts vs nt nw) → TpAt tp p' ts' vs' → p' ≤ tp.cs.length → tp.cs.drop p' = rest → Q (.again (rnLp w L I)) { s with heap := h', toks := tk' }) :
  wpC true (model PG w) A (denZ (rnLp w L I)) Q E s := by
  refine start_bot 42 hA rfl ?_
  refine go_oc (kNoLimit _) ([(2, [2, 3], (lstNextA .none))]) 38 42 (pl 0x402070000001c00001c00001c1082082041043) (fun _ => .call (.ref 700) ⟨[.ref X.x], []⟩) (fun _ => [okP ((I = I ∧ "list_iterator" = "list_iterator" ∧ 0 = 0 ∧ V = V ∧ "list" = "list") ∧ us[i.toNat]? = some .none)]) (fun _ z => [(L, frmO (rnF5 w.params (fun j => if j = 7 then tokK z 0 7 else kk j) W k t l t2 b t3 tp.tl X.x G (some .none)) (epZ z 0)), (G, lstO gs ng), (I, fldO "list_iterator" [.ref V, .int (i + 1) 0]), (V, lstO us 0)] ++ lxA w X tp (st.val t1) (.int (ln : Nat) lt) (.str ⟨⟨[]⟩⟩ tt) ts vs nt nw) 18 42 H (by exact byR w (fun w o => by kernel_rfl) (fun w o => by kernel_rfl)) (fun o => ok1 ⟨⟨rfl, rfl, rfl, rfl, rfl⟩, hv⟩) fun h1 tk1 o1 z H1 q1 q1' hc1 => ?_
  generalize tokK z 0 7 = k7 at H1 q1 q1'
  generalize epZ z 0 = e3 at H1 q1 q1'
  refine callF_ok hc1 (Ctr.toF ((gt_ctr (s := { s with heap := h1, toks := tk1 }) hR H1.right hT hp h256 hlen hs).mono (by omega))) fun f h2 tk2 hf => ?_
  obtain ⟨v2, rfl, ts', vs', nt', nw', wt, st1, lt', tt', ln', p', H2, q2, hT', hp', hd', rfl⟩ := hf
  have H3 : Hp (KK w) h2 ([(L, frmO (rnF5 w.params (fun j => if j = 7 then k7 else kk j) W k t l t2 b t3 tp.tl X.x G (some .none)) e3), (G, lstO gs ng), (I, fldO "list_iterator" [.ref V, .int (i + 1) 0]), (V, lstO us 0)] ++ lxA w X tp (st'.val st1) (.int (Int.ofNat ln') lt') (.str ⟨⟨[]⟩⟩ tt') ts' vs' nt' nw') := hpBack H1 q2 H2
  have K3 := q1' _ (q2.more memR)
  have htz : ts'.length ≤ sizeLine := by
    rw [hT'.num]
    exact htl p' hp'
  have hfr : ∀ o, h2.get? (h2.objs.size + 0) ≠ some o := fun o e => Nat.lt_irrefl _ (Heap.lt_size e)
  have K3' : ∀ x o, s.heap.get? x = some o → ∃ o2, h2.get? x = some o2 := fun x o e => K3.still H H3 e
  clear hc1 q1'
  rw [rtVal, if_pos hq]
  refine go_o (s := { s with heap := h2, toks := tk2 }) (kNoLimit _) ([(7, [16], (extA lenX)), (3, [1, 18], (actA appendA))]) 1 42 (pl 0x41000) (fun _ => .again (rnLp w L I)) (fun _ => [okP (G = G ∧ "list" = "list" ∧ gs.length ≤ sizeLine), okP (tp.tl = tp.tl ∧ "list" = "list" ∧ ts'.length ≤ sizeLine)]) (fun o z => rnC w L G I V (fun j => if j = 7 then k7 else kk j) W k t l t2 b t3 (some .none) e3 (gs ++ [.ref (h2.objs.size + 0)]) (seqN z 1) us (i + 1) X tp (st'.val st1) ln' lt' tt' ts' vs' nt' nw' ++ [(h2.objs.size + 0, tupO [.none, .int (ts'.length : Nat) (tokQ z 18 1)])]) 19 H3 (by exact byR w (fun w o => by kernel_rfl) (fun w o => by kernel_rfl)) (fun o => ok2 ⟨rfl, rfl, hgz⟩ ⟨rfl, rfl, htz⟩) (fun h4 tk4 o z H4 k4 _ => ?_)
  exact next h4 tk4 p' k7 e3 _ st1 ln' lt' tt' ts' vs' nt' _ _ _ wt (fun o e => (K3' _ _ e).elim fun o2 e2 => hfr o2 e2) H4.left (H4.right.ce _ (List.mem_cons_self ..)) (K3.trans k4 fun b _ hb => hb) hT' hp' hd'
end
end Mine
end PRN7
section PRN8
open PySem PySem.W PyProof.Rows PySem.Calls
open PySem.Builtin.Str (occurrences)
set_option maxHeartbeats 0
namespace Mine
variable {B : Bool}
section
variable {w : World} {W L G I V : Addr} {k : Nat} {kk : Nat → Tok} {t t2 t3 : Tok} {b : Array UInt8} {s : Shared} {A : Around} {Q : PySem.Fin → Shared → Prop} {E : Value → Shared → Prop} {l : List Nat} {X : Lx} {tp : Tp} {ln : Nat} {lt tt t1 : Tok} {e2 ng nt nw : Nat} {gs us ts vs : List Value} {i : Int} {st : Ls}
theorem rn_te {u : Value}
  (H : Hp (KK w) s.heap (rnC w L G I V kk W k t l t2 b t3 (some u) e2 gs ng us i X tp (st.val t1) ln lt tt ts vs nt nw)) (hA : Fit A 42) (hv : us[i.toNat]? = none)
  (next : ∀ h' tk', Hp (KK w) h' [(L, frmO (rnF5 w.params kk W k t l t2 b t3 tp.tl X.x G (some u)) e2), (G, lstO gs ng)] → Kept s.heap h' (rnC w L G I V kk W k t l t2 b t3 (some u) e2 gs ng us i X tp (st.val t1) ln lt tt ts vs nt nw) → Q (.again (.block [] (rnEnv w L))) { s with heap := h', toks := tk' }) :
  wpC true (model PG w) A (denZ (rnLp w L I)) Q E s := by
  refine start_bot 42 hA rfl ?_
  exact go_o (kNoLimit _) ([(2, [2, 3], (lstStopA))]) 1 42 (pl 0x1503) (fun _ => .again (.block [] (rnEnv w L))) (fun _ => [okP ((I = I ∧ "list_iterator" = "list_iterator" ∧ 0 = 0 ∧ V = V ∧ "list" = "list") ∧ us[i.toNat]? = none)]) (fun o z => [(L, frmO (rnF5 w.params kk W k t l t2 b t3 tp.tl X.x G (some u)) e2), (G, lstO gs ng)]) 2 H (fun o => by kernel_rfl) (fun o => ok1 ⟨⟨rfl, rfl, rfl, rfl, rfl⟩, hv⟩) (fun h' tk' o z H' k' _ => next h' tk' H' k')
end
end Mine
end PRN8
section PRN9
open PySem PySem.W PyProof.Rows PySem.Calls
set_option maxHeartbeats 0
namespace Mine
inductive Tr (k n : Nat) : List Nat → Ls → List (Option (List Nat) × Nat) → Prop
  | nil {cs : List Nat} {st : Ls} : Tr k n cs st []
  | cons {cs : List Nat} {st st' : Ls} {q : Bool} {tok rest : List Nat} {e : Option (List Nat)} {lg : List (Option (List Nat) × Nat)} :
      scan cs false st [] = some (q, st', tok, rest) → (e = if tok = [] ∧ q = false then none else some tok) → Tr k n rest st' lg → Tr k n cs st ((e, blocks k (n - rest.length)) :: lg)
noncomputable def valL : Option (List Nat) → Tok → Value
  | none, _ => .none
  | some l, t => .str ⟨⟨l⟩⟩ t
noncomputable def LogOk (h : Heap) (as : List Addr) (gs : List Value) (lg : List (Option (List Nat) × Nat)) : Prop :=
  gs.length = lg.length ∧ ∀ (i : Nat) (e : Option (List Nat) × Nat), lg[i]? = some e → ∃ U t u, gs[i]? = some (.ref U) ∧ U ∉ as ∧ h.get? U = some (tupO [valL e.1 t, .int (e.2 : Nat) u])
theorem LogOk.keep {h h' : Heap} {as : List Addr} {gs : List Value} {lg : List (Option (List Nat) × Nat)} (x : LogOk h as gs lg) (k : ∀ b o, h.get? b = some o → b ∉ as → h'.get? b = some o) : LogOk h' as gs lg :=
  ⟨x.1, fun i e hi => let ⟨U, t, u, h1, h2, h3⟩ := x.2 i e hi; ⟨U, t, u, h1, h2, k _ _ h3 h2⟩⟩
theorem LogOk.snoc {h : Heap} {as : List Addr} {gs : List Value} {lg : List (Option (List Nat) × Nat)} (x : LogOk h as gs lg) {U : Addr} {e : Option (List Nat) × Nat} {t u : Tok} (hU : U ∉ as) (hg : h.get? U = some (tupO [valL e.1 t, .int (e.2 : Nat) u])) : LogOk h as (gs ++ [.ref U]) (lg ++ [e]) := by
  refine ⟨by simp [x.1], fun i e' hi => ?_⟩
  by_cases hlt : i < lg.length
  · rw [List.getElem?_append_left hlt] at hi
    obtain ⟨U', t', u', h1, h2, h3⟩ := x.2 i e' hi
    exact ⟨U', t', u', by rw [List.getElem?_append_left (by rw [x.1]; exact hlt)]; exact h1, h2, h3⟩
  · have hi' : i = lg.length := by
      have := (List.getElem?_eq_some_iff.mp hi).1
      rw [List.length_append, List.length_singleton] at this
      omega
    subst hi'
    rw [List.getElem?_append_right (Nat.le_refl _), Nat.sub_self] at hi
    simp only [List.getElem?_cons_zero, Option.some.injEq] at hi
    subst hi
    exact ⟨U, t, u, by rw [List.getElem?_append_right (by rw [x.1]; exact Nat.le_refl _), x.1, Nat.sub_self]; rfl, hU, hg⟩
section
variable {w : World} {W L G I V : Addr} {k : Nat} {kk : Nat → Tok} {t t2 t3 : Tok} {b : Array UInt8} {s : Shared} {l : List Nat} {X : Lx} {tp : Tp} {ln : Nat} {lt tt t1 : Tok} {e2 ng nt nw : Nat} {ts vs : List Value}
inductive RnI (w : World) (W L G I V : Addr) (k : Nat) (t t2 t3 : Tok) (b : Array UInt8) (l : List Nat) (X : Lx) (tp : Tp) (us : List Value) (lg : List (Option (List Nat) × Nat)) (nl : Nat) (h0 : Heap) (C0 : Cells) (n : Nat) (h : Heap) : Prop
  | mk (j p : Nat) (st : Ls) (kk' : Nat → Tok) (ov : Option Value) (e2 : Nat) (gs : List Value) (ng : Nat) (t1 : Tok) (ln : Nat) (lt tt : Tok) (ts vs : List Value) (nt nw : Nat) (hn : n = nl + 2 - j) (hj : j ≤ nl + 1) (hov : ov = none → j = 0) (hp : p ≤ tp.cs.length) (htr : Tr tp.k tp.cs.length (tp.cs.drop p) st (lg.drop j)) (hlk : LogOk h (C0.map (·.1)) gs (lg.take j)) (hT : TpAt tp p ts vs)
    (H : Hp (KK w) h (rnC w L G I V kk' W k t l t2 b t3 ov e2 gs ng (us ++ [.none]) ((j : Nat) : Int) X tp (Ls.val st t1) ln lt tt ts vs nt nw)) (q : Kept h0 h C0)
inductive RnPost (w : World) (L G W : Addr) (k : Nat) (t t2 t3 : Tok) (b : Array UInt8) (l : List Nat) (X : Lx) (tp : Tp) (lg : List (Option (List Nat) × Nat)) (h0 : Heap) (C0 : Cells) (f : Flow) (h : Heap) : Prop
  | mk (hf : f = .next) (u : Value) (kk' : Nat → Tok) (e9 : Nat) (gs : List Value) (ng9 : Nat) (H : Hp (KK w) h [(L, frmO (rnF5 w.params kk' W k t l t2 b t3 tp.tl X.x G (some u)) e9), (G, lstO gs ng9)]) (hlk : LogOk h (C0.map (·.1)) gs lg) (q : Kept h0 h C0)
theorem rn_loop {ls : List (List Nat)} {us : List Value} {lg : List (Option (List Nat) × Nat)} {m : Nat} (hR : ReadCtr true w tp) (hls : StrsOf ls us) (hne : ls ≠ []) (hlg : lg.length = ls.length) (hsome : ∀ e ∈ lg, e.1 ≠ none) (htr : Tr tp.k tp.cs.length tp.cs .bl (lg ++ [(none, m)]))
  (H : Hp (KK w) s.heap (rnC w L G I V kk W k t l t2 b t3 none e2 [] ng (us ++ [.none]) 0 X tp (Ls.val .bl t1) ln lt tt ts vs nt nw)) (hT : TpAt tp 0 ts vs)
  (h256 : ∀ c ∈ tp.cs, c < 256) (hlen : tp.cs.length ≤ sizeLine) (htl : ∀ p', p' ≤ tp.cs.length → blocks tp.k p' ≤ sizeLine) (hn : ls.length + 1 ≤ sizeLine) :
  CtrF true PG w (rnLp w L I) 43 s (RnPost w L G W k t t2 t3 b l X tp (lg ++ [(none, m)]) s.heap (rnC w L G I V kk W k t l t2 b t3 none e2 [] ng (us ++ [.none]) 0 X tp (Ls.val .bl t1) ln lt tt ts vs nt nw)) := by
  generalize hC0 : (rnC w L G I V kk W k t l t2 b t3 none e2 [] ng (us ++ [.none]) 0 X tp (Ls.val .bl t1) ln lt tt ts vs nt nw) = C0 at *
  have hA0 : ∀ kk ov e2 gs ng us i st ln lt tt ts vs nt nw, (rnC w L G I V kk W k t l t2 b t3 ov e2 gs ng us i X tp st ln lt tt ts vs nt nw).map (·.1) = C0.map (·.1) := fun _ _ _ _ _ _ _ _ _ _ _ _ _ _ _ => by rw [← hC0]; rfl
  have hul : us.length = ls.length := hls.1
  refine ctr_loop (s := s) rfl rfl 42 (RnI w W L G I V k t t2 t3 b l X tp us (lg ++ [(none, m)]) ls.length s.heap C0) ?_ (ls.length + 2)
    ⟨0, 0, .bl, kk, none, e2, [], ng, t1, ln, lt, tt, ts, vs, nt, nw, rfl, Nat.zero_le _, fun _ => rfl, Nat.zero_le _, (by rw [List.drop_zero, List.drop_zero]; exact htr), ⟨rfl, fun i e h => by simp at h⟩, hT, by rw [← hC0] at H; exact H, Kept.refl _ _⟩
  rintro n h tk A hA ⟨j, p, st, kk', ov, e3, gs, ng3, t13, ln3, lt3, tt3, ts3, vs3, nt3, nw3, rfl, hj, hov, hp, htr3, hlk, hT3, H3, q3⟩
  have hkeep : ∀ {h'}, Kept h h' (rnC w L G I V kk' W k t l t2 b t3 ov e3 gs ng3 (us ++ [.none]) ((j : Nat) : Int) X tp (Ls.val st t13) ln3 lt3 tt3 ts3 vs3 nt3 nw3) → ∀ b o, h.get? b = some o → b ∉ C0.map (·.1) → h'.get? b = some o := fun k b o e hb => k b o e (by rw [hA0]; exact hb)
  have hgl : gs.length = j := by rw [hlk.1, List.length_take, List.length_append, List.length_singleton, hlg]; omega
  have hgz : gs.length ≤ sizeLine := by omega
  by_cases hlt : j < ls.length + 1
  · have hLl : j < (lg ++ [(none, m)]).length := by rw [List.length_append, List.length_singleton, hlg]; exact hlt
    rw [List.drop_eq_getElem_cons hLl] at htr3
    generalize hej : (lg ++ [(none, m)])[j] = ej at htr3
    have hget : (lg ++ [(none, m)])[j]? = some ej := by rw [List.getElem?_eq_getElem hLl, hej]
    have htake : (lg ++ [(none, m)]).take (j + 1) = (lg ++ [(none, m)]).take j ++ [ej] := by rw [List.take_add_one, hget]; rfl
    obtain ⟨e0, m0⟩ := ej
    generalize hdr : (lg ++ [(none, m)]).drop (j + 1) = D at htr3
    cases htr3 with
    | @cons _ _ st' q tok rest _ _ hs he htr4 =>
      have fin : ∀ h' tk' p' k7 e4 ng4 st1 ln4 lt4 tt4 ts4 vs4 nt4 nw4 U ut wt v, (∀ o, h.get? U ≠ some o) → Hp (KK w) h' (rnC w L G I V (fun j => if j = 7 then k7 else kk' j) W k t l t2 b t3 (some v) e4 (gs ++ [.ref U]) ng4 (us ++ [.none]) (((j : Nat) : Int) + 1) X tp (Ls.val st' st1) ln4 lt4 tt4 ts4 vs4 nt4 nw4) → h'.get? U = some (tupO [valL e0 wt, .int (ts4.length : Nat) ut]) → Kept h h' (rnC w L G I V kk' W k t l t2 b t3 ov e3 gs ng3 (us ++ [.none]) ((j : Nat) : Int) X tp (Ls.val st t13) ln3 lt3 tt3 ts3 vs3 nt3 nw3) → TpAt tp p' ts4 vs4 → p' ≤ tp.cs.length → tp.cs.drop p' = rest →
          ∃ h2 tk2, ({ s with heap := h', toks := tk' } : Shared) = { s with heap := h2, toks := tk2 } ∧ ((rnLp w L I = rnLp w L I ∧ ∃ m9, m9 < ls.length + 2 - j ∧ RnI w W L G I V k t t2 t3 b l X tp us (lg ++ [(none, m)]) ls.length s.heap C0 m9 h2) ∨ False) := by
        intro h' tk' p' k7 e4 ng4 st1 ln4 lt4 tt4 ts4 vs4 nt4 nw4 U ut wt v hU H4 hg k4 hT4 hp4 hd4
        refine ⟨h', tk', rfl, .inl ⟨rfl, ls.length + 2 - (j + 1), by omega, j + 1, p', st', _, some v, e4, _, ng4, st1, ln4, lt4, tt4, ts4, vs4, nt4, nw4, rfl, by omega, (fun h => nomatch h), hp4, ?_, ?_, hT4, H4, ?_⟩⟩
        · rw [hdr, hd4]; exact htr4
        · rw [htake]
          refine (hlk.keep (hkeep k4)).snoc (t := wt) (u := ut) (fun hm => ?_) ?_
          · rw [← hA0 kk' ov e3 gs ng3 (us ++ [.none]) ((j : Nat) : Int) (Ls.val st t13) ln3 lt3 tt3 ts3 vs3 nt3 nw3] at hm
            obtain ⟨q9, hq9, e9⟩ := List.mem_map.mp hm
            exact hU q9.2 (e9 ▸ H3.ce q9 hq9)
          · rw [hg, hT4.num]
            have : p' = tp.cs.length - rest.length := by rw [← hd4, List.length_drop]; omega
            rw [← this]
        · exact fun b o e hb => hkeep k4 b o (q3 b o e hb) hb
      have lift : ∀ {f : PySem.Fin} {s' : Shared} {P1 P2 : Heap → Prop}, (∃ h2 tk2, s' = { s with heap := h2, toks := tk2 } ∧ (P1 h2 ∨ False)) → (∃ h2 tk2, s' = { s with heap := h2, toks := tk2 } ∧ (P1 h2 ∨ P2 h2)) := fun ⟨h2, tk2, e1, e2⟩ => ⟨h2, tk2, e1, .inl (e2.resolve_right id)⟩
      by_cases hw : j < ls.length
      · have hw1 : ls[j]? = some ls[j] := List.getElem?_eq_getElem hw
        obtain ⟨tv, hu⟩ := hls.2 j _ hw1
        have hv : (us ++ [Value.none])[(((j : Nat) : Int)).toNat]? = some (.str ⟨⟨ls[j]⟩⟩ tv) := by
          show (us ++ [Value.none])[j]? = _
          rw [List.getElem?_append_left (by rw [hul]; exact hw)]; exact hu
        have he0 : e0 ≠ none := by
          have hjl : j < lg.length := by rw [hlg]; exact hw
          rw [List.getElem?_append_left hjl, List.getElem?_eq_getElem hjl] at hget
          have := hsome _ (List.getElem_mem hjl)
          rw [Option.some.inj hget] at this
          exact this
        have hq : ¬ (tok = [] ∧ q = false) := fun hh => he0 (by rw [he, if_pos hh])
        rw [if_neg hq] at he
        subst he
        cases ov with
        | none =>
          exact rn_tns (s := { s with heap := h, toks := tk }) (u := .none) hR H3 hA hT3 hp h256 hlen hs hv hgz hq htl fun h' tk' p' k7 e4 ng4 st1 ln4 lt4 tt4 ts4 vs4 nt4 nw4 U ut wt hU H4 hg k4 hT4 hp4 hd4 =>
            lift (f := .done .next) (fin h' tk' p' k7 e4 ng4 st1 ln4 lt4 tt4 ts4 vs4 nt4 nw4 U ut wt _ hU H4 hg k4 hT4 hp4 hd4)
        | some u =>
          exact rn_tss (s := { s with heap := h, toks := tk }) hR H3 hA hT3 hp h256 hlen hs hv hgz hq htl fun h' tk' p' k7 e4 ng4 st1 ln4 lt4 tt4 ts4 vs4 nt4 nw4 U ut wt hU H4 hg k4 hT4 hp4 hd4 =>
            lift (f := .done .next) (fin h' tk' p' k7 e4 ng4 st1 ln4 lt4 tt4 ts4 vs4 nt4 nw4 U ut wt _ hU H4 hg k4 hT4 hp4 hd4)
      · have hje : j = ls.length := by omega
        have hv : (us ++ [Value.none])[(((j : Nat) : Int)).toNat]? = some .none := by
          show (us ++ [Value.none])[j]? = _
          rw [List.getElem?_append_right (by rw [hul]; omega), hul, hje, Nat.sub_self]; rfl
        have he0 : e0 = none := by
          rw [List.getElem?_append_right (by rw [hlg]; omega), hlg, hje, Nat.sub_self] at hget
          simp only [List.getElem?_cons_zero, Option.some.injEq, Prod.mk.injEq] at hget
          exact hget.1.symm
        have hq : tok = [] ∧ q = false := by
          by_cases hh : tok = [] ∧ q = false
          · exact hh
          · rw [if_neg hh, he0] at he; cases he
        subst he0
        cases ov with
        | none =>
          have := hov rfl
          exact absurd (List.length_eq_zero_iff.mp (by omega : ls.length = 0)) hne
        | some u =>
          exact rn_tsn (s := { s with heap := h, toks := tk }) hR H3 hA hT3 hp h256 hlen hs hv hgz hq htl fun h' tk' p' k7 e4 ng4 st1 ln4 lt4 tt4 ts4 vs4 nt4 nw4 U ut wt hU H4 hg k4 hT4 hp4 hd4 =>
            lift (f := .done .next) (fin h' tk' p' k7 e4 ng4 st1 ln4 lt4 tt4 ts4 vs4 nt4 nw4 U ut wt _ hU H4 hg k4 hT4 hp4 hd4)
  · have hje : j = ls.length + 1 := by omega
    subst hje
    have hv : (us ++ [Value.none])[(((ls.length + 1 : Nat) : Int)).toNat]? = none := by
      rw [List.getElem?_eq_none]; simp [hul]
    have hLt : (lg ++ [(none, m)]).take (ls.length + 1) = lg ++ [(none, m)] := List.take_of_length_le (by simp [hlg])
    rw [hLt] at hlk
    cases ov with
    | none => exact absurd (hov rfl) (by omega)
    | some u =>
      refine rn_te (s := { s with heap := h, toks := tk }) H3 hA hv fun h' tk' H' k' => ⟨h', tk', rfl, .inr ⟨_, rfl, rfl, u, kk', e3, gs, ng3, H', hlk.keep (hkeep k'), ?_⟩⟩
      exact fun b o e hb => hkeep k' b o (q3 b o e hb) hb
end
end Mine
end PRN9
section PRN10
open PySem PySem.W PyProof.Rows PySem.Calls
open PySem.Builtin.Str (occurrences)
set_option maxHeartbeats 0
namespace Mine
variable {B : Bool}
section
variable {w : World} {W L : Addr} {k : Nat} {kk : Nat → Tok} {t t2 t3 : Tok} {b : Array UInt8} {s : Shared} {A : Around} {Q : Flow → Shared → Prop} {E : Value → Shared → Prop}
theorem rn_kept {K : Sta} {h0 h1 h2 h3 : Heap} {x y : Addr × Obj} {c cs2 cs3 : Cells} {g : Addr} (H : Hp K h0 ([x, y] ++ c)) (H1 : h1.get? y.1 = some y.2) (H2 : h2.get? y.1 = some y.2) (k1 : Kept h0 h1 ([x, y] ++ c)) (q2 : Kept h1 h2 cs2) (q3 : Kept h2 h3 cs3)
  (e2 : ∀ q ∈ cs2.map (·.1), q = x.1 ∨ q = y.1 ∨ q = g ∨ q ∈ c.map (·.1)) (e3 : ∀ q ∈ cs3.map (·.1), q = x.1 ∨ q = g ∨ q ∈ c.map (·.1) ∨ h1.objs.size ≤ q) (hg : ∀ o, h0.get? g ≠ some o) : Kept h0 h3 ([x] ++ c) := fun b o e hb => by
  have hbx : b ≠ x.1 := fun h => hb (by rw [h]; exact List.mem_cons_self ..)
  have hbc : b ∉ c.map (·.1) := fun h => hb (by rw [List.map_append]; exact List.mem_append_right _ h)
  have hbg : b ≠ g := fun h => hg o (h ▸ e)
  have nd := H.nd
  have h1b : h1.get? b = some o ∧ h2.get? b = some o := by
    by_cases hy : b = y.1
    · have := H.ce y (by simp)
      rw [hy] at e ⊢
      rw [e] at this; cases this
      exact ⟨H1, H2⟩
    · have a1 : h1.get? b = some o := k1 b o e fun hm => by
        simp only [List.map_append, List.map_cons, List.map_nil, List.mem_append, List.mem_cons, List.not_mem_nil, or_false] at hm
        rcases hm with (hm | hm) | hm
        · exact hbx hm
        · exact hy hm
        · exact hbc hm
      exact ⟨a1, q2 b o a1 fun hm => by
        rcases e2 b hm with hm | hm | hm | hm
        · exact hbx hm
        · exact hy hm
        · exact hbg hm
        · exact hbc hm⟩
  refine q3 b o h1b.2 fun hm => ?_
  rcases e3 b hm with hm | hm | hm | hm
  · exact hbx hm
  · exact hbg hm
  · exact hbc hm
  · exact Nat.not_lt.mpr hm (Heap.lt_size h1b.1)
theorem rn_st8 {l : List Nat} {e2 n m : Nat} {us : List Value} {X : Lx} {tp : Tp} {ln : Nat} {lt tt t1 : Tok} {ls : List (List Nat)} {lg : List (Option (List Nat) × Nat)} (hR : ReadCtr true w tp) (hls : StrsOf ls us) (hne : ls ≠ []) (hlg : lg.length = ls.length) (hsome : ∀ e ∈ lg, e.1 ≠ none) (htr : Tr tp.k tp.cs.length tp.cs .bl (lg ++ [(none, m)]))
  (hT : TpAt tp 0 [] []) (h256 : ∀ c ∈ tp.cs, c < 256) (hlen : tp.cs.length ≤ sizeLine) (htl : ∀ p', p' ≤ tp.cs.length → blocks tp.k p' ≤ sizeLine) (hn : ls.length + 1 ≤ sizeLine)
  (H : Hp (KK w) s.heap ([(L, frmO (rnF4 w.params kk W k t l t2 b t3 tp.tl X.x) e2), (W, lstO us n)] ++ lxA w X tp (Ls.val .bl t1) (.int (ln : Nat) lt) (.str ⟨⟨[]⟩⟩ tt) [] [] 0 0)) (hA : Fit A 45)
  (next : ∀ h' tk' G gs ng as, h'.get? G = some (lstO gs ng) → LogOk h' as gs (lg ++ [(none, m)]) → Kept s.heap h' ([(L, frmO (rnF4 w.params kk W k t l t2 b t3 tp.tl X.x) e2)] ++ lxA w X tp (Ls.val .bl t1) (.int (ln : Nat) lt) (.str ⟨⟨[]⟩⟩ tt) [] [] 0 0) → Q (.ret (.ref G)) { s with heap := h', toks := tk' }) :
  wpC true (model PG w) A (execs ((rnB w).drop 7) (rnEnv w L)) Q E s := by
  rw [show (rnB w).drop 7 = hdS ((rnB w).drop 7) :: hdS ((rnB w).drop 8) :: (rnB w).drop 9 by kernel_rfl]
  refine execs_one (start_bot 45 hA (execsZ_eq _ _) ?_)
  refine go_o (kNoLimit _) [] 10 45 (pl 0x1041) (fun _ => .next) (fun _ => []) (fun o z => [(L, frmO (rnF4 w.params kk W k t l t2 b t3 tp.tl X.x ++ [ent w.params "log" (tokK z 0 6) (.ref (s.heap.objs.size + 0))]) (epZ z 0)), (W, lstO us n)] ++ lxA w X tp (Ls.val .bl t1) (.int (ln : Nat) lt) (.str ⟨⟨[]⟩⟩ tt) [] [] 0 0 ++ [(s.heap.objs.size + 0, lstO [] 0)]) 17 H (fun o => by kernel_rfl) (fun o p hp => absurd hp List.not_mem_nil) (fun h1 tk1 o z H1 k1 k1' => ?_)
  generalize tokK z 0 6 = k6 at H1 k1'
  generalize epZ z 0 = e3 at H1 k1'
  generalize hG : s.heap.objs.size + 0 = G at H1 k1'
  have hGf : ∀ o, s.heap.get? G ≠ some o := fun o e => by subst hG; exact Nat.lt_irrefl _ (Heap.lt_size e)
  refine execs_one (start_bot (s := { s with heap := h1, toks := tk1 }) 45 hA (execsZ_eq _ _) ?_)
  refine go_oc (s := { s with heap := h1, toks := tk1 }) (kNoLimit _) [(10, [1, 17], (addLA))] 11 45 (pl 0x15134d3092081) (fun _ => rnLp w L (h1.objs.size + 2)) (fun _ => [okP (W = W ∧ h1.objs.size + 0 = h1.objs.size + 0 ∧ "list" = "list" ∧ "list" = "list" ∧ us.length + 1 ≤ sizeLine)]) (fun _ z => [(L, frmO (rnF5 w.params (fun j => if j = 6 then k6 else kk j) W k t l t2 b t3 tp.tl X.x G none) e3), (W, lstO us n)] ++ lxA w X tp (Ls.val .bl t1) (.int (ln : Nat) lt) (.str ⟨⟨[]⟩⟩ tt) [] [] 0 0 ++ [(G, lstO [] 0)] ++ [(h1.objs.size + 0, lstO [.none] 0), (h1.objs.size + 1, lstO (us ++ [.none]) 0), (h1.objs.size + 2, fldO "list_iterator" [.ref (h1.objs.size + 1), .int 0 0])]) 20 45 H1 (by exact byR w (fun w o => by kernel_rfl) (fun w o => by kernel_rfl)) (fun o => ok1 ⟨rfl, rfl, rfl, rfl, by rw [hls.1]; exact hn⟩) fun h2 tk2 o2 z2 H2 q2 q2' hc2 => ?_
  have H3 : Hp (KK w) h2 (rnC w L G (h1.objs.size + 2) (h1.objs.size + 1) (fun j => if j = 6 then k6 else kk j) W k t l t2 b t3 none e3 [] 0 (us ++ [.none]) 0 X tp (Ls.val .bl t1) ln lt tt [] [] 0 0) := H2.picked [0, 16, 19, 18, 2, 3, 4, 5, 6, 7, 8, 9, 10, 11, 12, 13, 14, 15] (by decide) rfl
  refine callF_ok hc2 (CtrF.mono (rn_loop (s := { s with heap := h2, toks := tk2 }) hR hls hne hlg hsome htr H3 hT h256 hlen htl hn) (by omega)) fun f h3 tk3 hf => ?_
  obtain ⟨rfl, u, kk9, e9, gs, ng9, H4, hlk, q3⟩ := hf
  clear hc2
  refine go_o (s := { s with heap := h3, toks := tk3 }) (kNoLimit _) [] 0 45 (pl 0x1) (fun _ => .next) (fun _ => []) (fun o z => [(L, frmO (rnF5 w.params kk9 W k t l t2 b t3 tp.tl X.x G (some u)) e9), (G, lstO gs ng9)]) 2 H4 (by exact byR w (fun w o => by kernel_rfl) (fun w o => by kernel_rfl)) (fun o p hp => absurd hp List.not_mem_nil) (fun h4 tk4 o z H5 k5 _ => ?_)
  have k5s : Kept h3 h4 [] := k5.same H4 H5
  refine start_bot (s := { s with heap := h4, toks := tk4 }) 45 hA (execsZ_eq _ _) ?_
  refine go_o (s := { s with heap := h4, toks := tk4 }) (kNoLimit _) [] 3 45 (pl 0x41) (fun _ => .ret (.ref G)) (fun _ => []) (fun o z => [(L, frmO (rnF5 w.params kk9 W k t l t2 b t3 tp.tl X.x G (some u)) e9), (G, lstO gs ng9)]) 2 H5 (by exact byR w (fun w o => by kernel_rfl) (fun w o => by kernel_rfl)) (fun o p hp => absurd hp List.not_mem_nil) (fun h5 tk5 o z H6 k6' _ => ?_)
  have k6s : Kept h4 h5 [] := k6'.same H5 H6
  refine next h5 tk5 G gs ng9 _ (H6.ce _ (List.mem_cons_of_mem _ (List.mem_cons_self ..))) (hlk.keep fun b o e _ => k6s b o (k5s b o e List.not_mem_nil) List.not_mem_nil) fun b o e hb => ?_
  refine k6s b o (k5s b o ?_ List.not_mem_nil) List.not_mem_nil
  refine rn_kept (g := G) (c := lxA _ X tp (Ls.val .bl t1) (.int (ln : Nat) lt) (.str ⟨⟨[]⟩⟩ tt) [] [] 0 0) H (H1.ce (W, lstO us n) (List.mem_cons_of_mem _ (List.mem_cons_self ..))) (H2.ce (W, lstO us n) (List.mem_cons_of_mem _ (List.mem_cons_self ..))) k1 q2 q3 (fun q hq => ?_) (fun q hq => ?_) hGf b o e hb
  · rw [List.map_append, List.map_append] at hq
    rcases List.mem_append.mp hq with hq | hq
    · rcases List.mem_append.mp hq with hq | hq
      · simp only [List.map_cons, List.map_nil, List.mem_cons, List.not_mem_nil, or_false] at hq
        rcases hq with rfl | rfl
        · exact .inl rfl
        · exact .inr (.inl rfl)
      · exact .inr (.inr (.inr hq))
    · exact .inr (.inr (.inl (List.mem_singleton.mp hq)))
  · rw [rnC, List.map_append] at hq
    rcases List.mem_append.mp hq with hq | hq
    · simp only [List.map_cons, List.map_nil, List.mem_cons, List.not_mem_nil, or_false] at hq
      rcases hq with rfl | rfl | rfl | rfl
      · exact .inl rfl
      · exact .inr (.inl rfl)
      · exact .inr (.inr (.inr (Nat.le_add_right _ _)))
      · exact .inr (.inr (.inr (Nat.le_add_right _ _)))
    · exact .inr (.inr (.inl hq))
end
end Mine
end PRN10
section PRH
open PySem PySem.W PyProof.Rows PySem.Calls
set_option maxHeartbeats 0
namespace Mine
theorem len_s {α : Type} {n : Nat} : ∀ {l : List α}, l.length = n + 1 → ∃ x r, l = x :: r ∧ r.length = n
  | x :: r, h => ⟨x, r, rfl, Nat.succ.inj h⟩
theorem len2 {α : Type} {l : List α} (h : l.length = 2) : ∃ x0 x1, l = [x0, x1] := by
  obtain ⟨x0, r, rfl, h1⟩ := len_s h
  obtain ⟨x1, q, rfl, h2⟩ := len_s h1
  exact ⟨x0, x1, by rw [List.length_eq_zero_iff.mp h2]⟩
theorem len3 {α : Type} {l : List α} (h : l.length = 3) : ∃ x0 x1 x2, l = [x0, x1, x2] := by
  obtain ⟨x0, r, rfl, h1⟩ := len_s h
  obtain ⟨x1, x2, rfl⟩ := len2 h1
  exact ⟨x0, x1, x2, rfl⟩
theorem len4 {α : Type} {l : List α} (h : l.length = 4) : ∃ x0 x1 x2 x3, l = [x0, x1, x2, x3] := by
  obtain ⟨x0, r, rfl, h1⟩ := len_s h
  obtain ⟨x1, x2, x3, rfl⟩ := len3 h1
  exact ⟨x0, x1, x2, x3, rfl⟩
theorem len5 {α : Type} {l : List α} (h : l.length = 5) : ∃ x0 x1 x2 x3 x4, l = [x0, x1, x2, x3, x4] := by
  obtain ⟨x0, r, rfl, h1⟩ := len_s h
  obtain ⟨x1, x2, x3, x4, rfl⟩ := len4 h1
  exact ⟨x0, x1, x2, x3, x4, rfl⟩
section
variable {w : World} {T : Tp} {L : Addr} {k1 k2 : Tok} {ts vs : List Value} {nt nw : Nat} {A : Around} {Q : Flow → Shared → Prop} {E : Value → Shared → Prop} {s : Shared}

theorem rh2 {bb : Array UInt8} {t : Tok} {c0 c1 : UInt8} {m : Nat} (H : Hp (KK w) s.heap (rdC w T L k1 k2 (ts ++ [.bytes bb t]) [] nt nw)) (hA : Fit A 28) (hk : T.k = 2 ∨ T.k = 3 ∨ T.k = 4 ∨ T.k = 5) (hm : bb.size = m * T.k) (hb : bb.size ≤ sizeLine) (hc : swapB T.k bb = ⟨[c0, c1]⟩)
  (next : ∀ h' tk' toks nw', toks.length = 2 → Hp (KK w) h' (rdC w T L k1 k2 (ts ++ [.bytes bb t]) (sgn [c0.toNat, c1.toNat] toks) nt nw') → Kept s.heap h' (rdC w T L k1 k2 (ts ++ [.bytes bb t]) [] nt nw) → Q .next { s with heap := h', toks := tk' }) :
  wpC true (model PG w) A (execs (ifB (rdB w)).tail (rdEnv w T L)) Q E s := by
  refine start_bot 28 hA (execsZ_eq _ _) ?_
  refine go_oc (kNoLimit _) [(23, [7], (extA (lastX (.bytes bb t))))] 4 28 (pl 0x1005208206009249247) (fun _ => .call (.ref 51) ⟨[.bytes bb t, .int (Int.ofNat T.k) T.t2], []⟩) (fun _ => [okP (T.tl = T.tl ∧ "list" = "list" ∧ (-1 : Int) = -1 ∧ ∃ xs, (⟨ts ++ [.bytes bb t]⟩ : Array Value) = ⟨xs ++ [.bytes bb t]⟩)]) (fun _ z => rdC w T L k1 k2 (ts ++ [.bytes bb t]) [] nt nw) 9 28 H (by exact byR w (fun w o => by kernel_rfl) (fun w o => by kernel_rfl)) (fun o p hp => by rw [List.mem_singleton.mp hp]; exact ⟨⟨rfl, rfl, rfl, ts, rfl⟩, rfl⟩) fun h1 tk1 o1 z1 H1 q1 q1' hc1 => ?_
  refine callF_ok hc1 (Ctr.toF ((bs_ctr (s := { s with heap := h1, toks := tk1 }) hk hm hb H1).mono (by omega))) fun f h2 tk2 hf => ?_
  obtain ⟨v, rfl, ⟨t2, rfl⟩, k2'⟩ := hf
  rw [hc]
  have H2 := H1.stays k2'
  have K2 : Kept s.heap h2 (rdC w T L k1 k2 (ts ++ [.bytes bb t]) [] nt nw) := q1' _ k2'.all
  clear hc1 q1'
  refine go_oc (s := { s with heap := h2, toks := tk2 }) (kNoLimit _) [] 10 28 (pl 0x4a) (fun _ => rdLc w T L (h2.objs.size + 0) (h2.objs.size + 1) (h2.objs.size + 2)) (fun _ => []) (fun _ z => rdC w T L k1 k2 (ts ++ [.bytes bb t]) [] nt nw ++ [(h2.objs.size + 0, byIt ⟨[c0, c1]⟩ t2), (h2.objs.size + 1, lstO [] 0), (h2.objs.size + 2, dicE)]) 12 28 H2 (by exact byR w (fun w o => by kernel_rfl) (fun w o => by kernel_rfl)) (fun o p hp => absurd hp List.not_mem_nil) fun h3 tk3 o3 z3 H3 q3 q3' hc3 => ?_
  refine callF_ok hc3 (CtrF.mono (rc2 (s := { s with heap := h3, toks := tk3 }) H3.right) (by omega)) fun f h4 tk4 hf => ?_
  obtain ⟨rfl, it, toks, n4, kk, vv, ep, hl, H4, k4'⟩ := hf
  have H5 := Hp.glue H3 k4' H4 rfl
  have K5 : Kept s.heap h4 (rdC w T L k1 k2 (ts ++ [.bytes bb t]) [] nt nw) := K2.trans (q3' _ (k4'.more fun b hb => by rw [List.map_append]; exact List.mem_append_right _ hb)) fun b _ hb => hb
  clear hc3 q3'
  obtain ⟨x0, x1, rfl⟩ := len2 hl
  exact go_o (s := { s with heap := h4, toks := tk4 }) (kNoLimit _) ([(6, [8, 10], (extendA))]) 1 28 (pl 0x4c30c) (fun _ => .next) (fun _ => [okP (T.wl = T.wl ∧ h2.objs.size + 1 = h2.objs.size + 1 ∧ "list" = "list" ∧ "list" = "list" ∧ ([] : List Value).length + (sgn [c0.toNat, c1.toNat] [x0, x1]).length ≤ sizeLine)]) (fun _ z => rdC w T L k1 k2 (ts ++ [.bytes bb t]) (sgn [c0.toNat, c1.toNat] [x0, x1]) nt (seqN z 8)) 9 H5 (by exact byR w (fun w o => by kernel_rfl) (fun w o => by kernel_rfl)) (fun o p hp => by rw [List.mem_singleton.mp hp]; exact ⟨⟨rfl, rfl, rfl, rfl, by show 2 ≤ sizeLine; decide⟩, rfl⟩) (fun h6 tk6 o6 z6 H6 k6 _ => next h6 tk6 _ _ rfl H6 (K5.trans k6 fun b ⟨ob, eo⟩ hb => by
    rw [List.map_append] at hb
    rcases List.mem_append.mp hb with hb | hb
    · exact hb
    · exfalso
      have hlt := K2.below H2 rfl eo
      simp only [List.map_cons, List.map_nil, List.mem_cons, List.not_mem_nil, or_false] at hb
      rcases hb with rfl | rfl | rfl
      · exact Nat.lt_irrefl _ hlt
      · exact Nat.not_lt.mpr (Nat.le_add_right _ _) hlt
      · exact Nat.not_lt.mpr (Nat.le_add_right _ _) hlt))
theorem rh3 {bb : Array UInt8} {t : Tok} {c0 c1 c2 : UInt8} {m : Nat} (H : Hp (KK w) s.heap (rdC w T L k1 k2 (ts ++ [.bytes bb t]) [] nt nw)) (hA : Fit A 28) (hk : T.k = 2 ∨ T.k = 3 ∨ T.k = 4 ∨ T.k = 5) (hm : bb.size = m * T.k) (hb : bb.size ≤ sizeLine) (hc : swapB T.k bb = ⟨[c0, c1, c2]⟩)
  (next : ∀ h' tk' toks nw', toks.length = 3 → Hp (KK w) h' (rdC w T L k1 k2 (ts ++ [.bytes bb t]) (sgn [c0.toNat, c1.toNat, c2.toNat] toks) nt nw') → Kept s.heap h' (rdC w T L k1 k2 (ts ++ [.bytes bb t]) [] nt nw) → Q .next { s with heap := h', toks := tk' }) :
  wpC true (model PG w) A (execs (ifB (rdB w)).tail (rdEnv w T L)) Q E s := by
  refine start_bot 28 hA (execsZ_eq _ _) ?_
  refine go_oc (kNoLimit _) [(23, [7], (extA (lastX (.bytes bb t))))] 4 28 (pl 0x1005208206009249247) (fun _ => .call (.ref 51) ⟨[.bytes bb t, .int (Int.ofNat T.k) T.t2], []⟩) (fun _ => [okP (T.tl = T.tl ∧ "list" = "list" ∧ (-1 : Int) = -1 ∧ ∃ xs, (⟨ts ++ [.bytes bb t]⟩ : Array Value) = ⟨xs ++ [.bytes bb t]⟩)]) (fun _ z => rdC w T L k1 k2 (ts ++ [.bytes bb t]) [] nt nw) 9 28 H (by exact byR w (fun w o => by kernel_rfl) (fun w o => by kernel_rfl)) (fun o p hp => by rw [List.mem_singleton.mp hp]; exact ⟨⟨rfl, rfl, rfl, ts, rfl⟩, rfl⟩) fun h1 tk1 o1 z1 H1 q1 q1' hc1 => ?_
  refine callF_ok hc1 (Ctr.toF ((bs_ctr (s := { s with heap := h1, toks := tk1 }) hk hm hb H1).mono (by omega))) fun f h2 tk2 hf => ?_
  obtain ⟨v, rfl, ⟨t2, rfl⟩, k2'⟩ := hf
  rw [hc]
  have H2 := H1.stays k2'
  have K2 : Kept s.heap h2 (rdC w T L k1 k2 (ts ++ [.bytes bb t]) [] nt nw) := q1' _ k2'.all
  clear hc1 q1'
  refine go_oc (s := { s with heap := h2, toks := tk2 }) (kNoLimit _) [] 10 28 (pl 0x4a) (fun _ => rdLc w T L (h2.objs.size + 0) (h2.objs.size + 1) (h2.objs.size + 2)) (fun _ => []) (fun _ z => rdC w T L k1 k2 (ts ++ [.bytes bb t]) [] nt nw ++ [(h2.objs.size + 0, byIt ⟨[c0, c1, c2]⟩ t2), (h2.objs.size + 1, lstO [] 0), (h2.objs.size + 2, dicE)]) 12 28 H2 (by exact byR w (fun w o => by kernel_rfl) (fun w o => by kernel_rfl)) (fun o p hp => absurd hp List.not_mem_nil) fun h3 tk3 o3 z3 H3 q3 q3' hc3 => ?_
  refine callF_ok hc3 (CtrF.mono (rc3 (s := { s with heap := h3, toks := tk3 }) H3.right) (by omega)) fun f h4 tk4 hf => ?_
  obtain ⟨rfl, it, toks, n4, kk, vv, ep, hl, H4, k4'⟩ := hf
  have H5 := Hp.glue H3 k4' H4 rfl
  have K5 : Kept s.heap h4 (rdC w T L k1 k2 (ts ++ [.bytes bb t]) [] nt nw) := K2.trans (q3' _ (k4'.more fun b hb => by rw [List.map_append]; exact List.mem_append_right _ hb)) fun b _ hb => hb
  clear hc3 q3'
  obtain ⟨x0, x1, x2, rfl⟩ := len3 hl
  exact go_o (s := { s with heap := h4, toks := tk4 }) (kNoLimit _) ([(6, [8, 10], (extendA))]) 1 28 (pl 0x4c30c) (fun _ => .next) (fun _ => [okP (T.wl = T.wl ∧ h2.objs.size + 1 = h2.objs.size + 1 ∧ "list" = "list" ∧ "list" = "list" ∧ ([] : List Value).length + (sgn [c0.toNat, c1.toNat, c2.toNat] [x0, x1, x2]).length ≤ sizeLine)]) (fun _ z => rdC w T L k1 k2 (ts ++ [.bytes bb t]) (sgn [c0.toNat, c1.toNat, c2.toNat] [x0, x1, x2]) nt (seqN z 8)) 9 H5 (by exact byR w (fun w o => by kernel_rfl) (fun w o => by kernel_rfl)) (fun o p hp => by rw [List.mem_singleton.mp hp]; exact ⟨⟨rfl, rfl, rfl, rfl, by show 3 ≤ sizeLine; decide⟩, rfl⟩) (fun h6 tk6 o6 z6 H6 k6 _ => next h6 tk6 _ _ rfl H6 (K5.trans k6 fun b ⟨ob, eo⟩ hb => by
    rw [List.map_append] at hb
    rcases List.mem_append.mp hb with hb | hb
    · exact hb
    · exfalso
      have hlt := K2.below H2 rfl eo
      simp only [List.map_cons, List.map_nil, List.mem_cons, List.not_mem_nil, or_false] at hb
      rcases hb with rfl | rfl | rfl
      · exact Nat.lt_irrefl _ hlt
      · exact Nat.not_lt.mpr (Nat.le_add_right _ _) hlt
      · exact Nat.not_lt.mpr (Nat.le_add_right _ _) hlt))
theorem rh4 {bb : Array UInt8} {t : Tok} {c0 c1 c2 c3 : UInt8} {m : Nat} (H : Hp (KK w) s.heap (rdC w T L k1 k2 (ts ++ [.bytes bb t]) [] nt nw)) (hA : Fit A 28) (hk : T.k = 2 ∨ T.k = 3 ∨ T.k = 4 ∨ T.k = 5) (hm : bb.size = m * T.k) (hb : bb.size ≤ sizeLine) (hc : swapB T.k bb = ⟨[c0, c1, c2, c3]⟩)
  (next : ∀ h' tk' toks nw', toks.length = 4 → Hp (KK w) h' (rdC w T L k1 k2 (ts ++ [.bytes bb t]) (sgn [c0.toNat, c1.toNat, c2.toNat, c3.toNat] toks) nt nw') → Kept s.heap h' (rdC w T L k1 k2 (ts ++ [.bytes bb t]) [] nt nw) → Q .next { s with heap := h', toks := tk' }) :
  wpC true (model PG w) A (execs (ifB (rdB w)).tail (rdEnv w T L)) Q E s := by
  refine start_bot 28 hA (execsZ_eq _ _) ?_
  refine go_oc (kNoLimit _) [(23, [7], (extA (lastX (.bytes bb t))))] 4 28 (pl 0x1005208206009249247) (fun _ => .call (.ref 51) ⟨[.bytes bb t, .int (Int.ofNat T.k) T.t2], []⟩) (fun _ => [okP (T.tl = T.tl ∧ "list" = "list" ∧ (-1 : Int) = -1 ∧ ∃ xs, (⟨ts ++ [.bytes bb t]⟩ : Array Value) = ⟨xs ++ [.bytes bb t]⟩)]) (fun _ z => rdC w T L k1 k2 (ts ++ [.bytes bb t]) [] nt nw) 9 28 H (by exact byR w (fun w o => by kernel_rfl) (fun w o => by kernel_rfl)) (fun o p hp => by rw [List.mem_singleton.mp hp]; exact ⟨⟨rfl, rfl, rfl, ts, rfl⟩, rfl⟩) fun h1 tk1 o1 z1 H1 q1 q1' hc1 => ?_
  refine callF_ok hc1 (Ctr.toF ((bs_ctr (s := { s with heap := h1, toks := tk1 }) hk hm hb H1).mono (by omega))) fun f h2 tk2 hf => ?_
  obtain ⟨v, rfl, ⟨t2, rfl⟩, k2'⟩ := hf
  rw [hc]
  have H2 := H1.stays k2'
  have K2 : Kept s.heap h2 (rdC w T L k1 k2 (ts ++ [.bytes bb t]) [] nt nw) := q1' _ k2'.all
  clear hc1 q1'
  refine go_oc (s := { s with heap := h2, toks := tk2 }) (kNoLimit _) [] 10 28 (pl 0x4a) (fun _ => rdLc w T L (h2.objs.size + 0) (h2.objs.size + 1) (h2.objs.size + 2)) (fun _ => []) (fun _ z => rdC w T L k1 k2 (ts ++ [.bytes bb t]) [] nt nw ++ [(h2.objs.size + 0, byIt ⟨[c0, c1, c2, c3]⟩ t2), (h2.objs.size + 1, lstO [] 0), (h2.objs.size + 2, dicE)]) 12 28 H2 (by exact byR w (fun w o => by kernel_rfl) (fun w o => by kernel_rfl)) (fun o p hp => absurd hp List.not_mem_nil) fun h3 tk3 o3 z3 H3 q3 q3' hc3 => ?_
  refine callF_ok hc3 (CtrF.mono (rc4 (s := { s with heap := h3, toks := tk3 }) H3.right) (by omega)) fun f h4 tk4 hf => ?_
  obtain ⟨rfl, it, toks, n4, kk, vv, ep, hl, H4, k4'⟩ := hf
  have H5 := Hp.glue H3 k4' H4 rfl
  have K5 : Kept s.heap h4 (rdC w T L k1 k2 (ts ++ [.bytes bb t]) [] nt nw) := K2.trans (q3' _ (k4'.more fun b hb => by rw [List.map_append]; exact List.mem_append_right _ hb)) fun b _ hb => hb
  clear hc3 q3'
  obtain ⟨x0, x1, x2, x3, rfl⟩ := len4 hl
  exact go_o (s := { s with heap := h4, toks := tk4 }) (kNoLimit _) ([(6, [8, 10], (extendA))]) 1 28 (pl 0x4c30c) (fun _ => .next) (fun _ => [okP (T.wl = T.wl ∧ h2.objs.size + 1 = h2.objs.size + 1 ∧ "list" = "list" ∧ "list" = "list" ∧ ([] : List Value).length + (sgn [c0.toNat, c1.toNat, c2.toNat, c3.toNat] [x0, x1, x2, x3]).length ≤ sizeLine)]) (fun _ z => rdC w T L k1 k2 (ts ++ [.bytes bb t]) (sgn [c0.toNat, c1.toNat, c2.toNat, c3.toNat] [x0, x1, x2, x3]) nt (seqN z 8)) 9 H5 (by exact byR w (fun w o => by kernel_rfl) (fun w o => by kernel_rfl)) (fun o p hp => by rw [List.mem_singleton.mp hp]; exact ⟨⟨rfl, rfl, rfl, rfl, by show 4 ≤ sizeLine; decide⟩, rfl⟩) (fun h6 tk6 o6 z6 H6 k6 _ => next h6 tk6 _ _ rfl H6 (K5.trans k6 fun b ⟨ob, eo⟩ hb => by
    rw [List.map_append] at hb
    rcases List.mem_append.mp hb with hb | hb
    · exact hb
    · exfalso
      have hlt := K2.below H2 rfl eo
      simp only [List.map_cons, List.map_nil, List.mem_cons, List.not_mem_nil, or_false] at hb
      rcases hb with rfl | rfl | rfl
      · exact Nat.lt_irrefl _ hlt
      · exact Nat.not_lt.mpr (Nat.le_add_right _ _) hlt
      · exact Nat.not_lt.mpr (Nat.le_add_right _ _) hlt))
theorem rh5 {bb : Array UInt8} {t : Tok} {c0 c1 c2 c3 c4 : UInt8} {m : Nat} (H : Hp (KK w) s.heap (rdC w T L k1 k2 (ts ++ [.bytes bb t]) [] nt nw)) (hA : Fit A 28) (hk : T.k = 2 ∨ T.k = 3 ∨ T.k = 4 ∨ T.k = 5) (hm : bb.size = m * T.k) (hb : bb.size ≤ sizeLine) (hc : swapB T.k bb = ⟨[c0, c1, c2, c3, c4]⟩)
  (next : ∀ h' tk' toks nw', toks.length = 5 → Hp (KK w) h' (rdC w T L k1 k2 (ts ++ [.bytes bb t]) (sgn [c0.toNat, c1.toNat, c2.toNat, c3.toNat, c4.toNat] toks) nt nw') → Kept s.heap h' (rdC w T L k1 k2 (ts ++ [.bytes bb t]) [] nt nw) → Q .next { s with heap := h', toks := tk' }) :
  wpC true (model PG w) A (execs (ifB (rdB w)).tail (rdEnv w T L)) Q E s := by
  refine start_bot 28 hA (execsZ_eq _ _) ?_
  refine go_oc (kNoLimit _) [(23, [7], (extA (lastX (.bytes bb t))))] 4 28 (pl 0x1005208206009249247) (fun _ => .call (.ref 51) ⟨[.bytes bb t, .int (Int.ofNat T.k) T.t2], []⟩) (fun _ => [okP (T.tl = T.tl ∧ "list" = "list" ∧ (-1 : Int) = -1 ∧ ∃ xs, (⟨ts ++ [.bytes bb t]⟩ : Array Value) = ⟨xs ++ [.bytes bb t]⟩)]) (fun _ z => rdC w T L k1 k2 (ts ++ [.bytes bb t]) [] nt nw) 9 28 H (by exact byR w (fun w o => by kernel_rfl) (fun w o => by kernel_rfl)) (fun o p hp => by rw [List.mem_singleton.mp hp]; exact ⟨⟨rfl, rfl, rfl, ts, rfl⟩, rfl⟩) fun h1 tk1 o1 z1 H1 q1 q1' hc1 => ?_
  refine callF_ok hc1 (Ctr.toF ((bs_ctr (s := { s with heap := h1, toks := tk1 }) hk hm hb H1).mono (by omega))) fun f h2 tk2 hf => ?_
  obtain ⟨v, rfl, ⟨t2, rfl⟩, k2'⟩ := hf
  rw [hc]
  have H2 := H1.stays k2'
  have K2 : Kept s.heap h2 (rdC w T L k1 k2 (ts ++ [.bytes bb t]) [] nt nw) := q1' _ k2'.all
  clear hc1 q1'
  refine go_oc (s := { s with heap := h2, toks := tk2 }) (kNoLimit _) [] 10 28 (pl 0x4a) (fun _ => rdLc w T L (h2.objs.size + 0) (h2.objs.size + 1) (h2.objs.size + 2)) (fun _ => []) (fun _ z => rdC w T L k1 k2 (ts ++ [.bytes bb t]) [] nt nw ++ [(h2.objs.size + 0, byIt ⟨[c0, c1, c2, c3, c4]⟩ t2), (h2.objs.size + 1, lstO [] 0), (h2.objs.size + 2, dicE)]) 12 28 H2 (by exact byR w (fun w o => by kernel_rfl) (fun w o => by kernel_rfl)) (fun o p hp => absurd hp List.not_mem_nil) fun h3 tk3 o3 z3 H3 q3 q3' hc3 => ?_
  refine callF_ok hc3 (CtrF.mono (rc5 (s := { s with heap := h3, toks := tk3 }) H3.right) (by omega)) fun f h4 tk4 hf => ?_
  obtain ⟨rfl, it, toks, n4, kk, vv, ep, hl, H4, k4'⟩ := hf
  have H5 := Hp.glue H3 k4' H4 rfl
  have K5 : Kept s.heap h4 (rdC w T L k1 k2 (ts ++ [.bytes bb t]) [] nt nw) := K2.trans (q3' _ (k4'.more fun b hb => by rw [List.map_append]; exact List.mem_append_right _ hb)) fun b _ hb => hb
  clear hc3 q3'
  obtain ⟨x0, x1, x2, x3, x4, rfl⟩ := len5 hl
  exact go_o (s := { s with heap := h4, toks := tk4 }) (kNoLimit _) ([(6, [8, 10], (extendA))]) 1 28 (pl 0x4c30c) (fun _ => .next) (fun _ => [okP (T.wl = T.wl ∧ h2.objs.size + 1 = h2.objs.size + 1 ∧ "list" = "list" ∧ "list" = "list" ∧ ([] : List Value).length + (sgn [c0.toNat, c1.toNat, c2.toNat, c3.toNat, c4.toNat] [x0, x1, x2, x3, x4]).length ≤ sizeLine)]) (fun _ z => rdC w T L k1 k2 (ts ++ [.bytes bb t]) (sgn [c0.toNat, c1.toNat, c2.toNat, c3.toNat, c4.toNat] [x0, x1, x2, x3, x4]) nt (seqN z 8)) 9 H5 (by exact byR w (fun w o => by kernel_rfl) (fun w o => by kernel_rfl)) (fun o p hp => by rw [List.mem_singleton.mp hp]; exact ⟨⟨rfl, rfl, rfl, rfl, by show 5 ≤ sizeLine; decide⟩, rfl⟩) (fun h6 tk6 o6 z6 H6 k6 _ => next h6 tk6 _ _ rfl H6 (K5.trans k6 fun b ⟨ob, eo⟩ hb => by
    rw [List.map_append] at hb
    rcases List.mem_append.mp hb with hb | hb
    · exact hb
    · exfalso
      have hlt := K2.below H2 rfl eo
      simp only [List.map_cons, List.map_nil, List.mem_cons, List.not_mem_nil, or_false] at hb
      rcases hb with rfl | rfl | rfl
      · exact Nat.lt_irrefl _ hlt
      · exact Nat.not_lt.mpr (Nat.le_add_right _ _) hlt
      · exact Nat.not_lt.mpr (Nat.le_add_right _ _) hlt))
end
end Mine
end PRH
section PRR
open PySem PySem.W PyProof.Rows PySem.Calls
set_option maxHeartbeats 0
namespace Mine
section
variable {T : Tp} {m : Nat}
theorem blocks_ge (hk : 0 < T.k) (p : Nat) : p ≤ blocks T.k p * T.k := by
  unfold blocks
  have h1 := Nat.div_add_mod (p + T.k - 1) T.k
  have h2 := Nat.mod_lt (p + T.k - 1) hk
  rw [Nat.mul_comm] at h1
  omega
theorem blocks_le (h : TpOk T m) {p : Nat} (hp : p ≤ T.cs.length) : blocks T.k p * T.k ≤ T.cs.length := by
  have hk : 0 < T.k := by have := h.hk; omega
  rw [h.hm] at hp ⊢
  refine Nat.mul_le_mul_right _ ?_
  have h1 : blocks T.k p ≤ blocks T.k (m * T.k) := by
    unfold blocks
    exact Nat.div_le_div_right (by omega)
  rwa [blocks_at hk] at h1
theorem blocks_lt (hk : 0 < T.k) (p : Nat) : blocks T.k p * T.k < p + T.k := by
  unfold blocks
  have := Nat.div_mul_le_self (p + T.k - 1) T.k
  omega
theorem blocks_same (hk : 0 < T.k) {p : Nat} (hp : p < blocks T.k p * T.k) : blocks T.k (p + 1) = blocks T.k p := by
  have h1 := blocks_lt hk p
  unfold blocks at *
  have h3 : (p + 1 + T.k - 1) / T.k = (p + T.k - 1) / T.k := by
    apply Nat.div_eq_of_lt_le
    · omega
    · rw [Nat.succ_mul]; omega
  exact h3
theorem TpAt.one (h : TpOk T m) {p : Nat} {ts rest : List Value} {v : Value} (hT : TpAt T p ts (v :: rest)) (hp : p ≤ T.cs.length) : ∃ hp : p < T.cs.length, TpAt T (p + 1) ts rest ∧ ∃ t, v = .str ⟨#[T.cs[p]]⟩ t := by
  have hk : 0 < T.k := by have := h.hk; omega
  obtain ⟨tk, hl, hv⟩ := hT.wait
  have hb := blocks_le h hp
  have hlt : p < blocks T.k p * T.k := by
    apply Nat.lt_of_not_le
    intro hle
    rw [Nat.sub_eq_zero_of_le hle] at hv
    simp at hv
  have hpl : p < T.cs.length := Nat.lt_of_lt_of_le hlt hb
  obtain ⟨d, hd⟩ : ∃ d, blocks T.k p * T.k - p = d + 1 := ⟨blocks T.k p * T.k - p - 1, by omega⟩
  rw [hd] at hl hv
  rw [List.drop_eq_getElem_cons hpl, List.take_succ_cons] at hv
  cases tk with
  | nil => simp at hl
  | cons t0 tk =>
    rw [List.zipWith_cons_cons] at hv
    cases hv
    have hs := blocks_same hk hlt
    refine ⟨hpl, ⟨by rw [hs]; exact hT.num, tk, ?_, ?_⟩, t0, rfl⟩
    · rw [hs]
      simp at hl
      omega
    · rw [hs, show blocks T.k p * T.k - (p + 1) = d by omega]
theorem TpAt.none (h : TpOk T m) {p : Nat} {ts : List Value} (hT : TpAt T p ts []) (hp : p ≤ T.cs.length) : p = ts.length * T.k := by
  have hk : 0 < T.k := by have := h.hk; omega
  obtain ⟨tk, hl, hv⟩ := hT.wait
  have hb := blocks_le h hp
  have hg := blocks_ge hk p
  have e := congrArg List.length hv
  rw [List.length_zipWith, List.length_take, List.length_drop, hl] at e
  simp only [List.length_nil] at e
  rw [hT.num]
  omega
theorem few (h : TpOk T m) {p : Nat} {ts vs : List Value} (hT : TpAt T p ts vs) : vs.length < T.k := by
  have hk : 0 < T.k := by have := h.hk; omega
  obtain ⟨tk, hl, hv⟩ := hT.wait
  have := blocks_lt hk p
  rw [hv, List.length_zipWith, hl]
  omega
theorem taken_le (h : TpOk T m) {p : Nat} {ts vs : List Value} (hT : TpAt T p ts vs) (hp : p ≤ T.cs.length) : ts.length ≤ T.cs.length := by
  have hk : 0 < T.k := by have := h.hk; omega
  have := blocks_le h hp
  rw [← hT.num] at this
  exact Nat.le_trans (Nat.le_mul_of_pos_right _ hk) this
theorem u8_back {a : Nat} (h : a < 256) : a.toUInt8.toNat = a := by
  show (UInt8.ofNat a).toNat = a
  simp
  omega
theorem TpAt.fresh (h : TpOk T m) {ts : List Value} {v : Value} {a : Nat} {l : List Nat} {toks : List Tok} (hn : ts.length < m) (hl : (T.cs.drop (ts.length * T.k)).take T.k = a :: l) (ht : toks.length = l.length) :
    ∃ hp : ts.length * T.k < T.cs.length, a = T.cs[ts.length * T.k] ∧ TpAt T (ts.length * T.k + 1) (ts ++ [v]) (sgn l toks) := by
  have hk : 0 < T.k := by have := h.hk; omega
  have hmul : (ts.length + 1) * T.k ≤ m * T.k := Nat.mul_le_mul_right _ hn
  rw [Nat.succ_mul] at hmul
  have hpl : ts.length * T.k < T.cs.length := by rw [h.hm]; omega
  obtain ⟨d, hd⟩ : ∃ d, T.k = d + 1 := ⟨T.k - 1, by omega⟩
  rw [List.drop_eq_getElem_cons hpl] at hl
  have hl2 : List.take (d + 1) (T.cs[ts.length * T.k] :: List.drop (ts.length * T.k + 1) T.cs) = a :: l := by rw [← hd]; exact hl
  rw [List.take_succ_cons] at hl2
  injection hl2 with e1 e2
  have hb : blocks T.k (ts.length * T.k + 1) = ts.length + 1 := by
    unfold blocks
    apply Nat.div_eq_of_lt_le
    · rw [Nat.succ_mul]; omega
    · rw [Nat.succ_mul, Nat.succ_mul]; omega
  have hdiff : blocks T.k (ts.length * T.k + 1) * T.k - (ts.length * T.k + 1) = d := by rw [hb, Nat.succ_mul]; omega
  have hll : l.length = d := by
    rw [← e2, List.length_take, List.length_drop, h.hm]
    omega
  refine ⟨hpl, e1.symm, ⟨by rw [hb, List.length_append]; rfl, toks, by rw [hdiff, ht, hll], ?_⟩⟩
  rw [hdiff, e2]
  rfl
end
section
variable {w : World} {T : Tp} {L : Addr} {k1 k2 : Tok} {ts vs : List Value} {nt nw : Nat} {A : Around} {Q : Flow → Shared → Prop} {E : Value → Shared → Prop} {s : Shared}
theorem rdC_tp {h : Heap} (H : Hp (KK w) h (rdC w T L k1 k2 ts vs nt nw)) : Hp (KK w) h (tpC w T ts vs nt nw) := Hp.tl H
theorem rf_all {m : Nat} (hT : TpOk T m) (H : Hp (KK w) s.heap (rdC w T L k1 k2 ts [] nt nw)) (hA : Fit A 28) (hn : ts.length < m)
  (next : ∀ h' tk' t' toks nt' nw', toks.length = T.k → Hp (KK w) h' (rdC w T L k1 k2 (ts ++ [.bytes (blk T ts.length) t']) (sgn ((T.cs.drop (ts.length * T.k)).take T.k) toks) nt' nw') → Kept s.heap h' (rdC w T L k1 k2 ts [] nt nw) → Q .next { s with heap := h', toks := tk' }) :
  wpC true (model PG w) A (execs (ifB (rdB w)) (rdEnv w T L)) Q E s := by
  have hk := hT.hk
  have hocs : T.oct.size = T.cs.length := by rw [hT.oct, swapB_size, octs_size]
  have hts : ts.length ≤ sizeLine := by
    have h1 : ts.length * 1 ≤ m * T.k := Nat.mul_le_mul (Nat.le_of_lt hn) (by omega)
    have := hT.hlen
    rw [hT.hm] at this
    omega
  obtain ⟨hbs, hsw⟩ := blk_swap hT hn
  have hmul : (ts.length + 1) * T.k ≤ m * T.k := Nat.mul_le_mul_right _ hn
  rw [Nat.succ_mul] at hmul
  have hlen : ((T.cs.drop (ts.length * T.k)).take T.k).length = T.k := by
    rw [List.length_take, List.length_drop, hT.hm]; omega
  have h256 : ∀ c ∈ (T.cs.drop (ts.length * T.k)).take T.k, c < 256 := fun c hc => hT.h256 c (List.mem_of_mem_drop (List.mem_of_mem_take hc))
  have hkl : T.k ≤ sizeLine := by unfold sizeLine; omega
  rw [show ifB (rdB w) = hdS (ifB (rdB w)) :: (ifB (rdB w)).tail by kernel_rfl]
  refine rf_take H (hA.le (by omega)) hts (by rw [hocs]; exact hT.hlen) (by omega) fun h1 tk1 t1 H1 q1 => ?_
  generalize (T.cs.drop (ts.length * T.k)).take T.k = l at hsw hlen h256 next
  have main : ∀ h' tk' toks nw', toks.length = T.k → Hp (KK w) h' (rdC w T L k1 k2 (ts ++ [.bytes (blk T ts.length) t1]) (sgn l toks) (nt + 1) nw') → Kept h1 h' (rdC w T L k1 k2 (ts ++ [.bytes (blk T ts.length) t1]) [] (nt + 1) nw) → Q .next { s with heap := h', toks := tk' } :=
    fun h' tk' toks nw' ht H' k' => next h' tk' t1 toks (nt + 1) nw' ht H' (q1.trans k' fun b _ hb => hb)
  have hb1 : (blk T ts.length).size = 1 * T.k := by rw [hbs, Nat.one_mul]
  have hb2 : (blk T ts.length).size ≤ sizeLine := by rw [hbs]; exact hkl
  rcases hk with e | e | e | e
  · obtain ⟨a, b, rfl⟩ := len2 (hlen.trans e)
    have ha := u8_back (h256 a (by simp)); have hb := u8_back (h256 b (by simp))
    refine rh2 (s := { s with heap := h1, toks := tk1 }) H1 hA hT.hk hb1 hb2 hsw fun h' tk' toks nw' ht H' k' => ?_
    rw [ha, hb] at H'
    exact main h' tk' toks nw' (by rw [ht, e]) H' k'
  · obtain ⟨a, b, c, rfl⟩ := len3 (hlen.trans e)
    have ha := u8_back (h256 a (by simp)); have hb := u8_back (h256 b (by simp)); have hc := u8_back (h256 c (by simp))
    refine rh3 (s := { s with heap := h1, toks := tk1 }) H1 hA hT.hk hb1 hb2 hsw fun h' tk' toks nw' ht H' k' => ?_
    rw [ha, hb, hc] at H'
    exact main h' tk' toks nw' (by rw [ht, e]) H' k'
  · obtain ⟨a, b, c, d, rfl⟩ := len4 (hlen.trans e)
    have ha := u8_back (h256 a (by simp)); have hb := u8_back (h256 b (by simp)); have hc := u8_back (h256 c (by simp)); have hd := u8_back (h256 d (by simp))
    refine rh4 (s := { s with heap := h1, toks := tk1 }) H1 hA hT.hk hb1 hb2 hsw fun h' tk' toks nw' ht H' k' => ?_
    rw [ha, hb, hc, hd] at H'
    exact main h' tk' toks nw' (by rw [ht, e]) H' k'
  · obtain ⟨a, b, c, d, f, rfl⟩ := len5 (hlen.trans e)
    have ha := u8_back (h256 a (by simp)); have hb := u8_back (h256 b (by simp)); have hc := u8_back (h256 c (by simp)); have hd := u8_back (h256 d (by simp)); have hf := u8_back (h256 f (by simp))
    refine rh5 (s := { s with heap := h1, toks := tk1 }) H1 hA hT.hk hb1 hb2 hsw fun h' tk' toks nw' ht H' k' => ?_
    rw [ha, hb, hc, hd, hf] at H'
    exact main h' tk' toks nw' (by rw [ht, e]) H' k'
theorem rd_some {x : Str} {t : Tok} {rest : List Value} (H : Hp (KK w) s.heap (rdC w T L k1 k2 ts (.str x t :: rest) nt nw)) (hA : Fit A 12) (hr : rest.length ≤ 4)
  (next : ∀ h' tk' nw', Hp (KK w) h' (rdC w T L k1 k2 ts rest nt nw') → Kept s.heap h' (rdC w T L k1 k2 ts (.str x t :: rest) nt nw) → Q (.ret (.str x t)) { s with heap := h', toks := tk' }) :
  wpC true (model PG w) A (execs (rdB w).tail (rdEnv w T L)) Q E s := by
  match rest, hr with
  | [], _ => exact rd_ret1 H hA next
  | [a], _ => exact rd_ret2 H hA next
  | [a, b], _ => exact rd_ret3 H hA next
  | [a, b, c], _ => exact rd_ret4 H hA next
  | [a, b, c, d], _ => exact rd_ret5 H hA next
  | _ :: _ :: _ :: _ :: _ :: _, h => simp at h
end
theorem read_ctr {w : World} {T : Tp} {m : Nat} (hT : TpOk T m) : ReadCtr true w T := by
  intro s p ts vs nt nw u H hP hp
  refine ctr_def (kNoLimit w) 7 28 1 (pl 0x1249081).tail (body := rdB w) (env := rdEnv w T (s.heap.objs.size + 0)) (fun z => tpC w T ts vs nt nw ++ [(s.heap.objs.size + 0, rdFr w.params (tokK z 8 0) u)]) 9 H (by kernel_rfl) (by kernel_rfl) fun A1 h1 tk1 z hA1 H1 k1 k1' => ?_
  have H2 := H1.front
  generalize tokK z 8 0 = c0 at H2 k1'
  generalize hL : s.heap.objs.size + 0 = L at H2 k1'
  have kB : ∀ h, Kept h1 h (rdC w T L c0 u ts vs nt nw) → Kept s.heap h (tpC w T ts vs nt nw) := fun h k => k1' h (k.more fun b hb => by
    rw [List.map_append]
    rcases List.mem_cons.mp hb with rfl | hb
    · exact List.mem_append_right _ (by simp)
    · exact List.mem_append_left _ hb)
  clear k1 k1' H1
  have hk := hT.hk
  have hocs : T.oct.size = T.cs.length := by rw [hT.oct, swapB_size, octs_size]
  have hts : ts.length ≤ sizeLine := Nat.le_trans (taken_le hT hP hp) hT.hlen
  rw [show rdB w = .If (ifT (rdB w)) (ifB (rdB w)) (ifE (rdB w)) (ifP (rdB w)) :: (rdB w).tail by kernel_rfl]
  refine wpC_execs_cons (wpC_If ?_)
  rw [show ifT (rdB w) = .BoolOp .And [rdT1 w, rdT2 w] (bopP (ifT (rdB w))) by kernel_rfl, arm_isTrue_BoolOp]
  refine and2 (rd_first (s := { s with heap := h1, toks := tk1 }) H2 (hA1.le (by omega)) fun h2 tk2 H3 k3 => ?_)
  cases vs with
  | cons v rest =>
    obtain ⟨hpl, hT', t, rfl⟩ := hP.one hT hp
    have hfew := few hT hP
    rw [List.length_cons] at hfew
    show wpC _ _ _ (execs (ifE (rdB w)) _) _ _ _
    rw [show ifE (rdB w) = [] by kernel_rfl]
    refine wpC_execs_nil ?_
    refine rd_some (s := { s with heap := h2, toks := tk2 }) H3 (hA1.le (by omega)) (by omega) fun h4 tk4 nw4 H4 k4 => ?_
    exact ⟨h4, tk4, rfl, ts, rest, nt, nw4, rdC_tp H4, kB _ (k3.trans k4 fun b _ hb => hb), .inl ⟨hpl, hT', t, rfl⟩⟩
  | nil =>
    have hpe := hP.none hT hp
    show wpC _ _ _ (isTrue (rdT2 w) _ _) _ _ _
    refine rd_second (s := { s with heap := h2, toks := tk2 }) H3 (hA1.le (by omega)) hts (by rw [hocs]; exact hT.hlen) (by omega) fun h3 tk3 H4 k4 => ?_
    have K4 : Kept h1 h3 (rdC w T L c0 u ts [] nt nw) := k3.trans k4 fun b _ hb => hb
    by_cases hlt : ts.length * T.k < T.oct.size
    · rw [decide_eq_true hlt]
      have hn : ts.length < m := by
        apply Nat.lt_of_not_le
        intro hle
        have := Nat.mul_le_mul_right T.k hle
        rw [hocs, hT.hm] at hlt
        omega
      show wpC _ _ _ (execs (ifB (rdB w)) _) _ _ _
      refine rf_all (s := { s with heap := h3, toks := tk3 }) hT H4 hA1 hn fun h5 tk5 t5 toks nt5 nw5 ht H5 k5 => ?_
      have hl : ((T.cs.drop (ts.length * T.k)).take T.k).length = T.k := by
        have hmul : (ts.length + 1) * T.k ≤ m * T.k := Nat.mul_le_mul_right _ hn
        rw [Nat.succ_mul] at hmul
        rw [List.length_take, List.length_drop, hT.hm]; omega
      have hfr := fun a l toks => TpAt.fresh (toks := toks) (a := a) (l := l) (v := .bytes (blk T ts.length) t5) hT hn
      generalize (T.cs.drop (ts.length * T.k)).take T.k = l at H5 hl hfr
      match l, toks, hl, ht with
      | a :: l, t0 :: toks, hl, ht =>
        simp only [List.length_cons] at hl ht
        obtain ⟨hpl, rfl, hT'⟩ := hfr a l toks rfl (by omega)
        have H6 : Hp (KK w) h5 (rdC w T L c0 u (ts ++ [.bytes (blk T ts.length) t5]) (.str ⟨#[T.cs[ts.length * T.k]]⟩ t0 :: sgn l toks) nt5 nw5) := H5
        refine rd_some (s := { s with heap := h5, toks := tk5 }) H6 (hA1.le (by omega)) (by unfold sgn; rw [List.length_zipWith]; omega) fun h7 tk7 nw7 H7 k7 => ?_
        subst hpe
        exact ⟨h7, tk7, rfl, _, _, nt5, nw7, rdC_tp H7, kB _ ((K4.trans k5 fun b _ hb => hb).trans k7 fun b _ hb => hb), .inl ⟨hpl, hT', t0, rfl⟩⟩
      | [], _, hl, _ => simp only [List.length_nil] at hl; omega
      | _ :: _, [], _, ht => simp only [List.length_nil] at ht; omega
    · rw [decide_eq_false hlt]
      show wpC _ _ _ (execs (ifE (rdB w)) _) _ _ _
      rw [show ifE (rdB w) = [] by kernel_rfl]
      refine wpC_execs_nil ?_
      refine rd_ret0 (s := { s with heap := h3, toks := tk3 }) H4 (hA1.le (by omega)) fun h5 tk5 t5 H5 k5 => ?_
      exact ⟨h5, tk5, rfl, ts, [], nt, nw, rdC_tp H5, kB _ (K4.trans k5 fun b _ hb => hb), .inr ⟨by omega, hP, t5, rfl⟩⟩
end Mine
end PRR
section PRN11
open PySem PySem.W PyProof.Rows PySem.Calls
set_option maxHeartbeats 0
namespace Mine
theorem Kept.via {h0 h1 h2 : Heap} {cs0 cs1 : Cells} (K : Kept h0 h1 cs0) (k : Kept h1 h2 cs1) (hf : ∀ q ∈ cs1.map (·.1), (∀ o, h0.get? q ≠ some o) ∨ q ∈ cs0.map (·.1)) : Kept h0 h2 cs0 := fun b o e hb =>
  k b o (K b o e hb) fun hm => (hf b hm).elim (fun h => h o e) hb
theorem Kept.fresh {h0 h1 : Heap} {cs0 : Cells} (K : Kept h0 h1 cs0) {q : Addr} (hf : ∀ o, h1.get? q ≠ some o) : (∀ o, h0.get? q ≠ some o) ∨ q ∈ cs0.map (·.1) := by
  by_cases hq : q ∈ cs0.map (·.1)
  · exact .inr hq
  · exact .inl fun o e => hf o (K q o e hq)
theorem blocks0 (k : Nat) (hk : 0 < k) : blocks k 0 = 0 := by
  unfold blocks
  rw [Nat.zero_add]
  exact Nat.div_eq_of_lt (by omega)
theorem blocks_lt9 (k p : Nat) : blocks k p ≤ p + k := by
  unfold blocks
  exact Nat.le_trans (Nat.div_le_self _ _) (by omega)
inductive RunPost (s : Shared) (lg : List (Option (List Nat) × Nat)) (cs : Cells) (f : Flow) (s' : Shared) : Prop
  | mk (h : Heap) (g : Array GenState) (tk : Nat) (G : Addr) (gs : List Value) (ng : Nat) (as : List Addr) (hf : f = .ret (.ref G)) (hs : s' = { s with heap := h, gens := g, toks := tk }) (hG : h.get? G = some (lstO gs ng)) (hlk : LogOk h as gs lg) (q : Kept s.heap h cs) (t1 : ∃ ps, h.get? 745 = some (tbO ps)) (t2 : ∃ ps, h.get? 767 = some (tbO ps)) (hb : AllBare s.gens → AllBare g)
theorem rn_ctr {w : World} {W : Addr} {k : Nat} {t : Tok} {n m mm : Nat} {s : Shared} {us : List Value} {ls : List (List Nat)} {lg : List (Option (List Nat) × Nat)} (H : Hp (KK w) s.heap [(W, lstO us n), (745, plO), (767, plO)]) (hk : k = 2 ∨ k = 3 ∨ k = 4 ∨ k = 5)
  (hls : StrsOf ls us) (hne : ls ≠ []) (hlen : ∀ l ∈ ls, l.length ≤ 1000) (hn : ls.length ≤ 1000) (hw : (ls.map fun l => (quL l).length).sum + ls.length ≤ 1048576) (hjl : (jnL ls).length ≤ 10000) (h256 : ∀ c ∈ padL k (jnL ls), c < 256) (hm : (padL k (jnL ls)).length = m * k)
  (hlg : lg.length = ls.length) (hsome : ∀ e ∈ lg, e.1 ≠ none) (htr : Tr k (padL k (jnL ls)).length (padL k (jnL ls)) .bl (lg ++ [(none, mm)])) :
  CtrS true PG w (.call (.ref 777) ⟨[.ref W, .int (k : Nat) t], []⟩) 47 s (RunPost s (lg ++ [(none, mm)]) [(745, plO), (767, plO)]) := by
  refine ctrS_def (kNoLimit w) 11 45 0 (pl 0x104104000).tail (body := rnB w) (env := rnEnv w (s.heap.objs.size + 0)) (fun z => [(W, lstO us n), (745, plO), (767, plO), (s.heap.objs.size + 0, frmO (rnF0 w.params (fun i => tokK z 3 i) W k t) 2)]) 4 H (by kernel_rfl) (by kernel_rfl) fun A1 h1 tk1 z hA1 H1 k1 k1' => ?_
  have hk0 : 0 < k := by omega
  have hk5 : k ≤ 5 := by omega
  have hLf : ∀ o, s.heap.get? (s.heap.objs.size + 0) ≠ some o := fun o e => Nat.lt_irrefl _ (Heap.lt_size e)
  generalize (fun i => tokK z 3 i) = kk0 at H1 k1'
  generalize s.heap.objs.size + 0 = L at H1 k1' hLf ⊢
  have K1 : Kept s.heap h1 [(745, plO), (767, plO)] := fun b o e hb => (k1.same H (H1.left (b := [_]))) b o e List.not_mem_nil
  have hpl : (padL k (jnL ls)).length ≤ 10005 := by
    have hr := fmod_range (-((jnL ls).length : Int)) (m := (k : Nat)) (by omega)
    unfold padL padN
    rw [List.length_append, List.length_replicate]
    omega
  have H1' : Hp (KK w) h1 ([(L, frmO (rnF0 w.params kk0 W k t) 2), (W, lstO us n), (745, plO)] ++ [(767, plO)]) := H1.picked [3, 0, 1, 2] (by decide) rfl
  rw [show rnB w = hdS (rnB w) :: hdS ((rnB w).drop 1) :: hdS ((rnB w).drop 2) :: hdS ((rnB w).drop 3) :: hdS ((rnB w).drop 4) :: (((rnB w).drop 5).take 2 ++ (rnB w).drop 7) by kernel_rfl]
  refine rn_st1 (s := { s with heap := h1, toks := tk1 }) H1'.left hA1 hls hlen hn hw fun h2 g2 tk2 t2 k2 H2 q2 hT2 hBr => ?_
  have K2 : Kept s.heap h2 [(745, plO), (767, plO)] := K1.via q2 fun q hq => by
    simp only [List.map_cons, List.map_nil, List.mem_cons, List.not_mem_nil, or_false] at hq ⊢
    rcases hq with rfl | rfl
    · exact .inl hLf
    · exact .inr (.inl rfl)
  have H2' : Hp (KK w) h2 ([(L, frmO (rnF1 w.params (fun j => if j = 2 then k2 else kk0 j) W k t (jnL ls) t2) 3)] ++ [(W, lstO us n), (767, plO)]) := H1'.frame (cs' := [(L, _), (W, _)]) H2 (fun b o e hb => q2 b o e fun hm => hb (by
      simp only [List.map_cons, List.map_nil, List.mem_cons, List.not_mem_nil, or_false] at hm ⊢
      rcases hm with rfl | rfl
      · exact .inl rfl
      · exact .inr (.inr rfl))) fun p hp => .inl (by
      simp only [List.mem_cons, List.not_mem_nil, or_false] at hp
      rcases hp with rfl | rfl <;> simp)
  have hLo : ∀ q ∈ ([(L, plO)] : Cells).map (·.1), (∀ o, s.heap.get? q ≠ some o) ∨ q ∈ ([(745, plO), (767, plO)] : Cells).map (·.1) := fun q hq => by
    rw [List.mem_singleton.mp hq]; exact .inl hLf
  refine rn_st2 (s := { s with heap := h2, gens := g2, toks := tk2 }) H2'.left hA1 (by omega) hk fun h3 tk3 t3 e3 H3 q3 => ?_
  have H3' := Hp.frame1 (cs := [(L, _)]) (ex := [(W, lstO us n), (767, plO)]) H2' H3 q3
  have K3 := K2.via q3 hLo
  refine rn_st3 (s := { s with heap := h3, gens := g2, toks := tk3 }) H3 hA1 (by unfold sizeLine; omega) hk hm h256 fun h4 tk4 t4 e4 k4 H4 q4 => ?_
  have H4' := Hp.frame1 (cs := [(L, _)]) (ex := [(W, lstO us n), (767, plO)]) H3' H4 q4
  have K4 := K3.via q4 hLo
  refine rn_st4 (kk := fun j => if j = 3 then k4 else if j = 2 then k2 else kk0 j) (s := { s with heap := h4, gens := g2, toks := tk4 }) H4 hA1 fun h5 tk5 T e5 k5 hTf H5 q5 => ?_
  have H5' := Hp.frame (cs := [(L, _)]) (cs' := [(L, _), (T, lstO [] 0)]) (ex := [(W, lstO us n), (767, plO)]) H4' H5 q5 fun p hp => by
    simp only [List.mem_cons, List.not_mem_nil, or_false] at hp
    rcases hp with rfl | rfl
    · exact .inl (by simp)
    · exact .inr hTf
  have K5 := K4.via q5 hLo
  have hTo : (∀ o, s.heap.get? T ≠ some o) ∨ T ∈ ([(745, plO), (767, plO)] : Cells).map (·.1) := K4.fresh hTf
  have H5'' : Hp (KK w) h5 ([(L, frmO (rnF3 w.params (fun j => if j = 4 then k5 else if j = 3 then k4 else if j = 2 then k2 else kk0 j) W k t (padL k (jnL ls)) t3 (swapB k (octs (padL k (jnL ls)))) t4 T) e5), (T, lstO [] 0), (767, plO)] ++ [(W, lstO us n)]) := H5'.picked [0, 1, 3, 2] (by decide) rfl
  refine rn_st5 (s := { s with heap := h5, gens := g2, toks := tk5 }) H5''.left hA1 fun h6 tk6 X tp e6 k6 t6 lt nt tt hoct hkk hcs htl hfr H6 q6 hT6 => ?_
  subst htl
  have hfr6 : ∀ p ∈ lxB w X tp (.str "#" t6) false (.str " " lt) (.int 1 nt) (.str "" tt), (∀ o, s.heap.get? p.1 ≠ some o) ∨ p.1 ∈ ([(745, plO), (767, plO)] : Cells).map (·.1) := fun p hp => by
    rcases hfr p hp with h | h
    · rw [h]; exact hTo
    · exact K5.fresh h
  have H6' := Hp.frame (cs := [(L, _), (tp.tl, lstO [] 0), (767, plO)]) (ex := [(W, lstO us n)]) H5'' H6 q6 fun p hp => by
    rcases List.mem_cons.mp hp with rfl | hp
    · exact .inl (by simp)
    · rcases hfr p hp with h | h
      · exact .inl (by rw [h]; simp)
      · exact .inr h
  have K6 := K5.via q6 fun q hq => by
    simp only [List.map_cons, List.map_nil, List.mem_cons, List.not_mem_nil, or_false] at hq ⊢
    rcases hq with rfl | rfl | rfl
    · exact .inl hLf
    · simpa using hTo
    · exact .inr (.inr rfl)
  refine rn_st6 (kk := fun j => if j = 5 then k6 else if j = 4 then k5 else if j = 3 then k4 else if j = 2 then k2 else kk0 j) (s := { s with heap := h6, gens := g2, toks := tk6 }) H6 hA1 fun h7 tk7 cm H7 q7 => ?_
  have H7' := Hp.frame1 (cs := (L, _) :: _) (ex := [(W, lstO us n)]) H6' H7 q7
  have K7 := K6.via q7 fun q hq => by
    rcases List.mem_cons.mp hq with rfl | hq
    · exact .inl hLf
    · obtain ⟨p, hp, rfl⟩ := List.mem_map.mp hq
      exact hfr6 p hp
  have H7'' := H7'.picked (cs' := [(L, _), (W, lstO us n)] ++ lxA w { X with com := cm } tp (.str " " lt) (.int 1 nt) (.str ⟨⟨[]⟩⟩ tt) [] [] 0 0) [0, 15, 1, 2, 3, 4, 5, 6, 7, 8, 9, 10, 11, 12, 13, 14] (by decide) rfl
  have hTp : TpOk tp m := ⟨by rw [hkk]; exact hk, by rw [hcs, hkk]; exact hm, by rw [hoct, hkk, hcs], by rw [hcs]; exact h256, by rw [hcs]; unfold sizeLine; omega⟩
  refine rn_st8 (X := { X with com := cm }) (ln := 1) (s := { s with heap := h7, gens := g2, toks := tk7 }) (read_ctr hTp) hls hne hlg hsome (by rw [hkk, hcs]; exact htr) ⟨by rw [hkk, blocks0 k hk0]; rfl, [], by rw [hkk, blocks0 k hk0]; simp, by rw [List.zipWith_nil_right]⟩ (by rw [hcs]; exact h256) hTp.hlen (fun p' hp' => ?_) (by unfold sizeLine; omega) H7'' hA1 fun h8 tk8 G gs ng as hG hlk q8 => ?_
  · rw [hcs] at hp'
    rw [hkk]
    have := blocks_lt9 k p'
    unfold sizeLine; omega
  · have nd := H1'.nd
    simp only [List.cons_append, List.nil_append, List.map_cons, List.map_nil, List.nodup_cons, List.mem_cons, List.not_mem_nil, or_false, not_or] at nd
    have ndT := H5''.nd
    simp only [List.cons_append, List.nil_append, List.map_cons, List.map_nil, List.nodup_cons, List.mem_cons, List.not_mem_nil, or_false, not_or] at ndT
    have off : ∀ x o, h5.get? x = some o → x ≠ L → x ≠ tp.tl → x ∉ ((L, plO) :: lxB w X tp (.str "#" t6) false (.str " " lt) (.int 1 nt) (.str "" tt)).map (·.1) := fun x o eo hL hT hm => by
      rcases List.mem_cons.mp hm with h | h
      · exact hL h
      · obtain ⟨p, hp, e⟩ := List.mem_map.mp h
        rcases hfr p hp with h | h
        · exact hT (e.symm.trans h)
        · exact h o (e ▸ eo)
    obtain ⟨p1, hp1⟩ := hT2
    obtain ⟨p2, hp2⟩ := hT6
    have hL7 : ¬ 745 ∈ ([(L, plO)] : Cells).map (·.1) := by simp only [List.map_cons, List.map_nil, List.mem_singleton]; exact Ne.symm nd.1.2.1
    have r4 := q4 _ _ (q3 _ _ hp1 hL7) hL7
    have r5 := q5 _ _ r4 hL7
    have hT7 : 745 ≠ tp.tl := fun h => hTf _ (h ▸ r4)
    have m745 := off _ _ r5 (Ne.symm nd.1.2.1) hT7
    have r6 := q6 745 _ r5 (by simp only [List.map_cons, List.map_nil, List.mem_cons, List.not_mem_nil, or_false, not_or]; exact ⟨Ne.symm nd.1.2.1, hT7, by decide⟩)
    have m767 := off 767 plO (H5''.ce (767, plO) (by simp)) (Ne.symm nd.1.2.2) (Ne.symm ndT.2.1.1)
    refine ⟨h8, g2, tk8, G, gs, ng, as, rfl, rfl, hG, hlk, K7.via q8 fun q hq => ?_, ⟨p1, q8 _ _ (q7 _ _ r6 m745) m745⟩, ⟨p2, q8 _ _ (q7 _ _ hp2 m767) m767⟩, hBr⟩
    rcases List.mem_cons.mp hq with rfl | hq
    · exact .inl hLf
    · have hq' : q ∈ (lxB w X tp (.str "#" t6) false (.str " " lt) (.int 1 nt) (.str "" tt)).map (·.1) := hq
      obtain ⟨p, hp, rfl⟩ := List.mem_map.mp hq'
      exact hfr6 p hp
end Mine
end PRN11
section PTC4
open PySem PySem.W PyProof.Rows PySem.Calls
open PySem.Builtin.Str (occurrences)
set_option maxHeartbeats 0
namespace Mine
variable {B : Bool}
noncomputable def tdB (w : World) : List Stmt := stmtsOf (fdOf (KK w) 787)
noncomputable def tdEnv (w : World) (L : Addr) : Env := { scope := (fdOf (KK w) 787).scope, locals := L, globals := mainGlobals, cells := [], qual := "_law_told.<locals>.", func := some 787, code := .ref 786, frame := some L, builtins := builtinsNs }
noncomputable def tdE4 (w : World) : PySem.Expr := (callA (binL (binL (asgE (hdS (tdB w)))))).getD 0 default
noncomputable def wdD (P : Params) (k : Tok) (e : Nat) : Option Value → Obj
  | none => ⟨.type "dict", none, .dict #[] e, #[]⟩
  | some v => ⟨.type "dict", none, .dict #[ent P "word" k v] e, #[]⟩
noncomputable def c4C (w : World) (I C F W : Addr) (us : List Value) (nu : Nat) (i : Int) (vs : List Value) (n : Nat) (k : Tok) (e : Nat) (ov : Option Value) : Cells := [(I, fldO "list_iterator" [.ref W, .int i 0]), (C, lstO vs n), (F, wdD w.params k e ov), (W, lstO us nu)]
noncomputable def c4Lp (w : World) (L : Addr) (I C F : Addr) : Code := .compLoop (tdE4 w) 0 (.ref I) (.ref C) (lcEnv2 (tdE4 w) (tdEnv w L) [] F)
noncomputable def c4St (w : World) (L : Addr) (I C F : Addr) : Code := .compStart (tdE4 w) 0 (.ref I) (.ref C) (lcEnv2 (tdE4 w) (tdEnv w L) [] F)
theorem c4_nt {w : World} {L I C F W : Addr} {us : List Value} {nu : Nat} {k tv : Tok} {i : Int} {vs : List Value} {n e : Nat} {v : Value} {l : List Nat} {s : Shared} {A : Around} {Q : PySem.Fin → Shared → Prop} {E : Value → Shared → Prop} (H : Hp (KK w) s.heap (c4C w I C F W us nu i vs n k e none)) (hA : Fit A 22) (hx : us[i.toNat]? = some (.str ⟨⟨l⟩⟩ tv)) (hl : l.length ≤ sizeLine) (hz : vs.length ≤ sizeLine)
  (next : ∀ h' tk' (tt : Tok) k' e' n', Hp (KK w) h' (c4C w I C F W us nu (i + 1) (vs ++ [.int (sizeW l : Nat) tt]) n' k' e' (some (.str ⟨⟨l⟩⟩ tv))) → Kept s.heap h' (c4C w I C F W us nu i vs n k e none) → Q (.again (c4Lp w L I C F)) { s with heap := h', toks := tk' }) :
  wpC B (model PG w) A (denZ (c4Lp w L I C F)) Q E s := by
  refine start_bot 22 hA rfl ?_
  refine go_oc (kNoLimit _) ([(2, [0, 3], (lstNextA (.str ⟨⟨l⟩⟩ tv)))]) 13 22 (pl 0x10030030c1) (fun _ => .call (.ref 782) ⟨[.str ⟨⟨l⟩⟩ tv], []⟩) (fun _ => [okP ((I = I ∧ "list_iterator" = "list_iterator" ∧ 0 = 0 ∧ W = W ∧ "list" = "list") ∧ us[i.toNat]? = some (.str ⟨⟨l⟩⟩ tv))]) (fun o z => c4C w I C F W us nu (i + 1) vs n (tokK z 2 0) (epZ z 2) (some (.str ⟨⟨l⟩⟩ tv))) 4 22 H (fun o => by kernel_rfl) (fun o => ok1 ⟨⟨rfl, rfl, rfl, rfl, rfl⟩, hx⟩) fun h1 tk1 o1 z H1 q1 q1' hc1 => ?_
  generalize tokK z 2 0 = k2 at H1 q1 q1'
  generalize epZ z 2 = e2 at H1 q1 q1'
  refine callF_ok hc1 (Ctr.toF ((ls_ctr (s := { s with heap := h1, toks := tk1 }) hl H1).mono (by omega))) fun f h2 tk2 hf => ?_
  obtain ⟨v2, rfl, ⟨t2, rfl⟩, q2⟩ := hf
  have H3 : Hp (KK w) h2 (c4C w I C F W us nu (i + 1) vs n k2 e2 (some (.str ⟨⟨l⟩⟩ tv))) := H1.stays q2
  have K3 := q1' _ (q2.more fun b hb => absurd hb List.not_mem_nil)
  clear hc1 q1'
  exact go_o (s := { s with heap := h2, toks := tk2 }) (kNoLimit _) ([(1, [1], (actA appendA))]) 0 22 (pl 0x1) (fun _ => .again (c4Lp w L I C F)) (fun _ => [okP (C = C ∧ "list" = "list" ∧ (⟨vs⟩ : Array Value).size ≤ sizeLine)]) (fun o z => c4C w I C F W us nu (i + 1) (vs ++ [.int (sizeW l : Nat) t2]) (seqN z 1) k2 e2 (some (.str ⟨⟨l⟩⟩ tv))) 4 H3 (fun o => by kernel_rfl) (fun o => ok1 ⟨rfl, rfl, hz⟩) (fun h' tk' o z H' k' _ => next h' tk' _ _ _ _ H' (K3.trans k' fun b _ hb => hb))
theorem c4_ne {w : World} {L I C F W : Addr} {us : List Value} {nu : Nat} {k : Tok} {i : Int} {vs : List Value} {n e : Nat} {v : Value} {s : Shared} {A : Around} {Q : PySem.Fin → Shared → Prop} {E : Value → Shared → Prop} (H : Hp (KK w) s.heap (c4C w I C F W us nu i vs n k e none)) (hA : Fit A 22) (hx : us[i.toNat]? = none)
  (next : ∀ h' tk', Hp (KK w) h' [(I, fldO "list_iterator" [.none, .int i 0]), (C, lstO vs n), (F, wdD w.params k e none), (W, lstO us nu)] → Kept s.heap h' (c4C w I C F W us nu i vs n k e none) → Q (.done .next) { s with heap := h', toks := tk' }) :
  wpC B (model PG w) A (denZ (c4Lp w L I C F)) Q E s := by
  refine start_bot 22 hA rfl ?_
  exact go_o (kNoLimit _) ([(2, [0, 3], (lstStopA))]) 1 22 (pl 0x1181) (fun _ => .done .next) (fun _ => [okP ((I = I ∧ "list_iterator" = "list_iterator" ∧ 0 = 0 ∧ W = W ∧ "list" = "list") ∧ us[i.toNat]? = none)]) (fun o z => [(I, fldO "list_iterator" [.none, .int i 0]), (C, lstO vs n), (F, wdD w.params k e none), (W, lstO us nu)]) 4 H (fun o => by kernel_rfl) (fun o => ok1 ⟨⟨rfl, rfl, rfl, rfl, rfl⟩, hx⟩) (fun h' tk' o z H' k' _ => next h' tk' H' k')
theorem c4_st {w : World} {L I C F W : Addr} {us : List Value} {nu : Nat} {k tv : Tok} {i : Int} {vs : List Value} {n e : Nat} {v : Value} {l : List Nat} {s : Shared} {A : Around} {Q : PySem.Fin → Shared → Prop} {E : Value → Shared → Prop} (H : Hp (KK w) s.heap (c4C w I C F W us nu i vs n k e (some v))) (hA : Fit A 22) (hx : us[i.toNat]? = some (.str ⟨⟨l⟩⟩ tv)) (hl : l.length ≤ sizeLine) (hz : vs.length ≤ sizeLine)
  (next : ∀ h' tk' (tt : Tok) k' e' n', Hp (KK w) h' (c4C w I C F W us nu (i + 1) (vs ++ [.int (sizeW l : Nat) tt]) n' k' e' (some (.str ⟨⟨l⟩⟩ tv))) → Kept s.heap h' (c4C w I C F W us nu i vs n k e (some v)) → Q (.again (c4Lp w L I C F)) { s with heap := h', toks := tk' }) :
  wpC B (model PG w) A (denZ (c4Lp w L I C F)) Q E s := by
  refine start_bot 22 hA rfl ?_
  refine go_oc (kNoLimit _) ([(2, [0, 3], (lstNextA (.str ⟨⟨l⟩⟩ tv)))]) 13 22 (pl 0x10030030c1) (fun _ => .call (.ref 782) ⟨[.str ⟨⟨l⟩⟩ tv], []⟩) (fun _ => [okP ((I = I ∧ "list_iterator" = "list_iterator" ∧ 0 = 0 ∧ W = W ∧ "list" = "list") ∧ us[i.toNat]? = some (.str ⟨⟨l⟩⟩ tv))]) (fun o z => c4C w I C F W us nu (i + 1) vs n (tokK z 2 0) (epZ z 2) (some (.str ⟨⟨l⟩⟩ tv))) 4 22 H (fun o => by kernel_rfl) (fun o => ok1 ⟨⟨rfl, rfl, rfl, rfl, rfl⟩, hx⟩) fun h1 tk1 o1 z H1 q1 q1' hc1 => ?_
  generalize tokK z 2 0 = k2 at H1 q1 q1'
  generalize epZ z 2 = e2 at H1 q1 q1'
  refine callF_ok hc1 (Ctr.toF ((ls_ctr (s := { s with heap := h1, toks := tk1 }) hl H1).mono (by omega))) fun f h2 tk2 hf => ?_
  obtain ⟨v2, rfl, ⟨t2, rfl⟩, q2⟩ := hf
  have H3 : Hp (KK w) h2 (c4C w I C F W us nu (i + 1) vs n k2 e2 (some (.str ⟨⟨l⟩⟩ tv))) := H1.stays q2
  have K3 := q1' _ (q2.more fun b hb => absurd hb List.not_mem_nil)
  clear hc1 q1'
  exact go_o (s := { s with heap := h2, toks := tk2 }) (kNoLimit _) ([(1, [1], (actA appendA))]) 0 22 (pl 0x1) (fun _ => .again (c4Lp w L I C F)) (fun _ => [okP (C = C ∧ "list" = "list" ∧ (⟨vs⟩ : Array Value).size ≤ sizeLine)]) (fun o z => c4C w I C F W us nu (i + 1) (vs ++ [.int (sizeW l : Nat) t2]) (seqN z 1) k2 e2 (some (.str ⟨⟨l⟩⟩ tv))) 4 H3 (fun o => by kernel_rfl) (fun o => ok1 ⟨rfl, rfl, hz⟩) (fun h' tk' o z H' k' _ => next h' tk' _ _ _ _ H' (K3.trans k' fun b _ hb => hb))
theorem c4_se {w : World} {L I C F W : Addr} {us : List Value} {nu : Nat} {k : Tok} {i : Int} {vs : List Value} {n e : Nat} {v : Value} {s : Shared} {A : Around} {Q : PySem.Fin → Shared → Prop} {E : Value → Shared → Prop} (H : Hp (KK w) s.heap (c4C w I C F W us nu i vs n k e (some v))) (hA : Fit A 22) (hx : us[i.toNat]? = none)
  (next : ∀ h' tk', Hp (KK w) h' [(I, fldO "list_iterator" [.none, .int i 0]), (C, lstO vs n), (F, wdD w.params k e (some v)), (W, lstO us nu)] → Kept s.heap h' (c4C w I C F W us nu i vs n k e (some v)) → Q (.done .next) { s with heap := h', toks := tk' }) :
  wpC B (model PG w) A (denZ (c4Lp w L I C F)) Q E s := by
  refine start_bot 22 hA rfl ?_
  exact go_o (kNoLimit _) ([(2, [0, 3], (lstStopA))]) 1 22 (pl 0x1181) (fun _ => .done .next) (fun _ => [okP ((I = I ∧ "list_iterator" = "list_iterator" ∧ 0 = 0 ∧ W = W ∧ "list" = "list") ∧ us[i.toNat]? = none)]) (fun o z => [(I, fldO "list_iterator" [.none, .int i 0]), (C, lstO vs n), (F, wdD w.params k e (some v)), (W, lstO us nu)]) 4 H (fun o => by kernel_rfl) (fun o => ok1 ⟨⟨rfl, rfl, rfl, rfl, rfl⟩, hx⟩) (fun h' tk' o z H' k' _ => next h' tk' H' k')
inductive c4Post (w : World) (I C F W : Addr) (us : List Value) (nu : Nat) (ls : List (List Nat)) (h0 : Heap) (cs0 : Cells) (f : Flow) (h : Heap) : Prop
  | mk (hf : f = .next) (it : Obj) (vs : List Value) (n : Nat) (k : Tok) (e : Nat) (ov : Option Value) (hl : IntsOf (ls.map sizeW) vs) (H : Hp (KK w) h [(I, it), (C, lstO vs n), (F, wdD w.params k e ov), (W, lstO us nu)]) (q : Kept h0 h cs0)
inductive c4I (w : World) (I C F W : Addr) (us : List Value) (nu : Nat) (ls : List (List Nat)) (h0 : Heap) (cs0 : Cells) (m : Nat) (h : Heap) : Prop
  | mk (j : Nat) (vs : List Value) (n : Nat) (k : Tok) (e : Nat) (ov : Option Value) (hm : m = ls.length - j) (hj : j ≤ ls.length) (hl : IntsOf ((ls.take j).map sizeW) vs) (H : Hp (KK w) h (c4C w I C F W us nu ((j : Nat) : Int) vs n k e ov)) (q : Kept h0 h cs0)
theorem c4_loop {w : World} {L I C F W : Addr} {us : List Value} {nu : Nat} {ls : List (List Nat)} {k : Tok} {e : Nat} {s : Shared} (hls : StrsOf ls us) (hlen : ∀ l ∈ ls, l.length ≤ sizeLine) (hn : ls.length ≤ sizeLine) (H : Hp (KK w) s.heap (c4C w I C F W us nu 0 [] 0 k e none)) :
  CtrF B PG w (c4Lp w L I C F) 23 s (c4Post w I C F W us nu ls s.heap (c4C w I C F W us nu 0 [] 0 k e none)) := by
  refine ctr_loop (s := s) rfl rfl 22 (c4I w I C F W us nu ls s.heap (c4C w I C F W us nu 0 [] 0 k e none)) ?_ ls.length
    ⟨0, [], 0, k, e, none, rfl, Nat.zero_le _, ⟨rfl, fun i n h => by simp at h⟩, H, Kept.refl _ _⟩
  rintro m h tk A hA ⟨j, vs, n, k1, e1, ov, rfl, hj, hg, H1, q1⟩
  have hvl : vs.length ≤ sizeLine := by rw [hg.1, List.length_map, List.length_take]; omega
  by_cases hlt : j < ls.length
  · obtain ⟨tv, hx0⟩ := hls.2 j _ (List.getElem?_eq_getElem hlt)
    have hx : us[(((j : Nat) : Int)).toNat]? = some (.str ⟨⟨ls[j]⟩⟩ tv) := hx0
    have htk : ls.take (j + 1) = ls.take j ++ [ls[j]] := by rw [List.take_add_one, List.getElem?_eq_getElem hlt]; rfl
    have hg2 : ∀ tt : Tok, IntsOf ((ls.take (j + 1)).map sizeW) (vs ++ [.int (sizeW ls[j] : Nat) tt]) := fun tt => by rw [htk, List.map_append]; exact hg.snoc _ _
    rcases ov with _ | v
    · exact c4_nt (v := .none) (s := { s with heap := h, toks := tk }) H1 hA hx (hlen _ (List.getElem_mem hlt)) hvl fun h' tk' tt k' e' n' H' k2 => ⟨h', tk', rfl, .inl ⟨rfl, ls.length - (j + 1), by omega, j + 1, _, n', k', e', _, rfl, hlt, hg2 tt, H', q1.trans k2 fun b _ hb => hb⟩⟩
    · exact c4_st (s := { s with heap := h, toks := tk }) H1 hA hx (hlen _ (List.getElem_mem hlt)) hvl fun h' tk' tt k' e' n' H' k2 => ⟨h', tk', rfl, .inl ⟨rfl, ls.length - (j + 1), by omega, j + 1, _, n', k', e', _, rfl, hlt, hg2 tt, H', q1.trans k2 fun b _ hb => hb⟩⟩
  · have hjl : j = ls.length := by omega
    subst hjl
    rw [List.take_length] at hg
    have hx : us[(((ls.length : Nat) : Int)).toNat]? = none := by
      rw [List.getElem?_eq_none]; rw [hls.1]; exact Nat.le_refl _
    rcases ov with _ | v
    · exact c4_ne (v := .none) (s := { s with heap := h, toks := tk }) H1 hA hx fun h' tk' H' k' => ⟨h', tk', rfl, rfl, _, _, _, _, _, _, hg, H', q1.trans k' fun b _ hb => hb⟩
    · exact c4_se (s := { s with heap := h, toks := tk }) H1 hA hx fun h' tk' H' k' => ⟨h', tk', rfl, rfl, _, _, _, _, _, _, hg, H', q1.trans k' fun b _ hb => hb⟩
theorem c4_ctr {w : World} {L I C F W : Addr} {us : List Value} {nu : Nat} {ls : List (List Nat)} {k : Tok} {e : Nat} {s : Shared} (hls : StrsOf ls us) (hlen : ∀ l ∈ ls, l.length ≤ sizeLine) (hn : ls.length ≤ sizeLine) (H : Hp (KK w) s.heap (c4C w I C F W us nu 0 [] 0 k e none)) :
  CtrF B PG w (c4St w L I C F) 23 s (c4Post w I C F W us nu ls s.heap (c4C w I C F W us nu 0 [] 0 k e none)) := by
  refine ctr_again (c' := c4Lp w L I C F) 22 rfl rfl fun A hA => ?_
  have fin : ∀ h' tk', Hp (KK w) h' (c4C w I C F W us nu 0 [] 0 k e none) → Kept s.heap h' (c4C w I C F W us nu 0 [] 0 k e none) →
      (PySem.Fin.again (c4Lp w L I C F) = .again (c4Lp w L I C F) ∧ ∃ h2 tk2, ({ s with heap := h', toks := tk' } : Shared) = { s with heap := h2, toks := tk2 } ∧ CtrF B PG w (c4Lp w L I C F) 23 { s with heap := h', toks := tk' } (c4Post w I C F W us nu ls s.heap (c4C w I C F W us nu 0 [] 0 k e none))) := fun h' tk' H' k' =>
    ⟨rfl, h', tk', rfl, fun A R hA hR => c4_loop (s := { s with heap := h', toks := tk' }) hls hlen hn H' A R hA fun f h2 tk2 ⟨e0, it, vs, n, k1, e1, ov, hg, H2, k2⟩ => hR f h2 tk2 ⟨e0, it, vs, n, k1, e1, ov, hg, H2, k'.trans k2 fun b _ hb => hb⟩⟩
  refine start_bot 22 hA rfl ?_
  obtain ⟨w, b2, rfl⟩ := row_world "comprehension-iter-twice" w
  cases b2
  · skip
    exact go_o (kNoLimit _) [] 11 22 (pl 0x1041041) (fun _ => .again (c4Lp _ L I C F)) (fun _ => []) (fun o z => c4C (w.withFollow "comprehension-iter-twice" false) I C F W us nu 0 [] 0 k e none) 4 H (by exact byR w (fun w o => by kernel_rfl) (fun w o => by kernel_rfl)) (fun o p hp => absurd hp List.not_mem_nil) (fun h' tk' o z H' k' _ => fin h' tk' H' k')
  · skip
    exact go_o (kNoLimit _) [] 1 22 (pl 0x1) (fun _ => .again (c4Lp _ L I C F)) (fun _ => []) (fun o z => c4C (w.withFollow "comprehension-iter-twice" true) I C F W us nu 0 [] 0 k e none) 4 H (by exact byR w (fun w o => by kernel_rfl) (fun w o => by kernel_rfl)) (fun o p hp => absurd hp List.not_mem_nil) (fun h' tk' o z H' k' _ => fin h' tk' H' k')
end Mine
end PTC4
section PTD
open PySem PySem.W PyProof.Rows PySem.Calls
open PySem.Builtin.Str (occurrences)
set_option maxHeartbeats 0
namespace Mine
variable {B : Bool}
section
variable {w : World} {W L : Addr} {ls : List (List Nat)} {us : List Value} {nu : Nat} {k : Nat} {kk : Nat → Tok} {t : Tok} {s : Shared} {A : Around} {Q : Flow → Shared → Prop} {E : Value → Shared → Prop}
noncomputable def wholeN (ls : List (List Nat)) : Int := ((ls.map sizeW).map Int.ofNat).sum + (ls.length : Nat) - 1
theorem td_st1 {e2 : Nat} {rest : List Stmt} (H : Hp (KK w) s.heap [(L, frmO (rnF0 w.params kk W k t) e2), (W, lstO us nu)]) (hA : Fit A 40) (hls : StrsOf ls us) (hlen : ∀ l ∈ ls, l.length ≤ sizeLine) (hn : ls.length ≤ sizeLine)
  (next : ∀ h' tk' k2 t2 e2', Hp (KK w) h' [(L, frmO (rnF0 w.params kk W k t ++ [ent w.params "whole" k2 (.int (wholeN ls) t2)]) e2'), (W, lstO us nu)] → Kept s.heap h' [(L, plO)] → wpC B (model PG w) A (execs rest (tdEnv w L)) Q E { s with heap := h', toks := tk' }) :
  wpC B (model PG w) A (execs (hdS (tdB w) :: rest) (tdEnv w L)) Q E s := by
  refine execs_one (start_bot 40 hA (execsZ_eq _ _) ?_)
  refine go_oc (kNoLimit _) [] 18 40 (pl 0x43082081000) (fun _ => c4St w L (s.heap.objs.size + 0) (s.heap.objs.size + 1) (s.heap.objs.size + 2)) (fun _ => []) (fun _ z => [(L, frmO (rnF0 w.params kk W k t) e2), (W, lstO us nu)] ++ [(s.heap.objs.size + 0, fldO "list_iterator" [.ref W, .int 0 0]), (s.heap.objs.size + 1, lstO [] 0), (s.heap.objs.size + 2, wdD w.params 0 0 none)]) 5 40 H (by exact byR w (fun w o => by kernel_rfl) (fun w o => by kernel_rfl)) (fun o p hp => absurd hp List.not_mem_nil) fun h1 tk1 o1 z1 H1 q1 q1' hc1 => ?_
  have H1' : Hp (KK w) h1 (c4C w (s.heap.objs.size + 0) (s.heap.objs.size + 1) (s.heap.objs.size + 2) W us nu 0 [] 0 0 0 none) := H1.picked [2, 3, 4, 1] (by decide) rfl
  refine callF_ok hc1 (CtrF.mono (c4_ctr (s := { s with heap := h1, toks := tk1 }) hls hlen hn H1') (by omega)) fun f h2 tk2 hf => ?_
  obtain ⟨rfl, it, vs, n, k2, e2', ov, hg, H2, q2⟩ := hf
  have H1L : Hp (KK w) h1 ([(s.heap.objs.size + 0, fldO "list_iterator" [.ref W, .int 0 0]), (s.heap.objs.size + 1, lstO [] 0), (s.heap.objs.size + 2, wdD w.params 0 0 none), (W, lstO us nu)] ++ [(L, frmO (rnF0 w.params kk W k t) e2)]) := H1.picked [2, 3, 4, 1, 0] (by decide) rfl
  have H2L := Hp.frame1 (cs := [(s.heap.objs.size + 0, _), (s.heap.objs.size + 1, _), (s.heap.objs.size + 2, _), (W, lstO us nu)]) (ex := [(L, frmO (rnF0 w.params kk W k t) e2)]) H1L H2 q2
  have H3 : Hp (KK w) h2 ([(L, frmO (rnF0 w.params kk W k t) e2), (W, lstO us nu)] ++ [(s.heap.objs.size + 0, it), (s.heap.objs.size + 1, lstO vs n), (s.heap.objs.size + 2, wdD w.params k2 e2' ov)]) := H2L.picked [4, 3, 0, 1, 2] (by decide) rfl
  have K3 : Kept s.heap h2 [(L, plO)] := by
    have k0 : Kept s.heap h2 [(L, frmO (rnF0 w.params kk W k t) e2), (W, lstO us nu)] := q1' _ (q2.more fun q hq => by
      simp only [c4C, List.map_cons, List.map_nil, List.mem_cons, List.not_mem_nil, or_false, List.cons_append, List.nil_append] at hq ⊢
      rcases hq with rfl | rfl | rfl | rfl <;> simp)
    have z := Kept.part (a := [(L, frmO (rnF0 w.params kk W k t) e2)]) (b := [(W, lstO us nu)]) k0 H fun p hp => H3.ce p (List.mem_append_left _ (List.mem_cons_of_mem _ hp))
    exact fun b o e hb => z b o e hb
  have hnew := newR (h := s.heap) (a := [(L, frmO (rnF0 w.params kk W k t) e2), (W, lstO us nu)]) (new3 (n := s.heap.objs.size) (x := it) (y := lstO vs n) (z := wdD w.params k2 e2' ov))
  clear hc1 q1' H1'
  have hsl : vs.length = ((ls.map sizeW).map Int.ofNat).length := by rw [List.length_map]; exact hg.1
  have hsi : ∀ (i : Nat) (m : Int), ((ls.map sizeW).map Int.ofNat)[i]? = some m → ∃ t, vs[i]? = some (.int m t) := fun i m hi => by
    rw [List.getElem?_map] at hi
    cases hq : (ls.map sizeW)[i]? with
    | none => rw [hq] at hi; cases hi
    | some x => rw [hq] at hi; cases hi; exact hg.2 i x hq
  have hul : us.length = ls.length := hls.1
  rcases ov with _ | v
  · skip
    refine go_oc (s := { s with heap := h2, toks := tk2 }) (kNoLimit _) [] 2 40 (pl 0x45) (fun _ => .call (.builtin "sum") ⟨[.ref (s.heap.objs.size + 1)], []⟩) (fun _ => []) (fun _ z => [(L, frmO (rnF0 w.params kk W k t) e2), (W, lstO us nu)] ++ [(s.heap.objs.size + 0, it), (s.heap.objs.size + 1, lstO vs n)]) 4 40 H3 (by exact byR w (fun w o => by kernel_rfl) (fun w o => by kernel_rfl)) (fun o p hp => absurd hp List.not_mem_nil) fun h3 tk3 o3 z3 H4 q3 q3' hc3 => ?_
    have H4s : Hp (KK w) h3 ((s.heap.objs.size + 1, ⟨.type "list", none, .seq vs.toArray n, #[]⟩) :: []) := H4.picked [3] (by decide) rfl
    refine callF_ok hc3 (Ctr.toF ((sum_ctr (s := { s with heap := h3, toks := tk3 }) H4s hsl hsi).mono (by omega))) fun f h4 tk4 hf => ?_
    obtain ⟨v4, rfl, ⟨t4, rfl⟩, q4⟩ := hf
    have H5 : Hp (KK w) h4 ([(L, frmO (rnF0 w.params kk W k t) e2), (W, lstO us nu)] ++ [(s.heap.objs.size + 0, it), (s.heap.objs.size + 1, lstO vs n)]) := H4.stays q4
    have K5 : ∀ b o, s.heap.get? b = some o → b ≠ L → h4.get? b = some o := fun b o e hb => by
      have e2 := K3 b o e (by simpa using hb)
      have hlt := Heap.lt_size e
      refine q4 b o ?_ List.not_mem_nil
      by_cases hw : b = W
      · have a1 := H3.ce (W, lstO us nu) (by simp)
        have a2 := H4.ce (W, lstO us nu) (by simp)
        subst hw
        rw [a1] at e2; cases e2; exact a2
      · refine q3 b o e2 fun hm => ?_
        simp only [List.map_append, List.map_cons, List.map_nil, List.mem_append, List.mem_cons, List.not_mem_nil, or_false] at hm
        rcases hm with (hm | hm) | hm | hm | hm <;> first | exact hb hm | exact hw hm | exact Nat.not_lt.mpr (Nat.le_add_right _ _) (hm ▸ hlt)
    clear hc3 q3'
    refine go_o (s := { s with heap := h4, toks := tk4 }) (kNoLimit _) ([(7, [1], (extA lenX)), (2, [], (extA addX)), (2, [], (extA subX))]) 7 40 (pl 0x41041000) (fun _ => .next) (fun _ => [okP True, okP True, okP (W = W ∧ "list" = "list" ∧ us.length ≤ sizeLine)]) (fun o z => [(L, frmO (rnF0 w.params kk W k t ++ [ent w.params "whole" (tokK z 0 2) (.int (((ls.map sizeW).map Int.ofNat).sum + Int.ofNat us.length - 1) (tk4 + 4))]) (epZ z 0)), (W, lstO us nu)]) 2 H5 (by exact byR w (fun w o => by kernel_rfl) (fun w o => by kernel_rfl)) (fun o => ok3 trivial trivial ⟨rfl, rfl, by rw [hul]; exact hn⟩) (fun h8 tk8 o z H8 k8 _ => ?_)
    rw [hul] at H8
    refine next h8 tk8 _ _ _ H8 fun b o e hb => ?_
    have hbL : b ≠ L := by simpa using hb
    have e4 := K5 b o e hbL
    by_cases hw : b = W
    · have a1 := H5.ce (W, lstO us nu) (by simp)
      have a2 := H8.ce (W, lstO us nu) (by simp)
      subst hw
      rw [a1] at e4; cases e4; exact a2
    · refine k8 b o e4 fun hm => ?_
      have hlt := Heap.lt_size e
      simp only [List.map_append, List.map_cons, List.map_nil, List.mem_append, List.mem_cons, List.not_mem_nil, or_false] at hm
      rcases hm with (hm | hm) | hm | hm <;> first | exact hbL hm | exact hw hm | exact Nat.not_lt.mpr (Nat.le_add_right _ _) (hm ▸ hlt)
  · skip
    refine go_oc (s := { s with heap := h2, toks := tk2 }) (kNoLimit _) [] 6 40 (pl 0x45145) (fun _ => .call (.builtin "sum") ⟨[.ref (s.heap.objs.size + 1)], []⟩) (fun _ => []) (fun _ z => [(L, frmO (rnF0 w.params kk W k t) e2), (W, lstO us nu)] ++ [(s.heap.objs.size + 0, it), (s.heap.objs.size + 1, lstO vs n)]) 4 40 H3 (by exact byR w (fun w o => by kernel_rfl) (fun w o => by kernel_rfl)) (fun o p hp => absurd hp List.not_mem_nil) fun h3 tk3 o3 z3 H4 q3 q3' hc3 => ?_
    have H4s : Hp (KK w) h3 ((s.heap.objs.size + 1, ⟨.type "list", none, .seq vs.toArray n, #[]⟩) :: []) := H4.picked [3] (by decide) rfl
    refine callF_ok hc3 (Ctr.toF ((sum_ctr (s := { s with heap := h3, toks := tk3 }) H4s hsl hsi).mono (by omega))) fun f h4 tk4 hf => ?_
    obtain ⟨v4, rfl, ⟨t4, rfl⟩, q4⟩ := hf
    have H5 : Hp (KK w) h4 ([(L, frmO (rnF0 w.params kk W k t) e2), (W, lstO us nu)] ++ [(s.heap.objs.size + 0, it), (s.heap.objs.size + 1, lstO vs n)]) := H4.stays q4
    have K5 : ∀ b o, s.heap.get? b = some o → b ≠ L → h4.get? b = some o := fun b o e hb => by
      have e2 := K3 b o e (by simpa using hb)
      have hlt := Heap.lt_size e
      refine q4 b o ?_ List.not_mem_nil
      by_cases hw : b = W
      · have a1 := H3.ce (W, lstO us nu) (by simp)
        have a2 := H4.ce (W, lstO us nu) (by simp)
        subst hw
        rw [a1] at e2; cases e2; exact a2
      · refine q3 b o e2 fun hm => ?_
        simp only [List.map_append, List.map_cons, List.map_nil, List.mem_append, List.mem_cons, List.not_mem_nil, or_false] at hm
        rcases hm with (hm | hm) | hm | hm | hm <;> first | exact hb hm | exact hw hm | exact Nat.not_lt.mpr (Nat.le_add_right _ _) (hm ▸ hlt)
    clear hc3 q3'
    refine go_o (s := { s with heap := h4, toks := tk4 }) (kNoLimit _) ([(7, [1], (extA lenX)), (2, [], (extA addX)), (2, [], (extA subX))]) 7 40 (pl 0x41041000) (fun _ => .next) (fun _ => [okP True, okP True, okP (W = W ∧ "list" = "list" ∧ us.length ≤ sizeLine)]) (fun o z => [(L, frmO (rnF0 w.params kk W k t ++ [ent w.params "whole" (tokK z 0 2) (.int (((ls.map sizeW).map Int.ofNat).sum + Int.ofNat us.length - 1) (tk4 + 4))]) (epZ z 0)), (W, lstO us nu)]) 2 H5 (by exact byR w (fun w o => by kernel_rfl) (fun w o => by kernel_rfl)) (fun o => ok3 trivial trivial ⟨rfl, rfl, by rw [hul]; exact hn⟩) (fun h8 tk8 o z H8 k8 _ => ?_)
    rw [hul] at H8
    refine next h8 tk8 _ _ _ H8 fun b o e hb => ?_
    have hbL : b ≠ L := by simpa using hb
    have e4 := K5 b o e hbL
    by_cases hw : b = W
    · have a1 := H5.ce (W, lstO us nu) (by simp)
      have a2 := H8.ce (W, lstO us nu) (by simp)
      subst hw
      rw [a1] at e4; cases e4; exact a2
    · refine k8 b o e4 fun hm => ?_
      have hlt := Heap.lt_size e
      simp only [List.map_append, List.map_cons, List.map_nil, List.mem_append, List.mem_cons, List.not_mem_nil, or_false] at hm
      rcases hm with (hm | hm) | hm | hm <;> first | exact hbL hm | exact hw hm | exact Nat.not_lt.mpr (Nat.le_add_right _ _) (hm ▸ hlt)
end
end Mine
end PTD
section PTD2
open PySem PySem.W PyProof.Rows PySem.Calls
open PySem.Builtin.Str (occurrences)
set_option maxHeartbeats 0
namespace Mine
variable {B : Bool}
section
variable {w : World} {W L : Addr} {k : Nat} {kk : Nat → Tok} {t tw : Tok} {s : Shared} {A : Around} {Q : Flow → Shared → Prop} {E : Value → Shared → Prop}
noncomputable def tdF1 (P : Params) (kk : Nat → Tok) (W : Addr) (k : Nat) (t : Tok) (x : Int) (tw : Tok) : List DictEntry := rnF0 P kk W k t ++ [ent P "whole" (kk 2) (.int x tw)]
noncomputable def blkN (k : Nat) (x : Int) : Int := (x + (k : Nat) - 1).fdiv (k : Nat)
theorem td_st2 {x : Int} {e2 : Nat} {rest : List Stmt} (H : Hp (KK w) s.heap [(L, frmO (tdF1 w.params kk W k t x tw) e2)]) (hA : Fit A 40) (hk : k = 2 ∨ k = 3 ∨ k = 4 ∨ k = 5)
  (next : ∀ h' tk' k3 k4 k5 tb tp e2' G, (∀ o, s.heap.get? G ≠ some o) → Hp (KK w) h' [(L, frmO (tdF1 w.params kk W k t x tw ++ [ent w.params "blocks" k3 (.int (blkN k x) tb), ent w.params "log" k4 (.ref G), ent w.params "place" k5 (.int 0 tp)]) e2'), (G, lstO [] 0)] → Kept s.heap h' [(L, plO)] → wpC B (model PG w) A (execs rest (tdEnv w L)) Q E { s with heap := h', toks := tk' }) :
  wpC B (model PG w) A (execs (((tdB w).drop 1).take 3 ++ rest) (tdEnv w L)) Q E s := by
  have e : ((tdB w).drop 1).take 3 ++ rest = hdS ((tdB w).drop 1) :: hdS ((tdB w).drop 2) :: hdS ((tdB w).drop 3) :: rest := by
    rw [show ((tdB w).drop 1).take 3 = [hdS ((tdB w).drop 1), hdS ((tdB w).drop 2), hdS ((tdB w).drop 3)] by kernel_rfl]; rfl
  rw [e]
  refine execs_one (start_bot 40 hA (execsZ_eq _ _) ?_)
  refine go_o (kNoLimit _) ([(6, [], (extA addX)), (2, [], (extA subX)), (3, [], (extA fdivX))]) 7 40 (pl 0x41041041) (fun _ => .next) (fun _ => [okP ((k : Int) ≠ 0 ∧ Builtin.divisionGoesByPylong (x + (k : Nat) - 1) (k : Nat) = false), okP True, okP True]) (fun o z => [(L, frmO (tdF1 w.params kk W k t x tw ++ [ent w.params "blocks" (tokK z 0 3) (.int (blkN k x) (s.toks + 3))]) (epZ z 0))]) 1 H (fun o => by kernel_rfl) (fun o => ok3 ⟨by omega, noPylong5 _ (by omega)⟩ trivial trivial) (fun h1 tk1 o z H1 k1 _ => ?_)
  generalize tokK z 0 3 = k3 at H1
  generalize epZ z 0 = e3 at H1
  refine execs_one (start_bot (s := { s with heap := h1, toks := tk1 }) 40 hA (execsZ_eq _ _) ?_)
  refine go_o (s := { s with heap := h1, toks := tk1 }) (kNoLimit _) [] 10 40 (pl 0x1041) (fun _ => .next) (fun _ => []) (fun o z => [(L, frmO (tdF1 w.params kk W k t x tw ++ [ent w.params "blocks" k3 (.int (blkN k x) (s.toks + 3)), ent w.params "log" (tokK z 0 4) (.ref (h1.objs.size + 0))]) (epZ z 0)), (h1.objs.size + 0, lstO [] 0)]) 2 H1 (fun o => by kernel_rfl) (fun o p hp => absurd hp List.not_mem_nil) (fun h2 tk2 o z H2 k2 k2' => ?_)
  generalize tokK z 0 4 = k4 at H2 k2'
  generalize epZ z 0 = e4 at H2 k2'
  have hGf : ∀ o, s.heap.get? (h1.objs.size + 0) ≠ some o := fun o e => by
    by_cases hb : h1.objs.size + 0 = L
    · have := Heap.lt_size (H1.ce (L, _) (List.mem_cons_self ..))
      exact Nat.lt_irrefl _ (Nat.lt_of_le_of_lt (Nat.le_of_eq hb) this)
    · exact Nat.lt_irrefl _ (Heap.lt_size (k1 _ o e (by simpa using hb)))
  generalize h1.objs.size + 0 = G at H2 hGf k2'
  refine execs_one (start_bot (s := { s with heap := h2, toks := tk2 }) 40 hA (execsZ_eq _ _) ?_)
  refine go_o (s := { s with heap := h2, toks := tk2 }) (kNoLimit _) [] 9 40 (pl 0x1041) (fun _ => .next) (fun _ => []) (fun o z => [(L, frmO (tdF1 w.params kk W k t x tw ++ [ent w.params "blocks" k3 (.int (blkN k x) (s.toks + 3)), ent w.params "log" k4 (.ref G), ent w.params "place" (tokK z 0 5) (.int 0 tk2)]) (epZ z 0)), (G, lstO [] 0)]) 2 H2 (fun o => by kernel_rfl) (fun o p hp => absurd hp List.not_mem_nil) (fun h3 tk3 o z H3 k3 k3' => ?_)
  refine next h3 tk3 _ _ _ _ _ _ G hGf H3 fun b o e hb => ?_
  have hbL : b ≠ L := by simpa using hb
  exact k3 b o (k2 b o (k1 b o e (by simpa using hbL)) (by simpa using hbL)) fun hm => by
    simp only [List.map_cons, List.map_nil, List.mem_cons, List.not_mem_nil, or_false] at hm
    rcases hm with hm | hm
    · exact hbL hm
    · exact hGf o (hm ▸ e)
end
end Mine
end PTD2
section PTD3
open PySem PySem.W PyProof.Rows PySem.Calls
open PySem.Builtin.Str (occurrences)
set_option maxHeartbeats 0
namespace Mine
variable {B : Bool}
noncomputable def tdLp (w : World) (L I : Addr) : Code := forC ((tdB w).getD 4 default) (.ref I) (tdEnv w L)
noncomputable def tdF5 (P : Params) (kk : Nat → Tok) (W : Addr) (k : Nat) (t : Tok) (x : Int) (tw : Tok) (bl : Int) (tb : Tok) (G : Addr) (pc : Int) (tp : Tok) : Option Value → List DictEntry
  | none => tdF1 P kk W k t x tw ++ [ent P "blocks" (kk 3) (.int bl tb), ent P "log" (kk 4) (.ref G), ent P "place" (kk 5) (.int pc tp)]
  | some v => tdF1 P kk W k t x tw ++ [ent P "blocks" (kk 3) (.int bl tb), ent P "log" (kk 4) (.ref G), ent P "place" (kk 5) (.int pc tp), ent P "word" (kk 6) v]
noncomputable def tdC (w : World) (L G I W : Addr) (kk : Nat → Tok) (k : Nat) (t : Tok) (x : Int) (tw : Tok) (bl : Int) (tb : Tok) (pc : Int) (tp : Tok) (ov : Option Value) (e2 : Nat) (gs : List Value) (ng : Nat) (us : List Value) (nu : Nat) (i : Int) : Cells :=
  [(L, frmO (tdF5 w.params kk W k t x tw bl tb G pc tp ov) e2), (G, lstO gs ng), (I, fldO "list_iterator" [.ref W, .int i 0]), (W, lstO us nu)]
theorem ok5 {P1 P2 P3 P4 P5 : Prop} (h1 : P1) (h2 : P2) (h3 : P3) (h4 : P4) (h5 : P5) : ∀ a ∈ [okP P1, okP P2, okP P3, okP P4, okP P5], a := fun a ha => by
  rcases List.mem_cons.mp ha with rfl | ha
  · exact ⟨h1, rfl⟩
  · exact ok4 h2 h3 h4 h5 a ha
theorem min_val {a b : Int} {t u : Tok} {v : Value} (h : v = if b < a then .int b u else .int a t) : ∃ tm, v = .int (min a b) tm := by
  by_cases hb : b < a
  · rw [if_pos hb] at h
    exact ⟨u, by rw [h, Int.min_eq_right (by omega)]⟩
  · rw [if_neg hb] at h
    exact ⟨t, by rw [h, Int.min_eq_left (by omega)]⟩
section
variable {w : World} {W L G I : Addr} {k : Nat} {kk : Nat → Tok} {t tw tb tp tv : Tok} {x bl pc : Int} {s : Shared} {A : Around} {Q : PySem.Fin → Shared → Prop} {E : Value → Shared → Prop} {e2 ng nu : Nat} {gs us : List Value} {i : Int} {l : List Nat}
theorem td_tn {u : Value} (H : Hp (KK w) s.heap (tdC w L G I W kk k t x tw bl tb pc tp none e2 gs ng us nu i)) (hA : Fit A 36) (hk : k = 2 ∨ k = 3 ∨ k = 4 ∨ k = 5) (hl : l.length ≤ sizeLine) (hv : us[i.toNat]? = some (.str ⟨⟨l⟩⟩ tv)) (hgz : gs.length ≤ sizeLine)
  (next : ∀ h' tk' k6 e3 ng' tp' U wt ut, (∀ o, s.heap.get? U ≠ some o) → Hp (KK w) h' (tdC w L G I W (fun j => if j = 6 then k6 else kk j) k t x tw bl tb (pc + ((sizeW l : Nat) + 1)) tp' (some (.str ⟨⟨l⟩⟩ tv)) e3 (gs ++ [.ref U]) ng' us nu (i + 1)) → h'.get? U = some (tupO [.str ⟨⟨l⟩⟩ wt, .int (min (blkN k (pc + ((sizeW l : Nat) + 1))) bl) ut]) → Kept s.heap h' (tdC w L G I W kk k t x tw bl tb pc tp none e2 gs ng us nu i) → Q (.again (tdLp w L I)) { s with heap := h', toks := tk' }) :
  wpC B (model PG w) A (denZ (tdLp w L I)) Q E s := by
  refine start_bot 36 hA rfl ?_
  refine go_oc (kNoLimit _) ([(2, [2, 3], (lstNextA (.str ⟨⟨l⟩⟩ tv)))]) 15 36 (pl 0x40040041043) (fun _ => .call (.ref 782) ⟨[.str ⟨⟨l⟩⟩ tv], []⟩) (fun _ => [okP ((I = I ∧ "list_iterator" = "list_iterator" ∧ 0 = 0 ∧ W = W ∧ "list" = "list") ∧ us[i.toNat]? = some (.str ⟨⟨l⟩⟩ tv))]) (fun _ z => [(L, frmO (tdF5 w.params (fun j => if j = 6 then tokK z 0 6 else kk j) W k t x tw bl tb G pc tp (some (.str ⟨⟨l⟩⟩ tv))) (epZ z 0)), (G, lstO gs ng), (I, fldO "list_iterator" [.ref W, .int (i + 1) 0]), (W, lstO us nu)]) 4 36 H (by exact byR w (fun w o => by kernel_rfl) (fun w o => by kernel_rfl)) (fun o => ok1 ⟨⟨rfl, rfl, rfl, rfl, rfl⟩, hv⟩) fun h1 tk1 o1 z H1 q1 q1' hc1 => ?_
  generalize tokK z 0 6 = k6 at H1 q1 q1'
  generalize epZ z 0 = e3 at H1 q1 q1'
  refine callF_ok hc1 (Ctr.toF ((ls_ctr (s := { s with heap := h1, toks := tk1 }) hl H1).mono (by omega))) fun f h2 tk2 hf => ?_
  obtain ⟨v2, rfl, ⟨ts, rfl⟩, q2⟩ := hf
  have H2 : Hp (KK w) h2 ([(L, frmO (tdF5 w.params (fun j => if j = 6 then k6 else kk j) W k t x tw bl tb G pc tp (some (.str ⟨⟨l⟩⟩ tv))) e3), (G, lstO gs ng), (I, fldO "list_iterator" [.ref W, .int (i + 1) 0]), (W, lstO us nu)]) := H1.stays q2
  have K2 := q1' _ (q2.more fun b hb => absurd hb List.not_mem_nil)
  clear hc1 q1'
  refine go_oc (s := { s with heap := h2, toks := tk2 }) (kNoLimit _) ([(3, [], (extA addX)), (1, [], (extA addX)), (27, [], (extA addX)), (2, [], (extA subX)), (3, [], (extA fdivX))]) 3 36 (pl 0x1041041000042082081041) (fun _ => .call (.builtin "min") ⟨[.int (blkN k (pc + ((sizeW l : Nat) + 1))) (tk2 + 7), .int bl tb], []⟩) (fun _ => [okP ((k : Int) ≠ 0 ∧ Builtin.divisionGoesByPylong ((pc + ((sizeW l : Nat) + 1)) + (k : Nat) - 1) (k : Nat) = false), okP True, okP True, okP True, okP True]) (fun _ z => [(L, frmO (tdF5 w.params (fun j => if j = 6 then k6 else kk j) W k t x tw bl tb G (pc + ((sizeW l : Nat) + 1)) (tk2 + 2) (some (.str ⟨⟨l⟩⟩ tv))) e3), (G, lstO gs ng), (I, fldO "list_iterator" [.ref W, .int (i + 1) 0]), (W, lstO us nu)]) 4 36 H2 (by exact byR w (fun w o => by kernel_rfl) (fun w o => by kernel_rfl)) (fun o => ok5 ⟨by omega, noPylong5 _ (by omega)⟩ trivial trivial trivial trivial) fun h3 tk3 o3 z3 H3 q3 q3' hc3 => ?_
  refine callF_ok hc3 (Ctr.toF ((min_ctr (s := { s with heap := h3, toks := tk3 })).mono (by omega))) fun f h4 tk4 hf => ?_
  obtain ⟨v4, rfl, hv4, q4⟩ := hf
  obtain ⟨tm, rfl⟩ := min_val hv4
  have H4 := H3.stays q4
  have K4 := K2.trans (q3' _ (q4.more fun b hb => absurd hb List.not_mem_nil)) fun b _ hb => hb
  clear hc3 q3'
  refine go_o (s := { s with heap := h4, toks := tk4 }) (kNoLimit _) ([(3, [1, 4], (actA appendA))]) 1 36 (pl 0x1) (fun _ => .again (tdLp w L I)) (fun _ => [okP (G = G ∧ "list" = "list" ∧ gs.length ≤ sizeLine)]) (fun o z => tdC w L G I W (fun j => if j = 6 then k6 else kk j) k t x tw bl tb (pc + ((sizeW l : Nat) + 1)) (tk2 + 2) (some (.str ⟨⟨l⟩⟩ tv)) e3 (gs ++ [.ref (h4.objs.size + 0)]) (seqN z 1) us nu (i + 1) ++ [(h4.objs.size + 0, tupO [.str ⟨⟨l⟩⟩ tv, .int (min (blkN k (pc + ((sizeW l : Nat) + 1))) bl) tm])]) 5 H4 (by exact byR w (fun w o => by kernel_rfl) (fun w o => by kernel_rfl)) (fun o => ok1 ⟨rfl, rfl, hgz⟩) (fun h5 tk5 o z H5 k5 _ => ?_)
  exact next h5 tk5 k6 e3 _ _ _ tv tm (fun o e => (K4.still H H4 e).elim fun o2 e2 => Nat.lt_irrefl _ (Heap.lt_size e2)) H5.left (H5.right.ce _ (List.mem_cons_self ..)) (K4.trans k5 fun b _ hb => hb)
theorem td_ts {u : Value} (H : Hp (KK w) s.heap (tdC w L G I W kk k t x tw bl tb pc tp (some u) e2 gs ng us nu i)) (hA : Fit A 36) (hk : k = 2 ∨ k = 3 ∨ k = 4 ∨ k = 5) (hl : l.length ≤ sizeLine) (hv : us[i.toNat]? = some (.str ⟨⟨l⟩⟩ tv)) (hgz : gs.length ≤ sizeLine)
  (next : ∀ h' tk' k6 e3 ng' tp' U wt ut, (∀ o, s.heap.get? U ≠ some o) → Hp (KK w) h' (tdC w L G I W (fun j => if j = 6 then k6 else kk j) k t x tw bl tb (pc + ((sizeW l : Nat) + 1)) tp' (some (.str ⟨⟨l⟩⟩ tv)) e3 (gs ++ [.ref U]) ng' us nu (i + 1)) → h'.get? U = some (tupO [.str ⟨⟨l⟩⟩ wt, .int (min (blkN k (pc + ((sizeW l : Nat) + 1))) bl) ut]) → Kept s.heap h' (tdC w L G I W kk k t x tw bl tb pc tp (some u) e2 gs ng us nu i) → Q (.again (tdLp w L I)) { s with heap := h', toks := tk' }) :
  wpC B (model PG w) A (denZ (tdLp w L I)) Q E s := by
  refine start_bot 36 hA rfl ?_
  refine go_oc (kNoLimit _) ([(2, [2, 3], (lstNextA (.str ⟨⟨l⟩⟩ tv)))]) 15 36 (pl 0x40040041043) (fun _ => .call (.ref 782) ⟨[.str ⟨⟨l⟩⟩ tv], []⟩) (fun _ => [okP ((I = I ∧ "list_iterator" = "list_iterator" ∧ 0 = 0 ∧ W = W ∧ "list" = "list") ∧ us[i.toNat]? = some (.str ⟨⟨l⟩⟩ tv))]) (fun _ z => [(L, frmO (tdF5 w.params (fun j => if j = 6 then tokK z 0 6 else kk j) W k t x tw bl tb G pc tp (some (.str ⟨⟨l⟩⟩ tv))) (epZ z 0)), (G, lstO gs ng), (I, fldO "list_iterator" [.ref W, .int (i + 1) 0]), (W, lstO us nu)]) 4 36 H (by exact byR w (fun w o => by kernel_rfl) (fun w o => by kernel_rfl)) (fun o => ok1 ⟨⟨rfl, rfl, rfl, rfl, rfl⟩, hv⟩) fun h1 tk1 o1 z H1 q1 q1' hc1 => ?_
  generalize tokK z 0 6 = k6 at H1 q1 q1'
  generalize epZ z 0 = e3 at H1 q1 q1'
  refine callF_ok hc1 (Ctr.toF ((ls_ctr (s := { s with heap := h1, toks := tk1 }) hl H1).mono (by omega))) fun f h2 tk2 hf => ?_
  obtain ⟨v2, rfl, ⟨ts, rfl⟩, q2⟩ := hf
  have H2 : Hp (KK w) h2 ([(L, frmO (tdF5 w.params (fun j => if j = 6 then k6 else kk j) W k t x tw bl tb G pc tp (some (.str ⟨⟨l⟩⟩ tv))) e3), (G, lstO gs ng), (I, fldO "list_iterator" [.ref W, .int (i + 1) 0]), (W, lstO us nu)]) := H1.stays q2
  have K2 := q1' _ (q2.more fun b hb => absurd hb List.not_mem_nil)
  clear hc1 q1'
  refine go_oc (s := { s with heap := h2, toks := tk2 }) (kNoLimit _) ([(3, [], (extA addX)), (1, [], (extA addX)), (27, [], (extA addX)), (2, [], (extA subX)), (3, [], (extA fdivX))]) 3 36 (pl 0x1041041000042082081041) (fun _ => .call (.builtin "min") ⟨[.int (blkN k (pc + ((sizeW l : Nat) + 1))) (tk2 + 7), .int bl tb], []⟩) (fun _ => [okP ((k : Int) ≠ 0 ∧ Builtin.divisionGoesByPylong ((pc + ((sizeW l : Nat) + 1)) + (k : Nat) - 1) (k : Nat) = false), okP True, okP True, okP True, okP True]) (fun _ z => [(L, frmO (tdF5 w.params (fun j => if j = 6 then k6 else kk j) W k t x tw bl tb G (pc + ((sizeW l : Nat) + 1)) (tk2 + 2) (some (.str ⟨⟨l⟩⟩ tv))) e3), (G, lstO gs ng), (I, fldO "list_iterator" [.ref W, .int (i + 1) 0]), (W, lstO us nu)]) 4 36 H2 (by exact byR w (fun w o => by kernel_rfl) (fun w o => by kernel_rfl)) (fun o => ok5 ⟨by omega, noPylong5 _ (by omega)⟩ trivial trivial trivial trivial) fun h3 tk3 o3 z3 H3 q3 q3' hc3 => ?_
  refine callF_ok hc3 (Ctr.toF ((min_ctr (s := { s with heap := h3, toks := tk3 })).mono (by omega))) fun f h4 tk4 hf => ?_
  obtain ⟨v4, rfl, hv4, q4⟩ := hf
  obtain ⟨tm, rfl⟩ := min_val hv4
  have H4 := H3.stays q4
  have K4 := K2.trans (q3' _ (q4.more fun b hb => absurd hb List.not_mem_nil)) fun b _ hb => hb
  clear hc3 q3'
  refine go_o (s := { s with heap := h4, toks := tk4 }) (kNoLimit _) ([(3, [1, 4], (actA appendA))]) 1 36 (pl 0x1) (fun _ => .again (tdLp w L I)) (fun _ => [okP (G = G ∧ "list" = "list" ∧ gs.length ≤ sizeLine)]) (fun o z => tdC w L G I W (fun j => if j = 6 then k6 else kk j) k t x tw bl tb (pc + ((sizeW l : Nat) + 1)) (tk2 + 2) (some (.str ⟨⟨l⟩⟩ tv)) e3 (gs ++ [.ref (h4.objs.size + 0)]) (seqN z 1) us nu (i + 1) ++ [(h4.objs.size + 0, tupO [.str ⟨⟨l⟩⟩ tv, .int (min (blkN k (pc + ((sizeW l : Nat) + 1))) bl) tm])]) 5 H4 (by exact byR w (fun w o => by kernel_rfl) (fun w o => by kernel_rfl)) (fun o => ok1 ⟨rfl, rfl, hgz⟩) (fun h5 tk5 o z H5 k5 _ => ?_)
  exact next h5 tk5 k6 e3 _ _ _ tv tm (fun o e => (K4.still H H4 e).elim fun o2 e2 => Nat.lt_irrefl _ (Heap.lt_size e2)) H5.left (H5.right.ce _ (List.mem_cons_self ..)) (K4.trans k5 fun b _ hb => hb)
end
end Mine
end PTD3
section PTD4
open PySem PySem.W PyProof.Rows PySem.Calls
open PySem.Builtin.Str (occurrences)
set_option maxHeartbeats 0
namespace Mine
variable {B : Bool}
section
variable {w : World} {W L G I : Addr} {k : Nat} {kk : Nat → Tok} {t tw tb tp : Tok} {x bl pc : Int} {s : Shared} {A : Around} {Q : PySem.Fin → Shared → Prop} {E : Value → Shared → Prop} {e2 ng nu : Nat} {gs us : List Value} {i : Int}
theorem td_te {u : Value} (H : Hp (KK w) s.heap (tdC w L G I W kk k t x tw bl tb pc tp (some u) e2 gs ng us nu i)) (hA : Fit A 36) (hv : us[i.toNat]? = none)
  (next : ∀ h' tk', Hp (KK w) h' [(L, frmO (tdF5 w.params kk W k t x tw bl tb G pc tp (some u)) e2), (G, lstO gs ng), (W, lstO us nu)] → Kept s.heap h' (tdC w L G I W kk k t x tw bl tb pc tp (some u) e2 gs ng us nu i) → Q (.again (.block [] (tdEnv w L))) { s with heap := h', toks := tk' }) :
  wpC B (model PG w) A (denZ (tdLp w L I)) Q E s := by
  refine start_bot 36 hA rfl ?_
  refine go_o (kNoLimit _) ([(2, [2, 3], (lstStopA))]) 1 36 (pl 0x1183) (fun _ => .again (.block [] (tdEnv w L))) (fun _ => [okP ((I = I ∧ "list_iterator" = "list_iterator" ∧ 0 = 0 ∧ W = W ∧ "list" = "list") ∧ us[i.toNat]? = none)]) (fun o z => [(L, frmO (tdF5 w.params kk W k t x tw bl tb G pc tp (some u)) e2), (G, lstO gs ng), (I, objZ z 2), (W, lstO us nu)]) 4 H (fun o => by kernel_rfl) (fun o => ok1 ⟨⟨rfl, rfl, rfl, rfl, rfl⟩, hv⟩) (fun h' tk' o z H' k' _ => next h' tk' (H'.picked [0, 1, 3] (by decide) rfl) k')
end
section
variable {w : World} {W L G I : Addr} {k : Nat} {kk : Nat → Tok} {t tw tb tp : Tok} {x bl : Int} {s : Shared} {e2 ng nu : Nat} {us : List Value}
noncomputable def toldL (k : Nat) (bl : Int) : List (List Nat) → Int → List (Option (List Nat) × Nat)
  | [], _ => []
  | l :: ls, pc => (some l, (min (blkN k (pc + ((sizeW l : Nat) + 1))) bl).toNat) :: toldL k bl ls (pc + ((sizeW l : Nat) + 1))
end
end Mine
end PTD4
section PTD5
open PySem PySem.W PyProof.Rows PySem.Calls
set_option maxHeartbeats 0
namespace Mine
variable {B : Bool}
theorem toldL_len (k : Nat) (bl : Int) : ∀ (ls : List (List Nat)) (pc : Int), (toldL k bl ls pc).length = ls.length
  | [], _ => rfl
  | l :: ls, pc => by rw [toldL, List.length_cons, toldL_len k bl ls, List.length_cons]
theorem blkN_nonneg {k : Nat} {x : Int} (hk : 0 < k) (hx : 0 ≤ x) : 0 ≤ blkN k x := by
  unfold blkN
  have h1 : (0 : Int) < (k : Nat) := by omega
  rw [Int.fdiv_eq_ediv_of_nonneg _ (by omega)]
  exact Int.ediv_nonneg (by omega) (by omega)
section
variable {w : World} {W L G I : Addr} {k : Nat} {kk : Nat → Tok} {t tw tb tp : Tok} {x bl : Int} {s : Shared} {e2 ng nu : Nat} {us : List Value}
inductive TdI (w : World) (W L G I : Addr) (kk : Nat → Tok) (k : Nat) (t : Tok) (x : Int) (tw : Tok) (bl : Int) (tb : Tok) (nu : Nat) (us : List Value) (ls : List (List Nat)) (h0 : Heap) (C0 : Cells) (n : Nat) (h : Heap) : Prop
  | mk (j : Nat) (pc : Int) (kk' : Nat → Tok) (ov : Option Value) (e2 : Nat) (gs : List Value) (ng : Nat) (tp : Tok) (hn : n = ls.length + 1 - j) (hj : j ≤ ls.length) (hov : ov = none → j = 0) (hpc : 0 ≤ pc) (hkk : kk' 4 = kk 4 ∧ kk' 3 = kk 3) (hdr : (toldL k bl ls 0).drop j = toldL k bl (ls.drop j) pc) (hlk : LogOk h [L, G, I, W] gs ((toldL k bl ls 0).take j))
    (H : Hp (KK w) h (tdC w L G I W kk' k t x tw bl tb pc tp ov e2 gs ng us nu ((j : Nat) : Int))) (q : Kept h0 h C0)
inductive TdPost (w : World) (W L G I : Addr) (kk : Nat → Tok) (k : Nat) (t : Tok) (x : Int) (tw : Tok) (bl : Int) (tb : Tok) (nu : Nat) (us : List Value) (ls : List (List Nat)) (h0 : Heap) (C0 : Cells) (f : Flow) (h : Heap) : Prop
  | mk (hf : f = .next) (u : Value) (kk' : Nat → Tok) (e9 : Nat) (gs : List Value) (ng9 : Nat) (pc9 : Int) (tp9 : Tok) (H : Hp (KK w) h [(L, frmO (tdF5 w.params kk' W k t x tw bl tb G pc9 tp9 (some u)) e9), (G, lstO gs ng9), (W, lstO us nu)]) (hkk : kk' 4 = kk 4 ∧ kk' 3 = kk 3) (hlk : LogOk h [L, G, I, W] gs (toldL k bl ls 0)) (q : Kept h0 h C0)
theorem td_loop {ls : List (List Nat)} (hls : StrsOf ls us) (hne : ls ≠ []) (hlen : ∀ l ∈ ls, l.length ≤ sizeLine) (hn : ls.length ≤ sizeLine) (hk : k = 2 ∨ k = 3 ∨ k = 4 ∨ k = 5) (hbl : 0 ≤ bl)
  (H : Hp (KK w) s.heap (tdC w L G I W kk k t x tw bl tb 0 tp none e2 [] ng us nu 0)) :
  CtrF B PG w (tdLp w L I) 37 s (TdPost w W L G I kk k t x tw bl tb nu us ls s.heap (tdC w L G I W kk k t x tw bl tb 0 tp none e2 [] ng us nu 0)) := by
  have hA0 : ∀ kk pc tp ov e2 gs ng i, (tdC w L G I W kk k t x tw bl tb pc tp ov e2 gs ng us nu i).map (·.1) = [L, G, I, W] := fun _ _ _ _ _ _ _ _ => rfl
  have hul : us.length = ls.length := hls.1
  have hk0 : 0 < k := by omega
  refine ctr_loop (s := s) rfl rfl 36 (TdI w W L G I kk k t x tw bl tb nu us ls s.heap (tdC w L G I W kk k t x tw bl tb 0 tp none e2 [] ng us nu 0)) ?_ (ls.length + 1)
    ⟨0, 0, kk, none, e2, [], ng, tp, rfl, Nat.zero_le _, fun _ => rfl, Int.le_refl _, ⟨rfl, rfl⟩, rfl, ⟨rfl, fun i e h => by simp at h⟩, H, Kept.refl _ _⟩
  rintro n h tk A hA ⟨j, pc, kk', ov, e3, gs, ng3, tp3, rfl, hj, hov, hpc, hkk, hdr, hlk, H3, q3⟩
  have hkeep : ∀ {h'}, Kept h h' (tdC w L G I W kk' k t x tw bl tb pc tp3 ov e3 gs ng3 us nu ((j : Nat) : Int)) → ∀ b o, h.get? b = some o → b ∉ [L, G, I, W] → h'.get? b = some o := fun k b o e hb => k b o e hb
  have hgz : gs.length ≤ sizeLine := by rw [hlk.1, List.length_take, toldL_len]; omega
  by_cases hlt : j < ls.length
  · obtain ⟨tv, hu⟩ := hls.2 j _ (List.getElem?_eq_getElem hlt)
    have hv : us[(((j : Nat) : Int)).toNat]? = some (.str ⟨⟨ls[j]⟩⟩ tv) := hu
    have hlj := hlen _ (List.getElem_mem hlt)
    rw [List.drop_eq_getElem_cons hlt, toldL] at hdr
    have hLl : j < (toldL k bl ls 0).length := by rw [toldL_len]; exact hlt
    rw [List.drop_eq_getElem_cons hLl] at hdr
    injection hdr with hd1 hd2
    have htake : (toldL k bl ls 0).take (j + 1) = (toldL k bl ls 0).take j ++ [(toldL k bl ls 0)[j]] := by rw [List.take_add_one, List.getElem?_eq_getElem hLl]; rfl
    have hb0 := blkN_nonneg (x := pc + ((sizeW ls[j] : Nat) + 1)) hk0 (by omega)
    have fin : ∀ h' k6 e4 ng4 tp4 U wt ut, (∀ o, h.get? U ≠ some o) → Hp (KK w) h' (tdC w L G I W (fun j => if j = 6 then k6 else kk' j) k t x tw bl tb (pc + ((sizeW ls[j] : Nat) + 1)) tp4 (some (.str ⟨⟨ls[j]⟩⟩ tv)) e4 (gs ++ [.ref U]) ng4 us nu (((j : Nat) : Int) + 1)) → h'.get? U = some (tupO [.str ⟨⟨ls[j]⟩⟩ wt, .int (min (blkN k (pc + ((sizeW ls[j] : Nat) + 1))) bl) ut]) → Kept h h' (tdC w L G I W kk' k t x tw bl tb pc tp3 ov e3 gs ng3 us nu ((j : Nat) : Int)) →
        ∃ m, m < ls.length + 1 - j ∧ TdI w W L G I kk k t x tw bl tb nu us ls s.heap (tdC w L G I W kk k t x tw bl tb 0 tp none e2 [] ng us nu 0) m h' := by
      intro h' k6 e4 ng4 tp4 U wt ut hU H4 hg k4
      refine ⟨ls.length + 1 - (j + 1), by omega, j + 1, _, (fun j => if j = 6 then k6 else kk' j), some (.str ⟨⟨ls[j]⟩⟩ tv), e4, _, ng4, tp4, rfl, hlt, (fun h => nomatch h), (by omega), hkk, hd2, ?_, H4, fun b o e hb => hkeep k4 b o (q3 b o e hb) hb⟩
      rw [htake]
      refine (hlk.keep (hkeep k4)).snoc (t := wt) (u := ut) (fun hm => ?_) ?_
      · rw [← hA0 kk' pc tp3 ov e3 gs ng3 ((j : Nat) : Int)] at hm
        obtain ⟨q9, hq9, e9⟩ := List.mem_map.mp hm
        exact hU q9.2 (e9 ▸ H3.ce q9 hq9)
      · rw [hg, hd1]
        have : (((min (blkN k (pc + ((sizeW ls[j] : Nat) + 1))) bl).toNat : Nat) : Int) = min (blkN k (pc + ((sizeW ls[j] : Nat) + 1))) bl := Int.toNat_of_nonneg (by omega)
        show some (tupO [_, Value.int _ _]) = some (tupO [_, Value.int (((min _ bl).toNat : Nat) : Int) _])
        rw [this]; rfl
    cases ov with
    | none => exact td_tn (s := { s with heap := h, toks := tk }) (u := .none) H3 hA hk hlj hv hgz fun h' tk' k6 e4 ng4 tp4 U wt ut hU H4 hg k4 => ⟨h', tk', rfl, .inl ⟨rfl, fin h' k6 e4 ng4 tp4 U wt ut hU H4 hg k4⟩⟩
    | some u => exact td_ts (s := { s with heap := h, toks := tk }) H3 hA hk hlj hv hgz fun h' tk' k6 e4 ng4 tp4 U wt ut hU H4 hg k4 => ⟨h', tk', rfl, .inl ⟨rfl, fin h' k6 e4 ng4 tp4 U wt ut hU H4 hg k4⟩⟩
  · have hje : j = ls.length := by omega
    subst hje
    have hv : us[(((ls.length : Nat) : Int)).toNat]? = none := by
      rw [List.getElem?_eq_none]; rw [hul]; exact Nat.le_refl _
    rw [List.take_of_length_le (by rw [toldL_len]; exact Nat.le_refl _)] at hlk
    cases ov with
    | none => exact absurd (List.length_eq_zero_iff.mp (hov rfl)) hne
    | some u => exact td_te (s := { s with heap := h, toks := tk }) H3 hA hv fun h' tk' H' k' => ⟨h', tk', rfl, .inr ⟨_, rfl, rfl, u, kk', e3, gs, ng3, pc, tp3, H', hkk, hlk.keep (hkeep k'), fun b o e hb => hkeep k' b o (q3 b o e hb) hb⟩⟩
end
end Mine
end PTD5
section PTD6
open PySem PySem.W PyProof.Rows PySem.Calls
open PySem.Builtin.Str (occurrences)
set_option maxHeartbeats 0
namespace Mine
variable {B : Bool}
theorem LogOk.weak {h : Heap} {as : List Addr} {gs : List Value} {lg : List (Option (List Nat) × Nat)} (x : LogOk h as gs lg) : LogOk h [] gs lg :=
  ⟨x.1, fun i e hi => let ⟨U, t, u, h1, _, h3⟩ := x.2 i e hi; ⟨U, t, u, h1, List.not_mem_nil, h3⟩⟩
section
variable {w : World} {W L G : Addr} {k : Nat} {kk : Nat → Tok} {t tw tb tp : Tok} {x bl : Int} {s : Shared} {A : Around} {Q : Flow → Shared → Prop} {E : Value → Shared → Prop} {e2 nu : Nat} {us : List Value}
theorem td_st5 {ls : List (List Nat)} (hls : StrsOf ls us) (hne : ls ≠ []) (hlen : ∀ l ∈ ls, l.length ≤ sizeLine) (hn : ls.length + 1 ≤ sizeLine) (hk : k = 2 ∨ k = 3 ∨ k = 4 ∨ k = 5) (hbl : 0 ≤ bl)
  (H : Hp (KK w) s.heap [(L, frmO (tdF5 w.params kk W k t x tw bl tb G 0 tp none) e2), (G, lstO [] 0), (W, lstO us nu)]) (hA : Fit A 40)
  (next : ∀ h' tk' R gs ng, h'.get? R = some (lstO gs ng) → LogOk h' [] gs (toldL k bl ls 0 ++ [(none, bl.toNat)]) → (∀ b o, s.heap.get? b = some o → b ≠ L → b ≠ G → b ≠ W → h'.get? b = some o) → Q (.ret (.ref R)) { s with heap := h', toks := tk' }) :
  wpC B (model PG w) A (execs ((tdB w).drop 4) (tdEnv w L)) Q E s := by
  rw [show (tdB w).drop 4 = hdS ((tdB w).drop 4) :: (tdB w).drop 5 by kernel_rfl]
  refine execs_one (start_bot 40 hA (execsZ_eq _ _) ?_)
  refine go_oc (kNoLimit _) [] 13 40 (pl 0x440c30c1) (fun _ => tdLp w L (s.heap.objs.size + 0)) (fun _ => []) (fun _ z => [(L, frmO (tdF5 w.params kk W k t x tw bl tb G 0 tp none) e2), (G, lstO [] 0), (W, lstO us nu), (s.heap.objs.size + 0, fldO "list_iterator" [.ref W, .int 0 0])]) 4 40 H (by exact byR w (fun w o => by kernel_rfl) (fun w o => by kernel_rfl)) (fun o p hp => absurd hp List.not_mem_nil) fun h2 tk2 o2 z2 H2 q2 q2' hc2 => ?_
  have H3 : Hp (KK w) h2 (tdC w L G (s.heap.objs.size + 0) W kk k t x tw bl tb 0 tp none e2 [] 0 us nu 0) := H2.picked [0, 1, 3, 2] (by decide) rfl
  refine callF_ok hc2 (CtrF.mono (td_loop (s := { s with heap := h2, toks := tk2 }) hls hne hlen (by omega) hk hbl H3) (by omega)) fun f h3 tk3 hf => ?_
  obtain ⟨rfl, u, kk9, e9, gs, ng9, pc9, tp9, H4, hkk, hlk, q3⟩ := hf
  clear hc2
  refine go_o (s := { s with heap := h3, toks := tk3 }) (kNoLimit _) [] 0 40 (pl 0x1) (fun _ => .next) (fun _ => []) (fun o z => [(L, frmO (tdF5 w.params kk9 W k t x tw bl tb G pc9 tp9 (some u)) e9), (G, lstO gs ng9), (W, lstO us nu)]) 3 H4 (by exact byR w (fun w o => by kernel_rfl) (fun w o => by kernel_rfl)) (fun o p hp => absurd hp List.not_mem_nil) (fun h4 tk4 o z H5 k5 _ => ?_)
  have k5s : Kept h3 h4 [] := k5.same H4 H5
  refine start_bot (s := { s with heap := h4, toks := tk4 }) 40 hA (execsZ_eq _ _) ?_
  have hgl : gs.length = ls.length := by rw [hlk.1, toldL_len]
  refine go_o (s := { s with heap := h4, toks := tk4 }) (kNoLimit _) [(14, [1, 4], (addLA))] 1 40 (pl 0x42142041) (fun _ => .ret (.ref (h4.objs.size + 2))) (fun _ => [okP (G = G ∧ h4.objs.size + 1 = h4.objs.size + 1 ∧ "list" = "list" ∧ "list" = "list" ∧ gs.length + 1 ≤ sizeLine)]) (fun o z => [(L, frmO (tdF5 w.params kk9 W k t x tw bl tb G pc9 tp9 (some u)) e9), (G, lstO gs ng9), (W, lstO us nu), (h4.objs.size + 0, tupO [.none, .int bl tb]), (h4.objs.size + 1, lstO [.ref (h4.objs.size + 0)] 0), (h4.objs.size + 2, lstO (gs ++ [.ref (h4.objs.size + 0)]) 0)]) 6 H5 (by exact byR w (fun w o => by kernel_rfl) (fun w o => by kernel_rfl)) (fun o => ok1 ⟨rfl, rfl, rfl, rfl, by omega⟩) (fun h5 tk5 o z H6 k6 _ => ?_)
  have k6s : Kept h4 h5 [] := k6.same H5 (H6.left (a := [_, _, _]) (b := [_, _, _]))
  refine next h5 tk5 _ _ _ (H6.ce (h4.objs.size + 2, lstO (gs ++ [.ref (h4.objs.size + 0)]) 0) (List.mem_of_getElem? (i := 5) rfl)) ?_ fun b o e hL hG hW => ?_
  · refine ((hlk.weak.keep fun b o e _ => k6s b o (k5s b o e List.not_mem_nil) List.not_mem_nil).snoc (t := 0) (u := tb) List.not_mem_nil ?_)
    rw [H6.ce (h4.objs.size + 0, tupO [.none, .int bl tb]) (List.mem_of_getElem? (i := 3) rfl)]
    have : ((bl.toNat : Nat) : Int) = bl := Int.toNat_of_nonneg hbl
    show some (tupO [.none, Value.int bl tb]) = some (tupO [.none, Value.int ((bl.toNat : Nat) : Int) tb])
    rw [this]
  · refine k6s b o (k5s b o ?_ List.not_mem_nil) List.not_mem_nil
    have e2 : h2.get? b = some o := q2 b o e (by simp [hL, hG, hW])
    refine q3 b o e2 fun hm => ?_
    have hm' : b ∈ [L, G, s.heap.objs.size + 0, W] := hm
    simp only [List.mem_cons, List.not_mem_nil, or_false] at hm'
    rcases hm' with hm' | hm' | hm' | hm'
    · exact hL hm'
    · exact hG hm'
    · exact Nat.lt_irrefl _ (hm' ▸ Heap.lt_size e)
    · exact hW hm'
end
end Mine
end PTD6
section PTD7
open PySem PySem.W PyProof.Rows PySem.Calls
set_option maxHeartbeats 0
namespace Mine
variable {B : Bool}
theorem td_ctr {w : World} {W : Addr} {k : Nat} {t : Tok} {nu : Nat} {s : Shared} {us : List Value} {ls : List (List Nat)} (H : Hp (KK w) s.heap [(W, lstO us nu)]) (hk : k = 2 ∨ k = 3 ∨ k = 4 ∨ k = 5)
  (hls : StrsOf ls us) (hne : ls ≠ []) (hlen : ∀ l ∈ ls, l.length ≤ sizeLine) (hn : ls.length + 1 ≤ sizeLine) (hbl : 0 ≤ blkN k (wholeN ls)) :
  Ctr B PG w (.call (.ref 787) ⟨[.ref W, .int (k : Nat) t], []⟩) 42 s (fun v h' => ∃ R gs ng, v = .ref R ∧ h'.get? R = some (lstO gs ng) ∧ LogOk h' [] gs (toldL k (blkN k (wholeN ls)) ls 0 ++ [(none, (blkN k (wholeN ls)).toNat)]) ∧ Kept s.heap h' [(W, plO)]) := by
  refine ctr_def (kNoLimit w) 11 40 0 (pl 0x1082082000).tail (body := tdB w) (env := tdEnv w (s.heap.objs.size + 0)) (fun z => [(W, lstO us nu), (s.heap.objs.size + 0, frmO (rnF0 w.params (fun i => tokK z 1 i) W k t) 2)]) 2 H (by kernel_rfl) (by kernel_rfl) fun A1 h1 tk1 z hA1 H1 k1 k1' => ?_
  have hLf : ∀ o, s.heap.get? (s.heap.objs.size + 0) ≠ some o := fun o e => Nat.lt_irrefl _ (Heap.lt_size e)
  generalize (fun i => tokK z 1 i) = kk0 at H1 k1'
  generalize s.heap.objs.size + 0 = L at H1 k1' hLf ⊢
  have K1 : Kept s.heap h1 [] := k1.same H (H1.left (a := [_]) (b := [_]))
  have H1' : Hp (KK w) h1 [(L, frmO (rnF0 w.params kk0 W k t) 2), (W, lstO us nu)] := H1.picked [1, 0] (by decide) rfl
  rw [show tdB w = hdS (tdB w) :: (((tdB w).drop 1).take 3 ++ (tdB w).drop 4) by kernel_rfl]
  refine td_st1 (s := { s with heap := h1, toks := tk1 }) H1' hA1 hls hlen (by omega) fun h2 tk2 k2 t2 e2 H2 q2 => ?_
  have H2' : Hp (KK w) h2 ([(L, frmO (tdF1 w.params (fun j => if j = 2 then k2 else kk0 j) W k t (wholeN ls) t2) e2)] ++ [(W, lstO us nu)]) := H2
  refine td_st2 (s := { s with heap := h2, toks := tk2 }) H2'.left hA1 hk fun h3 tk3 k3 k4 k5 tb tp e3 G hGf H3 q3 => ?_
  have H3' := Hp.frame (cs := [(L, _)]) (cs' := [(L, _), (G, lstO [] 0)]) (ex := [(W, lstO us nu)]) H2' H3 q3 fun p hp => by
    simp only [List.mem_cons, List.not_mem_nil, or_false] at hp
    rcases hp with rfl | rfl
    · exact .inl (by simp)
    · exact .inr hGf
  refine td_st5 (kk := fun j => if j = 5 then k5 else if j = 4 then k4 else if j = 3 then k3 else if j = 2 then k2 else kk0 j) (s := { s with heap := h3, toks := tk3 }) hls hne hlen hn hk hbl H3' hA1 fun h4 tk4 R gs ng hR hlk hkp => ⟨h4, tk4, rfl, R, gs, ng, rfl, hR, hlk, fun b o e hb => ?_⟩
  have hbL : b ≠ L := fun h => hLf o (h ▸ e)
  have e2 : h2.get? b = some o := q2 b o (K1 b o e List.not_mem_nil) (by simpa using hbL)
  exact hkp b o (q3 b o e2 (by simpa using hbL)) hbL (fun h => hGf o (h ▸ e2)) (by simpa using hb)
end Mine
end PTD7
section PPL
open PySem PySem.W PyProof.Rows PySem.Calls
namespace Mine
/-! the plain law: what the lexer reads off the padded line is what the law tells -/
theorem safeC_all : ((List.range 256).all fun c => (Re.safeC c == hasS safeV c) && (!(Re.safeC c) || (decide (c ∈ safeL) && !(c == 32) && !(c == 39) && !(c == 34)))) = true := by decide +kernel
theorem safeC_hasS {c : Nat} (h : c < 256) : Re.safeC c = hasS safeV c := by
  have := List.all_eq_true.mp safeC_all c (List.mem_range.mpr h)
  simp only [Bool.and_eq_true, beq_iff_eq] at this
  exact this.1
theorem safeC_safeL {c : Nat} (h : c < 256) (hs : Re.safeC c = true) : c ∈ safeL ∧ c ≠ 32 ∧ c ≠ 39 ∧ c ≠ 34 := by
  have := List.all_eq_true.mp safeC_all c (List.mem_range.mpr h)
  simp only [hs, Bool.and_eq_true, Bool.not_true, Bool.false_or, decide_eq_true_eq, Bool.not_eq_true', beq_eq_false_iff_ne] at this
  exact ⟨this.2.1.1.1, this.2.1.1.2, this.2.1.2, this.2.2⟩
theorem filter_nil_all {l : List Nat} (h : ∀ c ∈ l, c < 256) : (l.filter fun ch => !hasS safeV ch) = [] ↔ l.all Re.safeC = true := by
  rw [List.filter_eq_nil_iff, List.all_eq_true]
  refine ⟨fun q c hc => ?_, fun q c hc => ?_⟩
  · have := q c hc
    rw [safeC_hasS (h c hc)]
    simpa using this
  · have := q c hc
    rw [safeC_hasS (h c hc)] at this
    simp [this]
theorem quL_len {l : List Nat} (h : ∀ c ∈ l, c < 256) : (quL l).length = sizeW l := by
  unfold quL sizeW
  by_cases h0 : l = []
  · subst h0; rfl
  · rw [if_neg h0]
    by_cases hs : l.all Re.safeC = true
    · rw [if_pos hs, if_pos ⟨h0, (filter_nil_all h).mpr hs⟩]
    · rw [if_neg hs, if_neg fun q => hs ((filter_nil_all h).mp q.2)]
      rw [List.length_append, List.length_cons, subW_len, List.length_singleton]
      omega
theorem scan_safe : ∀ (l t : List Nat) (q : Bool) (tok : List Nat), (∀ c ∈ l, c < 256 ∧ Re.safeC c = true) → scan (l ++ t) q .wd tok = scan t q .wd (tok ++ l)
  | [], t, q, tok, _ => by simp
  | c :: l, t, q, tok, h => by
    obtain ⟨h1, h2, h3, h4⟩ := safeC_safeL (h c (List.mem_cons_self ..)).1 (h c (List.mem_cons_self ..)).2
    rw [List.cons_append, scan, if_neg h2, if_neg h3, if_neg h4, if_pos h1, scan_safe l t q _ fun d hd => h d (List.mem_cons_of_mem _ hd)]
    simp
theorem scan_apo : ∀ (l t : List Nat) (q : Bool) (tok : List Nat), scan (subW 39 quI l ++ 39 :: t) q .ap tok = scan t true .wd (tok ++ l)
  | [], t, q, tok => by
    show scan (39 :: t) q .ap tok = _
    rw [scan, if_pos rfl, List.append_nil]
  | a :: l, t, q, tok => by
    by_cases h : a = 39
    · subst h
      have e : subW 39 quI (39 :: l) ++ 39 :: t = 39 :: 34 :: 39 :: 34 :: 39 :: (subW 39 quI l ++ 39 :: t) := by
        unfold subW
        rw [List.flatMap_cons, if_pos rfl]
        simp [quI]
      rw [e, scan, if_pos rfl, scan, if_neg (by decide), if_neg (by decide), if_pos rfl, scan, if_neg (by decide), if_pos rfl, scan, if_pos rfl, scan, if_neg (by decide), if_pos rfl, scan_apo l t true]
      simp
    · have e : subW 39 quI (a :: l) ++ 39 :: t = a :: (subW 39 quI l ++ 39 :: t) := by
        unfold subW
        rw [List.flatMap_cons, if_neg h]
        simp
      rw [e, scan, if_neg h, scan_apo l t true]
      simp
theorem scan_word (l t : List Nat) (h : ∀ c ∈ l, c < 256) : ∃ q, ¬ (l = [] ∧ q = false) ∧ scan (quL l ++ t) false .bl [] = scan t q .wd l := by
  unfold quL
  by_cases h0 : l = []
  · subst h0
    refine ⟨true, by simp, ?_⟩
    rw [if_pos rfl]
    show scan (39 :: 39 :: t) false .bl [] = _
    rw [scan, if_pos ⟨rfl, rfl⟩, if_neg (by decide), if_pos rfl, scan, if_pos rfl]
  · rw [if_neg h0]
    by_cases hs : l.all Re.safeC = true
    · rw [if_pos hs]
      cases l with
      | nil => exact absurd rfl h0
      | cons c l =>
        have ha := List.all_eq_true.mp hs
        obtain ⟨h1, h2, h3, h4⟩ := safeC_safeL (h c (List.mem_cons_self ..)) (ha c (List.mem_cons_self ..))
        refine ⟨false, by simp, ?_⟩
        rw [List.cons_append, scan, if_pos ⟨rfl, rfl⟩, if_neg h2, if_neg h3, if_pos h1, scan_safe l t false [c] fun d hd => ⟨h d (List.mem_cons_of_mem _ hd), ha d (List.mem_cons_of_mem _ hd)⟩]
        rfl
    · rw [if_neg hs]
      refine ⟨true, by simp, ?_⟩
      show scan (39 :: (subW 39 quI l ++ [39] ++ t)) false .bl [] = _
      rw [scan, if_pos ⟨rfl, rfl⟩, if_neg (by decide), if_pos rfl, List.append_assoc]
      show scan (subW 39 quI l ++ 39 :: t) false .ap [] = _
      rw [scan_apo]; rfl
theorem scan_blank : ∀ n : Nat, scan (List.replicate n 32) false .bl [] = some (false, .no, [], [])
  | 0 => by show scan [] false .bl [] = _; rw [scan, if_pos ⟨rfl, rfl⟩]
  | n + 1 => by
    rw [List.replicate_succ, scan, if_pos ⟨rfl, rfl⟩, if_pos rfl]
    exact scan_blank n
theorem scan_no : scan [] false .no [] = some (false, .no, [], []) := by rw [scan]
theorem blkN_nat (k p : Nat) (hk : 0 < k) : blkN k (p : Int) = ((blocks k p : Nat) : Int) := by
  unfold blkN blocks
  rw [show ((p : Int) + (k : Nat) - 1) = ((p + k - 1 : Nat) : Int) by omega, Int.fdiv_eq_ediv_of_nonneg _ (by omega), Int.natCast_ediv]
theorem blkP_mul (k m : Nat) (hk : 0 < k) : blocks k (m * k) = m := by
  unfold blocks
  rw [show m * k + k - 1 = k - 1 + k * m by rw [Nat.mul_comm]; omega, Nat.add_mul_div_left _ _ hk, Nat.div_eq_of_lt (by omega), Nat.zero_add]
theorem blkP_le {k p m : Nat} (hk : 0 < k) (h : p ≤ m * k) : blocks k p ≤ m := by
  have e := blkP_mul k m hk
  rw [← e]
  unfold blocks
  exact Nat.div_le_div_right (by omega)
theorem blkP_gt {k p m : Nat} (hk : 0 < k) (h : m * k ≤ p) : m ≤ blocks k p := by
  have e := blkP_mul k m hk
  rw [← e]
  unfold blocks
  exact Nat.div_le_div_right (by omega)
theorem jnL_len : ∀ {ls : List (List Nat)}, ls ≠ [] → (∀ l ∈ ls, ∀ c ∈ l, c < 256) → (jnL ls).length + 1 = ((ls.map sizeW).sum + ls.length)
  | [], h, _ => absurd rfl h
  | [x], _, h => by
    show (quL x).length + 1 = _
    rw [quL_len (h x (List.mem_singleton.mpr rfl))]
    simp
  | x :: y :: r, _, h => by
    have ih := jnL_len (ls := y :: r) (by simp) fun l hl => h l (List.mem_cons_of_mem _ hl)
    rw [jnL, List.length_append, List.length_cons, quL_len (h x (List.mem_cons_self ..)), ih]
    simp only [List.map_cons, List.sum_cons, List.length_cons]
    omega
theorem tr_told (k m n : Nat) (hk : 0 < k) (hm : n = m * k) (pad : Nat) : ∀ (ls : List (List Nat)) (pc : Nat), ls ≠ [] → (∀ l ∈ ls, ∀ c ∈ l, c < 256) → pc + (jnL ls).length + pad = n →
    Tr k n (jnL ls ++ List.replicate pad 32) .bl (toldL k (m : Nat) ls (pc : Nat) ++ [(none, m)])
  | [], _, h, _, _ => absurd rfl h
  | [x], pc, _, h, hn => by
    have hx := h x (List.mem_singleton.mpr rfl)
    have hl := quL_len hx
    have hn' : pc + (quL x).length + pad = n := hn
    show Tr k n (quL x ++ List.replicate pad 32) .bl ((some x, (min (blkN k ((pc : Int) + ((sizeW x : Nat) + 1))) (m : Int)).toNat) :: [(none, m)])
    rw [show ((pc : Int) + ((sizeW x : Nat) + 1)) = ((pc + sizeW x + 1 : Nat) : Int) by omega, blkN_nat _ _ hk]
    obtain ⟨q, hq, e⟩ := scan_word x (List.replicate pad 32) hx
    cases pad with
    | zero =>
      have e2 : (min ((blocks k (pc + sizeW x + 1) : Nat) : Int) (m : Int)).toNat = blocks k (n - ([] : List Nat).length) := by
        have h1 : blocks k n = m := by rw [hm]; exact blkP_mul k m hk
        have h2 : m ≤ blocks k (pc + sizeW x + 1) := blkP_gt hk (by omega)
        show _ = blocks k (n - 0)
        rw [Nat.sub_zero, h1]; omega
      rw [e2]
      refine Tr.cons (q := q) (tok := x) (st' := .no) ?_ (by rw [if_neg hq]) ?_
      · rw [e]; show scan [] q .wd x = _; rw [scan]
      · have h1 : m = blocks k (n - ([] : List Nat).length) := by rw [hm]; exact (blkP_mul k m hk).symm
        rw [h1]
        exact Tr.cons scan_no (by rw [if_pos ⟨rfl, rfl⟩]) Tr.nil
    | succ p =>
      have e2 : (min ((blocks k (pc + sizeW x + 1) : Nat) : Int) (m : Int)).toNat = blocks k (n - (List.replicate p 32).length) := by
        rw [List.length_replicate, show n - p = pc + sizeW x + 1 by omega]
        have h2 : blocks k (pc + sizeW x + 1) ≤ m := blkP_le hk (by omega)
        omega
      rw [e2]
      refine Tr.cons (q := q) (tok := x) (st' := .bl) ?_ (by rw [if_neg hq]) ?_
      · rw [e, List.replicate_succ, scan, if_pos rfl, if_neg hq]
      · have h1 : m = blocks k (n - ([] : List Nat).length) := by rw [hm]; exact (blkP_mul k m hk).symm
        rw [h1]
        exact Tr.cons (scan_blank p) (by rw [if_pos ⟨rfl, rfl⟩]) Tr.nil
  | x :: y :: r, pc, _, h, hn => by
    have hx := h x (List.mem_cons_self ..)
    have hl := quL_len hx
    rw [jnL, List.append_assoc, List.cons_append]
    rw [jnL, List.length_append, List.length_cons] at hn
    show Tr k n _ .bl ((some x, (min (blkN k ((pc : Int) + ((sizeW x : Nat) + 1))) (m : Int)).toNat) :: (toldL k (m : Nat) (y :: r) ((pc : Int) + ((sizeW x : Nat) + 1)) ++ [(none, m)]))
    rw [show ((pc : Int) + ((sizeW x : Nat) + 1)) = ((pc + sizeW x + 1 : Nat) : Int) by omega, blkN_nat _ _ hk]
    obtain ⟨q, hq, e⟩ := scan_word x (32 :: (jnL (y :: r) ++ List.replicate pad 32)) hx
    have e2 : (min ((blocks k (pc + sizeW x + 1) : Nat) : Int) (m : Int)).toNat = blocks k (n - (jnL (y :: r) ++ List.replicate pad 32).length) := by
      rw [List.length_append, List.length_replicate, show n - ((jnL (y :: r)).length + pad) = pc + sizeW x + 1 by omega]
      have h2 : blocks k (pc + sizeW x + 1) ≤ m := blkP_le hk (by omega)
      omega
    rw [e2]
    refine Tr.cons (q := q) (tok := x) (st' := .bl) ?_ (by rw [if_neg hq]) (tr_told k m n hk hm pad (y :: r) (pc + sizeW x + 1) (by simp) (fun l hl => h l (List.mem_cons_of_mem _ hl)) (by omega))
    rw [e, scan, if_pos rfl, if_neg hq]
structure LawIn (k m : Nat) (ls : List (List Nat)) : Prop where
  pad : (padL k (jnL ls)).length = m * k
  whole : wholeN ls = ((jnL ls).length : Nat)
  bl : blkN k (wholeN ls) = (m : Nat)
  h256 : ∀ c ∈ padL k (jnL ls), c < 256
  tr : Tr k (padL k (jnL ls)).length (padL k (jnL ls)) .bl (toldL k (blkN k (wholeN ls)) ls 0 ++ [(none, (blkN k (wholeN ls)).toNat)])
theorem subW_256 {l : List Nat} (h : ∀ c ∈ l, c < 256) : ∀ c ∈ quL l, c < 256 := by
  unfold quL
  split
  · simp
  · split
    · exact h
    · intro c hc
      simp only [List.cons_append, List.mem_cons, List.mem_append, List.not_mem_nil, or_false] at hc
      rcases hc with rfl | hc | rfl
      · decide
      · unfold subW at hc
        obtain ⟨a, ha, hc⟩ := List.mem_flatMap.mp hc
        split at hc
        · simp only [quI, List.mem_cons, List.not_mem_nil, or_false] at hc
          rcases hc with rfl | rfl | rfl | rfl | rfl <;> decide
        · rw [List.mem_singleton.mp hc]; exact h a ha
      · decide
theorem jnL_256 : ∀ {ls : List (List Nat)}, (∀ l ∈ ls, ∀ c ∈ l, c < 256) → ∀ c ∈ jnL ls, c < 256
  | [], _ => by intro c hc; simp [jnL] at hc
  | [x], h => subW_256 (h x (List.mem_singleton.mpr rfl))
  | x :: y :: r, h => by
    intro c hc
    rw [jnL] at hc
    rcases List.mem_append.mp hc with hc | hc
    · exact subW_256 (h x (List.mem_cons_self ..)) c hc
    · rcases List.mem_cons.mp hc with rfl | hc
      · decide
      · exact jnL_256 (ls := y :: r) (fun l hl => h l (List.mem_cons_of_mem _ hl)) c hc
theorem sum_ofNat : ∀ l : List Nat, (l.map Int.ofNat).sum = ((l.sum : Nat) : Int)
  | [] => rfl
  | a :: l => by
    rw [List.map_cons, List.sum_cons, List.sum_cons, sum_ofNat l, Int.natCast_add]; rfl
theorem pad_blk (k W : Nat) (hk : 0 < k) : W + ((-(W : Int)).fmod (k : Nat)).toNat = blocks k W * k := by
  rw [Int.fmod_eq_emod_of_nonneg _ (by omega)]
  have h0 := Int.emod_nonneg (-(W : Int)) (b := (k : Int)) (by omega)
  have h1 := Int.emod_lt_of_pos (-(W : Int)) (b := (k : Int)) (by omega)
  have h2 := Int.emod_add_mul_ediv (-(W : Int)) k
  generalize (-(W : Int)) % (k : Int) = r at *
  generalize (-(W : Int)) / (k : Int) = z at *
  have hz : z ≤ 0 := Int.not_lt.mp fun h => by have := Int.mul_pos (a := (k : Int)) (by omega) h; omega
  obtain ⟨t, ht⟩ := Int.eq_ofNat_of_zero_le (a := -z) (by omega)
  have hz' : z = -(t : Int) := by omega
  subst hz'
  rw [Int.mul_neg] at h2
  have h3 : W + r.toNat = k * t := by
    have : ((k * t : Nat) : Int) = (k : Int) * t := Int.natCast_mul ..
    omega
  have h4 : blocks k W = t := by
    unfold blocks
    rw [show W + k - 1 = (k - 1 - r.toNat) + k * t by omega, Nat.add_mul_div_left _ _ hk, Nat.div_eq_of_lt (by omega), Nat.zero_add]
  rw [h3, h4, Nat.mul_comm]
theorem law_in (k : Nat) (hk : k = 2 ∨ k = 3 ∨ k = 4 ∨ k = 5) {ls : List (List Nat)} (h0 : ls ≠ []) (h : ∀ l ∈ ls, ∀ c ∈ l, c < 256) : ∃ m, LawIn k m ls := by
  have hk0 : 0 < k := by omega
  have hjl := jnL_len h0 h
  have hw : wholeN ls = ((jnL ls).length : Nat) := by
    unfold wholeN
    rw [sum_ofNat]
    omega
  generalize hW : (jnL ls).length = W at *
  have hpn : ∃ p, padN k (jnL ls) = p ∧ W + p = blocks k W * k := by
    refine ⟨_, rfl, ?_⟩
    unfold padN
    rw [hW]
    exact pad_blk k W hk0
  obtain ⟨p, hp, hpk⟩ := hpn
  have hpl : (padL k (jnL ls)).length = blocks k W * k := by
    unfold padL
    rw [List.length_append, List.length_replicate, hp, hW, hpk]
  have hb : blkN k (wholeN ls) = ((blocks k W : Nat) : Int) := by rw [hw]; exact blkN_nat k W hk0
  refine ⟨blocks k W, hpl, hw.trans (by rw [hW]), hb, fun c hc => ?_, ?_⟩
  · unfold padL at hc
    rcases List.mem_append.mp hc with hc | hc
    · exact jnL_256 h c hc
    · rw [(List.mem_replicate.mp hc).2]; decide
  · rw [hb, hpl]
    have z := tr_told k (blocks k W) (blocks k W * k) hk0 rfl p ls 0 h0 h (by rw [hW]; omega)
    have e : padL k (jnL ls) = jnL ls ++ List.replicate p 32 := by unfold padL; rw [hp]
    rw [e]
    exact z
end Mine
end PPL
section PLC5
open PySem PySem.W PyProof.Rows PySem.Calls
open PySem.Builtin.Str (occurrences)
set_option maxHeartbeats 0
namespace Mine
variable {B : Bool}
noncomputable def laB (w : World) : List Stmt := stmtsOf (fdOf (KK w) 792)
noncomputable def laEnv (w : World) (L : Addr) : Env := { scope := (fdOf (KK w) 792).scope, locals := L, globals := mainGlobals, cells := [], qual := "law.<locals>.", func := some 792, code := .ref 791, frame := some L, builtins := builtinsNs }
noncomputable def laE5 (w : World) : PySem.Expr := asgE (hdS (laB w))
noncomputable def xxD (P : Params) (k : Tok) (e : Nat) : Option Value → Obj
  | none => ⟨.type "dict", none, .dict #[] e, #[]⟩
  | some v => ⟨.type "dict", none, .dict #[ent P "x" k v] e, #[]⟩
noncomputable def IntsZ (l : List Int) (vs : List Value) : Prop := vs.length = l.length ∧ ∀ (i : Nat) (n : Int), l[i]? = some n → ∃ t, vs[i]? = some (.int n t)
theorem StrsOf.snoc {l : List (List Nat)} {vs : List Value} (h : StrsOf l vs) (n : List Nat) (t : Tok) : StrsOf (l ++ [n]) (vs ++ [.str ⟨⟨n⟩⟩ t]) := by
  refine ⟨by simp [h.1], fun i m hi => ?_⟩
  by_cases hlt : i < l.length
  · rw [List.getElem?_append_left hlt] at hi
    rw [List.getElem?_append_left (by rw [h.1]; exact hlt)]
    exact h.2 i m hi
  · rw [List.getElem?_append_right (by omega)] at hi
    rw [List.getElem?_append_right (by rw [h.1]; omega), h.1]
    have : i - l.length = 0 := by
      cases hh : i - l.length with
      | zero => rfl
      | succ k => rw [hh] at hi; simp at hi
    rw [this] at hi ⊢
    simp only [List.getElem?_cons_zero, Option.some.injEq] at hi ⊢
    exact ⟨t, by rw [hi]⟩
noncomputable def c5C (w : World) (I C F W : Addr) (us : List Value) (nu : Nat) (i : Int) (vs : List Value) (n : Nat) (k : Tok) (e : Nat) (ov : Option Value) : Cells := [(I, fldO "list_iterator" [.ref W, .int i 0]), (C, lstO vs n), (F, xxD w.params k e ov), (W, lstO us nu)]
noncomputable def c5Lp (w : World) (L : Addr) (I C F : Addr) : Code := .compLoop (laE5 w) 0 (.ref I) (.ref C) (lcEnv2 (laE5 w) (laEnv w L) [] F)
noncomputable def c5St (w : World) (L : Addr) (I C F : Addr) : Code := .compStart (laE5 w) 0 (.ref I) (.ref C) (lcEnv2 (laE5 w) (laEnv w L) [] F)
theorem c5_nt {w : World} {L I C F W : Addr} {us : List Value} {nu : Nat} {k tv : Tok} {i : Int} {vs : List Value} {n e : Nat} {v : Value} {l : Int} {s : Shared} {A : Around} {Q : PySem.Fin → Shared → Prop} {E : Value → Shared → Prop} (H : Hp (KK w) s.heap (c5C w I C F W us nu i vs n k e none)) (hA : Fit A 22) (hx : us[i.toNat]? = some (.int l tv)) (hz : vs.length ≤ sizeLine)
  (next : ∀ h' tk' (tt : Tok) k' e' n', Hp (KK w) h' (c5C w I C F W us nu (i + 1) (vs ++ [.str ⟨⟨wordS l⟩⟩ tt]) n' k' e' (some (.int l tv))) → Kept s.heap h' (c5C w I C F W us nu i vs n k e none) → Q (.again (c5Lp w L I C F)) { s with heap := h', toks := tk' }) :
  wpC B (model PG w) A (denZ (c5Lp w L I C F)) Q E s := by
  refine start_bot 22 hA rfl ?_
  refine go_oc (kNoLimit _) ([(2, [0, 3], (lstNextA (.int l tv)))]) 13 22 (pl 0x10030030c1) (fun _ => .call (.ref 765) ⟨[.int l tv], []⟩) (fun _ => [okP ((I = I ∧ "list_iterator" = "list_iterator" ∧ 0 = 0 ∧ W = W ∧ "list" = "list") ∧ us[i.toNat]? = some (.int l tv))]) (fun o z => c5C w I C F W us nu (i + 1) vs n (tokK z 2 0) (epZ z 2) (some (.int l tv))) 4 22 H (fun o => by kernel_rfl) (fun o => ok1 ⟨⟨rfl, rfl, rfl, rfl, rfl⟩, hx⟩) fun h1 tk1 o1 z H1 q1 q1' hc1 => ?_
  generalize tokK z 2 0 = k2 at H1 q1 q1'
  generalize epZ z 2 = e2 at H1 q1 q1'
  refine callF_ok hc1 (Ctr.toF ((lw_ctr (s := { s with heap := h1, toks := tk1 }) H1).mono (by omega))) fun f h2 tk2 hf => ?_
  obtain ⟨v2, rfl, ⟨t2, rfl⟩, q2⟩ := hf
  have H3 : Hp (KK w) h2 (c5C w I C F W us nu (i + 1) vs n k2 e2 (some (.int l tv))) := H1.stays q2
  have K3 := q1' _ (q2.more fun b hb => absurd hb List.not_mem_nil)
  clear hc1 q1'
  exact go_o (s := { s with heap := h2, toks := tk2 }) (kNoLimit _) ([(1, [1], (actA appendA))]) 0 22 (pl 0x1) (fun _ => .again (c5Lp w L I C F)) (fun _ => [okP (C = C ∧ "list" = "list" ∧ (⟨vs⟩ : Array Value).size ≤ sizeLine)]) (fun o z => c5C w I C F W us nu (i + 1) (vs ++ [.str ⟨⟨wordS l⟩⟩ t2]) (seqN z 1) k2 e2 (some (.int l tv))) 4 H3 (fun o => by kernel_rfl) (fun o => ok1 ⟨rfl, rfl, hz⟩) (fun h' tk' o z H' k' _ => next h' tk' _ _ _ _ H' (K3.trans k' fun b _ hb => hb))
theorem c5_ne {w : World} {L I C F W : Addr} {us : List Value} {nu : Nat} {k : Tok} {i : Int} {vs : List Value} {n e : Nat} {v : Value} {s : Shared} {A : Around} {Q : PySem.Fin → Shared → Prop} {E : Value → Shared → Prop} (H : Hp (KK w) s.heap (c5C w I C F W us nu i vs n k e none)) (hA : Fit A 22) (hx : us[i.toNat]? = none)
  (next : ∀ h' tk', Hp (KK w) h' [(I, fldO "list_iterator" [.none, .int i 0]), (C, lstO vs n), (F, xxD w.params k e none), (W, lstO us nu)] → Kept s.heap h' (c5C w I C F W us nu i vs n k e none) → Q (.done .next) { s with heap := h', toks := tk' }) :
  wpC B (model PG w) A (denZ (c5Lp w L I C F)) Q E s := by
  refine start_bot 22 hA rfl ?_
  exact go_o (kNoLimit _) ([(2, [0, 3], (lstStopA))]) 1 22 (pl 0x1181) (fun _ => .done .next) (fun _ => [okP ((I = I ∧ "list_iterator" = "list_iterator" ∧ 0 = 0 ∧ W = W ∧ "list" = "list") ∧ us[i.toNat]? = none)]) (fun o z => [(I, fldO "list_iterator" [.none, .int i 0]), (C, lstO vs n), (F, xxD w.params k e none), (W, lstO us nu)]) 4 H (fun o => by kernel_rfl) (fun o => ok1 ⟨⟨rfl, rfl, rfl, rfl, rfl⟩, hx⟩) (fun h' tk' o z H' k' _ => next h' tk' H' k')
theorem c5_st {w : World} {L I C F W : Addr} {us : List Value} {nu : Nat} {k tv : Tok} {i : Int} {vs : List Value} {n e : Nat} {v : Value} {l : Int} {s : Shared} {A : Around} {Q : PySem.Fin → Shared → Prop} {E : Value → Shared → Prop} (H : Hp (KK w) s.heap (c5C w I C F W us nu i vs n k e (some v))) (hA : Fit A 22) (hx : us[i.toNat]? = some (.int l tv)) (hz : vs.length ≤ sizeLine)
  (next : ∀ h' tk' (tt : Tok) k' e' n', Hp (KK w) h' (c5C w I C F W us nu (i + 1) (vs ++ [.str ⟨⟨wordS l⟩⟩ tt]) n' k' e' (some (.int l tv))) → Kept s.heap h' (c5C w I C F W us nu i vs n k e (some v)) → Q (.again (c5Lp w L I C F)) { s with heap := h', toks := tk' }) :
  wpC B (model PG w) A (denZ (c5Lp w L I C F)) Q E s := by
  refine start_bot 22 hA rfl ?_
  refine go_oc (kNoLimit _) ([(2, [0, 3], (lstNextA (.int l tv)))]) 13 22 (pl 0x10030030c1) (fun _ => .call (.ref 765) ⟨[.int l tv], []⟩) (fun _ => [okP ((I = I ∧ "list_iterator" = "list_iterator" ∧ 0 = 0 ∧ W = W ∧ "list" = "list") ∧ us[i.toNat]? = some (.int l tv))]) (fun o z => c5C w I C F W us nu (i + 1) vs n (tokK z 2 0) (epZ z 2) (some (.int l tv))) 4 22 H (fun o => by kernel_rfl) (fun o => ok1 ⟨⟨rfl, rfl, rfl, rfl, rfl⟩, hx⟩) fun h1 tk1 o1 z H1 q1 q1' hc1 => ?_
  generalize tokK z 2 0 = k2 at H1 q1 q1'
  generalize epZ z 2 = e2 at H1 q1 q1'
  refine callF_ok hc1 (Ctr.toF ((lw_ctr (s := { s with heap := h1, toks := tk1 }) H1).mono (by omega))) fun f h2 tk2 hf => ?_
  obtain ⟨v2, rfl, ⟨t2, rfl⟩, q2⟩ := hf
  have H3 : Hp (KK w) h2 (c5C w I C F W us nu (i + 1) vs n k2 e2 (some (.int l tv))) := H1.stays q2
  have K3 := q1' _ (q2.more fun b hb => absurd hb List.not_mem_nil)
  clear hc1 q1'
  exact go_o (s := { s with heap := h2, toks := tk2 }) (kNoLimit _) ([(1, [1], (actA appendA))]) 0 22 (pl 0x1) (fun _ => .again (c5Lp w L I C F)) (fun _ => [okP (C = C ∧ "list" = "list" ∧ (⟨vs⟩ : Array Value).size ≤ sizeLine)]) (fun o z => c5C w I C F W us nu (i + 1) (vs ++ [.str ⟨⟨wordS l⟩⟩ t2]) (seqN z 1) k2 e2 (some (.int l tv))) 4 H3 (fun o => by kernel_rfl) (fun o => ok1 ⟨rfl, rfl, hz⟩) (fun h' tk' o z H' k' _ => next h' tk' _ _ _ _ H' (K3.trans k' fun b _ hb => hb))
theorem c5_se {w : World} {L I C F W : Addr} {us : List Value} {nu : Nat} {k : Tok} {i : Int} {vs : List Value} {n e : Nat} {v : Value} {s : Shared} {A : Around} {Q : PySem.Fin → Shared → Prop} {E : Value → Shared → Prop} (H : Hp (KK w) s.heap (c5C w I C F W us nu i vs n k e (some v))) (hA : Fit A 22) (hx : us[i.toNat]? = none)
  (next : ∀ h' tk', Hp (KK w) h' [(I, fldO "list_iterator" [.none, .int i 0]), (C, lstO vs n), (F, xxD w.params k e (some v)), (W, lstO us nu)] → Kept s.heap h' (c5C w I C F W us nu i vs n k e (some v)) → Q (.done .next) { s with heap := h', toks := tk' }) :
  wpC B (model PG w) A (denZ (c5Lp w L I C F)) Q E s := by
  refine start_bot 22 hA rfl ?_
  exact go_o (kNoLimit _) ([(2, [0, 3], (lstStopA))]) 1 22 (pl 0x1181) (fun _ => .done .next) (fun _ => [okP ((I = I ∧ "list_iterator" = "list_iterator" ∧ 0 = 0 ∧ W = W ∧ "list" = "list") ∧ us[i.toNat]? = none)]) (fun o z => [(I, fldO "list_iterator" [.none, .int i 0]), (C, lstO vs n), (F, xxD w.params k e (some v)), (W, lstO us nu)]) 4 H (fun o => by kernel_rfl) (fun o => ok1 ⟨⟨rfl, rfl, rfl, rfl, rfl⟩, hx⟩) (fun h' tk' o z H' k' _ => next h' tk' H' k')
inductive c5Post (w : World) (I C F W : Addr) (us : List Value) (nu : Nat) (ls : List Int) (h0 : Heap) (cs0 : Cells) (f : Flow) (h : Heap) : Prop
  | mk (hf : f = .next) (it : Obj) (vs : List Value) (n : Nat) (k : Tok) (e : Nat) (ov : Option Value) (hl : StrsOf (ls.map wordS) vs) (H : Hp (KK w) h [(I, it), (C, lstO vs n), (F, xxD w.params k e ov), (W, lstO us nu)]) (q : Kept h0 h cs0)
inductive c5I (w : World) (I C F W : Addr) (us : List Value) (nu : Nat) (ls : List Int) (h0 : Heap) (cs0 : Cells) (m : Nat) (h : Heap) : Prop
  | mk (j : Nat) (vs : List Value) (n : Nat) (k : Tok) (e : Nat) (ov : Option Value) (hm : m = ls.length - j) (hj : j ≤ ls.length) (hl : StrsOf ((ls.take j).map wordS) vs) (H : Hp (KK w) h (c5C w I C F W us nu ((j : Nat) : Int) vs n k e ov)) (q : Kept h0 h cs0)
theorem c5_loop {w : World} {L I C F W : Addr} {us : List Value} {nu : Nat} {ls : List Int} {k : Tok} {e : Nat} {s : Shared} (hls : IntsZ ls us) (hn : ls.length ≤ sizeLine) (H : Hp (KK w) s.heap (c5C w I C F W us nu 0 [] 0 k e none)) :
  CtrF B PG w (c5Lp w L I C F) 23 s (c5Post w I C F W us nu ls s.heap (c5C w I C F W us nu 0 [] 0 k e none)) := by
  refine ctr_loop (s := s) rfl rfl 22 (c5I w I C F W us nu ls s.heap (c5C w I C F W us nu 0 [] 0 k e none)) ?_ ls.length
    ⟨0, [], 0, k, e, none, rfl, Nat.zero_le _, ⟨rfl, fun i n h => by simp at h⟩, H, Kept.refl _ _⟩
  rintro m h tk A hA ⟨j, vs, n, k1, e1, ov, rfl, hj, hg, H1, q1⟩
  have hvl : vs.length ≤ sizeLine := by rw [hg.1, List.length_map, List.length_take]; omega
  by_cases hlt : j < ls.length
  · obtain ⟨tv, hx0⟩ := hls.2 j _ (List.getElem?_eq_getElem hlt)
    have hx : us[(((j : Nat) : Int)).toNat]? = some (.int ls[j] tv) := hx0
    have htk : ls.take (j + 1) = ls.take j ++ [ls[j]] := by rw [List.take_add_one, List.getElem?_eq_getElem hlt]; rfl
    have hg2 : ∀ tt : Tok, StrsOf ((ls.take (j + 1)).map wordS) (vs ++ [.str ⟨⟨wordS ls[j]⟩⟩ tt]) := fun tt => by rw [htk, List.map_append]; exact hg.snoc _ _
    rcases ov with _ | v
    · exact c5_nt (v := .none) (s := { s with heap := h, toks := tk }) H1 hA hx hvl fun h' tk' tt k' e' n' H' k2 => ⟨h', tk', rfl, .inl ⟨rfl, ls.length - (j + 1), by omega, j + 1, _, n', k', e', _, rfl, hlt, hg2 tt, H', q1.trans k2 fun b _ hb => hb⟩⟩
    · exact c5_st (s := { s with heap := h, toks := tk }) H1 hA hx hvl fun h' tk' tt k' e' n' H' k2 => ⟨h', tk', rfl, .inl ⟨rfl, ls.length - (j + 1), by omega, j + 1, _, n', k', e', _, rfl, hlt, hg2 tt, H', q1.trans k2 fun b _ hb => hb⟩⟩
  · have hjl : j = ls.length := by omega
    subst hjl
    rw [List.take_length] at hg
    have hx : us[(((ls.length : Nat) : Int)).toNat]? = none := by
      rw [List.getElem?_eq_none]; rw [hls.1]; exact Nat.le_refl _
    rcases ov with _ | v
    · exact c5_ne (v := .none) (s := { s with heap := h, toks := tk }) H1 hA hx fun h' tk' H' k' => ⟨h', tk', rfl, rfl, _, _, _, _, _, _, hg, H', q1.trans k' fun b _ hb => hb⟩
    · exact c5_se (s := { s with heap := h, toks := tk }) H1 hA hx fun h' tk' H' k' => ⟨h', tk', rfl, rfl, _, _, _, _, _, _, hg, H', q1.trans k' fun b _ hb => hb⟩
theorem c5_ctr {w : World} {L I C F W : Addr} {us : List Value} {nu : Nat} {ls : List Int} {k : Tok} {e : Nat} {s : Shared} (hls : IntsZ ls us) (hn : ls.length ≤ sizeLine) (H : Hp (KK w) s.heap (c5C w I C F W us nu 0 [] 0 k e none)) :
  CtrF B PG w (c5St w L I C F) 23 s (c5Post w I C F W us nu ls s.heap (c5C w I C F W us nu 0 [] 0 k e none)) := by
  refine ctr_again (c' := c5Lp w L I C F) 22 rfl rfl fun A hA => ?_
  have fin : ∀ h' tk', Hp (KK w) h' (c5C w I C F W us nu 0 [] 0 k e none) → Kept s.heap h' (c5C w I C F W us nu 0 [] 0 k e none) →
      (PySem.Fin.again (c5Lp w L I C F) = .again (c5Lp w L I C F) ∧ ∃ h2 tk2, ({ s with heap := h', toks := tk' } : Shared) = { s with heap := h2, toks := tk2 } ∧ CtrF B PG w (c5Lp w L I C F) 23 { s with heap := h', toks := tk' } (c5Post w I C F W us nu ls s.heap (c5C w I C F W us nu 0 [] 0 k e none))) := fun h' tk' H' k' =>
    ⟨rfl, h', tk', rfl, fun A R hA hR => c5_loop (s := { s with heap := h', toks := tk' }) hls hn H' A R hA fun f h2 tk2 ⟨e0, it, vs, n, k1, e1, ov, hg, H2, k2⟩ => hR f h2 tk2 ⟨e0, it, vs, n, k1, e1, ov, hg, H2, k'.trans k2 fun b _ hb => hb⟩⟩
  refine start_bot 22 hA rfl ?_
  obtain ⟨w, b2, rfl⟩ := row_world "comprehension-iter-twice" w
  cases b2
  · skip
    exact go_o (kNoLimit _) [] 11 22 (pl 0x1041041) (fun _ => .again (c5Lp _ L I C F)) (fun _ => []) (fun o z => c5C (w.withFollow "comprehension-iter-twice" false) I C F W us nu 0 [] 0 k e none) 4 H (by exact byR w (fun w o => by kernel_rfl) (fun w o => by kernel_rfl)) (fun o p hp => absurd hp List.not_mem_nil) (fun h' tk' o z H' k' _ => fin h' tk' H' k')
  · skip
    exact go_o (kNoLimit _) [] 1 22 (pl 0x1) (fun _ => .again (c5Lp _ L I C F)) (fun _ => []) (fun o z => c5C (w.withFollow "comprehension-iter-twice" true) I C F W us nu 0 [] 0 k e none) 4 H (by exact byR w (fun w o => by kernel_rfl) (fun w o => by kernel_rfl)) (fun o p hp => absurd hp List.not_mem_nil) (fun h' tk' o z H' k' _ => fin h' tk' H' k')
end Mine
end PLC5
section PSL
open PySem PySem.W PyProof.Rows PySem.Calls
namespace Mine
theorem range_pick {α : Type} (l : List α) : ∀ m : Nat, (List.range m).filterMap (fun i => l[i]?) = l.take m
  | 0 => rfl
  | m + 1 => by
    rw [List.range_succ, List.filterMap_append, range_pick l m, List.take_add_one]
    congr 1
theorem pick4 (vs : List Value) : slicePick vs.toArray none (some 4) none = (vs.take 4).toArray := by
  unfold slicePick
  congr 1
  have e : sliceBounds none (some 4) none vs.toArray.size = (0, min 4 (vs.length : Int), 1) := by
    show (_, max (0 : Int) (min 4 ((vs.toArray.size : Nat) : Int)), (1 : Int)) = _
    rw [show vs.toArray.size = vs.length by simp, show max (0 : Int) (min 4 (vs.length : Int)) = min 4 (vs.length : Int) by omega]
    rfl
  rw [e]
  have e2 : sliceRange 0 (min 4 (vs.length : Int)) 1 = List.range (min 4 vs.length) := by
    unfold sliceRange
    have : (if (1 : Int) > 0 then (if (0 : Int) < min 4 (vs.length : Int) then (min 4 (vs.length : Int) - 0 + 1 - 1) / 1 else 0) else (if (0 : Int) > min 4 (vs.length : Int) then ((0 : Int) - min 4 (vs.length : Int) - 1 - 1) / (-1) else 0)).toNat = min 4 vs.length := by
      rw [if_pos (by decide)]
      split
      · rw [Int.ediv_one]; omega
      · omega
    simp only [this]
    apply List.ext_getElem?
    intro i
    rw [List.getElem?_map]
    cases h : (List.range (min 4 vs.length))[i]? with
    | none => rfl
    | some x => simp
  rw [e2]
  have e3 : (fun i : Nat => vs.toArray[i]?) = fun i => vs[i]? := by funext i; simp
  show (List.range (min 4 vs.length)).filterMap (fun i => vs.toArray[i]?) = _
  rw [e3, range_pick]
  rcases Nat.le_total 4 vs.length with h | h
  · rw [Nat.min_eq_left h]
  · rw [Nat.min_eq_right h, List.take_length, List.take_of_length_le h]
theorem slice4 {B : Bool} {w : World} {l sl : Addr} {vs : List Value} {n : Nat} {t : Tok} {s : Shared} {cs : Cells} (H : Hp (KK w) s.heap cs) (ho : s.heap.get? l = some (lstO vs n)) (hsl : s.heap.get? sl = some ⟨.type "slice", none, .fields #[.none, .int 4 t, .none], #[]⟩) (hz : vs.length ≤ sizeLine) :
    Ctr B PG w (.call (.builtin "list.__getitem__") ⟨[.ref l, .ref sl], []⟩) 10 s (fun v h' => v = .ref (s.heap.objs.size + 0) ∧ Hp (KK w) h' (cs ++ [(s.heap.objs.size + 0, lstO (vs.take 4) 0)]) ∧ Kept s.heap h' []) :=
  (slice_ctr (m := 4) ho hsl hz).weak fun v h' ⟨e1, e2⟩ => by
    subst e2
    have e : ({ cls := .type "list", data := .seq (slicePick vs.toArray none (some 4) none) } : Obj) = lstO (vs.take 4) 0 := by rw [pick4]; rfl
    rw [e]
    exact ⟨e1, H.alloc rfl, fun b o eb _ => Heap.get?_push_of_some _ eb⟩
end Mine
end PSL
section PLA1
open PySem PySem.W PyProof.Rows PySem.Calls
set_option maxHeartbeats 0
namespace Mine
variable {B : Bool}
noncomputable def slcO (t : Tok) : Obj := ⟨.type "slice", none, .fields #[.none, .int 4 t, .none], #[]⟩
theorem IntsZ.four {l : List Int} {vs : List Value} (h : IntsZ l vs) (t1 t2 t3 : Tok) : IntsZ (l.take 4 ++ [10, 25, 0]) (vs.take 4 ++ [.int 10 t1, .int 25 t2, .int 0 t3]) := by
  refine ⟨by simp [h.1], fun i m hi => ?_⟩
  by_cases hlt : i < (l.take 4).length
  · rw [List.getElem?_append_left hlt] at hi
    have hlt2 : i < (vs.take 4).length := by simp only [List.length_take, h.1] at hlt ⊢; exact hlt
    rw [List.getElem?_append_left hlt2]
    have h4 : i < 4 := by simp only [List.length_take] at hlt; omega
    rw [List.getElem?_take_of_lt h4] at hi ⊢
    exact h.2 i m hi
  · rw [List.getElem?_append_right (by omega)] at hi
    have hl2 : (vs.take 4).length = (l.take 4).length := by simp only [List.length_take, h.1]
    rw [List.getElem?_append_right (by omega), hl2]
    generalize i - (l.take 4).length = j at hi ⊢
    match j, hi with
    | 0, hi => cases hi; exact ⟨_, rfl⟩
    | 1, hi => cases hi; exact ⟨_, rfl⟩
    | 2, hi => cases hi; exact ⟨_, rfl⟩
    | j + 3, hi => simp at hi
section
variable {w : World} {S L : Addr} {vs : List Value} {n : Nat} {k1 : Tok} {s : Shared} {A : Around} {Q : Flow → Shared → Prop} {E : Value → Shared → Prop}

theorem la_st1 {e2 : Nat} {l : List Int} {rest : List Stmt} (H : Hp (KK w) s.heap [(L, frmO [ent w.params "script" k1 (.ref S)] e2), (S, lstO vs n)]) (hA : Fit A 60) (hl : IntsZ l vs) (hz : vs.length ≤ 1000)
  (next : ∀ h' tk' k2 W us nu e2', (∀ o, s.heap.get? W ≠ some o) → StrsOf ((l.take 4 ++ [10, 25, 0]).map wordS) us → Hp (KK w) h' [(L, frmO [ent w.params "script" k1 (.ref S), ent w.params "words" k2 (.ref W)] e2'), (S, lstO vs n), (W, lstO us nu)] → Kept s.heap h' [(L, plO)] → wpC B (model PG w) A (execs rest (laEnv w L)) Q E { s with heap := h', toks := tk' }) :
  wpC B (model PG w) A (execs (hdS (laB w) :: rest) (laEnv w L)) Q E s := by
  refine execs_one (start_bot 60 hA (execsZ_eq _ _) ?_)
  refine go_oc (kNoLimit _) [] 9 60 (pl 0x1082081) (fun _ => .call (.builtin "list.__getitem__") ⟨[.ref S, .ref (s.heap.objs.size + 0)], []⟩) (fun _ => []) (fun _ z => [(L, frmO [ent w.params "script" k1 (.ref S)] e2), (S, lstO vs n)] ++ [(s.heap.objs.size + 0, slcO s.toks)]) 3 60 H (by exact byR w (fun w o => by kernel_rfl) (fun w o => by kernel_rfl)) (fun o p hp => absurd hp List.not_mem_nil) fun h1 tk1 o1 z1 H1 q1 q1' hc1 => ?_
  refine callF_ok hc1 (Ctr.toF ((slice4 (s := { s with heap := h1, toks := tk1 }) H1 (H1.ce (S, lstO vs n) (by simp)) (H1.ce (s.heap.objs.size + 0, slcO s.toks) (by simp)) (by unfold sizeLine; omega)).mono (by omega))) fun f h2 tk2 hf => ?_
  obtain ⟨v2, rfl, rfl, H2, q2⟩ := hf
  clear hc1 q1'
  have e1 : ∀ b o, s.heap.get? b = some o → b ≠ L → h1.get? b = some o := fun b o e hb => by
    by_cases hS : b = S
    · have a1 := H.ce (S, lstO vs n) (by simp)
      have a2 := H1.ce (S, lstO vs n) (by simp)
      subst hS
      rw [a1] at e; cases e; exact a2
    · exact q1 b o e (by simp [hb, hS])
  generalize hN : s.heap.objs.size + 0 = N at H2
  generalize hN1 : (({ s with heap := h1, toks := tk1 } : Shared).heap.objs.size + 0) = N1 at H2 ⊢
  have H2' : Hp (KK w) h2 ([(L, frmO [ent w.params "script" k1 (.ref S)] e2), (S, lstO vs n)] ++ [(N1, lstO (vs.take 4) 0)]) := H2.picked [0, 1, 3] (by decide) rfl
  have e2' : ∀ b o, s.heap.get? b = some o → b ≠ L → b < h2.objs.size ∧ h2.get? b = some o ∧ b ≠ N1 := fun b o e hb => by
    have a1 := e1 b o e hb
    have a2 := q2 b o a1 List.not_mem_nil
    exact ⟨Heap.lt_size a2, a2, fun h => Nat.lt_irrefl _ (Nat.lt_of_lt_of_eq (h ▸ Heap.lt_size a1) hN1)⟩
  refine go_oc (s := { s with heap := h2, toks := tk2 }) (kNoLimit _) ([(11, [2, 3], (addLA))]) 14 60 (pl 0x46145143103) (fun _ => c5St w L (h2.objs.size + 2) (h2.objs.size + 3) (h2.objs.size + 4)) (fun _ => [okP (N1 = N1 ∧ h2.objs.size + 0 = h2.objs.size + 0 ∧ "list" = "list" ∧ "list" = "list" ∧ (vs.take 4).length + 3 ≤ sizeLine)]) (fun _ z => [(L, frmO [ent w.params "script" k1 (.ref S)] e2), (S, lstO vs n), (N1, lstO (vs.take 4) 0), (h2.objs.size + 0, lstO [.int 10 tk2, .int 25 (tk2 + 1), .int 0 (tk2 + 2)] 0), (h2.objs.size + 1, lstO (vs.take 4 ++ [.int 10 tk2, .int 25 (tk2 + 1), .int 0 (tk2 + 2)]) 0), (h2.objs.size + 2, fldO "list_iterator" [.ref (h2.objs.size + 1), .int 0 0]), (h2.objs.size + 3, lstO [] 0), (h2.objs.size + 4, xxD w.params 0 0 none)]) 8 60 H2' (by exact byR w (fun w o => by kernel_rfl) (fun w o => by kernel_rfl)) (fun o => ok1 ⟨rfl, rfl, rfl, rfl, by simp only [List.length_take]; unfold sizeLine; omega⟩) fun h3 tk3 o3 z3 H3 q3 q3' hc3 => ?_
  clear q3'
  have hls := hl.four tk2 (tk2 + 1) (tk2 + 2)
  have hlen : (l.take 4 ++ [10, 25, 0] : List Int).length ≤ sizeLine := by simp only [List.length_append, List.length_take, List.length_cons, List.length_nil]; unfold sizeLine; omega
  generalize hM : h2.objs.size = M at *
  have H3' : Hp (KK w) h3 (c5C w (M + 2) (M + 3) (M + 4) (M + 1) (vs.take 4 ++ [.int 10 tk2, .int 25 (tk2 + 1), .int 0 (tk2 + 2)]) 0 0 [] 0 0 0 none ++ [(L, frmO [ent w.params "script" k1 (.ref S)] e2), (S, lstO vs n)]) := H3.picked [5, 6, 7, 4, 0, 1] (by decide) rfl
  refine callF_ok hc3 (CtrF.mono (c5_ctr (s := { s with heap := h3, toks := tk3 }) hls hlen H3'.left) (by omega)) fun f h4 tk4 hf => ?_
  obtain ⟨rfl, it, us, nu, k5, e5, ov, hg, H4, q4⟩ := hf
  clear hc3
  have H4L := Hp.frame1 (cs := c5C w (M + 2) (M + 3) (M + 4) (M + 1) (vs.take 4 ++ [.int 10 tk2, .int 25 (tk2 + 1), .int 0 (tk2 + 2)]) 0 0 [] 0 0 0 none) (ex := [(L, frmO [ent w.params "script" k1 (.ref S)] e2), (S, lstO vs n)]) H3' H4 q4
  have H5 : Hp (KK w) h4 [(L, frmO [ent w.params "script" k1 (.ref S)] e2), (S, lstO vs n), (M + 2, it), (M + 3, lstO us nu), (M + 4, xxD w.params k5 e5 ov)] := H4L.picked [4, 5, 0, 1, 2] (by decide) rfl
  have e4 : ∀ b o, s.heap.get? b = some o → b ≠ L → b < M ∧ h4.get? b = some o := fun b o e hb => by
    obtain ⟨a1, a2, a3⟩ := e2' b o e hb
    refine ⟨a1, ?_⟩
    by_cases hS : b = S
    · have b1 := H.ce (S, lstO vs n) (by simp)
      have b2 := H5.ce (S, lstO vs n) (by simp)
      subst hS
      rw [b1] at e; cases e; exact b2
    · refine q4 b o (q3 b o a2 (by simp [hb, hS, a3])) fun hm => ?_
      simp only [c5C, List.map_cons, List.map_nil, List.mem_cons, List.not_mem_nil, or_false] at hm
      rcases hm with hm | hm | hm | hm <;> exact Nat.not_lt.mpr (Nat.le_add_right _ _) (hm ▸ a1)
  have hL2 := Heap.lt_size (H2'.ce (L, frmO [ent w.params "script" k1 (.ref S)] e2) (by simp))
  have hfr : ∀ o, s.heap.get? (M + 3) ≠ some o := fun o e => by
    by_cases hL : M + 3 = L
    · exact Nat.not_lt.mpr (Nat.le_add_right _ _) (hM ▸ hL ▸ hL2)
    · exact Nat.not_lt.mpr (Nat.le_add_right _ _) (e4 _ o e hL).1
  have fin : ∀ h5 tk5 k2 e6, Hp (KK w) h5 [(L, frmO [ent w.params "script" k1 (.ref S), ent w.params "words" k2 (.ref (M + 3))] e6), (S, lstO vs n), (M + 2, it), (M + 3, lstO us nu)] → Kept h4 h5 [(L, frmO [ent w.params "script" k1 (.ref S)] e2), (S, lstO vs n), (M + 2, it), (M + 3, lstO us nu), (M + 4, xxD w.params k5 e5 ov)] → wpC B (model PG w) A (execs rest (laEnv w L)) Q E { s with heap := h5, toks := tk5 } := fun h5 tk5 k2 e6 H6 q6 => by
    refine next h5 tk5 k2 (M + 3) us nu e6 hfr hg (H6.picked [0, 1, 3] (by decide) rfl) fun b o e hb => ?_
    have hb' : b ≠ L := by simpa using hb
    obtain ⟨a1, a2⟩ := e4 b o e hb'
    by_cases hS : b = S
    · have b1 := H.ce (S, lstO vs n) (by simp)
      have b2 := H6.ce (S, lstO vs n) (by simp)
      subst hS
      rw [b1] at e; cases e; exact b2
    · refine q6 b o a2 fun hm => ?_
      simp only [List.map_cons, List.map_nil, List.mem_cons, List.not_mem_nil, or_false] at hm
      rcases hm with hm | hm | hm | hm | hm
      · exact hb' hm
      · exact hS hm
      all_goals exact Nat.not_lt.mpr (Nat.le_add_right _ _) (hm ▸ a1)
  rcases ov with _ | v
  · skip
    refine go_o (s := { s with heap := h4, toks := tk4 }) (kNoLimit _) [] 9 60 (pl 0x45041) (fun _ => .next) (fun _ => []) (fun o z => [(L, frmO [ent w.params "script" k1 (.ref S), ent w.params "words" (tokK z 0 1) (.ref (M + 3))] (epZ z 0)), (S, lstO vs n), (M + 2, it), (M + 3, lstO us nu)]) 4 H5 (by exact byR w (fun w o => by kernel_rfl) (fun w o => by kernel_rfl)) (fun o p hp => absurd hp List.not_mem_nil) (fun h5 tk5 o z H6 q6 _ => fin h5 tk5 _ _ H6 q6)
  · skip
    refine go_o (s := { s with heap := h4, toks := tk4 }) (kNoLimit _) [] 13 60 (pl 0x45145041) (fun _ => .next) (fun _ => []) (fun o z => [(L, frmO [ent w.params "script" k1 (.ref S), ent w.params "words" (tokK z 0 1) (.ref (M + 3))] (epZ z 0)), (S, lstO vs n), (M + 2, it), (M + 3, lstO us nu)]) 4 H5 (by exact byR w (fun w o => by kernel_rfl) (fun w o => by kernel_rfl)) (fun o p hp => absurd hp List.not_mem_nil) (fun h5 tk5 o z H6 q6 _ => fin h5 tk5 _ _ H6 q6)
theorem la_st2 {e2 nu : Nat} {k2 : Tok} {W : Addr} {us : List Value} {l : List Int} {rest : List Stmt} (H : Hp (KK w) s.heap [(L, frmO [ent w.params "script" k1 (.ref S), ent w.params "words" k2 (.ref W)] e2), (S, lstO vs n), (W, lstO us nu)]) (hA : Fit A 60) (hl : IntsZ l vs) (hz : vs.length ≤ 1000)
  (next : ∀ h' tk' k3 t3 e2', Hp (KK w) h' [(L, frmO [ent w.params "script" k1 (.ref S), ent w.params "words" k2 (.ref W), ent w.params "width" k3 (.int (2 + (l.take 4).sum.fmod 4) t3)] e2'), (W, lstO us nu)] → Kept s.heap h' [(L, plO)] → wpC B (model PG w) A (execs rest (laEnv w L)) Q E { s with heap := h', toks := tk' }) :
  wpC B (model PG w) A (execs (hdS ((laB w).drop 1) :: rest) (laEnv w L)) Q E s := by
  refine execs_one (start_bot 60 hA (execsZ_eq _ _) ?_)
  refine go_oc (kNoLimit _) [] 13 60 (pl 0x1082081000) (fun _ => .call (.builtin "list.__getitem__") ⟨[.ref S, .ref (s.heap.objs.size + 0)], []⟩) (fun _ => []) (fun _ z => [(L, frmO [ent w.params "script" k1 (.ref S), ent w.params "words" k2 (.ref W)] e2), (S, lstO vs n), (W, lstO us nu)] ++ [(s.heap.objs.size + 0, slcO (s.toks + 1))]) 4 60 H (by exact byR w (fun w o => by kernel_rfl) (fun w o => by kernel_rfl)) (fun o p hp => absurd hp List.not_mem_nil) fun h1 tk1 o1 z1 H1 q1 q1' hc1 => ?_
  refine callF_ok hc1 (Ctr.toF ((slice4 (s := { s with heap := h1, toks := tk1 }) H1 (H1.ce (S, lstO vs n) (by simp)) (H1.ce (s.heap.objs.size + 0, slcO (s.toks + 1)) (by simp)) (by unfold sizeLine; omega)).mono (by omega))) fun f h2 tk2 hf => ?_
  obtain ⟨v2, rfl, rfl, H2, q2⟩ := hf
  clear hc1 q1'
  generalize hN1 : (({ s with heap := h1, toks := tk1 } : Shared).heap.objs.size + 0) = N1 at H2 ⊢
  have H2' : Hp (KK w) h2 ([(L, frmO [ent w.params "script" k1 (.ref S), ent w.params "words" k2 (.ref W)] e2), (S, lstO vs n), (W, lstO us nu)] ++ [(N1, lstO (vs.take 4) 0)]) := H2.picked [0, 1, 2, 4] (by decide) rfl
  have K2 : Kept s.heap h2 ([(L, frmO [ent w.params "script" k1 (.ref S), ent w.params "words" k2 (.ref W)] e2)] ++ [(S, lstO vs n), (W, lstO us nu)]) := fun b o e hb => q2 b o (q1 b o e hb) List.not_mem_nil
  have K2L := Kept.part K2 H fun p hp => H2'.ce p (by simp only [List.cons_append, List.nil_append, List.mem_cons, List.not_mem_nil, or_false] at hp ⊢; rcases hp with rfl | rfl <;> simp)
  refine go_oc (s := { s with heap := h2, toks := tk2 }) (kNoLimit _) [] 2 60 (pl 0x1) (fun _ => .call (.builtin "sum") ⟨[.ref N1], []⟩) (fun _ => []) (fun _ z => [(L, frmO [ent w.params "script" k1 (.ref S), ent w.params "words" k2 (.ref W)] e2), (S, lstO vs n), (W, lstO us nu), (N1, lstO (vs.take 4) 0)]) 4 60 H2' (by exact byR w (fun w o => by kernel_rfl) (fun w o => by kernel_rfl)) (fun o p hp => absurd hp List.not_mem_nil) fun h3 tk3 o3 z3 H3 q3 q3' hc3 => ?_
  clear q3'
  have H3s : Hp (KK w) h3 ((N1, ⟨.type "list", none, .seq (vs.take 4).toArray 0, #[]⟩) :: []) := H3.picked [3] (by decide) rfl
  have K3L : Kept s.heap h3 [(L, frmO [ent w.params "script" k1 (.ref S), ent w.params "words" k2 (.ref W)] e2)] := K2L.trans (q3.same H2' H3) fun b _ hb => absurd hb List.not_mem_nil
  refine callF_ok hc3 (Ctr.toF ((sum_ctr (ns := l.take 4) (s := { s with heap := h3, toks := tk3 }) H3s (by simp only [List.length_take, hl.1]) fun i m hi => ?_).mono (by omega))) fun f h4 tk4 hf => ?_
  · by_cases h4 : i < 4
    · rw [List.getElem?_take_of_lt h4] at hi ⊢
      exact hl.2 i m hi
    · rw [List.getElem?_eq_none (by simp only [List.length_take]; omega)] at hi
      cases hi
  obtain ⟨v4, rfl, ⟨t4, rfl⟩, q4⟩ := hf
  clear hc3
  have H4 : Hp (KK w) h4 [(L, frmO [ent w.params "script" k1 (.ref S), ent w.params "words" k2 (.ref W)] e2), (S, lstO vs n), (W, lstO us nu), (N1, lstO (vs.take 4) 0)] := H3.stays q4
  have K4L : Kept s.heap h4 [(L, frmO [ent w.params "script" k1 (.ref S), ent w.params "words" k2 (.ref W)] e2)] := K3L.trans q4 fun b _ hb => absurd hb List.not_mem_nil
  have hr := fmod_range (l.take 4).sum (m := 4) (by decide)
  generalize hm : (l.take 4).sum = sm at *
  have H4' : Hp (KK w) h4 ([(L, frmO [ent w.params "script" k1 (.ref S), ent w.params "words" k2 (.ref W)] e2)] ++ [(W, lstO us nu)]) := H4.picked [0, 2] (by decide) rfl
  refine go_o (s := { s with heap := h4, toks := tk4 }) (kNoLimit _) ([(3, [], (extA modX)), (1, [], (extA addX))]) 7 60 (pl 0x1041) (fun _ => .next) (fun _ => [okP True, okP ((4 : Int) ≠ 0)]) (fun o z => [(L, frmO [ent w.params "script" k1 (.ref S), ent w.params "words" k2 (.ref W), ent w.params "width" (tokK z 0 2) (.int (2 + sm.fmod 4) (tk4 + 2))] (epZ z 0)), (W, lstO us nu)]) 2 H4' (by exact byR w (fun w o => by kernel_rfl) (fun w o => by kernel_rfl)) (fun o => ok2 trivial (by decide)) (fun h5 tk5 o z H5 q5 _ => ?_)
  have K5 := Kept.part (b := [(W, lstO us nu)]) q5 H4' fun p hp => H5.ce p (List.mem_cons_of_mem _ hp)
  exact next h5 tk5 _ _ _ H5 fun b o e hb => K5 b o (K4L b o e hb) hb
end
end Mine
end PLA1
section PLA2
open PySem PySem.W PyProof.Rows PySem.Calls
set_option maxHeartbeats 0
namespace Mine
variable {B : Bool}
theorem wpC_Compare1 {M : Model} {A : Around} {E : Value → Shared → Prop} {s : Shared} {env : Env} {l op r pos} {Q : Value → Shared → Prop}
    (h : wpC B M A (eval l env) (fun a s₁ => wpC B M A (eval r env) (fun b s₂ => wpC B M A (compareOp op a b) Q E s₂) E s₁) E s)
    (hm : behindInMarks op r = false := by with_unfolding_all rfl) : wpC B M A (eval (.Compare l [op] [r] pos) env) Q E s := fun Γ p hΓ hcl => by
  simp only [eval_Compare1, markedBehindIn_of_false hm, Sem.wp_bind', Sem.wp_holding, Sem.wp_cmd_standAt, Sem.wp_operate]
  exact Sem.wp_mono M Γ _ (fun a p₁ s₁ h₁ => Sem.wp_mono M Γ _ (fun b _ s₂ h₂ => h₂ Γ _ hΓ hcl) (fun _ _ _ h' => h') _ _ (h₁ Γ p₁ hΓ hcl))
    (fun _ _ _ h' => h') _ _ (h Γ p hΓ hcl)
theorem log_eq {w : World} {G R : Addr} {gs rs : List Value} {ng nr : Nat} {as bs : List Addr} {lg : List (Option (List Nat) × Nat)} {s : Shared} {A : Around} {E : Value → Shared → Prop} {Q : Value → Shared → Prop} (hG : s.heap.get? G = some (lstO gs ng)) (hR : s.heap.get? R = some (lstO rs nr))
  (lG : LogOk s.heap as gs lg) (lR : LogOk s.heap bs rs lg) (hA : Fit A 4) (h : Q (.bool true) s) : wpAny (model PG w) A (compareOp .Eq (.ref G) (.ref R)) Q E s := by
  have hu := hA.2.1
  have hz : gs.length = rs.length := lG.1.trans lR.1.symm
  refine SeqAt.eq_listAt (items := gs.toArray) (items2 := rs.toArray) (e := fun _ => true) ⟨_, hG, rfl, ng, rfl⟩ ⟨_, hR, rfl, nr, rfl⟩ (by simpa using hz) (by omega) (fun j h1 h2 => ?_) ?_
  · have hj : j < lg.length := by rw [← lG.1]; simpa using h1
    obtain ⟨U, t, u, e1, _, g1⟩ := lG.2 j _ (List.getElem?_eq_getElem hj)
    obtain ⟨V, t', u', e2, _, g2⟩ := lR.2 j _ (List.getElem?_eq_getElem hj)
    have f1 : gs.toArray[j] = .ref U := by
      have := (List.getElem?_eq_some_iff.mp e1).2
      simpa using this
    have f2 : rs.toArray[j] = .ref V := by
      have := (List.getElem?_eq_some_iff.mp e2).2
      simpa using this
    rw [f1, f2]
    by_cases hUV : U = V
    · subst hUV; exact SeqAt.EqAt.same _
    · have z := SeqAt.RcAt.tuples (A := A.in1) (e := fun _ => true) (items := #[valL lg[j].1 t, .int (lg[j].2 : Nat) u]) (items2 := #[valL lg[j].1 t', .int (lg[j].2 : Nat) u']) ⟨_, g1, rfl, 0, rfl⟩ ⟨_, g2, rfl, 0, rfl⟩ (by show A.units + 1 < cLine; omega) (fun i h1 h2 => by
        match i, h1 with
        | 0, _ =>
          show SeqAt.EqAt _ _ (valL lg[j].1 t) (valL lg[j].1 t') true
          cases lg[j].1 with
          | none => exact SeqAt.EqAt.same _
          | some l =>
            have q := (SeqRoads2.EqGives.str ⟨⟨l⟩⟩ ⟨⟨l⟩⟩ t t').at A.in1.in1 s
            rw [show ((⟨⟨l⟩⟩ : Str).cps.toList == (⟨⟨l⟩⟩ : Str).cps.toList) = true from beq_self_eq_true _] at q
            exact q
        | 1, _ =>
          show SeqAt.EqAt _ _ (.int _ u) (.int _ u') true
          have q := (MeetsSeq.EqGives.int (lg[j].2 : Nat) (lg[j].2 : Nat) u u').at A.in1.in1 s
          rw [show (((lg[j].2 : Nat) : Int) == ((lg[j].2 : Nat) : Int)) = true from beq_self_eq_true _] at q
          exact q
        | i + 2, h1 => exact absurd h1 (by simp))
      exact SeqAt.EqAt.of_refs hUV z
  · rw [show ((List.range gs.toArray.size).all fun _ => true) = true by simp]
    exact h
noncomputable def laR (w : World) : PySem.Expr := retE (hdS ((laB w).drop 2))
end Mine
end PLA2
section PLA3
open PySem PySem.W PyProof.Rows PySem.Calls
set_option maxHeartbeats 0
namespace Mine
noncomputable def laF (P : Params) (k1 k2 k3 : Tok) (S W : Addr) (k : Nat) (t : Tok) : List DictEntry := [ent P "script" k1 (.ref S), ent P "words" k2 (.ref W), ent P "width" k3 (.int (k : Nat) t)]
structure WordsOk (k m : Nat) (ls : List (List Nat)) : Prop where
  ne : ls ≠ []
  len : ∀ l ∈ ls, l.length ≤ 1000
  num : ls.length ≤ 1000
  sum : (ls.map fun l => (quL l).length).sum + ls.length ≤ 1048576
  jn : (jnL ls).length ≤ 10000
  lw : LawIn k m ls
theorem toldL_some {k : Nat} {bl : Int} : ∀ {ls : List (List Nat)} {pc : Int}, ∀ e ∈ toldL k bl ls pc, e.1 ≠ none
  | [], _, e, h => absurd h List.not_mem_nil
  | l :: ls, pc, e, h => by
    rcases List.mem_cons.mp h with rfl | h
    · exact fun h => nomatch h
    · exact toldL_some e h
theorem la_st3 {w : World} {S W L : Addr} {us : List Value} {nu e2 k m : Nat} {k1 k2 k3 t : Tok} {ls : List (List Nat)} {s : Shared} {A : Around} {Q : Flow → Shared → Prop} {E : Value → Shared → Prop} (H : Hp (KK w) s.heap [(L, frmO (laF w.params k1 k2 k3 S W k t) e2), (W, lstO us nu), (745, plO), (767, plO)]) (hA : Fit A 60) (hk : k = 2 ∨ k = 3 ∨ k = 4 ∨ k = 5) (hls : StrsOf ls us) (hw : WordsOk k m ls)
  (next : ∀ h' g' tk', Kept s.heap h' [(L, plO), (W, plO), (745, plO), (767, plO)] → (∃ ps, h'.get? 745 = some (tbO ps)) → (∃ ps, h'.get? 767 = some (tbO ps)) → (AllBare s.gens → AllBare g') → Q (.ret (.bool true)) { s with heap := h', gens := g', toks := tk' }) :
  wpC true (model PG w) A (execs ((laB w).drop 2) (laEnv w L)) Q E s := by
  rw [show (laB w).drop 2 = [.Return (some (.Compare (cmpL (laR w)) [.Eq] [cmpR (laR w)] (cmpP (laR w)))) (retP2 (hdS ((laB w).drop 2)))] by kernel_rfl]
  refine wpC_execs_cons (wpC_Return_some (wpC_Compare1 ?_ (by kernel_rfl)))
  refine start_bot 60 hA (evalZ_eq _ _) ?_
  refine go_oc (kNoLimit _) [] 8 60 (pl 0x1001040) (fun _ => .call (.ref 777) ⟨[.ref W, .int (k : Nat) t], []⟩) (fun _ => []) (fun _ z => [(L, frmO (laF w.params k1 k2 k3 S W k t) e2), (W, lstO us nu), (745, plO), (767, plO)]) 4 60 H (fun o => by kernel_rfl) (fun o p hp => absurd hp List.not_mem_nil) fun h1 tk1 o1 z1 H1 q1 q1' hc1 => ?_
  have K1 : Kept s.heap h1 [] := q1.same H H1
  have H1' : Hp (KK w) h1 ([(W, lstO us nu), (745, plO), (767, plO)] ++ [(L, frmO (laF w.params k1 k2 k3 S W k t) e2)]) := H1.picked [1, 2, 3, 0] (by decide) rfl
  have hbl : blkN k (wholeN ls) = (m : Nat) := hw.lw.bl
  refine callS_ok hc1 ((rn_ctr (m := m) (mm := (blkN k (wholeN ls)).toNat) (lg := toldL k (blkN k (wholeN ls)) ls 0) (s := { s with heap := h1, toks := tk1 }) H1'.left hk hls hw.ne hw.len hw.num hw.sum hw.jn hw.lw.h256 hw.lw.pad (toldL_len _ _ _ _) toldL_some hw.lw.tr).mono (by omega)) fun f s2 hf => ?_
  obtain ⟨h2, g2, tk2, G, gs, ng, as, rfl, rfl, hG, hlg, q2, hT1, hT2, hBr⟩ := hf
  clear q1' hc1
  have H2 : Hp (KK w) h2 [(L, frmO (laF w.params k1 k2 k3 S W k t) e2), (W, lstO us nu)] := hpKeep (a := [_, _]) (b := [(745, plO), (767, plO)]) (H1.picked [0, 1, 2, 3] (by decide) rfl) q2
  refine go_o (s := { s with heap := h2, gens := g2, toks := tk2 }) (kNoLimit _) [] 1 60 (pl 0x1) (fun _ => .ref G) (fun _ => []) (fun _ z => [(L, frmO (laF w.params k1 k2 k3 S W k t) e2), (W, lstO us nu)]) 2 H2 (fun o => by kernel_rfl) (fun o p hp => absurd hp List.not_mem_nil) (fun h3 tk3 o3 z3 H3 q3 _ => ?_)
  have K3 : Kept h2 h3 [] := q3.same H2 H3
  refine start_bot (s := { s with heap := h3, gens := g2, toks := tk3 }) 60 hA (evalZ_eq _ _) ?_
  refine go_oc (s := { s with heap := h3, gens := g2, toks := tk3 }) (kNoLimit _) [] 8 60 (pl 0x1001040) (fun _ => .call (.ref 787) ⟨[.ref W, .int (k : Nat) t], []⟩) (fun _ => []) (fun _ z => [(L, frmO (laF w.params k1 k2 k3 S W k t) e2), (W, lstO us nu)]) 2 60 H3 (fun o => by kernel_rfl) (fun o p hp => absurd hp List.not_mem_nil) fun h4 tk4 o4 z4 H4 q4 q4' hc4 => ?_
  have K4 : Kept h3 h4 [] := q4.same H3 H4
  refine callF_ok hc4 (Ctr.toF ((td_ctr (s := { s with heap := h4, gens := g2, toks := tk4 }) (H4.right (a := [_])) hk hls hw.ne (fun l hl => by have := hw.len l hl; unfold sizeLine; omega) (by have := hw.num; unfold sizeLine; omega) (by rw [hbl]; exact Int.natCast_nonneg m)).mono (by omega))) fun f h5 tk5 hf => ?_
  obtain ⟨v5, rfl, R, rs, nr, rfl, hR, lR, q5⟩ := hf
  clear q4' hc4
  have hW4 : h4.get? W = some (lstO us nu) := H4.ce (W, lstO us nu) (by simp)
  have up4 : ∀ b o, h2.get? b = some o → h4.get? b = some o := fun b o e => K4 b o (K3 b o e List.not_mem_nil) List.not_mem_nil
  have up5 : ∀ b o, h2.get? b = some o → b ≠ W → h5.get? b = some o := fun b o e hb => q5 b o (up4 b o e) (by simpa using hb)
  have h0 : 0 < ls.length := List.length_pos_iff.mpr hw.ne
  have hGW : G ≠ W := fun e => by
    have a1 := up4 _ _ hG
    rw [e, hW4] at a1
    have a2 : us = gs := by
      have a3 := congrArg Obj.data (Option.some.inj a1)
      simp only [lstO, Data.seq.injEq] at a3
      simpa using a3.1
    obtain ⟨t1, b1⟩ := hls.2 0 _ (List.getElem?_eq_getElem h0)
    obtain ⟨U, t2, u2, b2, _⟩ := hlg.2 0 _ (List.getElem?_eq_getElem (by rw [List.length_append, toldL_len]; omega))
    rw [a2, b2] at b1
    cases b1
  have lG5 : LogOk h5 [] gs (toldL k (blkN k (wholeN ls)) ls 0 ++ [(none, (blkN k (wholeN ls)).toNat)]) := ⟨hlg.1, fun i e hi => by
    obtain ⟨U, t1, u1, b1, _, b3⟩ := hlg.2 i e hi
    refine ⟨U, t1, u1, b1, List.not_mem_nil, up5 _ _ b3 fun hU => ?_⟩
    have a1 := up4 _ _ b3
    rw [hU, hW4] at a1
    have a3 := congrArg Obj.cls (Option.some.inj a1)
    simp [lstO, tupO] at a3⟩
  have hT : ∀ x o, h2.get? x = some o → x ≠ W → h5.get? x = some o := up5
  have nd := H.nd
  simp only [List.map_cons, List.map_nil, List.nodup_cons, List.mem_cons, List.not_mem_nil, or_false, not_or] at nd
  have H5 : Hp (KK w) h5 [] := Hp.none fun a o e => q5 a o (H4.st a o e) (by
    have := H.off (W, lstO us nu) (by simp)
    simp only [List.map_cons, List.map_nil, List.mem_singleton]
    intro h; rw [h] at e; rw [this] at e; cases e)
  refine go_o (s := { s with heap := h5, gens := g2, toks := tk5 }) (kNoLimit _) [] 1 60 (pl 0x1) (fun _ => .ref R) (fun _ => []) (fun _ z => []) 0 H5 (fun o => by kernel_rfl) (fun o p hp => absurd hp List.not_mem_nil) (fun h6 tk6 o6 z6 H6 q6 _ => ?_)
  have k6 : ∀ b o, h5.get? b = some o → h6.get? b = some o := fun b o e => q6 b o e List.not_mem_nil
  refine wpC_of (log_eq (s := { s with heap := h6, gens := g2, toks := tk6 }) (k6 _ _ (up5 _ _ hG hGW)) (k6 _ _ hR) (lG5.keep fun b o e _ => k6 b o e) (lR.keep fun b o e _ => k6 b o e) (hA.le (by omega)) ?_)
  obtain ⟨p1, hp1⟩ := hT1
  obtain ⟨p2, hp2⟩ := hT2
  refine next h6 g2 tk6 (fun b o e hb => ?_) ⟨p1, k6 _ _ (up5 _ _ hp1 (Ne.symm nd.2.1.1))⟩ ⟨p2, k6 _ _ (up5 _ _ hp2 (Ne.symm nd.2.1.2))⟩ hBr
  simp only [List.map_cons, List.map_nil, List.mem_cons, List.not_mem_nil, or_false, not_or] at hb
  exact k6 _ _ (up5 _ _ (q2 b o (K1 b o e List.not_mem_nil) (by simp [hb.2.2])) hb.2.1)
end Mine
end PLA3
section PLA4
open PySem PySem.W PyProof.Rows PySem.Calls
set_option maxHeartbeats 0
namespace Mine
theorem filter_le {α : Type} (p : α → Bool) (l : List α) : (l.filter p).length ≤ l.length := List.length_filter_le p l
theorem sizeW_le (l : List Nat) : sizeW l ≤ 5 * l.length + 2 := by
  have h := filter_le (fun ch => [ch] == [39]) l
  unfold sizeW
  split <;> omega
theorem sum_le (c : Nat) : ∀ l : List Nat, (∀ x ∈ l, x ≤ c) → l.sum ≤ c * l.length
  | [], _ => Nat.zero_le _
  | a :: l, h => by
    have h1 := h a (List.mem_cons_self ..)
    have h2 := sum_le c l fun x hx => h x (List.mem_cons_of_mem _ hx)
    rw [List.sum_cons, List.length_cons, Nat.mul_succ]
    omega
theorem words_ok {k : Nat} (hk : k = 2 ∨ k = 3 ∨ k = 4 ∨ k = 5) {l : List Int} : ∃ m, WordsOk k m ((l.take 4 ++ [10, 25, 0]).map wordS) := by
  have h256 : ∀ x ∈ (l.take 4 ++ [10, 25, 0]).map wordS, ∀ c ∈ x, c < 256 := fun x hx => by
    obtain ⟨i, _, rfl⟩ := List.mem_map.mp hx
    exact (wordS_ok i).1
  have h4 : ∀ x ∈ (l.take 4 ++ [10, 25, 0]).map wordS, x.length ≤ 4 := fun x hx => by
    obtain ⟨i, _, rfl⟩ := List.mem_map.mp hx
    exact (wordS_ok i).2
  have hne : (l.take 4 ++ [10, 25, 0]).map wordS ≠ [] := by simp
  have hn : ((l.take 4 ++ [10, 25, 0]).map wordS).length ≤ 7 := by
    simp only [List.length_map, List.length_append, List.length_take, List.length_cons, List.length_nil]
    omega
  generalize (l.take 4 ++ [10, 25, 0]).map wordS = ls at *
  obtain ⟨m, hm⟩ := law_in k hk hne h256
  have hs : (ls.map sizeW).sum ≤ 22 * ls.length := by
    have := sum_le 22 (ls.map sizeW) fun x hx => by
      obtain ⟨y, hy, rfl⟩ := List.mem_map.mp hx
      have h1 := sizeW_le y
      have h2 := h4 y hy
      omega
    rwa [List.length_map] at this
  have hj := jnL_len hne h256
  have he : ls.map (fun l => (quL l).length) = ls.map sizeW := List.map_congr_left fun x hx => quL_len (h256 x hx)
  exact ⟨m, hne, fun x hx => by have := h4 x hx; omega, by omega, by rw [he]; omega, by omega, hm⟩
theorem la_ctr {w : World} {S : Addr} {vs : List Value} {n : Nat} {l : List Int} {s : Shared} (H : Hp (KK w) s.heap [(S, lstO vs n), (745, plO), (767, plO)]) (hl : IntsZ l vs) (hz : vs.length ≤ 1000) :
  CtrS true PG w (.call (.ref 792) ⟨[.ref S], []⟩) 62 s (fun f s' => ∃ h g tk, f = .ret (.bool true) ∧ s' = { s with heap := h, gens := g, toks := tk } ∧ Kept s.heap h [(745, plO), (767, plO)] ∧ (∃ ps, h.get? 745 = some (tbO ps)) ∧ (∃ ps, h.get? 767 = some (tbO ps)) ∧ (AllBare s.gens → AllBare g)) := by
  refine ctrS_def (kNoLimit w) 7 60 0 (pl 0x1104000).tail (body := laB w) (env := laEnv w (s.heap.objs.size + 0)) (fun z => [(S, lstO vs n), (745, plO), (767, plO), (s.heap.objs.size + 0, frmO [ent w.params "script" (tokK z 3 0) (.ref S)] 1)]) 4 H (by kernel_rfl) (by kernel_rfl) fun A1 h1 tk1 z hA1 H1 k1 k1' => ?_
  have hLf : ∀ o, s.heap.get? (s.heap.objs.size + 0) ≠ some o := fun o e => Nat.lt_irrefl _ (Heap.lt_size e)
  generalize tokK z 3 0 = k0 at H1 k1'
  generalize s.heap.objs.size + 0 = L at H1 k1' hLf ⊢
  have K1 : Kept s.heap h1 [] := k1.same H (H1.left (b := [_]))
  clear k1'
  have H1' : Hp (KK w) h1 ([(L, frmO [ent w.params "script" k0 (.ref S)] 1), (S, lstO vs n)] ++ [(745, plO), (767, plO)]) := H1.picked [3, 0, 1, 2] (by decide) rfl
  rw [show laB w = hdS (laB w) :: hdS ((laB w).drop 1) :: (laB w).drop 2 by kernel_rfl]
  refine la_st1 (s := { s with heap := h1, toks := tk1 }) H1'.left hA1 hl hz fun h2 tk2 k2 W us nu e2 hWf hus H2 q2 => ?_
  have H2' := Hp.frame (cs := [(L, _), (S, lstO vs n)]) (cs' := [(L, _), (S, lstO vs n), (W, lstO us nu)]) (ex := [(745, plO), (767, plO)]) H1' H2 (fun b o e hb => q2 b o e fun hm => hb (by
      simp only [List.map_cons, List.map_nil, List.mem_cons, List.not_mem_nil, or_false] at hm ⊢
      exact .inl hm)) fun p hp => by
    simp only [List.mem_cons, List.not_mem_nil, or_false] at hp
    rcases hp with rfl | rfl | rfl
    · exact .inl (by simp)
    · exact .inl (by simp)
    · exact .inr hWf
  refine la_st2 (s := { s with heap := h2, toks := tk2 }) H2'.left hA1 hl hz fun h3 tk3 k3 t3 e3 H3 q3 => ?_
  have hr := fmod_range (l.take 4).sum (m := 4) (by decide)
  obtain ⟨k, hk⟩ : ∃ k : Nat, (2 + (l.take 4).sum.fmod 4 : Int) = (k : Nat) := ⟨(2 + (l.take 4).sum.fmod 4).toNat, by omega⟩
  rw [hk] at H3
  have hk4 : k = 2 ∨ k = 3 ∨ k = 4 ∨ k = 5 := by omega
  obtain ⟨m, hwk⟩ := words_ok hk4 (l := l)
  have H2'' : Hp (KK w) h2 ([(L, frmO [ent w.params "script" k0 (.ref S), ent w.params "words" k2 (.ref W)] e2), (W, lstO us nu)] ++ [(745, plO), (767, plO)]) := H2'.picked [0, 2, 3, 4] (by decide) rfl
  have H3' := Hp.frame1 (cs := [(L, _), (W, lstO us nu)]) (cs' := [(L, frmO (laF w.params k0 k2 k3 S W k t3) e3), (W, lstO us nu)]) (ex := [(745, plO), (767, plO)]) H2'' H3 (fun b o e hb => q3 b o e fun hm => hb (by
      simp only [List.map_cons, List.map_nil, List.mem_cons, List.not_mem_nil, or_false] at hm ⊢
      exact .inl hm))
  have hWs : ∀ o, s.heap.get? W ≠ some o := fun o e => hWf o (K1 _ _ e List.not_mem_nil)
  refine la_st3 (s := { s with heap := h3, toks := tk3 }) H3' hA1 hk4 hus hwk fun h4 g4 tk4 q4 hT1 hT2 hBr => ⟨h4, g4, tk4, rfl, rfl, fun b o e hb => ?_, hT1, hT2, hBr⟩
  have hbL : b ≠ L := fun h => hLf o (h ▸ e)
  have hbW : b ≠ W := fun h => hWs o (h ▸ e)
  simp only [List.map_cons, List.map_nil, List.mem_cons, List.not_mem_nil, or_false, not_or] at hb
  exact q4 b o (q3 b o (q2 b o (K1 b o e List.not_mem_nil) (by simpa using hbL)) (by simpa using hbL)) (by simp [hbL, hbW, hb])
end Mine
end PLA4
section PHD2
open PySem PySem.W PyProof.Rows PySem.Calls
set_option maxHeartbeats 0
namespace Mine
noncomputable abbrev RW : OpenRow := PySem.Challenge.rw_in0027_01.row
theorem caller_clean : Clean true ⟨.builtin "claim.caller" {}, none, none, [], none⟩ := ⟨by decide +kernel, fun x hx => absurd hx List.not_mem_nil⟩
theorem ends_clean {w : World} {t : Sem PySem.Fin} {s : Shared} {R : Result → Shared → Prop} (hz : s.asleep)
    (h : wpC true (model PG w) callerA t (fun fin s' => ∃ f, fin = .done f ∧ (R (.ok f) s' ∧ leftWithCleanup s'.gens = false)) (fun e s' => R (.error e) s' ∧ leftWithCleanup s'.gens = false) s) :
    ∃ n r s' s'', schedN (denote table) PG w n (.single s ⟨t, .builtin "claim.caller" {}, default, []⟩) = .halted (outcomeOf r) s' ∧
      runN (denote table) PG w n s ⟨t, .builtin "claim.caller" {}, default, []⟩ = .halted (outcomeOf r) s' ∧ s'.forget = s''.forget ∧ R r s'' := by
  have z := h _ default caller_in caller_clean
  obtain ⟨n, r, a, b, h1, h2, h3, h4⟩ := wp_halts_full (M := model PG w) (c := .builtin "claim.caller" {}) (R := R) hz (Sem.wp_mono _ _ _ (fun fin p' s' hf => by
    obtain ⟨f, rfl, q⟩ := hf
    exact q) (fun _ _ _ q => q) _ _ z)
  exact ⟨n, r, b, a, h1, h2, h3, h4⟩
theorem own_holds (said : RW.wellSaid = true) (hw : RW.toRowW.promised)
    (hch : chainsOk qq = true) (hop : opensWell PG = true) (hfr : frees RW.toRowW = true) (hwi : RW.within = []) (hb : RW.prog.bare) (hrec : RW.records = []) (hwr : RW.writes = false)
    {d : DefRec} {kwd : List (Str × PySem.Expr)} (hdef : defOf qq RW.name = some (d, kwd)) (hp : RW.prog.theDef RW.name = some (d.params, d.body, d.scope)) (hk : kwWritten? d.params.kwonlyargs d.params.kw_defaults = some kwd)
    (call : ∀ (w : World) (s₀ s₁ : Shared) (mg mb : Str → Option Value), Ground qq looseN [] (XL qq []) w s₀ mg mb s₁.heap → look s₀ = told w → ∀ (args : List WData) (vs : List Value) (as : List Addr),
      RW.claim.pre args = true → WData.layableAll args = true → Laid RW.records w s₀ s₁ args vs as → sysModules < s₀.heap.objs.size → ∃ f, mg RW.name = some f ∧
        wpC true (model PG w) callerA (PySem.call f vs) (fun v s' => GoodWG RW.claim (classAt s₀.heap) (ExcName.means s₀.heap) args s₁ (.ok (.ret v)) s')
          (fun e s' => GoodWG RW.claim (classAt s₀.heap) (ExcName.means s₀.heap) args s₁ (.error e) s') s₁) : RW.Holds := by
  obtain ⟨hsame, hu, ha, hap, hmk⟩ := frees_parts hfr
  have hm2 : RW.toRowW.claim.makers = [] := by
    have e : RW.toRowW.claim.makers = [] ↔ RW.toRowW.makers = [] := by simp [RowW.claim]
    exact e.mpr hmk
  have hX : ∀ s, xt s = true → XL qq [] (s.heap.nsMap mainGlobals) s.heap := fun s e => xl_of s (Bool.and_eq_true_iff.mp e).1
  refine ⟨said, hw, ⟨hb, hop, hm2⟩, hw.witness, fun w => ⟨(left_own.behind hX hch w).1, fun s' hs' => ?_⟩⟩
  obtain ⟨s₀, hf, hg0, s, hT, hz, hgens, hg, G, y⟩ := (left_own.behind hX hch w).2 s' hs'
  have hgens : s.gens = #[] := Array.eq_empty_of_size_eq_zero (beq_iff_eq.mp hgens)
  refine ⟨s₀, hf, hg0, s, hT, fun n hn => ?_, ?_, ?_, ?_⟩
  · obtain rfl : n = RW.name := by split at hn <;> simp_all
    exact pinned_of_view hg G hdef hp hk
  · intro x hx
    rw [show RW.toRowW.claim.records = [] from hrec] at hx
    exact absurd hx List.not_mem_nil
  · intro x hx
    rw [show RW.toRowW.claim.records = [] from hrec] at hx
    exact absurd hx List.not_mem_nil
  · intro args hpre hlay ord hord
    have has : ∀ c fs, WRecords.fields? RW.records c = some fs → (classAt s.heap c).isSome = true := fun c fs hc => by rw [hrec] at hc; cases hc
    have h0 := layAllW_isSome (R := RW.records) (cl := classAt s.heap) (P := w.params) (ord := ord) (by rw [hrec]; exact G.has) args RW.args s (pre_splitW hpre).1
    obtain ⟨⟨vs, s₁⟩, hlaid⟩ := Option.isSome_iff_exists.mp h0
    have keeps := layAllW_keeps _ _ _ hlaid
    have hal := layAllW_rest _ _ _ hlaid
    obtain ⟨as, hrd, hin, hold⟩ := reads_layAllW hord _ _ _ hlaid hlay s₁.heap (fun _ _ e => e)
    have L : Laid RW.records w s s₁ args vs as := ⟨⟨ord, hord, hlaid⟩, hrd, hin, hold, keeps, hal.1.trans hgens, hal.2.2.1⟩
    have G₁ := G.keeps XL.keeps keeps
    obtain ⟨f, hf, h⟩ := call w s s₁ _ _ G₁ y args vs as hpre hlay L G.low
    have hi := ident_freeW hu ha hap
    have tree : wpC true (model PG w) callerA (callStub RW.name vs).cur (fun fin s' => ∃ f, fin = .done f ∧ ((RW.claim.Ends s args vs s₁ (.ok f) s' ∧ s'.os = s.os) ∧ leftWithCleanup s'.gens = false)) (fun e s' => (RW.claim.Ends s args vs s₁ (.error e) s' ∧ s'.os = s.os) ∧ leftWithCleanup s'.gens = false) s₁ := by
      refine wpC_bind (wpC_of (wpAny_nsGet G₁.T.g ?_))
      rw [hf]
      refine wpC_bind (wpC_mono h (fun v s' g => wpC_pure ⟨_, rfl, ?_⟩) fun e s' g => ?_)
      · have z := g.laid (c := RW.claim) hsame hwi hi L
        exact ⟨⟨z.1, z.2.1⟩, leftWithCleanup_false_of_bare z.2.2⟩
      · have z := g.laid (c := RW.claim) hsame hwi hi L
        exact ⟨⟨z.1, z.2.1⟩, leftWithCleanup_false_of_bare z.2.2⟩
    obtain ⟨n, r, s2, s3, h1, h2, h3, h4, h5⟩ := ends_clean (R := fun r s' => RW.claim.Ends s args vs s₁ r s' ∧ s'.os = s.os) (Shared.asleep_of_life hal.2.2.2 hz) tree
    obtain ⟨eh, _, _, eo, _⟩ := Shared.forget_eq h3
    have h4 := h4.congr eh
    rw [← eo] at h5
    have hlife : s2.heap.life = s.heap.life := (runN_life _ _ _ h2).trans hal.2.2.2
    have hno : ∀ P : Prop, RW.writes = true → P := fun P q => by rw [hwr] at q; cases q
    refine ⟨vs, s₁, hlaid, n, _, s2, h1, ?_, fun _ i x hx => by rw [hgens] at hx; simp at hx, hno _, by rw [hlife], Shared.rest_eq h5⟩
    rcases h4 with ⟨v, rfl, a1, a2, a3, a4, a5⟩ | ⟨e, ob, cls, rfl, a1, a2, a3, a4, a5⟩
    · exact .inl ⟨v, rfl, a1, a2, a3, fun b o q _ => a4 b o q, a5⟩
    · exact .inr ⟨e, ob, cls, rfl, a1, a2, a3, a4, fun b o q _ => a5 b o q⟩
end Mine
end PHD2
section PFIN
open PySem PySem.W PyProof.Rows PySem.Calls
set_option maxHeartbeats 0
namespace Mine
theorem told_all {w : World} {s : Shared} (y : look s = told w) : (∀ a o, KK w a = some o → s.heap.get? a = some o) ∧ s.heap.get? 745 = some plO ∧ s.heap.get? 767 = some plO ∧ s.heap.objs.size = 793 := by
  have y1 : staL.map (fun p => s.heap.get? p.1) = staL.map fun p => some (p.2 w.params) := congrArg Prod.fst y
  have y2 := congrArg Prod.snd y
  refine ⟨fun a o e => ?_, congrArg Prod.fst y2, congrArg (fun x => x.2.1) y2, congrArg (fun x => x.2.2) y2⟩
  obtain ⟨p, hp, rfl, rfl⟩ := lookN_mem e
  exact List.map_inj_left.mp y1 p hp
noncomputable def mainE (w : World) : Array DictEntry := (entsOf (KK w) mainGlobals).toArray
noncomputable def epOf (K : Sta) (a : Addr) : Nat := match dataOf K a with | .dict _ n => n | _ => 0
theorem main_is (w : World) : ∃ o ep, KK w mainGlobals = some o ∧ o.data = .dict (mainE w) ep := by
  have h1 : KK w mainGlobals = some (o3 w.params) := by kernel_rfl
  have h2 : (o3 w.params).data = .dict (mainE w) (epOf (KK w) mainGlobals) := by kernel_rfl
  exact ⟨_, _, h1, h2⟩
theorem main_law (w : World) : nsFind (mainE w) RW.name = some (.ref 792) := by kernel_rfl
theorem off_all (w : World) : KK w 793 = none ∧ KK w 745 = none ∧ KK w 767 = none := ⟨by kernel_rfl, by kernel_rfl, by kernel_rfl⟩
theorem fit_caller : Fit (callerA.mark none) 62 := ⟨by decide +kernel, by decide +kernel, rfl⟩
theorem call_law {w : World} {vs : List Value} {l : List Int} {s : Shared} {Q : Value → Shared → Prop} {E : Value → Shared → Prop} (X : (KK w).In s.heap) (h745 : s.heap.get? 745 = some plO) (h767 : s.heap.get? 767 = some plO) (hS : s.heap.get? 793 = some (lstO vs 0)) (hl : IntsZ l vs) (hz : vs.length ≤ 1000)
  (next : ∀ h g tk, Kept s.heap h [(745, plO), (767, plO)] → (∃ ps, h.get? 745 = some (tbO ps)) → (∃ ps, h.get? 767 = some (tbO ps)) → (AllBare s.gens → AllBare g) → Q (.bool true) { s with heap := h, gens := g, toks := tk }) :
  wpC true (model PG w) callerA (PySem.call (.ref 792) [.ref 793]) Q E s := by
  have H : Hp (KK w) s.heap [(793, lstO vs 0), (745, plO), (767, plO)] := by
    refine ⟨X, fun p hp => ?_, by show ([793, 745, 767] : List Nat).Nodup; decide, fun p hp => ?_⟩
    · simp only [List.mem_cons, List.not_mem_nil, or_false] at hp
      rcases hp with rfl | rfl | rfl
      · exact hS
      · exact h745
      · exact h767
    · simp only [List.mem_cons, List.not_mem_nil, or_false] at hp
      rcases hp with rfl | rfl | rfl
      · exact (off_all w).1
      · exact (off_all w).2.1
      · exact (off_all w).2.2
  refine x_callC (la_ctr H hl hz _ _ fit_caller ?_) (by intro q; cases q)
  rintro f s' ⟨h, g, tk, rfl, rfl, q, t1, t2, hBr⟩
  exact wpC_pure (next h g tk q t1 t2 hBr)
theorem ints_are {l : List Int} {vs : List Value} (h : IntsAre vs l) : IntsZ l vs := by
  induction h with
  | nil => exact ⟨rfl, fun i n h => by simp at h⟩
  | cons n t _ ih =>
    refine ⟨by simp [ih.1], fun i m hi => ?_⟩
    cases i with
    | zero =>
      simp only [List.getElem?_cons_zero, Option.some.injEq] at hi
      exact ⟨t, by rw [hi]; rfl⟩
    | succ i => exact ih.2 i m (by simpa using hi)
theorem tab_at {w : World} {h : Heap} (X : (KK w).In h) : isCodeTable h 745 ∧ isCodeTable h 767 := by
  have e1 : ∃ o vs, KK w 749 = some o ∧ o.cls = .type "code" ∧ o.data = .fields vs ∧ vs[11]? = some (.ref 745) := ⟨jO2 w, fldsOf (jO2 w), at749 w, by kernel_rfl, by kernel_rfl, by kernel_rfl⟩
  have e2 : ∃ o vs, KK w 771 = some o ∧ o.cls = .type "code" ∧ o.data = .fields vs ∧ vs[11]? = some (.ref 767) := ⟨o771 w.params, fldsOf (o771 w.params), by kernel_rfl, by kernel_rfl, by kernel_rfl, by kernel_rfl⟩
  obtain ⟨o, vs, a1, a2, a3, a4⟩ := e1
  obtain ⟨o', vs', b1, b2, b3, b4⟩ := e2
  exact ⟨⟨749, o, vs, X _ _ a1, a2, a3, a4⟩, ⟨771, o', vs', X _ _ b1, b2, b3, b4⟩⟩
theorem old_all {w : World} {h h' : Heap} (X : (KK w).In h) (h745 : h.get? 745 = some plO) (h767 : h.get? 767 = some plO) (k : Kept h h' [(745, plO), (767, plO)]) (t1 : ∃ ps, h'.get? 745 = some (tbO ps)) (t2 : ∃ ps, h'.get? 767 = some (tbO ps)) : OldK h h' := by
  obtain ⟨p1, t1⟩ := t1
  obtain ⟨p2, t2⟩ := t2
  obtain ⟨c1, c2⟩ := tab_at X
  refine ⟨fun b o e => ?_, fun b o e => ?_⟩
  · by_cases b1 : b = 745
    · subst b1
      rw [h745] at e; cases e
      exact .inr (.inl ⟨c1, rfl, #[], p1, rfl, by rw [t1]; simp [tbO, plO]⟩)
    · by_cases b2 : b = 767
      · subst b2
        rw [h767] at e; cases e
        exact .inr (.inl ⟨c2, rfl, #[], p2, rfl, by rw [t2]; simp [tbO, plO]⟩)
      · exact .inl (k b o e (by simp [b1, b2]))
  · by_cases b1 : b = 745
    · exact ⟨_, b1 ▸ t1⟩
    · by_cases b2 : b = 767
      · exact ⟨_, b2 ▸ t2⟩
      · exact ⟨_, k b o e (by simp [b1, b2])⟩
end Mine
end PFIN
section PFN1
open PySem PySem.W PyProof.Rows PySem.Calls
open PySem.W.X
set_option maxRecDepth 100000 in
set_option maxHeartbeats 0 in
theorem PySem.Challenge.cw_in0027_01_holds : PySem.Challenge.rw_in0027_01.Holds := by
  refine holds_law Mine.said_law fun said => ?_
  refine Mine.own_holds said Mine.prom_law (by decide +kernel) (by decide +kernel) (by decide +kernel) (by rfl) ⟨rfl, rfl, rfl, rfl, rfl, by decide +kernel⟩ (by rfl) (by rfl) (by rfl) (by rfl) (by rfl) ?hc
  intro w s₀ s₁ mg mb G y args vals as hpre hlay L low
  have hrd := L.reads
  have hwl := L.well
  have hlo := L.low low
  obtain ⟨K0, e745, e767, hsz0⟩ := Mine.told_all y
  have X1 : (Mine.KK w).In s₁.heap := fun a o e => L.keeps _ _ (K0 a o e)
  have h745 := L.keeps _ _ e745
  have h767 := L.keeps _ _ e767
  wrow_args hpre hlay hrd hwl hlo
  rename s₁.heap.IsList _ _ => hL
  rename IntsAre _ _ => hI
  rename ¬ _ => hc
  obtain ⟨hat, _⟩ := script_at L
  rw [hsz0] at hat
  subst hat
  have hS := script_obj L hL
  have hl := Mine.ints_are hI
  refine ⟨.ref 792, ?_, ?_⟩
  · obtain ⟨o, es, ep, h1, h2, _, h4⟩ := G.T.g
    obtain ⟨o', ep', k1, k2⟩ := Mine.main_is w
    have k3 := X1 _ _ k1
    rw [h1] at k3
    cases k3
    rw [h2] at k2
    cases k2
    rw [← h4]
    exact Mine.main_law w
  · refine Mine.call_law X1 h745 h767 hS hl (by have := hl.1; omega) fun h g tk k t1 t2 hBr => ?_
    exact ⟨.inl ⟨_, _, [], rfl, fun _ => rfl, ReadsW.bool true, by first | rfl | wrow_post, fun _ => ⟨List.nodup_nil, fun _ hm => nomatch hm⟩⟩, Mine.old_all X1 h745 h767 k t1 t2, rfl, hBr (AllBare.of_eq L.gens)⟩
end PFN1
