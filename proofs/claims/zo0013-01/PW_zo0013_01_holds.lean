import PyProof.Rows.All
import Wide.All
import OpenK.AllK
import Wide.FinOn
import Lean
import PySem.Challenge.RW_zo0013_01
open PySem PySem.W PyProof.Rows
set_option Elab.async false
/- part Hd -/
section
set_option Elab.async false
namespace Mine
set_option maxRecDepth 100000 in
set_option maxHeartbeats 0 in
open_top hd for PySem.Challenge.rw_zo0013_01
end Mine
end
/- part Sp -/
section
set_option Elab.async false
namespace Mine
abbrev LOO : List Str := [Str.ofString "UTC_ZONES", Str.ofString "TIMEZONE_RE", Str.ofString "ONE_THIRD", Str.ofString "ONE_SIXTH", Str.ofString "TWO_THIRD"]
abbrev SpRet (h₀ : Heap) (L : Addr) (m : Str → Option Value) (news : List (Addr × Obj)) (s : Shared) (Q : Value → Shared → Prop) (P : Value → List (Addr × Obj) → Prop) : Prop :=
  ∀ (v : Value) (new : List (Addr × Obj)) (h' : Heap) (tk' : Nat), P v new → Fr h₀ L h' m → News h₀ L h' (new ++ news) → (∀ p ∈ news, ∀ q ∈ new, p.1 < q.1) → Q v { s with heap := h', toks := tk' }
/-- what a call of the def at f with the arguments vs gives back -/
def Sp (n : Nat) (w : World) (f : Addr) (vs : List Value) (P : Value → List (Addr × Obj) → Prop) : Prop :=
  ∀ (mean : ExcName → Option Value) (mg mb : Str → Option Value) (dp un : Nat) (cn : Str) (cs : Scope) (a : Addr) (ccd : Value) (cl : List (Str × Addr)) (outer : List Env) (A₀ : Around) (base h₀ : Heap) (L : Addr) (m : Str → Option Value) (news : List (Addr × Obj)) (s : Shared) (Q E : Value → Shared → Prop),
    Below A₀ base outer h₀ → Fr h₀ L s.heap m → (hd.heap_39 w.params).In h₀ → News h₀ L s.heap news → Top hd.view_39 (looseW hd.view_39 LOO) mean mg mb h₀ → cs.kind = .function →
    dp + n < recursionLimit → un + 10 * n < cLine → SpRet h₀ L m news s Q P →
      wpAny (model PySem.Challenge.rw_zo0013_01.row.prog w) (ktrTop dp un (some []) cn cs L a ccd cl outer) (call (.ref f) vs) Q E s
theorem sp_use {n : Nat} {w : World} {f : Addr} {vs : List Value} {P : Value → List (Addr × Obj) → Prop} (S : Sp n w f vs P)
    {mean : ExcName → Option Value} {mg mb : Str → Option Value} {dp un : Nat} {cn : Str} {cs : Scope} {a : Addr} {ccd : Value} {cl : List (Str × Addr)} {outer : List Env} {A₀ : Around} {base h₀ : Heap} {L : Addr} {m : Str → Option Value} {news : List (Addr × Obj)} {s : Shared} {Q E : Value → Shared → Prop}
    (B : Below A₀ base outer h₀) (F : Fr h₀ L s.heap m) (X : (hd.heap_39 w.params).In h₀) (N : News h₀ L s.heap news) (T : Top hd.view_39 (looseW hd.view_39 LOO) mean mg mb h₀) (hk : cs.kind = .function)
    (hd : dp + n < recursionLimit) (hu : un + 10 * n < cLine) (ret : SpRet h₀ L m news s Q P) :
    wpAny (model PySem.Challenge.rw_zo0013_01.row.prog w) (ktrTop dp un (some []) cn cs L a ccd cl outer) (call (.ref f) vs) Q E s := S _ _ _ _ _ _ _ _ _ _ _ _ _ _ _ _ _ _ _ _ B F X N T hk hd hu ret
theorem sp_useA {n : Nat} {w : World} {f : Addr} {vs : List Value} {P : Value → List (Addr × Obj) → Prop} (S : Sp n w f vs P)
    {mean : ExcName → Option Value} {mg mb : Str → Option Value} {dp un : Nat} {cn : Str} {cs : Scope} {a : Addr} {ccd : Value} {cl : List (Str × Addr)} {outer : List Env} {A₀ : Around} {base h₀ : Heap} {L : Addr} {m : Str → Option Value} {news : List (Addr × Obj)} {s : Shared} {Q E : Value → Shared → Prop}
    (ret : SpRet h₀ L m news s Q P) (B : Below A₀ base outer h₀ := by k_asm) (F : Fr h₀ L s.heap m := by k_asm) (X : (hd.heap_39 w.params).In h₀ := by k_asm) (N : News h₀ L s.heap news := by k_asm) (T : Top hd.view_39 (looseW hd.view_39 LOO) mean mg mb h₀ := by k_asm) (hk : cs.kind = .function := by first | exact rfl | assumption)
    (hd : dp + n < recursionLimit := by ktr_room) (hu : un + 10 * n < cLine := by ktr_units) :
    wpAny (model PySem.Challenge.rw_zo0013_01.row.prog w) (ktrTop dp un (some []) cn cs L a ccd cl outer) (call (.ref f) vs) Q E s := sp_use S B F X N T hk hd hu ret
theorem sub_rfl {l : List (Addr × Obj)} : ∀ p ∈ l, p ∈ l := fun _ h => h
theorem sub_cons {a : Addr × Obj} {l k : List (Addr × Obj)} (h : ∀ p ∈ l, p ∈ k) : ∀ p ∈ l, p ∈ a :: k := fun p q => .tail _ (h p q)
theorem sub_tl {a : Addr × Obj} {l : List (Addr × Obj)} : ∀ p ∈ l, p ∈ a :: l := fun _ h => .tail _ h
theorem sub_tl2 {a b : Addr × Obj} {l : List (Addr × Obj)} : ∀ p ∈ l, p ∈ a :: b :: l := fun _ h => .tail _ (.tail _ h)
theorem sub_tl3 {a b c : Addr × Obj} {l : List (Addr × Obj)} : ∀ p ∈ l, p ∈ a :: b :: c :: l := fun _ h => .tail _ (.tail _ (.tail _ h))
theorem lt_cell {news : List (Addr × Obj)} {L : Addr} (h : ∀ p ∈ news, p.1 < L) : ∀ p ∈ news, p.1 < L + 1 := fun p hp => Nat.lt_succ_of_lt (h p hp)
theorem sp_end0 {h₀ : Heap} {L : Addr} {m : Str → Option Value} {news : List (Addr × Obj)} {s : Shared} {Q : Value → Shared → Prop} {P : Value → List (Addr × Obj) → Prop} {v : Value} {h' : Heap} {tk : Nat}
    (h : SpRet h₀ L m news s Q P) (p : P v []) (F : Fr h₀ L h' m) (N : News h₀ L h' news) : Q v { s with heap := h', toks := tk } := h v [] h' tk p F N (fun _ _ _ hq => nomatch hq)
theorem sp_end1 {h₀ : Heap} {L : Addr} {m : Str → Option Value} {news : List (Addr × Obj)} {s : Shared} {Q : Value → Shared → Prop} {P : Value → List (Addr × Obj) → Prop} {v : Value} {h' : Heap} {tk : Nat} {a : Addr} {o : Obj}
    (h : SpRet h₀ L m news s Q P) (p : P v [(a, o)]) (F : Fr h₀ L h' m) (N : News h₀ L h' ((a, o) :: news)) (l : ∀ p ∈ news, p.1 < a) : Q v { s with heap := h', toks := tk } :=
  h v [(a, o)] h' tk p F N (fun p hp q hq => by rw [List.mem_singleton.mp hq]; exact l p hp)
abbrev tup3 (a b c : Value) : Obj := { cls := .type "tuple", data := .seq #[a, b, c] }
/-- a new tuple of three floats -/
def IsT3 (x : UInt64 × UInt64 × UInt64) (v : Value) (new : List (Addr × Obj)) : Prop := ∃ a t u y, v = .ref a ∧ new = [(a, tup3 (.float x.1 t) (.float x.2.1 u) (.float x.2.2 y))]
theorem IsT3.mk' {a : Addr} {x y z : UInt64} {t u v : Tok} : IsT3 (x, y, z) (.ref a) [(a, tup3 (.float x t) (.float y u) (.float z v))] := ⟨a, t, u, v, rfl, rfl⟩
end Mine
end
/- part Cl -/
section
open PySem.Calls
open Sem (wp)
set_option Elab.async false
set_option maxRecDepth 100000
namespace Mine
/-- a code that holds a buffer while it runs -/
def holdsC : Code → Bool
  | .builtin id _ => Builtin.Bytes.decodersThatHold.contains id
  | _ => false
def CleanB (Γ : Ctx) : Prop := ∀ x ∈ Γ.below, holdsC x.1 = false
def Clean (Γ : Ctx) : Prop := holdsC Γ.code = false ∧ CleanB Γ
/-- wpAny, at the contexts alone behind which no decoder stands -/
def wpC {α : Type} (M : Model) (A : Around) (t : Sem α) (Q : α → Shared → Prop) (E : Value → Shared → Prop) (s : Shared) : Prop :=
  ∀ Γ p, Γ.In A → Clean Γ → wp M Γ t (fun a _ s' => Q a s') (fun e _ s' => E e s') p s
def codeC (M : Model) (A : Around) (c : Code) (R : Result → Shared → Prop) (s : Shared) : Prop :=
  ∀ Γ p, Γ.code = c → Γ.Below A → CleanB Γ → wpCode M Γ R p s
theorem clean_enter {Γ : Ctx} (h : Clean Γ) (c : Code) (hd : Option Value) (p : Pos) : CleanB (Γ.enter c hd p) := fun x hx => by
  cases hx with
  | head => exact h.1
  | tail _ hx => exact h.2 x hx
section
variable {α β : Type} {M : Model} {A : Around} {E : Value → Shared → Prop} {s : Shared}
theorem wpC_of_any {t : Sem α} {Q : α → Shared → Prop} (h : wpAny M A t Q E s) : wpC M A t Q E s := fun Γ p hΓ _ => h Γ p hΓ
theorem codeC_of_any {c : Code} {R : Result → Shared → Prop} (h : codeAny M A c R s) : codeC M A c R s := fun Γ p hc hΓ _ => h Γ p hc hΓ
theorem wpC_pure {a : α} {Q : α → Shared → Prop} (h : Q a s) : wpC M A (pure a) Q E s := fun _ _ _ _ => h
theorem wpC_mono {t : Sem α} {Q Q' : α → Shared → Prop} {E' : Value → Shared → Prop} (h : wpC M A t Q E s)
    (hQ : ∀ a s, Q a s → Q' a s) (hE : ∀ e s, E e s → E' e s) : wpC M A t Q' E' s :=
  fun Γ p hΓ hc => Sem.wp_mono M Γ t (fun a _ s => hQ a s) (fun e _ s => hE e s) p s (h Γ p hΓ hc)
theorem codeC_mono {c : Code} {R R' : Result → Shared → Prop} (h : codeC M A c R s) (hR : ∀ r s, R r s → R' r s) : codeC M A c R' s :=
  fun Γ p hc hΓ hl => wpCode_mono hR (h Γ p hc hΓ hl)
theorem wpC_bind {m : Sem α} {f : α → Sem β} {Q : β → Shared → Prop} (h : wpC M A m (fun a s' => wpC M A (f a) Q E s') E s) :
    wpC M A (m >>= f) Q E s := fun Γ p hΓ hc => by
  rw [Sem.wp_bind']
  exact Sem.wp_mono M Γ m (fun a p' s' h' => h' Γ p' hΓ hc) (fun _ _ _ h' => h') p s (h Γ p hΓ hc)
theorem wpC_first {m : Sem α} {f : α → Sem β} {Q : β → Shared → Prop} (h : wpAny M A m (fun a s' => wpC M A (f a) Q E s') E s) :
    wpC M A (m >>= f) Q E s := wpC_bind (wpC_of_any h)
theorem wpC_onRaise {m : Sem α} {k : Value → Sem Unit} {Q : α → Shared → Prop}
    (h : wpC M A m Q (fun e s' => wpC M A (k e) (fun _ s'' => E e s'') E s') s) : wpC M A (m.onRaise k) Q E s := fun Γ p hΓ hc => by
  rw [Sem.wp_onRaise]
  exact Sem.wp_mono M Γ m (fun _ _ _ h' => h') (fun e p' s' h' => h' Γ p' hΓ hc) p s (h Γ p hΓ hc)
theorem wpC_holding {vs : List Value} {m : Sem α} {Q : α → Shared → Prop} (h : wpC M A m Q E s) : wpC M A (holding vs m) Q E s :=
  fun Γ p hΓ hc => by rw [Sem.wp_holding]; exact h Γ p hΓ hc
theorem wpC_keep {vs : List Value} {m : Sem α} {Q : α → Shared → Prop} (h : wpC M A m Q E s) : wpC M A (m.keep vs) Q E s :=
  fun Γ p hΓ hc => by rw [Sem.wp_keep]; exact h Γ p hΓ hc
theorem wpC_operate {vs : List Value} {m : Sem Value} {Q : Value → Shared → Prop} (h : wpC M A m Q E s) : wpC M A (operate vs m) Q E s :=
  fun Γ p hΓ hc => by rw [Sem.wp_operate]; exact h Γ p hΓ hc
theorem wpC_ite {c : Prop} [Decidable c] {a b : Sem α} {Q : α → Shared → Prop} (h : if c then wpC M A a Q E s else wpC M A b Q E s) :
    wpC M A (if c then a else b) Q E s := by split <;> simp_all
theorem wpC_run {c : Code} {h : Option Value} {Q : Flow → Shared → Prop}
    (hc : codeC M (A.mark h) c (fun r s' => match r with | .ok f => Q f s' | .error e => E e s') s) (hnb : h ≠ some byPass := by intro x; cases x) :
    wpC M A (run c h) Q E s :=
  fun Γ p hΓ hl => by rw [Sem.wp_run]; exact hc _ p rfl (hΓ.enter c h p hnb) (clean_enter hl _ _ _)
theorem wpC_runValue {c : Code} {Q : Value → Shared → Prop}
    (hc : codeC M A c (fun r s' => match r with | .ok (.ret v) => Q v s' | .ok _ => False | .error e => E e s') s) :
    wpC M A (runValue c) Q E s := fun Γ p hΓ hl => by rw [Sem.wp_runValue]; exact hc _ p rfl (hΓ.enter c none p (by intro x; cases x)) (clean_enter hl _ _ _)
theorem wpC_call {f : Value} {pos : List Value} {kw : List (Str × Value)} {Q : Value → Shared → Prop}
    (hc : codeC M A (.call f ⟨pos, kw⟩) (fun r s' => match r with | .ok (.ret v) => Q v s' | .ok _ => False | .error e => E e s') s) :
    wpC M A (call f pos kw) Q E s := wpC_runValue hc
theorem codeC_of_tree {c : Code} {R : Result → Shared → Prop} (hl : holdsC c = false)
    (h : wpC M (A.under c) (M.den c) (fun fin s' => match fin with | .done f => R (.ok f) s' | .again c' => c'.quiet = true ∧ codeC M A c' R s')
      (fun e s' => R (.error e) s') s) : codeC M A c R s := fun Γ p hc hΓ hb => by
  rw [wpCode_iff_wp, hc]
  refine Sem.wp_mono M Γ _ (fun fin p' s' h' => ?_) (fun _ _ _ h' => h') p s (h Γ p (hc ▸ hΓ.in) ⟨hc ▸ hl, hb⟩)
  cases fin with
  | done f => exact h'
  | again c' => exact ⟨h'.1, h'.2 (Γ.goto c') p' rfl (hΓ.goto c') hb⟩
theorem codeC_loop' {c : Code} {R : Result → Shared → Prop} (hl : holdsC c = false) (hq : c.quiet = true) (I : Nat → Shared → Prop)
    (turn : ∀ n s, I n s → wpC M (A.under c) (M.den c)
      (fun fin s' => match fin with
        | .done f => R (.ok f) s'
        | .again c' => (c' = c ∧ ∃ m, m < n ∧ I m s') ∨ (c'.quiet = true ∧ codeC M A c' R s')) (fun e s' => R (.error e) s') s)
    (n : Nat) (h : I n s) : codeC M A c R s := by
  induction n using Nat.strongRecOn generalizing s with
  | ind n ih =>
    refine codeC_of_tree hl (wpC_mono (turn n s h) (fun fin s' hf => ?_) fun _ _ h' => h')
    cases fin with
    | done f => exact hf
    | again c' =>
      rcases hf with ⟨rfl, m, hm, hI⟩ | hf
      · exact ⟨hq, ih m hm hI⟩
      · exact hf
theorem any_clean {f : Code × Pos → Bool} (hf : ∀ c p, c.isGuard = false → holdsC c = false → f (c, p) = false) {l : List (Code × Pos)} (hl : ∀ x ∈ l, holdsC x.1 = false) (hgd : guardsOf l = []) : l.any f = false := by
  rw [List.any_eq_false]
  intro x hx
  have hn : x.1.isGuard = false := by
    cases q : x.1.isGuard with
    | false => rfl
    | true => 
      have hm : x.1 ∈ guardsOf l := List.mem_filter.mpr ⟨List.mem_map_of_mem hx, q⟩
      rw [hgd] at hm
      cases hm
  rw [hf x.1 x.2 hn (hl x hx)]
  exact Bool.false_ne_true
/-- the question of a bytearray whether someone holds it -/
theorem exported_wpC {v : Value} {Q : Bool → Shared → Prop} (hg : A.guards = some []) (q : Q false s) : wpC M A (Builtin.Bytes.exported v) Q E s := fun Γ p hΓ hc => by
  unfold Builtin.Bytes.exported
  show Q (List.any ((Γ.code, p) :: Γ.below) _) s
  rw [any_clean (fun c p hc hl => ?_) (fun x hx => by
    cases hx with
    | head => exact hc.1
    | tail _ hx => exact hc.2 x hx) (by rw [guardsOf_cons]; exact hΓ.2.2.2.1 [] hg)]
  · exact q
  · split <;> first
      | (rename_i heq; cases heq; exact absurd hc (by decide +kernel))
      | (rename_i heq; cases heq; simp [Code.isGuard, guardIds] at hc; done)
      | (rename_i heq; cases heq; (try unfold holdsC at hl); dsimp only at hl; rw [hl, Bool.and_false])
      | rfl
end
section
variable {M : Model} {A : Around} {E : Value → Shared → Prop} {s : Shared} {env : Env}
theorem wp_execs_app {Γ : Ctx} {rest : List Stmt} {Q : Flow → Pos → Shared → Prop} {E : Value → Pos → Shared → Prop} : ∀ (pre : List Stmt) (p : Pos) (s : Shared),
    wp M Γ (execs pre env) (fun f p' s' => match f with | .next => wp M Γ (execs rest env) Q E p' s' | f => Q f p' s') E p s → wp M Γ (execs (pre ++ rest) env) Q E p s
  | [], _, _, h => h
  | st :: pre, p, s, h => by
    rw [execs_cons, Sem.wp_bind'] at h
    show wp M Γ (execs (st :: (pre ++ rest)) env) Q E p s
    rw [execs_cons, Sem.wp_bind']
    refine Sem.wp_mono M Γ _ (fun f p' s' h' => ?_) (fun _ _ _ h' => h') _ _ h
    cases f with
    | next => exact wp_execs_app pre p' s' h'
    | cont => exact h'
    | brk => exact h'
    | ret v => exact h'
theorem wpC_execs_app {pre rest : List Stmt} {Q : Flow → Shared → Prop}
    (h : wpAny M A (execs pre env) (fun f s' => match f with | .next => wpC M A (execs rest env) Q E s' | f => Q f s') E s) : wpC M A (execs (pre ++ rest) env) Q E s := fun Γ p hΓ hc => by
  refine wp_execs_app pre p s (Sem.wp_mono M Γ _ (fun f p' s' h' => ?_) (fun _ _ _ h' => h') _ _ (h Γ p hΓ))
  cases f with
  | next => exact h' Γ p' hΓ hc
  | cont => exact h'
  | brk => exact h'
  | ret v => exact h'
theorem wpC_execs_cons {st rest} {Q : Flow → Shared → Prop}
    (h : wpC M A (exec st env) (fun f s' => match f with | .next => wpC M A (execs rest env) Q E s' | f => Q f s') E s) :
    wpC M A (execs (st :: rest) env) Q E s := fun Γ p hΓ hc => by
  rw [execs_cons, Sem.wp_bind']
  refine Sem.wp_mono M Γ _ (fun f p' s' h' => ?_) (fun _ _ _ h' => h') _ _ (h Γ p hΓ hc)
  cases f <;> first | exact h' Γ p' hΓ hc | exact h'
theorem wpC_Assign_Name {x pos' value pos} {Q : Flow → Shared → Prop}
    (h : wpC M A (eval value env) (fun v s₁ => wpAny M A (storeName env x v) (fun _ s₂ => Q .next s₂) E s₁) E s)
    (hs : swapsWith value (some (.Name x pos')) pos.line env = pure false := by rfl) :
    wpC M A (exec (.Assign [.Name x pos'] value pos) env) Q E s := fun Γ p hΓ hc => by
  simp only [exec_Assign_Name env x pos' value pos hs, Sem.wp_bind', Sem.wp_cmd_standAt, Sem.wp_bindName, Sem.wp_pure']
  exact Sem.wp_mono M Γ _ (fun v _ s₁ h₁ => h₁ Γ _ hΓ) (fun _ _ _ h' => h') _ _ (h Γ _ hΓ hc)
theorem wpC_BinOp {l op r pos} {Q : Value → Shared → Prop}
    (h : wpC M A (eval l env) (fun a s₁ => wpC M A (eval r env) (fun b s₂ => wpAny M A (binaryOp op a b) Q E s₂) E s₁) E s) :
    wpC M A (eval (.BinOp l op r pos) env) Q E s := fun Γ p hΓ hc => by
  simp only [eval_BinOp, Sem.wp_bind', Sem.wp_holding, Sem.wp_cmd_standAt, Sem.wp_operate]
  exact Sem.wp_mono M Γ _ (fun a p₁ s₁ h₁ => Sem.wp_mono M Γ _ (fun b _ s₂ h₂ => h₂ Γ _ hΓ) (fun _ _ _ h' => h') _ _ (h₁ Γ p₁ hΓ hc))
    (fun _ _ _ h' => h') _ _ (h Γ p hΓ hc)
theorem wpC_If {test body orelse pos} {Q : Flow → Shared → Prop}
    (h : wpC M A (isTrue test env (eval test env))
      (fun b s₂ => if b then wpC M A (execs body env) Q E s₂ else wpC M A (execs orelse env) Q E s₂) E s) :
    wpC M A (exec (.If test body orelse pos) env) Q E s := fun Γ p hΓ hc => by
  simp only [exec_If, Sem.wp_bind', Sem.wp_cmd_standAt]
  refine Sem.wp_mono M Γ _ (fun b p₂ s₂ h₂ => ?_) (fun _ _ _ h' => h') _ _ (h Γ _ hΓ hc)
  cases b <;> exact h₂ Γ p₂ hΓ hc
theorem wpC_isTrue_Compare1 {l op r pos whole} {Q : Bool → Shared → Prop}
    (h : wpC M A (eval l env) (fun a s₁ => wpAny M A (eval r env) (fun b s₂ => wpAny M A (compareOp op a b)
      (fun c s₃ => wpAny M A (truthy c) Q E s₃) E s₂) E s₁) E s)
    (hm : behindInMarks op r = false := by with_unfolding_all rfl) : wpC M A (isTrue (.Compare l [op] [r] pos) env whole) Q E s := fun Γ p hΓ hc => by
  simp only [isTrue_Compare1, markedBehindIn_of_false hm, Sem.wp_bind', Sem.wp_holding, Sem.wp_cmd_standAt, Sem.wp_operate]
  exact Sem.wp_mono M Γ _ (fun a p₁ s₁ h₁ => Sem.wp_mono M Γ _ (fun b _ s₂ h₂ => Sem.wp_mono M Γ _ (fun c p₃ s₃ h₃ => h₃ Γ p₃ hΓ)
    (fun _ _ _ h' => h') _ _ (h₂ Γ _ hΓ)) (fun _ _ _ h' => h') _ _ (h₁ Γ p₁ hΓ)) (fun _ _ _ h' => h') _ _ (h Γ p hΓ hc)
theorem wpC_Call_Name {x : Str} {p pos : Pos} {args : List Expr} {trees : List (Bool × Sem Value)} {Q : Value → Shared → Prop} (ht : backTo pos (starEach args env) = trees)
    (h : wpAny M A (eval (.Name x p) env) (fun f s₁ => wpC M A (callWith pos f [] trees []) Q E s₁) E s) :
    wpC M A (eval (.Call (.Name x p) args [] pos) env) Q E s := by
  subst ht
  rw [arm_eval_Call_Name']
  exact wpC_first h
theorem wpC_Call_Name1 {x : Str} {p pos : Pos} {e : Expr} {Q : Value → Shared → Prop}
    (h : wpAny M A (eval (.Name x p) env) (fun f s₁ => wpC M A (callWith pos f [] [(false, eval e env)] []) Q E s₁) E s)
    (hs : starEach [e] env = [(false, eval e env)] := by rfl) :
    wpC M A (eval (.Call (.Name x p) [e] [] pos) env) Q E s := wpC_Call_Name (by rw [hs]; rfl) h
theorem wpC_Call_Name2 {x : Str} {p pos : Pos} {e₁ e₂ : Expr} {Q : Value → Shared → Prop}
    (h : wpAny M A (eval (.Name x p) env) (fun f s₁ => wpC M A (callWith pos f [] [(false, eval e₁ env), (false, eval e₂ env)] []) Q E s₁) E s)
    (hs : starEach [e₁, e₂] env = [(false, eval e₁ env), (false, eval e₂ env)] := by rfl) :
    wpC M A (eval (.Call (.Name x p) [e₁, e₂] [] pos) env) Q E s := wpC_Call_Name (by rw [hs]; rfl) h
theorem callWith_functionC {pos : Pos} {a : Addr} {o : Obj} {fd : FuncData} {first : List Value} {args : List (Bool × Sem Value)} {Q : Value → Shared → Prop}
    (h : wpAny M A (evalArgs (.ref a) true args []) (fun x s₁ => (s₁.heap.get? a = some o ∧ o.data = .func fd) ∧ wpC M A (call (.ref a) (first ++ x.pos) x.kw) Q E s₁) E s) :
    wpC M A (callWith pos (.ref a) first args []) Q E s := by
  unfold callWith
  refine wpC_first (wpAny_holding (wpAny_mono h (fun x s₁ h₁ => wpC_first (wpAny_standAt ?_)) fun _ _ x => x))
  have tail : ∀ {t : Sem Value}, wpC M A t Q E s₁ → wpC M A (t >>= fun r => holding [r] point >>= fun _ => pure r) Q E s₁ :=
    fun ht => wpC_bind (wpC_mono ht (fun r s₂ hr => wpC_first (wpAny_holding (wpAny_point (wpC_pure hr)))) fun _ _ x => x)
  cases hs : args.any (·.1) <;> simp only [List.any_nil, Bool.or_false] <;>
    refine wpC_first (m := keeperOf (.ref a)) ?_ <;> unfold keeperOf <;>
    refine wpAny_bind (wpAny_load h₁.1.1 ?_) <;> rw [h₁.1.2] <;> refine wpAny_pure ?_
  ·
    first
      | refine wpC_ite ?_
      | skip
    split <;> first
      | exact tail h₁.2
      | exact tail (by unfold callMarked; exact wpC_keep h₁.2)
  ·
    first
      | exact tail (by unfold callMarked; exact wpC_keep h₁.2)
      | exact tail h₁.2
theorem callWith_typeC {pos : Pos} {T : String} {first : List Value} {args : List (Bool × Sem Value)} {Q : Value → Shared → Prop} (hplain : args.any (·.1) = false)
    (h : wpAny M A (evalArgs (.type T) true args []) (fun a s₁ => wpC M A (call (.type T) (first ++ a.pos) a.kw) Q E s₁) E s) :
    wpC M A (callWith pos (.type T) first args []) Q E s := by
  unfold callWith
  refine wpC_first (wpAny_holding (wpAny_mono h (fun x s₁ h₁ => wpC_first (wpAny_standAt ?_)) fun _ _ x => x))
  simp only [hplain, List.any_nil, Bool.or_false]
  refine wpC_first (m := keeperOf (.type T)) (wpAny_pure ?_)
  exact wpC_bind (wpC_mono h₁ (fun r s₂ hr => wpC_first (wpAny_holding (wpAny_point (wpC_pure hr)))) fun _ _ x => x)
end
section
variable {prog : Program} {w : World} {A : Around} {E : Value → Shared → Prop} {R : Result → Shared → Prop} {s : Shared}
theorem codeC_func {body env}
    (h : wpC (model prog w) (A.deeper env) (execs body env) (fun f s' => R (.ok (.ret (match f with | .ret v => v | _ => .none))) s')
      (fun e s' => wpAny (model prog w) (A.deeper env) (leaving env e) (fun _ s'' => R (.error e) s'') (fun e' s'' => R (.error e') s'') s') s) :
    codeC (model prog w) A (.func body env) R s := by
  refine codeC_of_tree rfl ?_
  show wpC _ (A.deeper env) (do point; match ← (execs body env).onRaise (leaving env) with | .ret v => ret v | _ => ret .none) _ _ s
  refine wpC_first (wpAny_point (wpC_bind (wpC_onRaise (wpC_mono h (fun f s' h' => ?_) fun _ _ h' => wpC_of_any h'))))
  cases f <;> exact wpC_pure h'
theorem codeC_call_function {a : Addr} {args : Args} {o : Obj} {fd : FuncData} {body : List Stmt} (hroom : A.depth < recursionLimit)
    (ho : s.heap.get? a = some o)
    (hd' : o.data = .func fd) (hco : fd.scope.isCoroutine = false) (hgen : fd.scope.isGenerator = false) (hbody : fd.body = .stmts body) (hcd : s.heap.CodeRec fd.code fd.qualname)
    (h : wpAny (model prog w) A.in1 (bindArgs fd args) (fun binds s₁ =>
      wpAny (model prog w) A.in1 (newFunctionEnv fd.scope fd.globals fd.closure binds (fd.qualname ++ ".<locals>.") (some a) fd.code none fd.builtins)
        (fun env s₂ => s₂.heap.NoLimit ∧ codeC (model prog w) A (.func body env) R s₂) (fun e s' => R (.error e) s') s₁) (fun e s' => R (.error e) s') s) :
    codeC (model prog w) A (.call (.ref a) args) R s := by
  refine codeC_of_tree rfl (wpC_of_any ?_)
  show wpAny _ A.in1 (callAny (.ref a) args) _ _ s
  simp only [callAny]
  refine wpAny_bind (wpAny_load ho ?_)
  obtain ⟨c, oc, vs, tq, hc, hoc, hdc, hq⟩ := hcd
  simp only [hd', callFunction, hco, hgen, hbody, hc]
  rw [hc] at h
  refine wpAny_bind (m := field (.ref c) 1) (wpAny_field hoc hdc hq (wpAny_bind (wpAny_pure ?_)))
  exact wpAny_bind (wpAny_mono h (fun binds s₁ h₁ => wpAny_bind (wpAny_mono h₁ (fun env s₂ h₂ => wpAny_bind (wpAny_enterFrame h₂.1 hroom
    (wpAny_pure (And.intro rfl h₂.2)))) fun _ _ h' => h')) fun _ _ h' => h')
theorem codeC_call_def {a : Addr} {o : Obj} {fd : FuncData} {body : List Stmt} {args : Args} {binds : List (Str × Value)}
    (hroom : A.depth < recursionLimit) (ho : s.heap.get? a = some o) (hdata : o.data = .func fd) (hlim : s.heap.NoLimit) (hcd : s.heap.CodeRec fd.code fd.qualname)
    (hbody : fd.body = .stmts body) (hbind : BindsTo s fd args binds)
    (hcell : ∀ x ∈ fd.scope.names, x.2 ≠ .cell) (hloc : ∀ x ∈ binds, fd.scope.names.lookup x.1 = some .local)
    (h : ∀ h₀, h₀.Ns s.heap.objs.size (fun x => binds.reverse.lookup x) → (∀ b o, s.heap.get? b = some o → h₀.get? b = some o) →
      wpC (model prog w) (A.deeper (callEnv fd s.heap.objs.size a)) (execs body (callEnv fd s.heap.objs.size a)) (fun f s' => R (.ok (.ret (match f with | .ret v => v | _ => .none))) s')
        (fun e s' => wpAny (model prog w) (A.deeper (callEnv fd s.heap.objs.size a)) (leaving (callEnv fd s.heap.objs.size a) e) (fun _ s'' => R (.error e) s'') (fun e' s'' => R (.error e') s'') s')
        { s with heap := h₀, toks := s.toks + binds.length })
    (hco : fd.scope.isCoroutine = false := by rfl) (hgen : fd.scope.isGenerator = false := by rfl) (hk : fd.scope.kind = .function := by rfl) :
    codeC (model prog w) A (.call (.ref a) args) R s := by
  refine codeC_call_function hroom ho hdata hco hgen hbody hcd (hbind _ _ _ _ ?_)
  refine wpAny_newFunctionEnv hcell hloc (fun h₀ hns₀ hsb₀ => ⟨hlim.fresh _ hsb₀, codeC_func (h h₀ hns₀ fun b o e => ?_)⟩) hk
  exact hsb₀.extBut b o (Nat.ne_of_lt (Heap.lt_size e)) (Heap.get?_push_of_some _ e)
end
end Mine
end
/- part Hc -/
section
open PySem.Calls
open Sem (wp)
set_option Elab.async false
set_option maxRecDepth 100000
namespace Mine
abbrev Γ₀ : Ctx := ⟨.builtin "claim.caller" {}, none, none, [], none⟩
theorem clean₀ : Clean Γ₀ := ⟨rfl, fun _ h => nomatch h⟩
theorem wp_of_wpC_done {M : Model} {A : Around} {Γ : Ctx} {t : Sem Fin} {R : Result → Shared → Prop} {s : Shared} (hin : Γ.In A) (hc : Clean Γ)
    (h : wpC M A t (fun fin s' => ∃ f, fin = .done f ∧ R (.ok f) s') (fun e s' => R (.error e) s') s) (p : Pos) :
    wp M Γ t (Sem.finPost M Γ R) (fun e _ s' => R (.error e) s') p s := by
  refine Sem.wp_mono M Γ t (fun fin p' s' h' => ?_) (fun _ _ _ h' => h') p s (h Γ p hin hc)
  obtain ⟨f, rfl, hf⟩ := h'
  exact hf
theorem thread_ends_bothC {prog : Program} {w : World} {t : Sem Fin} {s : Shared} {R : Result → Shared → Prop} (hreg : s.asleep)
    (h : wpC (model prog w) callerA t (fun fin s' => ∃ f, fin = .done f ∧ (R (.ok f) s' ∧ leftWithCleanup s'.gens = false)) (fun e s' => R (.error e) s' ∧ leftWithCleanup s'.gens = false) s) :
    ∃ n r s' s'', runN (denote table) prog w n s ⟨t, .builtin "claim.caller" {}, default, []⟩ = .halted (outcomeOf r) s' ∧
      schedN (denote table) prog w n (.single s ⟨t, .builtin "claim.caller" {}, default, []⟩) = .halted (outcomeOf r) s' ∧ s'.forget = s''.forget ∧ R r s'' := by
  obtain ⟨n, r, s₁, s₂, hs, hn, hfo, hR⟩ := wp_halts_full (M := model prog w) (R := R) hreg (wp_of_wpC_done (R := fun r s' => R r s' ∧ leftWithCleanup s'.gens = false) caller_in clean₀ h default)
  exact ⟨n, r, s₂, s₁, hn, hs, hfo, hR⟩
theorem callFrom_of_specC {c : ClaimW} {tree : List Value → Sem Fin} {w : World} {s : Shared} {free : Addr → Prop} {gens : Prop} {kept : Heap → Prop} (hz : s.asleep) (hgens : s.gens = #[])
    (hspec : ∀ args, c.pre args = true → WData.layableAll args = true →
      ∀ ord : List DictEntry → List DictEntry, (∀ l, (ord l).Perm l) →
      ∃ vs s₁, layAllW c.records (classAt s.heap) w.params ord args s = some (vs, s₁) ∧
        wpC (model c.prog w) callerA (tree vs) (fun fin s' => ∃ f, fin = .done f ∧ (c.Ends s args vs s₁ (.ok f) s' ∧ s'.os = s.os ∧ AllBare s'.gens ∧ kept s'.heap))
          (fun e s' => c.Ends s args vs s₁ (.error e) s' ∧ s'.os = s.os ∧ AllBare s'.gens ∧ kept s'.heap) s₁) :
    c.CallFrom (fun vs => ⟨tree vs, .builtin "claim.caller" {}, default, []⟩) w free gens kept s := by
  intro args hpre hlay ord hord
  obtain ⟨vs, s₁, hlaid, hcode⟩ := hspec args hpre hlay ord hord
  have hal := layAllW_rest _ _ _ hlaid
  obtain ⟨k, r, s', s'', hrun, hsched, hfo, hcase, hos, hkp⟩ := thread_ends_bothC (prog := c.prog) (w := w) (t := tree vs) (s := s₁)
    (R := fun r s' => c.Ends s args vs s₁ r s' ∧ s'.os = s.os ∧ kept s'.heap)
    (Shared.asleep_of_life hal.2.2.2 hz)
    (wpC_mono hcode (by
      rintro fin s' ⟨f, e, h1, h2, h3, h4⟩
      exact ⟨f, e, ⟨h1, h2, h4⟩, leftWithCleanup_false_of_bare h3⟩) (by
      rintro e s' ⟨h1, h2, h3, h4⟩
      exact ⟨⟨h1, h2, h4⟩, leftWithCleanup_false_of_bare h3⟩))
  obtain ⟨eh, _, _, eo, _⟩ := Shared.forget_eq hfo
  have hcase := hcase.congr eh
  have hkp : kept s'.heap := by first | exact eh ▸ hkp | (rw [eh] at hkp; exact hkp) | (rw [← eh] at hkp; exact hkp)
  rw [← eo] at hos
  have hlife : s'.heap.life = s.heap.life := (runN_life _ _ _ hrun).trans hal.2.2.2
  refine ⟨vs, s₁, hlaid, k, _, s', hsched, ?_, (fun _ i x hx => by rw [hgens] at hx; simp at hx), hkp, by rw [hlife], Shared.rest_eq hos⟩
  rcases hcase with ⟨v, rfl, d1, d2, d3, d4, d5⟩ | ⟨e, ob, cls, rfl, d1, d2, d3, d4, d5⟩
  · exact .inl ⟨v, rfl, d1, d2, d3, fun b o y _ => d4 b o y, d5⟩
  · exact .inr ⟨e, ob, cls, rfl, d1, d2, d3, d4, fun b o y _ => d5 b o y⟩
theorem open_anyC {r : RowW} {run : Value → List Value → Sem Value} {tree : List Value → Sem Fin} {q : Program} {loose defs kps : List Str} {writes : Bool} {Xt : Shared → Bool} {XP : (Str → Option Value) → Heap → Prop} {α : Type} {Yf : Shared → α} {Ya : World → α} {YP : World → Heap → Prop} {N : Nat}
    (left : LeftO r.prog q loose Xt Yf Ya N) (hY : ∀ w s, Yf s = Ya w → YP w s.heap) (hYk : ∀ w h h', YP w h → (∀ b o, h.get? b = some o → h'.get? b = some o) → YP w h') (hX : ∀ s, Xt s = true → XP (s.heap.nsMap mainGlobals) s.heap) (hXk : ∀ mg h h', XP mg h → (∀ b o, h.get? b = some o → h'.get? b = some o) → XP mg h')
    (hRf : ∀ s, Xt s = true → RecFacts r.records s.heap) (hwr : (!writes || r.records.isEmpty) = true) (ok : (chainsOk q && opensWell r.prog && (frees r && r.within.isEmpty)) = true) (hb : r.prog.bare) (hw : r.promised)
    (ht : ∀ vs (w : World) (s : Shared) mg f (Q : Fin → Shared → Prop) (E : Value → Shared → Prop), s.heap.Ns mainGlobals mg → mg r.name = some f → wpC (model r.prog w) callerA (run f vs) (fun v s' => Q (.done (.ret v)) s') E s → wpC (model r.prog w) callerA (tree vs) Q E s)
    (pin : ∀ w s, s.heap.isNs mainGlobals = true → Ground q loose [] XP w s (s.heap.nsMap mainGlobals) (s.heap.nsMap builtinsNs) s.heap → ∀ n ∈ defs, isTheDefsW r.prog s.heap n)
    (call : ∀ (w : World) (s₀ s₁ : Shared) (mg mb : Str → Option Value), Ground q loose r.records XP w s₀ mg mb s₁.heap → YP w s₁.heap → ∀ (args : List WData) (vs : List Value) (as : List Addr),
      r.claim.pre args = true → WData.layableAll args = true → Laid r.records w s₀ s₁ args vs as → sysModules < s₀.heap.objs.size → ∃ f, mg r.name = some f ∧
        wpC (model r.prog w) callerA (run f vs) (fun v s' => GoodWG r.claim (classAt s₀.heap) (ExcName.means s₀.heap) args s₁ (.ok (.ret v)) s')
          (fun e s' => GoodWG r.claim (classAt s₀.heap) (ExcName.means s₀.heap) args s₁ (.error e) s') s₁) : r.claim.HoldsOpenBy (fun vs => ⟨tree vs, .builtin "claim.caller" {}, default, []⟩) defs kps writes := by
  obtain ⟨ok, k5⟩ := Bool.and_eq_true_iff.mp ok
  obtain ⟨hch, o1⟩ := Bool.and_eq_true_iff.mp ok
  obtain ⟨k5, k6⟩ := Bool.and_eq_true_iff.mp k5
  obtain ⟨hsame, hu, ha, hap, hm⟩ := frees_parts k5
  refine ⟨⟨hb, o1, by show r.makers.map _ = []; rw [hm]; rfl⟩, hw.witness, fun w => ⟨(left.behind hX hch w).1, fun s' hs' => ?_⟩⟩
  obtain ⟨s₀, hf, hg0, s, hT, hz, hgens, hg, G00, y⟩ := (left.behind (XP := fun mg h => XP mg h ∧ RecFacts r.records h) (fun s hs => ⟨hX s hs, hRf s hs⟩) hch w).2 s' hs'
  have G0 : Ground q loose [] XP w s (s.heap.nsMap mainGlobals) (s.heap.nsMap builtinsNs) s.heap := ⟨G00.T, G00.B, G00.D, G00.TE, G00.TD, G00.W, G00.X.1, G00.cls, G00.has, G00.apart, G00.once, G00.K⟩
  have RF := G00.X.2
  have hT' := hT
  refine ⟨s₀, hf, hg0, s, hT, pin w s hg G0, RF.1, RF.2.1, ?_⟩
  have hgens : s.gens = #[] := Array.eq_empty_of_size_eq_zero (beq_iff_eq.mp hgens)
  have G : Ground q loose r.records XP w s _ _ s.heap := RF.ground G0
  refine callFrom_of_specC (c := r.claim) hz hgens fun args hpre hlay ord hord => ?_
  obtain ⟨⟨vs, s₁⟩, hlaid⟩ := Option.isSome_iff_exists.mp (layAllW_isSome (P := w.params) (ord := ord) G.has args r.args s (pre_splitW hpre).1)
  have keeps := layAllW_keeps _ _ _ hlaid
  have hal := layAllW_rest _ _ _ hlaid
  obtain ⟨as, hrd, hin, hold⟩ := reads_layAllW hord _ _ _ hlaid hlay s₁.heap (fun _ _ e => e)
  have L : Laid r.records w s s₁ args vs as := ⟨⟨ord, hord, hlaid⟩, hrd, hin, hold, keeps, hal.1.trans hgens, hal.2.2.1⟩
  have G₁ := G.keeps hXk keeps
  obtain ⟨f, hf, h⟩ := call w s s₁ _ _ G₁ (hYk _ _ _ (hY w s y) keeps) args vs as hpre hlay L G.low
  have hi := ident_freeW hu ha hap
  have hwi : r.claim.within = [] := List.isEmpty_iff.mp k6
  exact ⟨vs, s₁, hlaid, ht vs w s₁ _ f _ _ G₁.T.g hf (wpC_mono h (fun v s' g => ⟨_, rfl, have z := g.laid (c := r.claim) hsame hwi hi L; ⟨z.1, z.2.1, z.2.2, fun q => ⟨namesKept_of hT' hg kps keeps g.2.1.old, noTable hwr q⟩⟩⟩) fun e s' g => have z := g.laid (c := r.claim) hsame hwi hi L; ⟨z.1, z.2.1, z.2.2, fun q => ⟨namesKept_of hT' hg kps keeps g.2.1.old, noTable hwr q⟩⟩)⟩
abbrev WalkC (q : Program) (loose : List Str) (XP : (Str → Option Value) → Heap → Prop) (YP : World → Heap → Prop) (r : RowW) (d : DefRec) (kwd : List (Str × Expr)) (run : Value → List Value → Sem Value) : Prop :=
  ∀ (w : World) (s₀ s₁ : Shared) (mg mb : Str → Option Value), Ground q loose r.records XP w s₀ mg mb s₁.heap → YP w s₁.heap → ∀ (a : Addr) (o : Obj) (pm cd doc dV kV : Value), s₁.heap.get? a = some o →
    o.data = .func { docDef d.name d.params d.body d.scope pm cd doc with defaults := dV, kwdefaults := kV } → s₁.heap.CodeRec cd d.name → Dflts mg s₁.heap d.params kwd dV kV → mg d.name = some (.ref a) → s₁.gens = #[] →
    ∀ (args : List WData) (vals : List Value) (as : List Addr), r.claim.pre args = true → WData.layableAll args = true → ReadsAllW r.records (classAt s₀.heap) s₁.heap vals args as → WellAll w.params s₁.heap vals args → (∀ a ∈ as, (a == sysModules) = false) →
      wpC (model r.prog w) callerA (run (.ref a) vals) (fun v s' => GoodWG r.claim (classAt s₀.heap) (ExcName.means s₀.heap) args s₁ (.ok (.ret v)) s')
        (fun e s' => GoodWG r.claim (classAt s₀.heap) (ExcName.means s₀.heap) args s₁ (.error e) s') s₁
theorem holds_openP {r : OpenRow} {q : Program} {loose : List Str} {Xt : Shared → Bool} {XP : (Str → Option Value) → Heap → Prop} {α : Type} {Yf : Shared → α} {Ya : World → α} {YP : World → Heap → Prop} {d : DefRec} {kwd : List (Str × Expr)} {N : Nat}
    (left : LeftO r.prog q loose Xt Yf Ya N) (hY : ∀ w s, Yf s = Ya w → YP w s.heap) (hYk : ∀ w h h', YP w h → (∀ b o, h.get? b = some o → h'.get? b = some o) → YP w h')
    (hX : ∀ s, Xt s = true → XP (s.heap.nsMap mainGlobals) s.heap) (hXk : ∀ mg h h', XP mg h → (∀ b o, h.get? b = some o → h'.get? b = some o) → XP mg h')
    (hdef : defOf q r.name = some (d, kwd)) (hp : r.prog.theDef r.name = some (d.params, d.body, d.scope)) (hk : kwWritten? d.params.kwonlyargs d.params.kw_defaults = some kwd) (hRf : ∀ s, Xt s = true → RecFacts r.records s.heap) (hwr : (!r.writes || r.records.isEmpty) = true)
    (k1 : r.wellSaid = true) (ok : (chainsOk q && opensWell r.prog && (frees r.toRowW && r.within.isEmpty)) = true) (hb : r.prog.bare) (hw : r.toRowW.promised)
    (call : WalkC q loose XP YP r.toRowW d kwd fun f vs => PySem.call f vs) : r.Holds := by
  refine ⟨k1, hw, open_anyC (r := r.toRowW) (run := fun f vs => PySem.call f vs) (tree := fun vs => do match ← nsGet mainNs r.name with
      | some f => do ret (← PySem.call f vs)
      | none => unsupported "claim.caller:no-such-global") left hY hYk hX hXk hRf hwr ok hb hw
    (fun vs w s mg f Q E hg hf h => wpC_first (wpAny_nsGet hg (by rw [hf]; exact wpC_bind (wpC_mono h (fun _ _ x => wpC_pure x) fun _ _ x => x))))
    (fun w s hg G n hn => ?_) fun w s₀ s₁ mg mb G Y args vs as hpre hlay L low => ?_⟩
  · obtain rfl : n = r.name := by split at hn <;> simp_all
    exact pinned_of_view hg G hdef hp hk
  · obtain ⟨a, o, pm, cd, doc, dV, kV, h1, h2, h3, h4, h5⟩ := G.fn hdef
    exact ⟨.ref a, h1, call w s₀ s₁ mg mb G Y a o pm cd doc dV kV h2 h3 h4 h5 (defOf_name hdef ▸ h1) L.gens args vs as hpre hlay L.reads L.well (L.low low)⟩
end Mine
end
/- part Hd2 -/
section
open PySem.Calls
open Sem (wp)
set_option Elab.async false
set_option maxRecDepth 100000
namespace Mine
abbrev LVS : List (Str × WData) := [(Str.ofString "ONE_THIRD", WData.float 4599676419421066581), (Str.ofString "ONE_SIXTH", WData.float 4595172819793696085), (Str.ofString "TWO_THIRD", WData.float 4604180019048437077)]
noncomputable def hk (P : Params) : Hook := kHook Mine.hd.heap_39 ((Mine.hd.heap_39 P).map (·.1)) (fun _ => by kernel_rfl)
set_option maxHeartbeats 0 in
theorem leftC (P : Params) : LeftO PySem.Challenge.rw_zo0013_01.row.prog hd.view_39 LOO (fun s => xlAt hd.view_39 LVS s && recOk (RowW.records PySem.Challenge.rw_zo0013_01.row.toRowW) s) (hk P).obs (hk P).val 2404 :=
  LeftO.of_split "special-get-raises" fun w => by kernel_rfl
set_option maxHeartbeats 0 in
theorem hdC {d : DefRec} {kwd : List (Str × Expr)} (hdef : defOf hd.view_39 PySem.Challenge.rw_zo0013_01.row.name = some (d, kwd))
    (hp : PySem.Challenge.rw_zo0013_01.row.prog.theDef PySem.Challenge.rw_zo0013_01.row.name = some (d.params, d.body, d.scope)) (hk : kwWritten? d.params.kwonlyargs d.params.kw_defaults = some kwd)
    (call : WalkC hd.view_39 LOO (XL hd.view_39 LVS) (InK hd.heap_39) PySem.Challenge.rw_zo0013_01.row.toRowW d kwd fun f vs => PySem.call f vs) : PySem.Challenge.rw_zo0013_01.Holds := by
  w_on
  o_law
  refine holds_openP (q := hd.view_39) (XP := XL hd.view_39 LVS) (leftC (aWorld 0).params) (Hook.of _) (Hook.keeps _) (fun s e => xl_of s (Bool.and_eq_true_iff.mp e).1) XL.keeps hdef hp hk (fun s e => recFacts_of (Bool.and_eq_true_iff.mp e).2) rfl (by first | assumption | decide +kernel) (by decide +kernel) ⟨rfl, rfl, rfl, rfl, rfl, by decide +kernel⟩ ?hw call
  case hw => w_witness2
end Mine
end
/- part Rt -/
section
open PySem.Calls
open Sem (wp)
set_option Elab.async false
set_option maxRecDepth 100000
namespace Mine
theorem enter_callS {M : Model} {A : Around} {s : Shared} {f : Value} {pos : List Value} {kw : List (PySem.Str × Value)} {c : ClaimW} {cl : PySem.Str → Option Addr} {mean : ExcName → Option Value} {args : List WData} {s₁ : Shared}
    (h : codeC M A (.call f ⟨pos, kw⟩) (GoodWG c cl mean args s₁) s) : wpC M A (PySem.call f pos kw) (fun v s' => GoodWG c cl mean args s₁ (.ok (.ret v)) s') (fun e s' => GoodWG c cl mean args s₁ (.error e) s') s :=
  wpC_call (codeC_mono h fun res s' g => by rcases g.1 with ⟨v, _, _, rfl, _⟩ | ⟨e, _, _, rfl, _⟩ <;> exact g)
theorem call_cellsS {prog : Program} {w : World} {A : Around} {R : Result → Shared → Prop} {s : Shared} {name : PySem.Str} {params : Arguments} {body : List Stmt} {scope : Scope}
    {pm cd doc : Value} {a : Addr} {o : Obj} {args : List Value} {binds : List (PySem.Str × Value)}
    (hroom : A.depth < recursionLimit) (ho : s.heap.get? a = some o) (hdata : o.data = .func (Calls.docDef name params body scope pm cd doc)) (hlim : s.heap.NoLimit) (hcd : s.heap.CodeRec cd name)
    (hbind : bindArgs (Calls.docDef name params body scope pm cd doc) ⟨args, []⟩ = pure binds)
    (hkind : ∀ x ∈ binds, scope.names.lookup x.1 = some .local ∨ (scope.names.lookup x.1 = some .cell ∧ ((cellsFrom (s.heap.objs.size + 1) scope.names []).lookup x.1).isSome = true))
    (hnd : ((cellsFrom 0 scope.names []).map (·.1)).Nodup)
    (h : ∀ h₁ tk cells, Fr s.heap s.heap.objs.size h₁ (bindL (envOfC name scope s.heap.objs.size a cd).kindOf binds fun _ => none) → News s.heap s.heap.objs.size h₁ cells →
      CellsAre (bindC (envOfC name scope s.heap.objs.size a cd).kindOf binds fun _ => none) (cellsFrom (s.heap.objs.size + 1) scope.names []) cells →
      wpC (model prog w) (A.deeper (envOfC name scope s.heap.objs.size a cd)) (execs body (envOfC name scope s.heap.objs.size a cd))
        (fun f s' => R (.ok (.ret (match f with | .ret v => v | _ => .none))) s')
        (fun e s' => wpAny (model prog w) (A.deeper (envOfC name scope s.heap.objs.size a cd)) (leaving (envOfC name scope s.heap.objs.size a cd) e)
          (fun _ s'' => R (.error e) s'') (fun e' s'' => R (.error e') s'') s')
        { s with heap := h₁, toks := tk })
    (hco : scope.isCoroutine = false := by rfl) (hgen : scope.isGenerator = false := by rfl) (hk : scope.kind = .function := by rfl) :
    codeC (model prog w) A (.call (.ref a) ⟨args, []⟩) R s := by
  refine codeC_call_function hroom ho hdata hco hgen rfl hcd ?_
  rw [hbind]
  refine wpAny_pure ?_
  refine wpAny_newFunctionEnv_cells hk hkind fun env' he s' x => ?_
  subst he
  refine ⟨hlim.keeps x.toInCall.keep, codeC_func ?_⟩
  obtain ⟨h₁, tk, rfl, _⟩ := x.done
  obtain ⟨cells, NC, Y⟩ := Cl.news (h₀ := s.heap) (Nat.le_refl _) fun n c hm => ⟨x.cell n c (lookup_of_mem_nodup (cellsFrom_names scope.names 0 (s.heap.objs.size + 1) [] [] rfl ▸ hnd) hm), x.above n c hm⟩
  exact h h₁ tk cells ⟨x.toInCall.ns, x.toInCall.keep, Nat.le_refl _⟩ NC Y
end Mine
end
/- part Rl -/
section
open PySem.Calls
set_option Elab.async false
namespace Mine
open PySem.Flt
def fGt (x y : UInt64) : UInt64 := if (Float64.cmp x y == some .lt) = true then y else x
def fLt (x y : UInt64) : UInt64 := if (Float64.cmp y x == some .lt) = true then y else x
section
variable {prog : Program} {w : World} {A : Around} {E : Value → Shared → Prop} {s : Shared} {Q : Value → Shared → Prop} {x y z : UInt64} {t u v : Tok}
theorem max_three_ff {h₀ : Heap} {L : Addr} {m : Str → Option Value} {news : List (Addr × Obj)}
    (hh : A.handled = none) (F : Fr h₀ L s.heap m) (N : News h₀ L s.heap news)
    (h : ∀ h' tk v, Fr h₀ L h' m → News h₀ L h' news → Q (.float (fGt (fGt x y) z) v) { s with heap := h', toks := tk }) :
    wpAny (model prog w) A (call (.builtin "max") [.float x t, .float y u, .float z v]) Q E s := by
  have hT : (s.heap.push { cls := .type "tuple", data := .seq #[.float x t, .float y u, .float z v] }).IsTuple s.heap.objs.size #[.float x t, .float y u, .float z v] := ⟨_, Heap.get?_push_size _ rfl, rfl, 0, rfl⟩
  refine call_max_three (wpAny_pyIter_tuple hT ?_)
  have hsz : (s.heap.push { cls := .type "tuple", data := .seq #[.float x t, .float y u, .float z v] }).objs.size = s.heap.objs.size + 1 := Heap.size_push ..
  refine ⟨_, [_, s.heap.objs.size], [_], _, _, _, _, rfl, Walks.tuple (A := A.in1) hh _ s.heap.objs.size (by rw [hsz]; exact Nat.ne_of_lt (Nat.lt_succ_self _)) #[.float x t, .float y u, .float z v],
    ⟨⟨_, Heap.get?_push_size _ rfl, rfl, rfl⟩, hT.push _⟩, fun c hc => ?_, by simp, cmpOf_gt #[.float x t, .float y u, .float z v] (by simp [NumV.float]), fun b h' tk hP hk => ?_⟩
  · show c < ((s.heap.push _).push _).objs.size
    rw [Heap.size_push, hsz]
    rcases List.mem_cons.mp hc with rfl | hc
    · rw [hsz]; exact Nat.lt_succ_self _
    · rcases List.mem_cons.mp hc with rfl | hc
      · exact Nat.lt_succ_of_lt (Nat.lt_succ_self _)
      · cases hc
  · have hold : ∀ c o, s.heap.get? c = some o → h'.get? c = some o := fun c o e => by
      refine hk c o (fun hm => ?_) (Heap.get?_push_of_some _ (Heap.get?_push_of_some _ e))
      rcases List.mem_cons.mp hm with e1 | hm
      · have := Heap.lt_size e; rw [e1, hsz] at this; exact Nat.lt_irrefl _ (Nat.lt_of_succ_lt this)
      · cases hm
    have hv : ∃ tt, b = .float (fGt (fGt x y) z) tt := by
      unfold fGt
      cases hc : (Float64.cmp x y == some .lt)
      · cases hd : (Float64.cmp x z == some .lt) <;> simp [argBest, ltV, hc, hd] at hP <;> simp [← hP, hd]
      · cases hd : (Float64.cmp y z == some .lt) <;> simp [argBest, ltV, hc, hd] at hP <;> simp [← hP, hd]
    obtain ⟨tt, hv⟩ := hv
    rw [hv]; exact h h' tk tt (F.grownK hold) (N.grown hold)
theorem min_three_ff {h₀ : Heap} {L : Addr} {m : Str → Option Value} {news : List (Addr × Obj)}
    (hh : A.handled = none) (F : Fr h₀ L s.heap m) (N : News h₀ L s.heap news)
    (h : ∀ h' tk v, Fr h₀ L h' m → News h₀ L h' news → Q (.float (fLt (fLt x y) z) v) { s with heap := h', toks := tk }) :
    wpAny (model prog w) A (call (.builtin "min") [.float x t, .float y u, .float z v]) Q E s := by
  have hT : (s.heap.push { cls := .type "tuple", data := .seq #[.float x t, .float y u, .float z v] }).IsTuple s.heap.objs.size #[.float x t, .float y u, .float z v] := ⟨_, Heap.get?_push_size _ rfl, rfl, 0, rfl⟩
  refine call_min_three (wpAny_pyIter_tuple hT ?_)
  have hsz : (s.heap.push { cls := .type "tuple", data := .seq #[.float x t, .float y u, .float z v] }).objs.size = s.heap.objs.size + 1 := Heap.size_push ..
  refine ⟨_, [_, s.heap.objs.size], [_], _, _, _, _, rfl, Walks.tuple (A := A.in1) hh _ s.heap.objs.size (by rw [hsz]; exact Nat.ne_of_lt (Nat.lt_succ_self _)) #[.float x t, .float y u, .float z v],
    ⟨⟨_, Heap.get?_push_size _ rfl, rfl, rfl⟩, hT.push _⟩, fun c hc => ?_, by simp, cmpOf_lt #[.float x t, .float y u, .float z v] (by simp [NumV.float]), fun b h' tk hP hk => ?_⟩
  · show c < ((s.heap.push _).push _).objs.size
    rw [Heap.size_push, hsz]
    rcases List.mem_cons.mp hc with rfl | hc
    · rw [hsz]; exact Nat.lt_succ_self _
    · rcases List.mem_cons.mp hc with rfl | hc
      · exact Nat.lt_succ_of_lt (Nat.lt_succ_self _)
      · cases hc
  · have hold : ∀ c o, s.heap.get? c = some o → h'.get? c = some o := fun c o e => by
      refine hk c o (fun hm => ?_) (Heap.get?_push_of_some _ (Heap.get?_push_of_some _ e))
      rcases List.mem_cons.mp hm with e1 | hm
      · have := Heap.lt_size e; rw [e1, hsz] at this; exact Nat.lt_irrefl _ (Nat.lt_of_succ_lt this)
      · cases hm
    have hv : ∃ tt, b = .float (fLt (fLt x y) z) tt := by
      unfold fLt
      cases hc : (Float64.cmp y x == some .lt)
      · cases hd : (Float64.cmp z x == some .lt) <;> simp [argBest, ltV, hc, hd] at hP <;> simp [← hP, hd]
      · cases hd : (Float64.cmp z y == some .lt) <;> simp [argBest, ltV, hc, hd] at hP <;> simp [← hP, hd]
    obtain ⟨tt, hv⟩ := hv
    rw [hv]; exact h h' tk tt (F.grownK hold) (N.grown hold)
end
theorem fin_of_nan {x : UInt64} (h : Float64.isNaN x = true) : Float64.isFinite x = false := by
  unfold Float64.isNaN at h; unfold Float64.isFinite; split at h <;> simp_all
theorem fin_of_inf {x : UInt64} (h : Float64.isInf x = true) : Float64.isFinite x = false := by
  unfold Float64.isInf at h; unfold Float64.isFinite; split at h <;> simp_all
theorem short_app {x y : PySem.Str} {a b : Nat} (h : x.length ≤ a) (k : y.length ≤ b) : (x ++ y).length ≤ a + b := by
  rw [Str.length_append]; omega
theorem short_getD {l : List PySem.Str} {i : Nat} (h : l.all (fun x => Nat.ble x.length 3) = true) : (l.getD i Str.empty).length ≤ 3 := by
  rw [List.getD_eq_getElem?_getD]
  cases e : l[i]? with
  | none => exact Nat.zero_le _
  | some x => exact Nat.le_of_ble_eq_true (List.all_eq_true.mp h x (List.mem_of_getElem? e))
theorem short_int {z : Int} (h : z.natAbs < 10 ^ 9) : (Str.ofString (toString z)).length ≤ 10 := by
  rw [PySem.ofString_length]; exact int_text_length_le10 (k := 9) (by decide) h
theorem short_add {x y : PySem.Str} {a b : Nat} (h : x.length ≤ a) (k : y.length ≤ b) (e : Nat.ble (a + b) 16777216 = true) : x.length + y.length ≤ sizeLine :=
  Nat.le_trans (Nat.add_le_add h k) (Nat.le_of_ble_eq_true e)
theorem short_lit {x : PySem.Str} (h : Nat.ble x.length 9 = true) : x.length ≤ 9 := Nat.le_of_ble_eq_true h
theorem add_short {prog : Program} {w : World} {A : Around} {E : Value → Shared → Prop} {s : Shared} {Q : Value → Shared → Prop} {x y : PySem.Str} {t u : Tok} {a b : Nat} (h : x.length ≤ a) (k : y.length ≤ b) (e : Nat.ble (a + b) 16777216 = true)
    (q : ∀ t' tk, Q (.str (x ++ y) t') { s with toks := tk }) : wpAny (model prog w) A (binaryOp .Add (.str x t) (.str y u)) Q E s := PyProof.Rows.add_str q (short_add h k e)
end Mine
end
local macro_rules | `(tactic| walk_at "call builtin:max") => `(tactic| ((with_reducible show wpAny _ _ (call _ [Value.float _ _, Value.float _ _, Value.float _ _]) _ _ _); (rename News _ _ _ _ => N'); (rename Fr _ _ _ _ => F'); refine Mine.max_three_ff rfl F' N' ?_; clear N'; intro _ _ _ _ _))
local macro_rules | `(tactic| walk_at "call builtin:min") => `(tactic| ((with_reducible show wpAny _ _ (call _ [Value.float _ _, Value.float _ _, Value.float _ _]) _ _ _); (rename News _ _ _ _ => N'); (rename Fr _ _ _ _ => F'); refine Mine.min_three_ff rfl F' N' ?_; clear N'; intro _ _ _ _ _))
local macro_rules | `(tactic| tb_start) => `(tactic| first
  | with_reducible assumption
  | ((with_reducible show PySem.Str.length (HAppend.hAppend _ _) ≤ _); (with_reducible refine' Mine.short_app ?sp ?sq); (case sp => tb_start); (case sq => tb_start))
  | ((with_reducible show PySem.Str.length (List.getD _ _ _) ≤ _); (with_reducible refine' Mine.short_getD ?sp); (case sp => decide +kernel))
  | ((with_reducible show PySem.Str.length (PySem.Str.ofString (toString _)) ≤ _); (with_reducible refine' Mine.short_int ?sp); (case sp => first | omega | (split <;> omega)))
  | ((with_reducible show PySem.Str.length (PySem.Str.ofString _) ≤ _); (with_reducible refine' Mine.short_lit ?sp); (case sp => decide +kernel)))
local macro_rules | `(tactic| walk_at "binaryOp Add str str") => `(tactic| (k_here; (with_reducible show wpAny _ _ (binaryOp Operator.Add (Value.str _ _) (Value.str _ _)) _ _ _); refine' Mine.add_short ?sa ?sb ?sc ?_; (case sa => tb_start); (case sb => tb_start); (case sc => decide +kernel); intro _ _))
/- part Pl -/
section
open PySem.Calls
set_option Elab.async false
namespace Mine
abbrev F3 := UInt64 × UInt64 × UInt64
abbrev f1 : UInt64 := 4607182418800017408
abbrev f6 : UInt64 := 4618441417868443648
/-- an int that no float holds -/
def bigI (n : Int) : Bool := Nat.ble (2 ^ 1024 - 2 ^ 970) n.natAbs
theorem bigI_of {n : Int} (h : 2 ^ 1024 - 2 ^ 970 ≤ n.natAbs) : bigI n = true := Nat.ble_eq_true_of_le h
theorem not_bigI {n : Int} (h : n.natAbs < 2 ^ 1024 - 2 ^ 970) : bigI n = false := by
  cases e : bigI n with
  | false => rfl
  | true => exact absurd h (Nat.not_lt.mpr (Nat.le_of_ble_eq_true e))
/-- hsv_to_rgb(h, 1.0, 1.0) -/
def hsvP (h : UInt64) : Option F3 :=
  if Float64.isFinite (Float64.mul h f6) = true then
    if bigI (Flt.toInt Float64.truncOf (Float64.mul h f6)) = true then none else
    let i0 := Flt.toInt Float64.truncOf (Float64.mul h f6)
    let f := Float64.sub (Float64.mul h f6) (Float64.ofInt i0)
    let p := Float64.mul f1 (Float64.sub f1 f1)
    let q := Float64.mul f1 (Float64.sub f1 (Float64.mul f1 f))
    let t := Float64.mul f1 (Float64.sub f1 (Float64.mul f1 (Float64.sub f1 f)))
    if i0.fmod 6 = 0 then some (f1, t, p) else
    if i0.fmod 6 = 1 then some (q, f1, p) else
    if i0.fmod 6 = 2 then some (p, f1, t) else
    if i0.fmod 6 = 3 then some (p, q, f1) else
    if i0.fmod 6 = 4 then some (t, p, f1) else
    if i0.fmod 6 = 5 then some (f1, p, q) else none
  else none
abbrev f2 : UInt64 := 4611686018427387904
abbrev f4 : UInt64 := 4616189618054758400
abbrev fH : UInt64 := 4602678819172646912
abbrev fT3 : UInt64 := 4599676419421066581
abbrev fS6 : UInt64 := 4595172819793696085
abbrev fD3 : UInt64 := 4604180019048437077
def eqF (x y : UInt64) : Bool := Float64.cmp x y == some .eq
def ltF (x y : UInt64) : Bool := Float64.cmp x y == some .lt
def hueP (r g b x d : UInt64) : UInt64 :=
  (Float64.divmod (Float64.div (
    if (Float64.cmp r x == some .eq) = true then Float64.sub (Float64.div (Float64.sub x b) d) (Float64.div (Float64.sub x g) d) else
    if (Float64.cmp g x == some .eq) = true then Float64.sub (Float64.add f2 (Float64.div (Float64.sub x r) d)) (Float64.div (Float64.sub x b) d) else
    Float64.sub (Float64.add f4 (Float64.div (Float64.sub x g) d)) (Float64.div (Float64.sub x r) d)) f6) f1).2
/-- rgb_to_hls -/
def hlsP (r g b : UInt64) : Option F3 :=
  let x := fGt (fGt r g) b
  let n := fLt (fLt r g) b
  let l := Float64.div (Float64.add x n) f2
  if (Float64.cmp n x == some .eq) = true then some (0, l, 0) else
  if Float64.isZero (Float64.sub x n) = true then none else
  if (Float64.cmp l fH == some .lt || Float64.cmp l fH == some .eq) = true then
    if Float64.isZero (Float64.add x n) = true then none else
    some (hueP r g b x (Float64.sub x n), l, Float64.div (Float64.sub x n) (Float64.add x n))
  else
    if Float64.isZero (Float64.sub (Float64.sub f2 x) n) = true then none else
    some (hueP r g b x (Float64.sub x n), l, Float64.div (Float64.sub x n) (Float64.sub (Float64.sub f2 x) n))
/-- rgb_to_hsv -/
def hsvB (r g b : UInt64) : Option F3 :=
  let x := fGt (fGt r g) b
  let n := fLt (fLt r g) b
  if (Float64.cmp n x == some .eq) = true then some (0, 0, x) else
  if Float64.isZero x = true then none else
  if Float64.isZero (Float64.sub x n) = true then none else
  some (hueP r g b x (Float64.sub x n), Float64.div (Float64.sub x n) x, x)
/-- _v -/
def vP (a c h : UInt64) : UInt64 :=
  let u := (Float64.divmod h f1).2
  if (Float64.cmp u fS6 == some .lt) = true then Float64.add a (Float64.mul (Float64.mul (Float64.sub c a) u) f6) else
  if (Float64.cmp u fH == some .lt) = true then c else
  if (Float64.cmp u fD3 == some .lt) = true then Float64.add a (Float64.mul (Float64.mul (Float64.sub c a) (Float64.sub fD3 u)) f6) else a
/-- hls_to_rgb(h, 0.5, 1.0) -/
def rgbP (h : UInt64) : F3 :=
  let m2 := Float64.mul fH (Float64.add f1 f1)
  let m1 := Float64.sub (Float64.mul f2 fH) m2
  (vP m1 m2 (Float64.add h fT3), vP m1 m2 h, vP m1 m2 (Float64.sub h fT3))
/-- the clock of a zone's text -/
def clockP (z y : Int) : PySem.Str := [Str.ofString "", Str.ofString "0"].getD ((y.fdiv 2).fmod 2).toNat Str.empty ++ Str.ofString (toString (if z < 0 then -z else z)) ++ [Str.ofString ":", Str.ofString ""].getD ((y.fdiv 4).fmod 2).toNat Str.empty
/-- _law_zone -/
def zoneP (z k y : Int) : PySem.Str :=
  if z = 0 then [Str.ofString "GMT", Str.ofString "UTC", Str.ofString "UT", Str.ofString "Z"].getD (y.fmod 4).toNat Str.empty else
  if z < 0 then Str.ofString "-" ++ clockP z y ++ Str.ofString "0" ++ Str.ofString (toString k) else
  [Str.ofString "", Str.ofString "+"].getD (y.fmod 2).toNat Str.empty ++ clockP z y ++ Str.ofString "0" ++ Str.ofString (toString k)
theorem zoneP_0 {z k y : Int} (h : z = 0) : [Str.ofString "GMT", Str.ofString "UTC", Str.ofString "UT", Str.ofString "Z"].getD (y.fmod 4).toNat Str.empty = zoneP z k y := by unfold zoneP; rw [if_pos h]
theorem zoneP_1 {z k y : Int} (h : z ≠ 0) (h2 : z < 0) : Str.ofString "-" ++ clockP z y ++ Str.ofString "0" ++ Str.ofString (toString k) = zoneP z k y := by unfold zoneP; rw [if_neg h, if_pos h2]
theorem zoneP_2 {z k y : Int} (h : z ≠ 0) (h2 : ¬ z < 0) : [Str.ofString "", Str.ofString "+"].getD (y.fmod 2).toNat Str.empty ++ clockP z y ++ Str.ofString "0" ++ Str.ofString (toString k) = zoneP z k y := by unfold zoneP; rw [if_neg h, if_neg h2]
end Mine
end
/- part Fhls -/
section
set_option Elab.async false
namespace Mine
set_option maxRecDepth 100000 in
set_option maxHeartbeats 0 in
theorem sp_Fhls (w : World) (r g b : UInt64) (x : F3) (hp : hlsP r g b = some x) (t1 t2 t3 : Tok) : Sp 1 w 51 [.float r t1, .float g t2, .float b t3] (IsT3 x) := by
  unfold Sp
  k_fill
  intro mean mg mb dp un cn cs a ccd cl outer A₀ base h₀ L m news s Q E B F X N T hk hd hu hret
  refine wpAny_call ?_
  k_dflt cell_enter
  k_steps
  all_goals (try (exfalso; exact absurd (by assumption) (show ¬ Float64.isZero 4611686018427387904 = true by decide +kernel)))
  all_goals (try (exfalso; exact absurd (by assumption) (show ¬ Float64.isZero 4618441417868443648 = true by decide +kernel)))
  all_goals (try (exfalso; exact absurd (by assumption) (show ¬ Float64.isZero 4607182418800017408 = true by decide +kernel)))
  all_goals (simp [hlsP, hueP, *] at hp)
  all_goals (subst hp; first | exact sp_end1 hret IsT3.mk' (by assumption) (by assumption) (by assumption) | skip)
end Mine
end
/- part Frhsv -/
section
set_option Elab.async false
namespace Mine
set_option maxRecDepth 100000 in
set_option maxHeartbeats 0 in
theorem sp_Frhsv (w : World) (r g b : UInt64) (x : F3) (hp : hsvB r g b = some x) (t1 t2 t3 : Tok) : Sp 1 w 72 [.float r t1, .float g t2, .float b t3] (IsT3 x) := by
  unfold Sp
  k_fill
  intro mean mg mb dp un cn cs a ccd cl outer A₀ base h₀ L m news s Q E B F X N T hk hd hu hret
  refine wpAny_call ?_
  k_dflt cell_enter
  k_steps
  all_goals (try (exfalso; exact absurd (by assumption) (show ¬ Float64.isZero 4611686018427387904 = true by decide +kernel)))
  all_goals (try (exfalso; exact absurd (by assumption) (show ¬ Float64.isZero 4618441417868443648 = true by decide +kernel)))
  all_goals (try (exfalso; exact absurd (by assumption) (show ¬ Float64.isZero 4607182418800017408 = true by decide +kernel)))
  all_goals (simp [hsvB, hueP, *] at hp)
  all_goals (subst hp; first | exact sp_end1 hret IsT3.mk' (by assumption) (by assumption) (by assumption) | skip)
end Mine
end
/- part Fv -/
section
set_option Elab.async false
namespace Mine
set_option maxRecDepth 100000 in
set_option maxHeartbeats 0 in
theorem sp_v (w : World) (a c h : UInt64) (t1 t2 t3 : Tok) : Sp 1 w 65 [.float a t1, .float c t2, .float h t3] (fun v new => ∃ t, v = .float (vP a c h) t ∧ new = []) := by
  unfold Sp
  k_fill
  intro mean mg mb dp un cn cs aa ccd cl outer A₀ base h₀ L m news s Q E B F X N T hk hd hu hret
  refine wpAny_call ?_
  k_dflt cell_enter
  k_steps
  all_goals (refine sp_end0 hret ⟨_, congrArg (Value.float · _) ?_, rfl⟩ (by assumption) (by assumption))
  all_goals (simp [vP, *])
end Mine
end
/- part Fhsv -/
section
set_option Elab.async false
namespace Mine
set_option maxRecDepth 100000 in
set_option maxHeartbeats 0 in
theorem sp_hsv (w : World) (h : UInt64) (x : F3) (hp : hsvP h = some x) (t1 t2 t3 : Tok) : Sp 1 w 79 [.float h t1, .float 4607182418800017408 t2, .float 4607182418800017408 t3] (IsT3 x) := by
  unfold Sp
  k_fill
  intro mean mg mb dp un cn cs a ccd cl outer A₀ base h₀ L m news s Q E B F X N T hk hd hu hret
  refine wpAny_call ?_
  k_dflt cell_enter
  k_steps
  all_goals (try (exfalso; exact absurd (by assumption) (show ¬ (Float64.cmp 4607182418800017408 0 == some Ordering.eq) = true by decide +kernel)))
  all_goals (try have hnan := fin_of_nan (by assumption))
  all_goals (try have hinf := fin_of_inf (by assumption))
  all_goals (try have hbig := bigI_of (by assumption))
  all_goals (try have hnbig := not_bigI (by assumption))
  all_goals (simp [hsvP, *] at hp)
  all_goals (subst hp; first | exact sp_end1 hret IsT3.mk' (by assumption) (by assumption) (by assumption) | skip)
end Mine
end
/- part Fgcd -/
section
set_option Elab.async false
namespace Mine
structure GcdI (x y o t : Int) : Prop where
  a : 0 ≤ o
  b : 0 ≤ t
  c : Int.gcd o t = Int.gcd x y
theorem GcdI.start {x y : Int} (hx : 0 ≤ x) (hy : 0 ≤ y) : GcdI x y x y := ⟨hx, hy, rfl⟩
theorem gcd_step (o t : Int) (h1 : 0 ≤ o) (h2 : 0 ≤ t) (h3 : t ≠ 0) : 0 ≤ Int.fmod o t ∧ (Int.fmod o t).toNat < t.toNat ∧ Int.gcd t (Int.fmod o t) = Int.gcd o t := by
  rw [Int.fmod_eq_emod_of_nonneg o h2]
  have hp : 0 < t := by omega
  have a := Int.emod_nonneg o h3
  have b := Int.emod_lt_of_pos o hp
  refine ⟨a, by omega, ?_⟩
  obtain ⟨n, rfl⟩ := Int.eq_ofNat_of_zero_le h1
  obtain ⟨k, rfl⟩ := Int.eq_ofNat_of_zero_le h2
  have e : ((n : Int) % (k : Int)) = ((n % k : Nat) : Int) := by omega
  rw [e, Int.gcd_natCast_natCast, Int.gcd_natCast_natCast, Nat.gcd_comm k, ← Nat.gcd_rec, Nat.gcd_comm]
theorem GcdI.next {x y o t : Int} (h : GcdI x y o t) (h3 : t ≠ 0) : GcdI x y t (Int.fmod o t) :=
  have g := gcd_step o t h.a h.b h3
  ⟨h.b, g.1, g.2.2.trans h.c⟩
theorem GcdI.less {x y o t : Int} (h : GcdI x y o t) (h3 : t ≠ 0) : (Int.fmod o t).toNat < t.toNat := (gcd_step o t h.a h.b h3).2.1
theorem GcdI.fin {x y o t : Int} (h : GcdI x y o t) (h3 : t = 0) : o = Int.gcd x y := by
  have := h.c
  subst h3
  rw [← this, Int.gcd_zero_right]
  have := h.a
  omega
set_option maxRecDepth 100000 in
set_option maxHeartbeats 0 in
theorem sp_gcd (w : World) (x y : Int) (hx : 0 ≤ x) (hy : 0 ≤ y) (t1 t2 : Tok) : Sp 1 w 125 [.int x t1, .int y t2] (fun v new => ∃ t, v = .int (Int.gcd x y) t ∧ new = []) := by
  k_with "exec While Name cons nil" => k_while (fun _ o t => GcdI x y o t) (fun _ _ t => t.toNat) "one" "other"
  k_with "state" => first | exact GcdI.start (by assumption) (by assumption) | exact GcdI.next (by assumption) (by assumption)
  k_with "measure" => exact GcdI.less (by assumption) (by assumption)
  unfold Sp
  k_fill
  intro mean mg mb dp un cn cs a ccd cl outer A₀ base h₀ L m news s Q E B F X N T hk hd hu hret
  refine wpAny_call ?_
  k_dflt cell_enter
  k_steps
  all_goals (have hf := GcdI.fin (by assumption) (by first | assumption | omega); exact sp_end0 hret ⟨_, congrArg (Value.int · _) hf, rfl⟩ (by assumption) (by assumption))
  k_with_none
end Mine
end
/- part Fodd -/
section
set_option Elab.async false
namespace Mine
def isSq (f p : Int) : Bool := (List.map (fun k' => (k' * k').fmod p) (rangeKs 0 (p - 0).toNat)).any fun x => x == f.fmod p
def oddRun : Nat → Int → Int → Int → Int → Option Int
  | 0, _, _, _, _ => none
  | n + 1, f, size, p, odd =>
    if 1 < size then
      if 3 ≤ p ∧ p ≤ 19 then
        if Int.fmod size p = 0 then oddRun n f (Int.fdiv size p) p (if isSq f p = true then odd else odd + 1)
        else oddRun n f size (p + 2) odd
      else none
    else some (Int.fmod odd 2)
structure OddI (f r size p odd : Int) : Prop where
  run : ∃ n, oddRun n f size p odd = some r
theorem OddI.go {f r z p o : Int} (h : OddI f r z p o) (h1 : 1 < z) : 3 ≤ p ∧ p ≤ 19 ∧ (z.fmod p ≠ 0 → OddI f r z (p + 2) o) ∧ (z.fmod p = 0 → OddI f r (z.fdiv p) p (if isSq f p = true then o else o + 1)) := by
  obtain ⟨n, h⟩ := h
  cases n with
  | zero => cases h
  | succ n =>
    unfold oddRun at h
    rw [if_pos h1] at h
    by_cases hp : 3 ≤ p ∧ p ≤ 19
    · rw [if_pos hp] at h
      refine ⟨hp.1, hp.2, fun e => ?_, fun e => ?_⟩
      · rw [if_neg e] at h; exact ⟨n, h⟩
      · rw [if_pos e] at h; exact ⟨n, h⟩
    · rw [if_neg hp] at h; cases h
theorem OddI.next1 {f r z p o : Int} (h : OddI f r z p o) (h1 : 1 < z) (e : z.fmod p ≠ 0) : 3 ≤ p + 2 ∧ p + 2 ≤ 21 ∧ OddI f r z (p + 2) o :=
  have g := h.go h1
  ⟨by have := g.1; omega, by have := g.2.1; omega, g.2.2.1 e⟩
theorem OddI.next2 {f r z p o : Int} (h : OddI f r z p o) (h1 : 1 < z) (e : z.fmod p = 0) (c : ((List.map (fun k' => (k' * k').fmod p) (rangeKs 0 (p - 0).toNat)).any fun x => x == f.fmod p) = true) : 3 ≤ p ∧ p ≤ 21 ∧ OddI f r (z.fdiv p) p o := by
  have g := h.go h1
  have q := g.2.2.2 e
  rw [if_pos (show isSq f p = true from c)] at q
  exact ⟨g.1, by have := g.2.1; omega, q⟩
theorem OddI.next3 {f r z p o : Int} (h : OddI f r z p o) (h1 : 1 < z) (e : z.fmod p = 0) (c : ((List.map (fun k' => (k' * k').fmod p) (rangeKs 0 (p - 0).toNat)).any fun x => x == f.fmod p) = false) : 3 ≤ p ∧ p ≤ 21 ∧ OddI f r (z.fdiv p) p (o + 1) := by
  have g := h.go h1
  have q := g.2.2.2 e
  rw [if_neg (by rw [show isSq f p = false from c]; exact Bool.false_ne_true)] at q
  exact ⟨g.1, by have := g.2.1; omega, q⟩
theorem OddI.less1 {f r z p o : Int} (h : OddI f r z p o) (h1 : 1 < z) : (32 * z + 21 - (p + 2)).toNat < (32 * z + 21 - p).toNat := by
  have g := h.go h1
  omega
theorem OddI.less2 {f r z p o : Int} (h : OddI f r z p o) (h1 : 1 < z) (_e : z.fmod p = 0) : (32 * (z.fdiv p) + 21 - p).toNat < (32 * z + 21 - p).toNat := by
  have g := h.go h1
  have h3 : z.fdiv p < z := by
    rw [Int.fdiv_eq_ediv_of_nonneg z (by omega)]
    exact Int.ediv_lt_self_of_pos_of_ne_one (by omega) (by omega)
  omega
theorem OddI.fin {f r z p o : Int} (h : OddI f r z p o) (h1 : ¬ 1 < z) : o.fmod 2 = r := by
  obtain ⟨n, h⟩ := h
  cases n with
  | zero => cases h
  | succ n =>
    unfold oddRun at h
    rw [if_neg h1] at h
    exact Option.some.inj h
abbrev σO := Int × Tok × Int × Tok × Int × Tok × Obj
set_option maxRecDepth 100000 in
set_option maxHeartbeats 0 in
theorem sp_odd (w : World) (f z r : Int) (h : ∃ n, oddRun n f z 3 0 = some r) (t1 t2 : Tok) : Sp 2 w 130 [.int f t1, .int z t2] (fun v new => ∃ t, v = .int r t ∧ new = []) := by
  k_with "exec While Compare cons nil" => (k_here; (with_reducible rename Fr _ _ _ _ => lF'); (with_reducible rename News _ _ _ _ => lN'); (with_unfolding_all refine' ksw_while (σ := σO) (fun c => (L1 + 1, c.2.2.2.2.2.2) :: news) (fun c => [(Str.ofString "size", .int c.1 c.2.1), (Str.ofString "odd", .int c.2.2.1 c.2.2.2.1)]) (fun c => c.2.2.2.2.2.2.data = .cell (some (.int c.2.2.2.2.1 c.2.2.2.2.2.1))) [] (fun c => 3 ≤ c.2.2.2.2.1 ∧ c.2.2.2.2.1 ≤ 21 ∧ OddI f r c.1 c.2.2.2.2.1 c.2.2.1) (fun c => (32 * c.1 + 21 - c.2.2.2.2.1).toNat) ⟨_, _, _, _, _, _, _⟩ lF' lN' ?kf ?kk ?kp ?_); (case kf => k_asm); (case kk => kst_all); (case kp => kst_p); (intro c kU kH kTk kFacts kInv kFr kNews; obtain ⟨z9, tz9, o9, to9, p9, tp9, ob9⟩ := c; dsimp only at kFacts kInv kFr kNews ⊢; obtain ⟨hp3, hp21, hI⟩ := kInv; (try k_fold)))
  k_with "state" => first | exact ⟨by decide, by decide, h0⟩ | exact OddI.next1 (by assumption) (by assumption) (by assumption) | exact OddI.next2 (by assumption) (by assumption) (by assumption) (by assumption) | exact OddI.next3 (by assumption) (by assumption) (by assumption) (by assumption)
  k_with "KswEnd" => ((rename News _ _ _ _ => nE9); (refine' ksw_end (⟨_, _, _, _, _, _, _⟩ : σO) ?hF nE9 ?hn ?hf ?hk ?hr ?hp ?hm); (case hF => assumption); (case hn => (repeat' (first | exact sub_rfl | refine sub_cons ?_))); (case hf => dsimp only; assumption); (case hk => kst_all); (case hr => (first | ksw_same | (intro z h2 h3; (simp only [List.forall_mem_cons, List.not_mem_nil, false_implies, implies_true, and_true, ne_eq] at h2); (simp [kstB, h2]; done)))); (case hp => kst_p); (case hm => ksw_less))
  k_with "measure" => first | exact OddI.less1 (by assumption) (by assumption) | exact OddI.less2 (by assumption) (by assumption) (by assumption)
  unfold Sp
  k_fill
  intro mean mg mb dp un cn cs a ccd cl outer A₀ base h₀ L m news s Q E B F X N T hk hd hu hret
  have h0 : OddI f r z 3 0 := ⟨h⟩
  refine wpAny_call ?_
  k_dflt ((refine' code_defC ?k1 ?k2 ?k3 ?k4 ?k5 ?kA ?kF ?kK ?k6 ?k7 ?k8 ?k9 ?kB ?kD ?_ ?c2 ?c3 ?c4; (case kA => exact rfl); (case kF => exact rfl); (case kK => assumption); (case k1 => k_asm); (case k2 => k_asm); (case k3 => k_asm); (case k4 => k_asm); (case k5 => k_asm); (case k6 => k_is); (case k7 => k_is); (case k8 => ktr_room); (case k9 => exact BindsTo.of_eq rfl); (case kB => exact rfl); (case kD => decide +kernel); (case c2 => exact rfl); (case c3 => exact rfl); (case c4 => exact rfl); k_whole; intro g1 L1 h' tk' cells' FG' F' N' Y' B' X' T' l1; have lc1 := lt_cell l1; have hMk9 := kstMark; k_cells Y'; (try simp only [List.cons_append, List.nil_append] at N'); (try dsimp only); (try k_lift B'); (try k_fold)))
  k_steps
  all_goals (have hf := OddI.fin (by assumption) (by assumption); exact sp_end0 hret ⟨_, congrArg (Value.int · _) hf, rfl⟩ (by assumption) (cb_drop (by assumption) (fun _ h => .tail _ h)))
  k_with_none
end Mine
end
/- part Fzone -/
section
set_option Elab.async false
namespace Mine
set_option maxRecDepth 100000 in
set_option maxHeartbeats 0 in
theorem sp_zone (w : World) (z k y : Int) (hz : -7 ≤ z ∧ z ≤ 7) (hk' : 0 ≤ k ∧ k ≤ 7) (hy : 0 ≤ y) (t1 t2 t3 : Tok) : Sp 1 w 137 [.int z t1, .int k t2, .int y t3] (fun v new => ∃ t, v = .str (zoneP z k y) t ∧ new = []) := by
  k_with "table" => skip
  unfold Sp
  k_fill
  intro mean mg mb dp un cn cs a ccd cl outer A₀ base h₀ L m news s Q E B F X N T hk hd hu hret
  obtain ⟨hz1, hz2⟩ := hz
  obtain ⟨hk1, hk2⟩ := hk'
  refine wpAny_call ?_
  k_dflt ((refine' code_def ?k1 ?k2 ?k3 ?k4 ?k5 ?kA ?kF ?kK ?k6 ?k7 ?k8 ?k9 ?kB ?_ ?c2 ?c3 ?c4 ?c5; (case kA => exact rfl); (case kF => exact rfl); (case kK => assumption); (case k1 => k_asm); (case k2 => k_asm); (case k3 => k_asm); (case k4 => k_asm); (case k5 => k_asm); (case k6 => k_is); (case k7 => k_is); (case k8 => ktr_room); (case k9 => exact BindsTo.of_eq rfl); (case c5 => decide); (case kB => exact locs rfl); (case c2 => exact rfl); (case c3 => exact rfl); (case c4 => exact rfl); k_whole; intro g1 L1 h' FG' F' N' B' X' T'; have hMk9 := kstMark; (try dsimp only); (try k_lift B'); (try k_fold)))
  k_steps
  all_goals (rename Fr h₀ L _ m => F9; rename News h₀ L _ _ => N9)
  · exact sp_end0 hret ⟨_, congrArg (Value.str · _) (zoneP_0 (by with_reducible assumption)), rfl⟩ F9 (cb_drop N9 (by repeat' (first | exact sub_rfl | refine sub_cons ?_)))
  · exact sp_end0 hret ⟨_, congrArg (Value.str · _) (zoneP_1 (by with_reducible assumption) (by with_reducible assumption)), rfl⟩ F9 (cb_drop N9 (by repeat' (first | exact sub_rfl | refine sub_cons ?_)))
  · exact sp_end0 hret ⟨_, congrArg (Value.str · _) (zoneP_2 (by with_reducible assumption) (by with_reducible assumption)), rfl⟩ F9 (cb_drop N9 (by repeat' (first | exact sub_rfl | refine sub_cons ?_)))
  k_with_none
end Mine
end
/- part Lp -/
section
open PySem.Calls
set_option Elab.async false
set_option maxRecDepth 100000
namespace Mine
/-- what stands behind i turns of a loop: a state c -/
def RS {σ : Type} (Led : σ → List (Addr × Obj)) (ps : σ → List (PySem.Str × Value)) (Facts : σ → Prop) (x : PySem.Str) (stored : List PySem.Str) (m₀ : PySem.Str → Option Value) (P : Nat → σ → Prop) (i : Nat) (m : PySem.Str → Option Value) (nx : List (Addr × Obj)) : Prop :=
  ∃ c : σ, nx = Led c ∧ Facts c ∧ (∀ p ∈ ps c, m p.1 = some p.2) ∧ (∀ z, z ≠ x → (∀ p ∈ ps c, z ≠ p.1) → stored.contains z = false → m z = m₀ z) ∧ P i c
theorem RS.mk' {σ : Type} {Led : σ → List (Addr × Obj)} {ps : σ → List (PySem.Str × Value)} {Facts : σ → Prop} {x : PySem.Str} {stored : List PySem.Str} {m₀ : PySem.Str → Option Value} {P : Nat → σ → Prop} {i : Nat} {m : PySem.Str → Option Value} (c : σ)
    (hf : Facts c) (hk : ∀ p ∈ ps c, m p.1 = some p.2) (hr : ∀ z, z ≠ x → (∀ p ∈ ps c, z ≠ p.1) → stored.contains z = false → m z = m₀ z) (hp : P i c) : RS Led ps Facts x stored m₀ P i m (Led c) := ⟨c, rfl, hf, hk, hr, hp⟩
section
variable {prog : Program} {w : World} {A : Around} {E : Value → Shared → Prop} {s : Shared} {env : Env} {h₀ : Heap} {x : PySem.Str} {body : List Stmt} {Q : Flow → Shared → Prop}
theorem range_loop {σ : Type} {r : Addr} {a b st : Int} {t₀ u₀ v₀ : Tok} {n : Nat} {m₀ : PySem.Str → Option Value} (Led : σ → List (Addr × Obj)) (ps : σ → List (PySem.Str × Value)) (Facts : σ → Prop) (stored : List PySem.Str) (P : Nat → σ → Prop) (c₀ : σ)
    (hh : A.handled = none) (hr : IsRange s.heap r a b st t₀ u₀ v₀) (hsmall : Builtin.Range.small a b st = true) (hn : Builtin.Range.rangeSize a b st = (n : Int)) (F : Fr h₀ env.locals s.heap m₀) (N : News h₀ env.locals s.heap (Led c₀)) (hf : Facts c₀) (hk : ∀ p ∈ ps c₀, m₀ p.1 = some p.2) (hp : P 0 c₀)
    (turn : ∀ (c : σ) (i : Nat) t (u : PySem.Str → Option Value) h tk own, i < n → OwnOff own ((Led c₀).map (·.1)) → Facts c → P i c →
      Fr h₀ env.locals h (fun y => if y = x then some (.int (a + (i : Int) * st) t) else kstB (fun z => if stored.contains z then u z else m₀ z) (ps c) y) → News h₀ env.locals h (Led c ++ own) →
      wpAny (model prog w) A (execs body env) (InvPostN h₀ env.locals (RS Led ps Facts x stored m₀ P (i + 1)) own ((Led c₀).map (·.1)) { s with heap := h, toks := tk } Q) E { s with heap := h, toks := tk })
    (done : ∀ (c : σ) (u : PySem.Str → Option Value) h tk, Facts c → P n c → Fr h₀ env.locals h (fun y => if y = x then u y else kstB (fun z => if stored.contains z then u z else m₀ z) (ps c) y) → News h₀ env.locals h (Led c) → Q .next { s with heap := h, toks := tk }) :
    wpAny (model prog w) A (pyIter (.ref r)) (fun it s₂ => LoopAtV prog w A h₀ env x body Q E it s₂) E s := by
  refine wpAny_pyIter_range hr hsmall ?_
  have W : Walks prog w A s.heap.objs.size [s.heap.objs.size] [s.heap.objs.size] n (fun i v => ∃ t, v = .int (a + (i : Int) * st) t)
      (fun i h => IsRangeIter h s.heap.objs.size (a + (i : Nat) * st) ((n : Int) - (i : Nat)) st) := Walks.range hh _ a st n
  have hnew : ∀ p ∈ Led c₀, p.1 ∉ [s.heap.objs.size] := fun p hp hI => absurd (Heap.lt_size (N p hp).1) ((List.mem_singleton.mp hI) ▸ Nat.lt_irrefl _)
  refine loop_invN (RS Led ps Facts x stored m₀ P) W (fun hm => absurd F.ns.lt ((List.mem_singleton.mp hm) ▸ Nat.lt_irrefl _)) (fun b hb => by rw [List.mem_singleton.mp hb]; exact next_is_new F) hnew hnew
    (by show IsRangeIter _ _ _ _ _; rw [hn]; simpa using Heap.get?_push_size _ rfl) (F.push _) (fun p hp => ⟨Heap.get?_push_of_some _ (N p hp).1, (N p hp).2⟩) ⟨c₀, rfl, hf, hk, fun _ _ _ _ => rfl, hp⟩ ?_ ?_
  · rintro i v m₁ nx h tk own hi ⟨t, rfl⟩ _ hoff ⟨c, rfl, hf', h1, h2, hp'⟩ F₁ N₁
    exact turn c i t m₁ h tk own hi hoff hf' hp' (kst_fr h1 h2 F₁) N₁
  · rintro m₁ nx h tk ⟨c, rfl, hf', h1, h2, hp'⟩ F₁ N₁
    exact done c m₁ h tk hf' hp' (kst_frOut h1 h2 F₁) N₁
end
end Mine
end
/- part Re -/
section
open PySem.Calls PySem.Builtin.Re
set_option Elab.async false
set_option maxRecDepth 100000
namespace Mine
theorem plain_pat : PlainAttrs "re.Pattern" :=
  ⟨⟨"object.__getattribute__", by rw [typeLookup_type, builtinLookup_eq_fast]; kernel_rfl, by decide +kernel⟩, by rw [typeLookup_type, builtinLookup_eq_fast]; kernel_rfl⟩
theorem plain_mat : PlainAttrs "re.Match" :=
  ⟨⟨"object.__getattribute__", by rw [typeLookup_type, builtinLookup_eq_fast]; kernel_rfl, by decide +kernel⟩, by rw [typeLookup_type, builtinLookup_eq_fast]; kernel_rfl⟩
theorem slot_pat_search : Slot "re.Pattern" "search" "re.Pattern.search" :=
  .of (owner := "re.Pattern") (n := "search") (by rw [typeLookup_type, builtinLookup_eq_fast]; kernel_rfl) (by decide +kernel) (by decide +kernel) (by decide +kernel)
    (by first | exact .inl (by decide +kernel) | exact .inr (by decide +kernel)) (by rw [isSubtype_type]; kernel_rfl)
theorem type_pat_search : typeOf (.builtin "re.Pattern.search") = pure (.type "method_descriptor") := by show builtinType _ = _; rw [builtinType_eq_fast]; kernel_rfl
theorem entry_pat_search : entryFor table "re.Pattern.search" = some Builtin.«re.Pattern.search» := entryFor_of_tree (by kernel_rfl)
theorem args_pat_search (a b : Value) : argsOk "re.Pattern.search" ⟨[a, b], []⟩ := by unfold argsOk; kernel_rfl
theorem slot_mat_group : Slot "re.Match" "group" "re.Match.group" :=
  .of (owner := "re.Match") (n := "group") (by rw [typeLookup_type, builtinLookup_eq_fast]; kernel_rfl) (by decide +kernel) (by decide +kernel) (by decide +kernel)
    (by first | exact .inl (by decide +kernel) | exact .inr (by decide +kernel)) (by rw [isSubtype_type]; kernel_rfl)
theorem type_mat_group : typeOf (.builtin "re.Match.group") = pure (.type "method_descriptor") := by show builtinType _ = _; rw [builtinType_eq_fast]; kernel_rfl
theorem entry_mat_group : entryFor table "re.Match.group" = some Builtin.«re.Match.group» := entryFor_of_tree (by kernel_rfl)
theorem args_mat_group (a b : Value) : argsOk "re.Match.group" ⟨[a, b], []⟩ := by unfold argsOk; kernel_rfl
theorem noBool_mat : typeLookup (.type "re.Match") "__bool__" = pure none := by rw [typeLookup_type, builtinLookup_eq_fast]; kernel_rfl
theorem noLen_mat : typeLookup (.type "re.Match") "__len__" = pure none := by rw [typeLookup_type, builtinLookup_eq_fast]; kernel_rfl
def codeZ : Array Nat := #[14, 4, 0, 1, 6, 6, 0, 23, 14, 0, 1, 17, 0, 13, 6, 16, 45, 16, 43, 0, 17, 1, 18, 17, 2, 13, 4, 8, 0, 0, 24, 9, 0, 1, 13, 4, 8, 0, 0, 1, 17, 3, 24, 6, 0, 1, 16, 58, 1, 23, 17, 0, 1, 17, 4, 13, 4, 8, 0, 0, 13, 4, 8, 0, 0, 17, 5, 18, 6, 5, 1]
def drv : Nat → Sre.M → Option Sre.M
  | 0, _ => none
  | k + 1, m => match (m.runFor 4).outcome with
    | some _ => some (m.runFor 4)
    | none => drv k (m.runFor 4)
def wrongM (groups : Nat) (m : Sre.M) : Bool := (List.range groups).any (fun g => match m.marks.getD (2 * g) none, m.marks.getD (2 * g + 1) none with | some b, some e => ((2 * g + 1 : Nat) : Int) ≤ m.lastmark && e < b | _, _ => false)
def spansM (groups : Nat) (m : Sre.M) : List Value := (List.range groups).flatMap fun g =>
    match if ((2 * g + 1 : Nat) : Int) ≤ m.lastmark then (m.marks.getD (2 * g) none, m.marks.getD (2 * g + 1) none) else (none, none) with
    | (some b, some e) => [rawInt b, rawInt e]
    | _ => [rawInt (-1), rawInt (-1)]
def startZ (x : PySem.Str) : Sre.M := Sre.forSearch codeZ x.cps 3 0 (min ((2 ^ 63 - 1 : Int).toNat) x.cps.size) false
def okM (m : Sre.M) : Bool := (match m.outcome with | some .matched => true | _ => false) && !wrongM 3 m
/-- what TIMEZONE_RE.search finds: the places of its groups -/
def seekZ (x : PySem.Str) : Option Sre.M := match drv 40 (startZ x) with
  | some m => if okM m = true then some m else none
  | none => none
def allSpans (m : Sre.M) : List Value := rawInt m.start :: rawInt m.handed :: spansM 3 m
theorem drv_wp {M : Model} {A : Around} {E : Value → Shared → Prop} {s : Shared} {Q : Sre.M → Shared → Prop} : ∀ (k n : Nat) (m m' : Sre.M), drv k m = some m' → k ≤ n → Q m' s → wpAny M A (reDrive n m) Q E s
  | 0, _, _, _, h, _, _ => by cases h
  | k + 1, 0, _, _, _, h, _ => absurd h (Nat.not_succ_le_zero _)
  | k + 1, n + 1, m, m', h, hk, hq => by
    unfold drv at h
    unfold reDrive
    show wpAny M A (if (m.runFor 4).outcome.isSome = true then pure (m.runFor 4) else (do rule "sre.turn"; reDrive n (m.runFor 4))) Q E s
    cases e : (m.runFor 4).outcome with
    | some o =>
      rw [e] at h
      dsimp only at h
      cases h
      exact wpAny_pure hq
    | none =>
      rw [e] at h
      dsimp only at h
      exact wpAny_bind (wpAny_rule (drv_wp k n _ m' h (Nat.le_of_succ_le_succ hk) hq))
theorem rules_wp {M : Model} {A : Around} {E : Value → Shared → Prop} {s : Shared} {Q : PUnit → Shared → Prop} (f : Nat → PUnit → Sem (ForInStep PUnit)) (hf : ∀ i (Q' : ForInStep PUnit → Shared → Prop), Q' (.yield ⟨⟩) s → wpAny M A (f i ⟨⟩) Q' E s) (h : Q ⟨⟩ s) : ∀ l : List Nat,
    wpAny M A (forIn l PUnit.unit f) Q E s
  | [] => by rw [List.forIn_nil]; exact wpAny_pure h
  | i :: l => by
    rw [List.forIn_cons]
    exact wpAny_bind (hf i _ (rules_wp f hf h l))
theorem toEnd_wp {M : Model} {A : Around} {E : Value → Shared → Prop} {s : Shared} {Q : Option Sre.M → Shared → Prop} {m m' : Sre.M} {k : Nat} (h : drv k m = some m') (hk : k ≤ 2 ^ 64) (hm : okM m' = true) (q : Q (some m') s) : wpAny M A (reRunToEnd m) Q E s := by
  unfold reRunToEnd
  refine wpAny_bind (drv_wp k _ m m' h hk ?_)
  refine wpAny_bind (rules_wp _ (fun i Q' hq => ?_) ?_ _)
  · show wpAny M A (if m'.seen.has i = true then _ else _) Q' E s
    cases m'.seen.has i with
    | true => exact wpAny_bind (wpAny_rule (wpAny_pure hq))
    | false => first | exact wpAny_bind (wpAny_pure (wpAny_pure hq)) | exact wpAny_pure hq
  unfold okM at hm
  cases e : m'.outcome with
  | none => rw [e] at hm; simp at hm
  | some o =>
    cases o with
    | matched => exact wpAny_pure q
    | failed => rw [e] at hm; simp at hm
    | stuck w => rw [e] at hm; simp at hm
theorem spans_len (m : Sre.M) : (allSpans m).length = 8 := by
  have h2 : ∀ g, (match if ((2 * g + 1 : Nat) : Int) ≤ m.lastmark then (m.marks.getD (2 * g) none, m.marks.getD (2 * g + 1) none) else (none, none) with
    | (some b, some e) => [rawInt (b : Nat), rawInt (e : Nat)]
    | _ => [rawInt (-1), rawInt (-1)]).length = 2 := by
    intro g
    split <;> rfl
  unfold allSpans spansM
  rw [List.length_cons, List.length_cons, List.length_flatMap]
  show ([0, 1, 2].map _).sum + 1 + 1 = 8
  simp only [List.map_cons, List.map_nil, h2]
  rfl
abbrev matObj (x : PySem.Str) (tk : Tok) (pat : Addr) (mm : Sre.M) (a1 : Addr) : Obj := { cls := .type "re.Match", data := .fields #[.str x tk, .ref pat, rawInt 0, rawInt (min ((2 ^ 63 - 1 : Int).toNat) x.cps.size : Nat), rawInt mm.lastindex, .ref a1] }
abbrev spObj (mm : Sre.M) : Obj := { cls := .type "tuple", data := .seq (allSpans mm).toArray }
section
variable {prog : Program} {w : World} {A : Around} {E : Value → Shared → Prop} {s : Shared} {Q : Value → Shared → Prop} {h₀ : Heap} {L : Addr} {m : PySem.Str → Option Value} {news : List (Addr × Obj)}
theorem fields_wp {M : Model} {a : Addr} {o : Obj} {vs : Array Value} {Q : Array Value → Shared → Prop} (ho : s.heap.get? a = some o) (hd : o.data = .fields vs) (h : Q vs s) : wpAny M A (fieldsOf (.ref a)) Q E s := by
  unfold fieldsOf
  refine wpAny_bind (wpAny_load ho ?_)
  rw [hd]
  exact wpAny_pure h
theorem rawItems_wp {M : Model} {a : Addr} {o : Obj} {vs : Array Value} {n : Nat} {Q : Array Int → Shared → Prop} (ho : s.heap.get? a = some o) (hd : o.data = .seq vs n) (h : Q (vs.map reRawOf) s) : wpAny M A (reRawItems (.ref a)) Q E s := by
  unfold reRawItems
  exact wpAny_bind (wpAny_seqItems ho hd (wpAny_pure h))
theorem search_wp {pat code : Addr} {x : PySem.Str} {tk t0 t3 : Tok} {pv fv : Value} {oc : Obj} {items : Array Value} {nn : Nat} {mm : Sre.M} {dd : Option Addr} {sl : Array (Option Value)} (F : Fr h₀ L s.heap m) (N : News h₀ L s.heap news)
    (hp : s.heap.get? pat = some ⟨.type "re.Pattern", dd, .fields #[pv, fv, .int 3 t3, .none, .none, .ref code, .int 0 t0], sl⟩)
    (hc : s.heap.get? code = some oc) (hcd : oc.data = .seq items nn) (hi : (items.map reRawOf).map (·.toNat) = codeZ) (hs : seekZ x = some mm)
    (q : ∀ h' a1 a2, Fr h₀ L h' m → News h₀ L h' ((a2, matObj x tk pat mm a1) :: (a1, spObj mm) :: news) → (∀ p ∈ news, p.1 < a1) → a1 < a2 → Q (.ref a2) { s with heap := h' }) :
    wpAny (model prog w) A (call (.builtin "re.Pattern.search") [.ref pat, .str x tk]) Q E s := by
  refine wpAny_call_entry slot_pat_search ⟨_, hp, rfl⟩ entry_pat_search ?_ (args_pat_search _ _)
  unfold Builtin.«re.Pattern.search»
  have hm : ∃ k m', drv k (startZ x) = some m' ∧ k ≤ 2 ^ 64 ∧ okM m' = true ∧ m' = mm := by
    unfold seekZ at hs
    cases e : drv 40 (startZ x) with
    | none => rw [e] at hs; cases hs
    | some m' =>
      rw [e] at hs
      dsimp only at hs
      by_cases hk : okM m' = true
      · rw [if_pos hk] at hs; cases hs; exact ⟨40, _, e, by decide, hk, rfl⟩
      · rw [if_neg hk] at hs; cases hs
  obtain ⟨k, m', hd, hk, hok, rfl⟩ := hm
  unfold reTarget
  refine wpAny_bind (wpAny_bind (wpAny_of_eq (show reNamed "re.Pattern.search" "search" ["string", "pos", "endpos"] 1 [.str x tk] [] = pure [some (.str x tk), none, none] from rfl) ?_))
  refine wpAny_bind (wpAny_pure ?_)
  refine wpAny_bind (wpAny_pure ?_)
  refine wpAny_bind (fields_wp hp rfl ?_)
  refine wpAny_bind (m := reTextOf (.str x tk)) ?_
  unfold reTextOf
  refine wpAny_bind (wpAny_pure (wpAny_pure ?_))
  dsimp only
  rw [if_neg (by exact Bool.false_ne_true), if_neg (by exact Bool.false_ne_true)]
  refine wpAny_bind (wpAny_of_eq (show reNoCollectionInside (.str x tk) 0 = pure () from rfl) ?_)
  refine wpAny_bind (rawItems_wp hc hcd ?_)
  refine wpAny_pure ?_
  unfold reAnswer
  rw [hi]
  refine wpAny_bind (toEnd_wp (m := startZ x) hd hk hok ?_)
  dsimp only
  refine wpAny_bind (m := reNewMatch (.ref pat) (.str x tk) 3 (min (Int.toNat 0) x.cps.size) (min (2 ^ 63 - 1 : Int).toNat x.cps.size) m') ?_
  have hw : wrongM 3 m' = false := by
    unfold okM at hok
    cases e : wrongM 3 m' with
    | false => rfl
    | true => rw [e] at hok; simp at hok
  unfold reNewMatch
  dsimp only
  refine wpAny_ite (PySem.W.ite_neg (fun h => Bool.false_ne_true (hw.symm.trans h)) ?_)
  refine wpAny_bind (newTuple_N F N (fun h1 F1 N1 => ?_) (by have := spans_len m'; show (allSpans m').length ≤ sizeLine; rw [this]; decide))
  refine wpAny_newObj_type ?_ (by show 6 ≤ sizeLine + 2; decide)
  refine wpAny_pure ⟨_, rfl, ?_⟩
  have l1 : ∀ p ∈ news, p.1 < s.heap.objs.size := fun p hp => Heap.lt_size (N p hp).1
  have lt : s.heap.objs.size < h1.objs.size := Heap.lt_size (N1 _ (.head _)).1
  exact q _ _ _ (F1.push _) (N1.push F1 _) l1 lt
theorem group_wp {a a1 pat : Addr} {x : PySem.Str} {tk : Tok} {mm : Sre.M} {g : Int} {tg : Tok} {b e : Int} (N : News h₀ L s.heap news) (hm : (a, matObj x tk pat mm a1) ∈ news) (hm1 : (a1, spObj mm) ∈ news)
    (h0 : 0 ≤ g) (h3 : g ≤ 3) (hb : ((allSpans mm).map reRawOf).getD (2 * g.toNat) (-1) = b) (he : ((allSpans mm).map reRawOf).getD (2 * g.toNat + 1) (-1) = e)
    (q0 : (b < 0 ∨ e < 0) → Q .none s) (q1 : ¬ (b < 0 ∨ e < 0) → (⟨x.cps.extract b.toNat e.toNat⟩ : PySem.Str).length ≤ sizeLine ∧ ∀ t k, Q (.str ⟨x.cps.extract b.toNat e.toNat⟩ t) { s with toks := k }) :
    wpAny (model prog w) A (call (.builtin "re.Match.group") [.ref a, .int g tg]) Q E s := by
  refine wpAny_call_entry slot_mat_group ⟨_, (N _ hm).1, rfl⟩ entry_mat_group ?_ (args_mat_group _ _)
  unfold Builtin.«re.Match.group»
  refine wpAny_bind (wpAny_of_eq (show noKeywords "Match.group" ⟨[.ref a, .int g tg], []⟩ = pure () from rfl) ?_)
  dsimp only
  unfold reFound
  refine wpAny_bind (wpAny_bind (fields_wp (N _ hm).1 rfl (wpAny_bind (rawItems_wp (N _ hm1).1 rfl (wpAny_pure ?_)))))
  have hsz : ((allSpans mm).toArray.map reRawOf).size = 8 := by rw [Array.size_map, List.size_toArray, spans_len]
  refine wpAny_bind (m := reGroupNumber _ (.int g tg)) ?_
  unfold reGroupNumber
  refine wpAny_bind (m := asInt? (.int g tg)) (wpAny_pure ?_)
  show wpAny _ _ (asIndex (.int g tg) >>= _) _ _ _
  refine wpAny_bind ?_
  unfold asIndex
  refine wpAny_bind (m := asInt? (.int g tg)) (wpAny_pure (wpAny_pure ?_))
  dsimp only
  rw [hsz]
  rw [if_neg (by simp only [Bool.or_eq_true, decide_eq_true_eq, not_or]; constructor <;> omega)]
  refine wpAny_pure ?_
  unfold reGroupText
  dsimp only
  have ge : ∀ i, ((allSpans mm).toArray.map reRawOf).getD i (-1) = ((allSpans mm).map reRawOf).getD i (-1) := fun i => by simp [Array.getD_eq_getD_getElem?, List.getD_eq_getElem?_getD]
  rw [ge, ge, hb, he]
  by_cases hbe : b < 0 ∨ e < 0
  · rw [if_pos (by simpa using hbe)]
    exact wpAny_bind (wpAny_pure (wpAny_pure ⟨_, rfl, q0 hbe⟩))
  · rw [if_neg (by simpa using hbe)]
    obtain ⟨hl, hq⟩ := q1 hbe
    refine wpAny_bind ?_
    refine wpAny_bind (m := reTextOf (.str x tk)) ?_
    unfold reTextOf
    refine wpAny_bind (wpAny_pure (wpAny_pure ?_))
    show wpAny _ _ (mkStr ⟨x.cps.extract b.toNat e.toNat⟩) _ _ _
    exact wpAny_mkStr (wpAny_pure ⟨_, rfl, hq _ _⟩) hl
theorem truthy_mat {a a1 pat : Addr} {x : PySem.Str} {tk : Tok} {mm : Sre.M} {Q : Bool → Shared → Prop} (N : News h₀ L s.heap news) (hm : (a, matObj x tk pat mm a1) ∈ news) (q : Q true s) : wpAny (model prog w) A (truthy (.ref a)) Q E s := by
  have hT : s.TypeIs (.ref a) "re.Match" := ⟨_, (N _ hm).1, rfl⟩
  unfold truthy
  first
    | refine wpAny_bind (wpAny_callSpecial?_none (name := Str.ofString "__bool__") hT noBool_mat ?_)
    | refine wpAny_bind (wpAny_pure (wpAny_bind (wpAny_callSpecial?_none (name := Str.ofString "__bool__") hT noBool_mat ?_)))
  first
    | refine wpAny_bind (wpAny_specialOf (name := Str.ofString "__len__") hT noLen_mat ?_)
    | refine wpAny_bind (wpAny_pure (wpAny_bind (wpAny_specialOf (name := Str.ofString "__len__") hT noLen_mat ?_)))
  exact wpAny_pure q
theorem method_mat {a a1 pat : Addr} {x : PySem.Str} {tk : Tok} {mm : Sre.M} {pl : Sem Bool} {Q : Value × List Value → Shared → Prop} (N : News h₀ L s.heap news) (hm : (a, matObj x tk pat mm a1) ∈ news) (q : Q (.builtin "re.Match.group", [.ref a]) s) :
    wpAny (model prog w) A (getMethod (.ref a) (Str.ofString "group") pl) Q E s :=
  getMethod_builtin ⟨_, (N _ hm).1, rfl⟩ plain_mat slot_mat_group type_mat_group (fun b hb => by cases hb; exact ⟨_, (N _ hm).1, rfl⟩) q
theorem method_pat {pat : Addr} {o : Obj} {pl : Sem Bool} {Q : Value × List Value → Shared → Prop} (ho : s.heap.get? pat = some o) (hc : o.cls = .type "re.Pattern") (hd : o.dict = none) (q : Q (.builtin "re.Pattern.search", [.ref pat]) s) :
    wpAny (model prog w) A (getMethod (.ref pat) (Str.ofString "search") pl) Q E s :=
  getMethod_builtin ⟨_, ho, hc⟩ plain_pat slot_pat_search type_pat_search (fun b hb => by cases hb; exact ⟨_, ho, hd⟩) q
end
end Mine
end
/- part Fp -/
section
set_option Elab.async false
namespace Mine
def parseRun (resp : PySem.Str) : Nat → Int → PySem.Str → Option PySem.Str
  | 0, _, _ => none
  | n + 1, i, d =>
    if i < (resp.length : Int) then
      if (Txt.item resp i == ("\"" : PySem.Str)) = true then
        if (resp.length : Int) ≤ i + 1 then some d
        else if (Txt.item resp (i + 1) != ("\"" : PySem.Str)) = true then some d
        else parseRun resp n (i + 1 + 1) (d ++ Txt.item resp i)
      else parseRun resp n (i + 1) (d ++ Txt.item resp i)
    else some d
structure ParI (resp r : PySem.Str) (i : Int) (d : PySem.Str) : Prop where
  run : ∃ n, parseRun resp n i d = some r
theorem ParI.brk1 {resp r : PySem.Str} {i : Int} {d : PySem.Str} (h : ParI resp r i d) (h1 : i < (resp.length : Int)) (h2 : (Txt.item resp i == ("\"" : PySem.Str)) = true) (h3 : (resp.length : Int) ≤ i + 1) : d = r := by
  obtain ⟨n, h⟩ := h
  cases n with
  | zero => cases h
  | succ n => unfold parseRun at h; rw [if_pos h1, if_pos h2, if_pos h3] at h; exact Option.some.inj h
theorem ParI.brk2 {resp r : PySem.Str} {i : Int} {d : PySem.Str} (h : ParI resp r i d) (h1 : i < (resp.length : Int)) (h2 : (Txt.item resp i == ("\"" : PySem.Str)) = true) (h3 : ¬ (resp.length : Int) ≤ i + 1) (h4 : (Txt.item resp (i + 1) != ("\"" : PySem.Str)) = true) : d = r := by
  obtain ⟨n, h⟩ := h
  cases n with
  | zero => cases h
  | succ n => unfold parseRun at h; rw [if_pos h1, if_pos h2, if_neg h3, if_pos h4] at h; exact Option.some.inj h
theorem ParI.fin {resp r : PySem.Str} {i : Int} {d : PySem.Str} (h : ParI resp r i d) (h1 : ¬ i < (resp.length : Int)) : d = r := by
  obtain ⟨n, h⟩ := h
  cases n with
  | zero => cases h
  | succ n => unfold parseRun at h; rw [if_neg h1] at h; exact Option.some.inj h
theorem ParI.next1 {resp r : PySem.Str} {i : Int} {d : PySem.Str} (h : ParI resp r i d) (h1 : i < (resp.length : Int)) (h2 : (Txt.item resp i == ("\"" : PySem.Str)) = true) (h3 : ¬ (resp.length : Int) ≤ i + 1) (h4 : (Txt.item resp (i + 1) != ("\"" : PySem.Str)) = false) : ParI resp r (i + 1 + 1) (d ++ Txt.item resp i) := by
  obtain ⟨n, h⟩ := h
  cases n with
  | zero => cases h
  | succ n => unfold parseRun at h; rw [if_pos h1, if_pos h2, if_neg h3, if_neg (by rw [h4]; exact Bool.false_ne_true)] at h; exact ⟨n, h⟩
theorem ParI.next2 {resp r : PySem.Str} {i : Int} {d : PySem.Str} (h : ParI resp r i d) (h1 : i < (resp.length : Int)) (h2 : (Txt.item resp i == ("\"" : PySem.Str)) = false) : ParI resp r (i + 1) (d ++ Txt.item resp i) := by
  obtain ⟨n, h⟩ := h
  cases n with
  | zero => cases h
  | succ n => unfold parseRun at h; rw [if_pos h1, if_neg (by rw [h2]; exact Bool.false_ne_true)] at h; exact ⟨n, h⟩
set_option maxRecDepth 100000 in
set_option maxHeartbeats 4000000 in
theorem sp_parse (w : World) (resp r : PySem.Str) (hl : resp.length ≤ 100) (ha : (Txt.slice resp none (some 3) != ("257" : PySem.Str)) = false) (hb : (Txt.slice resp (some 3) (some 5) != (" \"" : PySem.Str)) = false) (hr : ParI resp r 5 "")
   (t1 : Tok) : Sp 1 w 111 [.str resp t1] (fun v new => ∃ t, v = .str r t ∧ new = []) := by
  k_with "exec While Compare cons nil" => k_while (fun _ i d => 0 ≤ i ∧ d.length ≤ i ∧ ParI resp r i d) (fun _ i d => (100 - i).toNat) "i" "dirname"
  k_with "state" => ((refine ⟨?sa, ?sb, ?sc⟩); (case sc => first | exact hr | exact ParI.next1 (by assumption) (by assumption) (by assumption) (by assumption) (by assumption) | exact ParI.next2 (by assumption) (by assumption) (by assumption)); (case sa => kst_p1); (case sb => kst_p1))
  unfold Sp
  k_fill
  intro mean mg mb dp un cn cs a ccd cl outer A₀ base h₀ L m news s Q E B F X N T hk hd hu hret
  refine wpAny_call ?_
  k_dflt ((refine' code_def ?k1 ?k2 ?k3 ?k4 ?k5 ?kA ?kF ?kK ?k6 ?k7 ?k8 ?k9 ?kB ?_ ?c2 ?c3 ?c4 ?c5; (case kA => exact rfl); (case kF => exact rfl); (case kK => assumption); (case k1 => k_asm); (case k2 => k_asm); (case k3 => k_asm); (case k4 => k_asm); (case k5 => k_asm); (case k6 => k_is); (case k7 => k_is); (case k8 => ktr_room); (case k9 => exact BindsTo.of_eq rfl); (case c5 => decide); (case kB => exact locs rfl); (case c2 => exact rfl); (case c3 => exact rfl); (case c4 => exact rfl); k_whole; intro g1 L1 h' FG' F' N' B' X' T'; have hMk9 := kstMark; (try dsimp only); (try k_lift B'); (try k_fold)))
  k_steps
  all_goals (first
    | (have hf := ParI.brk1 (by assumption) (by assumption) (by assumption) (by assumption); skip)
    | (have hf := ParI.brk2 (by assumption) (by assumption) (by assumption) (by assumption) (by assumption); skip)
    | (have hf := ParI.fin (by assumption) (by assumption); skip))
  all_goals (rename Fr h₀ L _ m => F9; rename News h₀ L _ _ => N9; exact sp_end0 hret ⟨_, congrArg (Value.str · _) hf, rfl⟩ F9 (cb_drop N9 (by repeat' (first | exact sub_rfl | refine sub_cons ?_))))
  k_with_none
end Mine
end
/- part Frgb -/
section
set_option Elab.async false
namespace Mine
local macro_rules | `(tactic| walk_at "call ref") => `(tactic| (k_here; (with_reducible show wpAny _ _ (call (Value.ref 65) [Value.float _ _, Value.float _ _, Value.float _ _]) _ _ _); k_dflt ((refine sp_useA (sp_v _ _ _ _ _ _ _) ?_)); (intro v9 new9 h9 tk9 P9 F9 N9 l9; obtain ⟨t9, e9, e8⟩ := P9; subst e9; subst e8; clear l9; simp only [List.nil_append] at N9; (try dsimp only); (try k_fold))))
set_option maxRecDepth 100000 in
set_option maxHeartbeats 0 in
theorem sp_rgb (w : World) (h : UInt64) (t1 t2 t3 : Tok) : Sp 2 w 58 [.float h t1, .float 4602678819172646912 t2, .float 4607182418800017408 t3] (IsT3 (rgbP h)) := by
  unfold Sp
  k_fill
  intro mean mg mb dp un cn cs a ccd cl outer A₀ base h₀ L m news s Q E B F X N T hk hd hu hret
  refine wpAny_call ?_
  k_dflt cell_enter
  k_steps
  all_goals (try (exfalso; exact absurd (by assumption) (show ¬ (Float64.cmp 4607182418800017408 0 == some Ordering.eq) = true by decide +kernel)))
  all_goals (try (exfalso; exact absurd (by assumption) (show ¬ (Float64.cmp 4602678819172646912 4602678819172646912 == some Ordering.lt || Float64.cmp 4602678819172646912 4602678819172646912 == some Ordering.eq) = false by decide +kernel)))
  all_goals (first | exact sp_end1 hret IsT3.mk' (by assumption) (by assumption) (by assumption) | skip)
end Mine
end
/- part Zf -/
section
open PySem.Calls PySem.Builtin.Re
set_option Elab.async false
set_option maxRecDepth 100000
namespace Mine
def grpM (x : PySem.Str) (mm : Sre.M) (g : Nat) : Option PySem.Str :=
  if ((allSpans mm).map reRawOf).getD (2 * g) (-1) < 0 ∨ ((allSpans mm).map reRawOf).getD (2 * g + 1) (-1) < 0 then none
  else some ⟨x.cps.extract (((allSpans mm).map reRawOf).getD (2 * g) (-1)).toNat (((allSpans mm).map reRawOf).getD (2 * g + 1) (-1)).toNat⟩
section
variable {prog : Program} {w : World} {A : Around} {E : Value → Shared → Prop} {s : Shared} {Q : Value → Shared → Prop} {h₀ : Heap} {L : Addr} {m : PySem.Str → Option Value} {news : List (Addr × Obj)}
theorem group_some {a a1 pat : Addr} {x T : PySem.Str} {tk : Tok} {mm : Sre.M} {g : Int} {tg : Tok} (N : News h₀ L s.heap news) (hm : (a, matObj x tk pat mm a1) ∈ news) (hm1 : (a1, spObj mm) ∈ news)
    (h0 : 0 ≤ g) (h3 : g ≤ 3) (hg : grpM x mm g.toNat = some T) (hl : T.length ≤ 640) (q : ∀ t k, Q (.str T t) { s with toks := k }) :
    wpAny (model prog w) A (call (.builtin "re.Match.group") [.ref a, .int g tg]) Q E s := by
  refine group_wp N hm hm1 h0 h3 rfl rfl (fun hb => ?_) (fun hb => ?_)
  · unfold grpM at hg; rw [if_pos hb] at hg; cases hg
  · unfold grpM at hg; rw [if_neg hb] at hg; cases hg
    exact ⟨Nat.le_trans hl (by decide), q⟩
theorem group_none {a a1 pat : Addr} {x : PySem.Str} {tk : Tok} {mm : Sre.M} {g : Int} {tg : Tok} (N : News h₀ L s.heap news) (hm : (a, matObj x tk pat mm a1) ∈ news) (hm1 : (a1, spObj mm) ∈ news)
    (h0 : 0 ≤ g) (h3 : g ≤ 3) (hg : grpM x mm g.toNat = none) (q : Q .none s) :
    wpAny (model prog w) A (call (.builtin "re.Match.group") [.ref a, .int g tg]) Q E s := by
  refine group_wp N hm hm1 h0 h3 rfl rfl (fun hb => q) (fun hb => ?_)
  unfold grpM at hg; rw [if_neg hb] at hg; cases hg
theorem method_patK {K : Frag} {pat : Addr} {o : Obj} {pl : Sem Bool} {Q : Value × List Value → Shared → Prop} (F : Fr h₀ L s.heap m) (X : K.In h₀) (hl : K.lookup pat = some o) (hc : o.cls = .type "re.Pattern") (hd : o.dict = none) (q : Q (.builtin "re.Pattern.search", [.ref pat]) s) :
    wpAny (model prog w) A (getMethod (.ref pat) (Str.ofString "search") pl) Q E s := method_pat ((X.keeps F.keep) _ _ hl) hc hd q
theorem search_wpK {K : Frag} {pat code : Addr} {x : PySem.Str} {tk t0 t3 : Tok} {pv fv : Value} {oc : Obj} {items : Array Value} {nn : Nat} {mm : Sre.M} {dd : Option Addr} {sl : Array (Option Value)} (F : Fr h₀ L s.heap m) (X : K.In h₀) (N : News h₀ L s.heap news)
    (hp : K.lookup pat = some ⟨.type "re.Pattern", dd, .fields #[pv, fv, .int 3 t3, .none, .none, .ref code, .int 0 t0], sl⟩)
    (hc : K.lookup code = some oc) (hcd : oc.data = .seq items nn) (hi : (items.map reRawOf).map (·.toNat) = codeZ) (hs : seekZ x = some mm)
    (q : ∀ h' a1 a2, Fr h₀ L h' m → News h₀ L h' ((a2, matObj x tk pat mm a1) :: (a1, spObj mm) :: news) → (∀ p ∈ news, p.1 < a1) → a1 < a2 → Q (.ref a2) { s with heap := h' }) :
    wpAny (model prog w) A (call (.builtin "re.Pattern.search") [.ref pat, .str x tk]) Q E s :=
  search_wp F N ((X.keeps F.keep) _ _ hp) ((X.keeps F.keep) _ _ hc) hcd hi hs q
end
/-- what the text of a zone says: is there a minus, the hours, the minutes -/
def zoneFacts (x : PySem.Str) : Option (Bool × Int × Int) := match seekZ x with
  | none => none
  | some m => match grpM x m 2, grpM x m 3 with
    | some a, some b => match PySem.intText? a, PySem.intText? b with
      | some h, some k => if Nat.ble a.length 600 && (Nat.ble b.length 600 && (Nat.ble 1 b.length && ((match grpM x m 1 with | some c => Nat.ble c.length 600 | none => true) && (Nat.ble h.toNat 99 && Nat.ble k.toNat 99)))) then some ((match grpM x m 1 with | some c => c == Str.ofString "-" | none => false), h, k) else none
      | _, _ => none
    | _, _ => none
/-- no name of UTC -/
def outZ (x : PySem.Str) : Bool := !(Str.ofString "GMT" == x) && (!(Str.ofString "UTC" == x) && (!(Str.ofString "UT" == x) && !(Str.ofString "Z" == x)))
theorem nsIn_out {K : Frag} {a : Addr} {x : PySem.Str} {c h1 h2 h3 h4 : _} {dd : Option Addr} {n : Nat} {sl : Array (Option Value)} {t1 t2 t3 t4 : Tok}
    (hl : K.lookup a = some ⟨c, dd, .dict #[⟨h1, .str (Str.ofString "GMT") t1, .none⟩, ⟨h2, .str (Str.ofString "UTC") t2, .none⟩, ⟨h3, .str (Str.ofString "UT") t3, .none⟩, ⟨h4, .str (Str.ofString "Z") t4, .none⟩] n, sl⟩) (ho : outZ x = true) : nsIn K a x = some none := by
  unfold outZ at ho
  simp only [Bool.and_eq_true, Bool.not_eq_true'] at ho
  obtain ⟨a1, a2, a3, a4⟩ := ho
  unfold nsIn
  rw [hl]
  simp [Value.isStr, a1, a2, a3, a4]
  exact ⟨rfl, rfl, rfl, rfl⟩
theorem zone_out {P : Params} {x : PySem.Str} (ho : outZ x = true) : nsIn (hd.heap_39 P) 32 x = some none := nsIn_out rfl ho
end Mine
end
/- part Ftz -/
section
open PySem.Calls
set_option Elab.async false
namespace Mine
set_option maxRecDepth 100000 in
set_option maxHeartbeats 0 in
theorem sp_tz (w : World) (x : PySem.Str) (mm : Sre.M) (T2 T3 : PySem.Str) (hh kk : Int) (neg : Bool) (ho : outZ x = true) (hs : seekZ x = some mm) (e2 : grpM x mm 2 = some T2) (e3 : grpM x mm 3 = some T3)
    (e1 : (∃ T1, grpM x mm 1 = some T1 ∧ T1.length ≤ 640 ∧ (T1 == Str.ofString "-") = neg) ∨ (grpM x mm 1 = none ∧ neg = false))
    (i2 : PySem.intText? T2 = some hh) (i3 : PySem.intText? T3 = some kk) (l2 : T2.length ≤ 640) (l3 : T3.length ≤ 640) (n3 : 1 ≤ T3.length) (b1 : 0 ≤ hh) (b2 : hh ≤ 99) (b3 : 0 ≤ kk) (b4 : kk ≤ 99) (t1 : Tok) :
    Sp 1 w 44 [.str x t1] (fun v new => ∃ t, v = .int (if neg = true then -(3600 * hh + 60 * kk) else 3600 * hh + 60 * kk) t ∧ new = []) := by
  have hzo := zone_out (P := w.params) ho
  k_with "compareOp In str ref" => (k_here; k_dflt (refine' topIn_K ?F ?X ?l ?k hzo ?o ?_; (case F => k_asm); (case X => k_asm); (case l => k_is); (case k => k_keys); (case o => decide)))
  k_with "getMethod ref" => (k_here; k_dflt (refine' method_patK ?F ?X ?l ?c ?d ?_; (case F => k_asm); (case X => k_asm); (case l => k_is); (case c => rfl); (case d => rfl)))
  k_with "call builtin:re.Pattern.search" => (k_here; k_dflt (refine' search_wpK ?F ?X ?N ?l ?l2 ?l3 ?l4 hs ?_; (case F => k_asm); (case X => k_asm); (case N => k_asm); (case l => k_is); (case l2 => k_is); (case l3 => rfl); (case l4 => decide +kernel)); intro h9 a9 c9 F9 N9 lt9 lu9; (try k_fold))
  k_with "truthy ref" => (k_here; k_dflt (refine' truthy_mat ?N ?m ?_; (case N => k_asm); (case m => k_mem)))
  k_with "getMethod ref" => (k_here; k_dflt (refine' method_mat ?N ?m ?_; (case N => k_asm); (case m => k_mem)))
  k_with "call builtin:re.Match.group" => (k_here; k_dflt (first | (refine' group_some ?N ?m ?m1 ?z0 ?z3 ?g ?l ?_; (case N => k_asm); (case m => k_mem); (case m1 => k_mem); (case z0 => decide); (case z3 => decide); (case g => first | exact e2 | exact e3 | exact e1); (case l => with_reducible assumption); intro _ _) | (refine' group_none ?N ?m ?m1 ?z0 ?z3 ?g ?_; (case N => k_asm); (case m => k_mem); (case m1 => k_mem); (case z0 => decide); (case z3 => decide); (case g => exact e1))))
  k_with "call type:int" => (k_here; (with_reducible show wpAny _ _ (call (Value.type "int") [Value.str _ _]) _ _ _); (refine' KIN.call_text ?i ?l ?_; (case i => with_reducible assumption); (case l => with_reducible assumption)))
  unfold Sp
  k_fill
  intro mean mg mb dp un cn cs a ccd cl outer A₀ base h₀ L m news s Q E B F X N T hk hd hu hret
  refine wpAny_call ?_
  k_dflt ((refine' code_def ?k1 ?k2 ?k3 ?k4 ?k5 ?kA ?kF ?kK ?k6 ?k7 ?k8 ?k9 ?kB ?_ ?c2 ?c3 ?c4 ?c5; (case kA => exact rfl); (case kF => exact rfl); (case kK => assumption); (case k1 => k_asm); (case k2 => k_asm); (case k3 => k_asm); (case k4 => k_asm); (case k5 => k_asm); (case k6 => k_is); (case k7 => k_is); (case k8 => ktr_room); (case k9 => exact BindsTo.of_eq rfl); (case c5 => decide); (case kB => exact locs rfl); (case c2 => exact rfl); (case c3 => exact rfl); (case c4 => exact rfl); k_whole; intro g1 L1 h' FG' F' N' B' X' T'; have hMk9 := kstMark; (try dsimp only); (try k_lift B'); (try k_fold)))
  rcases e1 with ⟨T1, e1, l1, c1⟩ | ⟨e1, rfl⟩
  all_goals k_steps
  k_with_none
  all_goals (try (exfalso; have z3 : ((T3.length : Nat) : Int) = 0 := (by with_reducible assumption); omega))
  all_goals (rename Fr h₀ L _ m => F9; rename News h₀ L _ _ => N9)
  · have e : neg = true := c1.symm.trans (by with_reducible assumption)
    exact sp_end0 hret ⟨_, congrArg (Value.int · _) (if_pos e).symm, rfl⟩ F9 (cb_drop N9 (by repeat' (first | exact sub_rfl | refine sub_cons ?_)))
  · have e : neg = false := c1.symm.trans (by with_reducible assumption)
    exact sp_end0 hret ⟨_, congrArg (Value.int · _) (if_neg (by rw [e]; exact Bool.false_ne_true)).symm, rfl⟩ F9 (cb_drop N9 (by repeat' (first | exact sub_rfl | refine sub_cons ?_)))
  · exact sp_end0 hret ⟨_, congrArg (Value.int · _) (if_neg Bool.false_ne_true).symm, rfl⟩ F9 (cb_drop N9 (by repeat' (first | exact sub_rfl | refine sub_cons ?_)))
/-- offset_from_tz_string upon a text that is no name of UTC -/
theorem sp_tzF (w : World) (x : PySem.Str) (neg : Bool) (hh kk : Int) (ho : outZ x = true) (hf : zoneFacts x = some (neg, hh, kk)) (b1 : 0 ≤ hh) (b3 : 0 ≤ kk) (t1 : Tok) :
    Sp 1 w 44 [.str x t1] (fun v new => ∃ t, v = .int (if neg = true then -(3600 * hh + 60 * kk) else 3600 * hh + 60 * kk) t ∧ new = []) := by
  unfold zoneFacts at hf
  cases es : seekZ x with
  | none => rw [es] at hf; cases hf
  | some mm =>
    rw [es] at hf
    dsimp only at hf
    cases e2 : grpM x mm 2 with
    | none => rw [e2] at hf; cases hf
    | some T2 =>
      cases e3 : grpM x mm 3 with
      | none => rw [e2, e3] at hf; cases hf
      | some T3 =>
        rw [e2, e3] at hf
        dsimp only at hf
        cases i2 : PySem.intText? T2 with
        | none => rw [i2] at hf; cases hf
        | some h2 =>
          cases i3 : PySem.intText? T3 with
          | none => rw [i2, i3] at hf; cases hf
          | some h3 =>
            rw [i2, i3] at hf
            dsimp only at hf
            cases e1 : grpM x mm 1 with
            | none =>
              rw [e1] at hf
              dsimp only at hf
              split at hf
              · rename_i hc
                simp only [Bool.and_eq_true] at hc
                obtain ⟨c1, c2, c3, -, c5, c6⟩ := hc
                have d1 := Nat.le_of_ble_eq_true c1
                have d2 := Nat.le_of_ble_eq_true c2
                have d3 := Nat.le_of_ble_eq_true c3
                have d5 := Nat.le_of_ble_eq_true c5
                have d6 := Nat.le_of_ble_eq_true c6
                cases hf
                exact sp_tz w x mm T2 T3 _ _ _ ho es e2 e3 (.inr ⟨e1, rfl⟩) i2 i3 (by omega) (by omega) d3 b1 (by omega) b3 (by omega) t1
              · cases hf
            | some T1 =>
              rw [e1] at hf
              dsimp only at hf
              split at hf
              · rename_i hc
                simp only [Bool.and_eq_true] at hc
                obtain ⟨c1, c2, c3, c4, c5, c6⟩ := hc
                have d1 := Nat.le_of_ble_eq_true c1
                have d2 := Nat.le_of_ble_eq_true c2
                have d3 := Nat.le_of_ble_eq_true c3
                have d4 := Nat.le_of_ble_eq_true c4
                have d5 := Nat.le_of_ble_eq_true c5
                have d6 := Nat.le_of_ble_eq_true c6
                cases hf
                exact sp_tz w x mm T2 T3 _ _ _ ho es e2 e3 (.inl ⟨T1, e1, by omega, rfl⟩) i2 i3 (by omega) (by omega) d3 b1 (by omega) b3 (by omega) t1
              · cases hf
end Mine
end
/- part Ftz0 -/
section
open PySem.Calls
set_option Elab.async false
namespace Mine
set_option maxRecDepth 100000 in
set_option maxHeartbeats 0 in
theorem sp_tz0 (w : World) (x : PySem.Str) (hx : nsIn (hd.heap_39 w.params) 32 x = some (some .none)) (t1 : Tok) :
    Sp 1 w 44 [.str x t1] (fun v new => ∃ t, v = .int 0 t ∧ new = []) := by
  k_with "compareOp In str ref" => (k_here; k_dflt (refine' topIn_K ?F ?X ?l ?k hx ?o ?_; (case F => k_asm); (case X => k_asm); (case l => k_is); (case k => k_keys); (case o => decide)))
  unfold Sp
  k_fill
  intro mean mg mb dp un cn cs a ccd cl outer A₀ base h₀ L m news s Q E B F X N T hk hd hu hret
  refine wpAny_call ?_
  k_dflt ((refine' code_def ?k1 ?k2 ?k3 ?k4 ?k5 ?kA ?kF ?kK ?k6 ?k7 ?k8 ?k9 ?kB ?_ ?c2 ?c3 ?c4 ?c5; (case kA => exact rfl); (case kF => exact rfl); (case kK => assumption); (case k1 => k_asm); (case k2 => k_asm); (case k3 => k_asm); (case k4 => k_asm); (case k5 => k_asm); (case k6 => k_is); (case k7 => k_is); (case k8 => ktr_room); (case k9 => exact BindsTo.of_eq rfl); (case c5 => decide); (case kB => exact locs rfl); (case c2 => exact rfl); (case c3 => exact rfl); (case c4 => exact rfl); k_whole; intro g1 L1 h' FG' F' N' B' X' T'; have hMk9 := kstMark; (try dsimp only); (try k_lift B'); (try k_fold)))
  k_steps
  k_with_none
  all_goals (rename Fr h₀ L _ m => F9; rename News h₀ L _ _ => N9)
  all_goals exact sp_end0 hret ⟨_, rfl, rfl⟩ F9 N9
theorem nsIn_in {K : Frag} {a : Addr} {x : PySem.Str} {c h1 h2 h3 h4 : _} {dd : Option Addr} {n : Nat} {sl : Array (Option Value)} {t1 t2 t3 t4 : Tok}
    (hl : K.lookup a = some ⟨c, dd, .dict #[⟨h1, .str (Str.ofString "GMT") t1, .none⟩, ⟨h2, .str (Str.ofString "UTC") t2, .none⟩, ⟨h3, .str (Str.ofString "UT") t3, .none⟩, ⟨h4, .str (Str.ofString "Z") t4, .none⟩] n, sl⟩) (ho : outZ x = false) : nsIn K a x = some (some .none) := by
  unfold outZ at ho
  unfold nsIn
  rw [hl]
  cases a1 : (Str.ofString "GMT" == x) <;> cases a2 : (Str.ofString "UTC" == x) <;> cases a3 : (Str.ofString "UT" == x) <;> cases a4 : (Str.ofString "Z" == x) <;> simp [a1, a2, a3, a4] at ho <;> simp [Value.isStr, a1, a2, a3, a4]
theorem zone_in {P : Params} {x : PySem.Str} (ho : outZ x = false) : nsIn (hd.heap_39 P) 32 x = some (some .none) := nsIn_in rfl ho
theorem sp_tzN (w : World) (x : PySem.Str) (hx : outZ x = false) (t1 : Tok) : Sp 1 w 44 [.str x t1] (fun v new => ∃ t, v = .int 0 t ∧ new = []) := sp_tz0 w x (zone_in hx) t1
end Mine
end
/- part Ba -/
section
open PySem.Calls PySem.Builtin.Bytes
set_option Elab.async false
set_option maxRecDepth 100000
namespace Mine
theorem ba_mro : mroOf (.type "bytearray") = pure [.type "bytearray", .type "object"] := by rw [mroOf_type]; kernel_rfl
theorem ba_lookup_new : typeLookup (.type "bytearray") "__new__" = pure (some (.builtin "bytearray.__new__")) := by rw [typeLookup_type, builtinLookup_eq_fast]; kernel_rfl
theorem ba_slot_init : Slot "bytearray" "__init__" "bytearray.__init__" :=
  .of (owner := "bytearray") (n := "__init__") (by rw [typeLookup_type, builtinLookup_eq_fast]; kernel_rfl) (by decide +kernel) (by decide +kernel) (by decide +kernel)
    (by first | exact .inl (by decide +kernel) | exact .inr (by decide +kernel)) (by rw [isSubtype_type]; kernel_rfl)
theorem ba_called : TypeCalled "bytearray" "bytearray.__new__" "bytearray.__init__" :=
  ⟨by decide +kernel, by decide +kernel, ⟨_, _, ba_mro⟩, madeBy_type ba_mro ba_lookup_new (by decide +kernel), by decide +kernel, by rw [isSubtype_type]; kernel_rfl, ba_slot_init⟩
theorem ba_typeCall (a : Value) : checkTypeCall "bytearray" ⟨[a], []⟩ = pure () := by kernel_rfl
theorem ba_newCall (a : Value) : checkBuiltinCall "bytearray.__new__" ⟨[.type "bytearray", a], []⟩ = pure () := by kernel_rfl
theorem ba_plain : plainId "bytearray.__new__" = true := by decide +kernel
theorem ba_plain_init : plainId "bytearray.__init__" = true := by decide +kernel
theorem ba_entry : entryFor table "bytearray.__new__" = some Builtin.«list.__new__» := entryFor_alias (id' := "list.__new__") (by kernel_rfl) (by decide +kernel) (by decide +kernel) (by kernel_rfl)
theorem ba_entry_init : entryFor table "bytearray.__init__" = some Builtin.«bytearray.__init__» := by first | exact entryFor_of_fast (by kernel_rfl) | exact entryFor_of_tree (by kernel_rfl)
theorem ba_args_init (a b : Value) : argsOk "bytearray.__init__" ⟨[a, b], []⟩ := by unfold argsOk; kernel_rfl
theorem ba_slot_set : Slot "bytearray" "__setitem__" "bytearray.__setitem__" :=
  .of (owner := "bytearray") (n := "__setitem__") (by rw [typeLookup_type, builtinLookup_eq_fast]; kernel_rfl) (by decide +kernel) (by decide +kernel) (by decide +kernel)
    (by first | exact .inl (by decide +kernel) | exact .inr (by decide +kernel)) (by rw [isSubtype_type]; kernel_rfl)
theorem ba_entry_set : entryFor table "bytearray.__setitem__" = some Builtin.«bytearray.__setitem__» := by first | exact entryFor_of_fast (by kernel_rfl) | exact entryFor_of_tree (by kernel_rfl)
theorem ba_args_set (a b c : Value) : argsOk "bytearray.__setitem__" ⟨[a, b, c], []⟩ := by unfold argsOk; kernel_rfl
theorem ba_release : typeLookup (.type "bytearray") "__release_buffer__" = pure (some (.builtin "bytearray.__release_buffer__")) := by rw [typeLookup_type, builtinLookup_eq_fast]; kernel_rfl
theorem ba_buffer : typeLookup (.type "bytearray") "__buffer__" = pure (some (.builtin "bytearray.__buffer__")) := by rw [typeLookup_type, builtinLookup_eq_fast]; kernel_rfl
theorem ba_no_bytes : typeLookup (.type "bytearray") "__bytes__" = pure none := by rw [typeLookup_type, builtinLookup_eq_fast]; kernel_rfl
theorem ba_no_index : typeLookup (.type "bytearray") "__index__" = pure none := by rw [typeLookup_type, builtinLookup_eq_fast]; kernel_rfl
theorem ba_sub : isSubtype (.type "bytearray") (.type "bytearray") = pure true := by rw [isSubtype_type]; kernel_rfl
theorem int_index : typeLookup (.type "int") "__index__" = pure (some (.builtin "int.__index__")) := by rw [typeLookup_type, builtinLookup_eq_fast]; kernel_rfl
theorem ba_bind (v : Value) : bindOptional "bytearray.__init__" "bytearray" ["source", "encoding", "errors"] [v] [] = pure [some v, none, none] := by kernel_rfl
end Mine
namespace Mine
open PySem.Builtin
set_option maxRecDepth 1000000 in
set_option maxHeartbeats 4000000 in
theorem owner_ba_new : ("bytearray.__new__".splitOn ".__new__").headD "" = "bytearray" := by simp +decide [String.splitOn, String.splitOnAux]
abbrev baObj (b : Array UInt8) : Obj := { cls := .type "bytearray", data := .bytearray b }
section
variable {prog : Program} {w : World} {A : Around} {E : Value → Shared → Prop} {s : Shared}
theorem code_ba_new (a : Value) {Q₁ : Value → Shared → Prop}
    (h : Q₁ (.ref s.heap.objs.size) { s with heap := s.heap.push (baObj #[]) }) :
    codeAny (model prog w) A (.call (.builtin "bytearray.__new__") ⟨[.type "bytearray", a], []⟩) (wants Q₁ E) s := by
  refine codeAny_of_tree ?_
  show wpAny _ A.in1 (do checkBuiltinCall "bytearray.__new__" ⟨[.type "bytearray", a], []⟩; again (.builtin "bytearray.__new__" ⟨[.type "bytearray", a], []⟩)) _ _ s
  refine wpAny_bind (wpAny_of_eq (ba_newCall a) (wpAny_pure ⟨plainId_quiet ba_plain _, codeAny_builtin_stack ba_entry rfl fun p st => ?_⟩))
  rw [Around.under_plainId ba_plain _]
  have hsub := ba_sub
  have hown := owner_ba_new
  obtain ⟨hp, g, d, tk, os⟩ := s
  simp only [hown]
  wp_walk
  exact h
theorem release_wp {a : Addr} {Q : Bool → Shared → Prop} (hT : s.TypeIs (.ref a) "bytearray") (q : Q false s) : wpAny (model prog w) A (Bytes.ownRelease (.ref a)) Q E s := by
  have key : ∀ x : String, x = "bytearray" → ∀ {Q : Bool → Shared → Prop}, Q true s → wpAny (model prog w) A (isInstance (.ref a) (.type x)) Q E s := fun x hx Q q => by rw [hx]; exact wpAny_isInstance hT ba_sub q
  unfold Bytes.ownRelease Bytes.slotIsOwn
  refine wpAny_bind (wpAny_bind (wpAny_specialOf hT ba_release ?_))
  dsimp only
  split
  · rename_i hx
    exact absurd hx (by decide +kernel)
  · exact key _ (by decide +kernel) (wpAny_pure q)
end
end Mine
end
/- part Bb -/
section
open PySem.Calls PySem.Builtin.Bytes
open PySem.Builtin
set_option Elab.async false
set_option maxRecDepth 1000000
namespace Mine
section
variable {prog : Program} {w : World} {A : Around} {E : Value → Shared → Prop} {s : Shared}
theorem write_wp {a : Addr} {b : Array UInt8} {f : Array UInt8 → Array UInt8} {Q : Unit → Shared → Prop} (ho : s.heap.get? a = some (baObj b)) (hz : (f b).size ≤ 1000)
    (h : ∀ h', h'.get? a = some (baObj (f b)) → Heap.SameBut a s.heap h' → Q () { s with heap := h' }) : wpAny (model prog w) A (Bytes.write (.ref a) f) Q E s := by
  unfold Bytes.write updateBytearray
  have h1 := Heap.get?_update_self (Obj.mapBytearray f) ho rfl
  refine wpAny_bind (wpAny_load ho ?_)
  refine wpAny_bind (wpAny_update ho ?_)
  refine wpAny_lookBehind h1 ?_ (h _ h1 (Heap.SameBut.update ..))
  show (if (f b).size > sizeLine then _ else _) = none
  rw [if_neg]
  have : 1000 ≤ sizeLine := by decide +kernel
  omega
theorem init_wpC {S : Addr} {n : Int} {t : Tok} {Q : Fin → Shared → Prop} (hg : A.guards = some []) (ho : s.heap.get? S = some (baObj #[])) (hn : 0 < n) (hn2 : n ≤ 1000) 
    (h : ∀ h', h'.get? S = some (baObj (Array.replicate n.toNat 0)) → Heap.SameBut S s.heap h' → Q (.done (.ret .none)) { s with heap := h' }) : wpC (model prog w) A (Builtin.«bytearray.__init__» ⟨[.ref S, .int n t], []⟩) Q E s := by
  have hT : s.TypeIs (.ref S) "bytearray" := ⟨_, ho, rfl⟩
  unfold Builtin.«bytearray.__init__»
  refine wpC_first (release_wp hT ?_)
  refine wpC_first (wpAny_of_eq (ba_bind _) ?_)
  refine wpC_first (wpAny_pure ?_)
  refine wpC_first (wpAny_pure ?_)
  refine wpC_bind ?_
  unfold orM
  refine wpC_bind (exported_wpC hg ?_)
  refine wpC_of_any ?_
  show wpAny _ _ (exportsOf (.ref S) >>= _) _ _ _
  unfold exportsOf
  refine wpAny_bind (wpAny_bind (wpAny_load ho (wpAny_pure (wpAny_pure ?_))))
  refine wpC_of_any ?_
  refine wpAny_ite ?_
  rw [if_neg (by decide)]
  refine wpAny_bind (write_wp ho (by decide) fun h1 ho1 hs1 => ?_)
  refine wpAny_bind (m := asStr? (Value.int n t)) (wpAny_bind (wpAny_pure (wpAny_pure ?_)))
  refine wpAny_ite ?_
  rw [if_neg (by decide)]
  refine wpAny_bind (wpAny_pure ?_)
  show wpAny _ _ (specialOf (Value.int n t) (Str.ofString "__index__") >>= _) _ _ _
  refine wpAny_bind (wpAny_specialOf_val (T := "int") (v := Value.int n t) rfl int_index ?_)
  refine wpAny_ite ?_
  rw [if_pos (by rfl)]
  refine wpAny_bind (wpAny_attempt (m := asIndex (Value.int n t)) (wpAny_bind (m := asInt? (Value.int n t)) (wpAny_pure (wpAny_pure ?_))))
  have hf : fitsIndex n = true := by unfold fitsIndex; simp only [Bool.and_eq_true, decide_eq_true_eq]; omega
  show wpAny _ _ (if (!fitsIndex n) = true then _ else _) _ _ _
  rw [hf]
  refine wpAny_ite ?_
  rw [if_neg (by decide)]
  refine wpAny_ite ?_
  rw [if_neg (by omega)]
  refine wpAny_ite ?_
  rw [if_neg (by intro e; have := eq_of_beq e; omega)]
  refine wpAny_ite ?_
  rw [if_neg (by unfold tooLong; have : 1000 ≤ sizeLine := by decide +kernel
                 simp only [gt_iff_lt, decide_eq_true_eq]; omega)]
  refine wpAny_bind (wpAny_rule ?_)
  refine wpAny_ite ?_
  rw [if_pos hn]
  refine wpAny_bind (write_wp ho1 (by rw [Array.size_replicate]; omega) fun h2 ho2 hs2 => ?_)
  exact wpAny_pure (h h2 ho2 (hs1.trans hs2))
theorem codeC_builtin {id : String} {args : Args} {b : Builtin} {R : Result → Shared → Prop} (hl : holdsC (.builtin id args) = false) (hb : entryFor table id = some b)
    (h : wpC (model prog w) (A.under (.builtin id args)) (b args)
      (fun fin s' => match fin with | .done f => R (.ok f) s' | .again c' => c'.quiet = true ∧ codeC (model prog w) A c' R s') (fun e s' => R (.error e) s') s) :
    codeC (model prog w) A (.builtin id args) R s := by
  refine codeC_of_tree hl ?_
  show wpC _ _ (match entryFor table id with | some b => b args | none => unsupported ((withoutEnding? id "#data").getD id)) _ _ s
  rw [hb]; exact h
theorem codeC_call_builtin {id : String} {args : Args} {b : Builtin} {R : Result → Shared → Prop} (hl : holdsC (.builtin id args) = false) (hq : plainId id = true) (hb : entryFor table id = some b)
    (h : wpAny (model prog w) A.in1 (checkBuiltinCall id args) (fun _ s₁ => wpC (model prog w) A.in1 (b args)
      (fun fin s' => match fin with | .done f => R (.ok f) s' | .again c' => c'.quiet = true ∧ codeC (model prog w) A c' R s') (fun e s' => R (.error e) s') s₁)
      (fun e s' => R (.error e) s') s) : codeC (model prog w) A (.call (.builtin id) args) R s := by
  refine codeC_of_tree rfl (wpC_of_any ?_)
  show wpAny _ A.in1 (do checkBuiltinCall id args; again (.builtin id args)) _ _ s
  refine wpAny_bind (wpAny_mono h (fun _ s₁ h₁ => wpAny_pure (And.intro (plainId_quiet hq args) (codeC_builtin hl hb ?_))) fun _ _ h' => h')
  rw [Around.under_plainId hq args]
  exact h₁
theorem call_bytearray {n : Int} {t : Tok} {Q : Value → Shared → Prop} (hg : A.guards = some []) (hn : 0 < n) (hn2 : n ≤ 1000)
    (h : ∀ h', h'.get? s.heap.objs.size = some (baObj (Array.replicate n.toNat 0)) → (∀ b o, s.heap.get? b = some o → h'.get? b = some o) → Q (.ref s.heap.objs.size) { s with heap := h' }) : wpC (model prog w) A (call (.type "bytearray") [.int n t]) Q E s := by
  obtain ⟨c, tl, hmro⟩ := ba_called.mro
  have hmade := ba_called.made
  have hsub := ba_called.sub
  refine wpC_call (codeC_of_tree rfl ?_)
  show wpC _ _ (callAny (.type _) _) _ _ _
  refine wpC_pure ⟨Code.quiet_builtin _ (by decide +kernel), codeC_builtin rfl F.entry_type_call ?_⟩
  rw [Around.under_plain (weight_type_call_type _ _ []) rfl]
  have h1 := ba_called.notType
  have h2 := ba_called.canCreate
  have hct := ba_typeCall (.int n t)
  unfold Builtin.«type.__call__»
  dsimp only
  rw [h1]
  refine wpC_ite ?_
  rw [if_neg (by decide)]
  refine wpC_ite ?_
  rw [if_neg (by rw [h2]; decide)]
  refine wpC_first (wpAny_of_eq hct ?_)
  refine wpC_first (wpAny_of_eq hmro ?_)
  refine wpC_ite ?_
  rw [if_neg (by exact Bool.false_ne_true)]
  refine wpC_first (wpAny_of_eq hmade ?_)
  refine wpC_first (wpAny_pure ?_)
  refine wpC_first (wpAny_holding (wpAny_call (codeAny_mono (code_ba_new (Q₁ := fun v s' => v = .ref s.heap.objs.size ∧ s' = { s with heap := s.heap.push (baObj #[]) }) (E := fun _ _ => False) _ ⟨rfl, rfl⟩) fun r s₁ hr => ?_)))
  cases r with
  | error e => exact hr.elim
  | ok fl =>
    cases fl with
    | ret obj =>
      obtain ⟨rfl, rfl⟩ := hr
      have ho : (s.heap.push (baObj #[])).get? s.heap.objs.size = some (baObj #[]) := Heap.get?_push_size _ rfl
      have hT : ({ s with heap := s.heap.push (baObj #[]) } : Shared).TypeIs (.ref s.heap.objs.size) "bytearray" := ⟨_, ho, rfl⟩
      refine wpC_first (wpAny_isInstance hT ba_sub ?_)
      refine wpC_ite ?_
      rw [if_neg (by decide)]
      refine wpC_bind (wpC_holding ?_)
      unfold callSpecial?
      refine wpC_first (wpAny_specialOf hT ba_slot_init.lookup ?_)
      refine wpC_holding (wpC_first (wpAny_of_eq (ba_slot_init.bind _) ?_))
      refine wpC_bind (wpC_call (codeC_call_builtin rfl ba_slot_init.plain ba_entry_init (ba_slot_init.check _ _ _ _ _ _ _ _ hT (ba_args_init _ _) ?_)))
      refine init_wpC hg ho hn hn2 fun h' ho' hs' => ?_
      refine wpC_pure ?_
      refine wpC_ite ?_
      rw [if_neg (by decide)]
      exact wpC_pure (h h' ho' fun b o e => (hs'.2 b (Nat.ne_of_lt (Heap.lt_size e))).trans (Heap.get?_push_of_some _ e))
    | _ => exact hr.elim
end
end Mine
end
/- part Sc -/
section
open PySem.Calls
open Sem (wp)
set_option Elab.async false
set_option maxRecDepth 100000
namespace Mine
section
variable {prog : Program} {w : World} {A A₀ : Around} {E : Value → Shared → Prop} {s : Shared} {K : Frag} {L : Addr} {h₀ base : Heap} {m mg mb : PySem.Str → Option Value} {news : List (Addr × Obj)} {p : Program} {loose : List PySem.Str} {mean : ExcName → Option Value} {Q : Value → Shared → Prop}
theorem bytearray_K {n : Int} {t : Tok} (F : Fr h₀ L s.heap m) (N : News h₀ L s.heap news) (hg : A.guards = some []) (hn : 0 < n) (hn2 : n ≤ 1000)
    (h : ∀ S h', Fr h₀ L h' m → News h₀ L h' ((S, baObj (Array.replicate n.toNat 0)) :: news) → (∀ p ∈ news, p.1 < S) → Q (.ref S) { s with heap := h' }) : wpC (model prog w) A (call (.type "bytearray") [.int n t]) Q E s :=
  call_bytearray hg hn hn2 fun h' ho hk => h _ h' (F.keeps hk) (fun q hq => by
    cases hq with
    | head => exact ⟨ho, fun e => absurd (e ▸ F.ns.lt) (Nat.lt_irrefl _), F.fresh⟩
    | tail _ hq => exact N.keepsAll hk q hq) fun q hq => Heap.lt_size (N q hq).1
theorem codeC_block {stmts : List Stmt} {env : Env} {R : Result → Shared → Prop}
    (h : wpC (model prog w) A (execs stmts env) (fun f s' => R (.ok f) s') (notedBy (model prog w) A env fun e s' => R (.error e) s') s) : codeC (model prog w) A (.block stmts env) R s := by
  refine codeC_of_tree rfl ?_
  show wpC _ _ (do return Fin.done (← (execs stmts env).onRaise (fun x => do noteFrame x env; theTreesLotGoes x))) _ _ s
  refine wpC_bind (wpC_onRaise (wpC_mono h (fun f s' h' => wpC_pure h') fun _ _ h' => wpC_of_any (wpAny_bind (wpAny_mono h' (fun _ _ e => wpAny_theTreesLotGoes e) fun _ _ e => e))))
end
section
variable {prog : Program} {w : World} {A₀ A : Around} {s : Shared} {base h₀ : Heap} {outer : List Env} {L : Addr} {m : PySem.Str → Option Value} {env : Env} {news : List (Addr × Obj)}
  {R : Result → Shared → Prop} {name qual : PySem.Str} {params : Arguments} {body : List Stmt} {scope : Scope} {cl : List (PySem.Str × Addr)} {dV kV doc pm cdv ct : Value} {an : Option Addr} {fo : Obj} {f : Addr} {args : Args} {binds : List (PySem.Str × Value)}
theorem callS_plain (B : Below A₀ base outer h₀) (F : Fr h₀ L s.heap m) (N : News h₀ L s.heap news) (hlim : h₀.NoLimit) (hA : A.frames = some (env :: outer)) (hf : env.frame = some L) (hke : env.scope.kind = .function)
    (ho : s.heap.get? f = some fo) (hd : fo.data = .func (fnX name qual params body scope cl dV kV doc pm an cdv ct)) (hcd : s.heap.CodeRec cdv qual) (hroom : A.depth < recursionLimit)
    (hbind : BindsTo s (fnX name qual params body scope cl dV kV doc pm an cdv ct) args binds) (hloc : ∀ y ∈ binds, scope.names.lookup y.1 = some .local)
    (h : ∀ g L' h₁, Fr h₀ L g m → Fr g L' h₁ (fun y => binds.reverse.lookup y) → News g L' h₁ news → Below A base (env :: outer) g → h₀.StaysIn g → (∀ p ∈ news, p.1 < L') →
      wpC (model prog w) (A.deeper (envX qual scope L' f cdv cl)) (execs body (envX qual scope L' f cdv cl))
        (fun fl s' => LeaveK h₀ L m g R (match fl with | .ret v => v | _ => .none) s')
        (fun e s' => wpAny (model prog w) (A.deeper (envX qual scope L' f cdv cl)) (leaving (envX qual scope L' f cdv cl) e) (fun _ s'' => R (.error e) s'') (fun e' s'' => R (.error e') s'') s')
        { s with heap := h₁, toks := s.toks + binds.length })
    (hcell : ∀ x ∈ scope.names, x.2 ≠ .cell) (hco : scope.isCoroutine = false := by rfl) (hgen : scope.isGenerator = false := by rfl) (hk : scope.kind = .function := by rfl) : codeC (model prog w) A (.call (.ref f) args) R s := by
  obtain ⟨FG, BG, st, lv⟩ := groundX (R := R) B F N hA hf hke
  refine codeC_call_def (fd := fnX name qual params body scope cl dV kV doc pm an cdv ct) (body := body) (binds := binds) hroom ho hd (hlim.keeps F.keep) hcd rfl hbind hcell hloc (fun h₁ hns hk₁ => ?_) hco hgen hk
  exact wpC_mono (h _ s.heap.objs.size h₁ FG ⟨hns, fun b o e => hk₁ b o (of_hideAll _ e), Nat.le_of_eq (hideAll_size _ _)⟩
    (fun p hp => ⟨hk₁ _ _ (N p hp).1, Nat.ne_of_lt (Heap.lt_size (N p hp).1), hideAll_none _ (List.mem_map_of_mem hp)⟩) BG st (fun p hp => Heap.lt_size (N p hp).1)) (fun fl s' hl => lv _ _ hl) fun _ _ y => y
end
section
variable {prog : Program} {w : World} {A A₀ : Around} {s : Shared} {K : Frag} {L : Addr} {h₀ base : Heap} {m mg mb : PySem.Str → Option Value} {news : List (Addr × Obj)} {p : Program} {loose : List PySem.Str} {mean : ExcName → Option Value}
theorem code_defS {env : Env} {outer : List Env} {R : Result → Shared → Prop} {name qual : PySem.Str} {params : Arguments} {body : List Stmt} {scope : Scope} {dV kV doc pm cdv ct oc : Value} {an od : Option Addr} {osl : Array (Option Value)} {f : Addr} {args : Args} {binds : List (PySem.Str × Value)}
    (B : Below A₀ base outer h₀) (F : Fr h₀ L s.heap m) (X₀ : K.In h₀) (N : News h₀ L s.heap news) (T : Top p loose mean mg mb h₀) (hA : A.frames = some (env :: outer)) (hf : env.frame = some L) (hke : env.scope.kind = .function)
    (ho : K.lookup f = some ⟨oc, od, .func (fnOf name qual params body scope dV kV doc pm an cdv ct), osl⟩) (hcd : codeIn K cdv qual = true) (hroom : A.depth < recursionLimit)
    (hbind : BindsTo s (fnOf name qual params body scope dV kV doc pm an cdv ct) args binds) (hloc : ∀ y ∈ binds, scope.names.lookup y.1 = some .local)
    (h : ∀ g L' h₁, Fr h₀ L g m → Fr g L' h₁ (fun y => binds.reverse.lookup y) → News g L' h₁ news → Below A base (env :: outer) g → K.In g → Top p loose mean mg mb g →
      wpC (model prog w) (A.deeper (envOf qual scope L' f cdv)) (execs body (envOf qual scope L' f cdv))
        (fun fl s' => LeaveK h₀ L m g R (match fl with | .ret v => v | _ => .none) s')
        (fun e s' => wpAny (model prog w) (A.deeper (envOf qual scope L' f cdv)) (leaving (envOf qual scope L' f cdv) e) (fun _ s'' => R (.error e) s'') (fun e' s'' => R (.error e') s'') s')
        { s with heap := h₁, toks := s.toks + binds.length })
    (hco : scope.isCoroutine = false) (hgen : scope.isGenerator = false) (hk : scope.kind = .function)
    (hcell : ∀ x ∈ scope.names, x.2 ≠ .cell) : codeC (model prog w) A (.call (.ref f) args) R s :=
  callS_plain (cl := []) B F N T.nolimit hA hf hke ((X₀.keeps F.keep) _ _ ho) rfl (codeRec_of (X₀.keeps F.keep) hcd) hroom hbind hloc (fun g L' h₁ FG F' N' B' st _ => h g L' h₁ FG F' N' B' (X₀.keeps st) (T.keeps st)) hcell hco hgen hk
end
/-- what a call of the def at f with the arguments vs gives back, at a clean context -/
def SpC (n : Nat) (w : World) (f : Addr) (vs : List Value) (P : Value → List (Addr × Obj) → Prop) : Prop :=
  ∀ (mean : ExcName → Option Value) (mg mb : PySem.Str → Option Value) (dp un : Nat) (cn : PySem.Str) (cs : Scope) (a : Addr) (ccd : Value) (cl : List (PySem.Str × Addr)) (outer : List Env) (A₀ : Around) (base h₀ : Heap) (L : Addr) (m : PySem.Str → Option Value) (news : List (Addr × Obj)) (s : Shared) (Q E : Value → Shared → Prop),
    Below A₀ base outer h₀ → Fr h₀ L s.heap m → (hd.heap_39 w.params).In h₀ → News h₀ L s.heap news → Top hd.view_39 (looseW hd.view_39 LOO) mean mg mb h₀ → cs.kind = .function →
    dp + n < recursionLimit → un + 10 * n < cLine → SpRet h₀ L m news s Q P →
      wpC (model PySem.Challenge.rw_zo0013_01.row.prog w) (ktrTop dp un (some []) cn cs L a ccd cl outer) (call (.ref f) vs) Q E s
theorem spC_use {n : Nat} {w : World} {f : Addr} {vs : List Value} {P : Value → List (Addr × Obj) → Prop} (S : SpC n w f vs P)
    {mean : ExcName → Option Value} {mg mb : PySem.Str → Option Value} {dp un : Nat} {cn : PySem.Str} {cs : Scope} {a : Addr} {ccd : Value} {cl : List (PySem.Str × Addr)} {outer : List Env} {A₀ : Around} {base h₀ : Heap} {L : Addr} {m : PySem.Str → Option Value} {news : List (Addr × Obj)} {s : Shared} {Q E : Value → Shared → Prop}
    (B : Below A₀ base outer h₀) (F : Fr h₀ L s.heap m) (X : (hd.heap_39 w.params).In h₀) (N : News h₀ L s.heap news) (T : Top hd.view_39 (looseW hd.view_39 LOO) mean mg mb h₀) (hk : cs.kind = .function)
    (hd : dp + n < recursionLimit) (hu : un + 10 * n < cLine) (ret : SpRet h₀ L m news s Q P) :
    wpC (model PySem.Challenge.rw_zo0013_01.row.prog w) (ktrTop dp un (some []) cn cs L a ccd cl outer) (call (.ref f) vs) Q E s := S _ _ _ _ _ _ _ _ _ _ _ _ _ _ _ _ _ _ _ _ B F X N T hk hd hu ret
theorem spC_useA {n : Nat} {w : World} {f : Addr} {vs : List Value} {P : Value → List (Addr × Obj) → Prop} (S : SpC n w f vs P)
    {mean : ExcName → Option Value} {mg mb : PySem.Str → Option Value} {dp un : Nat} {cn : PySem.Str} {cs : Scope} {a : Addr} {ccd : Value} {cl : List (PySem.Str × Addr)} {outer : List Env} {A₀ : Around} {base h₀ : Heap} {L : Addr} {m : PySem.Str → Option Value} {news : List (Addr × Obj)} {s : Shared} {Q E : Value → Shared → Prop}
    (ret : SpRet h₀ L m news s Q P) (B : Below A₀ base outer h₀ := by k_asm) (F : Fr h₀ L s.heap m := by k_asm) (X : (hd.heap_39 w.params).In h₀ := by k_asm) (N : News h₀ L s.heap news := by k_asm) (T : Top hd.view_39 (looseW hd.view_39 LOO) mean mg mb h₀ := by k_asm) (hk : cs.kind = .function := by first | exact rfl | assumption)
    (hd : dp + n < recursionLimit := by ktr_room) (hu : un + 10 * n < cLine := by ktr_units) :
    wpC (model PySem.Challenge.rw_zo0013_01.row.prog w) (ktrTop dp un (some []) cn cs L a ccd cl outer) (call (.ref f) vs) Q E s := spC_use S B F X N T hk hd hu ret
section
variable {prog : Program} {w : World} {A : Around} {s : Shared} {env : Env} {h₀ : Heap}
theorem codeC_forLoop {R : Result → Shared → Prop} {target it body orelse env} (I : Nat → Shared → Prop)
    (turn : ∀ n s, I n s → wpAny (model prog w) A (pyNext it) (fun r s₁ => match r with
      | none => wpAny (model prog w) A (execs orelse env) (fun f s₃ => R (.ok f) s₃) (notedBy (model prog w) A env fun e s' => R (.error e) s') s₁
      | some v => wpAny (model prog w) A (assign target env v) (fun _ s₂ => wpC (model prog w) A (execs body env) (fun f s₃ => match f with
          | .next | .cont => ∃ m, m < n ∧ I m s₃
          | .brk => R (.ok .next) s₃
          | .ret v => R (.ok (.ret v)) s₃) (notedBy (model prog w) A env fun e s' => R (.error e) s') s₂) (notedBy (model prog w) A env fun e s' => R (.error e) s') s₁) (notedBy (model prog w) A env fun e s' => R (.error e) s') s)
    (n : Nat) (h : I n s) (ht : ∀ v, letOwnedTupleGo target it v = pure () := by intro _; rfl) : codeC (model prog w) A (.forLoop target it body orelse env) R s := by
  refine codeC_loop' rfl rfl I (fun n s hI => ?_) n h
  show wpC _ _ ((forTurn target it body orelse env).onRaise (fun x => do noteFrame x env; theTreesLotGoes x)) _ _ s
  refine wpC_onRaise (wpC_mono (E := notedBy (model prog w) A env fun e s' => R (.error e) s') ?_ (fun _ _ x => x) fun _ _ h' => wpC_of_any (wpAny_bind (wpAny_mono h' (fun _ _ e => wpAny_theTreesLotGoes e) fun _ _ e => e)))
  simp only [forTurn]
  refine wpC_first (wpAny_standAt (wpC_first (wpAny_onRaise (wpAny_mono (turn n s hI) (fun r s₁ h₁ => ?_) fun _ _ h' => wpAny_standAt h'))))
  cases r with
  | none => exact wpC_pure (.inr ⟨rfl, codeC_of_any (codeAny_block h₁)⟩)
  | some v =>
    refine wpC_first (wpAny_of_eq (ht v) ?_)
    refine wpC_first (wpAny_mono h₁ (fun _ s₂ h₂ => wpC_bind (wpC_mono h₂ (fun f s₃ h₃ => ?_) fun _ _ h' => h')) fun _ _ h' => h')
    cases f with
    | next => exact wpC_pure (.inl ⟨rfl, h₃⟩)
    | cont => exact wpC_pure (.inl ⟨rfl, h₃⟩)
    | brk => exact wpC_pure h₃
    | ret v => exact wpC_pure h₃
theorem codeC_forLoop_frV {R : Result → Shared → Prop} {x : PySem.Str} {px : Pos} {body : List Stmt} {I : Addr} {fp wr : List Addr} {n : Nat} {P : Nat → Value → Prop} {St : Nat → Heap → Prop} {m : PySem.Str → Option Value}
    {news : List (Addr × Obj)} (W : Walks prog w A I fp wr n P St) (hx : env.kindOf x = some .local)
    (hp : (env.scope.kind == .class || (env.scope.kind == .module && env.locals != env.globals)) = false)
    (hLf : env.locals ∉ fp) (hwr : ∀ b ∈ wr, h₀.get? b = none) (hnw : ∀ p ∈ news, p.1 ∉ wr)
    (hst : St 0 s.heap) (F : Fr h₀ env.locals s.heap m) (N : News h₀ env.locals s.heap news)
    (J : Nat → (PySem.Str → Option Value) → List (Addr × Obj) → Prop) (h0 : J 0 m news)
    (step : ∀ i v m₁ news₁ s₁ own, (∃ h tk, s₁ = { s with heap := h, toks := tk }) → i < n → P i v → J i m₁ news₁ → (∀ p ∈ news₁, p.1 ∉ wr) → (∀ p ∈ own, p.1 ∈ fp) → (∀ p ∈ own, s₁.heap.get? p.1 = some p.2) → (∀ b ∈ fp, h₀.get? b = none → ∀ o, s₁.heap.get? b = some o → (b, o) ∈ own) → St (i + 1) s₁.heap →
      Fr h₀ env.locals s₁.heap (fun y => if y = x then some v else m₁ y) → News h₀ env.locals s₁.heap (own ++ news₁) →
      wpC (model prog w) A (execs body env) (LoopStepV h₀ env.locals wr own (J (i + 1)) s₁ (fun v s' => R (.ok (.ret v)) s') fun s' => R (.ok .next) s') (notedBy (model prog w) A env fun e s' => R (.error e) s') s₁)
    (hR : ∀ h' tk m' news', Fr h₀ env.locals h' m' → News h₀ env.locals h' news' → (∀ p ∈ news', p.1 ∉ wr) → J n m' news' → R (.ok .next) { s with heap := h', toks := tk }) :
    codeC (model prog w) A (.forLoop (.Name x px) (.ref I) body [] env) R s := by
  have hLw : env.locals ∉ wr := fun h => hLf (W.sub _ h)
  have old : ∀ b o, h₀.get? b = some o → b ∉ wr := fun b o e hb => by rw [hwr b hb] at e; cases e
  refine codeC_forLoop
    (fun k s' => ∃ h' tk m' news' i, s' = { s with heap := h', toks := tk } ∧ St i h' ∧ Fr h₀ env.locals h' m' ∧ News h₀ env.locals h' news' ∧ (∀ p ∈ news', p.1 ∉ wr) ∧ J i m' news' ∧ i ≤ n ∧ k = n + 1 - i) ?_ (n + 1)
    ⟨s.heap, s.toks, m, news, 0, rfl, hst, F, N, hnw, h0, Nat.zero_le _, rfl⟩
  rintro k s' ⟨h', tk, m', news', i, rfl, hst', F', N', hnw', hJ, hi, rfl⟩
  have next : ∀ h₁ : Heap, (∀ b o, b ∉ wr → h'.get? b = some o → h₁.get? b = some o) → Fr h₀ env.locals h₁ m' ∧ News h₀ env.locals h₁ news' := fun h₁ hk₁ =>
    ⟨⟨F'.ns.at' fun o e => hk₁ _ o hLw e, fun b o e => hk₁ b o (old b o e) (F'.keep b o e), F'.above⟩, fun p hp => ⟨hk₁ _ _ (hnw' p hp) (N' p hp).1, (N' p hp).2⟩⟩
  by_cases hlt : i < n
  · refine W.item i _ _ _ hlt hst' fun v h₁ tk₁ hP hst₁ hk₁ => ?_
    obtain ⟨F₁, N₁⟩ := next h₁ hk₁
    refine wpAny_assign_Name (wpAny_storeName_local hx F₁.ns (fun h₂ hn₂ hs₂ => ?_) hp)
    have F₂ := F₁.set hn₂ hs₂
    have Nown : News h₀ env.locals h₂ (ownOf h₀ fp h₂) := news_ownOf hLf
    have hst₂ : St (i + 1) h₂ := W.frame _ _ _ hst₁ fun b hb o e => (hs₂.2 b fun q => hLf (q ▸ hb)).trans e
    refine wpC_mono (step i v m' news' _ (ownOf h₀ fp h₂) ⟨_, _, rfl⟩ hlt hP hJ hnw' ownOf_sub (fun p hp => (Nown p hp).1) (fun b hb hn o e => mem_ownOf hb hn e) hst₂ F₂ (Nown.append (N₁.set hs₂))) (fun f s₃ h₃ => ?_) fun _ _ e => e
    cases f with
    | ret v => exact h₃
    | brk => exact h₃
    | cont =>
      obtain ⟨_, h₃', tk₃, m₂, news₂, rfl, F₃, N₃, ha₃, hJ₃⟩ := h₃
      refine ⟨n + 1 - (i + 1), by omega, h₃', tk₃, m₂, news₂, i + 1, rfl, ?_, F₃, N₃.right, ha₃, hJ₃, hlt, rfl⟩
      refine W.frame _ _ _ hst₁ fun b hb o e => ?_
      have e₂ : h₂.get? b = some o := (hs₂.2 b fun q => hLf (q ▸ hb)).trans e
      cases hn : h₀.get? b with
      | some o₀ =>
        have : o₀ = o := by have := F₂.keep b o₀ hn; rw [e₂] at this; exact (Option.some.inj this).symm
        exact this ▸ F₃.keep b o₀ hn
      | none => exact (N₃ _ (List.mem_append_left _ (mem_ownOf hb hn e₂))).1
    | next =>
      obtain ⟨_, h₃', tk₃, m₂, news₂, rfl, F₃, N₃, ha₃, hJ₃⟩ := h₃
      refine ⟨n + 1 - (i + 1), by omega, h₃', tk₃, m₂, news₂, i + 1, rfl, ?_, F₃, N₃.right, ha₃, hJ₃, hlt, rfl⟩
      refine W.frame _ _ _ hst₁ fun b hb o e => ?_
      have e₂ : h₂.get? b = some o := (hs₂.2 b fun q => hLf (q ▸ hb)).trans e
      cases hn : h₀.get? b with
      | some o₀ =>
        have : o₀ = o := by have := F₂.keep b o₀ hn; rw [e₂] at this; exact (Option.some.inj this).symm
        exact this ▸ F₃.keep b o₀ hn
      | none => exact (N₃ _ (List.mem_append_left _ (mem_ownOf hb hn e₂))).1
  · have hin : i = n := by omega
    subst hin
    refine W.done _ _ _ hst' fun h₁ tk₁ hk₁ => wpAny_execs_nil ?_
    obtain ⟨F₁, N₁⟩ := next h₁ hk₁
    exact hR h₁ tk₁ m' news' F₁ N₁ hnw' hJ
theorem wpC_runOwn {M : Model} {E : Value → Shared → Prop} {c : Code} {h : Option Value} {Q : Flow → Shared → Prop}
    (hc : codeC M (A.mark h) c (fun r s' => match r with | .ok f => Q f s' | .error e => cameBackBy M A env E e s') s) (hnb : h ≠ some byPass := by intro x; cases x) :
    wpC M A (runOwn c env h) Q E s := by
  unfold runOwn
  exact wpC_onRaise (wpC_mono (wpC_run hc hnb) (fun _ _ x => x) fun _ _ x => wpC_of_any x)
theorem wpC_For {M : Model} {E : Value → Shared → Prop} {target iter body orelse pos} {Q : Flow → Shared → Prop}
    (h : wpAny M A (eval iter env) (fun x s₁ => wpAny M A (pyIter x) (fun it s₂ =>
      codeC M A (.forLoop target it body orelse env) (fun r s' => match r with | .ok f => Q f s' | .error e => cameBackBy M A env E e s') s₂) E s₁) E s)
    (hs : ∀ x, foldedSetIterable iter env x = pure x := by intro _; rfl) :
    wpC M A (exec (.For target iter body orelse pos) env) Q E s := by
  rw [exec_For]
  exact wpC_first (wpAny_standAt (wpC_first (wpAny_mono h (fun x s₁ h₁ => wpC_first (wpAny_of_eq (hs x) (wpC_first (wpAny_standAt (wpC_first (wpAny_holding
    (wpAny_mono h₁ (fun it s₂ h₂ => wpC_runOwn h₂) fun _ _ h' => h'))))))) fun _ _ h' => h')))
end
section
variable {prog : Program} {w : World} {A : Around} {E : Value → Shared → Prop} {s : Shared} {env : Env} {h₀ : Heap} {x : PySem.Str} {body : List Stmt} {Q : Flow → Shared → Prop}
/-- a for over a range, at a clean context: iter gives the range r -/
theorem For_rangeC {σ : Type} {px pos : Pos} {iter : Expr} {m₀ : PySem.Str → Option Value} {a b st : Int} {n : Nat} (Led : σ → List (Addr × Obj)) (ps : σ → List (PySem.Str × Value)) (Facts : σ → Prop) (stored : List PySem.Str) (P : Nat → σ → Prop) (c₀ : σ)
    (_F₀ : Fr h₀ env.locals s.heap m₀) (_N₀ : News h₀ env.locals s.heap (Led c₀)) (hx : env.kindOf x = some .local) (hpl : (env.scope.kind == .class || (env.scope.kind == .module && env.locals != env.globals)) = false)
    (hh : A.handled = none) (hsmall : Builtin.Range.small a b st = true) (hn : Builtin.Range.rangeSize a b st = (n : Int))
    (hev : wpAny (model prog w) A (eval iter env) (fun xv s₁ => ∃ r h tk t₀ u₀ v₀, xv = .ref r ∧ s₁ = { s with heap := h, toks := tk } ∧ IsRange h r a b st t₀ u₀ v₀ ∧ Fr h₀ env.locals h m₀ ∧ News h₀ env.locals h (Led c₀)) E s)
    (hf : Facts c₀) (hk : ∀ p ∈ ps c₀, m₀ p.1 = some p.2) (hp : P 0 c₀)
    (turn : ∀ (c : σ) (i : Nat) t (u : PySem.Str → Option Value) h tk own, i < n → OwnOff own ((Led c₀).map (·.1)) → Facts c → P i c →
      Fr h₀ env.locals h (fun y => if y = x then some (.int (a + (i : Int) * st) t) else kstB (fun z => if stored.contains z then u z else m₀ z) (ps c) y) → News h₀ env.locals h (Led c ++ own) →
      wpC (model prog w) A (execs body env) (InvPostN h₀ env.locals (RS Led ps Facts x stored m₀ P (i + 1)) own ((Led c₀).map (·.1)) { s with heap := h, toks := tk } Q) E { s with heap := h, toks := tk })
    (done : ∀ (c : σ) (u : PySem.Str → Option Value) h tk, Facts c → P n c → Fr h₀ env.locals h (fun y => if y = x then u y else kstB (fun z => if stored.contains z then u z else m₀ z) (ps c) y) → News h₀ env.locals h (Led c) → Q .next { s with heap := h, toks := tk })
    (hs : ∀ x, foldedSetIterable iter env x = pure x := by intro _; rfl)
    (hE : PassesOwn (model prog w) A env E := by passes_own) :
    wpC (model prog w) A (exec (.For (.Name x px) iter body [] pos) env) Q E s := by
  refine wpC_For (wpAny_mono hev (fun xv s₁ hv => ?_) fun _ _ e => e) hs
  obtain ⟨r, h, tk, t₀, u₀, v₀, rfl, rfl, hr, F, N⟩ := hv
  refine wpAny_pyIter_range hr hsmall ?_
  have W : Walks prog w A h.objs.size [h.objs.size] [h.objs.size] n (fun i v => ∃ t, v = .int (a + (i : Int) * st) t)
      (fun i h' => IsRangeIter h' h.objs.size (a + (i : Nat) * st) ((n : Int) - (i : Nat)) st) := Walks.range hh _ a st n
  have hnew : ∀ p ∈ Led c₀, p.1 ∉ [h.objs.size] := fun p hp hI => absurd (Heap.lt_size (N p hp).1) ((List.mem_singleton.mp hI) ▸ Nat.lt_irrefl _)
  have hLf : env.locals ∉ [h.objs.size] := fun hm => absurd F.ns.lt ((List.mem_singleton.mp hm) ▸ Nat.lt_irrefl _)
  refine codeC_forLoop_frV (R := fun r s' => match r with | .ok f => Q f s' | .error e => cameBackBy (model prog w) A env E e s') (h₀ := h₀)
    (J := fun i m₁ news₁ => news₁.map (·.1) = (Led c₀).map (·.1) ∧ RS Led ps Facts x stored m₀ P i m₁ news₁) W hx hpl hLf (fun b hb => by rw [List.mem_singleton.mp hb]; exact next_is_new F) hnew
    (by show IsRangeIter _ _ _ _ _; rw [hn]; simpa using Heap.get?_push_size _ rfl) (F.push _) (fun p hp => ⟨Heap.get?_push_of_some _ (N p hp).1, (N p hp).2⟩) ⟨rfl, c₀, rfl, hf, hk, fun _ _ _ _ => rfl, hp⟩ ?_ ?_
  · rintro i v m₁ news₁ s₁ own ⟨hh', tk', rfl⟩ hin ⟨t, rfl⟩ ⟨hadr, c, rfl, hf', h1, h2, hp'⟩ hoff hown _ _ _ F₁ N₁
    have hsep : OwnOff own ((Led c₀).map (·.1)) := by
      intro p hp b hb e
      obtain ⟨q, hq, rfl⟩ := List.mem_map.mp hb
      exact hnew q hq (e ▸ hown p hp)
    have N₂ : News h₀ env.locals hh' (Led c ++ own) := fun p hp => N₁ p ((List.mem_append.mp hp).elim (fun h => List.mem_append.mpr (.inr h)) fun h => List.mem_append.mpr (.inl h))
    refine wpC_mono (turn c i t m₁ hh' tk' own hin hsep hf' hp' (kst_fr h1 h2 F₁) N₂) (fun f s₂ p => ?_) hE
    have fin : InvEndN h₀ env.locals (RS Led ps Facts x stored m₀ P (i + 1)) own ((Led c₀).map (·.1)) { s with heap := hh', toks := tk' } s₂ → LoopStepU h₀ env.locals [h.objs.size] own (fun m₁ news₁ => news₁.map (·.1) = (Led c₀).map (·.1) ∧ RS Led ps Facts x stored m₀ P (i + 1) m₁ news₁) { s with heap := hh', toks := tk' } .next s₂ := by
      rintro ⟨h', tk, m', news', nx, e, F', N', hn, ho, ha, hm⟩
      refine ⟨rfl, h', tk, m', nx, e, F', fun p hp => N' p ((List.mem_append.mp hp).elim (ho p) (hn p)), fun p hp hq => ?_, ha, hm⟩
      have h1 : p.1 ∈ nx.map (·.1) := List.mem_map.mpr ⟨p, hp, rfl⟩
      rw [ha, ← hadr] at h1
      obtain ⟨q, hq1, hq2⟩ := List.mem_map.mp h1
      exact hoff q hq1 (by rw [hq2]; exact hq)
    cases f with
    | ret v => exact .ret p
    | brk => exact .brk p
    | next => exact .next (fin p)
    | cont => exact .cont (fin p)
  · rintro h' tk m' news' F' N' _ ⟨_, c, rfl, hf', h1, h2, hp'⟩
    exact done c m' h' tk hf' hp' (kst_frOut h1 h2 F') N'
end
section
variable {M : Model} {A : Around} {E : Value → Shared → Prop} {s : Shared} {pos : Pos} {Q : Value → Shared → Prop}
theorem callWith_type1C {T : String} {t : Sem Value} (h : wpAny M A t (fun v s₁ => wpC M A (call (.type T) [v]) Q E s₁) E s) : wpC M A (callWith pos (.type T) [] [(false, t)] []) Q E s :=
  callWith_typeC rfl (Calls.evalArgs_plain (Calls.spliced_cons (wpAny_mono h (fun _ _ h₁ => Calls.spliced_nil h₁) fun _ _ e => e)))
theorem callWith_fn1C {a : Addr} {o : Obj} {fd : FuncData} {t : Sem Value} (hd : o.data = .func fd) (h : wpAny M A t (fun v s₁ => s₁.heap.get? a = some o ∧ wpC M A (call (.ref a) [v]) Q E s₁) E s) : wpC M A (callWith pos (.ref a) [] [(false, t)] []) Q E s :=
  callWith_functionC (o := o) (fd := fd) (Calls.evalArgs_plain (Calls.spliced_cons (wpAny_mono h (fun _ _ h₁ => Calls.spliced_nil ⟨⟨h₁.1, hd⟩, h₁.2⟩) fun _ _ e => e)))
theorem callWith_fn2C {a : Addr} {o : Obj} {fd : FuncData} {t u : Sem Value} (hd : o.data = .func fd) (h : wpAny M A t (fun v s₁ => wpAny M A u (fun v₂ s₂ => s₂.heap.get? a = some o ∧ wpC M A (call (.ref a) [v, v₂]) Q E s₂) E s₁) E s) : wpC M A (callWith pos (.ref a) [] [(false, t), (false, u)] []) Q E s :=
  callWith_functionC (o := o) (fd := fd) (Calls.evalArgs_plain (Calls.spliced_cons (wpAny_mono h (fun _ _ h₁ => Calls.spliced_cons (wpAny_mono h₁ (fun _ _ h₂ => Calls.spliced_nil ⟨⟨h₂.1, hd⟩, h₂.2⟩) fun _ _ e => e)) fun _ _ e => e)))
end
section
variable {prog : Program} {w : World} {A : Around} {E : Value → Shared → Prop} {s : Shared} {env : Env} {h₀ : Heap} {x : PySem.Str} {body : List Stmt} {Q : Flow → Shared → Prop}
/-- a for over a range: iter gives the range r -/
theorem For_rangeA {σ : Type} {px pos : Pos} {iter : Expr} {m₀ : PySem.Str → Option Value} {a b st : Int} {n : Nat} (Led : σ → List (Addr × Obj)) (ps : σ → List (PySem.Str × Value)) (Facts : σ → Prop) (stored : List PySem.Str) (P : Nat → σ → Prop) (c₀ : σ)
    (_F₀ : Fr h₀ env.locals s.heap m₀) (_N₀ : News h₀ env.locals s.heap (Led c₀)) (hx : env.kindOf x = some .local) (hpl : (env.scope.kind == .class || (env.scope.kind == .module && env.locals != env.globals)) = false)
    (hh : A.handled = none) (hsmall : Builtin.Range.small a b st = true) (hn : Builtin.Range.rangeSize a b st = (n : Int))
    (hev : wpAny (model prog w) A (eval iter env) (fun xv s₁ => ∃ r h tk t₀ u₀ v₀, xv = .ref r ∧ s₁ = { s with heap := h, toks := tk } ∧ IsRange h r a b st t₀ u₀ v₀ ∧ Fr h₀ env.locals h m₀ ∧ News h₀ env.locals h (Led c₀)) E s)
    (hf : Facts c₀) (hk : ∀ p ∈ ps c₀, m₀ p.1 = some p.2) (hp : P 0 c₀)
    (turn : ∀ (c : σ) (i : Nat) t (u : PySem.Str → Option Value) h tk own, i < n → OwnOff own ((Led c₀).map (·.1)) → Facts c → P i c →
      Fr h₀ env.locals h (fun y => if y = x then some (.int (a + (i : Int) * st) t) else kstB (fun z => if stored.contains z then u z else m₀ z) (ps c) y) → News h₀ env.locals h (Led c ++ own) →
      wpAny (model prog w) A (execs body env) (InvPostN h₀ env.locals (RS Led ps Facts x stored m₀ P (i + 1)) own ((Led c₀).map (·.1)) { s with heap := h, toks := tk } Q) E { s with heap := h, toks := tk })
    (done : ∀ (c : σ) (u : PySem.Str → Option Value) h tk, Facts c → P n c → Fr h₀ env.locals h (fun y => if y = x then u y else kstB (fun z => if stored.contains z then u z else m₀ z) (ps c) y) → News h₀ env.locals h (Led c) → Q .next { s with heap := h, toks := tk })
    (hs : ∀ x, foldedSetIterable iter env x = pure x := by intro _; rfl)
    (hE : PassesOwn (model prog w) A env E := by passes_own) :
    wpAny (model prog w) A (exec (.For (.Name x px) iter body [] pos) env) Q E s := by
  refine For_invV h₀ hx hpl (wpAny_mono hev (fun xv s₁ hv => ?_) fun _ _ e => e) hs hE
  obtain ⟨r, h, tk, t₀, u₀, v₀, rfl, rfl, hr, F, N⟩ := hv
  exact range_loop Led ps Facts stored P c₀ hh hr hsmall hn F N hf hk hp turn done
end
end Mine
end
/- part Bs -/
section
open PySem.Calls PySem.Builtin.Bytes
open PySem.Builtin
set_option Elab.async false
set_option maxRecDepth 1000000
namespace Mine
section
variable {prog : Program} {w : World} {A : Around} {E : Value → Shared → Prop} {s : Shared}
theorem setItem_ba {S : Addr} {b : Array UInt8} {i v : Int} {t u : Tok} {Q : Unit → Shared → Prop} (ho : s.heap.get? S = some (baObj b)) (h0 : 0 ≤ i) (h1 : i < b.size) (hz : b.size ≤ 1000) (hv : 0 ≤ v) (hv1 : v < 256)
    (h : ∀ h', h'.get? S = some (baObj (b.setIfInBounds i.toNat v.toNat.toUInt8)) → Heap.SameBut S s.heap h' → Q () { s with heap := h' }) : wpAny (model prog w) A (setItem (.ref S) (.int i t) (.int v u)) Q E s := by
  have hT : s.TypeIs (.ref S) "bytearray" := ⟨_, ho, rfl⟩
  unfold setItem
  refine wpAny_holding ?_
  refine wpAny_bind (wpAny_sequenceKey hT (by decide) ?_)
  refine wpAny_bind (wpAny_callSpecial?_slot (name := Str.ofString "__setitem__") hT ba_slot_set
    (wpAny_call_entry ba_slot_set hT ba_entry_set ?_ (ba_args_set _ _ _)))
  unfold Builtin.«bytearray.__setitem__»
  refine bm_if_false rfl ?_
  have hf : Bytes.fitsIndex i = true := by unfold Bytes.fitsIndex; simp only [Bool.and_eq_true, decide_eq_true_eq]; omega
  show wpAny _ _ (Bytes.subscript? (.int i t) >>= _) _ _ _
  refine wpAny_bind ?_
  unfold Bytes.subscript?
  refine wpAny_bind (wpAny_specialOf_val (T := "int") (v := Value.int i t) rfl int_index ?_)
  refine wpAny_ite ?_
  rw [if_neg (by decide)]
  refine wpAny_bind (m := asIndex (Value.int i t)) (wpAny_bind (m := asInt? (Value.int i t)) (wpAny_pure (wpAny_pure ?_)))
  rw [hf]
  refine wpAny_ite ?_
  rw [if_neg (by decide)]
  refine wpAny_pure ?_
  show wpAny _ _ (Bytes.byteValue (.int v u) >>= _) _ _ _
  refine wpAny_bind ?_
  unfold Bytes.byteValue
  refine wpAny_bind (m := asIndex (Value.int v u)) (wpAny_bind (m := asInt? (Value.int v u)) (wpAny_pure (wpAny_pure ?_)))
  refine wpAny_ite ?_
  rw [if_neg (by simp only [Bool.or_eq_true, decide_eq_true_eq]; omega)]
  refine wpAny_pure ?_
  refine wpAny_bind ?_
  unfold Bytes.payload Bytes.payload?
  refine wpAny_bind (wpAny_bind (wpAny_load ho ?_))
  refine wpAny_pure (wpAny_pure ?_)
  have hi : seqIndex? i b.size = some i.toNat := by
    have hn : ¬ i < 0 := by omega
    simp [seqIndex?, hn, h0, h1]
  rw [hi]
  refine wpAny_bind (write_wp ho (by rw [Array.size_setIfInBounds]; exact hz) fun h' ho' hs' => ?_)
  exact wpAny_pure ⟨.none, rfl, wpAny_pure (h h' ho' hs')⟩
theorem buf_wp {a : Addr} {Q : Bool → Shared → Prop} (hT : s.TypeIs (.ref a) "bytearray") (q : Q true s) : wpAny (model prog w) A (Bytes.slotIsOwn (.ref a) "__buffer__") Q E s := by
  have key : ∀ x : String, x = "bytearray" → ∀ {Q : Bool → Shared → Prop}, Q true s → wpAny (model prog w) A (isInstance (.ref a) (.type x)) Q E s := fun x hx Q q => by rw [hx]; exact wpAny_isInstance hT ba_sub q
  unfold Bytes.slotIsOwn
  refine wpAny_bind (wpAny_specialOf hT ba_buffer ?_)
  dsimp only
  split
  · rename_i hx
    exact absurd hx (by decide +kernel)
  · exact key _ (by decide +kernel) q
theorem new_of_ba {S : Addr} {b : Array UInt8} {Q : Value → Shared → Prop} (ho : s.heap.get? S = some (baObj b)) (hz : b.size ≤ 1000)
    (hQ : ∀ t k, Q (.bytes b t) { s with toks := k }) :
    codeAny (model prog w) A (.call (.builtin "bytes.__new__") ⟨[.type "bytes", .ref S], []⟩) (wants Q E) s := by
  refine codeAny_of_tree ?_
  show wpAny _ A.in1 (do checkBuiltinCall "bytes.__new__" ⟨[.type "bytes", .ref S], []⟩; again (.builtin "bytes.__new__" ⟨[.type "bytes", .ref S], []⟩)) _ _ s
  refine wpAny_bind (wpAny_of_eq (F.bm_newCall _) (wpAny_pure ⟨plainId_quiet F.bm_plain _, codeAny_builtin F.bm_entry ?_⟩))
  rw [Around.under_plainId F.bm_plain _]
  have hT : s.TypeIs (.ref S) "bytearray" := ⟨_, ho, rfl⟩
  unfold Builtin.«bytes.__new__»
  refine wpAny_bind (wpAny_of_eq (a := true) rfl ?_)
  refine bm_if_false rfl ?_
  refine wpAny_bind (wpAny_of_eq F.bm_sub ?_)
  refine bm_if_false rfl ?_
  refine wpAny_bind (wpAny_of_eq (F.bm_bind _) ?_)
  refine wpAny_bind (wpAny_of_eq (a := ()) rfl ?_)
  refine wpAny_bind (wpAny_of_eq (a := ()) rfl ?_)
  refine bm_if_false rfl ?_
  refine wpAny_bind (wpAny_specialOf hT ba_no_bytes ?_)
  refine wpAny_bind (wpAny_bind ?_)
  show wpAny _ _ (load S >>= _) _ _ _
  refine wpAny_bind (wpAny_load ho ?_)
  refine wpAny_pure (wpAny_pure ?_)
  refine bm_if_false rfl ?_
  refine wpAny_bind (wpAny_specialOf hT ba_no_index ?_)
  refine bm_if_true rfl ?_
  first
    | show wpAny _ _ (Builtin.Bytes.buffer? "bytes.__new__" (.ref S) true >>= _) _ _ _
    | (refine wpAny_bind ?_; show wpAny _ _ (Builtin.Bytes.buffer? "bytes.__new__" (.ref S) true >>= _) _ _ _)
  refine wpAny_bind ?_
  unfold Builtin.Bytes.buffer?
  refine wpAny_bind (wpAny_specialOf hT ba_buffer ?_)
  show wpAny _ _ (Bytes.slotIsOwn (.ref S) "__buffer__" >>= _) _ _ _
  refine wpAny_bind (buf_wp hT ?_)
  refine bm_if_false rfl ?_
  refine wpAny_bind (wpAny_specialOf hT ba_buffer ?_)
  show wpAny _ _ (Bytes.ownRelease (.ref S) >>= _) _ _ _
  refine wpAny_bind (release_wp hT ?_)
  refine bm_if_false rfl ?_
  show wpAny _ _ (Bytes.payload (.ref S) >>= _) _ _ _
  refine wpAny_bind ?_
  unfold Bytes.payload Bytes.payload?
  refine wpAny_bind (wpAny_bind (wpAny_load ho ?_))
  refine wpAny_pure (wpAny_pure (wpAny_pure ?_))
  refine wpAny_bind (wpAny_rule ?_)
  refine wpAny_bind (wpAny_mkBytes ?_ (by have : 1000 ≤ sizeLine := by decide +kernel
                                          omega))
  show wpAny _ _ (if (Value.type "bytes" == Value.type "bytes") = true then _ else _) _ _ _
  refine bm_if_true (by decide) ?_
  first
    | exact wpAny_pure (hQ _ _)
    | exact wpAny_bind (wpAny_pure (wpAny_pure (hQ _ _)))
theorem call_bytes_ba {S : Addr} {b : Array UInt8} {Q : Value → Shared → Prop} (ho : s.heap.get? S = some (baObj b)) (hz : b.size ≤ 1000)
    (hQ : ∀ t k, Q (.bytes b t) { s with toks := k }) : wpAny (model prog w) A (call (.type "bytes") [.ref S]) Q E s := by
  refine callType_codes (Q₁ := fun obj s₁ => s₁.TypeIs obj "bytes" ∧ Q obj s₁) F.bm_called (F.bm_typeCall _) F.entry_object_init
    (new_of_ba ho hz fun t k => ⟨PySem.W.typeIs_bytes _ _ _, hQ t k⟩) fun obj s₁ h₁ => ?_
  exact ⟨h₁.1, F.args_object_init_2 obj _, object_init_meets F.bm_called.init.lookup F.bm_called.made (by decide) prog w A.in1 _ s₁ ⟨h₁.1, rfl, h₁.2⟩⟩
theorem range_no_bytes : typeLookup (.type "range") "__bytes__" = pure none := by rw [typeLookup_type, builtinLookup_eq_fast]; kernel_rfl
theorem range_no_index : typeLookup (.type "range") "__index__" = pure none := by rw [typeLookup_type, builtinLookup_eq_fast]; kernel_rfl
theorem range_no_buffer : typeLookup (.type "range") "__buffer__" = pure none := by rw [typeLookup_type, builtinLookup_eq_fast]; kernel_rfl
theorem range_split : splitId "range.__len__" = some ("range", "__len__") := by decide +kernel
theorem range_sub : isSubtype (.type "range") (.type "range") = pure true := by rw [isSubtype_type]; kernel_rfl
theorem rng_loop {R : Result → Shared → Prop} {I S : Addr} {a st : Int} {n : Nat} (W : Walks prog w A.in1 I [I] [I] n (fun i v => ∃ t, v = .int (a + (i : Int) * st) t) (fun i h => IsRangeIter h I (a + (i : Nat) * st) ((n : Int) - (i : Nat)) st))
    (hr : ∀ i : Nat, i < n → 0 ≤ a + (i : Int) * st ∧ a + (i : Int) * st < 256) (hz : n ≤ 1000) (hIS : I ≠ S) :
    ∀ (k i : Nat) (s : Shared), n - i = k → i ≤ n → IsRangeIter s.heap I (a + (i : Nat) * st) ((n : Int) - (i : Nat)) st → s.heap.get? S = some (baObj (byteArr ((List.range i).map fun j : Nat => a + (j : Int) * st))) →
      (∀ h' t k', (∀ b o, b ≠ I → b ≠ S → s.heap.get? b = some o → h'.get? b = some o) → R (.ok (.ret (.bytes (byteArr ((List.range n).map fun j : Nat => a + (j : Int) * st)) t))) { s with heap := h', toks := k' }) →
      codeAny (model prog w) A (.builtin "bytes.__new__.loop" ⟨[.type "bytes", .ref I, .ref S], []⟩) R s := by
  intro k
  induction k with
  | zero =>
    intro i s hk hle hit hS hR
    have hin : i = n := by omega
    subst hin
    refine codeAny_builtin F.bm_entry_loop ?_
    rw [Around.under_plainId F.bm_plain_loop _]
    show wpAny _ A.in1 (pyNext (.ref I) >>= _) _ _ s
    refine wpAny_bind (W.done s _ _ hit fun h' tk he => ?_)
    have hS' := he S _ (by simpa using Ne.symm hIS) hS
    refine wpAny_bind ?_
    unfold Builtin.Bytes.payload Builtin.Bytes.payload?
    refine wpAny_bind (wpAny_bind (wpAny_load hS' ?_))
    refine wpAny_pure (wpAny_pure ?_)
    refine wpAny_bind (wpAny_mkBytes ?_ (by rw [byteArr_size, List.length_map, List.length_range]; have : 1000 ≤ sizeLine := by decide +kernel
                                            omega))
    show wpAny _ _ (if (Value.type "bytes" == Value.type "bytes") = true then _ else _) _ _ _
    refine bm_if_true (by decide) ?_
    first
      | exact wpAny_pure (hR h' _ _ fun b o hb _ e => he b o (by simpa using hb) e)
      | exact wpAny_bind (wpAny_pure (wpAny_pure (hR h' _ _ fun b o hb _ e => he b o (by simpa using hb) e)))
  | succ k ih =>
    intro i s hk hle hit hS hR
    have hlt : i < n := by omega
    obtain ⟨h0, h1⟩ := hr i hlt
    refine codeAny_builtin F.bm_entry_loop ?_
    rw [Around.under_plainId F.bm_plain_loop _]
    show wpAny _ A.in1 (pyNext (.ref I) >>= _) _ _ s
    refine wpAny_bind (W.item i s _ _ hlt hit fun v h' tk hv hit' hs => ?_)
    obtain ⟨t, rfl⟩ := hv
    have hS' := hs S _ (by simpa using Ne.symm hIS) hS
    refine wpAny_bind (wpAny_holding (wpAny_of_eq (rfl : asIndex (.int _ t) = pure _) ?_))
    refine wpAny_bind (wpAny_letGo ?_)
    refine bm_if_false (by simp only [Bool.or_eq_false_iff, decide_eq_false_iff_not]; omega) ?_
    refine wpAny_bind (write_wp hS' (by rw [Array.size_push, byteArr_size, List.length_map, List.length_range]; omega) fun h2 ho2 hs2 => ?_)
    have e : (byteArr ((List.range i).map fun j : Nat => a + (j : Int) * st)).push (a + (i : Int) * st).toNat.toUInt8 = byteArr ((List.range (i + 1)).map fun j : Nat => a + (j : Int) * st) := by
      unfold byteArr
      rw [List.range_succ]
      simp
    rw [e] at ho2
    refine wpAny_pure ⟨plainId_quiet F.bm_plain_loop _, ih (i + 1) { s with heap := h2, toks := tk } (by omega) hlt ?_ ho2 fun h3 t' k' hk3 => ?_⟩
    · exact (hs2.2 I hIS).trans hit'
    · exact hR h3 t' k' fun b o hbI hbS e => hk3 b o hbI hbS ((hs2.2 b hbS).trans (hs b o (by simpa using hbI) e))
theorem new_of_range {r : Addr} {a b st : Int} {t₀ u₀ v₀ : Tok} {n : Nat} {Q : Value → Shared → Prop} (hh : A.handled = none) (hr : IsRange s.heap r a b st t₀ u₀ v₀) (hsmall : Builtin.Range.small a b st = true) (hn : Builtin.Range.rangeSize a b st = (n : Int))
    (hin : ∀ i : Nat, i < n → 0 ≤ a + (i : Int) * st ∧ a + (i : Int) * st < 256) (hz : n ≤ 1000)
    (hQ : ∀ h' t k, (∀ b o, s.heap.get? b = some o → h'.get? b = some o) → Q (.bytes (byteArr ((List.range n).map fun j : Nat => a + (j : Int) * st)) t) { s with heap := h', toks := k }) :
    codeAny (model prog w) A (.call (.builtin "bytes.__new__") ⟨[.type "bytes", .ref r], []⟩) (wants Q E) s := by
  refine codeAny_of_tree ?_
  show wpAny _ A.in1 (do checkBuiltinCall "bytes.__new__" ⟨[.type "bytes", .ref r], []⟩; again (.builtin "bytes.__new__" ⟨[.type "bytes", .ref r], []⟩)) _ _ s
  refine wpAny_bind (wpAny_of_eq (F.bm_newCall _) (wpAny_pure ⟨plainId_quiet F.bm_plain _, codeAny_builtin F.bm_entry ?_⟩))
  rw [Around.under_plainId F.bm_plain _]
  have hT : s.TypeIs (.ref r) "range" := ⟨_, hr, rfl⟩
  unfold Builtin.«bytes.__new__»
  refine wpAny_bind (wpAny_of_eq (a := true) rfl ?_)
  refine bm_if_false rfl ?_
  refine wpAny_bind (wpAny_of_eq F.bm_sub ?_)
  refine bm_if_false rfl ?_
  refine wpAny_bind (wpAny_of_eq (F.bm_bind _) ?_)
  refine wpAny_bind (wpAny_of_eq (a := ()) rfl ?_)
  refine wpAny_bind (wpAny_of_eq (a := ()) rfl ?_)
  refine bm_if_false rfl ?_
  refine wpAny_bind (wpAny_specialOf hT range_no_bytes ?_)
  refine wpAny_bind (wpAny_bind ?_)
  show wpAny _ _ (load r >>= _) _ _ _
  refine wpAny_bind (wpAny_load hr ?_)
  refine wpAny_pure (wpAny_pure ?_)
  refine bm_if_false rfl ?_
  refine wpAny_bind (wpAny_specialOf hT range_no_index ?_)
  refine bm_if_true rfl ?_
  first
    | show wpAny _ _ (Builtin.Bytes.buffer? "bytes.__new__" (.ref r) true >>= _) _ _ _
    | (refine wpAny_bind ?_; show wpAny _ _ (Builtin.Bytes.buffer? "bytes.__new__" (.ref r) true >>= _) _ _ _)
  refine wpAny_bind ?_
  unfold Builtin.Bytes.buffer?
  refine wpAny_bind (wpAny_specialOf hT range_no_buffer ?_)
  refine wpAny_bind (wpAny_specialOf hT range_no_buffer ?_)
  refine wpAny_pure ?_
  refine wpAny_bind (wpAny_tryCatch (wpAny_pyIter_range hr hsmall ?_))
  have hr₁ : IsRange (s.heap.push { cls := .type "range_iterator", data := .fields #[rawInt a, rawInt (Builtin.Range.rangeSize a b st), rawInt st] }) r a b st t₀ u₀ v₀ := Heap.get?_push_of_some _ hr
  have hT₁ : ({ s with heap := s.heap.push { cls := .type "range_iterator", data := .fields #[rawInt a, rawInt (Builtin.Range.rangeSize a b st), rawInt st] } } : Shared).TypeIs (.ref r) "range" := ⟨_, hr₁, rfl⟩
  refine wpAny_bind (wpAny_holding ?_)
  unfold Builtin.Bytes.lengthHint
  refine wpAny_bind (wpAny_specialOf hT₁ F.slot_range_len.lookup ?_)
  dsimp only
  rw [range_split]
  dsimp only
  refine wpAny_bind (wpAny_isInstance hT₁ range_sub ?_)
  refine bm_if_false rfl ?_
  refine bm_if_false (by decide +kernel) ?_
  refine bm_if_true rfl ?_
  refine wpAny_bind (wpAny_rule ?_)
  refine wpAny_bind (wpAny_attempt (call_len_range hr₁ hn (by omega) ?_))
  refine wpAny_bind (m := asInt? _) (wpAny_pure ?_)
  refine bm_if_false (by show decide (((n : Int)).toNat > sizeLine) = false
                         have : 1000 ≤ sizeLine := by decide +kernel
                         simp only [Int.toNat_natCast, decide_eq_false_iff_not]; omega) ?_
  refine wpAny_pure ?_
  refine wpAny_bind ?_
  unfold Builtin.Bytes.newBytearray
  refine wpAny_newObj_type ?_ (Nat.zero_le _)
  have hsz : (s.heap.push { cls := .type "range_iterator", data := .fields #[rawInt a, rawInt (Builtin.Range.rangeSize a b st), rawInt st] }).objs.size = s.heap.objs.size + 1 := Heap.size_push _ _
  have main := rng_loop (prog := prog) (w := w) (A := A) (R := wants Q E) (I := s.heap.objs.size) (S := (s.heap.push { cls := .type "range_iterator", data := .fields #[rawInt a, rawInt (Builtin.Range.rangeSize a b st), rawInt st] }).objs.size) (Walks.range (A := A.in1) hh _ a st n) hin hz (by rw [hsz]; exact Nat.ne_of_lt (Nat.lt_succ_self _))
    n 0 { s with toks := s.toks + 1 + 1, heap := (s.heap.push { cls := .type "range_iterator", data := .fields #[rawInt a, rawInt (Builtin.Range.rangeSize a b st), rawInt st] }).push { cls := .type "bytearray", data := .bytearray #[] } } rfl (Nat.zero_le _)
    (by show IsRangeIter _ _ _ _ _; rw [hn]; simpa using (Heap.get?_push_of_some _ (Heap.get?_push_size s.heap rfl) : (Heap.push _ _).get? s.heap.objs.size = _)) (Heap.get?_push_size _ rfl)
    fun h' t k hk => hQ h' t k fun b o e => hk b o (Nat.ne_of_lt (Heap.lt_size e)) (by rw [hsz]; exact Nat.ne_of_lt (Nat.lt_succ_of_lt (Heap.lt_size e))) (Heap.get?_push_of_some _ (Heap.get?_push_of_some _ e))
  first
    | exact wpAny_pure ⟨plainId_quiet F.bm_plain_loop _, main⟩
    | exact wpAny_pure (wpAny_pure ⟨plainId_quiet F.bm_plain_loop _, main⟩)
theorem call_bytes_range {r : Addr} {a b st : Int} {t₀ u₀ v₀ : Tok} {n : Nat} {Q : Value → Shared → Prop} (hh : A.handled = none) (hr : IsRange s.heap r a b st t₀ u₀ v₀) (hsmall : Builtin.Range.small a b st = true) (hn : Builtin.Range.rangeSize a b st = (n : Int))
    (hin : ∀ i : Nat, i < n → 0 ≤ a + (i : Int) * st ∧ a + (i : Int) * st < 256) (hz : n ≤ 1000)
    (hQ : ∀ h' t k, (∀ b o, s.heap.get? b = some o → h'.get? b = some o) → Q (.bytes (byteArr ((List.range n).map fun j : Nat => a + (j : Int) * st)) t) { s with heap := h', toks := k }) : wpAny (model prog w) A (call (.type "bytes") [.ref r]) Q E s := by
  refine callType_codes (Q₁ := fun obj s₁ => s₁.TypeIs obj "bytes" ∧ Q obj s₁) F.bm_called (F.bm_typeCall _) F.entry_object_init
    (new_of_range hh hr hsmall hn hin hz fun h' t k hk => ⟨PySem.W.typeIs_bytes _ _ _, hQ h' t k hk⟩) fun obj s₁ h₁ => ?_
  exact ⟨h₁.1, F.args_object_init_2 obj _, object_init_meets F.bm_called.init.lookup F.bm_called.made (by decide) prog w A.in1 _ s₁ ⟨h₁.1, rfl, h₁.2⟩⟩
variable {h₀ : Heap} {L : Addr} {m : PySem.Str → Option Value} {news news' : List (Addr × Obj)}
theorem setItem_K {S : Addr} {b : Array UInt8} {i v : Int} {t u : Tok} {Q : Unit → Shared → Prop} (F : Fr h₀ L s.heap m) (N : News h₀ L s.heap news) (U : Upd S (baObj b) (baObj (b.setIfInBounds i.toNat v.toNat.toUInt8)) news news') (h0 : 0 ≤ i) (h1 : i < b.size) (hz : b.size ≤ 1000) (hv : 0 ≤ v) (hv1 : v < 256)
    (h : ∀ h', Fr h₀ L h' m → News h₀ L h' news' → Q () { s with heap := h' }) : wpAny (model prog w) A (setItem (.ref S) (.int i t) (.int v u)) Q E s := by
  obtain ⟨pre, post, rfl, rfl, a, b⟩ := U.split
  have z := N (S, baObj _) (List.mem_append.mpr (.inr (.head _)))
  exact setItem_ba z.1 h0 h1 hz hv hv1 fun h' ho' hs => h h' (F.change hs z.2.1 z.2.2) (news_set N a b hs ho')
theorem bytes_ba_K {S : Addr} {b : Array UInt8} {Q : Value → Shared → Prop} (N : News h₀ L s.heap news) (hm : (S, baObj b) ∈ news) (hz : b.size ≤ 1000)
    (h : ∀ t k, Q (.bytes b t) { s with toks := k }) : wpAny (model prog w) A (call (.type "bytes") [.ref S]) Q E s :=
  call_bytes_ba (N _ hm).1 hz h
theorem bytes_range_K {r : Addr} {a b st : Int} {t₀ u₀ v₀ : Tok} {n : Nat} {Q : Value → Shared → Prop} (F : Fr h₀ L s.heap m) (N : News h₀ L s.heap news) (hh : A.handled = none) (hr : IsRange s.heap r a b st t₀ u₀ v₀) (hsmall : Builtin.Range.small a b st = true) (hn : Builtin.Range.rangeSize a b st = (n : Int))
    (hin : ∀ i : Nat, i < n → 0 ≤ a + (i : Int) * st ∧ a + (i : Int) * st < 256) (hz : n ≤ 1000)
    (h : ∀ h' t k, Fr h₀ L h' m → News h₀ L h' news → Q (.bytes (byteArr ((List.range n).map fun j : Nat => a + (j : Int) * st)) t) { s with heap := h', toks := k }) : wpAny (model prog w) A (call (.type "bytes") [.ref r]) Q E s :=
  call_bytes_range hh hr hsmall hn hin hz fun h' t k hk => h h' t k (F.keeps hk) (N.keepsAll hk)
end
end Mine
end
/- part Fbs -/
section
open PySem.Calls
set_option Elab.async false
namespace Mine
/-- the state behind j turns of the inner loop -/
def revAt (ks : List Int) (j : Nat) : List Int := List.replicate (ks.length - j) 0 ++ (ks.take j).reverse
theorem revAt_zero (ks : List Int) : revAt ks 0 = List.replicate ks.length 0 := by simp [revAt]
theorem revAt_end (ks : List Int) : revAt ks ks.length = ks.reverse := by simp [revAt]
theorem revAt_succ {ks : List Int} {j : Nat} (hj : j < ks.length) : (revAt ks j).set (ks.length - 1 - j) (ks.getD j 0) = revAt ks (j + 1) := by
  unfold revAt
  have e1 : ks.length - j = (ks.length - (j + 1)) + 1 := by omega
  rw [e1, List.replicate_succ', List.take_add_one, List.append_assoc]
  have e2 : ks[j]?.toList = [ks.getD j 0] := by rw [List.getD_eq_getElem?_getD]; simp [hj]
  rw [e2, List.reverse_append]
  have e3 : ks.length - 1 - j = (List.replicate (ks.length - (j + 1)) (0 : Int)).length := by rw [List.length_replicate]; omega
  rw [e3, List.set_append_right _ _ (Nat.le_refl _)]
  simp
theorem bInts_set {c : Array UInt8} {i : Nat} {v : Int} (h0 : 0 ≤ v) (h1 : v < 256) : KBw.bInts (c.setIfInBounds i v.toNat.toUInt8) = (KBw.bInts c).set i v := by
  unfold KBw.bInts
  rw [Array.toList_setIfInBounds, List.map_set, byte_back h0 h1]
theorem bInts_zeros (n : Nat) : KBw.bInts (Array.replicate n 0) = List.replicate n 0 := by
  unfold KBw.bInts
  simp
theorem bInts_size (b : Array UInt8) : b.size = (KBw.bInts b).length := (KBw.ints_length b).symm
set_option maxRecDepth 100000 in
set_option maxHeartbeats 1000000 in
theorem sp_bs (w : World) (b : Array UInt8) (ks : List Int) (hb : KBw.bInts b = ks) (hn : 0 < ks.length) (hn2 : ks.length ≤ 100) (t1 t2 : Tok) : SpC 1 w 118 [.bytes b t1, .int ks.length t2] (fun v new => ∃ b' t, v = .bytes b' t ∧ KBw.bInts b' = ks.reverse ∧ new = []) := by
  have hsz : b.size = ks.length := by rw [bInts_size, hb]
  unfold SpC
  k_with "call type:bytes" => (refine' bytes_ba_K ?F ?M ?Z ?_; (case F => k_asm); (case M => exact List.Mem.head _); (case Z => assumption); k_whole; intro _ _)
  k_fill
  intro mean mg mb dp un cn cs a ccd cl outer A₀ base h₀ L m news s Q E B F X N T hk hd hu hret
  refine wpC_call ?_
  k_dflt ((refine' code_defS ?k1 ?k2 ?k3 ?k4 ?k5 ?kA ?kF ?kK ?k6 ?k7 ?k8 ?k9 ?kB ?_ ?c2 ?c3 ?c4 ?c5; (case kA => exact rfl); (case kF => exact rfl); (case kK => assumption); (case k1 => k_asm); (case k2 => k_asm); (case k3 => k_asm); (case k4 => k_asm); (case k5 => k_asm); (case k6 => k_is); (case k7 => k_is); (case k8 => ktr_room); (case k9 => exact BindsTo.of_eq rfl); (case c5 => decide); (case kB => exact locs rfl); (case c2 => exact rfl); (case c3 => exact rfl); (case c4 => exact rfl); k_whole; intro g1 L1 h' FG' F' N' B' X' T'; have hMk9 := kstMark; (try dsimp only); (try k_lift B'); (try k_fold)))
  refine wpC_execs_cons ?_
  refine wpC_Assign_Name ?_
  refine wpC_Call_Name1 ?_
  k_steps
  refine callWith_type1C ?_
  k_steps
  refine' bytearray_K ?q1 ?q2 ?q3 ?q4 ?q5 ?_
  case q1 => k_asm
  case q2 => k_asm
  case q3 => rfl
  case q4 => omega
  case q5 => omega
  intro S h' F' N' l1
  k_steps
  refine wpC_of_any ?_
  refine wpAny_execs_cons ?_
  rename Fr g1 _ _ _ => F9
  rename News g1 _ _ _ => N9
  refine For_rangeA (σ := Array UInt8) (a := 0) (b := ks.length) (st := ks.length) (n := 1) (fun c => (S, baObj c) :: news) (fun _ => []) (fun _ => True) ["j"] (fun i c => KBw.bInts c = if i = 0 then revAt ks 0 else ks.reverse) (Array.replicate ((ks.length : Int)).toNat 0) F9 N9 rfl rfl rfl ?small ?size ?hev trivial (fun p hp => nomatch hp) ?h0 ?turn ?done
  case small =>
    have hz : Builtin.Range.rangeSize 0 (ks.length : Int) (ks.length : Int) = 1 := by
      unfold Builtin.Range.rangeSize
      rw [if_pos (by omega), if_pos (by omega)]
      have : ((ks.length : Int) - 0 - 1) / (ks.length : Int) = 0 := Int.ediv_eq_zero_of_lt (by omega) (by omega)
      omega
    unfold Builtin.Range.small
    rw [hz]
    simp only [Builtin.Range.rangeFitsLong, Bool.and_eq_true, Bool.or_eq_true, decide_eq_true_eq, beq_iff_eq]
    rw [if_pos (by omega)]
    refine ⟨⟨⟨⟨?_, ?_⟩, ?_⟩, ?_⟩, .inr ?_⟩
    all_goals first | omega | (rw [Bool.and_eq_true, decide_eq_true_eq, decide_eq_true_eq]; omega)
  case size =>
    unfold Builtin.Range.rangeSize
    rw [if_pos (by omega), if_pos (by omega)]
    have : ((ks.length : Int) - 0 - 1) / (ks.length : Int) = 0 := Int.ediv_eq_zero_of_lt (by omega) (by omega)
    omega
  case hev =>
    k_steps
    all_goals first | (rename Fr g1 _ _ _ => F8; exact F8) | (rename News g1 _ _ _ => N8; exact N8)
  case h0 => rw [if_pos rfl, revAt_zero]; exact bInts_zeros _
  case turn =>
    intro c i t u h tk own hi hoff _ hP F2 N2
    obtain rfl : i = 0 := by omega
    rw [if_pos rfl] at hP
    have e0 : (0 : Int) + ((0 : Nat) : Int) * ((ks.length : Nat) : Int) = 0 := by omega
    rw [e0] at F2
    simp only [List.cons_append] at N2
    refine wpAny_execs_cons ?_
    refine For_rangeA (σ := Array UInt8) (a := 0) (b := ks.length) (st := 1) (n := ks.length) (fun c => (S, baObj c) :: (news ++ own)) (fun _ => []) (fun _ => True) [] (fun j c => KBw.bInts c = revAt ks j) c F2 N2 rfl rfl rfl ?small2 ?size2 ?hev2 trivial (fun p hp => nomatch hp) hP ?turn2 ?done2
    case small2 => exact small_one (by omega) (by omega) (by omega) (by omega)
    case size2 => exact rangeSize_nat _ _
    case hev2 =>
      k_steps
      all_goals first | (rename Fr g1 _ _ _ => F8; exact F8) | (rename News g1 _ _ _ => N8; exact N8)
    case turn2 =>
      intro c j t u h tk own2 hj hoff _ hP F2 N2
      have e1 : (0 : Int) + ((j : Nat) : Int) * 1 = j := by omega
      rw [e1] at F2
      simp only [List.cons_append] at N2
      k_steps
      have hcs : c.size = ks.length := by rw [bInts_size, hP]; simp only [revAt, List.length_append, List.length_replicate, List.length_reverse, List.length_take]; omega
      have hin := KBw.getD_in (ks := ks) (j := j) (fun k hk => KBw.ints_in (hb ▸ hk))
      have ej : ((0 : Int) + ((j : Nat) : Int)).toNat = j := by omega
      have en : ((0 : Int) + ((ks.length : Nat) : Int) - 1 - ((j : Nat) : Int)).toNat = ks.length - 1 - j := by omega
      have hP2 : KBw.bInts (c.setIfInBounds ((0 : Int) + ((ks.length : Nat) : Int) - 1 - ((j : Nat) : Int)).toNat (ks.getD ((0 : Int) + ((j : Nat) : Int)).toNat 0).toNat.toUInt8) = revAt ks (j + 1) := by
        rw [ej, en, bInts_set hin.1 hin.2, hP, revAt_succ hj]
      refine' setItem_K ?F ?N ?U ?h0 ?h1 ?hz ?hv ?hv1 ?_
      case F => k_asm
      case N => k_asm
      case U => k_upd
      case h0 => omega
      case h1 => omega
      case hz => omega
      case hv => rw [ej]; exact hin.1
      case hv1 => rw [ej]; exact hin.2
      intro h' F8 N8
      refine wpAny_execs_nil ?_
      refine InvEndN.intro F8 N8 (RS.mk' _ trivial (fun p hp => nomatch hp) ?same hP2) ?adr ?sub ?own
      case same => intro z h1 h2 h3; simp only [if_neg h1]; rfl
      case adr => rfl
      case sub => intro p hp; simp only [List.mem_cons, List.mem_append] at hp ⊢; grind
      case own => intro p hp; simp only [List.mem_cons, List.mem_append] at hp ⊢; grind
    case done2 =>
      intro c u h tk _ hP F2 N2
      refine wpAny_execs_nil ?_
      refine InvEndN.intro F2 N2 (RS.mk' c trivial (fun p hp => nomatch hp) ?same ?hP) ?adr ?sub ?own
      case same =>
        intro z h1 _ h3
        have h4 : z ≠ "j" := fun e => by rw [e] at h3; exact absurd h3 (by decide)
        simp only [if_neg h4]
        show (if z = "i" then _ else _) = _
        rw [if_neg h1]
        exact if_neg (fun q => by rw [h3] at q; cases q)
      case hP => exact (hP.trans (revAt_end ks)).trans (if_neg (by omega)).symm
      case adr => rfl
      case sub => intro p hp; simp only [List.mem_cons, List.mem_append] at hp ⊢; grind
      case own => intro p hp; simp only [List.mem_cons, List.mem_append] at hp ⊢; grind
  case done =>
    intro c u h tk _ hP F2 N2
    rw [if_neg (by decide)] at hP
    have hcs : c.size ≤ 1000 := by rw [bInts_size, hP, List.length_reverse]; omega
    k_steps
    rename Fr h₀ L _ m => F9
    rename News h₀ L _ _ => N9
    exact sp_end0 hret ⟨c, _, rfl, hP, rfl⟩ F9 (cb_drop N9 (by repeat' (first | exact sub_rfl | refine sub_cons ?_)))
  k_with_none
end Mine
end
/- part Ford -/
section
open PySem.Calls
set_option Elab.async false
namespace Mine
/-- a turn of the inner loop: neighbours exchanged or not -/
def bubS (st : Int × List Int) (spot : Nat) : Int × List Int :=
  if st.2.getD spot 0 > st.2.getD (spot + 1) 0 then (st.1 + 1, st.2.take spot ++ [st.2.getD (spot + 1) 0, st.2.getD spot 0] ++ st.2.drop (spot + 2)) else st
def bubI (st : Int × List Int) : Nat → Int × List Int
  | 0 => st
  | j + 1 => bubS (bubI st j) j
def bubO (ks : List Int) : Nat → Int × List Int
  | 0 => (0, ks)
  | i + 1 => bubI (bubO ks i) (ks.length - 1 - i)
theorem bubS_len (st : Int × List Int) (spot : Nat) (h : spot + 1 < st.2.length) : (bubS st spot).2.length = st.2.length := by
  unfold bubS
  split
  · simp only [List.length_append, List.length_take, List.length_cons, List.length_nil, List.length_drop]; omega
  · rfl
theorem bubI_len (st : Int × List Int) : ∀ j, j < st.2.length → (bubI st j).2.length = st.2.length
  | 0, _ => rfl
  | j + 1, h => by
    have := bubI_len st j (by omega)
    show (bubS (bubI st j) j).2.length = _
    rw [bubS_len _ _ (by omega), this]
theorem bubO_len (ks : List Int) : ∀ i, i < ks.length → (bubO ks i).2.length = ks.length
  | 0, _ => rfl
  | i + 1, h => by
    have := bubO_len ks i (by omega)
    show (bubI (bubO ks i) _).2.length = _
    rw [bubI_len _ _ (by omega), this]
theorem sp_bs2 (w : World) (b : Array UInt8) (ks : List Int) (hb : KBw.bInts b = ks) (h2 : ks.length = 2) (t1 t2 : Tok) : SpC 1 w 118 [.bytes b t1, .int 2 t2] (fun v new => ∃ b' t, v = .bytes b' t ∧ KBw.bInts b' = ks.reverse ∧ new = []) := by
  have := sp_bs w b ks hb (by omega) (by omega) t1 t2
  rw [h2] at this
  exact this
theorem swap_eq {ls : List Int} {j : Nat} (hj : j + 1 < ls.length) :
    (ls.take (min j ls.length) ++ ((ls.drop (min j ls.length)).take (min (j + 2) ls.length - min j ls.length)).reverse) ++ (ls.drop (min (j + 2) ls.length)).take (ls.length - min (j + 2) ls.length) = ls.take j ++ [ls.getD (j + 1) 0, ls.getD j 0] ++ ls.drop (j + 2) := by
  have e1 : min j ls.length = j := by omega
  have e2 : min (j + 2) ls.length = j + 2 := by omega
  rw [e1, e2, show j + 2 - j = 2 by omega]
  rw [List.take_of_length_le (l := ls.drop (j + 2)) (by rw [List.length_drop]; omega)]
  have h1 : ls.drop j = ls.getD j 0 :: ls.getD (j + 1) 0 :: ls.drop (j + 2) := by
    rw [List.drop_eq_getElem_cons (by omega), List.drop_eq_getElem_cons (i := j + 1) (by omega)]
    rw [List.getD_eq_getElem?_getD, List.getD_eq_getElem?_getD, List.getElem?_eq_getElem (by omega), List.getElem?_eq_getElem (by omega)]
    rfl
  rw [h1]
  rfl
theorem bubS_yes {ls : List Int} {n : Int} {j : Nat} (h : ls.getD (j + 1) 0 < ls.getD j 0) : bubS (n, ls) j = (n + 1, ls.take j ++ [ls.getD (j + 1) 0, ls.getD j 0] ++ ls.drop (j + 2)) := if_pos h
theorem bubS_no {ls : List Int} {n : Int} {j : Nat} (h : ¬ ls.getD (j + 1) 0 < ls.getD j 0) : bubS (n, ls) j = (n, ls) := if_neg h
structure OS where
  n : Int
  b : Array UInt8
  t : Tok
  u : Tok
set_option maxRecDepth 100000 in
set_option maxHeartbeats 1000000 in
theorem sp_ord (w : World) (b : Array UInt8) (ks : List Int) (hb : KBw.bInts b = ks) (hn : 0 < ks.length) (hn2 : ks.length ≤ 100) (t1 : Tok) : SpC 2 w 144 [.bytes b t1] (fun v new => ∃ T b' t u, v = .ref T ∧ new = [(T, { cls := .type "tuple", data := .seq #[.int (bubO ks (ks.length - 1)).1 t, .bytes b' u] })] ∧ KBw.bInts b' = (bubO ks (ks.length - 1)).2) := by
  have hsz : b.size = ks.length := by rw [bInts_size, hb]
  unfold SpC
  k_fill
  obtain ⟨o118, fd118, ho118, hd118⟩ : ∃ o fd, (Mine.hd.heap_39 w.params).lookup 118 = some o ∧ o.data = .func fd := ⟨_, _, by k_is, rfl⟩
  intro mean mg mb dp un cn cs a ccd cl outer A₀ base h₀ L m news s Q E B F X N T hk hd hu hret
  refine wpC_call ?_
  k_dflt ((refine' code_defS ?k1 ?k2 ?k3 ?k4 ?k5 ?kA ?kF ?kK ?k6 ?k7 ?k8 ?k9 ?kB ?_ ?c2 ?c3 ?c4 ?c5; (case kA => exact rfl); (case kF => exact rfl); (case kK => assumption); (case k1 => k_asm); (case k2 => k_asm); (case k3 => k_asm); (case k4 => k_asm); (case k5 => k_asm); (case k6 => k_is); (case k7 => k_is); (case k8 => ktr_room); (case k9 => exact BindsTo.of_eq rfl); (case c5 => decide); (case kB => exact locs rfl); (case c2 => exact rfl); (case c3 => exact rfl); (case c4 => exact rfl); k_whole; intro g1 L1 h' FG' F' N' B' X' T'; have hMk9 := kstMark; (try dsimp only); (try k_lift B'); (try k_fold)))
  refine wpC_execs_cons (wpC_of_any ?_)
  k_steps
  refine wpC_execs_cons ?_
  rename Fr g1 _ _ _ => F9
  rename News g1 _ _ _ => N9
  refine' For_rangeC (σ := OS) (a := ks.length - 1) (b := 0) (st := -1) (n := ks.length - 1) (fun _ => news) (fun c => [("turns", .int c.n c.t), ("row", .bytes c.b c.u)]) (fun _ => True) ["spot"] (fun i c => (c.n, KBw.bInts c.b) = bubO ks i) ⟨0, b, ?t0, t1⟩ F9 N9 rfl rfl rfl ?small ?size ?hev trivial ?hk ?h0 ?turn ?done
  case hk => exact List.forall_mem_cons.2 ⟨by with_unfolding_all rfl, List.forall_mem_cons.2 ⟨by with_unfolding_all rfl, fun _ h => nomatch h⟩⟩
  case size =>
    unfold Builtin.Range.rangeSize
    rw [if_neg (by omega)]
    simp only [Int.neg_neg, Int.ediv_one]
    split <;> omega
  case small =>
    have hz : Builtin.Range.rangeSize ((ks.length : Int) - 1) 0 (-1) = ((ks.length - 1 : Nat) : Int) := by
      unfold Builtin.Range.rangeSize
      rw [if_neg (by omega)]
      simp only [Int.neg_neg, Int.ediv_one]
      split <;> omega
    unfold Builtin.Range.small
    rw [hz]
    simp only [Builtin.Range.rangeFitsLong, Bool.and_eq_true, Bool.or_eq_true, decide_eq_true_eq, beq_iff_eq]
    rw [if_neg (by omega)]
    refine ⟨⟨⟨⟨?_, ?_⟩, ?_⟩, ?_⟩, .inr ?_⟩
    all_goals first | omega | (rw [Bool.and_eq_true, decide_eq_true_eq, decide_eq_true_eq]; omega)
  case hev =>
    k_steps
    all_goals first | (rename Fr g1 _ _ _ => F8; exact F8) | (rename News g1 _ _ _ => N8; exact N8)
  case h0 => rw [hb]; rfl
  case turn =>
    intro c i t u h tk own hi hoff _ hP F2 N2
    have hlen := bubO_len ks i (by omega)
    have e0 : ((ks.length : Nat) : Int) - 1 + (i : Int) * -1 = ((ks.length - 1 - i : Nat) : Int) := by omega
    rw [e0] at F2
    refine wpC_execs_cons ?_
    refine' For_rangeC (σ := OS) (a := 0) (b := ((ks.length - 1 - i : Nat) : Int)) (st := 1) (n := ks.length - 1 - i) (fun _ => news ++ own) (fun c => [("turns", .int c.n c.t), ("row", .bytes c.b c.u)]) (fun _ => True) [] (fun j c => (c.n, KBw.bInts c.b) = bubI (bubO ks i) j) c F2 N2 rfl rfl rfl ?small2 ?size2 ?hev2 trivial ?hk2 ?h02 ?turn2 ?done2
    case hk2 => exact List.forall_mem_cons.2 ⟨by with_unfolding_all rfl, List.forall_mem_cons.2 ⟨by with_unfolding_all rfl, fun _ h => nomatch h⟩⟩
    case small2 => exact small_one (by omega) (by omega) (by omega) (by omega)
    case size2 => exact rangeSize_nat _ _
    case hev2 =>
      k_steps
      all_goals first | (rename Fr g1 _ _ _ => F8; exact F8) | (rename News g1 _ _ _ => N8; exact N8)
    case h02 => exact hP
    case turn2 =>
      intro c j t u h tk own2 hj hoff2 _ hP2 F3 N3
      have e1 : (0 : Int) + ((j : Nat) : Int) * 1 = j := by omega
      rw [e1] at F3
      have hlen2 := bubI_len (bubO ks i) j (by omega)
      obtain ⟨cn2, cb, ct, cu⟩ := c
      generalize hst : bubI (bubO ks i) j = st at hP2 hlen2
      obtain ⟨tn, ls⟩ := st
      obtain ⟨rfl, hb2⟩ : cn2 = tn ∧ KBw.bInts cb = ls := Prod.mk.inj hP2
      have hll : ls.length = ks.length := hlen2.trans hlen
      dsimp only [kstB] at F3
      dsimp only
      refine wpC_execs_cons (wpC_If (wpC_of_any ?_))
      k_steps
      · refine wpC_execs_cons (wpC_Assign_Name (wpC_BinOp (wpC_BinOp (wpC_of_any ?_))))
        k_steps
        refine wpC_Call_Name2 ?_
        k_steps
        refine callWith_fn2C hd118 ?_
        k_steps
        · rename Fr g1 _ _ _ => F8
          exact F8.keep _ _ ((by k_asm : (Mine.hd.heap_39 w.params).In g1) _ _ ho118)
        · rename KBw.bInts (KBy.picked cb (some _) (some _)) = _ => kb2
          rename KBw.bInts (KBy.picked cb none (some _)) = _ => kb1
          have ec : clipAt ls.length ((j : Int) + 2) = min (j + 2) ls.length := by
            rw [show (j : Int) + 2 = ((j + 2 : Nat) : Int) by omega]; exact clipAt_nat _ _
          (refine spC_useA (sp_bs2 w _ _ kb2 (by rw [List.length_take, List.length_drop, ec]; omega) _ _) ?_)
          intro v new h' tk' hPv F' N' hlt
          obtain ⟨b2, t2, rfl, hb3, rfl⟩ := hPv
          simp only [List.nil_append] at N'
          dsimp only
          refine KBa.add_K kb1 hb3 (by simp only [List.length_take, List.length_drop, List.length_reverse]; omega) ?_
          intro tA kA kb3
          refine wpC_of_any ?_
          k_steps
          rename KBw.bInts (KBy.picked cb (some _) none) = _ => kb4
          refine KBa.add_K kb3 kb4 (by simp only [List.length_append, List.length_take, List.length_drop, List.length_reverse]; omega) ?_
          intro tB kB kb5
          k_steps
          refine wpC_of_any ?_
          k_steps
          refine wpC_of_any (wpAny_execs_nil ?_)
          rename Fr g1 _ _ _ => F8
          rename News g1 _ _ _ => N8
          refine' InvEndN.intro F8 N8 (RS.mk' ⟨?xn, ?xb, ?xt, ?xu⟩ trivial ?kps ?same ?hP) ?adr ?sub ?own
          case kps => exact List.forall_mem_cons.2 ⟨by with_unfolding_all rfl, List.forall_mem_cons.2 ⟨by with_unfolding_all rfl, fun _ h => nomatch h⟩⟩
          case adr => rfl
          case sub => intro p hp; exact List.mem_append_left _ hp
          case own => intro p hp; exact List.mem_append_right _ hp
          case same =>
            intro z h1 h2 h3
            have a1 := h2 _ (.head _)
            have a2 := h2 _ (.tail _ (.head _))
            dsimp only at a1 a2
            simp only [kstB, if_neg h1, if_neg a1, if_neg a2]
            exact if_neg (fun q => Bool.false_ne_true q)
          case hP =>
            rename ls.getD ((j : Int) + 1).toNat 0 < ls.getD (j : Int).toNat 0 => hgt
            rw [show ((j : Int) + 1).toNat = j + 1 by omega, show (j : Int).toNat = j by omega] at hgt
            rw [ec, swap_eq (by omega)] at kb5
            show _ = bubS (bubI (bubO ks i) j) j
            rw [hst, bubS_yes hgt]
            exact congrArg (Prod.mk _) kb5
      · refine wpC_of_any (wpAny_execs_nil (wpC_of_any (wpAny_execs_nil ?_)))
        refine InvEndN.intro F3 N3 (RS.mk' ⟨cn2, cb, ct, cu⟩ trivial ?kps ?same ?hP) ?adr ?sub ?own
        case kps => exact List.forall_mem_cons.2 ⟨by with_unfolding_all rfl, List.forall_mem_cons.2 ⟨by with_unfolding_all rfl, fun _ h => nomatch h⟩⟩
        case adr => rfl
        case sub => intro p hp; exact List.mem_append_left _ hp
        case own => intro p hp; exact List.mem_append_right _ hp
        case same =>
          intro z h1 h2 h3
          have a1 := h2 _ (.head _)
          have a2 := h2 _ (.tail _ (.head _))
          dsimp only at a1 a2
          simp only [kstB, if_neg h1, if_neg a1, if_neg a2]
          exact if_neg (fun q => Bool.false_ne_true q)
        case hP =>
          rename ¬ ls.getD ((j : Int) + 1).toNat 0 < ls.getD (j : Int).toNat 0 => hgt
          rw [show ((j : Int) + 1).toNat = j + 1 by omega, show (j : Int).toNat = j by omega] at hgt
          show _ = bubS (bubI (bubO ks i) j) j
          rw [hst, bubS_no hgt]
          exact congrArg (Prod.mk _) hb2
    case done2 =>
      intro c u h tk _ hP2 F3 N3
      refine wpC_of_any (wpAny_execs_nil ?_)
      refine InvEndN.intro F3 N3 (RS.mk' c trivial ?kps ?same hP2) ?adr ?sub ?own
      case kps => exact List.forall_mem_cons.2 ⟨by with_unfolding_all rfl, List.forall_mem_cons.2 ⟨by with_unfolding_all rfl, fun _ h => nomatch h⟩⟩
      case adr => rfl
      case sub => intro p hp; exact List.mem_append_left _ hp
      case own => intro p hp; exact List.mem_append_right _ hp
      case same =>
        intro z h1 h2 h3
        have a1 := h2 _ (.head _)
        have a2 := h2 _ (.tail _ (.head _))
        dsimp only at a1 a2
        have h4 : z ≠ "spot" := fun e => by rw [e] at h3; exact absurd h3 (by decide)
        dsimp only [kstB]
        simp only [if_neg h1, if_neg a1, if_neg a2, if_neg h4]
        have h5 : ¬ ((["spot"] : List PySem.Str).contains z = true) := fun q => by rw [h3] at q; cases q
        simp only [if_neg h5]
        rfl
  case done =>
    intro c u h tk _ hP F2 N2
    refine wpC_of_any ?_
    k_steps
    rename Fr h₀ L _ m => F9
    rename News h₀ L _ _ => N9
    have q1 : c.n = (bubO ks (ks.length - 1)).1 := congrArg Prod.fst hP
    have q2 : KBw.bInts c.b = (bubO ks (ks.length - 1)).2 := congrArg Prod.snd hP
    refine sp_end1 hret ⟨_, c.b, c.t, c.u, rfl, by rw [← q1], q2⟩ F9 N9 ?ll
    assumption
end Mine
end
/- part Fread -/
section
set_option Elab.async false
set_option maxRecDepth 100000
namespace Mine
section
variable {prog : Program} {w : World} {A : Around} {E : Value → Shared → Prop} {s : Shared} {x : PySem.Str} {t u : Tok} {Q : Value → Shared → Prop}
theorem mul_int_str {n : Int} (hok : MulOk x n) (h : ∀ t' k, Q (.str (Txt.mul x n) t') { s with toks := k }) : wpAny (model prog w) A (binaryOp .Mult (.int n u) (.str x t)) Q E s := by
  have h2 : wpAny (model prog w) A (call (.builtin "str.__mul__") [.str x t, .int n u]) Q E s := by
    refine call_gives F.slot_str_mul (typeIs_str s x t) F.entry_str_mul (F.args_str_mul_2 _ _) (gives_str_mul x n t u hok.1 hok.2.1 hok.2.2) ?_
    unfold Txt.mul at h
    by_cases h1 : n < 1
    · rw [if_pos h1]; have h' := h s.toks (s.toks + 1); rw [if_pos h1] at h'; exact ⟨by decide, h'⟩
    · rw [if_neg h1]; refine post_val_or_made (fun hc => fits_reps (hok.2.2 h1 (by simpa using hc))) fun t' k => ?_
      have h' := h t' k; rw [if_neg h1] at h'; exact h'
  exact lm_binaryOp_repeat_right (T := "str") (U := "int") (by decide) (fun s' => typeIs_int s' n u) (typeIs_str s x t) F.fills_int_mul noFill_str_mul F.slot_int_mul lm_noRepeat_int repeat_str F.slot_int_index.lookup
    (call_gives F.slot_int_mul (typeIs_int s n u) F.entry_int_mul (F.args_int_mul_2 _ _) (AutoIntG3.int___mul___int_str_0 n u x t) ⟨rfl, typeIs_str s x t, h2⟩)
end
theorem one_ok {n : Int} (h0 : 0 ≤ n) (h1 : n ≤ 100) : MulOk ("\"" : PySem.Str) n := by
  have e : ("\"" : PySem.Str).length = 1 := by decide +kernel
  refine ⟨?_, fun a _ => ?_, fun _ _ => ?_⟩
  · simp only [Bool.or_eq_false_iff, decide_eq_false_iff_not]; omega
  · rw [e]
    have : 1 ≤ (2 ^ 63 - 1) / n := by
      rw [Int.le_ediv_iff_mul_le (by omega)]; omega
    omega
  · rw [e]
    show decide _ = false
    have : 1000 ≤ sizeLine := by decide +kernel
    simp only [decide_eq_false_iff_not]; omega
def qs (n : Int) : PySem.Str := Txt.mul "\"" n
def respP (n : Int) : PySem.Str := "257 \"" ++ qs n ++ "k\""
/-- _law_reading -/
def readP (n : Int) : Option PySem.Str := parseRun (respP n) 70 5 ""
def respOk (n : Int) : Bool := (qs n).length ≤ 60 && (respP n).length ≤ 100 && !(Txt.slice (respP n) none (some 3) != ("257" : PySem.Str)) && !(Txt.slice (respP n) (some 3) (some 5) != (" \"" : PySem.Str))
theorem respOk_all : ∀ n : Fin 61, respOk (n.val : Int) = true := by decide +kernel
theorem respOk_of {n : Int} (h0 : 0 ≤ n) (h1 : n ≤ 60) : respOk n = true := by
  have := respOk_all ⟨n.toNat, by omega⟩
  rwa [show (((⟨n.toNat, by omega⟩ : Fin 61).val : Nat) : Int) = n from Int.toNat_of_nonneg h0] at this
set_option maxHeartbeats 4000000 in
theorem sp_read (w : World) (n : Int) (r : PySem.Str) (h0 : 0 ≤ n) (h1 : n ≤ 60) (hr : readP n = some r) (t1 : Tok) : Sp 2 w 151 [.int n t1] (fun v new => ∃ t, v = .str r t ∧ new = []) := by
  have ho := respOk_of h0 h1
  unfold respOk at ho
  simp only [Bool.and_eq_true, decide_eq_true_eq, Bool.not_eq_true'] at ho
  obtain ⟨⟨⟨hq, hl⟩, ha⟩, hb⟩ := ho
  have hp : ParI (respP n) r 5 "" := ⟨⟨70, hr⟩⟩
  unfold Sp
  k_fill
  intro mean mg mb dp un cn cs a ccd cl outer A₀ base h₀ L m news s Q E B F X N T hk hd hu hret
  refine wpAny_call ?_
  k_dflt ((refine' code_def ?k1 ?k2 ?k3 ?k4 ?k5 ?kA ?kF ?kK ?k6 ?k7 ?k8 ?k9 ?kB ?_ ?c2 ?c3 ?c4 ?c5; (case kA => exact rfl); (case kF => exact rfl); (case kK => assumption); (case k1 => k_asm); (case k2 => k_asm); (case k3 => k_asm); (case k4 => k_asm); (case k5 => k_asm); (case k6 => k_is); (case k7 => k_is); (case k8 => ktr_room); (case k9 => exact BindsTo.of_eq rfl); (case c5 => decide); (case kB => exact locs rfl); (case c2 => exact rfl); (case c3 => exact rfl); (case c4 => exact rfl); k_whole; intro g1 L1 h' FG' F' N' B' X' T'; have hMk9 := kstMark; (try dsimp only); (try k_lift B'); (try k_fold)))
  k_steps
  refine mul_int_str (one_ok h0 (by omega)) ?_
  intro tq kq
  show wpAny _ _ (binaryOp Operator.Add (.str _ _) (.str (qs n) tq)) _ _ _
  refine add_short (a := 5) (b := 60) (by decide +kernel) hq (by decide +kernel) ?_
  intro tr kr
  k_steps
  k_dflt ((refine sp_useA (sp_parse w (respP n) r hl ha hb hp _) ?_))
  intro v9 new9 h9 tk9 P9 F9 N9 l9
  obtain ⟨t9, e9, e8⟩ := P9
  subst e9
  subst e8
  clear l9
  simp only [List.nil_append] at N9
  dsimp only
  k_steps
  rename Fr h₀ L _ m => F9
  rename News h₀ L _ _ => N9
  exact sp_end0 hret ⟨_, rfl, rfl⟩ F9 (cb_drop N9 (by repeat' (first | exact sub_rfl | refine sub_cons ?_)))
end Mine
end
/- part Sg -/
section
open PySem.Calls
open Sem (wp)
set_option Elab.async false
set_option maxRecDepth 100000
namespace Mine
def lawDef : Option (Arguments × List Stmt × Scope) := PySem.Challenge.rw_zo0013_01.row.prog.theDef PySem.Challenge.rw_zo0013_01.row.name
def lawSc : Scope := match lawDef with | some (_, _, s) => s | none => default
def lawSt (n : Nat) : Stmt := match lawDef with | some (_, b, _) => b.getD n (.Pass default) | none => .Pass default
/-- For_rangeA where one object of the ledger changes -/
theorem For_rangeL {σ : Type} {prog : Program} {w : World} {A : Around} {E : Value → Shared → Prop} {s : Shared} {env : Env} {h₀ : Heap} {x : PySem.Str} {body : List Stmt} {Q : Flow → Shared → Prop} {px pos : Pos} {iter : Expr} {m₀ : PySem.Str → Option Value} {a b st : Int} {n : Nat} {D : Addr} {rest : List (Addr × Obj)} (ob : σ → Obj) (ps : σ → List (PySem.Str × Value)) (Facts : σ → Prop) (stored : List PySem.Str) (P : Nat → σ → Prop) (c₀ : σ)
    (F₀ : Fr h₀ env.locals s.heap m₀) (N₀ : News h₀ env.locals s.heap ((D, ob c₀) :: rest)) (hx : env.kindOf x = some .local) (hpl : (env.scope.kind == .class || (env.scope.kind == .module && env.locals != env.globals)) = false)
    (hh : A.handled = none) (hsmall : Builtin.Range.small a b st = true) (hn : Builtin.Range.rangeSize a b st = (n : Int))
    (hev : wpAny (model prog w) A (eval iter env) (fun xv s₁ => ∃ r h tk t₀ u₀ v₀, xv = .ref r ∧ s₁ = { s with heap := h, toks := tk } ∧ IsRange h r a b st t₀ u₀ v₀ ∧ Fr h₀ env.locals h m₀ ∧ News h₀ env.locals h ((D, ob c₀) :: rest)) E s)
    (hf : Facts c₀) (hk : ∀ p ∈ ps c₀, m₀ p.1 = some p.2) (hp : P 0 c₀)
    (turn : ∀ (c : σ) (i : Nat) t (u : PySem.Str → Option Value) h tk own, i < n → OwnOff own (D :: rest.map (·.1)) → Facts c → P i c →
      Fr h₀ env.locals h (fun y => if y = x then some (.int (a + (i : Int) * st) t) else kstB (fun z => if stored.contains z then u z else m₀ z) (ps c) y) → News h₀ env.locals h ((D, ob c) :: (rest ++ own)) →
      wpAny (model prog w) A (execs body env) (InvPostN h₀ env.locals (RS (fun c => (D, ob c) :: rest) ps Facts x stored m₀ P (i + 1)) own (D :: rest.map (·.1)) { s with heap := h, toks := tk } Q) E { s with heap := h, toks := tk })
    (done : ∀ (c : σ) (u : PySem.Str → Option Value) h tk, Facts c → P n c → Fr h₀ env.locals h (fun y => if y = x then u y else kstB (fun z => if stored.contains z then u z else m₀ z) (ps c) y) → News h₀ env.locals h ((D, ob c) :: rest) → Q .next { s with heap := h, toks := tk })
    (hE : PassesOwn (model prog w) A env E)
    (hs : ∀ x, foldedSetIterable iter env x = pure x := by intro _; rfl) :
    wpAny (model prog w) A (exec (.For (.Name x px) iter body [] pos) env) Q E s :=
  For_rangeA (fun c => (D, ob c) :: rest) ps Facts stored P c₀ F₀ N₀ hx hpl hh hsmall hn hev hf hk hp turn done hs hE
theorem fr_name {h₀ h : Heap} {L : Addr} {m : PySem.Str → Option Value} {x : PySem.Str} {v : Value} (F : Fr h₀ L h m) (e : m x = some v) : Fr h₀ L h (fun y => if y = x then some v else m y) := by
  have q : (fun y => if y = x then some v else m y) = m := by
    funext y
    by_cases c : y = x
    · rw [if_pos c, c, e]
    · rw [if_neg c]
  rw [q]; exact F
/-- a / z of two ints -/
abbrev fracE (a z : Int) : UInt64 := Float64.ofFrac (decide (a < 0) != decide (z < 0)) a.natAbs z.natAbs
/-- the number next to a hue's place -/
def nearU (hue : UInt64) : Option Int :=
  if Float64.isFinite (Float64.add hue fH) = true then
    if bigI (Flt.toInt Float64.truncOf (Float64.add hue fH)) = true then none else
    if (Float64.cmp (Float64.abs (Float64.sub hue (Float64.ofInt (Flt.toInt Float64.truncOf (Float64.add hue fH))))) 4517329193108106637 == some Ordering.gt) = true then none else
    some (Flt.toInt Float64.truncOf (Float64.add hue fH))
  else none
/-- the number next to the hue of a / z, as rgb_to_hls tells it of hsv_to_rgb's colour -/
def near1 (a z : Int) : Option Int :=
  if Float64.isInf (fracE a z) = true then none else
  match hsvP (fracE a z) with
  | none => none
  | some (c1, c2, c3) => match hlsP c1 c2 c3 with
    | none => none
    | some (hh, _, _) => nearU (Float64.mul hh (Float64.ofInt z))
theorem near1_some {a z p : Int} (h : near1 a z = some p) : Float64.isInf (fracE a z) = false ∧ ∃ c1 c2 c3 hh ll ss, hsvP (fracE a z) = some (c1, c2, c3) ∧ hlsP c1 c2 c3 = some (hh, ll, ss) ∧ nearU (Float64.mul hh (Float64.ofInt z)) = some p := by
  unfold near1 at h
  cases e : Float64.isInf (fracE a z) with
  | true => rw [if_pos e] at h; cases h
  | false =>
    rw [if_neg (by rw [e]; exact Bool.false_ne_true)] at h
    refine ⟨rfl, ?_⟩
    cases q : hsvP (fracE a z) with
    | none => rw [q] at h; cases h
    | some x =>
      obtain ⟨c1, c2, c3⟩ := x
      rw [q] at h
      dsimp only at h
      cases q2 : hlsP c1 c2 c3 with
      | none => rw [q2] at h; cases h
      | some y =>
        obtain ⟨hh, ll, ss⟩ := y
        rw [q2] at h
        exact ⟨c1, c2, c3, hh, ll, ss, rfl, q2, h⟩
theorem nearU_some {hue : UInt64} {p : Int} (h : nearU hue = some p) : Float64.isFinite (Float64.add hue fH) = true ∧ bigI p = false ∧ Flt.toInt Float64.truncOf (Float64.add hue fH) = p ∧ (Float64.cmp (Float64.abs (Float64.sub hue (Float64.ofInt p))) 4517329193108106637 == some Ordering.gt) = false := by
  unfold nearU at h
  cases e : Float64.isFinite (Float64.add hue fH) with
  | false => rw [if_neg (by rw [e]; exact Bool.false_ne_true)] at h; cases h
  | true =>
    rw [if_pos e] at h
    cases e2 : bigI (Flt.toInt Float64.truncOf (Float64.add hue fH)) with
    | true => rw [if_pos e2] at h; cases h
    | false =>
      rw [if_neg (by rw [e2]; exact Bool.false_ne_true)] at h
      cases e3 : (Float64.cmp (Float64.abs (Float64.sub hue (Float64.ofInt (Flt.toInt Float64.truncOf (Float64.add hue fH))))) 4517329193108106637 == some Ordering.gt) with
      | true => rw [if_pos e3] at h; cases h
      | false =>
        rw [if_neg (by rw [e3]; exact Bool.false_ne_true)] at h
        cases h
        exact ⟨rfl, e2, rfl, e3⟩
theorem not_nan_of_fin {x : UInt64} (h : Float64.isFinite x = true) : Float64.isNaN x = false := by
  cases e : Float64.isNaN x with
  | false => rfl
  | true => rw [fin_of_nan e] at h; cases h
theorem not_inf_of_fin {x : UInt64} (h : Float64.isFinite x = true) : Float64.isInf x = false := by
  cases e : Float64.isInf x with
  | false => rfl
  | true => rw [fin_of_inf e] at h; cases h
def placeP (r z : Int) (i : Nat) : Int := ((near1 (r * i) z).getD 0).fmod z
def placesP (r z : Int) (n : Nat) : List Int := (List.range n).map (placeP r z)
theorem placesP_succ (r z : Int) (n : Nat) : placesP r z (n + 1) = placesP r z n ++ [placeP r z n] := by
  unfold placesP; rw [List.range_succ, List.map_append]; rfl
theorem placesP_len (r z : Int) (n : Nat) : (placesP r z n).length = n := by unfold placesP; rw [List.length_map, List.length_range]
def lostP (r z : Int) : Nat → Int
  | 0 => 0
  | i + 1 => if (i : Int) ≤ z.fdiv 2 then lostP r z i + (r * i - placeP r z i).fdiv z else lostP r z i
/-- the law's frame behind its loops -/
abbrev lawF (lost places sign half factor drawn : Value) (m : PySem.Str → Option Value) : PySem.Str → Option Value := fun y =>
  if y = "lost" then some lost else if y = "places" then some places else if y = "sign" then some sign else if y = "half" then some half else if y = "factor" then some factor else if y = "drawn" then some drawn else m y
/-- what the law's frame knows of the top -/
structure LawX (w : World) (mean : ExcName → Option Value) (mg mb : PySem.Str → Option Value) (h₀ : Heap) : Prop where
  K : (Mine.hd.heap_39 w.params).In h₀
  X : Flt.MathXP Mine.hd.view_39 mg h₀
  V : LooseAre LVS mg h₀
  GL : Glob 0 mg mb (List.map itemOf (recsOf hd.view_39)) (scalarsOf LVS ++ constsW hd.view_39) [] (namesW hd.view_39 LOO) h₀
  T : Top Mine.hd.view_39 (looseW Mine.hd.view_39 LOO) mean mg mb h₀
  TB : Tables hd.view_39 w mg h₀
  TE : TopE hd.view_39 (looseW hd.view_39 LOO) mg h₀
  TW : TopW hd.view_39 mg h₀
  B : Below callerA h₀ [] h₀
abbrev lawN : PySem.Str := PySem.Str.ofString "law"
abbrev LawAr (L fa : Addr) (cv : Value) : Around := ktrTop (1 + claimMargin + 1) 7 (some []) lawN lawSc L fa cv (cellsFrom (L + 1) lawSc.names []) []
abbrev LawE (L fa : Addr) (cv : Value) : Env := envOfC lawN lawSc L fa cv
abbrev LawM (w : World) : Model := model PySem.Challenge.rw_zo0013_01.row.prog w
end Mine
end
local macro_rules | `(tactic| k_steps) => `(tactic| repeat' ((fail_if_success (with_reducible show InvEndN _ _ _ _ _ _ _)); first | (k_unfold; (try dsimp only)) | (k_end; wrow_close) | (walk1; (all_goals (try ((with_reducible show wpAny _ _ (eval _ _) _ _ _); dsimp only)))) | (leave1; walk_say "STEP leave1"; try dsimp only) | fail "no step"))
local macro_rules | `(tactic| tb_rel) => `(tactic| (intro v9 new9 h9 tk9 P9 F9 N9 l9; obtain ⟨t9, e9, e8⟩ := P9; subst e9; subst e8; clear l9; simp only [List.nil_append] at N9; (try dsimp only); (try k_fold)))
local macro_rules | `(tactic| ktr_unf) => `(tactic| (intro v9 new9 h9 tk9 P9 F9 N9 l9; k_dflt (obtain ⟨a9, t9, u9, y9, e9, e8⟩ := P9); subst e9; subst e8; dsimp only [Mine.tup3] at N9; simp only [List.cons_append, List.nil_append] at N9; (try dsimp only); (try k_fold)))
/- part Sh -/
section
open PySem.Calls
set_option Elab.async false
namespace Mine
/-- the factor goes on by twos until nothing but 1 divides both -/
def shareRun : Nat → Int → Int → Option Int
  | 0, _, _ => none
  | n + 1, f, z => if ((Int.gcd f z : Nat) : Int) ≠ 1 then (if f ≤ 38 then shareRun n (f + 2) z else none) else some f
structure ShI (z r f : Int) : Prop where
  run : ∃ n, shareRun n f z = some r
theorem ShI.next {z r f : Int} (h : ShI z r f) (h0 : 0 < f) (_h2 : f ≤ 40) (h1 : ((Int.gcd f z : Nat) : Int) ≠ 1) : (0 < f + 2 ∧ f + 2 ≤ 40) ∧ ShI z r (f + 2) := by
  obtain ⟨n, h⟩ := h
  cases n with
  | zero => cases h
  | succ n =>
    unfold shareRun at h
    rw [if_pos h1] at h
    by_cases h2 : f ≤ 38
    · rw [if_pos h2] at h; exact ⟨by omega, ⟨n, h⟩⟩
    · rw [if_neg h2] at h; cases h
theorem ShI.fin {z r f : Int} (h : ShI z r f) (h1 : ¬ ((Int.gcd f z : Nat) : Int) ≠ 1) : f = r := by
  obtain ⟨n, h⟩ := h
  cases n with
  | zero => cases h
  | succ n => unfold shareRun at h; rw [if_neg h1] at h; exact Option.some.inj h
end Mine
end
/- part S8 -/
section
open PySem.Calls
open Sem (wp)
set_option Elab.async false
set_option maxRecDepth 100000
namespace Mine
local macro_rules | `(tactic| walk_at "call ref") => `(tactic| (k_here; (with_reducible show wpAny _ _ (call (Value.ref 79) [Value.float _ _, Value.float _ _, Value.float _ _]) _ _ _); k_dflt ((refine sp_useA (sp_hsv _ _ _ (by assumption) _ _ _) ?_)); ktr_unf))
local macro_rules | `(tactic| walk_at "call ref") => `(tactic| (k_here; (with_reducible show wpAny _ _ (call (Value.ref 51) [Value.float _ _, Value.float _ _, Value.float _ _]) _ _ _); k_dflt ((refine sp_useA (sp_Fhls _ _ _ _ _ (by assumption) _ _ _) ?_)); ktr_unf))
local macro_rules | `(tactic| walk_at "call builtin:list.append") => `(tactic| (k_here; k_dflt (show wpAny _ _ (call (Value.builtin _) [Value.ref _, _]) _ _ _); (rename Fr _ _ _ _ => F8); (rename News _ _ _ _ => N8); k_dflt (refine' append_K F8 (cb_drop N8 sub_tl2) (Upd.head (by assumption)) ?_ (by assumption)); k_whole; clear N8 F8; intro h8 F8 N8))
structure P1 where
  vs : List Value
  ep : Nat
  n : Int
  t : Tok
theorem s8_end {h₀ h' : Heap} {L P D : Addr} {m9 m₀ : PySem.Str → Option Value} {vs : List Value} {p : Int} {t' tl : Tok} {ep : Nat} {ws : List Value} {ob : Obj} {own : List (Addr × Obj)} {n' r z : Int} {i : Nat} {s₁ : Shared} {tk : Nat}
    (F9 : Fr h₀ L h' m9) (N9 : News h₀ L h' ((P, W.listOf (vs.toArray.push (.int p t')) (ep + 1)) :: (D, W.listOf ws.toArray 0) :: (L + 1, ob) :: own))
    (hvs : IntsAre vs (placesP r z i)) (hpl : placeP r z i = p) (hn : n' = lostP r z (i + 1)) (hl : m9 "lost" = some (.int n' tl))
    (same : ∀ y : PySem.Str, y ≠ "k" → y ≠ "lost" → (["red", "green", "blue", "hue", "near"] : List PySem.Str).contains y = false → m9 y = m₀ y) :
    InvEndN h₀ L (RS (fun c : P1 => [(P, W.listOf c.vs.toArray c.ep), (D, W.listOf ws.toArray 0), (L + 1, ob)]) (fun c => [("lost", Value.int c.n c.t)]) (fun _ => True) "k" ["red", "green", "blue", "hue", "near"] m₀ (fun i c => IntsAre c.vs (placesP r z i) ∧ c.n = lostP r z i) (i + 1)) own (P :: List.map (fun x => x.1) [(D, W.listOf ws.toArray 0), (L + 1, ob)]) s₁ { s₁ with heap := h', toks := tk } := by
  rw [List.push_toArray] at N9
  refine InvEndN.intro F9 N9 (RS.mk' ⟨vs ++ [.int p t'], ep + 1, n', tl⟩ trivial (List.forall_mem_cons.2 ⟨hl, fun _ h => nomatch h⟩) (fun y h1 h2 h3 => same y h1 (h2 _ (.head _)) h3) ⟨?_, hn⟩) rfl (fun q hq => ?_) (fun q hq => .tail _ (.tail _ (.tail _ hq)))
  · rw [placesP_succ, hpl]; exact hvs.append (.cons _ _ .nil)
  · rcases List.mem_cons.mp hq with rfl | hq
    · exact .head _
    · rcases List.mem_cons.mp hq with rfl | hq
      · exact .tail _ (.head _)
      · rcases List.mem_cons.mp hq with rfl | hq
        · exact .tail _ (.tail _ (.head _))
        · cases hq
set_option maxHeartbeats 1000000 in
theorem seg8 (w : World) {mean : ExcName → Option Value} {mg mb : PySem.Str → Option Value} {h₀ : Heap} {L fa D P : Addr} {cv sv : Value} {s : Shared} {m : PySem.Str → Option Value} {Q : Flow → Shared → Prop} {E : Value → Shared → Prop} {ws : List Value} {ob : Obj} {r z : Int} {t1 t2 t3 t4 : Tok}
    (LX : LawX w mean mg mb h₀)
    (F : Fr h₀ L s.heap (lawF (.int 0 t1) (.ref P) sv (.int (z.fdiv 2) t2) (.int r t3) (.ref D) m))
    (N : News h₀ L s.heap [(P, W.listOf #[] 0), (D, W.listOf ws.toArray 0), (L + 1, ob)]) (hob : ob.data = .cell (some (.int z t4))) (hP : D < P) (hD : L + 1 < D) (hz : 3 ≤ z ∧ z ≤ 15) (hr : 1 ≤ r ∧ r ≤ 40)
    (H8 : ∀ i : Nat, i < z.toNat → (near1 (r * i) z).isSome = true)
    (hE : PassesOwn (LawM w) (LawAr L fa cv) (LawE L fa cv) E)
    (post : ∀ vs ep t m' h tk, IntsAre vs (placesP r z z.toNat) → Fr h₀ L h (lawF (.int (lostP r z z.toNat) t) (.ref P) sv (.int (z.fdiv 2) t2) (.int r t3) (.ref D) m') → News h₀ L h [(P, W.listOf vs.toArray ep), (D, W.listOf ws.toArray 0), (L + 1, ob)] → Q .next { s with heap := h, toks := tk }) :
    wpAny (LawM w) (LawAr L fa cv) (exec (lawSt 8) (LawE L fa cv)) Q E s := by
  obtain ⟨K, X, V, GL, T, TB, TE, TW, B⟩ := LX
  unfold LawAr LawE LawM lawN at hE ⊢
  revert K
  k_fill
  intro K
  obtain ⟨_, _, M⟩ := bmod_of_top T
  have eS : lawSc = Scope.mk _ _ _ _ _ := rfl
  have e8 : lawSt 8 = Stmt.For _ _ _ _ _ := rfl
  rw [eS] at hE ⊢
  rw [e8]
  clear eS e8
  have hMk9 := kstMark
  dsimp only at hE ⊢
  refine' For_rangeL (σ := P1) (a := 0) (b := z) (st := 1) (n := z.toNat) (fun c => W.listOf c.vs.toArray c.ep) (fun c => [("lost", .int c.n c.t)]) (fun _ => True) ["red", "green", "blue", "hue", "near"] (fun i c => IntsAre c.vs (placesP r z i) ∧ c.n = lostP r z i) ⟨[], 0, 0, t1⟩ F N rfl rfl rfl ?small ?size ?hev trivial ?hk ?h0 ?turn ?done hE
  case hk => exact List.forall_mem_cons.2 ⟨by with_unfolding_all rfl, fun _ h => nomatch h⟩
  case small => exact small_one (by omega) (by omega) (by omega) (by omega)
  case size =>
    exact (rangeSize_nat 0 z).trans (by rw [Int.sub_zero])
  case h0 => exact ⟨.nil, rfl⟩
  case hev =>
    k_fold
    k_steps
    all_goals assumption
  case turn =>
    intro c i t u h tk own hi hoff _ hP F2 N2
    have e1 : (0 : Int) + ((i : Nat) : Int) * 1 = i := by omega
    rw [e1] at F2
    obtain ⟨vs, ep, n, tn⟩ := c
    obtain ⟨hvs, hn⟩ := hP
    dsimp only at hvs hn
    dsimp only [kstB] at F2 N2
    simp only [List.cons_append, List.nil_append] at N2
    (try dsimp only)
    obtain ⟨p, hp⟩ := Option.isSome_iff_exists.mp (H8 i hi)
    have hpl : placeP r z i = p.fmod z := by unfold placeP; rw [hp]; rfl
    obtain ⟨f0, c1, c2, c3, hh, ll, ss, f1, f2, f3⟩ := near1_some hp
    obtain ⟨f4, f5, f6, f7⟩ := nearU_some f3
    have f8 := not_nan_of_fin f4
    have f9 := not_inf_of_fin f4
    clear hp f3 H8
    subst f6
    have hneP : ∀ q ∈ ((D, W.listOf ws.toArray 0) :: (L + 1, ob) :: own : List (Addr × Obj)), q.1 ≠ P := by
      intro q hq
      rcases List.mem_cons.mp hq with rfl | hq
      · exact Nat.ne_of_lt ‹D < P›
      · rcases List.mem_cons.mp hq with rfl | hq
        · exact Nat.ne_of_lt (Nat.lt_trans hD ‹D < P›)
        · exact hoff q hq P (.head _)
    have hsz : (vs.toArray).size ≤ sizeLine := by
      have a1 := hvs.length
      rw [placesP_len] at a1
      have a2 : 1000 ≤ sizeLine := by decide +kernel
      rw [List.size_toArray]
      omega
    (try k_fold)
    k_steps
    · exact absurd (f5.symm.trans (bigI_of (by assumption))) Bool.false_ne_true
    · rename Fr h₀ L _ _ => F9
      rename News h₀ L _ _ => N9
      rename (i : Int) ≤ z.fdiv 2 => hle
      refine s8_end F9 N9 hvs hpl ?_ (by with_unfolding_all rfl) ?_
      · show _ = if (i : Int) ≤ z.fdiv 2 then lostP r z i + (r * i - placeP r z i).fdiv z else lostP r z i
        rw [if_pos hle, hpl, ← hn]
      · intro y h1 a1 h3
        have b1 : y ≠ "near" := fun e => by rw [e] at h3; exact absurd h3 (by decide)
        have b2 : y ≠ "hue" := fun e => by rw [e] at h3; exact absurd h3 (by decide)
        have b3 : y ≠ "blue" := fun e => by rw [e] at h3; exact absurd h3 (by decide)
        have b4 : y ≠ "green" := fun e => by rw [e] at h3; exact absurd h3 (by decide)
        have b5 : y ≠ "red" := fun e => by rw [e] at h3; exact absurd h3 (by decide)
        have h5 : ¬ ((["red", "green", "blue", "hue", "near"] : List PySem.Str).contains y = true) := fun q => by rw [h3] at q; cases q
        simp only [if_neg h1, if_neg a1, if_neg b1, if_neg b2, if_neg b3, if_neg b4, if_neg b5, if_neg h5]
    · rename Fr h₀ L _ _ => F9
      rename News h₀ L _ _ => N9
      rename ¬ (i : Int) ≤ z.fdiv 2 => hle
      refine s8_end F9 N9 hvs hpl (n' := n) (tl := tn) ?_ (by with_unfolding_all rfl) ?_
      · show _ = if (i : Int) ≤ z.fdiv 2 then lostP r z i + (r * i - placeP r z i).fdiv z else lostP r z i
        rw [if_neg hle, ← hn]
      · intro y h1 a1 h3
        have b1 : y ≠ "near" := fun e => by rw [e] at h3; exact absurd h3 (by decide)
        have b2 : y ≠ "hue" := fun e => by rw [e] at h3; exact absurd h3 (by decide)
        have b3 : y ≠ "blue" := fun e => by rw [e] at h3; exact absurd h3 (by decide)
        have b4 : y ≠ "green" := fun e => by rw [e] at h3; exact absurd h3 (by decide)
        have b5 : y ≠ "red" := fun e => by rw [e] at h3; exact absurd h3 (by decide)
        have h5 : ¬ ((["red", "green", "blue", "hue", "near"] : List PySem.Str).contains y = true) := fun q => by rw [h3] at q; cases q
        simp only [if_neg h1, if_neg a1, if_neg b1, if_neg b2, if_neg b3, if_neg b4, if_neg b5, if_neg h5]
  case done =>
    intro c u h tk _ hP F2 N2
    obtain ⟨vs, ep, n, tn⟩ := c
    obtain ⟨hvs, hn⟩ := hP
    dsimp only at hvs hn F2 N2
    subst hn
    refine post vs ep tn _ h tk hvs (fr_name (fr_name (fr_name (fr_name (fr_name (fr_name F2 ?a1) ?a2) ?a3) ?a4) ?a5) ?a6) N2
    all_goals with_unfolding_all rfl
end Mine
end
/- part S9 -/
section
open PySem.Calls
open Sem (wp)
set_option Elab.async false
set_option maxRecDepth 100000
namespace Mine
set_option maxHeartbeats 1000000 in
theorem seg9 (w : World) {mean : ExcName → Option Value} {mg mb : PySem.Str → Option Value} {h₀ : Heap} {L fa : Addr} {cv : Value} {s : Shared} {m : PySem.Str → Option Value} {Q : Flow → Shared → Prop} {E : Value → Shared → Prop} {news : List (Addr × Obj)}
    (LX : LawX w mean mg mb h₀) (F : Fr h₀ L s.heap m) (N : News h₀ L s.heap news)
    (hE : PassesOwn (LawM w) (LawAr L fa cv) (LawE L fa cv) E)
    (post : ∀ t h tk, Fr h₀ L h (fun y => if y = "below" then some (.int 0 t) else m y) → News h₀ L h news → Q .next { s with heap := h, toks := tk }) :
    wpAny (LawM w) (LawAr L fa cv) (exec (lawSt 9) (LawE L fa cv)) Q E s := by
  obtain ⟨K, X, V, GL, T, TB, TE, TW, B⟩ := LX
  unfold LawAr LawE LawM lawN at hE ⊢
  revert K
  k_fill
  intro K
  have eS : lawSc = Scope.mk _ _ _ _ _ := rfl
  have e8 : lawSt 9 = Stmt.Assign _ _ _ := rfl
  rw [eS] at hE ⊢
  rw [e8]
  clear eS e8
  dsimp only at hE ⊢
  (try k_fold)
  k_steps
  rename Fr h₀ L _ _ => F9
  rename News h₀ L _ _ => N9
  exact post _ _ _ F9 N9
set_option maxHeartbeats 1000000 in
theorem seg15 (w : World) {mean : ExcName → Option Value} {mg mb : PySem.Str → Option Value} {h₀ : Heap} {L fa : Addr} {cv : Value} {s : Shared} {m : PySem.Str → Option Value} {Q : Flow → Shared → Prop} {E : Value → Shared → Prop} {news : List (Addr × Obj)}
    (LX : LawX w mean mg mb h₀) (F : Fr h₀ L s.heap m) (N : News h₀ L s.heap news)
    (hE : PassesOwn (LawM w) (LawAr L fa cv) (LawE L fa cv) E)
    (post : ∀ t h tk, Fr h₀ L h (fun y => if y = "back" then some (.int 0 t) else m y) → News h₀ L h news → Q .next { s with heap := h, toks := tk }) :
    wpAny (LawM w) (LawAr L fa cv) (exec (lawSt 15) (LawE L fa cv)) Q E s := by
  obtain ⟨K, X, V, GL, T, TB, TE, TW, B⟩ := LX
  unfold LawAr LawE LawM lawN at hE ⊢
  revert K
  k_fill
  intro K
  have eS : lawSc = Scope.mk _ _ _ _ _ := rfl
  have e8 : lawSt 15 = Stmt.Assign _ _ _ := rfl
  rw [eS] at hE ⊢
  rw [e8]
  clear eS e8
  dsimp only at hE ⊢
  (try k_fold)
  k_steps
  rename Fr h₀ L _ _ => F9
  rename News h₀ L _ _ => N9
  exact post _ _ _ F9 N9
end Mine
end
/- part S10 -/
section
open PySem.Calls
open Sem (wp)
set_option Elab.async false
set_option maxRecDepth 100000
namespace Mine
/-- what offset_from_tz_string tells of a text -/
def tzV (x : PySem.Str) : Option Int :=
  if outZ x = true then
    match zoneFacts x with
    | some (neg, hh, kk) => if 0 ≤ hh ∧ 0 ≤ kk then some (if neg = true then -(3600 * hh + 60 * kk) else 3600 * hh + 60 * kk) else none
    | none => none
  else some 0
theorem sp_tzP (w : World) (x : PySem.Str) (v : Int) (h : tzV x = some v) (t1 : Tok) : Sp 1 w 44 [.str x t1] (fun r new => ∃ t, r = .int v t ∧ new = []) := by
  unfold tzV at h
  cases e : outZ x with
  | false => rw [if_neg (by rw [e]; exact Bool.false_ne_true)] at h; cases h; exact sp_tzN w x e t1
  | true =>
    rw [if_pos e] at h
    cases q : zoneFacts x with
    | none => rw [q] at h; cases h
    | some y =>
      obtain ⟨neg, hh, kk⟩ := y
      rw [q] at h
      dsimp only at h
      split at h
      · rename_i hc
        cases h
        exact sp_tzF w x neg hh kk e q hc.1 hc.2 t1
      · cases h
/-- what the zone of h hours and k minutes tells -/
def toldZ (h k : Int) : Int := if h = 0 then 0 else if h < 0 then 3600 * h - 60 * k else 3600 * h + 60 * k
def hoursP (r z : Int) (i : Nat) : Int := if placeP r z i ≤ z.fdiv 2 then placeP r z i else placeP r z i - z
def belowP (r z : Int) : Nat → Int
  | 0 => 0
  | i + 1 => if toldZ (hoursP r z i) i < 0 then belowP r z i + 1 else belowP r z i
local macro_rules | `(tactic| walk_at "call ref") => `(tactic| (k_here; (with_reducible show wpAny _ _ (call (Value.ref 137) [Value.int _ _, Value.int _ _, Value.int _ _]) _ _ _); k_dflt ((refine sp_useA (sp_zone _ _ _ _ (by omega) (by omega) (by omega) _ _ _) ?_)); tb_rel))
local macro_rules | `(tactic| walk_at "call ref") => `(tactic| (k_here; (with_reducible show wpAny _ _ (call (Value.ref 44) [Value.str _ _]) _ _ _); k_dflt ((refine sp_useA (sp_tzP _ _ _ (by assumption) _) ?_)); tb_rel))
theorem s10_end {h₀ h' : Heap} {L : Addr} {m9 m₀ : PySem.Str → Option Value} {tl : Tok} {led own rest : List (Addr × Obj)} {n' r z : Int} {i : Nat} {s₁ : Shared} {tk : Nat} {adr : List Addr}
    (F9 : Fr h₀ L h' m9) (N9 : News h₀ L h' rest) (hsub : ∀ p ∈ (led ++ own : List (Addr × Obj)), p ∈ rest) (ha : led.map (·.1) = adr)
    (hn : n' = belowP r z (i + 1)) (hl : m9 "below" = some (.int n' tl))
    (same : ∀ y : PySem.Str, y ≠ "k" → y ≠ "below" → (["hours", "told", "whole"] : List PySem.Str).contains y = false → m9 y = m₀ y) :
    InvEndN h₀ L (RS (fun _ : Int × Tok => led) (fun c => [("below", Value.int c.1 c.2)]) (fun _ => True) "k" ["hours", "told", "whole"] m₀ (fun i c => c.1 = belowP r z i) (i + 1)) own adr s₁ { s₁ with heap := h', toks := tk } :=
  InvEndN.intro F9 (cb_drop N9 hsub) (RS.mk' (n', tl) trivial (List.forall_mem_cons.2 ⟨hl, fun _ h => nomatch h⟩) (fun y h1 h2 h3 => same y h1 (h2 _ (.head _)) h3) hn) ha (fun q hq => List.mem_append_left _ hq) (fun q hq => List.mem_append_right _ hq)
set_option maxHeartbeats 6000000 in
theorem seg10 (w : World) {mean : ExcName → Option Value} {mg mb : PySem.Str → Option Value} {h₀ : Heap} {L fa D P : Addr} {cv lv sv : Value} {s : Shared} {m : PySem.Str → Option Value} {Q : Flow → Shared → Prop} {E : Value → Shared → Prop} {ws vs : List Value} {ep : Nat} {ob : Obj} {r z : Int} {ds : List Int} {t1 t2 t3 t4 : Tok}
    (LX : LawX w mean mg mb h₀)
    (F : Fr h₀ L s.heap (fun y => if y = "below" then some (.int 0 t1) else lawF lv (.ref P) sv (.int (z.fdiv 2) t2) (.int r t3) (.ref D) m y))
    (N : News h₀ L s.heap [(P, W.listOf vs.toArray ep), (D, W.listOf ws.toArray 0), (L + 1, ob)]) (hvs : IntsAre vs (placesP r z z.toNat)) (hws : IntsAre ws ds) (hds : ds.length = 3) (hd2 : 0 ≤ ds.getD (Int.toNat 2) 0 ∧ ds.getD (Int.toNat 2) 0 < 1000000)
    (hob : ob.data = .cell (some (.int z t4))) (hz : 3 ≤ z ∧ z ≤ 15) (hr : 1 ≤ r ∧ r ≤ 40)
    (HT : ∀ i : Nat, i < (z.fdiv 2 + 1).toNat → ∀ y : Int, 0 ≤ y → tzV (zoneP (hoursP r z i) i y) = some (toldZ (hoursP r z i) i))
    (H10 : ∀ i : Nat, i < (z.fdiv 2 + 1).toNat → 0 ≤ placeP r z i ∧ placeP r z i ≤ z - 1 ∧ ∃ wh, (if toldZ (hoursP r z i) i < 0 then -(toldZ (hoursP r z i) i) else toldZ (hoursP r z i) i) = 3600 * wh + 60 * i ∧ wh ≤ z.fdiv 2 ∧ (wh = (r * i).fmod z ∨ wh = (-r * i).fmod z))
    (hE : PassesOwn (LawM w) (LawAr L fa cv) (LawE L fa cv) E)
    (post : ∀ t m' h tk, Fr h₀ L h (fun y => if y = "below" then some (.int (belowP r z (z.fdiv 2 + 1).toNat) t) else lawF lv (.ref P) sv (.int (z.fdiv 2) t2) (.int r t3) (.ref D) m' y) → News h₀ L h [(P, W.listOf vs.toArray ep), (D, W.listOf ws.toArray 0), (L + 1, ob)] → Q .next { s with heap := h, toks := tk }) :
    wpAny (LawM w) (LawAr L fa cv) (exec (lawSt 10) (LawE L fa cv)) Q E s := by
  obtain ⟨K, X, V, GL, T, TB, TE, TW, B⟩ := LX
  unfold LawAr LawE LawM lawN at hE ⊢
  revert K
  k_fill
  intro K
  obtain ⟨_, _, M⟩ := bmod_of_top T
  have eS : lawSc = Scope.mk _ _ _ _ _ := rfl
  have e8 : lawSt 10 = Stmt.For _ _ _ _ _ := rfl
  rw [eS] at hE ⊢
  rw [e8]
  clear eS e8
  have hMk9 := kstMark
  have hq : 1 ≤ z.fdiv 2 ∧ z.fdiv 2 ≤ 7 ∧ z.fdiv 2 < z := by rw [Int.fdiv_eq_ediv_of_nonneg _ (by decide)]; omega
  have hpl := placesP_len r z z.toNat
  have hgd : ∀ i : Nat, i < z.toNat → (placesP r z z.toNat).getD i 0 = placeP r z i := by
    intro i hi
    unfold placesP
    rw [List.getD_eq_getElem?_getD, List.getElem?_map, List.getElem?_range hi]
    rfl
  dsimp only at hE ⊢
  refine' For_rangeA (σ := Int × Tok) (a := 0) (b := z.fdiv 2 + 1) (st := 1) (n := (z.fdiv 2 + 1).toNat) (fun _ => [(P, W.listOf vs.toArray ep), (D, W.listOf ws.toArray 0), (L + 1, ob)]) (fun c => [("below", .int c.1 c.2)]) (fun _ => True) ["hours", "told", "whole"] (fun i c => c.1 = belowP r z i) ⟨0, t1⟩ F N rfl rfl rfl ?small ?size ?hev trivial ?hk ?h0 ?turn ?done ?hs hE
  case hs => intro _; rfl
  case hk => exact List.forall_mem_cons.2 ⟨by with_unfolding_all rfl, fun _ h => nomatch h⟩
  case small => exact small_one (by omega) (by omega) (by omega) (by omega)
  case size => exact (rangeSize_nat 0 _).trans (by rw [Int.sub_zero])
  case h0 => rfl
  case hev =>
    k_fold
    k_steps
    all_goals assumption
  case turn =>
    intro c i t u h tk own hi hoff _ hP F2 N2
    have e1 : (0 : Int) + ((i : Nat) : Int) * 1 = i := by omega
    rw [e1] at F2
    obtain ⟨n, tn⟩ := c
    dsimp only at hP
    dsimp only [kstB] at F2 N2
    simp only [List.cons_append, List.nil_append] at N2
    (try dsimp only)
    obtain ⟨g0, g1, wh, g2, g3, g4⟩ := H10 i hi
    have hgi := hgd i (by omega)
    have hho : hoursP r z i = if placeP r z i ≤ z.fdiv 2 then placeP r z i else placeP r z i - z := rfl
    have hbe : belowP r z (i + 1) = if toldZ (hoursP r z i) i < 0 then belowP r z i + 1 else belowP r z i := rfl
    have hsz : 7 < z.toNat ∨ z.toNat ≤ 7 := by omega
    have hb7 : -7 ≤ hoursP r z i ∧ hoursP r z i ≤ 7 := by
      rw [hho]
      rw [Int.fdiv_eq_ediv_of_nonneg _ (by decide)] at hq ⊢
      split <;> omega
    have hT := HT i hi (ds.getD (Int.toNat 2) 0 + i) (by omega)
    generalize toldZ (hoursP r z i) i = v at g2 hT hbe
    clear H10 HT hgd
    rw [← hgi] at hho g0 g1
    generalize hpg : placesP r z z.toNat = pl at hvs hpl hgi hho g0 g1
    clear hpg
    have hii : pl.getD ((i : Int)).toNat 0 = pl.getD i 0 := by rw [Int.toNat_natCast]
    rw [← hii] at hho g0 g1
    clear hii
    generalize hoursP r z i = hv at hho hT hb7
    refine wpAny_execs_cons (wpAny_mono (Q := fun f s' => f = .next ∧ ∃ h' tk' t', s' = { s with heap := h', toks := tk' } ∧ Fr h₀ L h' (fun y => if y = "hours" then some (.int hv t') else if y = "k" then some (.int i t) else if y = "below" then some (.int n tn) else if (["hours", "told", "whole"] : List PySem.Str).contains y then u y else if y = "below" then some (.int 0 t1) else lawF lv (.ref P) sv (.int (z.fdiv 2) t2) (.int r t3) (.ref D) m y) ∧ News h₀ L h' ((P, W.listOf vs.toArray ep) :: (D, W.listOf ws.toArray 0) :: (L + 1, ob) :: own)) ?first ?rest fun _ _ e => e)
    case first =>
      clear hT hbe g2 g3 g4
      (try k_fold)
      k_steps
      all_goals first
        | assumption
        | (have e := hho.trans (if_pos (by assumption)); rw [e]; assumption)
        | (have e := hho.trans (if_neg (by assumption)); rw [e]; assumption)
    case rest =>
      rintro f s' ⟨rfl, h', tk', t', rfl, F3, N3⟩
      clear hho hgi hpl hvs F2 N2 g0 g1
      dsimp only
      obtain ⟨hb7, hb8⟩ := hb7
      have g5 : ((if v < 0 then -v else v) - 60 * (i : Int)).fdiv 3600 = wh := by
        rw [g2, Int.fdiv_eq_ediv_of_nonneg _ (by decide)]; omega
      have g6 : (if v < 0 then -v else v) = 3600 * ((if v < 0 then -v else v) - 60 * (i : Int)).fdiv 3600 + 60 * (i : Int) := by rw [g5]; exact g2
      have g7 : ([(r * (i : Int)).fmod z, (-r * (i : Int)).fmod z].any fun x => x == ((if v < 0 then -v else v) - 60 * (i : Int)).fdiv 3600) = true := by
        rw [g5]; rcases g4 with h | h <;> simp [h]
      clear g4
      (try k_fold)
      k_steps
      · exact absurd g6 (by assumption)
      · rename Fr h₀ L _ _ => F9
        rename News h₀ L _ _ => N9
        rename v < 0 => hlt
        refine s10_end F9 N9 (by repeat' (first | exact sub_rfl | refine sub_cons ?_)) rfl ?_ (by with_unfolding_all rfl) ?_
        · rw [hbe, if_pos hlt, ← hP]
        · intro y h1 a1 h3
          have b1 : y ≠ "hours" := fun e => by rw [e] at h3; exact absurd h3 (by decide)
          have b2 : y ≠ "told" := fun e => by rw [e] at h3; exact absurd h3 (by decide)
          have b3 : y ≠ "whole" := fun e => by rw [e] at h3; exact absurd h3 (by decide)
          have h5 : ¬ ((["hours", "told", "whole"] : List PySem.Str).contains y = true) := fun q => by rw [h3] at q; cases q
          simp only [if_neg h1, if_neg a1, if_neg b1, if_neg b2, if_neg b3, if_neg h5]
      · rename Fr h₀ L _ _ => F9
        rename News h₀ L _ _ => N9
        rename ¬ v < 0 => hlt
        refine s10_end F9 N9 (n' := n) (tl := tn) (by repeat' (first | exact sub_rfl | refine sub_cons ?_)) rfl ?_ (by with_unfolding_all rfl) ?_
        · rw [hbe, if_neg hlt, ← hP]
        · intro y h1 a1 h3
          have b1 : y ≠ "hours" := fun e => by rw [e] at h3; exact absurd h3 (by decide)
          have b2 : y ≠ "told" := fun e => by rw [e] at h3; exact absurd h3 (by decide)
          have b3 : y ≠ "whole" := fun e => by rw [e] at h3; exact absurd h3 (by decide)
          have h5 : ¬ ((["hours", "told", "whole"] : List PySem.Str).contains y = true) := fun q => by rw [h3] at q; cases q
          simp only [if_neg h1, if_neg a1, if_neg b1, if_neg b2, if_neg b3, if_neg h5]
  case done =>
    intro c u h tk _ hP F2 N2
    obtain ⟨n, tn⟩ := c
    dsimp only at hP F2 N2
    subst hP
    refine post tn _ h tk (fr_name (fr_name (fr_name (fr_name (fr_name (fr_name (fr_name F2 ?a1) ?a2) ?a3) ?a4) ?a5) ?a6) ?a7) N2
    all_goals with_unfolding_all rfl
end Mine
end
/- part S11 -/
section
open PySem.Calls
open Sem (wp)
set_option Elab.async false
set_option maxRecDepth 100000
namespace Mine
theorem wpC_Assign_Tuple {M : Model} {A : Around} {E : Value → Shared → Prop} {s : Shared} {env : Env} {elts k tpos value pos} {Q : Flow → Shared → Prop}
    (h : wpC M A (eval value env) (fun v s₁ => wpAny M A (assign (.Tuple elts k tpos) env v) (fun _ => Q .next) E s₁) E s)
    (hs : swapsWithSole [.Tuple elts k tpos] value pos.line env = pure false := by rfl)
    (hw : swappedStores [.Tuple elts k tpos] value env = pure none := by rfl) :
    wpC M A (exec (.Assign [.Tuple elts k tpos] value pos) env) Q E s := by
  rw [exec_Assign]
  refine wpC_first (wpAny_standAt ?_)
  rw [hs]
  refine wpC_first (wpAny_pure ?_)
  rw [if_neg (by decide)]
  refine wpC_bind (wpC_mono h (fun v s₁ h₁ => ?_) fun _ _ x => x)
  rw [hw]
  refine wpC_first (wpAny_pure ?_)
  show wpC M A (do assignAll v [assign (.Tuple elts k tpos) env]; pure .next) Q E s₁
  exact wpC_of_any (wpAny_bind (wpAny_mono h₁ (fun _ _ x => wpAny_pure x) fun _ _ x => x))
set_option maxHeartbeats 1000000 in
theorem seg11 (w : World) {mean : ExcName → Option Value} {mg mb : PySem.Str → Option Value} {h₀ : Heap} {L fa D P : Addr} {cv lv sv hv fv dv bv : Value} {s : Shared} {m : PySem.Str → Option Value} {Q : Flow → Shared → Prop} {E : Value → Shared → Prop} {ws vs : List Value} {ep : Nat} {ob : Obj} {z : Int} {pl : List Int} {t4 : Tok}
    (LX : LawX w mean mg mb h₀)
    (F : Fr h₀ L s.heap (fun y => if y = "below" then some bv else lawF lv (.ref P) sv hv fv dv m y))
    (N : News h₀ L s.heap [(P, W.listOf vs.toArray ep), (D, W.listOf ws.toArray 0), (L + 1, ob)]) (hvs : IntsAre vs pl) (hpl : pl.length = z.toNat)
    (hob : ob.data = .cell (some (.int z t4))) (hz : 3 ≤ z ∧ z ≤ 15)
    (hin : ∀ n ∈ List.drop 1 pl, 0 ≤ n ∧ n < 256)
    (hE : PassesOwn (LawM w) (LawAr L fa cv) (LawE L fa cv) E)
    (post : ∀ b t m' h tk, KBw.bInts b = List.drop 1 pl → Fr h₀ L h (fun y => if y = "row" then some (.bytes b t) else if y = "below" then some bv else lawF lv (.ref P) sv hv fv dv m' y) → News h₀ L h [(P, W.listOf vs.toArray ep), (D, W.listOf ws.toArray 0), (L + 1, ob)] → Q .next { s with heap := h, toks := tk }) :
    wpAny (LawM w) (LawAr L fa cv) (exec (lawSt 11) (LawE L fa cv)) Q E s := by
  obtain ⟨K, X, V, GL, T, TB, TE, TW, B⟩ := LX
  unfold LawAr LawE LawM lawN at hE ⊢
  revert K
  k_fill
  intro K
  obtain ⟨_, _, M⟩ := bmod_of_top T
  have eS : lawSc = Scope.mk _ _ _ _ _ := rfl
  have e8 : lawSt 11 = Stmt.Assign _ _ _ := rfl
  rw [eS] at hE ⊢
  rw [e8]
  clear eS e8
  have hMk9 := kstMark
  dsimp only at hE ⊢
  (try k_fold)
  k_steps
  rename Fr h₀ L _ _ => F9
  rename News h₀ L _ _ => N9
  exact post _ _ m _ _ (KBa.ints_make hin) F9 (cb_drop N9 sub_tl)
set_option maxHeartbeats 1000000 in
theorem seg12 (w : World) {mean : ExcName → Option Value} {mg mb : PySem.Str → Option Value} {h₀ : Heap} {L fa D P : Addr} {cv lv sv hv fv dv bv : Value} {s : Shared} {m : PySem.Str → Option Value} {Q : Flow → Shared → Prop} {E : Value → Shared → Prop} {ws vs : List Value} {ep : Nat} {ob : Obj} {ks : List Int} {b : Array UInt8} {t : Tok}
    (LX : LawX w mean mg mb h₀)
    (F : Fr h₀ L s.heap (fun y => if y = "row" then some (.bytes b t) else if y = "below" then some bv else lawF lv (.ref P) sv hv fv dv m y))
    (N : News h₀ L s.heap [(P, W.listOf vs.toArray ep), (D, W.listOf ws.toArray 0), (L + 1, ob)])
    (hb : KBw.bInts b = ks) (hn : 0 < ks.length) (hn2 : ks.length ≤ 100)
    (hE : PassesOwn (LawM w) (LawAr L fa cv) (LawE L fa cv) E)
    (post : ∀ b' tn tb m' h tk, KBw.bInts b' = (bubO ks (ks.length - 1)).2 → Fr h₀ L h (fun y => if y = "ordered" then some (.bytes b' tb) else if y = "turns" then some (.int (bubO ks (ks.length - 1)).1 tn) else if y = "row" then some (.bytes b t) else if y = "below" then some bv else lawF lv (.ref P) sv hv fv dv m' y) → News h₀ L h [(P, W.listOf vs.toArray ep), (D, W.listOf ws.toArray 0), (L + 1, ob)] → Q .next { s with heap := h, toks := tk }) :
    wpC (LawM w) (LawAr L fa cv) (exec (lawSt 12) (LawE L fa cv)) Q E s := by
  obtain ⟨K, X, V, GL, T, TB, TE, TW, B⟩ := LX
  unfold LawAr LawE LawM lawN at hE ⊢
  revert K
  k_fill
  intro K
  obtain ⟨_, _, M⟩ := bmod_of_top T
  have eS : lawSc = Scope.mk _ _ _ _ _ := rfl
  have e8 : lawSt 12 = Stmt.Assign _ _ _ := rfl
  rw [eS] at hE ⊢
  rw [e8]
  clear eS e8
  obtain ⟨o144, fd144, ho144, hd144⟩ : ∃ o fd, (Mine.hd.heap_39 w.params).lookup 144 = some o ∧ o.data = .func fd := ⟨_, _, by k_is, rfl⟩
  have hMk9 := kstMark
  dsimp only at hE ⊢
  refine wpC_Assign_Tuple ?_
  refine wpC_Call_Name1 ?_
  k_fold
  k_steps
  refine callWith_fn1C hd144 ?_
  k_steps
  · rename Fr h₀ L _ _ => F8
    exact F8.keep _ _ (K _ _ ho144)
  · (refine spC_useA (sp_ord w _ _ hb hn hn2 _) ?_)
    intro v new h' tk' hPv F' N' hlt
    obtain ⟨T', b', t', u', rfl, rfl, hb'⟩ := hPv
    simp only [List.cons_append, List.nil_append] at N'
    (try dsimp only)
    (try k_fold)
    k_steps
    rename Fr h₀ L _ _ => F9
    rename News h₀ L _ _ => N9
    exact post _ _ _ m _ _ hb' F9 (cb_drop N9 sub_tl)
end Mine
end
/- part S13 -/
section
open PySem.Calls
open Sem (wp)
set_option Elab.async false
set_option maxRecDepth 100000
namespace Mine
theorem sp_bsN (w : World) (b : Array UInt8) (ks : List Int) (n : Int) (e : n = ks.length) (hb : KBw.bInts b = ks) (hn : 0 < ks.length) (hn2 : ks.length ≤ 100) (t1 t2 : Tok) : SpC 1 w 118 [.bytes b t1, .int n t2] (fun v new => ∃ b' t, v = .bytes b' t ∧ KBw.bInts b' = ks.reverse ∧ new = []) := by
  subst e
  exact sp_bs w b ks hb hn hn2 t1 t2
theorem bInts_inj {a b : Array UInt8} (h : KBw.bInts a = KBw.bInts b) : a.toList = b.toList := by
  unfold KBw.bInts at h
  exact (List.map_inj_right (fun x y e => UInt8.toNat_inj.mp (Int.ofNat.inj e))).mp h
set_option maxHeartbeats 1000000 in
theorem seg13 (w : World) {mean : ExcName → Option Value} {mg mb : PySem.Str → Option Value} {h₀ : Heap} {L fa D P : Addr} {cv lv sv hv fv dv bv ov tv : Value} {s : Shared} {m : PySem.Str → Option Value} {Q : Flow → Shared → Prop} {E : Value → Shared → Prop} {ws vs : List Value} {ep : Nat} {ob : Obj} {pl ks : List Int} {z : Int} {b : Array UInt8} {t t4 : Tok}
    (LX : LawX w mean mg mb h₀)
    (F : Fr h₀ L s.heap (fun y => if y = "ordered" then some ov else if y = "turns" then some tv else if y = "row" then some (.bytes b t) else if y = "below" then some bv else lawF lv (.ref P) sv hv fv dv m y))
    (N : News h₀ L s.heap [(P, W.listOf vs.toArray ep), (D, W.listOf ws.toArray 0), (L + 1, ob)]) (hvs : IntsAre vs pl) (hpl : pl.length = z.toNat) (hks : List.drop 1 pl = ks)
    (hob : ob.data = .cell (some (.int z t4))) (hz : 3 ≤ z ∧ z ≤ 15)
    (hb : KBw.bInts b = ks) (hin : ∀ n ∈ ks, 0 ≤ n ∧ n < z) (hrev : ks.reverse = ks.map fun k => z - k)
    (hE : PassesOwn (LawM w) (LawAr L fa cv) (LawE L fa cv) E)
    (post : ∀ m' h tk, Fr h₀ L h (fun y => if y = "ordered" then some ov else if y = "turns" then some tv else if y = "row" then some (.bytes b t) else if y = "below" then some bv else lawF lv (.ref P) sv hv fv dv m' y) → News h₀ L h [(P, W.listOf vs.toArray ep), (D, W.listOf ws.toArray 0), (L + 1, ob)] → Q .next { s with heap := h, toks := tk }) :
    wpC (LawM w) (LawAr L fa cv) (exec (lawSt 13) (LawE L fa cv)) Q E s := by
  obtain ⟨K, X, V, GL, T, TB, TE, TW, B⟩ := LX
  unfold LawAr LawE LawM lawN at hE ⊢
  revert K
  k_fill
  intro K
  obtain ⟨_, _, M⟩ := bmod_of_top T
  have eS : lawSc = Scope.mk _ _ _ _ _ := rfl
  have e8 : lawSt 13 = Stmt.If (.Compare (.Call (.Name _ _) _ _ _) _ _ _) _ _ _ := rfl
  rw [eS] at hE ⊢
  rw [e8]
  clear eS e8
  obtain ⟨o118, fd118, ho118, hd118⟩ : ∃ o fd, (Mine.hd.heap_39 w.params).lookup 118 = some o ∧ o.data = .func fd := ⟨_, _, by k_is, rfl⟩
  have hMk9 := kstMark
  have hin2 : ∀ n ∈ List.map (fun k' => z - k') (List.drop 1 pl), 0 ≤ n ∧ n < 256 := by
    intro n hn
    obtain ⟨k, hk, rfl⟩ := List.mem_map.mp hn
    have := hin k (hks ▸ hk)
    omega
  have hlen : ks.length = z.toNat - 1 := by rw [← hks, List.length_drop, hpl]
  dsimp only at hE ⊢
  refine wpC_If (wpC_isTrue_Compare1 ?_)
  refine wpC_Call_Name2 ?_
  (try k_fold)
  k_steps
  refine callWith_fn2C hd118 ?_
  k_steps
  · rename Fr h₀ L _ _ => F8
    exact F8.keep _ _ (K _ _ ho118)
  · (refine spC_useA (sp_bsN w _ _ _ (by omega) hb (by omega) (by omega) _ _) ?_)
    intro v new h' tk' hPv F' N' hlt
    obtain ⟨b', t', rfl, hb', rfl⟩ := hPv
    simp only [List.nil_append] at N'
    (try dsimp only)
    (try k_fold)
    k_steps
    · rename (_ != _) = true => hne
      have e1 : KBw.bInts b' = KBw.bInts (byteArr (List.map (fun k' => z - k') (List.drop 1 pl))) := by
        rw [KBa.ints_make hin2, hb', hrev, hks]
      rw [bInts_inj e1, bne_self_eq_false] at hne
      exact absurd hne Bool.false_ne_true
    · refine wpC_of_any ?_
      k_steps
      rename Fr h₀ L _ _ => F9
      rename News h₀ L _ _ => N9
      exact post m _ _ F9 (cb_drop N9 sub_tl2)
theorem rangeL (z : Int) : (List.range (z - 1).toNat).map (fun j : Nat => (1 : Int) + (j : Int) * 1) = (List.range (z - 1).toNat).map (fun j : Nat => (1 : Int) + j) := List.map_congr_left fun j _ => by omega
set_option maxHeartbeats 1000000 in
theorem seg14 (w : World) {mean : ExcName → Option Value} {mg mb : PySem.Str → Option Value} {h₀ : Heap} {L fa D P : Addr} {cv lv hv fv dv rv : Value} {s : Shared} {m : PySem.Str → Option Value} {Q : Flow → Shared → Prop} {E : Value → Shared → Prop} {ob : Obj} {z sg tn be : Int} {b : Array UInt8} {to t1 t2 t3 t4 : Tok}
    (LX : LawX w mean mg mb h₀)
    (F : Fr h₀ L s.heap (fun y => if y = "ordered" then some (.bytes b to) else if y = "turns" then some (.int tn t1) else if y = "row" then some rv else if y = "below" then some (.int be t2) else lawF lv (.ref P) (.int sg t3) hv fv dv m y))
    (N : News h₀ L s.heap [(L + 1, ob)])
    (hob : ob.data = .cell (some (.int z t4))) (hz : 3 ≤ z ∧ z ≤ 15)
    (hb : KBw.bInts b = (List.range (z - 1).toNat).map (fun j : Nat => (1 : Int) + j)) (h1 : tn.fmod 2 = sg) (h2 : be.fmod 2 = sg)
    (hE : PassesOwn (LawM w) (LawAr L fa cv) (LawE L fa cv) E)
    (post : ∀ m' h tk, Fr h₀ L h (lawF lv (.ref P) (.int sg t3) hv fv dv m') → News h₀ L h [(L + 1, ob)] → Q .next { s with heap := h, toks := tk }) :
    wpAny (LawM w) (LawAr L fa cv) (exec (lawSt 14) (LawE L fa cv)) Q E s := by
  obtain ⟨K, X, V, GL, T, TB, TE, TW, B⟩ := LX
  unfold LawAr LawE LawM lawN at hE ⊢
  revert K
  k_fill
  intro K
  obtain ⟨_, _, M⟩ := bmod_of_top T
  have eS : lawSc = Scope.mk _ _ _ _ _ := rfl
  have e8 : lawSt 14 = Stmt.If _ _ _ _ := rfl
  rw [eS] at hE ⊢
  rw [e8]
  clear eS e8
  have hMk9 := kstMark
  dsimp only at hE ⊢
  (try k_fold)
  k_steps
  rename IsRange _ _ _ _ _ _ _ _ => hR9
  rename Fr h₀ L _ _ => F8
  rename News h₀ L _ _ => N8
  refine bytes_range_K F8 N8 rfl hR9 (small_one (by omega) (by omega) (by omega) (by omega)) (rangeSize_nat 1 z) (fun i hi => by omega) (by omega) ?_
  intro h9 t9 k9 F9 N9
  have hby : b.toList = (byteArr ((List.range (z - 1).toNat).map fun j : Nat => (1 : Int) + (j : Int) * 1)).toList := by
    refine bInts_inj ?_
    rw [KBa.ints_make (fun n hn => ?_), hb, rangeL]
    obtain ⟨j, hj, rfl⟩ := List.mem_map.mp hn
    rw [List.mem_range] at hj
    omega
  have hne : (b.toList != (byteArr ((List.range (z - 1).toNat).map fun j : Nat => (1 : Int) + (j : Int) * 1)).toList) = false := by rw [hby]; exact bne_self_eq_false _
  clear hby hR9 F8 N8 hb
  (try dsimp only)
  (try k_fold)
  k_steps
  · exact absurd h1 (by assumption)
  · exact absurd h2 (by assumption)
  · rename Fr h₀ L _ _ => F7
    rename News h₀ L _ _ => N7
    refine post _ _ _ (fr_name (fr_name (fr_name (fr_name (fr_name (fr_name F7 ?a1) ?a2) ?a3) ?a4) ?a5) ?a6) N7
    all_goals with_unfolding_all rfl
end Mine
end
/- part S16 -/
section
open PySem.Calls
open Sem (wp)
set_option Elab.async false
set_option maxRecDepth 100000
namespace Mine
/-- the number next to the hue of a / z, as rgb_to_hsv tells it of hls_to_rgb's colour -/
def near2 (a z : Int) : Option Int :=
  if Float64.isInf (fracE a z) = true then none else
  match hsvB (rgbP (fracE a z)).1 (rgbP (fracE a z)).2.1 (rgbP (fracE a z)).2.2 with
  | none => none
  | some (hh, _, _) => nearU (Float64.mul hh (Float64.ofInt z))
theorem near2_some {a z p : Int} (h : near2 a z = some p) : Float64.isInf (fracE a z) = false ∧ ∃ hh ll ss, hsvB (rgbP (fracE a z)).1 (rgbP (fracE a z)).2.1 (rgbP (fracE a z)).2.2 = some (hh, ll, ss) ∧ nearU (Float64.mul hh (Float64.ofInt z)) = some p := by
  unfold near2 at h
  cases e : Float64.isInf (fracE a z) with
  | true => rw [if_pos e] at h; cases h
  | false =>
    rw [if_neg (by rw [e]; exact Bool.false_ne_true)] at h
    refine ⟨rfl, ?_⟩
    cases q : hsvB (rgbP (fracE a z)).1 (rgbP (fracE a z)).2.1 (rgbP (fracE a z)).2.2 with
    | none => rw [q] at h; cases h
    | some x =>
      obtain ⟨hh, ll, ss⟩ := x
      rw [q] at h
      exact ⟨hh, ll, ss, rfl, h⟩
def place2 (r z : Int) (i : Nat) : Int := ((near2 (z * i) r).getD 0).fmod r
def backP (r z : Int) : Nat → Int
  | 0 => 0
  | i + 1 => backP r z i + (z * i - place2 r z i).fdiv r
local macro_rules | `(tactic| walk_at "call ref") => `(tactic| (k_here; (with_reducible show wpAny _ _ (call (Value.ref 58) [Value.float _ _, Value.float _ _, Value.float _ _]) _ _ _); k_dflt ((refine sp_useA (sp_rgb _ _ _ _ _) ?_)); ktr_unf))
local macro_rules | `(tactic| walk_at "call ref") => `(tactic| (k_here; (with_reducible show wpAny _ _ (call (Value.ref 72) [Value.float _ _, Value.float _ _, Value.float _ _]) _ _ _); k_dflt ((refine sp_useA (sp_Frhsv _ _ _ _ _ (by assumption) _ _ _) ?_)); ktr_unf))
theorem s16_end {h₀ h' : Heap} {L : Addr} {m9 m₀ : PySem.Str → Option Value} {tl : Tok} {ob : Obj} {own rest : List (Addr × Obj)} {n' r z : Int} {i : Nat} {s₁ : Shared} {tk : Nat}
    (F9 : Fr h₀ L h' m9) (N9 : News h₀ L h' rest) (hsub : ∀ p ∈ ((L + 1, ob) :: own : List (Addr × Obj)), p ∈ rest)
    (hn : n' = backP r z (i + 1)) (hl : m9 "back" = some (.int n' tl))
    (same : ∀ y : PySem.Str, y ≠ "k" → y ≠ "back" → (["red", "green", "blue", "hue", "near"] : List PySem.Str).contains y = false → m9 y = m₀ y) :
    InvEndN h₀ L (RS (fun _ : Int × Tok => [(L + 1, ob)]) (fun c => [("back", Value.int c.1 c.2)]) (fun _ => True) "k" ["red", "green", "blue", "hue", "near"] m₀ (fun i c => c.1 = backP r z i) (i + 1)) own (List.map (fun x => x.1) [(L + 1, ob)]) s₁ { s₁ with heap := h', toks := tk } :=
  InvEndN.intro F9 (cb_drop N9 hsub) (RS.mk' (n', tl) trivial (List.forall_mem_cons.2 ⟨hl, fun _ h => nomatch h⟩) (fun y h1 h2 h3 => same y h1 (h2 _ (.head _)) h3) hn) rfl (fun q hq => by rcases List.mem_cons.mp hq with rfl | hq; exact .head _; cases hq) (fun q hq => .tail _ hq)
set_option maxHeartbeats 1000000 in
theorem seg16 (w : World) {mean : ExcName → Option Value} {mg mb : PySem.Str → Option Value} {h₀ : Heap} {L fa : Addr} {cv lv pv sv hv dv : Value} {s : Shared} {m : PySem.Str → Option Value} {Q : Flow → Shared → Prop} {E : Value → Shared → Prop} {ob : Obj} {r z : Int} {t1 t3 t4 : Tok}
    (LX : LawX w mean mg mb h₀)
    (F : Fr h₀ L s.heap (fun y => if y = "back" then some (.int 0 t1) else lawF lv pv sv hv (.int r t3) dv m y))
    (N : News h₀ L s.heap [(L + 1, ob)]) (hob : ob.data = .cell (some (.int z t4))) (hz : 3 ≤ z ∧ z ≤ 15) (hr : 1 ≤ r ∧ r ≤ 40)
    (H16 : ∀ i : Nat, i < (r.fdiv 2 + 1).toNat → ∃ p, near2 (z * i) r = some p ∧ (p.fmod r = (z * i).fmod r ∨ p.fmod r = (-z * i).fmod r))
    (hE : PassesOwn (LawM w) (LawAr L fa cv) (LawE L fa cv) E)
    (post : ∀ t m' h tk, Fr h₀ L h (fun y => if y = "back" then some (.int (backP r z (r.fdiv 2 + 1).toNat) t) else lawF lv pv sv hv (.int r t3) dv m' y) → News h₀ L h [(L + 1, ob)] → Q .next { s with heap := h, toks := tk }) :
    wpAny (LawM w) (LawAr L fa cv) (exec (lawSt 16) (LawE L fa cv)) Q E s := by
  obtain ⟨K, X, V, GL, T, TB, TE, TW, B⟩ := LX
  unfold LawAr LawE LawM lawN at hE ⊢
  revert K
  k_fill
  intro K
  obtain ⟨_, _, M⟩ := bmod_of_top T
  have eS : lawSc = Scope.mk _ _ _ _ _ := rfl
  have e8 : lawSt 16 = Stmt.For _ _ _ _ _ := rfl
  rw [eS] at hE ⊢
  rw [e8]
  clear eS e8
  have hMk9 := kstMark
  have hq : 0 ≤ r.fdiv 2 ∧ r.fdiv 2 ≤ 20 := by rw [Int.fdiv_eq_ediv_of_nonneg _ (by decide)]; omega
  dsimp only at hE ⊢
  refine' For_rangeA (σ := Int × Tok) (a := 0) (b := r.fdiv 2 + 1) (st := 1) (n := (r.fdiv 2 + 1).toNat) (fun _ => [(L + 1, ob)]) (fun c => [("back", .int c.1 c.2)]) (fun _ => True) ["red", "green", "blue", "hue", "near"] (fun i c => c.1 = backP r z i) ⟨0, t1⟩ F N rfl rfl rfl ?small ?size ?hev trivial ?hk ?h0 ?turn ?done ?hs hE
  case hs => intro _; rfl
  case hk => exact List.forall_mem_cons.2 ⟨by with_unfolding_all rfl, fun _ h => nomatch h⟩
  case small => exact small_one (by omega) (by omega) (by omega) (by omega)
  case size => exact (rangeSize_nat 0 _).trans (by rw [Int.sub_zero])
  case h0 => rfl
  case hev =>
    k_fold
    k_steps
    all_goals assumption
  case turn =>
    intro c i t u h tk own hi hoff _ hP F2 N2
    have e1 : (0 : Int) + ((i : Nat) : Int) * 1 = i := by omega
    rw [e1] at F2
    obtain ⟨n, tn⟩ := c
    dsimp only at hP
    dsimp only [kstB] at F2 N2
    simp only [List.cons_append, List.nil_append] at N2
    (try dsimp only)
    obtain ⟨p, hp, hin⟩ := H16 i hi
    have hpl : place2 r z i = p.fmod r := by unfold place2; rw [hp]; rfl
    obtain ⟨f0, hh, ll, ss, f2, f3⟩ := near2_some hp
    obtain ⟨f4, f5, f6, f7⟩ := nearU_some f3
    have f8 := not_nan_of_fin f4
    have f9 := not_inf_of_fin f4
    clear hp f3 H16
    subst f6
    have f10 : ([(z * (i : Int)).fmod r, (-z * (i : Int)).fmod r].any fun x => x == (Flt.toInt Float64.truncOf (Float64.add (Float64.mul hh (Float64.ofInt r)) fH)).fmod r) = true := by
      rcases hin with h | h <;> simp [h]
    (try k_fold)
    k_steps
    · exact absurd (f5.symm.trans (bigI_of (by assumption))) Bool.false_ne_true
    · rename Fr h₀ L _ _ => F9
      rename News h₀ L _ _ => N9
      refine s16_end F9 N9 (by repeat' (first | exact sub_rfl | refine sub_cons ?_)) ?_ (by with_unfolding_all rfl) ?_
      · show _ = backP r z i + (z * i - place2 r z i).fdiv r
        rw [hpl, ← hP]
      · intro y h1 a1 h3
        have b1 : y ≠ "near" := fun e => by rw [e] at h3; exact absurd h3 (by decide)
        have b2 : y ≠ "hue" := fun e => by rw [e] at h3; exact absurd h3 (by decide)
        have b3 : y ≠ "blue" := fun e => by rw [e] at h3; exact absurd h3 (by decide)
        have b4 : y ≠ "green" := fun e => by rw [e] at h3; exact absurd h3 (by decide)
        have b5 : y ≠ "red" := fun e => by rw [e] at h3; exact absurd h3 (by decide)
        have h5 : ¬ ((["red", "green", "blue", "hue", "near"] : List PySem.Str).contains y = true) := fun q => by rw [h3] at q; cases q
        simp only [if_neg h1, if_neg a1, if_neg b1, if_neg b2, if_neg b3, if_neg b4, if_neg b5, if_neg h5]
  case done =>
    intro c u h tk _ hP F2 N2
    obtain ⟨n, tn⟩ := c
    dsimp only at hP F2 N2
    subst hP
    refine post tn _ h tk (fr_name (fr_name (fr_name (fr_name (fr_name (fr_name (fr_name F2 ?a1) ?a2) ?a3) ?a4) ?a5) ?a6) ?a7) N2
    all_goals with_unfolding_all rfl
end Mine
end
/- part S17 -/
section
open PySem.Calls
open Sem (wp)
set_option Elab.async false
set_option maxRecDepth 100000
namespace Mine
local macro_rules | `(tactic| walk_at "call ref") => `(tactic| (k_here; (with_reducible show wpAny _ _ (call (Value.ref 151) [Value.int _ _]) _ _ _); k_dflt ((refine sp_useA (sp_read _ _ _ (by omega) (by omega) (by assumption) _) ?_)); tb_rel))
local macro_rules | `(tactic| walk_at "call ref") => `(tactic| (k_here; (with_reducible show wpAny _ _ (call (Value.ref 130) [Value.int _ _, Value.int _ _]) _ _ _); k_dflt ((refine sp_useA (sp_odd _ _ _ _ (by assumption) _ _) ?_)); tb_rel))
local macro_rules | `(tactic| walk_at "binaryOp Mult int str") => `(tactic| (k_here; (with_reducible show wpAny _ _ (binaryOp Operator.Mult (Value.int _ _) (Value.str _ _)) _ _ _); k_dflt (refine' mul_int_str ?ok ?_); (case ok => exact one_ok (by omega) (by omega)); intro _ _))
theorem qs_short {n : Int} (h0 : 0 ≤ n) (h1 : n ≤ 60) : (Txt.mul "\"" n).length ≤ 60 := by
  have ho := respOk_of h0 h1
  unfold respOk at ho
  simp only [Bool.and_eq_true, decide_eq_true_eq] at ho
  exact ho.1.1.1
local macro_rules | `(tactic| walk_at "binaryOp Add str str") => `(tactic| (k_here; (with_reducible show wpAny _ _ (binaryOp Operator.Add (Value.str _ _) (Value.str _ _)) _ _ _); k_dflt (refine' add_short (qs_short (by omega) (by omega)) (short_getD ?sb) ?sc ?_); (case sb => decide +kernel); (case sc => decide +kernel); intro _ _))
set_option maxHeartbeats 1000000 in
theorem seg17 (w : World) {mean : ExcName → Option Value} {mg mb : PySem.Str → Option Value} {h₀ : Heap} {L fa : Addr} {cv pv hv fv dv kv : Value} {s : Shared} {m : PySem.Str → Option Value} {Q : Flow → Shared → Prop} {E : Value → Shared → Prop} {ob : Obj} {lo sg : Int} {t1 t2 : Tok} {rd : PySem.Str}
    (LX : LawX w mean mg mb h₀)
    (F : Fr h₀ L s.heap (fun y => if y = "back" then some kv else lawF (.int lo t1) pv (.int sg t2) hv fv dv m y))
    (N : News h₀ L s.heap [(L + 1, ob)]) (hlo : 0 ≤ lo ∧ lo ≤ 60) (hsg : 0 ≤ sg ∧ sg ≤ 1) (hrd : readP lo = some rd) 
    (heq : Txt.mul "\"" (lo.fdiv 2) ++ [Str.ofString "k", Str.ofString ""].getD sg.toNat Str.empty = rd)
    (hE : PassesOwn (LawM w) (LawAr L fa cv) (LawE L fa cv) E)
    (post : ∀ m' h tk, Fr h₀ L h (fun y => if y = "back" then some kv else lawF (.int lo t1) pv (.int sg t2) hv fv dv m' y) → News h₀ L h [(L + 1, ob)] → Q .next { s with heap := h, toks := tk }) :
    wpAny (LawM w) (LawAr L fa cv) (exec (lawSt 17) (LawE L fa cv)) Q E s := by
  obtain ⟨K, X, V, GL, T, TB, TE, TW, B⟩ := LX
  unfold LawAr LawE LawM lawN at hE ⊢
  revert K
  k_fill
  intro K
  obtain ⟨_, _, M⟩ := bmod_of_top T
  have eS : lawSc = Scope.mk _ _ _ _ _ := rfl
  have e8 : lawSt 17 = Stmt.If _ _ _ _ := rfl
  rw [eS] at hE ⊢
  rw [e8]
  clear eS e8
  have hMk9 := kstMark
  k_with "table" => skip
  dsimp only at hE ⊢
  obtain ⟨hlo1, hlo2⟩ := hlo
  have hlq : 0 ≤ lo.fdiv 2 ∧ lo.fdiv 2 ≤ 30 := by rw [Int.fdiv_eq_ediv_of_nonneg _ (by decide)]; omega
  (try k_fold)
  k_steps
  k_with_none
  · rename (_ != _) = true => hne
    rw [heq, bne_self_eq_false] at hne
    exact absurd hne Bool.false_ne_true
  · rename Fr h₀ L _ _ => F9
    rename News h₀ L _ _ => N9
    exact post m _ _ F9 (cb_drop N9 sub_tl)
set_option maxHeartbeats 1000000 in
theorem seg18 (w : World) {mean : ExcName → Option Value} {mg mb : PySem.Str → Option Value} {h₀ : Heap} {L fa : Addr} {cv lv pv sv hv dv : Value} {s : Shared} {m : PySem.Str → Option Value} {Q : Flow → Shared → Prop} {E : Value → Shared → Prop} {ob : Obj} {ba sg r z : Int} {t1 t3 t4 : Tok} {rd : PySem.Str}
    (LX : LawX w mean mg mb h₀)
    (F : Fr h₀ L s.heap (fun y => if y = "back" then some (.int ba t1) else lawF lv pv sv hv (.int r t3) dv m y))
    (N : News h₀ L s.heap [(L + 1, ob)]) (hob : ob.data = .cell (some (.int z t4))) (hba : 0 ≤ ba ∧ ba ≤ 60) (hsg : 0 ≤ sg ∧ sg ≤ 1) (hrd : readP ba = some rd) (hod : ∃ n, oddRun n z r 3 0 = some sg)
    (heq : Txt.mul "\"" (ba.fdiv 2) ++ [Str.ofString "k", Str.ofString ""].getD sg.toNat Str.empty = rd)
    (hE : PassesOwn (LawM w) (LawAr L fa cv) (LawE L fa cv) E)
    (post : ∀ m' h tk, Fr h₀ L h (fun y => if y = "back" then some (.int ba t1) else lawF lv pv sv hv (.int r t3) dv m' y) → News h₀ L h [(L + 1, ob)] → Q .next { s with heap := h, toks := tk }) :
    wpAny (LawM w) (LawAr L fa cv) (exec (lawSt 18) (LawE L fa cv)) Q E s := by
  obtain ⟨K, X, V, GL, T, TB, TE, TW, B⟩ := LX
  unfold LawAr LawE LawM lawN at hE ⊢
  revert K
  k_fill
  intro K
  obtain ⟨_, _, M⟩ := bmod_of_top T
  have eS : lawSc = Scope.mk _ _ _ _ _ := rfl
  have e8 : lawSt 18 = Stmt.If _ _ _ _ := rfl
  rw [eS] at hE ⊢
  rw [e8]
  clear eS e8
  have hMk9 := kstMark
  k_with "table" => skip
  dsimp only at hE ⊢
  obtain ⟨hba1, hba2⟩ := hba
  have hlq : 0 ≤ ba.fdiv 2 ∧ ba.fdiv 2 ≤ 30 := by rw [Int.fdiv_eq_ediv_of_nonneg _ (by decide)]; omega
  (try k_fold)
  k_steps
  k_with_none
  · rename (_ != _) = true => hne
    rw [heq, bne_self_eq_false] at hne
    exact absurd hne Bool.false_ne_true
  · rename Fr h₀ L _ _ => F9
    rename News h₀ L _ _ => N9
    exact post m _ _ F9 (cb_drop N9 sub_tl)
set_option maxHeartbeats 1000000 in
theorem seg19 (w : World) {mean : ExcName → Option Value} {mg mb : PySem.Str → Option Value} {h₀ : Heap} {L fa : Addr} {cv pv sv dv : Value} {s : Shared} {m : PySem.Str → Option Value} {Q : Flow → Shared → Prop} {E : Value → Shared → Prop} {ob : Obj} {lo ba r hf : Int} {t0 t1 t2 t3 : Tok}
    (LX : LawX w mean mg mb h₀)
    (F : Fr h₀ L s.heap (fun y => if y = "back" then some (.int ba t1) else lawF (.int lo t0) pv sv (.int hf t2) (.int r t3) dv m y))
    (N : News h₀ L s.heap [(L + 1, ob)]) (heq : lo + ba = hf * r.fdiv 2) (hh : 0 ≤ hf ∧ hf ≤ 7) (hq : 0 ≤ r.fdiv 2 ∧ r.fdiv 2 ≤ 20)
    (hE : PassesOwn (LawM w) (LawAr L fa cv) (LawE L fa cv) E)
    (post : ∀ m' h tk, Fr h₀ L h m' → News h₀ L h [(L + 1, ob)] → Q (.ret (.bool true)) { s with heap := h, toks := tk }) :
    wpAny (LawM w) (LawAr L fa cv) (exec (lawSt 19) (LawE L fa cv)) Q E s := by
  obtain ⟨K, X, V, GL, T, TB, TE, TW, B⟩ := LX
  unfold LawAr LawE LawM lawN at hE ⊢
  revert K
  k_fill
  intro K
  obtain ⟨_, _, M⟩ := bmod_of_top T
  have eS : lawSc = Scope.mk _ _ _ _ _ := rfl
  have e8 : lawSt 19 = Stmt.Return _ _ := rfl
  rw [eS] at hE ⊢
  rw [e8]
  clear eS e8
  have hMk9 := kstMark
  dsimp only at hE ⊢
  (try k_fold)
  k_steps
  rename Fr h₀ L _ _ => F9
  rename News h₀ L _ _ => N9
  have e : (lo + ba == hf * r.fdiv 2) = true := beq_iff_eq.mpr heq
  rw [e]
  exact post _ _ _ F9 N9
end Mine
end
/- part S20 -/
section
open PySem.Calls
open Sem (wp)
set_option Elab.async false
set_option maxRecDepth 100000
namespace Mine
/-- the numbers' side of the law for the size z, the factor r, the sign sg -/
structure LawFacts (z r sg : Int) : Prop where
  zb : 3 ≤ z ∧ z ≤ 15
  rb : 1 ≤ r ∧ r ≤ 40
  sb : 0 ≤ sg ∧ sg ≤ 1
  f8 : ∀ i : Nat, i < z.toNat → (near1 (r * i) z).isSome = true
  fT : ∀ i : Nat, i < (z.fdiv 2 + 1).toNat → ∀ y : Int, 0 ≤ y → tzV (zoneP (hoursP r z i) i y) = some (toldZ (hoursP r z i) i)
  f10 : ∀ i : Nat, i < (z.fdiv 2 + 1).toNat → 0 ≤ placeP r z i ∧ placeP r z i ≤ z - 1 ∧ ∃ wh, (if toldZ (hoursP r z i) i < 0 then -(toldZ (hoursP r z i) i) else toldZ (hoursP r z i) i) = 3600 * wh + 60 * i ∧ wh ≤ z.fdiv 2 ∧ (wh = (r * i).fmod z ∨ wh = (-r * i).fmod z)
  fin : ∀ n ∈ List.drop 1 (placesP r z z.toNat), 0 ≤ n ∧ n < z
  frev : (List.drop 1 (placesP r z z.toNat)).reverse = (List.drop 1 (placesP r z z.toNat)).map fun k => z - k
  fsort : (bubO (List.drop 1 (placesP r z z.toNat)) ((List.drop 1 (placesP r z z.toNat)).length - 1)).2 = (List.range (z - 1).toNat).map (fun j : Nat => (1 : Int) + j)
  fturn : (bubO (List.drop 1 (placesP r z z.toNat)) ((List.drop 1 (placesP r z z.toNat)).length - 1)).1.fmod 2 = sg
  fbel : (belowP r z (z.fdiv 2 + 1).toNat).fmod 2 = sg
  f16 : ∀ i : Nat, i < (r.fdiv 2 + 1).toNat → ∃ p, near2 (z * i) r = some p ∧ (p.fmod r = (z * i).fmod r ∨ p.fmod r = (-z * i).fmod r)
  flo : 0 ≤ lostP r z z.toNat ∧ lostP r z z.toNat ≤ 60
  frd : ∃ rd, readP (lostP r z z.toNat) = some rd ∧ Txt.mul "\"" ((lostP r z z.toNat).fdiv 2) ++ [Str.ofString "k", Str.ofString ""].getD sg.toNat Str.empty = rd
  fba : 0 ≤ backP r z (r.fdiv 2 + 1).toNat ∧ backP r z (r.fdiv 2 + 1).toNat ≤ 60
  frd2 : ∃ sg2 rd, (0 ≤ sg2 ∧ sg2 ≤ 1) ∧ (∃ n, oddRun n z r 3 0 = some sg2) ∧ readP (backP r z (r.fdiv 2 + 1).toNat) = some rd ∧ Txt.mul "\"" ((backP r z (r.fdiv 2 + 1).toNat).fdiv 2) ++ [Str.ofString "k", Str.ofString ""].getD sg2.toNat Str.empty = rd
  fsum : lostP r z z.toNat + backP r z (r.fdiv 2 + 1).toNat = z.fdiv 2 * r.fdiv 2
theorem law_rest (w : World) {mean : ExcName → Option Value} {mg mb : PySem.Str → Option Value} {h₀ : Heap} {L fa D P : Addr} {cv : Value} {s : Shared} {m : PySem.Str → Option Value} {Q : Flow → Shared → Prop} {E : Value → Shared → Prop} {ws : List Value} {ob : Obj} {r z sg : Int} {ds : List Int} {t1 t2 t3 t4 t5 : Tok}
    (LX : LawX w mean mg mb h₀) (LF : LawFacts z r sg)
    (F : Fr h₀ L s.heap (lawF (.int 0 t1) (.ref P) (.int sg t5) (.int (z.fdiv 2) t2) (.int r t3) (.ref D) m))
    (N : News h₀ L s.heap [(P, W.listOf #[] 0), (D, W.listOf ws.toArray 0), (L + 1, ob)]) (hob : ob.data = .cell (some (.int z t4))) (hP : D < P) (hD : L + 1 < D)
    (hws : IntsAre ws ds) (hds : ds.length = 3) (hd2 : 0 ≤ ds.getD (Int.toNat 2) 0 ∧ ds.getD (Int.toNat 2) 0 < 1000000)
    (hE : PassesOwn (LawM w) (LawAr L fa cv) (LawE L fa cv) E)
    (fin : ∀ m' h tk, Fr h₀ L h m' → News h₀ L h [(L + 1, ob)] → Q (.ret (.bool true)) { s with heap := h, toks := tk }) :
    wpC (LawM w) (LawAr L fa cv) (execs [lawSt 8, lawSt 9, lawSt 10, lawSt 11, lawSt 12, lawSt 13, lawSt 14, lawSt 15, lawSt 16, lawSt 17, lawSt 18, lawSt 19] (LawE L fa cv)) Q E s := by
  obtain ⟨rd, hrd, hrq⟩ := LF.frd
  obtain ⟨sg2, rd2, hs2, hod2, hrd2, hrq2⟩ := LF.frd2
  have hz := LF.zb
  have hpl := placesP_len r z z.toNat
  have hdl : (List.drop 1 (placesP r z z.toNat)).length = z.toNat - 1 := by rw [List.length_drop, hpl]
  have hhf : 0 ≤ z.fdiv 2 ∧ z.fdiv 2 ≤ 7 := by rw [Int.fdiv_eq_ediv_of_nonneg _ (by decide)]; omega
  have hrf : 0 ≤ r.fdiv 2 ∧ r.fdiv 2 ≤ 20 := by have := LF.rb; rw [Int.fdiv_eq_ediv_of_nonneg _ (by decide)]; omega
  refine wpC_execs_cons (wpC_of_any (seg8 w LX F N hob hP hD LF.zb LF.rb LF.f8 hE fun vs ep t m8 h tk hvs F8 N8 => ?_))
  refine wpC_execs_cons (wpC_of_any (seg9 w LX F8 N8 hE fun t9 h9 tk9 F9 N9 => ?_))
  refine wpC_execs_cons (wpC_of_any (seg10 w LX F9 N9 hvs hws hds hd2 hob LF.zb LF.rb LF.fT LF.f10 hE fun t10 m10 h10 tk10 F10 N10 => ?_))
  refine wpC_execs_cons (wpC_of_any (seg11 w LX F10 N10 hvs hpl hob LF.zb (fun n hn => ⟨(LF.fin n hn).1, by have := (LF.fin n hn).2; omega⟩) hE fun b t11 m11 h11 tk11 hb F11 N11 => ?_))
  refine wpC_execs_cons (seg12 w LX F11 N11 hb (by omega) (by omega) hE fun b12 tn tb m12 h12 tk12 hb12 F12 N12 => ?_)
  refine wpC_execs_cons (seg13 w LX F12 N12 hvs hpl rfl hob LF.zb hb LF.fin LF.frev hE fun m13 h13 tk13 F13 N13 => ?_)
  refine wpC_execs_cons (wpC_of_any (seg14 (D := D) w LX F13 (cb_drop N13 sub_tl2) hob LF.zb (hb12.trans LF.fsort) LF.fturn LF.fbel hE fun m14 h14 tk14 F14 N14 => ?_))
  refine wpC_execs_cons (wpC_of_any (seg15 w LX F14 N14 hE fun t15 h15 tk15 F15 N15 => ?_))
  refine wpC_execs_cons (wpC_of_any (seg16 w LX F15 N15 hob LF.zb LF.rb LF.f16 hE fun t16 m16 h16 tk16 F16 N16 => ?_))
  refine wpC_execs_cons (wpC_of_any (seg17 w LX F16 N16 LF.flo LF.sb hrd hrq hE fun m17 h17 tk17 F17 N17 => ?_))
  refine wpC_execs_cons (wpC_of_any (seg18 w LX F17 N17 hob LF.fba hs2 hrd2 hod2 hrq2 hE fun m18 h18 tk18 F18 N18 => ?_))
  refine wpC_execs_cons (wpC_of_any (seg19 w LX F18 N18 LF.fsum hhf hrf hE fun m19 h19 tk19 F19 N19 => ?_))
  exact fin _ _ _ F19 N19
end Mine
end
/- part Fa -/
section
open PySem.Calls
set_option Elab.async false
set_option maxRecDepth 100000
namespace Mine
/-- the numbers alone, without colours -/
def placeI (r z : Int) (i : Nat) : Int := (r * i).fmod z
def placesI (r z : Int) (n : Nat) : List Int := (List.range n).map (placeI r z)
def lostI (r z : Int) : Nat → Int
  | 0 => 0
  | i + 1 => if (i : Int) ≤ z.fdiv 2 then lostI r z i + (r * i - placeI r z i).fdiv z else lostI r z i
def hoursI (r z : Int) (i : Nat) : Int := if placeI r z i ≤ z.fdiv 2 then placeI r z i else placeI r z i - z
def belowI (r z : Int) : Nat → Int
  | 0 => 0
  | i + 1 => if toldZ (hoursI r z i) i < 0 then belowI r z i + 1 else belowI r z i
def backI (r z : Int) : Nat → Int
  | 0 => 0
  | i + 1 => backI r z i + (z * i - (z * i).fmod r).fdiv r
theorem places_eq {r z : Int} {n : Nat} (h : ∀ i, i < n → placeP r z i = placeI r z i) : placesP r z n = placesI r z n :=
  List.map_congr_left fun i hi => h i (List.mem_range.mp hi)
theorem lost_eq {r z : Int} : ∀ {n : Nat}, (∀ i, i < n → placeP r z i = placeI r z i) → lostP r z n = lostI r z n
  | 0, _ => rfl
  | n + 1, h => by
    show (if (n : Int) ≤ z.fdiv 2 then lostP r z n + (r * n - placeP r z n).fdiv z else lostP r z n) = if (n : Int) ≤ z.fdiv 2 then lostI r z n + (r * n - placeI r z n).fdiv z else lostI r z n
    rw [h n (Nat.lt_succ_self n), lost_eq fun i hi => h i (Nat.lt_succ_of_lt hi)]
theorem hours_eq {r z : Int} {i : Nat} (h : placeP r z i = placeI r z i) : hoursP r z i = hoursI r z i := by
  unfold hoursP hoursI; rw [h]
theorem below_eq {r z : Int} : ∀ {n : Nat}, (∀ i, i < n → placeP r z i = placeI r z i) → belowP r z n = belowI r z n
  | 0, _ => rfl
  | n + 1, h => by
    show (if toldZ (hoursP r z n) n < 0 then belowP r z n + 1 else belowP r z n) = if toldZ (hoursI r z n) n < 0 then belowI r z n + 1 else belowI r z n
    rw [hours_eq (h n (Nat.lt_succ_self n)), below_eq fun i hi => h i (Nat.lt_succ_of_lt hi)]
theorem back_eq {r z : Int} : ∀ {n : Nat}, (∀ i, i < n → place2 r z i = (z * i).fmod r) → backP r z n = backI r z n
  | 0, _ => rfl
  | n + 1, h => by
    show backP r z n + (z * n - place2 r z n).fdiv r = backI r z n + (z * n - (z * n).fmod r).fdiv r
    rw [h n (Nat.lt_succ_self n), back_eq fun i hi => h i (Nat.lt_succ_of_lt hi)]
/-- the hours and minutes that occur -/
def pairsL : List (Int × Int) := [(-7, 4), (-6, 1), (-6, 3), (-6, 4), (-5, 2), (-5, 3), (-5, 4), (-5, 5), (-4, 1), (-4, 2), (-4, 3), (-4, 4), (-4, 5), (-3, 1), (-3, 2), (-3, 3), (-3, 4), (-3, 5), (-3, 6), (-2, 1), (-2, 2), (-2, 3), (-2, 4), (-2, 5), (-1, 1), (-1, 2), (-1, 3), (-1, 4), (-1, 5), (-1, 6), (-1, 7), (0, 0), (1, 1), (1, 2), (1, 3), (1, 4), (1, 5), (1, 6), (1, 7), (2, 1), (2, 2), (2, 3), (2, 4), (2, 5), (2, 6), (2, 7), (3, 1), (3, 2), (3, 3), (3, 4), (3, 5), (3, 6), (4, 1), (4, 2), (4, 3), (4, 4), (4, 5), (4, 6), (4, 7), (5, 1), (5, 2), (5, 3), (5, 4), (5, 5), (5, 6), (6, 2), (6, 3), (6, 5), (6, 6), (7, 1), (7, 2), (7, 4), (7, 7)]
def okI (z r sg sg2 : Int) : Bool :=
  (decide (3 ≤ z ∧ z ≤ 15) && decide (1 ≤ r ∧ r ≤ 40) && decide (0 ≤ sg ∧ sg ≤ 1) && decide (0 ≤ sg2 ∧ sg2 ≤ 1)) &&
  ((List.range (z.fdiv 2 + 1).toNat).all fun i =>
    pairsL.contains (hoursI r z i, (i : Int)) &&
    (let v := toldZ (hoursI r z i) i
     let a := if v < 0 then -v else v
     let wh := (a - 60 * i).fdiv 3600
     decide (a = 3600 * wh + 60 * i ∧ wh ≤ z.fdiv 2 ∧ (wh = (r * i).fmod z ∨ wh = (-r * i).fmod z)))) &&
  ((List.range z.toNat).all fun i => decide (0 ≤ placeI r z i ∧ placeI r z i ≤ z - 1)) &&
  decide ((List.drop 1 (placesI r z z.toNat)).reverse = (List.drop 1 (placesI r z z.toNat)).map fun k => z - k) &&
  decide ((belowI r z (z.fdiv 2 + 1).toNat).fmod 2 = sg) &&
  decide (0 ≤ lostI r z z.toNat ∧ lostI r z z.toNat ≤ 60 ∧ (lostI r z z.toNat).fmod 2 = sg) &&
  decide (0 ≤ backI r z (r.fdiv 2 + 1).toNat ∧ backI r z (r.fdiv 2 + 1).toNat ≤ 60 ∧ (backI r z (r.fdiv 2 + 1).toNat).fmod 2 = sg2) &&
  decide (lostI r z z.toNat + backI r z (r.fdiv 2 + 1).toNat = z.fdiv 2 * r.fdiv 2)
def okB (z r sg : Int) : Bool :=
  decide ((bubO (List.drop 1 (placesI r z z.toNat)) ((List.drop 1 (placesI r z z.toNat)).length - 1)).2 = (List.range (z - 1).toNat).map (fun j : Nat => (1 : Int) + j)) &&
  decide ((bubO (List.drop 1 (placesI r z z.toNat)) ((List.drop 1 (placesI r z z.toNat)).length - 1)).1.fmod 2 = sg)
def rsL (z : Int) : List Int := if z = 3 then [1, 5, 7, 11, 13, 17] else if z = 5 then [1, 3, 7, 9, 11, 13, 17] else if z = 7 then [1, 3, 5, 9, 11, 13, 15] else if z = 9 then [1, 5, 7, 11, 13, 17] else if z = 11 then [1, 3, 5, 7, 9, 13, 15] else if z = 13 then [1, 3, 5, 7, 9, 11, 15] else if z = 15 then [1, 7, 11, 13, 17] else []
def sgOf (r z : Int) : Int := (oddRun 60 r z 3 0).getD 5
def okA (a z : Int) : Bool := match near1 a z with
  | some p => p.fmod z == a.fmod z
  | none => false
def okC (a r : Int) : Bool := match near2 a r with
  | some p => p.fmod r == a.fmod r
  | none => false
theorem okA_of {a z : Int} (h : okA a z = true) : ∃ p, near1 a z = some p ∧ p.fmod z = a.fmod z := by
  unfold okA at h
  split at h
  · rename_i p hp; exact ⟨p, hp, beq_iff_eq.mp h⟩
  · cases h
theorem okC_of {a z : Int} (h : okC a z = true) : ∃ p, near2 a z = some p ∧ p.fmod z = a.fmod z := by
  unfold okC at h
  split at h
  · rename_i p hp; exact ⟨p, hp, beq_iff_eq.mp h⟩
  · cases h
/-- what a reading tells of n marks -/
def readT (n : Int) : PySem.Str := Txt.mul "\"" (n.fdiv 2) ++ [Str.ofString "k", Str.ofString ""].getD (n.fmod 2).toNat Str.empty
theorem lawFacts_of {z r sg sg2 : Int} (hA : ∀ i : Nat, i < z.toNat → okA (r * i) z = true) (hC : ∀ i : Nat, i < (r.fdiv 2 + 1).toNat → okC (z * i) r = true)
    (hI : okI z r sg sg2 = true) (hB : okB z r sg = true) (hT : ∀ p ∈ pairsL, ∀ y : Int, 0 ≤ y → tzV (zoneP p.1 p.2 y) = some (toldZ p.1 p.2))
    (hod : ∃ n, oddRun n z r 3 0 = some sg2) (hR : ∀ n : Int, 0 ≤ n → n ≤ 60 → readP n = some (readT n)) : LawFacts z r sg := by
  unfold okI at hI
  simp only [Bool.and_eq_true, decide_eq_true_eq] at hI
  obtain ⟨⟨⟨⟨⟨⟨⟨⟨⟨⟨hz, hr⟩, hs⟩, hs2⟩, h1⟩, h2⟩, h3⟩, h4⟩, h5⟩, h6⟩, h7⟩ := hI
  unfold okB at hB
  simp only [Bool.and_eq_true, decide_eq_true_eq] at hB
  have hq : 0 ≤ z.fdiv 2 ∧ (z.fdiv 2 + 1).toNat ≤ z.toNat := by rw [Int.fdiv_eq_ediv_of_nonneg _ (by decide)]; omega
  have hp : ∀ i, i < z.toNat → placeP r z i = placeI r z i := by
    intro i hi
    obtain ⟨p, e, q⟩ := okA_of (hA i hi)
    unfold placeP placeI
    rw [e]
    exact q
  have hp2 : ∀ i, i < (r.fdiv 2 + 1).toNat → place2 r z i = (z * i).fmod r := by
    intro i hi
    obtain ⟨p, e, q⟩ := okC_of (hC i hi)
    unfold place2
    rw [e]
    exact q
  have ep := places_eq hp
  have el := lost_eq hp
  have eb := below_eq (n := (z.fdiv 2 + 1).toNat) fun i hi => hp i (Nat.lt_of_lt_of_le hi hq.2)
  have ek := back_eq hp2
  have hh : ∀ i, i < (z.fdiv 2 + 1).toNat → hoursP r z i = hoursI r z i := fun i hi => hours_eq (hp i (Nat.lt_of_lt_of_le hi hq.2))
  have h1' := fun i hi => List.all_eq_true.mp h1 i (List.mem_range.mpr hi)
  have h2' := fun i hi => List.all_eq_true.mp h2 i (List.mem_range.mpr hi)
  simp only [Bool.and_eq_true, decide_eq_true_eq, List.contains_iff_mem] at h1'
  simp only [decide_eq_true_eq] at h2'
  refine ⟨hz, hr, hs, fun i hi => ?_, fun i hi y hy => ?_, fun i hi => ?_, fun n hn => ?_, ?_, ?_, ?_, ?_, fun i hi => ?_, ?_, ?_, ?_, ?_, ?_⟩
  · obtain ⟨p, e, _⟩ := okA_of (hA i hi)
    rw [e]; rfl
  · rw [hh i hi]
    exact hT _ (h1' i hi).1 y hy
  · have hiz := Nat.lt_of_lt_of_le hi hq.2
    rw [hh i hi, hp i hiz]
    exact ⟨(h2' i hiz).1, (h2' i hiz).2, _, (h1' i hi).2⟩
  · rw [ep] at hn
    obtain ⟨i, hi, rfl⟩ := List.mem_map.mp (List.mem_of_mem_drop hn)
    have := h2' i (List.mem_range.mp hi)
    omega
  · rw [ep]; exact h3
  · rw [ep]; exact hB.1
  · rw [ep]; exact hB.2
  · rw [eb]; exact h4
  · obtain ⟨p, e, q⟩ := okC_of (hC i hi)
    exact ⟨p, e, .inl q⟩
  · rw [el]; exact ⟨h5.1, h5.2.1⟩
  · rw [el]
    exact ⟨_, hR _ h5.1 h5.2.1, by unfold readT; rw [h5.2.2]⟩
  · rw [ek]; exact ⟨h6.1, h6.2.1⟩
  · rw [ek]
    exact ⟨sg2, _, hs2, hod, hR _ h6.1 h6.2.1, by unfold readT; rw [h6.2.2]⟩
  · rw [el, ek]; exact h7
theorem selP : ∀ a : Fin 7, ∀ b : Fin 8, (match shareRun 30 (1 + (b.val : Int) * 2) (3 + (a.val : Int) * 2) with | some r => (rsL (3 + (a.val : Int) * 2)).contains r && (oddRun 60 r (3 + (a.val : Int) * 2) 3 0).isSome && (oddRun 60 (3 + (a.val : Int) * 2) r 3 0).isSome | none => false) = true := by decide +kernel
theorem okIs : ∀ a : Fin 7, ((rsL (3 + (a.val : Int) * 2)).all fun r => okI (3 + (a.val : Int) * 2) r (sgOf r (3 + (a.val : Int) * 2)) (sgOf (3 + (a.val : Int) * 2) r)) = true := by decide +kernel
theorem okBs : ∀ a : Fin 7, ((rsL (3 + (a.val : Int) * 2)).all fun r => okB (3 + (a.val : Int) * 2) r (sgOf r (3 + (a.val : Int) * 2))) = true := by decide +kernel
theorem readR : ∀ n : Fin 61, (match readP (n.val : Int) with | some x => x == readT (n.val : Int) | none => false) = true := by decide +kernel
end Mine
end
/- part Fb -/
section
open PySem.Calls
set_option Elab.async false
set_option maxRecDepth 100000
namespace Mine
def AL (z : Int) : List Int := if z = 3 then [0, 1, 2, 5, 7, 10, 11, 13, 14, 17, 22, 26, 34] else if z = 5 then [0, 1, 2, 3, 4, 6, 7, 9, 11, 12, 13, 14, 17, 18, 21, 22, 26, 27, 28, 33, 34, 36, 39, 44, 51, 52, 68] else if z = 7 then [0, 1, 2, 3, 4, 5, 6, 9, 10, 11, 12, 13, 15, 18, 20, 22, 25, 26, 27, 30, 33, 36, 39, 44, 45, 52, 54, 55, 60, 65, 66, 75, 78, 90] else if z = 9 then [0, 1, 2, 3, 4, 5, 6, 7, 8, 10, 11, 13, 14, 15, 17, 20, 21, 22, 25, 26, 28, 30, 33, 34, 35, 39, 40, 42, 44, 49, 51, 52, 55, 56, 65, 66, 68, 77, 78, 85, 88, 91, 102, 104, 119, 136] else if z = 11 then [0, 1, 2, 3, 4, 5, 6, 7, 8, 9, 10, 12, 13, 14, 15, 18, 20, 21, 24, 25, 26, 27, 28, 30, 35, 36, 39, 40, 42, 45, 49, 50, 52, 54, 56, 60, 63, 65, 70, 72, 75, 78, 81, 90, 91, 104, 105, 117, 120, 130, 135, 150] else if z = 13 then [0, 1, 2, 3, 4, 5, 6, 7, 8, 9, 10, 11, 12, 14, 15, 18, 20, 21, 22, 24, 25, 27, 28, 30, 33, 35, 36, 40, 42, 44, 45, 49, 50, 54, 55, 56, 60, 63, 66, 70, 72, 75, 77, 81, 84, 88, 90, 99, 105, 108, 110, 120, 121, 132, 135, 150, 165, 180] else if z = 15 then [0, 1, 2, 3, 4, 5, 6, 7, 8, 9, 10, 11, 12, 13, 14, 17, 21, 22, 26, 28, 33, 34, 35, 39, 42, 44, 49, 51, 52, 55, 56, 63, 65, 66, 68, 70, 77, 78, 84, 85, 88, 91, 98, 99, 102, 104, 110, 117, 119, 121, 130, 132, 136, 143, 153, 154, 156, 169, 170, 182, 187, 204, 221, 238] else []
def CL (r : Int) : List Int := if r = 1 then [0] else if r = 3 then [0, 5, 7, 11, 13] else if r = 5 then [0, 3, 6, 7, 9, 11, 13, 14, 18, 22, 26] else if r = 7 then [0, 3, 5, 6, 9, 10, 11, 13, 15, 18, 22, 26, 27, 30, 33, 39, 45] else if r = 9 then [0, 5, 7, 10, 11, 13, 14, 15, 20, 21, 22, 26, 28, 33, 39, 44, 52] else if r = 11 then [0, 3, 5, 6, 7, 9, 10, 12, 13, 14, 15, 18, 20, 21, 25, 26, 27, 28, 30, 35, 36, 39, 45, 52, 60, 65, 75] else if r = 13 then [0, 3, 5, 6, 7, 9, 10, 11, 12, 14, 15, 18, 20, 21, 22, 25, 27, 28, 30, 33, 35, 36, 42, 44, 45, 54, 55, 60, 66, 75, 90] else if r = 15 then [0, 7, 11, 13, 14, 21, 22, 26, 28, 33, 35, 39, 42, 44, 49, 52, 55, 65, 66, 77, 78, 91] else if r = 17 then [0, 3, 5, 6, 9, 10, 12, 15, 18, 20, 21, 24, 25, 27, 30, 35, 36, 40, 45, 54, 60, 63, 72, 75, 90, 105, 120] else []
theorem coverA : ∀ a : Fin 7, ((rsL (3 + (a.val : Int) * 2)).all fun r => (List.range (3 + (a.val : Int) * 2).toNat).all fun i => (AL (3 + (a.val : Int) * 2)).contains (r * i)) = true := by decide +kernel
theorem coverC : ∀ a : Fin 7, ((rsL (3 + (a.val : Int) * 2)).all fun r => (List.range (r.fdiv 2 + 1).toNat).all fun i => (CL r).contains ((3 + (a.val : Int) * 2) * i)) = true := by decide +kernel
theorem colA3 : ((AL 3).all fun a => okA a 3) = true := by decide +kernel
theorem colA5 : ((AL 5).all fun a => okA a 5) = true := by decide +kernel
theorem colA7 : ((AL 7).all fun a => okA a 7) = true := by decide +kernel
theorem colA9 : ((AL 9).all fun a => okA a 9) = true := by decide +kernel
theorem colA11 : ((AL 11).all fun a => okA a 11) = true := by decide +kernel
theorem colA13 : ((AL 13).all fun a => okA a 13) = true := by decide +kernel
theorem colA15 : ((AL 15).all fun a => okA a 15) = true := by decide +kernel
theorem colC1 : ((CL 1).all fun a => okC a 1) = true := by decide +kernel
theorem colC3 : ((CL 3).all fun a => okC a 3) = true := by decide +kernel
theorem colC5 : ((CL 5).all fun a => okC a 5) = true := by decide +kernel
theorem colC7 : ((CL 7).all fun a => okC a 7) = true := by decide +kernel
theorem colC9 : ((CL 9).all fun a => okC a 9) = true := by decide +kernel
theorem colC11 : ((CL 11).all fun a => okC a 11) = true := by decide +kernel
theorem colC13 : ((CL 13).all fun a => okC a 13) = true := by decide +kernel
theorem colC15 : ((CL 15).all fun a => okC a 15) = true := by decide +kernel
theorem colC17 : ((CL 17).all fun a => okC a 17) = true := by decide +kernel
theorem colA (z a : Int) (h : (AL z).contains a = true) : okA a z = true := by
  rw [List.contains_iff_mem] at h
  by_cases h3 : z = 3
  · subst h3; exact List.all_eq_true.mp colA3 a h
  by_cases h5 : z = 5
  · subst h5; exact List.all_eq_true.mp colA5 a h
  by_cases h7 : z = 7
  · subst h7; exact List.all_eq_true.mp colA7 a h
  by_cases h9 : z = 9
  · subst h9; exact List.all_eq_true.mp colA9 a h
  by_cases h11 : z = 11
  · subst h11; exact List.all_eq_true.mp colA11 a h
  by_cases h13 : z = 13
  · subst h13; exact List.all_eq_true.mp colA13 a h
  by_cases h15 : z = 15
  · subst h15; exact List.all_eq_true.mp colA15 a h
  unfold AL at h
  rw [if_neg h3, if_neg h5, if_neg h7, if_neg h9, if_neg h11, if_neg h13, if_neg h15] at h
  cases h
theorem colC (r a : Int) (h : (CL r).contains a = true) : okC a r = true := by
  rw [List.contains_iff_mem] at h
  by_cases h1 : r = 1
  · subst h1; exact List.all_eq_true.mp colC1 a h
  by_cases h3 : r = 3
  · subst h3; exact List.all_eq_true.mp colC3 a h
  by_cases h5 : r = 5
  · subst h5; exact List.all_eq_true.mp colC5 a h
  by_cases h7 : r = 7
  · subst h7; exact List.all_eq_true.mp colC7 a h
  by_cases h9 : r = 9
  · subst h9; exact List.all_eq_true.mp colC9 a h
  by_cases h11 : r = 11
  · subst h11; exact List.all_eq_true.mp colC11 a h
  by_cases h13 : r = 13
  · subst h13; exact List.all_eq_true.mp colC13 a h
  by_cases h15 : r = 15
  · subst h15; exact List.all_eq_true.mp colC15 a h
  by_cases h17 : r = 17
  · subst h17; exact List.all_eq_true.mp colC17 a h
  unfold CL at h
  rw [if_neg h1, if_neg h3, if_neg h5, if_neg h7, if_neg h9, if_neg h11, if_neg h13, if_neg h15, if_neg h17] at h
  cases h
end Mine
end
/- part Ft -/
section
open PySem.Calls
set_option Elab.async false
set_option maxRecDepth 100000
namespace Mine
abbrev sA (l : Array Nat) : PySem.Str := ⟨l⟩
theorem lit1 : Str.ofString "-" = sA #[45] := by decide +kernel
theorem lit2 : Str.ofString "+" = sA #[43] := by decide +kernel
theorem lit3 : Str.ofString "" = sA #[] := by decide +kernel
theorem lit4 : Str.ofString "0" = sA #[48] := by decide +kernel
theorem lit5 : Str.ofString ":" = sA #[58] := by decide +kernel
theorem lit6 : Str.ofString "GMT" = sA #[71, 77, 84] := by decide +kernel
theorem lit7 : Str.ofString "UTC" = sA #[85, 84, 67] := by decide +kernel
theorem lit8 : Str.ofString "UT" = sA #[85, 84] := by decide +kernel
theorem lit9 : Str.ofString "Z" = sA #[90] := by decide +kernel
theorem digs : ∀ d : Fin 8, Str.ofString (toString (d.val : Int)) = sA #[48 + d.val] := by decide +kernel
def outA (x : PySem.Str) : Bool := !(sA #[71, 77, 84] == x) && (!(sA #[85, 84, 67] == x) && (!(sA #[85, 84] == x) && !(sA #[90] == x)))
theorem outA_eq (x : PySem.Str) : outZ x = outA x := by unfold outZ outA; rw [lit6, lit7, lit8, lit9]
/-- what the groups of a match say -/
def zoneG (x : PySem.Str) (m : Sre.M) : Option (Bool × Int × Int) := match grpM x m 2, grpM x m 3 with
    | some a, some b => match PySem.intText? a, PySem.intText? b with
      | some h, some k => if Nat.ble a.length 600 && (Nat.ble b.length 600 && (Nat.ble 1 b.length && ((match grpM x m 1 with | some c => Nat.ble c.length 600 | none => true) && (Nat.ble h.toNat 99 && Nat.ble k.toNat 99)))) then some ((match grpM x m 1 with | some c => c == sA #[45] | none => false), h, k) else none
      | _, _ => none
    | _, _ => none
theorem runFor_stop {m : Sre.M} (h : m.outcome.isSome = true) : ∀ n, m.runFor n = m
  | 0 => rfl
  | n + 1 => by unfold Sre.M.runFor; rw [if_pos h]
theorem runFor_add (m : Sre.M) : ∀ a b, m.runFor (a + b) = (m.runFor a).runFor b := by
  intro a
  induction a generalizing m with
  | zero => intro b; rw [Nat.zero_add]; rfl
  | succ a ih =>
    intro b
    rw [show a + 1 + b = (a + b) + 1 by omega]
    by_cases h : m.outcome.isSome = true
    · rw [runFor_stop h, runFor_stop h, runFor_stop h]
    · rw [Sre.M.runFor, if_neg h, ih, Sre.M.runFor, if_neg h]
theorem drv_run : ∀ (k n : Nat) (m : Sre.M), (m.runFor n).outcome.isSome = true → n ≤ 4 * k → 0 < k → drv k m = some (m.runFor n)
  | 0, _, _, _, _, h => absurd h (by decide)
  | k + 1, n, m, h, hn, _ => by
    unfold drv
    cases e : (m.runFor 4).outcome with
    | some o =>
      dsimp only
      by_cases h4 : n ≤ 4
      · have e2 : m.runFor 4 = (m.runFor n).runFor (4 - n) := by rw [← runFor_add]; congr 1; omega
        rw [e2, runFor_stop h]
      · have e2 : m.runFor n = (m.runFor 4).runFor (n - 4) := by rw [← runFor_add]; congr 1; omega
        rw [e2, runFor_stop (m := m.runFor 4) (by rw [e]; rfl)]
    | none =>
      dsimp only
      have h4 : 4 < n := by
        refine Nat.lt_of_not_le fun h4 => ?_
        have e2 : m.runFor 4 = (m.runFor n).runFor (4 - n) := by rw [← runFor_add]; congr 1; omega
        rw [e2, runFor_stop h] at e
        rw [e] at h; cases h
      have e2 : m.runFor n = (m.runFor 4).runFor (n - 4) := by rw [← runFor_add]; congr 1; omega
      rw [e2]
      exact drv_run k (n - 4) (m.runFor 4) (by rw [← e2]; exact h) (by omega) (by omega)
def textOk (x : PySem.Str) (neg : Bool) (h k : Int) : Bool :=
  outA x && ((startZ x).runFor 44).outcome.isSome && okM ((startZ x).runFor 44) && decide (zoneG x ((startZ x).runFor 44) = some (neg, h, k))
theorem textOk_of {x : PySem.Str} {neg : Bool} {h k : Int} (ho : textOk x neg h k = true) (h0 : 0 ≤ h ∧ 0 ≤ k) : tzV x = some (if neg = true then -(3600 * h + 60 * k) else 3600 * h + 60 * k) := by
  unfold textOk at ho
  simp only [Bool.and_eq_true, decide_eq_true_eq] at ho
  obtain ⟨⟨⟨h1, h2⟩, h3⟩, h4⟩ := ho
  have e1 : seekZ x = some ((startZ x).runFor 44) := by
    unfold seekZ
    rw [drv_run 40 44 _ h2 (by decide) (by decide)]
    dsimp only
    rw [if_pos h3]
  have e2 : zoneFacts x = some (neg, h, k) := by
    rw [← h4]
    unfold zoneFacts zoneG
    rw [e1]
    dsimp only
    rw [lit1]
    all_goals rfl
  unfold tzV
  rw [outA_eq, if_pos h1, e2]
  dsimp only
  rw [if_pos h0]
def textB (sg pad h col k : Nat) : PySem.Str := sA (List.toArray ([[], [43], [45]].getD sg [] ++ ([[], [48]].getD pad [] ++ (48 + h) :: ([[58], []].getD col [] ++ [48, 48 + k]))))
def variantsOk (h : Int) (k : Nat) : Bool := (List.range 2).all fun pad => (List.range 2).all fun col =>
  if h < 0 then textOk (textB 2 pad h.natAbs col k) true (-h) k else textOk (textB 0 pad h.natAbs col k) false h k && textOk (textB 1 pad h.natAbs col k) false h k
theorem abs_dig {h : Int} (hb : h.natAbs ≤ 7) : Str.ofString (toString (if h < 0 then -h else h)) = sA #[48 + h.natAbs] := by
  have e : (if h < 0 then -h else h) = (((⟨h.natAbs, by omega⟩ : Fin 8).val : Nat) : Int) := by
    show (if h < 0 then -h else h) = (h.natAbs : Int)
    split <;> omega
  rw [e, digs]
theorem k_dig {k : Nat} (hb : k ≤ 7) : Str.ofString (toString (k : Int)) = sA #[48 + k] := digs ⟨k, by omega⟩
theorem two_of {n : Int} : (n.fmod 2).toNat = 0 ∨ (n.fmod 2).toNat = 1 := by
  rw [Int.fmod_eq_emod_of_nonneg _ (by decide)]; omega
theorem zone_neg {h y : Int} {k : Nat} (hn : h < 0) (hb : h.natAbs ≤ 7) (hk : k ≤ 7) : zoneP h k y = textB 2 ((y.fdiv 2).fmod 2).toNat h.natAbs ((y.fdiv 4).fmod 2).toNat k := by
  unfold zoneP clockP textB
  rw [if_neg (by omega), if_pos hn, abs_dig hb, k_dig hk, lit1, lit3, lit4, lit5]
  rcases two_of (n := y.fdiv 2) with e | e <;> rcases two_of (n := y.fdiv 4) with e2 | e2 <;> rw [e, e2] <;> rfl
theorem zone_pos {h y : Int} {k : Nat} (hn : 0 < h) (hb : h.natAbs ≤ 7) (hk : k ≤ 7) : zoneP h k y = textB (y.fmod 2).toNat ((y.fdiv 2).fmod 2).toNat h.natAbs ((y.fdiv 4).fmod 2).toNat k := by
  unfold zoneP clockP textB
  rw [if_neg (by omega), if_neg (by omega), abs_dig hb, k_dig hk, lit2, lit3, lit4, lit5]
  rcases two_of (n := y) with e0 | e0 <;> rcases two_of (n := y.fdiv 2) with e | e <;> rcases two_of (n := y.fdiv 4) with e2 | e2 <;> rw [e0, e, e2] <;> rfl
theorem zone_nul {y : Int} : tzV (zoneP 0 0 y) = some (toldZ 0 0) := by
  have h4 : (y.fmod 4).toNat < 4 := by rw [Int.fmod_eq_emod_of_nonneg _ (by decide)]; omega
  unfold zoneP
  rw [if_pos rfl, lit6, lit7, lit8, lit9]
  generalize (y.fmod 4).toNat = n at h4
  have h5 : n = 0 ∨ n = 1 ∨ n = 2 ∨ n = 3 := by omega
  unfold tzV
  rw [outA_eq]
  rcases h5 with rfl | rfl | rfl | rfl <;> rfl
theorem tz_pair {h : Int} {k : Nat} (hn : h ≠ 0) (hb : h.natAbs ≤ 7) (hk : k ≤ 7) (hv : variantsOk h k = true) (y : Int) : tzV (zoneP h k y) = some (toldZ h k) := by
  unfold variantsOk at hv
  have hp : ((y.fdiv 2).fmod 2).toNat < 2 := by rcases two_of (n := y.fdiv 2) with e | e <;> omega
  have hc : ((y.fdiv 4).fmod 2).toNat < 2 := by rcases two_of (n := y.fdiv 4) with e | e <;> omega
  have hv := List.all_eq_true.mp (List.all_eq_true.mp hv _ (List.mem_range.mpr hp)) _ (List.mem_range.mpr hc)
  by_cases hl : h < 0
  · rw [if_pos hl] at hv
    rw [zone_neg hl hb hk, textOk_of hv ⟨by omega, by omega⟩]
    unfold toldZ
    rw [if_neg hn, if_pos hl, if_pos rfl]
    congr 1; omega
  · rw [if_neg hl, Bool.and_eq_true] at hv
    rw [zone_pos (by omega) hb hk]
    unfold toldZ
    rw [if_neg hn, if_neg hl]
    rcases two_of (n := y) with e | e
    · rw [e, textOk_of hv.1 ⟨by omega, by omega⟩, if_neg Bool.false_ne_true]
    · rw [e, textOk_of hv.2 ⟨by omega, by omega⟩, if_neg Bool.false_ne_true]
theorem txt_m7 : ([4].all fun k => variantsOk (-7) k) = true := by decide +kernel
theorem txt_m6 : ([1, 3, 4].all fun k => variantsOk (-6) k) = true := by decide +kernel
theorem txt_m5 : ([2, 3, 4, 5].all fun k => variantsOk (-5) k) = true := by decide +kernel
theorem txt_m4 : ([1, 2, 3, 4, 5].all fun k => variantsOk (-4) k) = true := by decide +kernel
theorem txt_m3 : ([1, 2, 3, 4, 5, 6].all fun k => variantsOk (-3) k) = true := by decide +kernel
theorem txt_m2 : ([1, 2, 3, 4, 5].all fun k => variantsOk (-2) k) = true := by decide +kernel
theorem txt_m1 : ([1, 2, 3, 4, 5, 6, 7].all fun k => variantsOk (-1) k) = true := by decide +kernel
theorem txt_p1 : ([1, 2, 3, 4, 5, 6, 7].all fun k => variantsOk (1) k) = true := by decide +kernel
theorem txt_p2 : ([1, 2, 3, 4, 5, 6, 7].all fun k => variantsOk (2) k) = true := by decide +kernel
theorem txt_p3 : ([1, 2, 3, 4, 5, 6].all fun k => variantsOk (3) k) = true := by decide +kernel
theorem txt_p4 : ([1, 2, 3, 4, 5, 6, 7].all fun k => variantsOk (4) k) = true := by decide +kernel
theorem txt_p5 : ([1, 2, 3, 4, 5, 6].all fun k => variantsOk (5) k) = true := by decide +kernel
theorem txt_p6 : ([2, 3, 5, 6].all fun k => variantsOk (6) k) = true := by decide +kernel
theorem txt_p7 : ([1, 2, 4, 7].all fun k => variantsOk (7) k) = true := by decide +kernel
theorem zonesAll : ∀ p ∈ pairsL, ∀ y : Int, 0 ≤ y → tzV (zoneP p.1 p.2 y) = some (toldZ p.1 p.2) := by
  unfold pairsL
  refine List.forall_mem_cons.2 ⟨fun y _ => tz_pair (k := 4) (by decide) (by decide) (by decide) (List.all_eq_true.mp txt_m7 4 (by decide)) y, ?_⟩
  refine List.forall_mem_cons.2 ⟨fun y _ => tz_pair (k := 1) (by decide) (by decide) (by decide) (List.all_eq_true.mp txt_m6 1 (by decide)) y, ?_⟩
  refine List.forall_mem_cons.2 ⟨fun y _ => tz_pair (k := 3) (by decide) (by decide) (by decide) (List.all_eq_true.mp txt_m6 3 (by decide)) y, ?_⟩
  refine List.forall_mem_cons.2 ⟨fun y _ => tz_pair (k := 4) (by decide) (by decide) (by decide) (List.all_eq_true.mp txt_m6 4 (by decide)) y, ?_⟩
  refine List.forall_mem_cons.2 ⟨fun y _ => tz_pair (k := 2) (by decide) (by decide) (by decide) (List.all_eq_true.mp txt_m5 2 (by decide)) y, ?_⟩
  refine List.forall_mem_cons.2 ⟨fun y _ => tz_pair (k := 3) (by decide) (by decide) (by decide) (List.all_eq_true.mp txt_m5 3 (by decide)) y, ?_⟩
  refine List.forall_mem_cons.2 ⟨fun y _ => tz_pair (k := 4) (by decide) (by decide) (by decide) (List.all_eq_true.mp txt_m5 4 (by decide)) y, ?_⟩
  refine List.forall_mem_cons.2 ⟨fun y _ => tz_pair (k := 5) (by decide) (by decide) (by decide) (List.all_eq_true.mp txt_m5 5 (by decide)) y, ?_⟩
  refine List.forall_mem_cons.2 ⟨fun y _ => tz_pair (k := 1) (by decide) (by decide) (by decide) (List.all_eq_true.mp txt_m4 1 (by decide)) y, ?_⟩
  refine List.forall_mem_cons.2 ⟨fun y _ => tz_pair (k := 2) (by decide) (by decide) (by decide) (List.all_eq_true.mp txt_m4 2 (by decide)) y, ?_⟩
  refine List.forall_mem_cons.2 ⟨fun y _ => tz_pair (k := 3) (by decide) (by decide) (by decide) (List.all_eq_true.mp txt_m4 3 (by decide)) y, ?_⟩
  refine List.forall_mem_cons.2 ⟨fun y _ => tz_pair (k := 4) (by decide) (by decide) (by decide) (List.all_eq_true.mp txt_m4 4 (by decide)) y, ?_⟩
  refine List.forall_mem_cons.2 ⟨fun y _ => tz_pair (k := 5) (by decide) (by decide) (by decide) (List.all_eq_true.mp txt_m4 5 (by decide)) y, ?_⟩
  refine List.forall_mem_cons.2 ⟨fun y _ => tz_pair (k := 1) (by decide) (by decide) (by decide) (List.all_eq_true.mp txt_m3 1 (by decide)) y, ?_⟩
  refine List.forall_mem_cons.2 ⟨fun y _ => tz_pair (k := 2) (by decide) (by decide) (by decide) (List.all_eq_true.mp txt_m3 2 (by decide)) y, ?_⟩
  refine List.forall_mem_cons.2 ⟨fun y _ => tz_pair (k := 3) (by decide) (by decide) (by decide) (List.all_eq_true.mp txt_m3 3 (by decide)) y, ?_⟩
  refine List.forall_mem_cons.2 ⟨fun y _ => tz_pair (k := 4) (by decide) (by decide) (by decide) (List.all_eq_true.mp txt_m3 4 (by decide)) y, ?_⟩
  refine List.forall_mem_cons.2 ⟨fun y _ => tz_pair (k := 5) (by decide) (by decide) (by decide) (List.all_eq_true.mp txt_m3 5 (by decide)) y, ?_⟩
  refine List.forall_mem_cons.2 ⟨fun y _ => tz_pair (k := 6) (by decide) (by decide) (by decide) (List.all_eq_true.mp txt_m3 6 (by decide)) y, ?_⟩
  refine List.forall_mem_cons.2 ⟨fun y _ => tz_pair (k := 1) (by decide) (by decide) (by decide) (List.all_eq_true.mp txt_m2 1 (by decide)) y, ?_⟩
  refine List.forall_mem_cons.2 ⟨fun y _ => tz_pair (k := 2) (by decide) (by decide) (by decide) (List.all_eq_true.mp txt_m2 2 (by decide)) y, ?_⟩
  refine List.forall_mem_cons.2 ⟨fun y _ => tz_pair (k := 3) (by decide) (by decide) (by decide) (List.all_eq_true.mp txt_m2 3 (by decide)) y, ?_⟩
  refine List.forall_mem_cons.2 ⟨fun y _ => tz_pair (k := 4) (by decide) (by decide) (by decide) (List.all_eq_true.mp txt_m2 4 (by decide)) y, ?_⟩
  refine List.forall_mem_cons.2 ⟨fun y _ => tz_pair (k := 5) (by decide) (by decide) (by decide) (List.all_eq_true.mp txt_m2 5 (by decide)) y, ?_⟩
  refine List.forall_mem_cons.2 ⟨fun y _ => tz_pair (k := 1) (by decide) (by decide) (by decide) (List.all_eq_true.mp txt_m1 1 (by decide)) y, ?_⟩
  refine List.forall_mem_cons.2 ⟨fun y _ => tz_pair (k := 2) (by decide) (by decide) (by decide) (List.all_eq_true.mp txt_m1 2 (by decide)) y, ?_⟩
  refine List.forall_mem_cons.2 ⟨fun y _ => tz_pair (k := 3) (by decide) (by decide) (by decide) (List.all_eq_true.mp txt_m1 3 (by decide)) y, ?_⟩
  refine List.forall_mem_cons.2 ⟨fun y _ => tz_pair (k := 4) (by decide) (by decide) (by decide) (List.all_eq_true.mp txt_m1 4 (by decide)) y, ?_⟩
  refine List.forall_mem_cons.2 ⟨fun y _ => tz_pair (k := 5) (by decide) (by decide) (by decide) (List.all_eq_true.mp txt_m1 5 (by decide)) y, ?_⟩
  refine List.forall_mem_cons.2 ⟨fun y _ => tz_pair (k := 6) (by decide) (by decide) (by decide) (List.all_eq_true.mp txt_m1 6 (by decide)) y, ?_⟩
  refine List.forall_mem_cons.2 ⟨fun y _ => tz_pair (k := 7) (by decide) (by decide) (by decide) (List.all_eq_true.mp txt_m1 7 (by decide)) y, ?_⟩
  refine List.forall_mem_cons.2 ⟨fun y _ => zone_nul, ?_⟩
  refine List.forall_mem_cons.2 ⟨fun y _ => tz_pair (k := 1) (by decide) (by decide) (by decide) (List.all_eq_true.mp txt_p1 1 (by decide)) y, ?_⟩
  refine List.forall_mem_cons.2 ⟨fun y _ => tz_pair (k := 2) (by decide) (by decide) (by decide) (List.all_eq_true.mp txt_p1 2 (by decide)) y, ?_⟩
  refine List.forall_mem_cons.2 ⟨fun y _ => tz_pair (k := 3) (by decide) (by decide) (by decide) (List.all_eq_true.mp txt_p1 3 (by decide)) y, ?_⟩
  refine List.forall_mem_cons.2 ⟨fun y _ => tz_pair (k := 4) (by decide) (by decide) (by decide) (List.all_eq_true.mp txt_p1 4 (by decide)) y, ?_⟩
  refine List.forall_mem_cons.2 ⟨fun y _ => tz_pair (k := 5) (by decide) (by decide) (by decide) (List.all_eq_true.mp txt_p1 5 (by decide)) y, ?_⟩
  refine List.forall_mem_cons.2 ⟨fun y _ => tz_pair (k := 6) (by decide) (by decide) (by decide) (List.all_eq_true.mp txt_p1 6 (by decide)) y, ?_⟩
  refine List.forall_mem_cons.2 ⟨fun y _ => tz_pair (k := 7) (by decide) (by decide) (by decide) (List.all_eq_true.mp txt_p1 7 (by decide)) y, ?_⟩
  refine List.forall_mem_cons.2 ⟨fun y _ => tz_pair (k := 1) (by decide) (by decide) (by decide) (List.all_eq_true.mp txt_p2 1 (by decide)) y, ?_⟩
  refine List.forall_mem_cons.2 ⟨fun y _ => tz_pair (k := 2) (by decide) (by decide) (by decide) (List.all_eq_true.mp txt_p2 2 (by decide)) y, ?_⟩
  refine List.forall_mem_cons.2 ⟨fun y _ => tz_pair (k := 3) (by decide) (by decide) (by decide) (List.all_eq_true.mp txt_p2 3 (by decide)) y, ?_⟩
  refine List.forall_mem_cons.2 ⟨fun y _ => tz_pair (k := 4) (by decide) (by decide) (by decide) (List.all_eq_true.mp txt_p2 4 (by decide)) y, ?_⟩
  refine List.forall_mem_cons.2 ⟨fun y _ => tz_pair (k := 5) (by decide) (by decide) (by decide) (List.all_eq_true.mp txt_p2 5 (by decide)) y, ?_⟩
  refine List.forall_mem_cons.2 ⟨fun y _ => tz_pair (k := 6) (by decide) (by decide) (by decide) (List.all_eq_true.mp txt_p2 6 (by decide)) y, ?_⟩
  refine List.forall_mem_cons.2 ⟨fun y _ => tz_pair (k := 7) (by decide) (by decide) (by decide) (List.all_eq_true.mp txt_p2 7 (by decide)) y, ?_⟩
  refine List.forall_mem_cons.2 ⟨fun y _ => tz_pair (k := 1) (by decide) (by decide) (by decide) (List.all_eq_true.mp txt_p3 1 (by decide)) y, ?_⟩
  refine List.forall_mem_cons.2 ⟨fun y _ => tz_pair (k := 2) (by decide) (by decide) (by decide) (List.all_eq_true.mp txt_p3 2 (by decide)) y, ?_⟩
  refine List.forall_mem_cons.2 ⟨fun y _ => tz_pair (k := 3) (by decide) (by decide) (by decide) (List.all_eq_true.mp txt_p3 3 (by decide)) y, ?_⟩
  refine List.forall_mem_cons.2 ⟨fun y _ => tz_pair (k := 4) (by decide) (by decide) (by decide) (List.all_eq_true.mp txt_p3 4 (by decide)) y, ?_⟩
  refine List.forall_mem_cons.2 ⟨fun y _ => tz_pair (k := 5) (by decide) (by decide) (by decide) (List.all_eq_true.mp txt_p3 5 (by decide)) y, ?_⟩
  refine List.forall_mem_cons.2 ⟨fun y _ => tz_pair (k := 6) (by decide) (by decide) (by decide) (List.all_eq_true.mp txt_p3 6 (by decide)) y, ?_⟩
  refine List.forall_mem_cons.2 ⟨fun y _ => tz_pair (k := 1) (by decide) (by decide) (by decide) (List.all_eq_true.mp txt_p4 1 (by decide)) y, ?_⟩
  refine List.forall_mem_cons.2 ⟨fun y _ => tz_pair (k := 2) (by decide) (by decide) (by decide) (List.all_eq_true.mp txt_p4 2 (by decide)) y, ?_⟩
  refine List.forall_mem_cons.2 ⟨fun y _ => tz_pair (k := 3) (by decide) (by decide) (by decide) (List.all_eq_true.mp txt_p4 3 (by decide)) y, ?_⟩
  refine List.forall_mem_cons.2 ⟨fun y _ => tz_pair (k := 4) (by decide) (by decide) (by decide) (List.all_eq_true.mp txt_p4 4 (by decide)) y, ?_⟩
  refine List.forall_mem_cons.2 ⟨fun y _ => tz_pair (k := 5) (by decide) (by decide) (by decide) (List.all_eq_true.mp txt_p4 5 (by decide)) y, ?_⟩
  refine List.forall_mem_cons.2 ⟨fun y _ => tz_pair (k := 6) (by decide) (by decide) (by decide) (List.all_eq_true.mp txt_p4 6 (by decide)) y, ?_⟩
  refine List.forall_mem_cons.2 ⟨fun y _ => tz_pair (k := 7) (by decide) (by decide) (by decide) (List.all_eq_true.mp txt_p4 7 (by decide)) y, ?_⟩
  refine List.forall_mem_cons.2 ⟨fun y _ => tz_pair (k := 1) (by decide) (by decide) (by decide) (List.all_eq_true.mp txt_p5 1 (by decide)) y, ?_⟩
  refine List.forall_mem_cons.2 ⟨fun y _ => tz_pair (k := 2) (by decide) (by decide) (by decide) (List.all_eq_true.mp txt_p5 2 (by decide)) y, ?_⟩
  refine List.forall_mem_cons.2 ⟨fun y _ => tz_pair (k := 3) (by decide) (by decide) (by decide) (List.all_eq_true.mp txt_p5 3 (by decide)) y, ?_⟩
  refine List.forall_mem_cons.2 ⟨fun y _ => tz_pair (k := 4) (by decide) (by decide) (by decide) (List.all_eq_true.mp txt_p5 4 (by decide)) y, ?_⟩
  refine List.forall_mem_cons.2 ⟨fun y _ => tz_pair (k := 5) (by decide) (by decide) (by decide) (List.all_eq_true.mp txt_p5 5 (by decide)) y, ?_⟩
  refine List.forall_mem_cons.2 ⟨fun y _ => tz_pair (k := 6) (by decide) (by decide) (by decide) (List.all_eq_true.mp txt_p5 6 (by decide)) y, ?_⟩
  refine List.forall_mem_cons.2 ⟨fun y _ => tz_pair (k := 2) (by decide) (by decide) (by decide) (List.all_eq_true.mp txt_p6 2 (by decide)) y, ?_⟩
  refine List.forall_mem_cons.2 ⟨fun y _ => tz_pair (k := 3) (by decide) (by decide) (by decide) (List.all_eq_true.mp txt_p6 3 (by decide)) y, ?_⟩
  refine List.forall_mem_cons.2 ⟨fun y _ => tz_pair (k := 5) (by decide) (by decide) (by decide) (List.all_eq_true.mp txt_p6 5 (by decide)) y, ?_⟩
  refine List.forall_mem_cons.2 ⟨fun y _ => tz_pair (k := 6) (by decide) (by decide) (by decide) (List.all_eq_true.mp txt_p6 6 (by decide)) y, ?_⟩
  refine List.forall_mem_cons.2 ⟨fun y _ => tz_pair (k := 1) (by decide) (by decide) (by decide) (List.all_eq_true.mp txt_p7 1 (by decide)) y, ?_⟩
  refine List.forall_mem_cons.2 ⟨fun y _ => tz_pair (k := 2) (by decide) (by decide) (by decide) (List.all_eq_true.mp txt_p7 2 (by decide)) y, ?_⟩
  refine List.forall_mem_cons.2 ⟨fun y _ => tz_pair (k := 4) (by decide) (by decide) (by decide) (List.all_eq_true.mp txt_p7 4 (by decide)) y, ?_⟩
  refine List.forall_mem_cons.2 ⟨fun y _ => tz_pair (k := 7) (by decide) (by decide) (by decide) (List.all_eq_true.mp txt_p7 7 (by decide)) y, ?_⟩
  exact fun _ h => nomatch h
end Mine
end
/- part Fs -/
section
open PySem.Calls
set_option Elab.async false
set_option maxRecDepth 100000
namespace Mine
theorem readAll (n : Int) (h0 : 0 ≤ n) (h1 : n ≤ 60) : readP n = some (readT n) := by
  have := readR ⟨n.toNat, by omega⟩
  rw [show (((⟨n.toNat, by omega⟩ : Fin 61).val : Nat) : Int) = n from Int.toNat_of_nonneg h0] at this
  split at this
  · rename_i x hx
    rw [hx, beq_iff_eq.mp this]
  · cases this
theorem odd_some {r z : Int} (h : (oddRun 60 r z 3 0).isSome = true) : oddRun 60 r z 3 0 = some (sgOf r z) := by
  unfold sgOf
  cases e : oddRun 60 r z 3 0 with
  | none => rw [e] at h; cases h
  | some x => rfl
theorem selAll {za fb : Int} (h7 : 0 ≤ za ∧ za ≤ 6) (h8 : 0 ≤ fb ∧ fb ≤ 7) : ∃ r sg, ShI (3 + za * 2) r (1 + fb * 2) ∧ (∃ n, oddRun n r (3 + za * 2) 3 0 = some sg) ∧ LawFacts (3 + za * 2) r sg := by
  have ea : (((⟨za.toNat, by omega⟩ : Fin 7).val : Nat) : Int) = za := Int.toNat_of_nonneg h7.1
  have eb : (((⟨fb.toNat, by omega⟩ : Fin 8).val : Nat) : Int) = fb := Int.toNat_of_nonneg h8.1
  have s1 := selP ⟨za.toNat, by omega⟩ ⟨fb.toNat, by omega⟩
  have s2 := okIs ⟨za.toNat, by omega⟩
  have s3 := okBs ⟨za.toNat, by omega⟩
  have s4 := coverA ⟨za.toNat, by omega⟩
  have s5 := coverC ⟨za.toNat, by omega⟩
  rw [ea] at s1 s2 s3 s4 s5
  rw [eb] at s1
  generalize 3 + za * 2 = z at s1 s2 s3 s4 s5
  split at s1
  · rename_i r hr
    simp only [Bool.and_eq_true, List.contains_iff_mem] at s1
    obtain ⟨⟨hm, o1⟩, o2⟩ := s1
    have c1 := List.all_eq_true.mp (List.all_eq_true.mp s4 r hm)
    have c2 := List.all_eq_true.mp (List.all_eq_true.mp s5 r hm)
    exact ⟨r, sgOf r z, ⟨30, hr⟩, ⟨60, odd_some o1⟩, lawFacts_of (fun i hi => colA _ _ (c1 i (List.mem_range.mpr hi))) (fun i hi => colC _ _ (c2 i (List.mem_range.mpr hi)))
      (List.all_eq_true.mp s2 r hm) (List.all_eq_true.mp s3 r hm) zonesAll ⟨60, odd_some o2⟩ readAll⟩
  · cases s1
end Mine
end
/- part Law2 -/
section
open PySem.Calls
open Sem (wp)
set_option Elab.async false
set_option maxRecDepth 100000
namespace Mine
local macro_rules | `(tactic| walk_at "subscriptTail List cons Slice ref ref") => `(tactic| (k_here; (refine kba_turn (value' := PySem.Expr.Name (PySem.Str.ofString "_") ⟨0, 0, 0, 0⟩) (fun _ => rfl) ?_); k_dflt (refine' kmk_slice_ints ?wF ?wN ?wl ?wp ?wq ?wi ?wm ?wc ?_ ?ws ?wt ?wz; (case wF => with_reducible assumption); (case wN => with_reducible assumption); (case wl => exact News.isList (by with_reducible assumption) (by k_mem)); (case wp => exact IsPart.int _ _); (case wq => exact IsPart.none); (case wi => l_ints); (case wm => exact kmk_from (by l_ints) (Int.natCast_nonneg _)); (case wc => exact rfl); (case ws => with_unfolding_all rfl); (case wt => kmk_pure); (case wz => kmk_size)); intro D' ws' h' F' N' l1 hI' hC' hL'; (try k_lt l1); (try k_sweep)))
local macro_rules | `(tactic| walk_at "call ref") => `(tactic| (k_here; (with_reducible show wpAny _ _ (call (Value.ref 125) [Value.int _ _, Value.int _ _]) _ _ _); k_dflt ((refine sp_useA (sp_gcd _ _ _ (by omega) (by omega) _ _) ?_)); tb_rel))
local macro_rules | `(tactic| walk_at "call ref") => `(tactic| (k_here; (with_reducible show wpAny _ _ (call (Value.ref 130) [Value.int _ _, Value.int _ _]) _ _ _); k_dflt ((refine sp_useA (sp_odd _ _ _ _ (by assumption) _ _) ?_)); tb_rel))
theorem wpC_split (n : Nat) {M : Model} {A : Around} {E : Value → Shared → Prop} {s : Shared} {env : Env} {body : List Stmt} {Q : Flow → Shared → Prop}
    (h : wpAny M A (execs (body.take n) env) (fun f s' => match f with | .next => wpC M A (execs (body.drop n) env) Q E s' | f => Q f s') E s) : wpC M A (execs body env) Q E s := by
  have := wpC_execs_app h
  rwa [List.take_append_drop] at this
theorem ds_len (ns : List Int) (f : Int → Int) : (List.map f (List.take 3 ns) ++ List.drop (((List.take 3 ns).length : Nat) : Int).toNat [3, 2, 6]).length = 3 := by
  rw [List.length_append, List.length_map, List.length_drop, Int.toNat_natCast, List.length_take]
  simp only [List.length_cons, List.length_nil]
  omega
theorem ds_in (ns : List Int) : ∀ x ∈ (List.map (fun k' : Int => k'.fmod (10 ^ Int.toNat 6)) (List.take 3 ns) ++ List.drop (((List.take 3 ns).length : Nat) : Int).toNat [3, 2, 6]), 0 ≤ x ∧ x < 1000000 := by
  intro x hx
  rcases List.mem_append.mp hx with h | h
  · obtain ⟨k, _, rfl⟩ := List.mem_map.mp h
    show 0 ≤ k.fmod (10 ^ Int.toNat 6) ∧ k.fmod (10 ^ Int.toNat 6) < 1000000
    rw [show ((10 : Int) ^ Int.toNat 6) = 1000000 by decide, Int.fmod_eq_emod_of_nonneg _ (by decide)]
    omega
  · have := List.mem_of_mem_drop h
    simp only [List.mem_cons, List.not_mem_nil, or_false] at this
    omega
set_option maxHeartbeats 400000 in
theorem cw0 : PySem.Challenge.rw_zo0013_01.Holds := by
  refine hdC (by rfl) (by rfl) (by rfl) ?_
  k_fill
  intro w s₀ s₁ mg mb G Y fa o pm cd doc dV kV ho hd hcd hD hmg hg args vals as hpre hlay hrd hwl hlo
  have KX : (Mine.hd.heap_39 w.params).In s₁.heap := Y
  dsimp only at hd hcd hD ⊢
  have X := (Ground.X G).1
  have V := (Ground.X G).2
  try w_nolog (first | (have GL := glob_more (Ground.glob G (by first | k_qdec | decide +kernel) (by first | k_qdec | decide +kernel)) V) | (have GL := glob_more (Ground.glob G (by decide +kernel)) V))
  refine Ground.open G ?_
  intro T B D TE TW
  try (refine guard_noD D (by decide +kernel) ?_; clear D)
  obtain ⟨_, _, M⟩ := bmod_of_top T
  have TA := at_of_top T
  try (obtain ⟨_, _, he, B0⟩ := based_of_top T rfl hmg ho hd; have he' : cd = _ := he; subst he'; clear he)
  clear hmg
  wrow_args hpre hlay hrd hwl hlo
  all_goals (
    refine enter_callS ?_
    w_top on
    have K0 := below_caller (Top.heap T)
    have he := Dflts.none hD rfl; subst he; have he := Dflts.noKw hD; subst he
    refine call_cellsS (by decide) ho (fd_plain hd) (Top.nolimit T) hcd rfl (kinds_of (by kinds_ok)) (by decide) fun h₁ tk₁ cells F N0 X0 => ?_
    cells_open X0
    clear hd TA hD
    k_drop)
  have F2 : Fr s₁.heap s₁.heap.objs.size h₁ (fun y => if y = "script" then some (.ref _) else none) := F
  rename Obj.data _ = Data.cell _ => right
  have cell0 : Obj.data _ = Data.cell none := right
  clear F right X0
  refine wpC_split 3 ?_
  dsimp only [List.take_succ_cons, List.take_zero, List.drop_succ_cons, List.drop_zero]
  k_fold
  k_steps
  simp only [List.drop_succ_cons, List.drop_zero]
  rename List Int => ns
  have hL0 : True := trivial
  generalize hds : List.map (fun k' : Int => k'.fmod (10 ^ Int.toNat 6)) (List.take 3 ns) ++ List.drop (↑(List.take 3 ns).length : Int).toNat [3, 2, 6] = ds at *
  have hb7 : 0 ≤ (ds.getD (Int.toNat 0) 0).fmod 7 ∧ (ds.getD (Int.toNat 0) 0).fmod 7 ≤ 6 := by
    rw [Int.fmod_eq_emod_of_nonneg _ (by decide)]; omega
  have hb8 : 0 ≤ (ds.getD (Int.toNat 1) 0).fmod 8 ∧ (ds.getD (Int.toNat 1) 0).fmod 8 ≤ 7 := by
    rw [Int.fmod_eq_emod_of_nonneg _ (by decide)]; omega
  generalize hza : (ds.getD (Int.toNat 0) 0).fmod 7 = za at *
  generalize hfb : (ds.getD (Int.toNat 1) 0).fmod 8 = fb at *
  obtain ⟨r, sg, hr9, hod, LF⟩ := selAll hb7 hb8
  have hAA : ∀ (cs : Scope) (cv : Value), callerA.deeper (envOfC (PySem.Str.ofString "law") cs s₁.heap.objs.size fa cv) = ktrTop (1 + claimMargin + 1) 7 (some []) (PySem.Str.ofString "law") cs s₁.heap.objs.size fa cv (cellsFrom (s₁.heap.objs.size + 1) cs.names []) [] := fun _ _ => rfl
  rw [hAA]
  clear hAA
  have hMk9 := kstMark
  refine wpC_execs_cons (wpC_of_any ?_)
  k_with "state" => first | exact ⟨by omega, hr9⟩ | exact ShI.next (by assumption) (by assumption) (by assumption) (by assumption)
  k_with "measure" => (have hm9 := ShI.next (by assumption) (by assumption) (by assumption) (by assumption); omega)
  k_with "exec While Compare cons nil" => k_while (fun _ f => (0 < f ∧ f ≤ 40) ∧ ShI (3 + za * 2) r f) (fun _ f => (40 - f).toNat) "factor"
  k_fold
  k_steps
  k_with_none
  rename ShI (3 + za * 2) r _ => hS
  have hfr := ShI.fin hS (by first | assumption | omega)
  subst hfr
  refine wpC_split 4 ?_
  simp only [List.take_succ_cons, List.take_zero, List.drop_succ_cons, List.drop_zero]
  k_fold
  k_steps
  rename Fr _ _ _ _ => F9
  rename News _ _ _ _ => N9
  have hdl : ds.length = 3 := by rw [← hds]; exact ds_len _ _
  have hdi : ∀ x ∈ ds, 0 ≤ x ∧ x < 1000000 := by rw [← hds]; exact ds_in _
  have hd2 : 0 ≤ ds.getD (Int.toNat 2) 0 ∧ ds.getD (Int.toNat 2) 0 < 1000000 := by
    rw [List.getD_eq_getElem?_getD, List.getElem?_eq_getElem (by rw [hdl]; decide)]
    exact hdi _ (List.getElem_mem _)
  clear hdi
  have LX : LawX w (ExcName.means s₀.heap) mg mb s₁.heap := ⟨KX, X, V, GL, T, B, TE, TW, K0⟩
  refine' law_rest w LX LF (fr_name (fr_name (fr_name (fr_name (fr_name (fr_name F9 ?a1) ?a2) ?a3) ?a4) ?a5) ?a6) (cb_drop N9 ?hs) ?hob ?hP ?hD ?hws hdl hd2 ?hE ?fin
  case a1 => with_unfolding_all rfl
  case a2 => with_unfolding_all rfl
  case a3 => with_unfolding_all rfl
  case a4 => with_unfolding_all rfl
  case a5 => with_unfolding_all rfl
  case a6 => with_unfolding_all rfl
  case hs => exact List.forall_mem_cons.2 ⟨by k_mem, List.forall_mem_cons.2 ⟨by k_mem, List.forall_mem_cons.2 ⟨by k_mem, fun _ h => nomatch h⟩⟩⟩
  case hob => assumption
  case hP => refine ltN ?_; omega
  case hD => refine ltN ?_; omega
  case hws => assumption
  case hE => passes_own
  case fin =>
    intro m' h tk F8 N8
    (try dsimp only)
    exact ⟨.inl ⟨.bool true, .bool true, [], rfl, fun _ => rfl, ReadsW.bool true, (by first | kernel_rfl | wrow_post), fun _ => ⟨List.nodup_nil, fun _ hm => (nomatch hm)⟩⟩, .of_keep F8.keep, rfl, .of_eq hg⟩
end Mine
end
theorem PySem.Challenge.cw_zo0013_01_holds : PySem.Challenge.rw_zo0013_01.Holds := by
  exact Mine.cw0
